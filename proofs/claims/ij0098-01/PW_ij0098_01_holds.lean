import PyProof.Rows.All
import Wide.All
import OpenK.AllK
import Wide.FinOn
import Lean
import PySem.Challenge.RW_ij0098_01
open PySem PySem.W PyProof.Rows
set_option Elab.async false
namespace Mine
section
set_option maxRecDepth 100000
set_option maxHeartbeats 8000000
noncomputable def vw : Program := { PySem.Challenge.pw_ij0098_01 with main := { PySem.Challenge.pw_ij0098_01.main with body := PySem.Challenge.pw_ij0098_01.main.body.drop 71 } }
noncomputable def vloose : List Str := [Str.ofString "_wall", Str.ofString "_is_int", Str.ofString "_whole", Str.ofString "islice", Str.ofString "filterfalse", Str.ofString "_parents", Str.ofString "sep", Str.ofString "_kind", Str.ofString "_fspath", Str.ofString "split", Str.ofString "_ancestry", Str.ofString "_difference", Str.ofString "LPAR", Str.ofString "RPAR", Str.ofString "LSQB", Str.ofString "RSQB", Str.ofString "COLON", Str.ofString "COMMA", Str.ofString "SEMI", Str.ofString "PLUS", Str.ofString "MINUS", Str.ofString "STAR", Str.ofString "SLASH", Str.ofString "VBAR", Str.ofString "AMPER", Str.ofString "LESS", Str.ofString "GREATER", Str.ofString "EQUAL", Str.ofString "DOT", Str.ofString "PERCENT", Str.ofString "LBRACE", Str.ofString "RBRACE", Str.ofString "EQEQUAL", Str.ofString "NOTEQUAL", Str.ofString "LESSEQUAL", Str.ofString "GREATEREQUAL", Str.ofString "TILDE", Str.ofString "CIRCUMFLEX", Str.ofString "LEFTSHIFT", Str.ofString "RIGHTSHIFT", Str.ofString "DOUBLESTAR", Str.ofString "PLUSEQUAL", Str.ofString "MINEQUAL", Str.ofString "STAREQUAL", Str.ofString "SLASHEQUAL", Str.ofString "PERCENTEQUAL", Str.ofString "AMPEREQUAL", Str.ofString "VBAREQUAL", Str.ofString "CIRCUMFLEXEQUAL", Str.ofString "LEFTSHIFTEQUAL", Str.ofString "RIGHTSHIFTEQUAL", Str.ofString "DOUBLESTAREQUAL", Str.ofString "DOUBLESLASH", Str.ofString "DOUBLESLASHEQUAL", Str.ofString "AT", Str.ofString "ATEQUAL", Str.ofString "RARROW", Str.ofString "ELLIPSIS", Str.ofString "COLONEQUAL", Str.ofString "EXCLAMATION", Str.ofString "NT_OFFSET", Str.ofString "EXACT_TOKEN_TYPES", Str.ofString "ISTERMINAL", Str.ofString "_law_path", Str.ofString "_law_ends"]
/-- the run of the text's top, the heap a tree -/
noncomputable def runT (stp : SharedT → Thread → Option (SharedT × Thread)) (ok : Thread → Bool) : Nat → SharedT → Thread → Option SharedT
  | 0, _, _ => none
  | n + 1, s, t => match through t with
    | true => some s
    | false => match ok t with
      | false => none
      | true => match stp s t with
        | some (s', t') => runT stp ok n s' t'
        | none => none
theorem runT_of {tb : String → Option Builtin} {p : Program} {w : World} {n₀ : Nat} {ann : Option Value} : ∀ {n : Nat} {s s' : SharedT} {t : Thread}, runT (stepT (denote tb) p w) (stepOk n₀ ann) n s t = some s' → topRun tb p w n₀ ann n s.abs t = some s'.abs
  | 0, _, _, _, h => by cases h
  | n + 1, s, s', t, h => by
    unfold runT at h
    unfold topRun
    cases he : through t with
    | true => rw [he] at h; cases h; rfl
    | false =>
      rw [he] at h
      cases hk : stepOk n₀ ann t with
      | false => rw [hk] at h; cases h
      | true =>
        rw [hk] at h
        cases hs : stepT (denote tb) p w s t with
        | none => rw [hs] at h; cases h
        | some r => obtain ⟨s₂, t₂⟩ := r; rw [hs] at h; dsimp only; rw [stepT_spec hs]; exact runT_of h
noncomputable def plant : List Obj → Nat → BT → BT
  | [], _, t => t
  | o :: os, n, t => plant os (n + 1) (t.ins n o)
/-- what the outside leaves at the top's start, a tree -/
noncomputable def bootT (w : World) (os : OsState) : SharedT := ⟨plant (boot_heap w.params).objs.toList 0 .nil, 11, (boot_heap w.params).life, Array.mk [], boot_drawn, boot_toks, os⟩
theorem bootT_abs (w : World) (os : OsState) : (bootT w os).abs = ⟨boot_heap w.params, Array.mk [], boot_drawn, boot_toks, os⟩ := by kernel_rfl
theorem boot_size (P : Params) : (boot_heap P).objs.size = 11 := by kernel_rfl
theorem boot_ann (P : Params) : (boot_heap P).nsMap mainGlobals "__annotations__" = some (Value.ref 6) := by kernel_rfl
theorem boot_main (P : Params) : (boot_heap P).isNs mainGlobals = true := by kernel_rfl
theorem left_tree {p q : Program} {loose : List Str} {Xt : Shared → Bool} {α : Type} {Yf : Shared → α} {Ya : World → α} {N : Nat} (e : opening p = plainProg p.main.scope.names) (hN : Nat.ble 600 N = true) (f : ∀ s, fenceModules? p s = some s)
    (h : ∀ (w : World) (os : OsState), (runT (stepT (denote treeTable) p w) (stepOk 11 (some (Value.ref 6))) N (bootT w os) (topStub p)).map (fun s => (staticsOk (importedModules p.main.body) (boot_heap w.params) s.abs.heap && namesBound p s.abs.heap && gensDone s.abs && laidKept (boot_heap w.params) s.abs.heap, openSeen q loose (importedModules p.main.body) Xt true s.abs, Yf s.abs)) = some (true, openGood q loose, Ya w)) :
    LeftO p q loose Xt Yf Ya N := fun w => by
  have b := boot_open e hN f w
  obtain ⟨s, hs, hv⟩ := Option.map_eq_some_iff.mp b
  obtain ⟨h0, g0, d0, k0, os⟩ := s
  obtain ⟨rfl, rfl, rfl, rfl⟩ : h0 = boot_heap w.params ∧ g0 = Array.mk [] ∧ d0 = boot_drawn ∧ k0 = boot_toks := by simpa using hv
  obtain ⟨z, hz, hw⟩ := Option.map_eq_some_iff.mp (h w os)
  have hr := runT_of hz
  rw [bootT_abs] at hr
  obtain ⟨hc, hl⟩ := Prod.mk.inj hw
  unfold openEnds
  rw [hs]
  show Option.map _ (topFrom treeTable p w N _) = _
  unfold topFrom
  dsimp only
  rw [boot_main, boot_size, boot_ann, hr]
  show Option.map _ (match staticsOk (importedModules p.main.body) (boot_heap w.params) z.abs.heap && namesBound p z.abs.heap && gensDone z.abs && laidKept (boot_heap w.params) z.abs.heap with | true => some z.abs | false => none) = _
  rw [hc]
  exact congrArg some hl
theorem said : OpenLaw.wellSaid PySem.Challenge.rw_ij0098_01 = true := by
  unfold OpenLaw.wellSaid OpenRow.wellSaid OpenRow.partSaid looksOpen
  repeat' with_reducible refine look_both ?_ ?_
  all_goals decide +kernel
section
local macro_rules | `(tactic| o_head $H) => do
  let h := Lean.mkIdent `h
  `(tactic| exact $h $H)
theorem laid (h : ∀ H : Hook, OpenRow.Holds (OpenLaw.row PySem.Challenge.rw_ij0098_01)) : OpenRow.Holds (OpenLaw.row PySem.Challenge.rw_ij0098_01) := by k_head
end
noncomputable def addrs : List Addr := [2, 3, 15, 17, 18, 20, 21, 22, 24, 25, 27, 28, 29, 31, 32, 34, 35, 43, 44, 46, 47, 49, 50, 51, 53, 54, 56, 57, 58, 60, 61, 63, 64, 65, 67, 68, 69, 70, 71, 72, 73, 83, 84, 86, 87, 89, 90, 91, 93, 94, 96, 97, 98, 100, 101, 103, 104, 105, 107, 108, 109, 110, 113, 115, 116, 118, 119, 120, 122, 123, 125, 126, 127, 129, 130, 132, 133, 134, 136, 137, 139, 140, 141, 143, 144, 146, 147, 148, 150, 151, 153, 154, 155, 158, 160, 161, 163, 164, 165, 167, 168, 170, 171, 172, 174, 175, 177, 178, 179, 182, 183]
theorem addrs_eq (P : Params) : addrs = (laid.heap_1 P).map (·.1) := by kernel_rfl
noncomputable def xt0 (s : Shared) : Bool := xlAt vw [] s && recOk (RowW.records (OpenRow.toRowW (OpenLaw.row PySem.Challenge.rw_ij0098_01))) s
theorem side_f (w : World) (os : OsState) : (runT (PySem.W.Fast.tw10156331382660048174 (PySem.W.Fast.tw11892475500146522536 PySem.W.Fast.tw14364793385576792824) PySem.Challenge.pw_ij0098_01 (w.withFollow "special-get-raises" false)) (PySem.W.Fast.tw6613529449190102663 11 (some (Value.ref 6))) 5228 (bootT (w.withFollow "special-get-raises" false) os) (topStub PySem.Challenge.pw_ij0098_01)).map (fun s => (staticsOk (PySem.W.Fast.tw5923862056798008813 PySem.Challenge.pw_ij0098_01.main.body) (boot_heap (w.withFollow "special-get-raises" false).params) s.abs.heap && namesBound PySem.Challenge.pw_ij0098_01 s.abs.heap && gensDone s.abs && laidKept (boot_heap (w.withFollow "special-get-raises" false).params) s.abs.heap,
    PySem.W.Fast.tw4187177175401517315 vw vloose (PySem.W.Fast.tw5923862056798008813 PySem.Challenge.pw_ij0098_01.main.body) xt0 true s.abs, addrs.map s.abs.heap.get?)) = some (true, openGood vw vloose, (laid.heap_1 (w.withFollow "special-get-raises" false).params).map fun p => some p.2) := by kernel_rfl
theorem side_t (w : World) (os : OsState) : (runT (PySem.W.Fast.tw10156331382660048174 (PySem.W.Fast.tw11892475500146522536 PySem.W.Fast.tw14364793385576792824) PySem.Challenge.pw_ij0098_01 (w.withFollow "special-get-raises" true)) (PySem.W.Fast.tw6613529449190102663 11 (some (Value.ref 6))) 5228 (bootT (w.withFollow "special-get-raises" true) os) (topStub PySem.Challenge.pw_ij0098_01)).map (fun s => (staticsOk (PySem.W.Fast.tw5923862056798008813 PySem.Challenge.pw_ij0098_01.main.body) (boot_heap (w.withFollow "special-get-raises" true).params) s.abs.heap && namesBound PySem.Challenge.pw_ij0098_01 s.abs.heap && gensDone s.abs && laidKept (boot_heap (w.withFollow "special-get-raises" true).params) s.abs.heap,
    PySem.W.Fast.tw4187177175401517315 vw vloose (PySem.W.Fast.tw5923862056798008813 PySem.Challenge.pw_ij0098_01.main.body) xt0 true s.abs, addrs.map s.abs.heap.get?)) = some (true, openGood vw vloose, (laid.heap_1 (w.withFollow "special-get-raises" true).params).map fun p => some p.2) := by kernel_rfl
theorem left_law : LeftO (OpenLaw.row PySem.Challenge.rw_ij0098_01).prog vw vloose xt0 (Hook.obs (kHook laid.heap_1 addrs addrs_eq)) (Hook.val (kHook laid.heap_1 addrs addrs_eq)) 5228 :=
  left_tree (p := PySem.Challenge.pw_ij0098_01) (by kernel_rfl) (by decide) (fun s => by kernel_rfl) (byRow2 "special-get-raises"
    (fun w os => by rw [PySem.W.Fast.te10156331382660048174, PySem.W.Fast.te11892475500146522536, PySem.W.Fast.te14364793385576792824, PySem.W.Fast.te6613529449190102663, PySem.W.Fast.te4187177175401517315, PySem.W.Fast.te5923862056798008813]; exact side_f w os)
    (fun w os => by rw [PySem.W.Fast.te10156331382660048174, PySem.W.Fast.te11892475500146522536, PySem.W.Fast.te14364793385576792824, PySem.W.Fast.te6613529449190102663, PySem.W.Fast.te4187177175401517315, PySem.W.Fast.te5923862056798008813]; exact side_t w os))
section
local macro_rules | `(tactic| o_law) => `(tactic| refine holds_law said fun said => ?_)
local macro_rules | `(tactic| k_head) => do
  let hw := Lean.mkIdent `hw
  let hc := Lean.mkIdent `hc
  `(tactic| refine holds_open (q := vw) (loose := vloose) (Xt := xt0) (XP := XL vw []) (YP := Hook.says (kHook laid.heap_1 addrs addrs_eq)) (N := 5228) left_law
    (Hook.of (kHook laid.heap_1 addrs addrs_eq)) (Hook.keeps (kHook laid.heap_1 addrs addrs_eq)) (fun s e => xl_of s (Bool.and_eq_true_iff.mp e).1) XL.keeps (by rfl) (by rfl) (by rfl) (fun s e => recFacts_of (Bool.and_eq_true_iff.mp e).2) (by rfl) (by first | assumption | decide +kernel) (by decide +kernel) ⟨rfl, rfl, rfl, rfl, rfl, by decide +kernel⟩ ?$hw ?$hc)
open_top hd for PySem.Challenge.rw_ij0098_01
end
end
end Mine

open PySem PySem.W PyProof.Rows PySem.Calls PySem.Spec
set_option Elab.async false
set_option maxRecDepth 100000
set_option linter.unusedSimpArgs false
namespace Mine
local macro_rules | `(tactic| k_room) => `(tactic| ktr_room)
local macro_rules | `(tactic| k_units) => `(tactic| ktr_units)

section
open PySem.Builtin.Str
theorem m_bind {m : Str → Option Value} {a : Str} {v : Value} (h : m a = some v) : m = fun z => if z = a then some v else m z := by
  funext z
  by_cases e : z = a
  · rw [if_pos e, e, h]
  · rw [if_neg e]
theorem fr_bind4 {g h : Heap} {L : Addr} {m : Str → Option Value} {a b c d : Str} {va vb vc vd : Value} (F : Fr g L h m) (h1 : m a = some va) (h2 : m b = some vb) (h3 : m c = some vc) (h4 : m d = some vd) :
    Fr g L h (fun z => if z = a then some va else if z = b then some vb else if z = c then some vc else if z = d then some vd else m z) := by
  have e : m = fun z => if z = a then some va else if z = b then some vb else if z = c then some vc else if z = d then some vd else m z := by
    funext z
    by_cases e1 : z = a
    · rw [if_pos e1, e1, h1]
    · rw [if_neg e1]
      by_cases e2 : z = b
      · rw [if_pos e2, e2, h2]
      · rw [if_neg e2]
        by_cases e3 : z = c
        · rw [if_pos e3, e3, h3]
        · rw [if_neg e3]
          by_cases e4 : z = d
          · rw [if_pos e4, e4, h4]
          · rw [if_neg e4]
  rw [← e]; exact F
theorem fr_bind5 {g h : Heap} {L : Addr} {m : Str → Option Value} {a b c d e : Str} {va vb vc vd ve : Value} (F : Fr g L h m) (h1 : m a = some va) (h2 : m b = some vb) (h3 : m c = some vc) (h4 : m d = some vd) (h5 : m e = some ve) :
    Fr g L h (fun z => if z = e then some ve else if z = a then some va else if z = b then some vb else if z = c then some vc else if z = d then some vd else m z) := by
  have q : m = (fun z => if z = e then some ve else if z = a then some va else if z = b then some vb else if z = c then some vc else if z = d then some vd else m z) := by
    funext z
    split
    · rename_i e; rw [e, h5]
    · split
      · rename_i e; rw [e, h1]
      · split
        · rename_i e; rw [e, h2]
        · split
          · rename_i e; rw [e, h3]
          · split
            · rename_i e; rw [e, h4]
            · rfl
  rw [← q]; exact F
theorem counts_le {ns : List Int} {k : Nat} (hb : ∀ n ∈ ns, 0 ≤ n ∧ n ≤ 2) : 0 ≤ ns.getD ((k : Int).toNat) 0 ∧ ns.getD ((k : Int).toNat) 0 ≤ 2 := by
  rw [List.getD_eq_getElem?_getD]
  cases e : ns[(k : Int).toNat]? with
  | none => exact ⟨by decide, by decide⟩
  | some n => exact hb n (List.mem_of_getElem? e)
theorem fr_bind3 {g h : Heap} {L : Addr} {m : Str → Option Value} {a b c : Str} {va vb vc : Value} (F : Fr g L h m) (h1 : m a = some va) (h2 : m b = some vb) (h3 : m c = some vc) :
    Fr g L h (fun z => if z = a then some va else if z = b then some vb else if z = c then some vc else m z) := by
  have q : m = (fun z => if z = a then some va else if z = b then some vb else if z = c then some vc else m z) := by
    funext z
    split
    · rename_i e; rw [e, h1]
    · split
      · rename_i e; rw [e, h2]
      · split
        · rename_i e; rw [e, h3]
        · rfl
  rw [← q]; exact F
theorem fresh_of {H g : Heap} {a : Addr} (G : GSub H g []) (h : g.get? a = none) : H.get? a = none := by
  cases e : H.get? a with
  | none => rfl
  | some o => rw [G a o e (by simp)] at h; cases h

/-! texts as lists of sign numbers -/
def ofL (l : List Nat) : Str := ⟨l.toArray⟩
def toL (x : Str) : List Nat := x.cps.toList
theorem ofL_toL (x : Str) : ofL (toL x) = x := by cases x; simp [ofL, toL]
theorem toL_ofL (l : List Nat) : toL (ofL l) = l := by simp [ofL, toL]
theorem ofL_inj {a b : List Nat} (h : ofL a = ofL b) : a = b := by rw [← toL_ofL a, h, toL_ofL]
theorem toL_inj {a b : Str} (h : toL a = toL b) : a = b := by rw [← ofL_toL a, h, ofL_toL]
theorem toL_length (x : Str) : (toL x).length = x.length := by simp [toL, Str.length]
theorem ofL_length (l : List Nat) : (ofL l).length = l.length := by simp [ofL, Str.length]
theorem toL_append (a b : Str) : toL (a ++ b) = toL a ++ toL b := by simp [toL, Str.cps_append]
theorem ofL_append (a b : List Nat) : ofL (a ++ b) = ofL a ++ ofL b := toL_inj (by rw [toL_append, toL_ofL, toL_ofL, toL_ofL])
theorem idx_clamp (l : Option Int) {j : Int} {n : Nat} (h : (n : Int) ≤ j) : strSliceIndices l (some j) 1 n = strSliceIndices l (some (n : Int)) 1 n := by
  have h1 : ¬ j < 0 := by omega
  have h2 : ¬ (n : Int) < 0 := by omega
  have e : max (0 : Int) (min j n) = max (0 : Int) (min n n) := by omega
  simp only [strSliceIndices, h1, h2, if_false, e, show (1 : Int) > 0 by decide, if_true]
theorem slice_eq (x : Str) (l u : Option Int) : Txt.slice x l u = StrLaws.sliceText x l u := rfl
theorem slice_mid (x : Str) {i j : Nat} (hij : i ≤ j) (hi : i ≤ x.length) : Txt.slice x (some (i : Int)) (some (j : Int)) = ofL (((toL x).drop i).take (j - i)) := by
  by_cases hj : j ≤ x.length
  · rw [slice_eq, StrLaws.sliceText_nat x hij hj]; rfl
  · have e : Txt.slice x (some (i : Int)) (some (j : Int)) = Txt.slice x (some (i : Int)) (some (x.length : Int)) := by
      unfold Txt.slice
      rw [idx_clamp (some (i : Int)) (j := (j : Int)) (n := x.length) (by omega)]
    rw [e, slice_eq, StrLaws.sliceText_nat x hi (Nat.le_refl _)]
    show ofL _ = ofL _
    have hl := toL_length x
    congr 1
    rw [List.take_of_length_le (by show _ ≤ _; rw [List.length_drop]; show (toL x).length - i ≤ _; omega), List.take_of_length_le (by rw [List.length_drop]; omega)]
    rfl
theorem idx_clampL (u : Option Int) {j : Int} {n : Nat} (h : (n : Int) ≤ j) : strSliceIndices (some j) u 1 n = strSliceIndices (some (n : Int)) u 1 n := by
  have h1 : ¬ j < 0 := by omega
  have h2 : ¬ (n : Int) < 0 := by omega
  have e : max (0 : Int) (min j n) = max (0 : Int) (min n n) := by omega
  simp only [strSliceIndices, h1, h2, if_false, e, show (1 : Int) > 0 by decide, if_true]
theorem slice_any (x : Str) {i j : Nat} (hij : i ≤ j) : Txt.slice x (some (i : Int)) (some (j : Int)) = ofL (((toL x).drop i).take (j - i)) := by
  by_cases hi : i ≤ x.length
  · exact slice_mid x hij hi
  · have e : Txt.slice x (some (i : Int)) (some (j : Int)) = Txt.slice x (some (x.length : Int)) (some (x.length : Int)) := by
      unfold Txt.slice
      rw [idx_clamp (some (i : Int)) (j := (j : Int)) (n := x.length) (by omega), idx_clampL _ (j := (i : Int)) (n := x.length) (by omega)]
    have hl := toL_length x
    rw [e, slice_mid x (Nat.le_refl _) (Nat.le_refl _), List.drop_eq_nil_of_le (by omega), List.drop_eq_nil_of_le (by omega)]
    simp
theorem slice_to (x : Str) (j : Nat) : Txt.slice x none (some (j : Int)) = ofL ((toL x).take j) := by
  have e : Txt.slice x none (some (j : Int)) = Txt.slice x (some ((0 : Nat) : Int)) (some (j : Int)) := by
    unfold Txt.slice; rw [StrLaws.sliceIdx_none_lo]; rfl
  rw [e, slice_mid x (Nat.zero_le _) (Nat.zero_le _)]; simp
theorem item_at (x : Str) {k : Nat} (h : k < x.length) : Txt.item x (k : Int) = ofL (((toL x).drop k).take 1) := by
  have hl := toL_length x
  have hk : k < (toL x).length := by omega
  have e : x.cps[k]? = some (toL x)[k] := by
    rw [← Array.getElem?_toList]; exact List.getElem?_eq_getElem hk
  have e2 : Txt.charAt x (k : Int) = some (toL x)[k] := by
    unfold Txt.charAt
    exact StrLaws.at_nonneg (Int.natCast_nonneg _) (by simpa using e)
  unfold Txt.item
  rw [e2, List.drop_eq_getElem_cons hk]
  rfl
/-- the slashes at a list's end taken away -/
def rs (l : List Nat) : List Nat := (l.reverse.dropWhile (· == 47)).reverse
theorem rs_take (l : List Nat) : rs l = l.take (l.length - (l.reverse.takeWhile (· == 47)).length) := by
  have h := List.takeWhile_append_dropWhile (p := fun c : Nat => c == 47) (l := l.reverse)
  have e : l = (l.reverse.dropWhile (· == 47)).reverse ++ (l.reverse.takeWhile (· == 47)).reverse := by
    rw [← List.reverse_append, h, List.reverse_reverse]
  have hlen : l.length - (l.reverse.takeWhile (· == 47)).length = (l.reverse.dropWhile (· == 47)).reverse.length := by
    have := congrArg List.length e
    rw [List.length_append, List.length_reverse (as := l.reverse.takeWhile _)] at this
    omega
  rw [hlen]
  have key : ∀ a b : List Nat, l = a ++ b → a = l.take a.length := fun a b h => by rw [h, List.take_left]
  exact key _ _ e
theorem slash_is : Str.ofString "/" = ofL [47] := by decide +kernel
theorem rstrip_slash (x : Str) : Txt.rstripChars x (Str.ofString "/") = ofL (rs (toL x)) := by
  have key : ∀ goes : Nat → Bool, (∀ c, goes c = (c == 47)) → Txt.stripBy goes false true x = ofL (rs (toL x)) := by
    intro goes hg
    have hg' : goes = fun c => c == 47 := funext hg
    subst hg'
    have hh : stripHi (fun c => c == 47) true x 0 = (toL x).length - ((toL x).reverse.takeWhile (· == 47)).length := by
      simp only [stripHi, if_true, List.drop_zero]; rw [toL_length]; rfl
    unfold Txt.stripBy
    split
    · rename_i h
      simp only [stripSame, stripLo, Bool.false_eq_true, if_false, Bool.and_eq_true, beq_iff_eq] at h
      have h2 := h.2
      rw [hh, ← toL_length] at h2
      rw [rs_take, h2, List.take_length, ofL_toL]
    · unfold PySem.stripped
      apply toL_inj
      rw [toL_ofL]
      show (strSub x (stripLo (fun c => c == 47) false x) (stripHi (fun c => c == 47) true x (stripLo (fun c => c == 47) false x))).cps.toList = _
      have h0 : stripLo (fun c => c == 47) false x = 0 := by simp [stripLo]
      rw [h0, StrLaws.strSub_toList, hh, rs_take]
      simp [toL]
  unfold Txt.rstripChars
  refine key _ fun c => ?_
  rw [slash_is]
  simp only [ofL, List.contains_toArray, List.contains_cons, List.contains_nil, Bool.or_false]
/-- the slashes' row -/
def sl (n : Nat) : List Nat := List.replicate n 47
theorem mul_slash {n : Int} (h0 : 0 ≤ n) : Txt.mul (Str.ofString "/") n = ofL (sl n.toNat) := by
  have fold : ∀ (k : Nat) (acc : Array Nat), (List.replicate k (#[47] : Array Nat)).foldl (· ++ ·) acc = acc ++ (List.replicate k 47).toArray := by
    intro k
    induction k with
    | zero => intro acc; simp
    | succ k ih => intro acc; rw [List.replicate_succ, List.foldl_cons, ih, List.replicate_succ]; apply Array.ext'; simp
  unfold Txt.mul
  rw [slash_is]
  split
  · have : n = 0 := by omega
    subst this; rfl
  · split
    · rename_i h1 h2
      have h3 : n = 1 := by
        rw [ofL_length] at h2
        simpa using h2
      subst h3; rfl
    · show (⟨(List.replicate n.toNat (#[47] : Array Nat)).foldl (· ++ ·) #[]⟩ : Str) = _
      rw [fold]; simp [ofL, sl]

def DT : List (List Nat × Int) := [([33], 54), ([33, 61], 28), ([37], 24), ([37, 61], 40), ([38], 19), ([38, 61], 41), ([40], 7), ([41], 8), ([42], 16), ([42, 42], 35), ([42, 42, 61], 46), ([42, 61], 38), ([43], 14), ([43, 61], 36), ([44], 12), ([45], 15), ([45, 61], 37), ([45, 62], 51), ([46], 23), ([46, 46, 46], 52), ([47], 17), ([47, 47], 47), ([47, 47, 61], 48), ([47, 61], 39), ([58], 11), ([58, 61], 53), ([59], 13), ([60], 20), ([60, 60], 33), ([60, 60, 61], 44), ([60, 61], 29), ([61], 22), ([61, 61], 27), ([62], 21), ([62, 61], 30), ([62, 62], 34), ([62, 62, 61], 45), ([64], 49), ([64, 61], 50), ([91], 9), ([93], 10), ([94], 32), ([94, 61], 43), ([123], 25), ([124], 18), ([124, 61], 42), ([125], 26), ([126], 31)]
def DS : List (Str × PyData) := [(Str.ofString "!", PyData.int 54), (Str.ofString "!=", PyData.int 28), (Str.ofString "%", PyData.int 24), (Str.ofString "%=", PyData.int 40), (Str.ofString "&", PyData.int 19), (Str.ofString "&=", PyData.int 41), (Str.ofString "(", PyData.int 7), (Str.ofString ")", PyData.int 8), (Str.ofString "*", PyData.int 16), (Str.ofString "**", PyData.int 35), (Str.ofString "**=", PyData.int 46), (Str.ofString "*=", PyData.int 38), (Str.ofString "+", PyData.int 14), (Str.ofString "+=", PyData.int 36), (Str.ofString ",", PyData.int 12), (Str.ofString "-", PyData.int 15), (Str.ofString "-=", PyData.int 37), (Str.ofString "->", PyData.int 51), (Str.ofString ".", PyData.int 23), (Str.ofString "...", PyData.int 52), (Str.ofString "/", PyData.int 17), (Str.ofString "//", PyData.int 47), (Str.ofString "//=", PyData.int 48), (Str.ofString "/=", PyData.int 39), (Str.ofString ":", PyData.int 11), (Str.ofString ":=", PyData.int 53), (Str.ofString ";", PyData.int 13), (Str.ofString "<", PyData.int 20), (Str.ofString "<<", PyData.int 33), (Str.ofString "<<=", PyData.int 44), (Str.ofString "<=", PyData.int 29), (Str.ofString "=", PyData.int 22), (Str.ofString "==", PyData.int 27), (Str.ofString ">", PyData.int 21), (Str.ofString ">=", PyData.int 30), (Str.ofString ">>", PyData.int 34), (Str.ofString ">>=", PyData.int 45), (Str.ofString "@", PyData.int 49), (Str.ofString "@=", PyData.int 50), (Str.ofString "[", PyData.int 9), (Str.ofString "]", PyData.int 10), (Str.ofString "^", PyData.int 32), (Str.ofString "^=", PyData.int 43), (Str.ofString "{", PyData.int 25), (Str.ofString "|", PyData.int 18), (Str.ofString "|=", PyData.int 42), (Str.ofString "}", PyData.int 26), (Str.ofString "~", PyData.int 31)]
theorem ds_is : DS = DT.map fun p => (ofL p.1, PyData.int p.2) := by kernel_rfl
def DD : List (PyData × PyData) := DS.map fun p => (PyData.str p.1, p.2)
theorem tab155 {w : World} {h : Heap} (X : (laid.heap_1 w.params).In h) : StrTab PySem.Challenge.rw_ij0098_01.row.prog w h 155 DD :=
  KTD.strTab_of_look (get := fun a => (laid.heap_1 w.params).lookup a) _ _ X (by kernel_rfl) (by decide +kernel) (by kernel_rfl)
theorem flat_int {v : Value} {i : Int} (h : PyProof.V.Flat v (.int i)) : ∃ u, v = .int i u := by
  have := h {}
  cases this
  exact ⟨_, rfl⟩
theorem look_map (x : Str) : ∀ D : List (List Nat × Int), lookup (.str x) ((D.map fun p => (ofL p.1, PyData.int p.2)).map fun p => (PyData.str p.1, p.2)) = (D.lookup (toL x)).map PyData.int
  | [] => rfl
  | (k, v) :: r => by
    have ih := look_map x r
    simp only [List.map_cons, Spec.lookup, List.lookup_cons]
    have hs : Spec.same (PyData.str (ofL k)) (PyData.str x) = decide (ofL k = x) := PyProof.V.same_str _ _
    rw [hs]
    by_cases e : ofL k = x
    · have e2 : toL x = k := by rw [← e, toL_ofL]
      simp [e, e2]
    · have e2 : ¬ toL x = k := fun q => e (by rw [← q, ofL_toL])
      have e3 : (toL x == k) = false := by simpa using e2
      simp only [e, decide_false, Bool.false_eq_true, if_false, e3]
      exact ih
def inT (l : List Nat) : Bool := (DT.lookup l).isSome
def valT (l : List Nat) : Int := (DT.lookup l).getD 0
theorem look_DD (x : Str) : Spec.lookup (.str x) DD = (DT.lookup (toL x)).map PyData.int := by
  unfold DD; rw [ds_is]; exact look_map x DT
theorem look_some (x : Str) : (Spec.lookup (.str x) DD).isSome = inT (toL x) := by rw [look_DD]; unfold inT; cases DT.lookup (toL x) <;> rfl
theorem look_val {x : Str} (h : inT (toL x) = true) : Spec.lookup (.str x) DD = some (.int (valT (toL x))) := by
  rw [look_DD]
  unfold inT at h; unfold valT
  cases e : DT.lookup (toL x) with
  | none => rw [e] at h; cases h
  | some v => rfl
theorem in155 {w : World} {A : Around} {s : Shared} {E Q : Value → Shared → Prop} {x : Str} {t : Tok} (X : (laid.heap_1 w.params).In s.heap) (h : Q (.bool (inT (toL x))) { s with toks := s.toks + 1 }) :
    wpAny (model PySem.Challenge.rw_ij0098_01.row.prog w) A (compareOp .In (.str x t) (.ref 155)) Q E s := in_strTab (tab155 X) (by rw [look_some]; exact h)
theorem item155 {w : World} {A : Around} {s : Shared} {E Q : Value → Shared → Prop} {value slice : Expr} {x : Str} {t : Tok} (X : (laid.heap_1 w.params).In s.heap) (hx : inT (toL x) = true) (h : ∀ u, Q (.int (valT (toL x)) u) { s with toks := s.toks + 1 })
    (hs : subscripted slice false (.ref 155) (.str x t) = operate [.ref 155, .str x t] (getItem (.ref 155) (.str x t)) := by with_unfolding_all rfl) (hg : ∀ r, letTemporaryGo value (.ref 155) r = pure () := by intro _; with_unfolding_all rfl) :
    wpAny (model PySem.Challenge.rw_ij0098_01.row.prog w) A (subscriptTail value slice (.ref 155) (.str x t)) Q E s := item_strTab (tab155 X) (look_val hx) (fun v hv => by obtain ⟨u, rfl⟩ := flat_int hv; exact h u) hs hg

/-! a cut: what is to hold behind a statement, said beforehand -/
def Cut (_P : Flow → Shared → Prop) : Prop := True
theorem wpAny_cut {M : Model} {A : Around} {E : Value → Shared → Prop} {s : Shared} {t : Sem Flow} {P Q : Flow → Shared → Prop} (_c : Cut P) (h : wpAny M A t P E s) (k : ∀ f s', P f s' → Q f s') : wpAny M A t Q E s :=
  wpAny_mono h k fun _ _ e => e

/-! the longest slice that the table knows, its symbol -/
def tok (l : List Nat) : List Nat := if inT (l.take 3) = true then l.take 3 else if inT (l.take 2) = true then l.take 2 else l.take 1
def symL (q : List Nat) : Int := if inT q = true then valT q else 256 + (q.headD 0 : Nat)
def dg (n : Int) : List Nat := toL (Str.ofString (toString n))
def stepP (ns : List Int) (k : Nat) (t : List Nat) : List Nat := sl ((ns.getD k 0) + (if 0 < k then 1 else 0)).toNat ++ dg (symL (tok (t.drop k)))
def pathL (ns : List Int) (t : List Nat) : Nat → Nat → List Nat → List Nat
  | 0, _, y => y
  | f + 1, k, y => if k < t.length then pathL ns t f (k + (tok (t.drop k)).length) (y ++ stepP ns k t) else y
def pathOf (ns : List Int) (t : List Nat) : List Nat := pathL ns t t.length 0 []
theorem inT_mem {q : List Nat} (h : inT q = true) : q ∈ DT.map (·.1) := by
  unfold inT at h
  rw [List.lookup_isSome_iff] at h
  obtain ⟨p, hp, e⟩ := h
  exact List.mem_map.mpr ⟨p, hp, (beq_iff_eq.mp e).symm⟩
theorem inT_pos {q : List Nat} (h : inT q = true) : 1 ≤ q.length ∧ q.length ≤ 3 := by
  have all : ∀ q ∈ DT.map (·.1), 1 ≤ q.length ∧ q.length ≤ 3 := by decide +kernel
  exact all q (inT_mem h)
theorem valT_le (q : List Nat) : 0 ≤ valT q ∧ valT q ≤ 54 := by
  unfold valT
  cases e : DT.lookup q with
  | none => exact ⟨by decide, by decide⟩
  | some v =>
    have all : ∀ p ∈ DT, 0 ≤ p.2 ∧ p.2 ≤ 54 := by decide +kernel
    obtain ⟨l₁, l₂, hl, _⟩ := List.lookup_eq_some_iff.mp e
    exact all (q, v) (by rw [hl]; simp)
theorem tok_len {l : List Nat} (h : l ≠ []) : 1 ≤ (tok l).length ∧ (tok l).length ≤ l.length ∧ (tok l).length ≤ 3 := by
  have hp : 1 ≤ l.length := List.length_pos_iff.mpr h
  unfold tok
  split
  · rename_i a
    have := inT_pos a
    rw [List.length_take] at this ⊢
    omega
  · split
    · rename_i a
      have := inT_pos a
      rw [List.length_take] at this ⊢
      omega
    · rw [List.length_take]; omega
theorem tok_one {l : List Nat} (h : l ≠ []) (q : inT (tok l) = false) : (tok l).length = 1 := by
  have hp : 1 ≤ l.length := List.length_pos_iff.mpr h
  unfold tok at q ⊢
  split at q
  · rename_i a; rw [a] at q; cases q
  · rename_i a
    rw [if_neg a]
    split at q
    · rename_i b; rw [b] at q; cases q
    · rename_i b; rw [if_neg b, List.length_take]; omega
theorem tok_sub {l : List Nat} {c : Nat} (h : c ∈ tok l) : c ∈ l := by
  unfold tok at h
  split at h
  · exact List.mem_of_mem_take h
  · split at h <;> exact List.mem_of_mem_take h
theorem tok_take (l : List Nat) : tok l = l.take (tok l).length := by
  have key : ∀ n, l.take n = l.take (l.take n).length := fun n => by
    rw [List.length_take]
    by_cases h : n ≤ l.length
    · rw [Nat.min_eq_left h]
    · rw [Nat.min_eq_right (by omega), List.take_length, List.take_of_length_le (by omega)]
  unfold tok
  split
  · exact key 3
  · split
    · exact key 2
    · exact key 1
theorem dg_len {n : Int} (h0 : 0 ≤ n) (h1 : n < 1000) : (dg n).length ≤ 4 := by
  unfold dg
  rw [toL_length, PySem.ofString_length]
  exact int_text_length_le10 (k := 3) (by decide) (by omega)
section
variable {w : World} {A : Around} {s : Shared} {E Q : Value → Shared → Prop}
theorem str_int {n : Int} {t : Tok} (h0 : 0 ≤ n) (h1 : n < 1000) (h : ∀ u, (dg n).length ≤ 4 → Q (.str (ofL (dg n)) u) { s with toks := s.toks + 1 }) : wpAny (model PySem.Challenge.rw_ij0098_01.row.prog w) A (call (.type "str") [.int n t]) Q E s := by
  refine P.str_of_int ?_ ?_
  · have : n.natAbs < 2 ^ 1920 := Nat.lt_of_lt_of_le (by omega : n.natAbs < 1024) (by decide +kernel)
    by_cases e : n.natAbs = 0
    · rw [e]; decide
    · exact (Nat.log2_lt e).mpr this
  · have e : (toString n : Str) = ofL (dg n) := by unfold dg; rw [ofL_toL]
    rw [e]
    exact h _ (dg_len h0 h1)
theorem mul_sl {n : Int} {t u : Tok} (h0 : 0 ≤ n) (h1 : n ≤ 3) (h : ∀ v k, (sl n.toNat).length ≤ 3 → Q (.str (ofL (sl n.toNat)) v) { s with toks := k }) : wpAny (model PySem.Challenge.rw_ij0098_01.row.prog w) A (binaryOp .Mult (.str (Str.ofString "/") t) (.int n u)) Q E s := by
  refine SB.mul (mulOk_of 16 1048576 (by decide +kernel) (by omega) (by omega) (by decide) (by decide)) fun v k => ?_
  rw [mul_slash h0]
  exact h v k (by unfold sl; rw [List.length_replicate]; omega)
theorem add_ofL {a b : List Nat} {t u : Tok} (hz : a.length + b.length ≤ 10000) (h : ∀ v k, Q (.str (ofL (a ++ b)) v) { s with toks := k }) : wpAny (model PySem.Challenge.rw_ij0098_01.row.prog w) A (binaryOp .Add (.str (ofL a) t) (.str (ofL b) u)) Q E s :=
  SB.add (fun v k => by rw [← ofL_append]; exact h v k) (by rw [ofL_length, ofL_length, PySem.sizeLine_eq]; omega)
theorem len_ofL {l : List Nat} {t : Tok} (hz : l.length ≤ 10000) (h : ∀ u k, Q (.int (l.length : Nat) u) { s with toks := k }) : wpAny (model PySem.Challenge.rw_ij0098_01.row.prog w) A (call (.builtin "len") [.str (ofL l) t]) Q E s :=
  SBL.len (by rw [ofL_length]; omega) (by rw [ofL_length]; exact h _ _)
theorem ord_tok {l : List Nat} {t : Tok} (hl : l ≠ []) (q : inT (tok l) = false) (hb : ∀ c ∈ l, c ≤ 126) (h : ((tok l).headD 0 : Nat) ≤ 126 → Q (.int ((tok l).headD 0 : Nat) s.toks) { s with toks := s.toks + 1 }) : wpAny (model PySem.Challenge.rw_ij0098_01.row.prog w) A (call (.builtin "ord") [.str (ofL (tok l)) t]) Q E s := by
  have h1 := tok_one hl q
  refine ord_of_one (by rw [ofL_length]; exact h1) ?_
  have e : (ofL (tok l)).cps.getD 0 0 = (tok l).headD 0 := by
    cases ht : tok l with
    | nil => rfl
    | cons c r => rfl
  rw [e]
  refine h ?_
  cases ht : tok l with
  | nil => rw [ht] at h1; cases h1
  | cons c r => exact hb c (tok_sub (by rw [ht]; simp))
end

/-! the law's own reading of the ends -/
def esz (l : List Nat) : Nat :=
  if l.take 3 = [46, 46, 46] then 3 else if l.take 2 = [45, 62] then 2 else
    if (l.headD 0) ∈ [42, 47, 60, 62] ∧ (l.drop 1).take 1 = [l.headD 0] then
      (if (l.headD 0) ∈ [33, 42, 45, 47, 60, 61, 62] ∧ (l.drop 2).take 1 = [61] then 3 else 2)
    else (if (l.headD 0) ∈ [33, 42, 45, 47, 60, 61, 62] ∧ (l.drop 1).take 1 = [61] then 2 else 1)
def endsL (t : List Nat) : Nat → Nat → List Nat → List Nat
  | 0, _, acc => acc
  | f + 1, k, acc => if k < t.length then endsL t f (k + esz (t.drop k)) ((k + esz (t.drop k)) :: acc) else acc
def endsOf (t : List Nat) : List Nat := endsL t t.length 0 []
def zs (l : List Nat) : List Int := l.map fun (n : Nat) => (n : Int)
theorem zs_len (l : List Nat) : (zs l).length = l.length := List.length_map _
theorem esz_pos (l : List Nat) : 1 ≤ esz l ∧ esz l ≤ 3 := by
  unfold esz
  repeat' split
  all_goals omega
theorem esz_le {l : List Nat} (h : l ≠ []) : esz l ≤ l.length := by
  have hp : 1 ≤ l.length := List.length_pos_iff.mpr h
  have t3 : ∀ {n : Nat} {q : List Nat}, l.take n = q → q.length = n → n ≤ l.length := fun e hq => by
    have := congrArg List.length e
    rw [List.length_take, hq] at this
    omega
  have d1 : ∀ {n c : Nat}, (l.drop n).take 1 = [c] → n + 1 ≤ l.length := fun e => by
    have := congrArg List.length e
    rw [List.length_take, List.length_drop] at this
    simp at this
    omega
  unfold esz
  split
  · rename_i a; exact t3 a rfl
  · split
    · rename_i a; exact t3 a rfl
    · split
      · rename_i a
        have := d1 a.2
        split
        · rename_i b; exact d1 b.2
        · omega
      · split
        · rename_i b; exact d1 b.2
        · omega
theorem occ_mem {w : Str} {c : Nat} : (Builtin.Str.occurrences w (ofL [c]) 0 w.length 1).isEmpty = !decide (c ∈ toL w) := by
  have h : (!(Builtin.Str.occurrences w (ofL [c]) 0 w.length 1).isEmpty) = decide (c ∈ toL w) := StrLaws.found_one w c
  rw [← h, Bool.not_not]
theorem ofL_beq (a b : List Nat) : (ofL a == ofL b) = decide (a = b) := by
  by_cases h : a = b
  · subst h; simp
  · rw [decide_eq_false h]
    exact beq_eq_false_iff_ne.mpr fun e => h (ofL_inj e)
theorem esz_raw {x : Str} {k : Nat} (hk : (k : Int) < (x.length : Nat)) : esz ((toL x).drop k) =
    if (Txt.slice x (some (k : Int)) (some ((k : Int) + 3)) == Str.ofString "...") = true then 3 else
    if (Txt.slice x (some (k : Int)) (some ((k : Int) + 2)) == Str.ofString "->") = true then 2 else
    if (Builtin.Str.occurrences (Str.ofString "*/<>") (Txt.item x (k : Int)) 0 (Str.ofString "*/<>").length 1).isEmpty = false ∧ (Txt.slice x (some ((k : Int) + 1)) (some ((k : Int) + 2)) == Txt.item x (k : Int)) = true then
      (if (Builtin.Str.occurrences (Str.ofString "!*-/<=>") (Txt.item x (k : Int)) 0 (Str.ofString "!*-/<=>").length 1).isEmpty = false ∧ (Txt.slice x (some ((k : Int) + 2)) (some ((k : Int) + 2 + 1)) == Str.ofString "=") = true then 3 else 2)
    else (if (Builtin.Str.occurrences (Str.ofString "!*-/<=>") (Txt.item x (k : Int)) 0 (Str.ofString "!*-/<=>").length 1).isEmpty = false ∧ (Txt.slice x (some ((k : Int) + 1)) (some ((k : Int) + 1 + 1)) == Str.ofString "=") = true then 2 else 1) := by
  have hl := toL_length x
  have hk' : k < (toL x).length := by omega
  obtain ⟨c, r, hcr⟩ : ∃ c r, (toL x).drop k = c :: r := ⟨_, _, List.drop_eq_getElem_cons hk'⟩
  have e3 : Txt.slice x (some (k : Int)) (some ((k : Int) + 3)) = ofL (((toL x).drop k).take 3) := by
    rw [show ((k : Int) + 3) = ((k + 3 : Nat) : Int) by omega, slice_any x (by omega), show k + 3 - k = 3 by omega]
  have e2 : Txt.slice x (some (k : Int)) (some ((k : Int) + 2)) = ofL (((toL x).drop k).take 2) := by
    rw [show ((k : Int) + 2) = ((k + 2 : Nat) : Int) by omega, slice_any x (by omega), show k + 2 - k = 2 by omega]
  have d1 : Txt.slice x (some ((k : Int) + 1)) (some ((k : Int) + 2)) = ofL ((((toL x).drop k).drop 1).take 1) := by
    rw [show ((k : Int) + 2) = ((k + 2 : Nat) : Int) by omega, show ((k : Int) + 1) = ((k + 1 : Nat) : Int) by omega, slice_any x (by omega), show k + 2 - (k + 1) = 1 by omega, List.drop_drop]
  have d1' : Txt.slice x (some ((k : Int) + 1)) (some ((k : Int) + 1 + 1)) = ofL ((((toL x).drop k).drop 1).take 1) := by
    rw [show ((k : Int) + 1 + 1) = ((k + 2 : Nat) : Int) by omega, show ((k : Int) + 1) = ((k + 1 : Nat) : Int) by omega, slice_any x (by omega), show k + 2 - (k + 1) = 1 by omega, List.drop_drop]
  have d2 : Txt.slice x (some ((k : Int) + 2)) (some ((k : Int) + 2 + 1)) = ofL ((((toL x).drop k).drop 2).take 1) := by
    rw [show ((k : Int) + 2 + 1) = ((k + 3 : Nat) : Int) by omega, show ((k : Int) + 2) = ((k + 2 : Nat) : Int) by omega, slice_any x (by omega), show k + 3 - (k + 2) = 1 by omega, List.drop_drop]
  have it : Txt.item x (k : Int) = ofL [c] := by rw [item_at x (by omega), hcr]; rfl
  have s1 : Str.ofString "..." = ofL [46, 46, 46] := by decide +kernel
  have s2 : Str.ofString "->" = ofL [45, 62] := by decide +kernel
  have s3 : Str.ofString "=" = ofL [61] := by decide +kernel
  have s4 : toL (Str.ofString "*/<>") = [42, 47, 60, 62] := by decide +kernel
  have s5 : toL (Str.ofString "!*-/<=>") = [33, 42, 45, 47, 60, 61, 62] := by decide +kernel
  rw [e3, e2, d1, d1', d2, it, occ_mem, occ_mem, s1, s2, s3, s4, s5]
  simp only [ofL_beq, hcr, decide_eq_true_eq, Bool.not_eq_false', List.headD_cons, esz]

def ez (a b c d e f1 f2 : Bool) : Nat := if a then 3 else if b then 2 else if !c && d then (if !e && f2 then 3 else 2) else (if !e && f1 then 2 else 1)
theorem esz_ez {x : Str} {k : Nat} (hk : (k : Int) < (x.length : Nat)) : esz ((toL x).drop k) =
    ez (Txt.slice x (some (k : Int)) (some ((k : Int) + 3)) == Str.ofString "...") (Txt.slice x (some (k : Int)) (some ((k : Int) + 2)) == Str.ofString "->")
      (Builtin.Str.occurrences (Str.ofString "*/<>") (Txt.item x (k : Int)) 0 (Str.ofString "*/<>").length 1).isEmpty (Txt.slice x (some ((k : Int) + 1)) (some ((k : Int) + 2)) == Txt.item x (k : Int))
      (Builtin.Str.occurrences (Str.ofString "!*-/<=>") (Txt.item x (k : Int)) 0 (Str.ofString "!*-/<=>").length 1).isEmpty
      (Txt.slice x (some ((k : Int) + 1)) (some ((k : Int) + 1 + 1)) == Str.ofString "=") (Txt.slice x (some ((k : Int) + 2)) (some ((k : Int) + 2 + 1)) == Str.ofString "=") := by
  rw [esz_raw hk]
  simp only [ez, Bool.and_eq_true, Bool.not_eq_true']
theorem ez_a {a b c d e f1 f2 : Bool} (ha : a = true) : ez a b c d e f1 f2 = 3 := by subst ha; rfl
theorem ez_b {a b c d e f1 f2 : Bool} (ha : a = false) (hb : b = true) : ez a b c d e f1 f2 = 2 := by subst ha hb; rfl
theorem ez_c {a b c d e f1 f2 : Bool} (ha : a = false) (hb : b = false) (hc : c = true) (he : e = true) : ez a b c d e f1 f2 = 1 := by subst ha hb hc he; rfl
theorem ez_c1 {a b c d e f1 f2 : Bool} (ha : a = false) (hb : b = false) (hc : c = true) (he : e = false) (hf : f1 = true) : ez a b c d e f1 f2 = 2 := by subst ha hb hc he hf; rfl
theorem ez_c0 {a b c d e f1 f2 : Bool} (ha : a = false) (hb : b = false) (hc : c = true) (he : e = false) (hf : f1 = false) : ez a b c d e f1 f2 = 1 := by subst ha hb hc he hf; rfl
theorem ez_d {a b c d e f1 f2 : Bool} (ha : a = false) (hb : b = false) (hd : d = false) (he : e = true) : ez a b c d e f1 f2 = 1 := by subst ha hb hd he; cases c <;> rfl
theorem ez_d1 {a b c d e f1 f2 : Bool} (ha : a = false) (hb : b = false) (hd : d = false) (he : e = false) (hf : f1 = true) : ez a b c d e f1 f2 = 2 := by subst ha hb hd he hf; cases c <;> rfl
theorem ez_d0 {a b c d e f1 f2 : Bool} (ha : a = false) (hb : b = false) (hd : d = false) (he : e = false) (hf : f1 = false) : ez a b c d e f1 f2 = 1 := by subst ha hb hd he hf; cases c <;> rfl
theorem ez_e {a b c d e f1 f2 : Bool} (ha : a = false) (hb : b = false) (hc : c = false) (hd : d = true) (he : e = true) : ez a b c d e f1 f2 = 2 := by subst ha hb hc hd he; rfl
theorem ez_e1 {a b c d e f1 f2 : Bool} (ha : a = false) (hb : b = false) (hc : c = false) (hd : d = true) (he : e = false) (hf : f2 = true) : ez a b c d e f1 f2 = 3 := by subst ha hb hc hd he hf; rfl
theorem ez_e0 {a b c d e f1 f2 : Bool} (ha : a = false) (hb : b = false) (hc : c = false) (hd : d = true) (he : e = false) (hf : f2 = false) : ez a b c d e f1 f2 = 2 := by subst ha hb hc hd he hf; rfl
end

section
def Jp (x : Str) (t : Tok) (lc : Addr) (ns : List Int) (n : Nat) (m : Str → Option Value) (nx : List (Addr × Obj)) : Prop :=
  nx = [] ∧ ∃ (k f : Nat) (ta tp : Tok) (y : List Nat), k ≤ x.length ∧ n = x.length - k ∧ m "text" = some (.str x t) ∧ m "counts" = some (.ref lc) ∧ m "at" = some (.int (k : Int) ta) ∧ m "path" = some (.str (ofL y) tp) ∧
    y.length ≤ 8 * k ∧ x.length ≤ k + f ∧ pathL ns (toL x) f k y = pathOf ns (toL x)
theorem drop_ne {x : Str} {k : Nat} (h : (k : Int) < (x.length : Nat)) : (toL x).drop k ≠ [] := by
  intro e
  have := congrArg List.length e
  rw [List.length_drop, List.length_nil, toL_length] at this
  omega
theorem tok_eq3 {x : Str} {k : Nat} (hk : (k : Int) < (x.length : Nat)) (h : inT (toL (Txt.slice x (some (k : Int)) (some ((k : Int) + 3)))) = true) : Txt.slice x (some (k : Int)) (some ((k : Int) + 3)) = ofL (tok ((toL x).drop k)) := by
  have e : Txt.slice x (some (k : Int)) (some ((k : Int) + 3)) = ofL (((toL x).drop k).take 3) := by
    rw [show ((k : Int) + 3) = ((k + 3 : Nat) : Int) by omega, slice_mid x (by omega) (by omega), show k + 3 - k = 3 by omega]
  rw [e, toL_ofL] at h
  rw [e]; unfold tok; rw [if_pos h]
theorem tok_eq2 {x : Str} {k : Nat} (hk : (k : Int) < (x.length : Nat)) (h3 : inT (toL (Txt.slice x (some (k : Int)) (some ((k : Int) + 3)))) = false) (h : inT (toL (Txt.slice x (some (k : Int)) (some ((k : Int) + 2)))) = true) : Txt.slice x (some (k : Int)) (some ((k : Int) + 2)) = ofL (tok ((toL x).drop k)) := by
  have e3 : Txt.slice x (some (k : Int)) (some ((k : Int) + 3)) = ofL (((toL x).drop k).take 3) := by
    rw [show ((k : Int) + 3) = ((k + 3 : Nat) : Int) by omega, slice_mid x (by omega) (by omega), show k + 3 - k = 3 by omega]
  have e : Txt.slice x (some (k : Int)) (some ((k : Int) + 2)) = ofL (((toL x).drop k).take 2) := by
    rw [show ((k : Int) + 2) = ((k + 2 : Nat) : Int) by omega, slice_mid x (by omega) (by omega), show k + 2 - k = 2 by omega]
  rw [e, toL_ofL] at h
  rw [e3, toL_ofL] at h3
  rw [e]; unfold tok; rw [if_neg (by rw [h3]; decide), if_pos h]
theorem tok_eq1 {x : Str} {k : Nat} (hk : (k : Int) < (x.length : Nat)) (h3 : inT (toL (Txt.slice x (some (k : Int)) (some ((k : Int) + 3)))) = false) (h : inT (toL (Txt.slice x (some (k : Int)) (some ((k : Int) + 2)))) = false) : Txt.item x (k : Int) = ofL (tok ((toL x).drop k)) := by
  have e3 : Txt.slice x (some (k : Int)) (some ((k : Int) + 3)) = ofL (((toL x).drop k).take 3) := by
    rw [show ((k : Int) + 3) = ((k + 3 : Nat) : Int) by omega, slice_mid x (by omega) (by omega), show k + 3 - k = 3 by omega]
  have e : Txt.slice x (some (k : Int)) (some ((k : Int) + 2)) = ofL (((toL x).drop k).take 2) := by
    rw [show ((k : Int) + 2) = ((k + 2 : Nat) : Int) by omega, slice_mid x (by omega) (by omega), show k + 2 - k = 2 by omega]
  rw [e, toL_ofL] at h
  rw [e3, toL_ofL] at h3
  rw [item_at x (by omega)]; unfold tok; rw [if_neg (by rw [h3]; decide), if_neg (by rw [h]; decide)]
def PFor (s : Shared) (g : Heap) (L' : Addr) (x : Str) (t : Tok) (lc : Addr) (k : Nat) (y q : List Nat) (fl : Flow) (s' : Shared) : Prop :=
  fl = .next ∧ ∃ h' tk' m' tp' ta' tc', s' = { s with heap := h', toks := tk' } ∧ Fr g L' h' m' ∧ News g L' h' [] ∧ m' "at" = some (.int (k : Int) ta') ∧ m' "path" = some (.str (ofL y) tp') ∧ m' "text" = some (.str x t) ∧ m' "counts" = some (.ref lc) ∧ m' "piece" = some (.str (ofL q) tc')
theorem stepP_eq {ns : List Int} {k : Nat} {t q y : List Nat} {n v : Int} (hq : q = tok (t.drop k)) (hv : v = symL q) (hn : n = ns.getD ((k : Int).toNat) 0 + (if 0 < k then 1 else 0)) : y ++ sl n.toNat ++ dg v = y ++ stepP ns k t := by
  subst hq hv hn
  unfold stepP
  rw [List.append_assoc, Int.toNat_natCast]
theorem sym_in {q : List Nat} (h : inT q = true) : valT q = symL q := by unfold symL; rw [if_pos h]
theorem sym_out {q : List Nat} (h : inT q = false) : 256 + ((q.headD 0 : Nat) : Int) = symL q := by unfold symL; rw [h, if_neg (by decide)]
theorem pathL_done {ns : List Int} {t : List Nat} {f k : Nat} {y : List Nat} (h : ¬ k < t.length) : pathL ns t f k y = y := by
  cases f with
  | zero => rfl
  | succ f => rw [pathL, if_neg h]
theorem pfor_intro {s : Shared} {g h' : Heap} {L' : Addr} {x : Str} {t : Tok} {lc : Addr} {k : Nat} {y q : List Nat} {m' : Str → Option Value} {tp' ta' tc' : Tok} {tk' : Nat} {z : Str} (F : Fr g L' h' m') (h1 : m' "at" = some (.int (k : Int) ta')) (h2 : m' "path" = some (.str (ofL y) tp')) (h3 : m' "text" = some (.str x t)) (h4 : m' "counts" = some (.ref lc)) (h5 : m' "piece" = some (.str z tc')) (e : z = ofL q) :
    PFor s g L' x t lc k y q .next { s with heap := h', toks := tk' } := ⟨rfl, h', tk', m', tp', ta', tc', rfl, F, News.nil, h1, h2, h3, h4, e ▸ h5⟩
theorem jp_step {x : Str} {t : Tok} {lc : Addr} {ns : List Int} {k f : Nat} {y : List Nat} {m' : Str → Option Value} {ta tp : Tok} {i : Int} {yy : Str} (hk : k < x.length) (hf : x.length ≤ k + f) (hy : y.length ≤ 8 * k) (hP : pathL ns (toL x) f k y = pathOf ns (toL x))
    (h1 : m' "text" = some (.str x t)) (h2 : m' "counts" = some (.ref lc)) (h3 : m' "at" = some (.int i ta)) (h4 : m' "path" = some (.str yy tp)) (hi : i = (k : Int) + ((tok ((toL x).drop k)).length : Nat)) (hyy : yy = ofL (y ++ stepP ns k (toL x))) (hz : (y ++ stepP ns k (toL x)).length ≤ y.length + 8) :
    ∃ n', n' < x.length - k ∧ Jp x t lc ns n' m' [] := by
  have hl := toL_length x
  have hne : (toL x).drop k ≠ [] := by
    intro e
    have := congrArg List.length e
    rw [List.length_drop, List.length_nil] at this
    omega
  obtain ⟨a1, a2, a3⟩ := tok_len hne
  rw [List.length_drop] at a2
  obtain ⟨g, rfl⟩ : ∃ g, f = g + 1 := ⟨f - 1, by omega⟩
  rw [pathL, if_pos (by omega)] at hP
  refine ⟨x.length - (k + (tok ((toL x).drop k)).length), by omega, rfl, k + (tok ((toL x).drop k)).length, g, ta, tp, y ++ stepP ns k (toL x), by omega, rfl, h1, h2, ?_, by rw [h4, hyy], by omega, by omega, hP⟩
  rw [h3, hi]; rfl
theorem ws_intro {s : Shared} {g h' : Heap} {L' : Addr} {Q : Flow → Shared → Prop} {x : Str} {t : Tok} {lc : Addr} {ns : List Int} {k f : Nat} {y z : List Nat} {m' : Str → Option Value} {ta tp : Tok} {i : Int} {yy : Str} {tk' : Nat} (F : Fr g L' h' m') (h1 : m' "text" = some (.str x t)) (h2 : m' "counts" = some (.ref lc)) (h3 : m' "at" = some (.int i ta)) (h4 : m' "path" = some (.str yy tp))
    (hk : k < x.length) (hf : x.length ≤ k + f) (hy : y.length ≤ 8 * k) (hP : pathL ns (toL x) f k y = pathOf ns (toL x)) (hi : i = (k : Int) + ((tok ((toL x).drop k)).length : Nat)) (hyy : yy = ofL z) (hz : z = y ++ stepP ns k (toL x)) (hl : z.length ≤ y.length + 8) :
    WhileStep2 g L' s (Jp x t lc ns) Q (x.length - k) .next { s with heap := h', toks := tk' } := by
  subst hz
  obtain ⟨n', h6, h7⟩ := jp_step hk hf hy hP h1 h2 h3 h4 hi hyy hl
  exact ⟨h', tk', m', [], n', rfl, F, News.nil, h6, h7⟩
local macro_rules | `(tactic| walk_at "compareOp In str ref") => `(tactic| (k_here; (with_reducible show wpAny _ _ (compareOp CmpOp.In (Value.str _ _) (Value.ref 155)) _ _ _); refine in155 (by k_in) ?_; (try simp only [toL_ofL])))
local macro_rules | `(tactic| walk_at "subscriptTail Name Name ref str") => `(tactic| (k_here; (with_reducible show wpAny _ _ (subscriptTail _ _ (Value.ref 155) (Value.str _ _)) _ _ _); refine item155 (by k_in) (by (try simp only [toL_ofL]); assumption) ?_; intro _; (try simp only [toL_ofL])))
local macro_rules | `(tactic| walk_at "call type:str") => `(tactic| (k_here; (with_reducible show wpAny _ _ (call (Value.type "str") [Value.int _ _]) _ _ _); refine str_int (by omega) (by omega) ?_; intro _ hSl))
local macro_rules | `(tactic| walk_at "binaryOp Mult str int") => `(tactic| (k_here; (with_reducible show wpAny _ _ (binaryOp _ (Value.str (Str.ofString "/") _) (Value.int _ _)) _ _ _); refine mul_sl (by omega) (by omega) ?_; intro _ _ hMl))
local macro_rules | `(tactic| walk_at "binaryOp Add str str") => `(tactic| (k_here; (with_reducible show wpAny _ _ (binaryOp _ (Value.str (ofL _) _) (Value.str (ofL _) _)) _ _ _); refine add_ofL (by (try simp only [List.length_append]); omega) ?_; intro _ _))
local macro_rules | `(tactic| walk_at "call builtin:len") => `(tactic| (k_here; (with_reducible show wpAny _ _ (call (Value.builtin "len") [Value.str (ofL _) _]) _ _ _); refine len_ofL (by first | omega | (have := (tok_len (drop_ne (by omega : (_ : Int) < _))).2.2; omega)) ?_; intro _ _))
local macro_rules | `(tactic| walk_at "call builtin:ord") => `(tactic| (k_here; refine ord_tok (drop_ne (by omega)) (by first | assumption | (simp only [Bool.not_eq_true] at *; assumption)) (by assumption) ?_; intro hOd))
local macro_rules | `(tactic| walk_at "exec For Name Tuple cons nil") => `(tactic| k_dflt (k_here; (rename Cut _ => cC); (refine wpAny_cut cC ?_ ?_) <;> clear cC; rotate_left; (intro _ _ hC9; obtain ⟨hfl9, hp9, tk9, mp9, tp9, ta9, tc9, hs9, F9, N9, h19, h29, h39, h49, h59⟩ := hC9; subst hfl9 hs9; replace F9 := fr_bind5 F9 h19 h29 h39 h49 h59; clear h19 h29 h39 h49 h59); rotate_left))
set_option maxHeartbeats 800000 in
theorem c_path {w : World} {p : Program} {loose : List Str} {mean : ExcName → Option Value} {mg mb : Str → Option Value} {dp un : Nat} {gd : Option (List Code)} {cn : Str} {cs : Scope} {a : Addr} {ccd : Value} {cl : List (Str × Addr)} {outer : List Env} {A₀ : Around} {base h₀ : Heap} {L : Addr} {m : Str → Option Value} {s : Shared} {Q E : Value → Shared → Prop} {x : Str} {t : Tok} {lc : Addr} {vs : List Value} {ns : List Int} (B : Below A₀ base outer h₀) (F : Fr h₀ L s.heap m) (X : (laid.heap_1 w.params).In h₀) (T : Top p loose mean mg mb h₀) (hk : cs.kind = .function) (hd : dp + 9 < recursionLimit) (hu : un + 64 < cLine) (hx : x.length ≤ 16) (hS : ∀ c ∈ toL x, c ≤ 126) (hl : s.heap.IsList lc vs.toArray) (hi : IntsAre vs ns) (hlen : x.length ≤ ns.length) (hb : ∀ n ∈ ns, 0 ≤ n ∧ n ≤ 2)
  (ret : ∀ u h' tk', (∀ b o, s.heap.get? b = some o → h'.get? b = some o) → Q (.str (ofL (pathOf ns (toL x))) u) { s with heap := h', toks := tk' }) :
  wpAny (model PySem.Challenge.rw_ij0098_01.row.prog w) (ktrTop dp un gd cn cs L a ccd cl outer) (call (.ref 171) [.str x t, .ref lc]) Q E s := by
  (revert X; k_fill; intro X)
  refine wpAny_call ?_
  (k_dflt (refine' code_defG ?k1 ?k2 ?k3 ?k4 ?k5 ?kA ?kF ?kK ?k6 ?k7 ?k8 ?k9 ?kB ?_ ?c2 ?c3 ?c4 ?c5; (case kA => exact rfl); (case kF => exact rfl); (case kK => exact hk); (case k1 => k_asm); (case k2 => k_asm); (case k3 => k_asm); (case k4 => exact News.nil); (case k5 => k_asm); (case k6 => k_is); (case k7 => k_is); (case k8 => k_room); (case k9 => exact BindsTo.of_eq rfl); (case c5 => decide); (case kB => exact locs rfl); (case c2 => exact rfl); (case c3 => exact rfl); (case c4 => exact rfl); k_whole; intro g' L' h' FG' F' N' B' X' T' kG'; (try dsimp only); (try k_lift B')))
  have hl' : g'.IsList lc vs.toArray := let ⟨o, ho, r⟩ := hl; ⟨o, kG' _ _ ho (by simp), r⟩
  clear hl
  k_with "exec While Compare cons nil" => (refine' While_inv2 (Jp x t lc ns) (n₀ := x.length) ?F ?N ?J ?_; (case F => k_asm); (case N => k_asm); (case J => exact ⟨rfl, 0, x.length, _, _, [], Nat.zero_le _, rfl, rfl, rfl, rfl, rfl, by decide, by omega, rfl⟩); rintro n m₁ nx h₁ tk₁ F₁ N₁ ⟨rfl, k, f, ta, tp, y, hk9, rfl, h1, h2, h3, h4, hy, hf, hP⟩; replace F₁ := fr_bind4 F₁ h3 h4 h1 h2; clear h1 h2 h3 h4; have hv := valT_le (tok ((toL x).drop k)); have hc := counts_le hb (k := k); have hb' : ∀ c ∈ (toL x).drop k, c ≤ 126 := fun c hc => hS c (List.mem_of_mem_drop hc); have hCut : Cut (PFor s g' L' x t lc k y (tok ((toL x).drop k))) := trivial)
  (repeat' (first | (k_unfold; (try dsimp only)) | (k_end; wrow_close) | walk1 | (dsimp only; walk1) | (leave1; walk_say "STEP leave1"; try dsimp only) | fail "no step"))
  all_goals (first
    | ((with_reducible show PFor _ _ _ _ _ _ _ _ _ _ _); refine' pfor_intro ?F ?h1 ?h2 ?h3 ?h4 ?h5 ?e; (case F => assumption); (case h1 => exact rfl); (case h2 => exact rfl); (case h3 => exact rfl); (case h4 => exact rfl); (case h5 => exact rfl); (case e => first
        | with_reducible exact tok_eq3 (by assumption) (by assumption)
        | with_reducible exact tok_eq2 (by assumption) (by assumption) (by assumption)
        | with_reducible exact tok_eq1 (by assumption) (by assumption) (by assumption)))
    | ((with_reducible show WhileStep2 _ _ _ _ _ _ _ _); refine' ws_intro (f := f) (y := y) ?F ?h1 ?h2 ?h3 ?h4 ?hk hf hy hP ?hi ?hyy ?hz ?hl; (case F => assumption); (case h1 => exact rfl); (case h2 => exact rfl); (case h3 => exact rfl); (case h4 => exact rfl); (case hk => omega); (case hyy => exact rfl); (case hi => exact rfl); (case hz => exact stepP_eq rfl (by first | exact sym_in (by assumption) | exact sym_out (by assumption)) (by split <;> omega)); (case hl => (simp only [List.length_append]; omega)))
    | (rename ¬ (_ : Int) < _ => hend; rw [pathL_done (by rw [toL_length]; omega)] at hP; subst hP; exact ret _ _ _ fun b o e => F₁.keep b o (kG' b o e (by simp))))
end

section
def Je (x : Str) (t : Tok) (n : Nat) (m : Str → Option Value) (nx : List (Addr × Obj)) : Prop :=
  ∃ (k f : Nat) (ta : Tok) (l : Addr) (vs : List Value) (c : Nat) (es : List Nat), k ≤ x.length ∧ n = x.length - k ∧ m "text" = some (.str x t) ∧ m "at" = some (.int (k : Int) ta) ∧ m "ends" = some (.ref l) ∧
    nx = [(l, { cls := .type "list", data := .seq vs.toArray c })] ∧ IntsAre vs (zs es) ∧ es.length ≤ k ∧ x.length ≤ k + f ∧ endsL (toL x) f k es = endsOf (toL x)
def PIf (s : Shared) (g : Heap) (L' : Addr) (x : Str) (t : Tok) (k : Nat) (l : Addr) (vs : List Value) (c : Nat) (z : Nat) (fl : Flow) (s' : Shared) : Prop :=
  fl = .next ∧ ∃ h' tk' m' ta' tc', s' = { s with heap := h', toks := tk' } ∧ Fr g L' h' m' ∧ News g L' h' [(l, { cls := .type "list", data := .seq vs.toArray c })] ∧ m' "at" = some (.int (k : Int) ta') ∧ m' "text" = some (.str x t) ∧ m' "ends" = some (.ref l) ∧ m' "size" = some (.int (z : Int) tc')
theorem pif_intro {s : Shared} {g h' : Heap} {L' : Addr} {x : Str} {t : Tok} {k : Nat} {l : Addr} {vs : List Value} {c z : Nat} {i : Int} {m' : Str → Option Value} {ta' tc' : Tok} {tk' : Nat} {all : List (Addr × Obj)} (F : Fr g L' h' m') (N : News g L' h' all) (hm : (l, ({ cls := .type "list", data := .seq vs.toArray c } : Obj)) ∈ all)
    (h1 : m' "at" = some (.int (k : Int) ta')) (h2 : m' "text" = some (.str x t)) (h3 : m' "ends" = some (.ref l)) (h4 : m' "size" = some (.int i tc')) (e : i = (z : Int)) : PIf s g L' x t k l vs c z .next { s with heap := h', toks := tk' } :=
  ⟨rfl, h', tk', m', ta', tc', rfl, F, fun p hp => by rw [List.mem_singleton.mp hp]; exact N _ hm, h1, h2, h3, e ▸ h4⟩
theorem je_step {x : Str} {t : Tok} {k f : Nat} {es : List Nat} {m' : Str → Option Value} {ta : Tok} {i : Int} {l : Addr} {us : List Value} {c : Nat} {is : List Int} {s : Shared} {g h' : Heap} {L' : Addr} {Q : Flow → Shared → Prop} {tk' : Nat} {all : List (Addr × Obj)} (F : Fr g L' h' m') (N : News g L' h' all) (hm : (l, ({ cls := .type "list", data := .seq us.toArray c } : Obj)) ∈ all)
    (h1 : m' "text" = some (.str x t)) (h2 : m' "at" = some (.int i ta)) (h3 : m' "ends" = some (.ref l)) (hk : k < x.length) (hf : x.length ≤ k + f) (hle : es.length ≤ k) (hP : endsL (toL x) f k es = endsOf (toL x)) (hi : i = (k : Int) + (esz ((toL x).drop k) : Nat)) (hu : IntsAre us is) (his : is = [(k : Int) + (esz ((toL x).drop k) : Nat)] ++ zs es) :
    WhileStep2 g L' s (Je x t) Q (x.length - k) .next { s with heap := h', toks := tk' } := by
  have hl := toL_length x
  have hne : (toL x).drop k ≠ [] := fun e => by
    have := congrArg List.length e
    rw [List.length_drop, List.length_nil] at this
    omega
  have a1 := esz_pos ((toL x).drop k)
  have a2 := esz_le hne
  rw [List.length_drop] at a2
  obtain ⟨g', rfl⟩ : ∃ g, f = g + 1 := ⟨f - 1, by omega⟩
  rw [endsL, if_pos (by omega)] at hP
  refine ⟨h', tk', m', _, x.length - (k + esz ((toL x).drop k)), rfl, F, fun p hp => by rw [List.mem_singleton.mp hp]; exact N _ hm, by omega, k + esz ((toL x).drop k), g', ta, l, us, c, (k + esz ((toL x).drop k)) :: es, by omega, rfl, h1, ?_, h3, rfl, ?_, by rw [List.length_cons]; omega, by omega, hP⟩
  · rw [h2, hi]; rfl
  · rw [his] at hu; exact hu
theorem endsL_done {t : List Nat} {f k : Nat} {y : List Nat} (h : ¬ k < t.length) : endsL t f k y = y := by
  cases f with
  | zero => rfl
  | succ f => rw [endsL, if_neg h]
local macro_rules | `(tactic| kmk_sum) => `(tactic| ((simp only [sizeLine_eq, List.length_cons, List.length_nil, zs_len]); omega))
local macro_rules | `(tactic| walk_at "exec If") => `(tactic| k_dflt (k_here; (rename Cut _ => cC); (refine wpAny_cut cC ?_ ?_) <;> clear cC; rotate_left; (intro _ _ hC9; obtain ⟨hfl9, hp9, tk9, mp9, ta9, tc9, hs9, F9, N9, h19, h29, h39, h49⟩ := hC9; subst hfl9 hs9; replace F9 := fr_bind4 F9 h19 h29 h39 h49; clear h19 h29 h39 h49); rotate_left))
set_option maxHeartbeats 8000000 in
theorem c_ends {w : World} {p : Program} {loose : List Str} {mean : ExcName → Option Value} {mg mb : Str → Option Value} {dp un : Nat} {gd : Option (List Code)} {cn : Str} {cs : Scope} {a : Addr} {ccd : Value} {cl : List (Str × Addr)} {outer : List Env} {A₀ : Around} {base h₀ : Heap} {L : Addr} {m : Str → Option Value} {s : Shared} {Q E : Value → Shared → Prop} {x : Str} {t : Tok} (B : Below A₀ base outer h₀) (F : Fr h₀ L s.heap m) (X : (laid.heap_1 w.params).In h₀) (T : Top p loose mean mg mb h₀) (hk : cs.kind = .function) (hd : dp + 9 < recursionLimit) (hu : un + 64 < cLine) (hx : x.length ≤ 16)
  (ret : ∀ l vs c h' tk', (∀ b o, s.heap.get? b = some o → h'.get? b = some o) → h'.get? l = some { cls := .type "list", data := .seq vs.toArray c } → s.heap.get? l = none → IntsAre vs (zs (endsOf (toL x))) → Q (.ref l) { s with heap := h', toks := tk' }) :
  wpAny (model PySem.Challenge.rw_ij0098_01.row.prog w) (ktrTop dp un gd cn cs L a ccd cl outer) (call (.ref 178) [.str x t]) Q E s := by
  (revert X; k_fill; intro X)
  refine wpAny_call ?_
  (k_dflt (refine' code_defG ?k1 ?k2 ?k3 ?k4 ?k5 ?kA ?kF ?kK ?k6 ?k7 ?k8 ?k9 ?kB ?_ ?c2 ?c3 ?c4 ?c5; (case kA => exact rfl); (case kF => exact rfl); (case kK => exact hk); (case k1 => k_asm); (case k2 => k_asm); (case k3 => k_asm); (case k4 => exact News.nil); (case k5 => k_asm); (case k6 => k_is); (case k7 => k_is); (case k8 => k_room); (case k9 => exact BindsTo.of_eq rfl); (case c5 => decide); (case kB => exact locs rfl); (case c2 => exact rfl); (case c3 => exact rfl); (case c4 => exact rfl); k_whole; intro g' L' h' FG' F' N' B' X' T' kG'; (try dsimp only); (try k_lift B')))
  k_with "exec While Compare cons nil" => (refine' While_inv2 (Je x t) (n₀ := x.length) ?F ?N ?J ?_; (case F => k_asm); (case N => k_asm); (case J => exact ⟨0, x.length, _, _, [], 0, [], Nat.zero_le _, rfl, rfl, rfl, rfl, rfl, .nil, Nat.le_refl _, by omega, rfl⟩); rintro n m₁ nx h₁ tk₁ F₁ N₁ ⟨k, f, ta, l, vs, c, es, hk9, rfl, h1, h2, h3, rfl, hi, hle, hf, hP⟩; replace F₁ := fr_bind3 F₁ h2 h1 h3; clear h1 h2 h3; have hCut : Cut (PIf s g' L' x t k l vs c (esz ((toL x).drop k))) := trivial)
  (repeat' (first | (k_unfold; (try dsimp only)) | (k_end; wrow_close) | walk1 | (dsimp only; walk1) | (leave1; walk_say "STEP leave1"; try dsimp only) | fail "no step"))
  all_goals (first
    | ((with_reducible show PIf _ _ _ _ _ _ _ _ _ _ _ _); (refine' pif_intro ?F ?N ?M ?h1 ?h2 ?h3 ?h4 ?e; (case F => assumption); (case N => assumption); (case M => k_mem); (case h1 => exact rfl); (case h2 => exact rfl); (case h3 => exact rfl); (case h4 => exact rfl); (case e => (rw [esz_ez (by omega)]; first
        | (rw [ez_a (by with_reducible assumption)]; rfl)
        | (rw [ez_b (by with_reducible assumption) (by with_reducible assumption)]; rfl)
        | (rw [ez_c0 (by with_reducible assumption) (by with_reducible assumption) (by with_reducible assumption) (by with_reducible assumption) (by with_reducible assumption)]; rfl)
        | (rw [ez_c1 (by with_reducible assumption) (by with_reducible assumption) (by with_reducible assumption) (by with_reducible assumption) (by with_reducible assumption)]; rfl)
        | (rw [ez_d0 (by with_reducible assumption) (by with_reducible assumption) (by with_reducible assumption) (by with_reducible assumption) (by with_reducible assumption)]; rfl)
        | (rw [ez_d1 (by with_reducible assumption) (by with_reducible assumption) (by with_reducible assumption) (by with_reducible assumption) (by with_reducible assumption)]; rfl)
        | (rw [ez_e0 (by with_reducible assumption) (by with_reducible assumption) (by with_reducible assumption) (by with_reducible assumption) (by with_reducible assumption) (by with_reducible assumption)]; rfl)
        | (rw [ez_e1 (by with_reducible assumption) (by with_reducible assumption) (by with_reducible assumption) (by with_reducible assumption) (by with_reducible assumption) (by with_reducible assumption)]; rfl)
        | (rw [ez_c (by with_reducible assumption) (by with_reducible assumption) (by with_reducible assumption) (by with_reducible assumption)]; rfl)
        | (rw [ez_d (by with_reducible assumption) (by with_reducible assumption) (by with_reducible assumption) (by with_reducible assumption)]; rfl)
        | (rw [ez_e (by with_reducible assumption) (by with_reducible assumption) (by with_reducible assumption) (by with_reducible assumption) (by with_reducible assumption)]; rfl)))))
    | ((with_reducible show WhileStep2 _ _ _ _ _ _ _ _); refine' je_step (f := f) (es := es) ?F ?N ?M ?h1 ?h2 ?h3 ?hk hf hle hP ?hi ?hu ?his; (case F => assumption); (case N => assumption); (case M => k_mem); (case h1 => exact rfl); (case h2 => exact rfl); (case h3 => exact rfl); (case hk => omega); (case hi => exact rfl); (case hu => assumption); (case his => exact rfl))
    | ((rename ¬ (_ : Int) < _ => hend); (rw [endsL_done (by rw [toL_length]; omega)] at hP; subst hP; exact ret _ _ _ _ _ (fun b o e => F₁.keep b o (kG' b o e (by simp))) (N₁ _ (List.mem_singleton.mpr rfl)).1 (fresh_of kG' (N₁ _ (List.mem_singleton.mpr rfl)).2.2) hi)))
end

section
/-! calls where nothing is known of the frames below -/
abbrev topN (dp un : Nat) : Around := { handled := none, depth := dp, frames := none, guards := none, units := un }
def LeaveN (R : Result → Shared → Prop) (v : Value) (s' : Shared) : Prop := R (.ok (.ret v)) s'
theorem code_defN {prog : Program} {w : World} {dp un : Nat} {K : Frag} {R : Result → Shared → Prop} {name qual : Str} {params : Arguments} {body : List Stmt} {scope : Scope} {dV kV doc pm cdv ct oc : Value} {an od : Option Addr} {osl : Array (Option Value)} {f : Addr} {args : Args} {binds : List (Str × Value)}
    {p : Program} {loose : List Str} {mean : ExcName → Option Value} {mg mb : Str → Option Value} {s : Shared}
    (X₀ : K.In s.heap) (T : Top p loose mean mg mb s.heap)
    (ho : K.lookup f = some ⟨oc, od, .func (fnOf name qual params body scope dV kV doc pm an cdv ct), osl⟩) (hcd : codeIn K cdv qual = true) (hroom : dp < recursionLimit)
    (hbind : BindsTo s (fnOf name qual params body scope dV kV doc pm an cdv ct) args binds) (hloc : ∀ y ∈ binds, scope.names.lookup y.1 = some .local)
    (h : ∀ g L' h₁, g = s.heap → Fr g L' h₁ (fun y => binds.reverse.lookup y) → News g L' h₁ [] → K.In g → Top p loose mean mg mb g →
      wpAny (model prog w) (topN (dp + 1) (un + 3)) (execs body (envOf qual scope L' f cdv))
        (fun fl s' => LeaveN R (match fl with | .ret v => v | _ => .none) s')
        (fun e s' => wpAny (model prog w) (topN (dp + 1) (un + 3)) (leaving (envOf qual scope L' f cdv) e) (fun _ s'' => R (.error e) s'') (fun e' s'' => R (.error e') s'') s')
        { s with heap := h₁, toks := s.toks + binds.length })
    (hco : scope.isCoroutine = false) (hgen : scope.isGenerator = false) (hk : scope.kind = .function)
    (hcell : ∀ x ∈ scope.names, x.2 ≠ .cell) : codeAny (model prog w) (topN dp un) (.call (.ref f) args) R s := by
  refine codeAny_call_def (fd := fnX name qual params body scope [] dV kV doc pm an cdv ct) (body := body) (binds := binds) hroom (X₀ _ _ ho) rfl T.nolimit (codeRec_of X₀ hcd) rfl hbind hcell hloc (fun h₁ hns hk₁ => ?_) hco hgen hk
  exact h s.heap s.heap.objs.size h₁ rfl ⟨hns, hk₁, Nat.le_refl _⟩ News.nil X₀ T
theorem callN {M : Model} {A : Around} {f : Value} {pos : List Value} {kw : List (Str × Value)} {Q : Value → Shared → Prop} {E : Value → Shared → Prop} {s : Shared}
    (hc : codeAny M A (.call f ⟨pos, kw⟩) (fun r s' => match r with | .ok (.ret v) => Q v s' | .ok _ => False | .error e => E e s') s) :
    wpAny M A (call f pos kw) Q E s := wpAny_runValue hc
local macro_rules | `(tactic| k_room) => `(tactic| (show _ < recursionLimit; dsimp only [topN] at *; omega))
local macro_rules | `(tactic| k_units) => `(tactic| (have hcL9 := cLine_is; dsimp only [topN] at *; omega))

theorem fr_keep {g h h' : Heap} {L : Addr} {m : Str → Option Value} (F : Fr g L h m) (k : ∀ b o, h.get? b = some o → h'.get? b = some o) : Fr g L h' m := ⟨let ⟨oL, es, ep, hL, r⟩ := F.ns; ⟨oL, es, ep, k _ _ hL, r⟩, fun b o e => k b o (F.keep b o e), F.above⟩
theorem news_keep {g h h' : Heap} {L : Addr} {l : List (Addr × Obj)} (N : News g L h l) (k : ∀ b o, h.get? b = some o → h'.get? b = some o) : News g L h' l := fun p hp => ⟨k _ _ (N p hp).1, (N p hp).2⟩
set_option maxHeartbeats 8000000 in
theorem c_kindN {w : World} {p : Program} {loose : List Str} {mean : ExcName → Option Value} {mg mb : Str → Option Value} {dp un : Nat} {s : Shared} {Q E : Value → Shared → Prop} {x n : Str} {t tn : Tok} (X : (laid.heap_1 w.params).In s.heap) (T : Top p loose mean mg mb s.heap) (hd : dp + 5 < recursionLimit) (hu : un + 40 < cLine)
  (ret : ∀ tv h' tk', (∀ b o, s.heap.get? b = some o → h'.get? b = some o) → Q (.str Str.empty tv) { s with heap := h', toks := tk' }) :
  wpAny (model PySem.Challenge.rw_ij0098_01.row.prog w) (topN dp un) (call (.ref 126) [.str n tn, .str x t]) Q E s := by
  (revert X; k_fill; intro X)
  refine wpAny_call ?_
  (k_dflt (refine' code_defN ?k3 ?k5 ?k6 ?k7 ?k8 ?k9 ?kB ?_ ?c2 ?c3 ?c4 ?c5; (case k3 => k_asm); (case k5 => k_asm); (case k6 => k_is); (case k7 => k_is); (case k8 => k_room); (case k9 => exact BindsTo.of_eq rfl); (case c5 => decide); (case kB => exact locs rfl); (case c2 => exact rfl); (case c3 => exact rfl); (case c4 => exact rfl); k_whole; intro g' L' h' hg' F' N' X' T'; (try dsimp only)))
  (repeat' (first | (k_unfold; (try dsimp only)) | (k_end; wrow_close) | walk1 | (dsimp only; walk1) | (leave1; walk_say "STEP leave1"; try dsimp only) | fail "no step"))
  all_goals ((rename Fr _ _ _ _ => F9); subst hg'; exact ret _ _ _ (fun b o e => F9.keep b o e))
local macro_rules | `(tactic| walk_at "call ref") => `(tactic| (k_here; (with_reducible show wpAny _ (topN _ _) (call (Value.ref 126) [Value.str _ _, Value.str _ _]) _ _ _); (rename Fr _ _ _ _ => F9); (rename News _ _ _ _ => N9); (rename Frag.In _ _ => X9); (rename Top _ _ _ _ _ _ => T9); (k_dflt (refine' c_kindN (X9.keeps F9.keep) (T9.keeps F9.keep) ?hd ?hu ?ret; (case hd => omega); (case hu => omega); intro _ _ _ hk9; replace F9 := fr_keep F9 hk9; replace N9 := news_keep N9 hk9; clear hk9; (try dsimp only)))))
set_option maxHeartbeats 8000000 in
theorem c_fspathN {w : World} {p : Program} {loose : List Str} {mean : ExcName → Option Value} {mg mb : Str → Option Value} {dp un : Nat} {s : Shared} {Q E : Value → Shared → Prop} {x n : Str} {t tn : Tok} (X : (laid.heap_1 w.params).In s.heap) (T : Top p loose mean mg mb s.heap) (hd : dp + 6 < recursionLimit) (hu : un + 50 < cLine)
  (ret : ∀ tv h' tk', (∀ b o, s.heap.get? b = some o → h'.get? b = some o) → Q (.str x tv) { s with heap := h', toks := tk' }) :
  wpAny (model PySem.Challenge.rw_ij0098_01.row.prog w) (topN dp un) (call (.ref 133) [.str n tn, .str x t]) Q E s := by
  (revert X; k_fill; intro X)
  refine wpAny_call ?_
  (k_dflt (refine' code_defN ?k3 ?k5 ?k6 ?k7 ?k8 ?k9 ?kB ?_ ?c2 ?c3 ?c4 ?c5; (case k3 => k_asm); (case k5 => k_asm); (case k6 => k_is); (case k7 => k_is); (case k8 => k_room); (case k9 => exact BindsTo.of_eq rfl); (case c5 => decide); (case kB => exact locs rfl); (case c2 => exact rfl); (case c3 => exact rfl); (case c4 => exact rfl); k_whole; intro g' L' h' hg' F' N' X' T'; (try dsimp only)))
  (repeat' (first | (k_unfold; (try dsimp only)) | (k_end; wrow_close) | walk1 | (dsimp only; walk1) | (leave1; walk_say "STEP leave1"; try dsimp only) | fail "no step"))
  all_goals ((rename Fr _ _ _ _ => F9); subst hg'; exact ret _ _ _ (fun b o e => F9.keep b o e))
abbrev hdC (x : Str) : Str := Txt.slice x none (some (Txt.rfind x (Str.ofString "/") + 1))
def hdS (x : Str) : Str := if ((hdC x).length : Int) = 0 then hdC x else if (hdC x != Txt.mul (Str.ofString "/") ((hdC x).length : Nat)) = true then Txt.rstripChars (hdC x) (Str.ofString "/") else hdC x
theorem hdS_0 {x : Str} (h : ((hdC x).length : Int) = 0) : hdC x = hdS x := by unfold hdS; rw [if_pos h]
theorem hdS_1 {x : Str} (h : ((hdC x).length : Int) ≠ 0) (h2 : (hdC x != Txt.mul (Str.ofString "/") ((hdC x).length : Nat)) = true) : Txt.rstripChars (hdC x) (Str.ofString "/") = hdS x := by unfold hdS; rw [if_neg h, if_pos h2]
theorem hdS_2 {x : Str} (h : ((hdC x).length : Int) ≠ 0) (h2 : (hdC x != Txt.mul (Str.ofString "/") ((hdC x).length : Nat)) = false) : hdC x = hdS x := by unfold hdS; rw [if_neg h, h2, if_neg (by decide)]
local macro_rules | `(tactic| walk_at "call ref") => `(tactic| (k_here; (with_reducible show wpAny _ (topN _ _) (call (Value.ref 133) [Value.str _ _, Value.str _ _]) _ _ _); (rename Fr _ _ _ _ => F9); (rename News _ _ _ _ => N9); (rename Frag.In _ _ => X9); (rename Top _ _ _ _ _ _ => T9); (k_dflt (refine' c_fspathN (X9.keeps F9.keep) (T9.keeps F9.keep) ?hd ?hu ?ret; (case hd => omega); (case hu => omega); intro _ _ _ hk9; replace F9 := fr_keep F9 hk9; replace N9 := news_keep N9 hk9; clear hk9; (try dsimp only)))))
theorem split_ret {s : Shared} {g h' : Heap} {L D : Addr} {m : Str → Option Value} {all : List (Addr × Obj)} {x y z : Str} {t1 t2 : Tok} {tk' : Nat} {Q : Value → Shared → Prop} (ret : ∀ D t1 t2 z h' tk', (∀ b o, s.heap.get? b = some o → h'.get? b = some o) → h'.get? D = some { cls := .type "tuple", data := .seq #[.str (hdS x) t1, .str z t2] } → s.heap.get? D = none → Q (.ref D) { s with heap := h', toks := tk' })
    (hg : g = s.heap) (F : Fr g L h' m) (N : News g L h' all) (hm : (D, ({ cls := .type "tuple", data := .seq #[.str y t1, .str z t2] } : Obj)) ∈ all) (e : y = hdS x) : Q (.ref D) { s with heap := h', toks := tk' } := by
  subst hg e
  exact ret D t1 t2 z h' tk' F.keep (N _ hm).1 (N _ hm).2.2
set_option maxHeartbeats 8000000 in
theorem c_splitN {w : World} {p : Program} {loose : List Str} {mean : ExcName → Option Value} {mg mb : Str → Option Value} {dp un : Nat} {s : Shared} {Q E : Value → Shared → Prop} {x : Str} {t : Tok} (X : (laid.heap_1 w.params).In s.heap) (T : Top p loose mean mg mb s.heap) (hd : dp + 7 < recursionLimit) (hu : un + 60 < cLine) (hx : x.length ≤ 1000)
  (ret : ∀ D t1 t2 z h' tk', (∀ b o, s.heap.get? b = some o → h'.get? b = some o) → h'.get? D = some { cls := .type "tuple", data := .seq #[.str (hdS x) t1, .str z t2] } → s.heap.get? D = none → Q (.ref D) { s with heap := h', toks := tk' }) :
  wpAny (model PySem.Challenge.rw_ij0098_01.row.prog w) (topN dp un) (call (.ref 140) [.str x t]) Q E s := by
  (revert X; k_fill; intro X)
  refine wpAny_call ?_
  (k_dflt (refine' code_defN ?k3 ?k5 ?k6 ?k7 ?k8 ?k9 ?kB ?_ ?c2 ?c3 ?c4 ?c5; (case k3 => k_asm); (case k5 => k_asm); (case k6 => k_is); (case k7 => k_is); (case k8 => k_room); (case k9 => exact BindsTo.of_eq rfl); (case c5 => decide); (case kB => exact locs rfl); (case c2 => exact rfl); (case c3 => exact rfl); (case c4 => exact rfl); k_whole; intro g' L' h' hg' F' N' X' T'; (try dsimp only)))
  (repeat' (first | (k_unfold; (try dsimp only)) | (k_end; wrow_close) | walk1 | (dsimp only; walk1) | (leave1; walk_say "STEP leave1"; try dsimp only) | fail "no step"))
  all_goals ((show Q _ _); (rename Fr _ _ _ _ => F9); (rename News _ _ _ _ => N9); (refine' split_ret (s := s) ret hg' F9 N9 ?M ?e; (case M => k_mem); (case e => first
    | with_reducible exact hdS_0 (by assumption)
    | with_reducible exact hdS_1 (by assumption) (by assumption)
    | with_reducible exact hdS_2 (by assumption) (by assumption))))
end

section
/-! a generator of the text's: the call that makes it -/
theorem call_gen {prog : Program} {w : World} {A : Around} {K : Frag} {Q E : Value → Shared → Prop} {name qual : Str} {params : Arguments} {body : List Stmt} {scope : Scope} {dV kV doc pm cdv ct oc : Value} {an od : Option Addr} {osl : Array (Option Value)} {f : Addr} {pos : List Value} {binds : List (Str × Value)}
    {p : Program} {loose : List Str} {mean : ExcName → Option Value} {mg mb : Str → Option Value} {s : Shared}
    (X₀ : K.In s.heap) (T : Top p loose mean mg mb s.heap)
    (ho : K.lookup f = some ⟨oc, od, .func (fnOf name qual params body scope dV kV doc pm an cdv ct), osl⟩) (hcd : codeIn K cdv qual = true) (hroom : A.depth < recursionLimit)
    (hbind : BindsTo s (fnOf name qual params body scope dV kV doc pm an cdv ct) ⟨pos, []⟩ binds) (hloc : ∀ y ∈ binds, scope.names.lookup y.1 = some .local)
    (h : ∀ L' h₁ tk, Fr s.heap L' h₁ (fun y => binds.reverse.lookup y) → (∀ b o, s.heap.get? b = some o → h₁.get? b = some o) → s.heap.objs.size ≤ L' → L' < h₁.objs.size →
      Q (.ref h₁.objs.size) { s with gens := s.gens.push (.fresh (.func body (envOf qual scope L' f cdv))), toks := tk + 1 + 1, heap := h₁.push { cls := .type "generator", data := .fields #[.int s.gens.size 0, .str name tk, .str qual (tk + 1)] } })
    (hco : scope.isCoroutine = false) (hgen : scope.isGenerator = true) (hk : scope.kind = .function)
    (hcell : ∀ x ∈ scope.names, x.2 ≠ .cell) : wpAny (model prog w) A (call (.ref f) pos) Q E s := by
  refine wpAny_call (codeAny_call_generator (fd := fnX name qual params body scope [] dV kV doc pm an cdv ct) (body := body) hroom (X₀ _ _ ho) rfl hco hgen rfl (codeRec_of X₀ hcd) (hbind _ _ _ _ ?_))
  refine wpAny_newFunctionEnv hcell hloc (fun h₁ hns hsb => ?_) hk
  have keep : ∀ b o, s.heap.get? b = some o → h₁.get? b = some o := fun b o e => hsb.extBut b o (Nat.ne_of_lt (Heap.lt_size e)) (Heap.get?_push_of_some _ e)
  refine ⟨T.nolimit.fresh _ hsb, ?_⟩
  exact h s.heap.objs.size h₁ _ ⟨hns, keep, Nat.le_refl _⟩ keep (Nat.le_refl _) (by have := hns; obtain ⟨_, _, _, hL, _⟩ := this; exact Heap.lt_size hL)
def Chain : List Str → Str → Prop
  | [], x => x.length ≤ 1000 ∧ (Txt.rstripChars x (Str.ofString "/")).length = 0
  | y :: ys, x => y = x ∧ x.length ≤ 1000 ∧ (Txt.rstripChars x (Str.ofString "/")).length ≠ 0 ∧ Chain ys (hdS x)
/-- what stands while the generator sleeps -/
def GenSt (g₀ : Heap) (L : Addr) (x : Str) (h : Heap) : Prop := ∃ m t, Fr g₀ L h m ∧ m "path" = some (.str x t)
/-- nothing but the frame moves -/
def KeptBut (L : Addr) (s₀ s' : Shared) : Prop := ∃ h' tk', s' = { s₀ with heap := h', toks := tk' } ∧ ∀ b o, b ≠ L → s₀.heap.get? b = some o → h'.get? b = some o
theorem KeptBut.refl {L : Addr} {s : Shared} : KeptBut L s s := ⟨s.heap, s.toks, rfl, fun _ _ _ e => e⟩
theorem KeptBut.trans {L : Addr} {s s' s'' : Shared} (x : KeptBut L s s') (y : KeptBut L s' s'') : KeptBut L s s'' := by
  obtain ⟨h1, t1, rfl, k1⟩ := x
  obtain ⟨h2, t2, rfl, k2⟩ := y
  exact ⟨h2, t2, rfl, fun b o hb e => k2 b o hb (k1 b o hb e)⟩
def YP (g₀ : Heap) (L : Addr) (rev : List Str) : Protocol := fun n s₀ v s' kap =>
  (∃ y t, rev[n]? = some y ∧ v = .str y t) ∧ KeptBut L s₀ s' ∧ (∃ o, s'.heap.get? L = some o) ∧
    ∀ s'', (∀ b o, (b = L ∨ ∃ o', g₀.get? b = some o') → s'.heap.get? b = some o → s''.heap.get? b = some o) → kap (.send .none) s''
def RP (L : Addr) : GenEnd := fun n s₀ r s' => r = .ok (.ret .none) ∧ n = 0 ∧ KeptBut L s₀ s'
theorem GenSt.at {g₀ : Heap} {L : Addr} {x : Str} {h h' : Heap} (G : GenSt g₀ L x h) (k : ∀ b o, (b = L ∨ ∃ o', g₀.get? b = some o') → h.get? b = some o → h'.get? b = some o) : GenSt g₀ L x h' := by
  obtain ⟨m, t, F, e⟩ := G
  refine ⟨m, t, ⟨?_, fun b o z => k b o (.inr ⟨o, z⟩) (F.keep b o z), F.above⟩, e⟩
  obtain ⟨oL, es, ep, hL, r⟩ := F.ns
  exact ⟨oL, es, ep, k _ _ (.inl rfl) hL, r⟩
section
variable {prog : Program} {w : World} {dp un : Nat} {g₀ : Heap} {L : Addr} {env : Env} {st0 st1 : Stmt} {test e : Expr} {p1 p2 pos : Pos} {rev : List Str}
/-- the loop of the generator, read off its parts -/
theorem gen_loop (hco : env.scope.isCoroutine = false) (hin : interactive env = false) {A : Around} {fs : List Frame}
  (hT : ∀ (x : Str) (s : Shared) (Q : Bool → Shared → Prop) (E : Value → Shared → Prop), GenSt g₀ L x s.heap → x.length ≤ 1000 → (∀ s', KeptBut L s s' → GenSt g₀ L x s'.heap → Q (decide ((Txt.rstripChars x (Str.ofString "/")).length ≠ 0)) s') →
    wpAny (model prog w) (A.over (.whileLoop test [.Expr (.Yield (some e) p1) p2, st1] [] env) fs) (isTrue test env (eval test env)) Q E s)
  (hE : ∀ (x : Str) (s : Shared) (Q : Value → Shared → Prop) (E : Value → Shared → Prop), GenSt g₀ L x s.heap → (∀ t s', KeptBut L s s' → GenSt g₀ L x s'.heap → Q (.str x t) s') →
    wpAny (model prog w) (A.over (.whileLoop test [.Expr (.Yield (some e) p1) p2, st1] [] env) fs) (eval e env) Q E s)
  (hS : ∀ (x : Str) (s : Shared) (Q : Flow → Shared → Prop) (E : Value → Shared → Prop), GenSt g₀ L x s.heap → x.length ≤ 1000 → (∀ s', KeptBut L s s' → GenSt g₀ L (hdS x) s'.heap → Q .next s') →
    wpAny (model prog w) (A.over (.whileLoop test [.Expr (.Yield (some e) p1) p2, st1] [] env) fs) (exec st1 env) Q E s)
  (hfs : splitAtGen fs = none) (hfg : fs.any Frame.guarded = false)
  (hend : ∀ s₀ s', KeptBut L s₀ s' → Seg (model prog w) A (RP L) (YP g₀ L rev) 0 s₀ (.whileLoop test [.Expr (.Yield (some e) p1) p2, st1] [] env) (.pure (.done .next)) fs s') :
  ∀ (ys : List Str) (x : Str) (s₀ s : Shared), (∃ pre, rev = ys.reverse ++ pre) → Chain ys x → KeptBut L s₀ s → GenSt g₀ L x s.heap →
    Seg (model prog w) A (RP L) (YP g₀ L rev) ys.length s₀ (.whileLoop test [.Expr (.Yield (some e) p1) p2, st1] [] env) ((model prog w).den (.whileLoop test [.Expr (.Yield (some e) p1) p2, st1] [] env)) fs s := by
  intro ys
  induction ys with
  | nil =>
    intro x s₀ s _ hc hk hg
    refine seg_whileLoop (hT x s _ _ hg hc.1 fun s' hk' hg' => ?_)
    have hc2 := hc.2
    rw [show decide ((Txt.rstripChars x (Str.ofString "/")).length ≠ 0) = false by simp [hc2], if_neg Bool.false_ne_true]
    exact seg_execs_nil (hend s₀ s' (hk.trans hk'))
  | cons y ys ih =>
    intro x s₀ s hr hc hk hg
    obtain ⟨rfl, hlen, hne, hc⟩ := hc
    obtain ⟨pre, hr⟩ := hr
    refine seg_whileLoop (hT y s _ _ hg hlen fun s' hk' hg' => ?_)
    rw [show decide ((Txt.rstripChars y (Str.ofString "/")).length ≠ 0) = true by simp [hne], if_pos rfl]
    refine seg_execs_cons (seg_Expr_Yield hfs rfl hfg (hE y s' _ _ hg' fun t s'' hk'' hg'' => ?_) hco hin)
    intro kap hkap
    refine ⟨⟨y, t, ?_, rfl⟩, (hk.trans hk').trans hk'', (let ⟨_, _, F, _⟩ := hg''; let ⟨o, _, _, h, _⟩ := F.ns; ⟨o, h⟩), fun s₃ k₃ => hkap .none s₃ ?_⟩
    · rw [hr, List.reverse_cons, List.append_assoc, ← List.length_reverse, List.getElem?_append_right (Nat.le_refl _)]; simp
    refine seg_execs_cons (seg_wrap (hS y s₃ _ _ (hg''.at k₃) hlen fun s₄ hk₄ hg₄ => ?_))
    refine seg_execs_nil (seg_again rfl ?_)
    exact ih (hdS y) s₃ s₄ ⟨y :: pre, by rw [hr, List.reverse_cons, List.append_assoc]; rfl⟩ hc hk₄ hg₄
end
theorem wpAny_topN {M : Model} {A : Around} {dp un : Nat} {α : Type} {t : Sem α} {Q : α → Shared → Prop} {E : Value → Shared → Prop} {s : Shared} (h1 : A.handled = none) (h2 : A.depth ≤ dp) (h3 : A.units ≤ un)
    (h : wpAny M (topN dp un) t Q E s) : wpAny M A t Q E s := fun Γ p hΓ =>
  h Γ p ⟨hΓ.1.trans h1, Nat.le_trans hΓ.2.1 h2, fun _ hl => (nomatch hl), fun _ hl => (nomatch hl), Nat.le_trans hΓ.2.2.2.2 h3⟩
section
variable {prog : Program} {w : World} {dp un : Nat} {g₀ : Heap} {L : Addr} {env : Env} {st0 st1 : Stmt} {test e : Expr} {p1 p2 pos : Pos} {rev : List Str}
theorem gen_goes (hco : env.scope.isCoroutine = false) (hin : interactive env = false)
  (h0 : ∀ (x : Str) (s : Shared) (Q : Flow → Shared → Prop) (E : Value → Shared → Prop), GenSt g₀ L x s.heap → x.length ≤ 1000 → (∀ s', KeptBut L s s' → GenSt g₀ L (Txt.rstripChars x (Str.ofString "/")) s'.heap → Q .next s') →
    wpAny (model prog w) (topN (dp + 1) (un + 9)) (exec st0 env) Q E s)
  (hT : ∀ (x : Str) (s : Shared) (Q : Bool → Shared → Prop) (E : Value → Shared → Prop), GenSt g₀ L x s.heap → x.length ≤ 1000 → (∀ s', KeptBut L s s' → GenSt g₀ L x s'.heap → Q (decide ((Txt.rstripChars x (Str.ofString "/")).length ≠ 0)) s') →
    wpAny (model prog w) (topN (dp + 1) (un + 9)) (isTrue test env (eval test env)) Q E s)
  (hE : ∀ (x : Str) (s : Shared) (Q : Value → Shared → Prop) (E : Value → Shared → Prop), GenSt g₀ L x s.heap → (∀ t s', KeptBut L s s' → GenSt g₀ L x s'.heap → Q (.str x t) s') →
    wpAny (model prog w) (topN (dp + 1) (un + 9)) (eval e env) Q E s)
  (hS : ∀ (x : Str) (s : Shared) (Q : Flow → Shared → Prop) (E : Value → Shared → Prop), GenSt g₀ L x s.heap → x.length ≤ 1000 → (∀ s', KeptBut L s s' → GenSt g₀ L (hdS x) s'.heap → Q .next s') →
    wpAny (model prog w) (topN (dp + 1) (un + 9)) (exec st1 env) Q E s)
  {ys : List Str} {x : Str} {s : Shared} (hc : Chain ys (Txt.rstripChars x (Str.ofString "/"))) (hx : x.length ≤ 1000) (hr : ∃ pre, rev = ys.reverse ++ pre) (hg : GenSt g₀ L x s.heap) :
  (GenState.fresh (.func [st0, .While test [.Expr (.Yield (some e) p1) p2, st1] [] pos] env)).Goes (model prog w) (topN dp un) (RP L) (YP g₀ L rev) ys.length (.send .none) s := by
  refine ⟨rfl, seg_func (seg_execs_cons (seg_wrap (wpAny_topN rfl (Nat.le_refl _) ?_ (h0 x s _ _ hg hx fun s' hk hg' => seg_execs_cons (seg_While fun p => ?_)))))⟩
  · show un + 0 + 3 ≤ un + 9
    omega
  refine gen_loop hco hin (fun x s Q E a b c => wpAny_topN rfl ?_ ?_ (hT x s Q E a b c)) (fun x s Q E a b => wpAny_topN rfl ?_ ?_ (hE x s Q E a b)) (fun x s Q E a b c => wpAny_topN rfl ?_ ?_ (hS x s Q E a b c)) rfl rfl (fun s₀ s' hk => ?_) ys _ _ s' hr hc hk hg'
  · show dp + 1 + 0 ≤ dp + 1
    omega
  · show un + 3 + 0 ≤ un + 9
    omega
  · show dp + 1 + 0 ≤ dp + 1
    omega
  · show un + 3 + 0 ≤ un + 9
    omega
  · show dp + 1 + 0 ≤ dp + 1
    omega
  · show un + 3 + 0 ≤ un + 9
    omega
  · refine seg_leaf (.ok .next) ?_
    show Seg _ _ _ _ 0 _ _ (leafOf (.ok (.ret .none))) [] s'
    exact seg_end _ ⟨rfl, rfl, hk⟩
end
theorem news_all (g h : Heap) (L : Addr) : ∃ news, News g L h news ∧ ∀ b o, b ≠ L → g.get? b = none → h.get? b = some o → (b, o) ∈ news := by
  refine ⟨(List.range h.objs.size).filterMap fun b => if b = L then none else match g.get? b with | some _ => none | none => (h.get? b).map fun o => (b, o), fun p hp => ?_, fun b o hb hg ho => ?_⟩
  · obtain ⟨b, _, e⟩ := List.mem_filterMap.mp hp
    split at e
    · cases e
    · rename_i hb
      split at e
      · cases e
      · rename_i hg
        cases ho : h.get? b with
        | none => rw [ho] at e; cases e
        | some o => rw [ho] at e; cases e; exact ⟨ho, hb, hg⟩
  · refine List.mem_filterMap.mpr ⟨b, List.mem_range.mpr (Heap.lt_size ho), ?_⟩
    rw [if_neg hb, hg, ho]; rfl
theorem fr_bind1 {g h : Heap} {L : Addr} {m : Str → Option Value} {a : Str} {va : Value} (F : Fr g L h m) (h1 : m a = some va) : Fr g L h (fun z => if z = a then some va else m z) := by
  rw [← m_bind h1]; exact F
theorem keptBut_of {g h' : Heap} {L : Addr} {m' : Str → Option Value} {news all : List (Addr × Obj)} {s : Shared} {tk' : Nat} (F : ∀ b o, g.get? b = some o → s.heap.get? b = some o) (hc : ∀ b o, b ≠ L → g.get? b = none → s.heap.get? b = some o → (b, o) ∈ news) (F' : Fr g L h' m') (N' : News g L h' all) (hs : ∀ p ∈ news, p ∈ all) :
    KeptBut L s { s with heap := h', toks := tk' } := ⟨h', tk', rfl, fun b o hb e => by
  cases q : g.get? b with
  | none => exact (N' _ (hs _ (hc b o hb q e))).1
  | some o' =>
    have := F _ _ q
    rw [e] at this; cases this
    exact F'.keep _ _ q⟩
end

section
section
local macro_rules | `(tactic| k_room) => `(tactic| (show _ < recursionLimit; dsimp only [topN] at *; omega))
local macro_rules | `(tactic| k_units) => `(tactic| (have hcL9 := cLine_is; dsimp only [topN] at *; omega))
theorem len_bne (n : Nat) : ((n : Int) != 0) = decide (n ≠ 0) := by
  rcases Nat.eq_zero_or_pos n with rfl | h
  · rfl
  · rw [decide_eq_true (by omega)]; exact bne_iff_ne.mpr (by omega)
theorem new_keep {g h h' : Heap} {L D : Addr} {m : Str → Option Value} {o : Obj} {news : List (Addr × Obj)} (F : Fr g L h m) (N : News g L h news) (k : ∀ b o, h.get? b = some o → h'.get? b = some o) (e : h'.get? D = some o) (n : h.get? D = none) : News g L h' ((D, o) :: news) := fun p hp => by
  rcases List.mem_cons.mp hp with rfl | hp
  · refine ⟨e, fun z => ?_, ?_⟩
    · obtain ⟨oL, _, _, hL, _⟩ := F.ns
      have z' : D = L := z
      rw [z', hL] at n; cases n
    · cases q : g.get? D with
      | none => rfl
      | some o' => rw [F.keep _ _ q] at n; cases n
  · exact ⟨k _ _ (N p hp).1, (N p hp).2⟩
local macro_rules | `(tactic| walk_at "call ref") => `(tactic| (k_here; (with_reducible show wpAny _ (topN _ _) (call (Value.ref 140) [Value.str _ _]) _ _ _); (rename Fr _ _ _ _ => F9); (rename News _ _ _ _ => N9); (rename Frag.In _ _ => X9); (rename Top _ _ _ _ _ _ => T9); (k_dflt (refine' c_splitN (X9.keeps F9.keep) (T9.keeps F9.keep) ?hd ?hu ?hx ?ret; (case hd => omega); (case hu => omega); (case hx => assumption); intro _ _ _ _ _ _ hk9 hD9 hn9; replace N9 := new_keep F9 N9 hk9 hD9 hn9; replace F9 := fr_keep F9 hk9; clear hk9; (try dsimp only)))))
set_option maxHeartbeats 8000000 in
theorem c_anc {w : World} {p : Program} {loose : List Str} {mean : ExcName → Option Value} {mg mb : Str → Option Value} {A : Around} {s : Shared} {Q E : Value → Shared → Prop} {x : Str} {t : Tok} {g₀ : Heap} (X : (laid.heap_1 w.params).In g₀) (T : Top p loose mean mg mb g₀) (hk₀ : ∀ b o, g₀.get? b = some o → s.heap.get? b = some o) (hz₀ : g₀.objs.size ≤ s.heap.objs.size) (hA : A.depth < recursionLimit) (hx : x.length ≤ 1000)
  (ret : ∀ L' h₁ tk nm qn gs ga h₂, ga = h₁.objs.size → h₂ = h₁.push { cls := .type "generator", data := .fields #[.int s.gens.size 0, nm, qn] } → (∀ b o, s.heap.get? b = some o → h₁.get? b = some o) → s.heap.objs.size ≤ L' → L' < h₁.objs.size → gs.bare = true → GenSt g₀ L' x h₁ →
    (∀ rev ys s'', Chain ys (Txt.rstripChars x (Str.ofString "/")) → (∃ pre, rev = ys.reverse ++ pre) → GenSt g₀ L' x s''.heap → gs.Goes (model PySem.Challenge.rw_ij0098_01.row.prog w) (topN 500 5000) (RP L') (YP g₀ L' rev) ys.length (.send .none) s'') →
    Q (.ref ga) { s with gens := s.gens.push gs, toks := tk, heap := h₂ }) :
  wpAny (model PySem.Challenge.rw_ij0098_01.row.prog w) A (call (.ref 147) [.str x t]) Q E s := by
  have hr9 : recursionLimit = 1000 := rfl
  have hc9 : cLine = 9900 := rfl
  (revert X; k_fill; intro X)
  k_dflt (refine' call_gen (X.keeps hk₀) (T.keeps hk₀) ?k6 ?k7 ?k8 ?k9 ?kB ?_ ?c2 ?c3 ?c4 ?c5; (case k6 => k_is); (case k7 => k_is); (case k8 => exact hA); (case k9 => exact BindsTo.of_eq rfl); (case c5 => decide); (case kB => exact locs rfl); (case c2 => exact rfl); (case c3 => exact rfl); (case c4 => exact rfl))
  intro L' h₁ tk F k hL1 hL2
  try dsimp only
  refine ret L' h₁ _ _ _ _ _ _ rfl rfl k hL1 hL2 rfl ⟨_, _, ⟨F.ns, fun b o e => F.keep b o (hk₀ b o e), Nat.le_trans hz₀ F.above⟩, rfl⟩ fun rev ys s'' hc hr hg => gen_goes rfl rfl ?h0 ?hT ?hE ?hS hc hx hr hg
  case h0 =>
    clear hL1 hL2 F k ret hc hr hg
    intro x s1 Q E ⟨m, t, F, hm⟩ hx hq
    obtain ⟨news, N, hcomp⟩ := news_all g₀ s1.heap L'
    have F0 := F.keep
    replace F := fr_bind1 F hm
    (repeat' (first | (k_unfold; (try dsimp only)) | (k_end; wrow_close) | walk1 | (dsimp only; walk1) | (leave1; walk_say "STEP leave1"; try dsimp only) | fail "no step"))
    all_goals ((rename Fr _ _ _ _ => F9); (rename News _ _ _ _ => N9); (exact hq _ (keptBut_of F0 hcomp F9 N9 fun p hp => hp) ⟨_, _, F9, rfl⟩))
  case hT =>
    clear hL1 hL2 F k ret hc hr hg
    intro x s1 Q E ⟨m, t, F, hm⟩ hx hq
    obtain ⟨news, N, hcomp⟩ := news_all g₀ s1.heap L'
    have F0 := F.keep
    replace F := fr_bind1 F hm
    (repeat' (first | (k_unfold; (try dsimp only)) | (k_end; wrow_close) | walk1 | (dsimp only; walk1) | (leave1; walk_say "STEP leave1"; try dsimp only) | fail "no step"))
    all_goals ((rename Fr _ _ _ _ => F9); (rename News _ _ _ _ => N9); (rw [len_bne]; exact hq _ (keptBut_of F0 hcomp F9 N9 fun p hp => hp) ⟨_, _, F9, rfl⟩))
  case hE =>
    clear hL1 hL2 F k ret hc hr hg
    intro x s1 Q E ⟨m, t, F, hm⟩ hq
    obtain ⟨news, N, hcomp⟩ := news_all g₀ s1.heap L'
    have F0 := F.keep
    replace F := fr_bind1 F hm
    (repeat' (first | (k_unfold; (try dsimp only)) | (k_end; wrow_close) | walk1 | (dsimp only; walk1) | (leave1; walk_say "STEP leave1"; try dsimp only) | fail "no step"))
    all_goals ((rename Fr _ _ _ _ => F9); (rename News _ _ _ _ => N9); (exact hq _ _ (keptBut_of F0 hcomp F9 N9 fun p hp => hp) ⟨_, _, F9, rfl⟩))
  case hS =>
    clear hL1 hL2 F k ret hc hr hg
    intro x s1 Q E ⟨m, t, F, hm⟩ hx hq
    obtain ⟨news, N, hcomp⟩ := news_all g₀ s1.heap L'
    have F0 := F.keep
    replace F := fr_bind1 F hm
    (repeat' (first | (k_unfold; (try dsimp only)) | (k_end; wrow_close) | walk1 | (dsimp only; walk1) | (leave1; walk_say "STEP leave1"; try dsimp only) | fail "no step"))
    all_goals ((rename Fr _ _ _ _ => F9); (rename News _ _ _ _ => N9); (exact hq _ (keptBut_of F0 hcomp F9 N9 fun p hp => by repeat (first | exact hp | apply List.mem_cons_of_mem)) ⟨_, _, F9, rfl⟩))

end
end

section
/-! iter and next of a generator -/
abbrev genObj (n : Nat) (nm qn : Value) : Obj := { cls := .type "generator", data := .fields #[.int n 0, nm, qn] }
theorem iter_gen {prog : Program} {w : World} {A : Around} {Q E : Value → Shared → Prop} {s : Shared} {h₀ : Heap} {L ga : Addr} {news : List (Addr × Obj)} {n : Nat} {nm qn : Value} (N : News h₀ L s.heap news) (hp : (ga, genObj n nm qn) ∈ news) (h : Q (.ref ga) s) :
    wpAny (model prog w) A (call (.builtin "iter") [.ref ga]) Q E s := by
  refine call_function_entry (by decide +kernel) (by decide +kernel) kdk_entry_iter (kdk_args_iter _) ?_
  unfold Builtin.«iter»
  refine wpAny_bind (m := someArgs "iter" 1 2 _) (wpAny_of_eq (a := [Value.ref ga]) (by first | rfl | kernel_rfl!) ?_)
  show wpAny _ _ (pyIter (.ref ga) >>= _) _ _ _
  exact wpAny_bind (wpAny_pyIter_gen (g := n) ⟨_, _, _, (N _ hp).1, rfl, rfl, rfl⟩ (wpAny_pure ⟨_, rfl, h⟩))

/-! next of the generator -/
section
variable {prog : Program} {w : World} {A : Around} {s : Shared} {h₀ : Heap} {Lg ga : Addr} {rev : List Str} {g n : Nat} {gs : GenState}
theorem special_gen {Q : Option Value → Shared → Prop} {E : Value → Shared → Prop} (hh : A.handled = none) (hd : A.depth ≤ 490) (hu : A.units ≤ 4900) (hl : s.heap.NoLimit) (hg : s.heap.IsGen ga g) (hgs : s.gens[g]? = some gs)
    (hgo : gs.Goes (model prog w) (topN 500 5000) (RP Lg) (YP h₀ Lg rev) n (.send .none) (s.setGen g .running))
    (hY : ∀ m, n = m + 1 → ∀ v s₁ gs', gs'.bare = true → YP h₀ Lg rev m (s.setGen g .running) v s₁ (fun r' s'' => gs'.Goes (model prog w) (topN 500 5000) (RP Lg) (YP h₀ Lg rev) m r' s'') → Q (some v) (s₁.setGen g gs'))
    (hP : n = 0 → ∀ s₁, KeptBut Lg (s.setGen g .running) s₁ → ∀ e h', Heap.NewExc s₁.heap h' e "StopIteration" → E (.ref e) { s₁.setGen g .finished with heap := h' }) :
    wpAny (model prog w) A (callSpecial? (.ref ga) (Str.ofString "__next__")) Q E s := by
  refine wpAny_callSpecial?_slot (name := Str.ofString "__next__") hg.typeIs slot_gen_next
    (wpAny_call_entry slot_gen_next hg.typeIs entry_gen_next ?_ (args_gen_next _))
  refine wpAny_topN (dp := 500) (un := 5000) hh (by show A.depth ≤ 500; omega) (by show A.units + 1 ≤ 5000; omega) ?_
  show wpAny _ _ (Builtin.Generator.genWake (.ref ga) (.send .none)) _ _ s
  unfold Builtin.Generator.genWake
  refine wpAny_bind (wpAny_holding (wpAny_genNumber hg (wpAny_bind (wpAny_genState hgs ?_))))
  cases gs with
  | running => exact hgo.elim
  | finished => exact hgo.elim
  | _ =>
    refine wpAny_bind (wpAny_roomToWake hl (by decide) ?_)
    show wpAny _ _ (.resume g (.send .none) [] _) _ _ s
    refine wpAny_resumeQ hgs hgo (fun x s₁ hx => ?_) (fun v s₁ gs' hb hv => ?_)
    · obtain ⟨rfl, hn, hp⟩ := hx
      show wpAny _ _ (newExc (.type "StopIteration") [] >>= _) _ _ _
      refine wpAny_bind ?_
      simp only [newExc, newTuple]
      refine wpAny_bind (wpAny_newObj_type ?_ (by size_fits))
      refine wpAny_bind (m := firstArgMember _ _) (wpAny_of_eq (a := Value.none) (by first | rfl | (simp only [firstArgMember]; rfl)) ?_)
      refine wpAny_newObj_type ?_ (by size_fits)
      simp only [raiseNew]
      refine wpAny_bind (wpAny_bind (wpAny_handled ?_))
      show wpAny _ _ (pure _ >>= _) _ _ _
      refine wpAny_throw ?_
      refine hP hn s₁ hp _ _ ⟨fun b o hb => Heap.get?_push_of_some _ (Heap.get?_push_of_some _ hb), ?_, _, _, Heap.get?_push_size _ rfl, rfl, rfl⟩
      exact Heap.get?_none_of_le (by rw [Heap.size_push]; exact Nat.le_succ _)
    · cases n with
      | zero => exact (hv.2.2.2 s₁ fun _ _ _ e => e).elim
      | succ m => exact wpAny_pure ⟨v, rfl, hY m rfl v s₁ gs' hb hv⟩
end

/-- what is known of a sleeping generator, told by its frame's object alone -/
def ReadyG (prog : Program) (w : World) (h₀ : Heap) (Lg : Addr) (rev : List Str) (n : Nat) (gs : GenState) (fo : Obj) : Prop :=
  ∀ s'' : Shared, (∀ b o, h₀.get? b = some o → s''.heap.get? b = some o) → s''.heap.get? Lg = some fo → gs.Goes (model prog w) (topN 500 5000) (RP Lg) (YP h₀ Lg rev) n (.send .none) s''
section
variable {prog : Program} {w : World} {A : Around} {s : Shared} {h₀ b : Heap} {Lg ga L : Addr} {rev : List Str} {g n : Nat} {gs : GenState} {m : Str → Option Value} {news rest : List (Addr × Obj)} {nm qn : Value} {fo : Obj} {upd : Obj → List (Addr × Obj)} {Q E : Value → Shared → Prop}
theorem next_item (hh : A.handled = none) (hd : A.depth ≤ 490) (hu : A.units ≤ 4890) (hl : b.NoLimit) (h0b : ∀ c o, h₀.get? c = some o → b.get? c = some o) (F : Fr b L s.heap m) (N : News b L s.heap news) (hga : (ga, genObj g nm qn) ∈ news) (U : UpdF Lg fo news upd)
    (hgs : s.gens[g]? = some gs) (hR : ReadyG prog w h₀ Lg rev (n + 1) gs fo)
    (ret : ∀ y t h' tk' gens' gs' fo', rev[n]? = some y → gs'.bare = true → gens'[g]? = some gs' → GenOnlyQ g s.gens gens' → ReadyG prog w h₀ Lg rev n gs' fo' → Fr b L h' m → News b L h' (upd fo') → Q (.str y t) { heap := h', gens := gens', drawn := s.drawn, toks := tk', os := s.os }) :
    wpAny (model prog w) A (call (.builtin "next") [.ref ga]) Q E s := by
  obtain ⟨pre, post, hsp, hupd, ha, hb⟩ := U.split
  have hmem : (Lg, fo) ∈ news := by rw [hsp]; exact List.mem_append_right _ (.head _)
  have hfo := N _ hmem
  have hgen : s.heap.IsGen ga g := ⟨_, _, _, (N _ hga).1, rfl, rfl, rfl⟩
  refine call_function_entry (by decide +kernel) (by decide +kernel) kdk_entry_next (kdk_args_next _) ?_
  unfold Builtin.«next»
  refine wpAny_bind (m := someArgs "next" 1 2 _) (wpAny_of_eq (a := [Value.ref ga]) (by first | rfl | kernel_rfl!) ?_)
  dsimp only
  refine wpAny_bind (wpAny_specialOf (name := Str.ofString "__next__") hgen.typeIs slot_gen_next.lookup ?_)
  refine wpAny_ite_split (fun hab => absurd hab (by decide)) (fun _ => ?_)
  refine wpAny_bind (special_gen hh hd (by show A.units + 1 ≤ 4900; omega) (hl.keeps F.keep) hgen hgs (hR _ (fun c o e => F.keep _ _ (h0b c o e)) hfo.1) (fun k hk v s₁ gs' hb' hv => ?_) (fun hn => absurd hn (by omega)))
  obtain rfl : k = n := by omega
  obtain ⟨⟨y, t, hy, rfl⟩, ⟨h', tk', rfl, hk'⟩, ⟨fo', hfo'⟩, hkap⟩ := hv
  obtain ⟨oL, es, ep, hL, hLr⟩ := F.ns
  refine wpAny_pure ⟨_, rfl, ret y t h' tk' _ gs' fo' hy hb' (setGen_self (gs := .running) (setGen_self hgs)) (GenOnlyQ.of ((GenOnly.setGen s g .running).trans (GenOnly.setGen _ g gs')) (setGen_self (gs := .running) (setGen_self hgs)) hb') (fun s'' k1 k2 => hkap s'' fun c o hc e => ?_) ⟨⟨oL, es, ep, hk' _ _ hfo.2.1.symm hL, hLr⟩, fun c o e => hk' _ _ (fun z => ?_) (F.keep _ _ e), F.above⟩ fun p hp => ?_⟩
  · rcases hc with rfl | ⟨o', ho'⟩
    · rw [hfo'] at e; cases e; exact k2
    · have h1 := k1 _ _ ho'
      have h2 := F.keep _ _ (h0b _ _ ho')
      have hcL : c ≠ Lg := fun z => by
        have := hfo.2.2
        rw [← z, h0b _ _ ho'] at this; cases this
      have h3 := hk' _ _ hcL h2
      rw [h3] at e; cases e; exact h1
  · rw [z] at e
    have := hfo.2.2
    rw [e] at this; cases this
  · rw [hupd] at hp
    rcases List.mem_append.mp hp with hp | hp
    · have hN := N p (by rw [hsp]; exact List.mem_append_left _ hp)
      exact ⟨hk' _ _ (ha p hp) hN.1, hN.2⟩
    · rcases List.mem_cons.mp hp with rfl | hp
      · exact ⟨hfo', hfo.2⟩
      · have hN := N p (by rw [hsp]; exact List.mem_append_right _ (List.mem_cons_of_mem _ hp))
        exact ⟨hk' _ _ (hb p hp) hN.1, hN.2⟩
theorem next_stop (hh : A.handled = none) (hd : A.depth ≤ 490) (hu : A.units ≤ 4890) (hl : b.NoLimit) (h0b : ∀ c o, h₀.get? c = some o → b.get? c = some o) (F : Fr b L s.heap m) (N : News b L s.heap news) (hga : (ga, genObj g nm qn) ∈ news) (hmem : (Lg, fo) ∈ news) (hrest : ∀ p ∈ rest, p ∈ news ∧ p.1 ≠ Lg)
    (hgs : s.gens[g]? = some gs) (hR : ReadyG prog w h₀ Lg rev 0 gs fo)
    (ret : ∀ e h₁ h' tk' gens', gens'[g]? = some .finished → GenOnlyQ g s.gens gens' → Fr b L h₁ m → News b L h₁ rest → Heap.NewExc h₁ h' e "StopIteration" → E (.ref e) { heap := h', gens := gens', drawn := s.drawn, toks := tk', os := s.os }) :
    wpAny (model prog w) A (call (.builtin "next") [.ref ga]) Q E s := by
  have hfo := N _ hmem
  have hgen : s.heap.IsGen ga g := ⟨_, _, _, (N _ hga).1, rfl, rfl, rfl⟩
  refine call_function_entry (by decide +kernel) (by decide +kernel) kdk_entry_next (kdk_args_next _) ?_
  unfold Builtin.«next»
  refine wpAny_bind (m := someArgs "next" 1 2 _) (wpAny_of_eq (a := [Value.ref ga]) (by first | rfl | kernel_rfl!) ?_)
  dsimp only
  refine wpAny_bind (wpAny_specialOf (name := Str.ofString "__next__") hgen.typeIs slot_gen_next.lookup ?_)
  refine wpAny_ite_split (fun hab => absurd hab (by decide)) (fun _ => ?_)
  refine wpAny_bind (special_gen hh hd (by show A.units + 1 ≤ 4900; omega) (hl.keeps F.keep) hgen hgs (hR _ (fun c o e => F.keep _ _ (h0b c o e)) hfo.1) (fun k hk => absurd hk (by omega)) (fun _ s₁ hk' e h' hx => ?_))
  obtain ⟨h₁, tk', rfl, hk'⟩ := hk'
  obtain ⟨oL, es, ep, hL, hLr⟩ := F.ns
  refine ret e h₁ h' tk' _ (setGen_self (gs := .running) (setGen_self hgs)) (GenOnlyQ.of ((GenOnly.setGen s g .running).trans (GenOnly.setGen _ g .finished)) (setGen_self (gs := .running) (setGen_self hgs)) rfl) ⟨⟨oL, es, ep, hk' _ _ hfo.2.1.symm hL, hLr⟩, fun c o e => hk' _ _ (fun z => ?_) (F.keep _ _ e), F.above⟩ (fun p hp => ?_) hx
  · rw [z] at e
    have := hfo.2.2
    rw [e] at this; cases this
  · obtain ⟨h1, h2⟩ := hrest p hp
    exact ⟨hk' _ _ h2 (N p h1).1, (N p h1).2⟩
end
end

section
local macro_rules | `(tactic| walk_at "call builtin:iter") => `(tactic| (k_here; (with_reducible show wpAny _ _ (call (Value.builtin "iter") [Value.ref _]) _ _ _); k_dflt (refine' iter_gen ?N ?p ?_; (case N => k_asm); (case p => k_mem))))

abbrev islO (dx ga : Addr) (cnt nx st sp : Int) (t0 t2 t3 t4 : Tok) : Obj := { cls := .ref 68, dict := some dx, slots := #[some (.int cnt t0), some (.ref ga), some (.int nx t2), some (.int st t3), some (.int sp t4)] }
theorem anc_news {g g₀ h h₁ : Heap} {L Lg : Addr} {x : Str} {m : Str → Option Value} {go : Obj} {ga : Addr} {h₂ : Heap} (ega : ga = h₁.objs.size) (eh₂ : h₂ = h₁.push go) (F : Fr g L h m) (k : ∀ b o, h.get? b = some o → h₁.get? b = some o) (hL1 : h.objs.size ≤ Lg) (hL2 : Lg < h₁.objs.size) (G : GenSt g₀ Lg x h₁) (hgo : go.isFreed = false) :
    ∃ fo, Fr g L h₂ m ∧ News g L h₂ [(ga, go), (Lg, fo)] ∧ Lg < ga ∧ L < Lg ∧ (∀ b, h.objs.size ≤ b → h.get? b = none) ∧ h.objs.size ≤ Lg ∧ ∀ hh, (∀ b o, g₀.get? b = some o → hh.get? b = some o) → hh.get? Lg = some fo → GenSt g₀ Lg x hh := by
  subst ega eh₂
  obtain ⟨m', t', F', e⟩ := G
  have hL : L < h.objs.size := by obtain ⟨oL, _, _, hL, _⟩ := F.ns; exact Heap.lt_size hL
  obtain ⟨fo, es, ep, hfo, r⟩ := F'.ns
  have hle : h.objs.size ≤ h₁.objs.size := Nat.le_of_lt (Nat.lt_of_le_of_lt hL1 hL2)
  have none_of : ∀ b, h.objs.size ≤ b → g.get? b = none := fun b hb => by
    cases q : g.get? b with
    | none => rfl
    | some o => exact absurd (Nat.lt_of_lt_of_le (Heap.lt_size (F.keep _ _ q)) hb) (Nat.lt_irrefl _)
  have kk : ∀ b o, h₁.get? b = some o → (h₁.push go).get? b = some o := fun b o e => Heap.get?_push_of_some _ e
  refine ⟨fo, fr_keep (fr_keep F k) kk, fun p hp => ?_, hL2, Nat.lt_of_lt_of_le hL hL1, fun b hb => Heap.get?_none_of_le hb, hL1, fun hh k0 k1 => ⟨m', t', ⟨⟨fo, es, ep, k1, r⟩, k0, F'.above⟩, e⟩⟩
  rcases List.mem_cons.mp hp with rfl | hp
  · exact ⟨Heap.get?_push_size _ hgo, Nat.ne_of_gt (Nat.lt_of_lt_of_le hL hle), none_of _ hle⟩
  · rw [List.mem_singleton.mp hp]
    exact ⟨kk _ _ hfo, Nat.ne_of_gt (Nat.lt_of_lt_of_le hL hL1), none_of _ hL1⟩
set_option maxHeartbeats 8000000 in
theorem c_par {w : World} {p : Program} {loose : List Str} {mean : ExcName → Option Value} {mg mb : Str → Option Value} {dp un : Nat} {gd : Option (List Code)} {cn : Str} {cs : Scope} {a : Addr} {ccd : Value} {cl : List (Str × Addr)} {outer : List Env} {A₀ : Around} {base h₀ : Heap} {L : Addr} {m : Str → Option Value} {s : Shared} {Q E : Value → Shared → Prop} {x : Str} {t : Tok} (B : Below A₀ base outer h₀) (F : Fr h₀ L s.heap m) (X : (laid.heap_1 w.params).In h₀) (T : Top p loose mean mg mb h₀) (hk : cs.kind = .function) (hd : dp + 20 < recursionLimit) (hu : un + 200 < cLine) (hx : x.length ≤ 1000)
  (ret : ∀ (I dx ga Lg D : Nat) nm qn gs fo h' tk' t0 t2 t3 t4 o, (∀ b o, s.heap.get? b = some o → h'.get? b = some o) → gs.bare = true → (Lg < ga ∧ ga < dx ∧ dx < I ∧ I < D) → (∀ b, b = I ∨ b = dx ∨ b = ga ∨ b = Lg → s.heap.get? b = none) →
    News h₀ L h' [(D, o), (I, islO dx ga 0 1 1 (-1) t0 t2 t3 t4), (dx, dictOf [] 0), (ga, genObj s.gens.size nm qn), (Lg, fo)] → Fr h₀ L h' m →
    (∀ rev ys, Chain ys (Txt.rstripChars x (Str.ofString "/")) → (∃ pre, rev = ys.reverse ++ pre) → ReadyG PySem.Challenge.rw_ij0098_01.row.prog w h₀ Lg rev ys.length gs fo) → Q (.ref I) { s with heap := h', toks := tk', gens := s.gens.push gs }) :
  wpAny (model PySem.Challenge.rw_ij0098_01.row.prog w) (ktrTop dp un gd cn cs L a ccd cl outer) (call (.ref 119) [.str x t]) Q E s := by
  (revert X; k_fill; intro X)
  refine wpAny_call ?_
  (k_dflt (refine' code_defG ?k1 ?k2 ?k3 ?k4 ?k5 ?kA ?kF ?kK ?k6 ?k7 ?k8 ?k9 ?kB ?_ ?c2 ?c3 ?c4 ?c5; (case kA => exact rfl); (case kF => exact rfl); (case kK => exact hk); (case k1 => k_asm); (case k2 => k_asm); (case k3 => k_asm); (case k4 => exact News.nil); (case k5 => k_asm); (case k6 => k_is); (case k7 => k_is); (case k8 => k_room); (case k9 => exact BindsTo.of_eq rfl); (case c5 => decide); (case kB => exact locs rfl); (case c2 => exact rfl); (case c3 => exact rfl); (case c4 => exact rfl); k_whole; intro g' L' h' FG' F' N' B' X' T' kG'; (try dsimp only); (try k_lift B')))
  have hsz₀ : h₀.objs.size ≤ g'.objs.size := Nat.le_trans FG'.above (by obtain ⟨oL, _, _, hL, _⟩ := FG'.ns; exact Nat.le_of_lt (Heap.lt_size hL))
  have hsg : ∀ b, g'.get? b = none → s.heap.get? b = none := fun b h => fresh_of kG' h
  k_with "call ref" => (k_here; (with_reducible show wpAny _ _ (call (Value.ref 147) [Value.str _ _]) _ _ _); (rename Fr _ _ _ _ => F9); k_dflt (refine' c_anc X T (fun b o e => F9.keep _ _ (FG'.keep b o e)) ?hz ?hA ?hx ?ret; (case hz => exact Nat.le_trans hsz₀ (Nat.le_trans F9.above (by obtain ⟨oL, _, _, hL, _⟩ := F9.ns; exact Nat.le_of_lt (Heap.lt_size hL)))); (case hA => k_room); (case hx => assumption); intro Lg9 h19 _ _ _ gs9 ga9 h29 ea9 eh9 k9 ha9 hb9 hbare9 G9 hgoes9; obtain ⟨fo9, F9', N9', o19, o29, n19, n29, hG9⟩ := anc_news ea9 eh9 F9 k9 ha9 hb9 G9 rfl; have hR9 : ∀ rev ys, Chain ys (Txt.rstripChars x (Str.ofString "/")) → (∃ pre, rev = ys.reverse ++ pre) → ReadyG PySem.Challenge.rw_ij0098_01.row.prog w h₀ Lg9 rev ys.length gs9 fo9 := fun rev ys hc hr s'' k1 k2 => hgoes9 rev ys s'' hc hr (hG9 _ k1 k2); clear hgoes9 hG9 G9 ea9 eh9 k9 hb9; (try dsimp only)))
  (repeat' (first | (k_unfold; (try dsimp only)) | (k_end; wrow_close) | walk1 | (dsimp only; walk1) | (leave1; walk_say "STEP leave1"; try dsimp only) | fail "no step"))
  all_goals ((refine' ret _ _ _ _ _ _ _ _ _ _ _ _ _ _ _ _ ?k hbare9 ?o ?fr ?N ?F hR9; (case N => assumption); (case F => assumption); (case o => k_dflt (refine ⟨?_, ?_, ?_, ?_⟩ <;> (first | assumption | exact (And.left (by assumption)) | omega))); (case k => (rename Fr g' _ _ _ => F9; exact fun b o e => F9.keep _ _ (kG' b o e (by simp)))); (case fr => (rename News g' _ _ _ => N9; intro b hb; rcases hb with rfl | rfl | rfl | rfl; (exact hsg _ (N9 _ (.tail _ (.head _))).2.2); (exact hsg _ (N9 _ (.tail _ (.tail _ (.head _)))).2.2); (exact hsg _ (N9 _ (.tail _ (.tail _ (.tail _ (.head _))))).2.2); (exact hsg _ (N9 _ (.tail _ (.tail _ (.tail _ (.tail _ (.head _)))))).2.2)))))
end

section
/-! a call whose changing parts, and the caller's frame, are laid into the ledger -/
theorem code_defH {prog : Program} {w : World} {A : Around} {K : Frag} {R : Result → Shared → Prop} {name qual : Str} {params : Arguments} {body : List Stmt} {scope : Scope} {dV kV doc pm cdv ct oc : Value} {an od : Option Addr} {osl : Array (Option Value)} {f : Addr} {args : Args} {binds : List (Str × Value)}
    {p : Program} {loose : List Str} {mean : ExcName → Option Value} {mg mb : Str → Option Value} {s : Shared} {h₀ : Heap} {L a : Addr} {m : Str → Option Value} {cn : Str} {cs : Scope} {ccd : Value} {cl : List (Str × Addr)} {news : List (Addr × Obj)}
    (F : Fr h₀ L s.heap m) (N : News h₀ L s.heap news) (X₀ : K.In h₀) (T : Top p loose mean mg mb h₀) (hcs : cs.kind = .function)
    (ho : K.lookup f = some ⟨oc, od, .func (fnOf name qual params body scope dV kV doc pm an cdv ct), osl⟩) (hcd : codeIn K cdv qual = true) (hroom : A.depth < recursionLimit)
    (hbind : BindsTo s (fnOf name qual params body scope dV kV doc pm an cdv ct) args binds) (hloc : ∀ y ∈ binds, scope.names.lookup y.1 = some .local)
    (h : ∀ g L' h₁ oL, PyProof.Rows.TI.Caller h₀ L m oL → PyProof.Rows.TI.Frs [envX cn cs L a ccd cl] [(L, oL)] → PyProof.Rows.TLg.AllNe L news → GSub s.heap g (L :: news.map (·.1)) → (∀ c o, h₀.get? c = some o → g.get? c = some o) →
      Fr g L' h₁ (fun y => binds.reverse.lookup y) → News g L' h₁ (news ++ [(L, oL)]) → K.In g → Top p loose mean mg mb g →
      wpAny (model prog w) (A.deeper (envOf qual scope L' f cdv)) (execs body (envOf qual scope L' f cdv))
        (fun fl s' => LeaveN R (match fl with | .ret v => v | _ => .none) s')
        (fun e s' => wpAny (model prog w) (A.deeper (envOf qual scope L' f cdv)) (leaving (envOf qual scope L' f cdv) e) (fun _ s'' => R (.error e) s'') (fun e' s'' => R (.error e') s'') s')
        { s with heap := h₁, toks := s.toks + binds.length })
    (hco : scope.isCoroutine = false) (hgen : scope.isGenerator = false) (hk : scope.kind = .function)
    (hcell : ∀ x ∈ scope.names, x.2 ≠ .cell) : codeAny (model prog w) A (.call (.ref f) args) R s := by
  obtain ⟨oL, es, ep, hL, hLd, hLk, hLf⟩ := F.ns
  have h0L : h₀.get? L = none := Heap.get?_none_of_le F.above
  have nm : ∀ b o, h₀.get? b = some o → b ∉ L :: news.map (·.1) := fun b o e q => by
    rcases List.mem_cons.mp q with rfl | q
    · rw [h0L] at e; cases e
    · obtain ⟨p, hp, rfl⟩ := List.mem_map.mp q
      rw [(N p hp).2.2] at e; cases e
  have st : ∀ b o, h₀.get? b = some o → (hideAll s.heap (L :: news.map (·.1))).get? b = some o := fun b o e => hideAll_get _ (F.keep b o e) (nm b o e)
  refine codeAny_call_def (fd := fnX name qual params body scope [] dV kV doc pm an cdv ct) (body := body) (binds := binds) hroom ((X₀.keeps F.keep) _ _ ho) rfl (T.nolimit.keeps F.keep) (codeRec_of (X₀.keeps F.keep) hcd) rfl hbind hcell hloc (fun h₁ hns hk₁ => ?_) hco hgen hk
  refine h (hideAll s.heap (L :: news.map (·.1))) s.heap.objs.size h₁ oL ⟨fun h' sl e => ⟨_, es, ep, e, hLd, hLk, hLf⟩, ⟨es, ep, hLd⟩, F.above⟩ ⟨?_, rfl, ⟨es, ep, hLd⟩, trivial⟩ (TLgL.allNe_of fun p hp => (N p hp).2.1) (fun b o e n => hideAll_get _ e n) st
    ⟨hns, fun b o e => hk₁ b o (of_hideAll _ e), Nat.le_of_eq (hideAll_size _ _)⟩ (fun p hp => ?_) (X₀.keeps st) (T.keeps st)
  · show cs.kind ≠ .module
    rw [hcs]; decide
  · rcases List.mem_append.mp hp with hp | hp
    · exact ⟨hk₁ _ _ (N p hp).1, Nat.ne_of_lt (Heap.lt_size (N p hp).1), hideAll_none _ (List.mem_cons_of_mem _ (List.mem_map_of_mem hp))⟩
    · rw [List.mem_singleton.mp hp]
      exact ⟨hk₁ _ _ hL, Nat.ne_of_lt (Heap.lt_size hL), hideAll_none _ (.head _)⟩
theorem hide_fin {h₀ g h h' : Heap} {L L' : Addr} {m m' : Str → Option Value} {oL : Obj} {sl : Array (Option Value)} {news news' : List (Addr × Obj)} (C : PyProof.Rows.TI.Caller h₀ L m oL) (h0g : ∀ c o, h₀.get? c = some o → g.get? c = some o) (k : GSub h g (L :: news.map (·.1)))
    (F : Fr g L' h' m') (N : News g L' h' (news' ++ [(L, { oL with slots := sl })])) (ne : ∀ p ∈ news', p.1 ≠ L) : Fr h₀ L h' m ∧ News h₀ L h' news' ∧ ∀ b o, b ∉ L :: news.map (·.1) → h.get? b = some o → h'.get? b = some o := by
  refine ⟨⟨C.ns _ sl (N _ (List.mem_append_right _ (.head _))).1, fun b o e => F.keep _ _ (h0g _ _ e), C.above⟩, fun p hp => ?_, fun b o hb e => F.keep _ _ (k _ _ e hb)⟩
  have hN := N p (List.mem_append_left _ hp)
  refine ⟨hN.1, ne p hp, ?_⟩
  cases q : h₀.get? p.1 with
  | none => rfl
  | some o => rw [h0g _ _ q] at hN; exact nomatch hN.2.2
theorem nxt_keep {h₀ h h' : Heap} {L I dx ga Lg : Addr} {o1 o2 o3 o4 o1' o4' : Obj} (N : News h₀ L h [(I, o1), (dx, o2), (ga, o3), (Lg, o4)]) (N' : News h₀ L h' [(I, o1'), (dx, o2), (ga, o3), (Lg, o4')])
    (k : ∀ b o, b ∉ L :: ([(I, o1), (dx, o2), (ga, o3), (Lg, o4)] : List (Addr × Obj)).map (·.1) → h.get? b = some o → h'.get? b = some o) : ∀ b o, b ≠ L → b ≠ I → b ≠ Lg → h.get? b = some o → h'.get? b = some o := fun b o n1 n2 n3 e => by
  by_cases hd : b = dx
  · subst hd
    have h1 := (N _ (.tail _ (.head _))).1
    have h2 := (N' _ (.tail _ (.head _))).1
    rw [e] at h1; cases h1; exact h2
  · by_cases hg : b = ga
    · subst hg
      have h1 := (N _ (.tail _ (.tail _ (.head _)))).1
      have h2 := (N' _ (.tail _ (.tail _ (.head _)))).1
      rw [e] at h1; cases h1; exact h2
    · exact k b o (by simp [n1, n2, n3, hd, hg]) e
theorem nxt_keep3 {h₀ h h' : Heap} {L I dx ga Lg : Addr} {o1 o2 o3 o4 o1' : Obj} (N : News h₀ L h [(I, o1), (dx, o2), (ga, o3), (Lg, o4)]) (N' : News h₀ L h' [(I, o1'), (dx, o2), (ga, o3)])
    (k : ∀ b o, b ∉ L :: ([(I, o1), (dx, o2), (ga, o3), (Lg, o4)] : List (Addr × Obj)).map (·.1) → h.get? b = some o → h'.get? b = some o) : ∀ b o, b ≠ L → b ≠ I → b ≠ Lg → h.get? b = some o → h'.get? b = some o := fun b o n1 n2 n3 e => by
  by_cases hd : b = dx
  · subst hd
    have h1 := (N _ (.tail _ (.head _))).1
    have h2 := (N' _ (.tail _ (.head _))).1
    rw [e] at h1; cases h1; exact h2
  · by_cases hg : b = ga
    · subst hg
      have h1 := (N _ (.tail _ (.tail _ (.head _)))).1
      have h2 := (N' _ (.tail _ (.tail _ (.head _)))).1
      rw [e] at h1; cases h1; exact h2
    · exact k b o (by simp [n1, n2, n3, hd, hg]) e
theorem rest4 {news : List (Addr × Obj)} {Lg : Addr} {p1 p2 p3 p4 : Addr × Obj} (h1 : p1 ∈ news) (h2 : p2 ∈ news) (h3 : p3 ∈ news) (h4 : p4 ∈ news) (n1 : p1.1 ≠ Lg) (n2 : p2.1 ≠ Lg) (n3 : p3.1 ≠ Lg) (n4 : p4.1 ≠ Lg) : ∀ p ∈ [p1, p2, p3] ++ [p4], p ∈ news ∧ p.1 ≠ Lg := fun p hp => by
  rcases List.mem_cons.mp hp with rfl | hp
  · exact ⟨h1, n1⟩
  · rcases List.mem_cons.mp hp with rfl | hp
    · exact ⟨h2, n2⟩
    · rcases List.mem_cons.mp hp with rfl | hp
      · exact ⟨h3, n3⟩
      · rw [List.mem_singleton.mp hp]; exact ⟨h4, n4⟩
theorem news_but {g h h' : Heap} {L tb : Addr} {all sub : List (Addr × Obj)} (N : News g L h all) (hs : Heap.SameBut tb h h') (k : ∀ p ∈ sub, p ∈ all ∧ p.1 ≠ tb) : News g L h' sub := fun p hp =>
  ⟨(hs.2 p.1 (k p hp).2).trans (N p (k p hp).1).1, (N p (k p hp).1).2⟩

abbrev envL (cn : Str) (cs : Scope) (L a : Addr) (ccd : Value) (cl : List (Str × Addr)) : Env := envX cn cs L a ccd cl
theorem lt_self_no {k : Int} : decide (k < k) = false := decide_eq_false (Int.lt_irrefl k)
local macro_rules | `(tactic| walk_at "WhlIf") => `(tactic| (first | (refine WhlIf.no lt_self_no ?_) | (refine WhlIf.yes (by decide) ?_) | (refine WhlIf.no (by decide) ?_)))
local macro_rules | `(tactic| k_ne) => `(tactic| (with_reducible show _ ≠ _; first | exact Ne.symm (by assumption) | assumption | (intro hz9; subst hz9; exact absurd (by assumption) (Nat.lt_irrefl _))))

set_option maxHeartbeats 8000000 in
theorem c_nxt_item {w : World} {p : Program} {loose : List Str} {mean : ExcName → Option Value} {mg mb : Str → Option Value} {dp un : Nat} {gd : Option (List Code)} {cn : Str} {cs : Scope} {a : Addr} {ccd : Value} {cl : List (Str × Addr)} {h₀ : Heap} {L : Addr} {m : Str → Option Value} {s : Shared} {Q E : Value → Shared → Prop}
  {I dx ga Lg : Nat} {nm qn : Value} {gs : GenState} {fo : Obj} {t0 t2 t3 t4 : Tok} {g n : Nat} {k : Int} {rev : List Str}
  (F : Fr h₀ L s.heap m) (X : (laid.heap_1 w.params).In h₀) (T : Top p loose mean mg mb h₀) (hk : cs.kind = .function) (hd : dp ≤ 400) (hu : un ≤ 4000)
  (N : News h₀ L s.heap [(I, islO dx ga k k 1 (-1) t0 t2 t3 t4), (dx, dictOf [] 0), (ga, genObj g nm qn), (Lg, fo)]) (o1 : Lg < ga ∧ ga < dx ∧ dx < I)
  (hgs : s.gens[g]? = some gs) (hR : ReadyG PySem.Challenge.rw_ij0098_01.row.prog w h₀ Lg rev (n + 1) gs fo)
  (ret : ∀ y t h' tk' gens' gs' fo' t0 t2, rev[n]? = some y → gs'.bare = true → gens'[g]? = some gs' → GenOnlyQ g s.gens gens' → ReadyG PySem.Challenge.rw_ij0098_01.row.prog w h₀ Lg rev n gs' fo' → Fr h₀ L h' m →
    News h₀ L h' [(I, islO dx ga (k + 1) (k + 1) 1 (-1) t0 t2 t3 t4), (dx, dictOf [] 0), (ga, genObj g nm qn), (Lg, fo')] → (∀ b o, b ≠ L → b ≠ I → b ≠ Lg → s.heap.get? b = some o → h'.get? b = some o) → Q (.str y t) { heap := h', gens := gens', drawn := s.drawn, toks := tk', os := s.os }) :
  wpAny (model PySem.Challenge.rw_ij0098_01.row.prog w) (ktrTop dp un gd cn cs L a ccd cl []) (call (.ref 64) [.ref I]) Q E s := by
  have hr9 : recursionLimit = 1000 := rfl
  have hc9 : cLine = 9900 := rfl
  (revert X; k_fill; intro X)
  refine wpAny_call ?_
  k_dflt (refine' code_defH (cn := cn) (cs := cs) (a := a) (ccd := ccd) (cl := cl) F N X T hk ?k6 ?k7 ?k8 ?k9 ?kB ?_ ?c2 ?c3 ?c4 ?c5; (case k6 => k_is); (case k7 => k_is); (case k8 => k_room); (case k9 => exact BindsTo.of_eq rfl); (case c5 => decide); (case kB => exact locs rfl); (case c2 => exact rfl); (case c3 => exact rfl); (case c4 => exact rfl))
  intro g' L' h' oL C9 Fs9 ne9 kG' h0g F' N' X' T'
  try dsimp only
  simp only [List.nil_append, List.cons_append] at N'
  simp only [PyProof.Rows.TLg.AllNe, and_true] at ne9
  obtain ⟨o1, o2, o3⟩ := o1
  obtain ⟨e1, e2, e3, e4⟩ := ne9
  k_with "call builtin:next" => (k_here; (with_reducible show wpAny _ _ (call (Value.builtin "next") [Value.ref _]) _ _ _); (rename Fr _ _ _ _ => F9); (rename News _ _ _ _ => N9); (k_dflt (refine next_item (g := g) (h₀ := h₀) (rev := rev) (Lg := Lg) rfl (by show dp + 1 ≤ 490; omega) (by show un + 3 ≤ 4890; omega) T'.nolimit h0g F9 N9 (by k_mem) (by k_updF) (by assumption) (by assumption) ?_; clear F9 N9; intro y9 t9 h9 tk9 gens9 gs9 fo9 hy9 hb9 hg9 hG9 hR9 F9 N9; (try dsimp only at N9 ⊢))))
  (repeat' (first | (k_unfold; (try dsimp only)) | (k_end; wrow_close) | walk1 | (dsimp only; walk1) | (leave1; walk_say "STEP leave1"; try dsimp only) | fail "no step"))
  all_goals ((show Q _ _); (rename Fr _ _ _ _ => F9); (rename News _ _ _ _ => N9); (obtain ⟨FL, NL, KL⟩ := hide_fin (news := [(I, islO dx ga k k 1 (-1) t0 t2 t3 t4), (dx, dictOf [] 0), (ga, genObj g nm qn), (Lg, fo)]) (news' := [(_, _), (_, _), (_, _), (_, _)]) (sl := oL.slots) C9 h0g kG' F9 N9 (by intro p hp; rcases List.mem_cons.mp hp with rfl | hp; exact e1; rcases List.mem_cons.mp hp with rfl | hp; exact e2; rcases List.mem_cons.mp hp with rfl | hp; exact e3; rw [List.mem_singleton.mp hp]; exact e4); exact ret _ _ _ _ _ _ _ _ _ hy9 hb9 hg9 hG9 hR9 FL NL (nxt_keep N NL KL)))
set_option maxHeartbeats 8000000 in
theorem c_nxt_first {w : World} {p : Program} {loose : List Str} {mean : ExcName → Option Value} {mg mb : Str → Option Value} {dp un : Nat} {gd : Option (List Code)} {cn : Str} {cs : Scope} {a : Addr} {ccd : Value} {cl : List (Str × Addr)} {h₀ : Heap} {L : Addr} {m : Str → Option Value} {s : Shared} {Q E : Value → Shared → Prop}
  {I dx ga Lg : Nat} {nm qn : Value} {gs : GenState} {fo : Obj} {t0 t2 t3 t4 : Tok} {g n : Nat} {rev : List Str}
  (F : Fr h₀ L s.heap m) (X : (laid.heap_1 w.params).In h₀) (T : Top p loose mean mg mb h₀) (hk : cs.kind = .function) (hd : dp ≤ 400) (hu : un ≤ 4000)
  (N : News h₀ L s.heap [(I, islO dx ga 0 1 1 (-1) t0 t2 t3 t4), (dx, dictOf [] 0), (ga, genObj g nm qn), (Lg, fo)]) (o1 : Lg < ga ∧ ga < dx ∧ dx < I)
  (hgs : s.gens[g]? = some gs) (hR : ReadyG PySem.Challenge.rw_ij0098_01.row.prog w h₀ Lg rev (n + 2) gs fo)
  (ret : ∀ y t h' tk' gens' gs' fo' t0 t2, rev[n]? = some y → gs'.bare = true → gens'[g]? = some gs' → GenOnlyQ g s.gens gens' → ReadyG PySem.Challenge.rw_ij0098_01.row.prog w h₀ Lg rev n gs' fo' → Fr h₀ L h' m →
    News h₀ L h' [(I, islO dx ga 2 2 1 (-1) t0 t2 t3 t4), (dx, dictOf [] 0), (ga, genObj g nm qn), (Lg, fo')] → (∀ b o, b ≠ L → b ≠ I → b ≠ Lg → s.heap.get? b = some o → h'.get? b = some o) → Q (.str y t) { heap := h', gens := gens', drawn := s.drawn, toks := tk', os := s.os }) :
  wpAny (model PySem.Challenge.rw_ij0098_01.row.prog w) (ktrTop dp un gd cn cs L a ccd cl []) (call (.ref 64) [.ref I]) Q E s := by
  have hr9 : recursionLimit = 1000 := rfl
  have hc9 : cLine = 9900 := rfl
  (revert X; k_fill; intro X)
  refine wpAny_call ?_
  k_dflt (refine' code_defH (cn := cn) (cs := cs) (a := a) (ccd := ccd) (cl := cl) F N X T hk ?k6 ?k7 ?k8 ?k9 ?kB ?_ ?c2 ?c3 ?c4 ?c5; (case k6 => k_is); (case k7 => k_is); (case k8 => k_room); (case k9 => exact BindsTo.of_eq rfl); (case c5 => decide); (case kB => exact locs rfl); (case c2 => exact rfl); (case c3 => exact rfl); (case c4 => exact rfl))
  intro g' L' h' oL C9 Fs9 ne9 kG' h0g F' N' X' T'
  try dsimp only
  simp only [List.nil_append, List.cons_append] at N'
  simp only [PyProof.Rows.TLg.AllNe, and_true] at ne9
  obtain ⟨o1, o2, o3⟩ := o1
  obtain ⟨e1, e2, e3, e4⟩ := ne9
  k_with "call builtin:next" => (k_here; (with_reducible show wpAny _ _ (call (Value.builtin "next") [Value.ref _]) _ _ _); (rename Fr _ _ _ _ => F9); (rename News _ _ _ _ => N9); (k_dflt (refine next_item (g := g) (h₀ := h₀) (rev := rev) (Lg := Lg) rfl (by show dp + 1 ≤ 490; omega) (by show un + 3 ≤ 4890; omega) T'.nolimit h0g F9 N9 (by k_mem) (by k_updF) (by assumption) (by assumption) ?_; clear F9 N9; intro y9 t9 h9 tk9 gens9 gs9 fo9 hy9 hb9 hg9 hG9 hR9 F9 N9; (try dsimp only at N9 ⊢))))
  (repeat' (first | (k_unfold; (try dsimp only)) | (k_end; wrow_close) | walk1 | (dsimp only; walk1) | (leave1; walk_say "STEP leave1"; try dsimp only) | fail "no step"))
  all_goals ((show Q _ _); (rename Fr _ _ _ _ => F9); (rename News _ _ _ _ => N9); (obtain ⟨FL, NL, KL⟩ := hide_fin (news := [(I, islO dx ga 0 1 1 (-1) t0 t2 t3 t4), (dx, dictOf [] 0), (ga, genObj g nm qn), (Lg, fo)]) (news' := [(_, _), (_, _), (_, _), (_, _)]) (sl := oL.slots) C9 h0g kG' F9 N9 (by intro p hp; rcases List.mem_cons.mp hp with rfl | hp; exact e1; rcases List.mem_cons.mp hp with rfl | hp; exact e2; rcases List.mem_cons.mp hp with rfl | hp; exact e3; rw [List.mem_singleton.mp hp]; exact e4); exact ret _ _ _ _ _ _ _ _ _ hy9 hb9 hg9 (GenOnlyQ.trans (by assumption) hG9) hR9 FL NL (nxt_keep N NL KL)))
end

section
/-! an exception that a clause of the same call takes, and that the clause sends on -/
open PyProof.Rows in
theorem exc_caught {prog : Program} {w : World} {A₀ : Around} {E : Value → Shared → Prop} {s' : Shared} {g h : Heap} {L L' a e : Addr} {m : Str → Option Value} {name : Str} {scope : Scope} {cd : Value} {env : Env} {oL : Obj} {new : List (Addr × Obj)}
    {t : Expr} {b₀ : Stmt} {suite : List Stmt} {pos : Pos} {rest : List ExceptHandler} {Q : Flow → Shared → Prop} {X : String}
    (hfr : A₀.frames = some [env]) (Fs : TI.Frs [env] [(L, oL)]) (hx : Heap.NewExc h s'.heap e X) (F : Fr g L' h m) (N : News g L' h (new ++ [(L, oL)])) (hne : ∀ p ∈ new, p.1 ≠ L) (hcl : ∀ p ∈ new, p.2.cls ≠ .type X)
    (hname : ∀ h' (Q' : Value → Shared → Prop) (E' : Value → Shared → Prop), Fr g L' h' m → Q' (.type "BaseException") { s' with heap := h' } →
      wpAny (model prog w) ((A₀.deeper (envOf name scope L' a cd)).mark (some (.ref e))) (eval t (envOf name scope L' a cd)) Q' E' { s' with heap := h' })
    (hsub : isSubtype (.type X) (.type "BaseException") = pure true) (hexc : isSubtype (.type "BaseException") (.type "BaseException") = pure true) (hnt : isSubtype (.type ((Manifest.find? "BaseException").elim "type" fun y => y.metatype)) (.type "tuple") = pure false)
    (k : ∀ h' sl ob vs otb tvs (tb : Nat), Fr g L' h' m → News g L' h' ((e, ob) :: (tb, otb) :: (new ++ [(L, { oL with slots := sl })])) → ob.cls = .type X → ob.data = .fields vs → vs[1]? = some (.ref tb) → otb.data = .fields tvs → 3 < tvs.size → (tb : Nat) ≠ e →
      (∀ p ∈ new, (p.1 : Nat) ≠ e ∧ (p.1 : Nat) ≠ tb) → (L : Nat) ≠ e → (L : Nat) ≠ tb →
      wpAny (model prog w) ((A₀.deeper (envOf name scope L' a cd)).mark (some (.ref e))) (execs (b₀ :: suite) (envOf name scope L' a cd)) Q
        (notedBy (model prog w) ((A₀.deeper (envOf name scope L' a cd)).mark (some (.ref e))) (envOf name scope L' a cd) (cameBackBy (model prog w) (A₀.deeper (envOf name scope L' a cd)) (envOf name scope L' a cd) E)) { s' with heap := h' })
    (hk : scope.kind = .function := by rfl) :
    wpAny (model prog w) (A₀.deeper (envOf name scope L' a cd)) (noteFrame (.ref e) (envOf name scope L' a cd))
      (fun _ s₂ => wpAny (model prog w) (A₀.deeper (envOf name scope L' a cd)) (setFlight (.ref e) none) (fun _ s₃ =>
        wpAny (model prog w) (A₀.deeper (envOf name scope L' a cd)) (handleBy (.ref e) (envOf name scope L' a cd) (.ExceptHandler (some t) none (b₀ :: suite) pos :: rest)) Q E s₃) E s₂) E s' := by
  refine TLg.noted_new1 hfr Fs hx F N (TLgL.allNe_of hne) (fun h₁ sl Fs₁ H₁ => ?_) hk
  refine TT.HeldNA.land H₁ fun h₂ H₂ => ?_
  refine wpAny_handleBy_builtin (X := X) (T := "BaseException") (b := true) hexc hnt hsub (hname _ _ _ H₂.held.fr ⟨rfl, H₂.isA, ?_⟩)
  rw [if_pos rfl]
  refine TT.HeldNA.land H₂ fun h₃ H₃ => ?_
  have N₃ := H₃.made
  obtain ⟨F₃, ⟨ob, vs, tb, otb, tvs, he, hcls, hd, h1, htb, htd, h3, htbL, htbe, htb0⟩, hf⟩ := H₃.held
  have hap := H₃.apart ob vs tb he hd h1
  have hsz : 3 < tvs.size := (Array.getElem?_eq_some_iff.mp h3).1
  have hL := (N₃ _ (List.mem_append_right _ (.head _))).1
  obtain ⟨_, _, ⟨es, ep, hLd⟩, _⟩ := Fs
  have hLe : L ≠ e := fun q => by
    have hL' : h₃.get? L = some { oL with slots := sl } := hL
    rw [q, he] at hL'
    have := Option.some.inj hL'
    rw [this] at hd
    have hLd' : oL.data = .dict es ep := hLd
    have hd' : oL.data = .fields vs := hd
    rw [hLd'] at hd'; cases hd'
  have heL : e ≠ L' := fun q => by
    obtain ⟨o, es', ep', ho, hod, _⟩ := F₃.ns
    rw [← q, he] at ho; cases ho
    rw [hd] at hod; cases hod
  refine k h₃ sl ob vs otb tvs tb F₃ (fun p hp => ?_) hcls hd h1 htd hsz htbe (fun p hp => ⟨fun q => ?_, hap p (List.mem_append_left _ hp)⟩) hLe (hap _ (List.mem_append_right _ (.head _)))
  · rcases List.mem_cons.mp hp with rfl | hp
    · exact ⟨he, heL, hf⟩
    · rcases List.mem_cons.mp hp with rfl | hp
      · exact ⟨htb, htbL, htb0⟩
      · exact N₃ p hp
  · have hp1 := (N₃ p (List.mem_append_left _ hp)).1
    have q' : p.1 = e := q
    rw [q', he] at hp1
    have := Option.some.inj hp1
    exact hcl p hp (by rw [← this]; exact hcls)
/-- an exception in flight: what a station reads of it -/
structure Aloft (h : Heap) (e tb : Addr) (ob : Obj) (fl : Value) : Prop where
  he : h.get? e = some ob
  hv : ∃ vs, ob.data = .fields vs ∧ vs[1]? = some (.ref tb)
  ht : ∃ otb tvs, h.get? tb = some otb ∧ otb.data = .fields tvs ∧ tvs[3]? = some fl
  ne : tb ≠ e
theorem Aloft.set {h : Heap} {e tb : Addr} {ob : Obj} {fl : Value} (H : Aloft h e tb ob fl) (x : Value) : Aloft (h.update tb (Obj.mapFields (·.setIfInBounds 3 x))) e tb ob x := by
  obtain ⟨he, hv, ⟨otb, tvs, h1, h2, h3⟩, ne⟩ := H
  have hsz : 3 < tvs.size := (Array.getElem?_eq_some_iff.mp h3).1
  exact ⟨(Heap.get?_update_other _ _ ne).trans he, hv, ⟨_, _, Heap.get?_update_self _ h1 (Obj.isFreed_of_fields (Obj.data_mapFields h2 _)), Obj.data_mapFields h2 _, by simp [hsz]⟩, ne⟩
theorem aloft_setFlight {M : Model} {A : Around} {E : Value → Shared → Prop} {s : Shared} {e tb : Addr} {ob : Obj} {fl : Value} {f : Option Addr} {Q : Unit → Shared → Prop} (H : Aloft s.heap e tb ob fl)
    (k : ∀ h', Heap.SameBut tb s.heap h' → Aloft h' e tb ob (f.elim .none fun f => rawInt f) → Q () { s with heap := h' }) : wpAny M A (setFlight (.ref e) f) Q E s := by
  have H' := H.set (f.elim .none fun f => rawInt f)
  obtain ⟨he, ⟨vs, hd, h1⟩, ⟨otb, tvs, h2, h3, h4⟩, ne⟩ := H
  unfold setFlight
  refine wpAny_bind (wpAny_field he hd h1 ?_)
  rw [if_pos (show (Value.ref tb != Value.none) = true from by simp)]
  exact wpAny_setField h2 h3 (Array.getElem?_eq_some_iff.mp h4).1 (k _ (Heap.SameBut.update ..) H')
theorem aloft_noted {M : Model} {A : Around} {E : Value → Shared → Prop} {s : Shared} {e tb L' a : Addr} {ob : Obj} {name : Str} {scope : Scope} {cd : Value} {Q : Unit → Shared → Prop} (H : Aloft s.heap e tb ob (rawInt L')) (k : Q () s) :
    wpAny M A (noteFrame (.ref e) (envOf name scope L' a cd)) Q E s := by
  obtain ⟨he, ⟨vs, hd, h1⟩, ⟨otb, tvs, h2, h3, h4⟩, ne⟩ := H
  unfold noteFrame
  simp only [show (envOf name scope L' a cd).frame = some L' from rfl]
  refine wpAny_bind (wpAny_field he hd h1 ?_)
  rw [if_pos (show (Value.ref tb != Value.none) = true from by simp)]
  refine wpAny_bind (wpAny_field h2 h3 h4 ?_)
  rw [if_pos (show (rawInt L' == rawInt L') = true from by simp)]
  exact wpAny_pure k
theorem exc_out {prog : Program} {w : World} {A : Around} {s : Shared} {L' a e tb : Addr} {name : Str} {scope : Scope} {cd : Value} {pos : Pos} {Q : Flow → Shared → Prop} {R : Value → Shared → Prop} {E₁ : Value → Shared → Prop} {ob : Obj} {fl : Value} (H : Aloft s.heap e tb ob fl)
    (k : ∀ h', Heap.SameBut tb s.heap h' → h'.get? e = some ob → R (.ref e) { s with heap := h' }) :
    wpAny (model prog w) (A.mark (some (.ref e))) (exec (.Raise none none pos) (envOf name scope L' a cd)) Q
      (notedBy (model prog w) (A.mark (some (.ref e))) (envOf name scope L' a cd) (cameBackBy (model prog w) A (envOf name scope L' a cd) (fun e s' => wpAny (model prog w) A (leaving (envOf name scope L' a cd) e) (fun _ s'' => R e s'') (fun e' s'' => E₁ e' s'') s'))) s := by
  rw [arm_exec_Raise]
  refine wpAny_bind (wpAny_standAt ?_)
  show wpAny _ _ (raiseStmt (envOf name scope L' a cd) none none) _ _ s
  unfold raiseStmt
  refine wpAny_bind (wpAny_handled ?_)
  obtain ⟨vs, hd, h1⟩ := H.hv
  show wpAny _ _ (rule "raise.bare" >>= fun _ => field (.ref e) 1 >>= fun x => _) _ _ s
  refine wpAny_bind (wpAny_rule (wpAny_bind (wpAny_field H.he hd h1 ?_)))
  rw [if_neg (show ¬ ((Value.ref tb == Value.none) = true) from Bool.false_ne_true)]
  refine wpAny_bind (aloft_setFlight H fun h₁ s₁ H₁ => ?_)
  refine wpAny_throw ?_
  unfold notedBy
  refine aloft_noted H₁ ?_
  unfold cameBackBy
  refine wpAny_bind (wpAny_field H₁.he hd h1 ?_)
  rw [if_neg (show ¬ ((Value.ref tb == Value.none) = true) from Bool.false_ne_true)]
  refine aloft_setFlight H₁ fun h₂ s₂ H₂ => ?_
  unfold leaving
  refine wpAny_bind (aloft_noted H₂ ?_)
  refine aloft_setFlight H₂ fun h₃ s₃ H₃ => ?_
  exact k h₃ ((s₁.trans s₂).trans s₃) H₃.he
end

section
local macro_rules | `(tactic| walk_at "WhlIf") => `(tactic| (first | (refine WhlIf.no lt_self_no ?_) | (refine WhlIf.yes (by decide) ?_) | (refine WhlIf.no (by decide) ?_)))
local macro_rules | `(tactic| k_ne) => `(tactic| (with_reducible show _ ≠ _; first | exact Ne.symm (by assumption) | assumption | (intro hz9; subst hz9; exact absurd (by assumption) (Nat.lt_irrefl _))))

theorem cl3 {I dx ga : Addr} {k1 k2 k3 k4 : Int} {t0 t2 t3 t4 : Tok} {g : Nat} {nm qn : Value} : ∀ p ∈ [(I, islO dx ga k1 k2 k3 k4 t0 t2 t3 t4), (dx, dictOf [] 0), (ga, genObj g nm qn)], p.2.cls ≠ .type "StopIteration" := by
  intro p hp
  rcases List.mem_cons.mp hp with rfl | hp
  · intro h; cases h
  · rcases List.mem_cons.mp hp with rfl | hp
    · show Value.type "dict" ≠ Value.type "StopIteration"; decide
    · rw [List.mem_singleton.mp hp]; show Value.type "generator" ≠ Value.type "StopIteration"; decide
set_option maxHeartbeats 8000000 in
theorem c_nxt_stop {w : World} {p : Program} {loose : List Str} {mean : ExcName → Option Value} {mg mb : Str → Option Value} {dp un : Nat} {gd : Option (List Code)} {cn : Str} {cs : Scope} {a : Addr} {ccd : Value} {cl : List (Str × Addr)} {h₀ : Heap} {L : Addr} {m : Str → Option Value} {s : Shared} {Q E : Value → Shared → Prop}
  {I dx ga Lg : Nat} {nm qn : Value} {gs : GenState} {fo : Obj} {t0 t2 t3 t4 : Tok} {g : Nat} {k : Int} {rev : List Str}
  (F : Fr h₀ L s.heap m) (X : (laid.heap_1 w.params).In h₀) (T : Top p loose mean mg mb h₀) (hk : cs.kind = .function) (hd : dp ≤ 400) (hu : un ≤ 4000)
  (N : News h₀ L s.heap [(I, islO dx ga k k 1 (-1) t0 t2 t3 t4), (dx, dictOf [] 0), (ga, genObj g nm qn), (Lg, fo)]) (o1 : Lg < ga ∧ ga < dx ∧ dx < I)
  (hgs : s.gens[g]? = some gs) (hR : ReadyG PySem.Challenge.rw_ij0098_01.row.prog w h₀ Lg rev 0 gs fo)
  (ret : ∀ e h' tk' gens', (∃ ob, h'.get? e = some ob ∧ ob.cls = .type "StopIteration") → gens'[g]? = some .finished → GenOnlyQ g s.gens gens' → Fr h₀ L h' m → (∀ b o, b ≠ L → b ≠ I → b ≠ Lg → s.heap.get? b = some o → h'.get? b = some o) → E (.ref e) { heap := h', gens := gens', drawn := s.drawn, toks := tk', os := s.os }) :
  wpAny (model PySem.Challenge.rw_ij0098_01.row.prog w) (ktrTop dp un gd cn cs L a ccd cl []) (call (.ref 64) [.ref I]) Q E s := by
  have hr9 : recursionLimit = 1000 := rfl
  have hc9 : cLine = 9900 := rfl
  (revert X; k_fill; intro X)
  refine wpAny_call ?_
  k_dflt (refine' code_defH (cn := cn) (cs := cs) (a := a) (ccd := ccd) (cl := cl) F N X T hk ?k6 ?k7 ?k8 ?k9 ?kB ?_ ?c2 ?c3 ?c4 ?c5; (case k6 => k_is); (case k7 => k_is); (case k8 => k_room); (case k9 => exact BindsTo.of_eq rfl); (case c5 => decide); (case kB => exact locs rfl); (case c2 => exact rfl); (case c3 => exact rfl); (case c4 => exact rfl))
  intro g' L' h' oL C9 Fs9 ne9 kG' h0g F' N' X' T'
  try dsimp only
  simp only [List.nil_append, List.cons_append] at N'
  simp only [PyProof.Rows.TLg.AllNe, and_true] at ne9
  obtain ⟨o1, o2, o3⟩ := o1
  obtain ⟨e1, e2, e3, e4⟩ := ne9
  k_with "call builtin:next" => (k_here; (with_reducible show wpAny _ _ (call (Value.builtin "next") [Value.ref _]) _ _ _); (rename Fr _ _ _ _ => F9); (rename News _ _ _ _ => N9); (k_dflt (refine next_stop (g := g) (h₀ := h₀) (rev := rev) (Lg := Lg) (rest := [(I, _), (dx, _), (ga, _)] ++ [(L, oL)]) rfl (by show dp + 1 ≤ 490; omega) (by show un + 3 ≤ 4890; omega) T'.nolimit h0g F9 N9 (by k_mem) (by k_mem) (rest4 (by k_mem) (by k_mem) (by k_mem) (by k_mem) (by k_ne) (by k_ne) (by k_ne) (Ne.symm e4)) (by assumption) (by assumption) ?_; clear F9 N9; intro e9 h19 h29 tk9 gens9 hg9 hG9 F9 N9 hX9; (try dsimp only); refine exc_caught rfl Fs9 hX9 F9 N9 (by intro p hp; rcases List.mem_cons.mp hp with rfl | hp; exact e1; rcases List.mem_cons.mp hp with rfl | hp; exact e2; rw [List.mem_singleton.mp hp]; exact e3) cl3 ?_ (by rw [isSubtype_type]; kernel_rfl) (by rw [isSubtype_type]; kernel_rfl) (by rw [isSubtype_type]; kernel_rfl) ?k9; (case' k9 => (intro hh9 sl9 ob9 vs9 otb9 tvs9 tb9 F99 N99 hc9 hv9 hv19 ht9 ht19 hne9 hp9 hLe9 hLt9; obtain ⟨pI1, pI2⟩ := hp9 _ (.head _); obtain ⟨pd1, pd2⟩ := hp9 _ (.tail _ (.head _)); obtain ⟨pg1, pg2⟩ := hp9 _ (.tail _ (.tail _ (.head _))); clear hp9 F9 N9 hX9; (simp only [List.nil_append, List.cons_append] at N99 pI1 pI2 pd1 pd2 pg1 pg2); (try dsimp only))))))
  k_with "exec Raise none none" => (k_here; (rename News _ _ _ _ => N98); (refine exc_out (tb := tb9) (ob := ob9) (fl := tvs9[3]) ⟨News.get (a := e9) (o := ob9) N98 (by k_mem), ⟨vs9, hv9, hv19⟩, ⟨otb9, tvs9, News.get (a := tb9) (o := otb9) N98 (by k_mem), ht9, Array.getElem?_eq_getElem ht19⟩, hne9⟩ ?_; intro hz9 hs9 he9; (try dsimp only)))
  (repeat' (first | (k_unfold; (try dsimp only)) | (k_end; wrow_close) | walk1 | (dsimp only; walk1) | (leave1; walk_say "STEP leave1"; try dsimp only) | fail "no step"))
  all_goals (first | assumption | ((show E _ _); (rename Fr _ _ _ _ => F98); (rename News _ _ _ _ => N98); (have N2 : News g' L' hz9 ([(I, _), (dx, _), (ga, _)] ++ [(L, { oL with slots := sl9 })]) := news_but N98 hs9 (rest4 (.tail _ (.tail _ (.head _))) (.tail _ (.tail _ (.tail _ (.head _)))) (.tail _ (.tail _ (.tail _ (.tail _ (.head _))))) (.tail _ (.tail _ (.tail _ (.tail _ (.tail _ (.head _)))))) pI2 pd2 pg2 hLt9); have F2 := F98.change hs9 (N98 _ (.tail _ (.head _))).2.1 (N98 _ (.tail _ (.head _))).2.2; obtain ⟨FL, NL, KL⟩ := hide_fin (news := [(I, islO dx ga k k 1 (-1) t0 t2 t3 t4), (dx, dictOf [] 0), (ga, genObj g nm qn), (Lg, fo)]) (news' := [(I, _), (dx, _), (ga, _)]) (sl := sl9) C9 h0g kG' F2 N2 (by intro p hp; rcases List.mem_cons.mp hp with rfl | hp; exact e1; rcases List.mem_cons.mp hp with rfl | hp; exact e2; rw [List.mem_singleton.mp hp]; exact e3); exact ret _ _ _ _ ⟨ob9, he9, hc9⟩ hg9 hG9 FL (nxt_keep3 N NL KL))))

set_option maxHeartbeats 8000000 in
theorem c_nxt_first_stop {w : World} {p : Program} {loose : List Str} {mean : ExcName → Option Value} {mg mb : Str → Option Value} {dp un : Nat} {gd : Option (List Code)} {cn : Str} {cs : Scope} {a : Addr} {ccd : Value} {cl : List (Str × Addr)} {h₀ : Heap} {L : Addr} {m : Str → Option Value} {s : Shared} {Q E : Value → Shared → Prop}
  {I dx ga Lg : Nat} {nm qn : Value} {gs : GenState} {fo : Obj} {t0 t2 t3 t4 : Tok} {g : Nat} {rev : List Str}
  (F : Fr h₀ L s.heap m) (X : (laid.heap_1 w.params).In h₀) (T : Top p loose mean mg mb h₀) (hk : cs.kind = .function) (hd : dp ≤ 400) (hu : un ≤ 4000)
  (N : News h₀ L s.heap [(I, islO dx ga 0 1 1 (-1) t0 t2 t3 t4), (dx, dictOf [] 0), (ga, genObj g nm qn), (Lg, fo)]) (o1 : Lg < ga ∧ ga < dx ∧ dx < I)
  (hgs : s.gens[g]? = some gs) (hR : ReadyG PySem.Challenge.rw_ij0098_01.row.prog w h₀ Lg rev 1 gs fo)
  (ret : ∀ e h' tk' gens', (∃ ob, h'.get? e = some ob ∧ ob.cls = .type "StopIteration") → gens'[g]? = some .finished → GenOnlyQ g s.gens gens' → Fr h₀ L h' m → (∀ b o, b ≠ L → b ≠ I → b ≠ Lg → s.heap.get? b = some o → h'.get? b = some o) → E (.ref e) { heap := h', gens := gens', drawn := s.drawn, toks := tk', os := s.os }) :
  wpAny (model PySem.Challenge.rw_ij0098_01.row.prog w) (ktrTop dp un gd cn cs L a ccd cl []) (call (.ref 64) [.ref I]) Q E s := by
  have hr9 : recursionLimit = 1000 := rfl
  have hc9 : cLine = 9900 := rfl
  (revert X; k_fill; intro X)
  refine wpAny_call ?_
  k_dflt (refine' code_defH (cn := cn) (cs := cs) (a := a) (ccd := ccd) (cl := cl) F N X T hk ?k6 ?k7 ?k8 ?k9 ?kB ?_ ?c2 ?c3 ?c4 ?c5; (case k6 => k_is); (case k7 => k_is); (case k8 => k_room); (case k9 => exact BindsTo.of_eq rfl); (case c5 => decide); (case kB => exact locs rfl); (case c2 => exact rfl); (case c3 => exact rfl); (case c4 => exact rfl))
  intro g' L' h' oL C9 Fs9 ne9 kG' h0g F' N' X' T'
  try dsimp only
  simp only [List.nil_append, List.cons_append] at N'
  simp only [PyProof.Rows.TLg.AllNe, and_true] at ne9
  obtain ⟨o1, o2, o3⟩ := o1
  obtain ⟨e1, e2, e3, e4⟩ := ne9
  k_with "call builtin:next" => (k_here; (with_reducible show wpAny _ _ (call (Value.builtin "next") [Value.ref _]) _ _ _); (rename Fr _ _ _ _ => F9); (rename News _ _ _ _ => N9); (k_dflt (refine next_item (g := g) (h₀ := h₀) (rev := rev) (Lg := Lg) rfl (by show dp + 1 ≤ 490; omega) (by show un + 3 ≤ 4890; omega) T'.nolimit h0g F9 N9 (by k_mem) (by k_updF) (by assumption) (by assumption) ?_; clear F9 N9; intro y9 t9 h9 tk9 gens9 gs9 fo9 hy9 hb9 hg9 hG9 hR9 F9 N9; (try dsimp only at N9 ⊢))))
  k_with "call builtin:next" => (k_here; (with_reducible show wpAny _ _ (call (Value.builtin "next") [Value.ref _]) _ _ _); (rename Fr _ _ _ _ => F9); (rename News _ _ _ _ => N9); (k_dflt (refine next_stop (g := g) (h₀ := h₀) (rev := rev) (Lg := Lg) (rest := [(I, _), (dx, _), (ga, _)] ++ [(L, oL)]) rfl (by show dp + 1 ≤ 490; omega) (by show un + 3 ≤ 4890; omega) T'.nolimit h0g F9 N9 (by k_mem) (by k_mem) (rest4 (by k_mem) (by k_mem) (by k_mem) (by k_mem) (by k_ne) (by k_ne) (by k_ne) (Ne.symm e4)) (by assumption) (by assumption) ?_; clear F9 N9; intro e9 h19 h29 tk9 gens9 hg9 hG9 F9 N9 hX9; (try dsimp only); refine exc_caught rfl Fs9 hX9 F9 N9 (by intro p hp; rcases List.mem_cons.mp hp with rfl | hp; exact e1; rcases List.mem_cons.mp hp with rfl | hp; exact e2; rw [List.mem_singleton.mp hp]; exact e3) cl3 ?_ (by rw [isSubtype_type]; kernel_rfl) (by rw [isSubtype_type]; kernel_rfl) (by rw [isSubtype_type]; kernel_rfl) ?k9; (case' k9 => (intro hh9 sl9 ob9 vs9 otb9 tvs9 tb9 F99 N99 hc9 hv9 hv19 ht9 ht19 hne9 hp9 hLe9 hLt9; obtain ⟨pI1, pI2⟩ := hp9 _ (.head _); obtain ⟨pd1, pd2⟩ := hp9 _ (.tail _ (.head _)); obtain ⟨pg1, pg2⟩ := hp9 _ (.tail _ (.tail _ (.head _))); clear hp9 F9 N9 hX9; (simp only [List.nil_append, List.cons_append] at N99 pI1 pI2 pd1 pd2 pg1 pg2); (try dsimp only))))))
  k_with "exec Raise none none" => (k_here; (rename News _ _ _ _ => N98); (refine exc_out (tb := tb9) (ob := ob9) (fl := tvs9[3]) ⟨News.get (a := e9) (o := ob9) N98 (by k_mem), ⟨vs9, hv9, hv19⟩, ⟨otb9, tvs9, News.get (a := tb9) (o := otb9) N98 (by k_mem), ht9, Array.getElem?_eq_getElem ht19⟩, hne9⟩ ?_; intro hz9 hs9 he9; (try dsimp only)))
  (repeat' (first | (k_unfold; (try dsimp only)) | (k_end; wrow_close) | walk1 | (dsimp only; walk1) | (leave1; walk_say "STEP leave1"; try dsimp only) | fail "no step"))
  all_goals (first | assumption | ((show E _ _); (rename Fr _ _ _ _ => F98); (rename News _ _ _ _ => N98); (have N2 : News g' L' hz9 ([(I, _), (dx, _), (ga, _)] ++ [(L, { oL with slots := sl9 })]) := news_but N98 hs9 (rest4 (.tail _ (.tail _ (.head _))) (.tail _ (.tail _ (.tail _ (.head _)))) (.tail _ (.tail _ (.tail _ (.tail _ (.head _))))) (.tail _ (.tail _ (.tail _ (.tail _ (.tail _ (.head _)))))) pI2 pd2 pg2 hLt9); have F2 := F98.change hs9 (N98 _ (.tail _ (.head _))).2.1 (N98 _ (.tail _ (.head _))).2.2; obtain ⟨FL, NL, KL⟩ := hide_fin (news := [(I, islO dx ga 0 1 1 (-1) t0 t2 t3 t4), (dx, dictOf [] 0), (ga, genObj g nm qn), (Lg, fo)]) (news' := [(I, _), (dx, _), (ga, _)]) (sl := sl9) C9 h0g kG' F2 N2 (by intro p hp; rcases List.mem_cons.mp hp with rfl | hp; exact e1; rcases List.mem_cons.mp hp with rfl | hp; exact e2; rw [List.mem_singleton.mp hp]; exact e3); exact ret _ _ _ _ ⟨ob9, he9, hc9⟩ hg9 (GenOnlyQ.trans (by assumption) hG9) FL (nxt_keep3 N NL KL))))
end

section
/-! list(x) of an iterator of the text's own -/
section
variable {prog : Program} {w : World} {A : Around} {E : Value → Shared → Prop} {s : Shared} {K : Frag} {I S C : Addr} {n : Nat} {P : Nat → Value → Prop} {J : Nat → Array Value → Shared → Prop} {D : Array Value → Shared → Prop}
structure OwnWalk (prog : Program) (w : World) (A : Around) (K : Frag) (I S C : Addr) (n : Nat) (P : Nat → Value → Prop) (J : Nat → Array Value → Shared → Prop) (D : Array Value → Shared → Prop) : Prop where
  ne : S ≠ I
  frag : ∀ i acc s, J i acc s → K.In s.heap
  inst : ∀ i acc s, J i acc s → ∃ ox od, InstAt s.heap I ox C od
  noLen : findIn K (.ref C) "__len__" = some none
  noHint : findIn K (.ref C) "__length_hint__" = some none
  list : ∀ i acc s, J i acc s → ∃ c, s.heap.get? S = some { cls := .type "list", dict := none, data := .seq acc c, slots := #[] }
  put : ∀ i acc s h' acc' c', J i acc s → Heap.SameBut S s.heap h' → h'.get? S = some { cls := .type "list", dict := none, data := .seq acc' c', slots := #[] } → J i acc' { s with heap := h' }
  iter : ∀ acc s (Q : Value → Shared → Prop) (E : Value → Shared → Prop), J 0 acc s → (∀ h' tk', J 0 acc { s with heap := h', toks := tk' } → Q (.ref I) { s with heap := h', toks := tk' }) → wpAny (model prog w) A (pyIter (.ref I)) Q E s
  item : ∀ i acc s (Q : Option Value → Shared → Prop) (E : Value → Shared → Prop), i < n → J i acc s → (∀ v s', P i v → J (i + 1) acc s' → Q (some v) s') → wpAny (model prog w) A (pyNext (.ref I)) Q E s
  done : ∀ acc s (Q : Option Value → Shared → Prop) (E : Value → Shared → Prop), J n acc s → (∀ s', D acc s' → Q none s') → wpAny (model prog w) A (pyNext (.ref I)) Q E s
theorem own_loop {R : Result → Shared → Prop} (W : OwnWalk prog w A.in1 K I S C n P J D) (hn : n ≤ sizeLine) (res : Value) : ∀ (k i : Nat) (s : Shared) (acc : Array Value), n - i = k → i ≤ n → J i acc s → ItemsOf P acc i → (∀ s' acc', D acc' s' → ItemsOf P acc' n → R (.ok (.ret res)) s') →
    codeAny (model prog w) A (.builtin "list.extend.loop" ⟨[.ref S, .ref I, res], []⟩) R s := by
  intro k
  induction k with
  | zero =>
    intro i s acc hk hi hst hacc hR
    have hin : i = n := by omega
    subst hin
    refine codeAny_builtin F.entry_extend_loop ?_
    rw [Around.under_plainId F.plain_extend_loop _]
    show wpAny _ A.in1 (pyNext (.ref I) >>= _) _ _ s
    refine wpAny_bind (W.done acc s _ _ hst fun s' hd => ?_)
    exact wpAny_pure (hR s' acc hd hacc)
  | succ k ih =>
    intro i s acc hk hi hst hacc hR
    have hlt : i < n := by omega
    refine codeAny_builtin F.entry_extend_loop ?_
    rw [Around.under_plainId F.plain_extend_loop _]
    show wpAny _ A.in1 (pyNext (.ref I) >>= _) _ _ s
    refine wpAny_bind (W.item i acc s _ _ hlt hst fun v s' hP hst' => ?_)
    obtain ⟨c, hS'⟩ := W.list _ _ _ hst'
    show wpAny _ A.in1 (updateSeq S (·.push v) >>= _) _ _ _
    refine wpAny_bind ?_
    refine wpAny_updateSeq hS' rfl (wpAny_pure ⟨plainId_quiet F.plain_extend_loop _, ih (i + 1) _ (acc.push v) (by omega) hlt (W.put _ _ _ _ _ _ hst' (Heap.SameBut.update ..) (Heap.get?_update_self _ hS' rfl)) (hacc.push hP) hR⟩)
      (by rw [hacc.1]; omega) (by show (acc.push v).size ≤ sizeLine + 1; rw [Array.size_push, hacc.1]; omega)
theorem own_extend {R : Result → Shared → Prop} (W : OwnWalk prog w A.in1 K I S C n P J D) (hst : J 0 #[] s) (hR : ∀ s' acc', D acc' s' → ItemsOf P acc' n → R (.ok (.ret .none)) s') (hn : n ≤ sizeLine) :
    wpAny (model prog w) A.in1 (Builtin.List.listExtendWith (.ref S) (.ref I) .none)
      (fun fin s' => match fin with | .done f => R (.ok f) s' | .again c' => c'.quiet = true ∧ codeAny (model prog w) A c' R s') (fun e s' => R (.error e) s') s := by
  unfold Builtin.List.listExtendWith
  obtain ⟨ox, od, hI⟩ := W.inst _ _ _ hst
  refine wpAny_bind (hI.type.here ?_)
  have h1 : Builtin.List.listSameRef (.ref S) (.ref I) = false := by simp [Builtin.List.listSameRef, W.ne]
  have h2 : (Value.ref C == Value.type "list") = false := rfl
  have h3 : (Value.ref C == Value.type "tuple") = false := rfl
  simp only [h1, h2, h3, Bool.or_false, Bool.false_eq_true, if_false]
  refine wpAny_bind (W.iter _ _ _ _ hst fun h' tk' hst => ?_)
  refine wpAny_bind (wpAny_holding ?_)
  unfold Builtin.List.listLengthHint
  obtain ⟨ox, od, hI⟩ := W.inst _ _ _ hst
  refine wpAny_bind (wpAny_bind (hI.type.here ((looks_findIn (W.frag _ _ _ hst) W.noLen).here ?_)))
  show wpAny _ A.in1 (specialOf (Value.ref I) (Str.ofString "__length_hint__") >>= _) _ _ _
  refine wpAny_bind (wpAny_bind (hI.type.here ((looks_findIn (W.frag _ _ _ hst) W.noHint).here ?_)))
  refine wpAny_pure ?_
  show wpAny _ A.in1 (rule "list.extend.makes-room" >>= fun _ => Builtin.List.listTouch (.ref S) >>= fun _ =>
    again (.builtin "list.extend.loop" ⟨[.ref S, .ref I, .none], []⟩)) _ _ _
  refine wpAny_bind (wpAny_rule ?_)
  refine wpAny_bind ?_
  show wpAny _ A.in1 (updateSeq S (·.push .none) >>= fun _ => updateSeq S (·.pop)) _ _ _
  obtain ⟨c, hS⟩ := W.list _ _ _ hst
  refine wpAny_bind (wpAny_updateSeq hS rfl ?_)
  have hS₂ := Heap.get?_update_self (Obj.mapSeq (·.push Value.none)) hS rfl
  refine wpAny_updateSeq (hz := by seq_fits) hS₂ rfl ?_
  have hS₃ := Heap.get?_update_self (Obj.mapSeq (·.pop)) hS₂ rfl
  refine wpAny_pure ⟨plainId_quiet F.plain_extend_loop _, own_loop W hn _ n 0 _ _ rfl (Nat.zero_le _) (W.put 0 _ { s with heap := h', toks := tk' } _ _ _ hst ((Heap.SameBut.update _ _ (Obj.mapSeq (·.push Value.none))).trans (Heap.SameBut.update _ _ (Obj.mapSeq (·.pop)))) hS₃) (ItemsOf.nil P) hR⟩
theorem call_list_own {Q : Value → Shared → Prop} (W : OwnWalk prog w A.in1.in1 K I s.heap.objs.size C n P J D) (hst : J 0 #[] { s with heap := s.heap.push { cls := .type "list", data := .seq #[] } })
    (hQ : ∀ s' acc', D acc' s' → ItemsOf P acc' n → Q (.ref s.heap.objs.size) s') (hn : n ≤ sizeLine) :
    wpAny (model prog w) A (call (.type "list") [.ref I]) Q E s := by
  refine callType_codes (Q₁ := fun obj s₁ => obj = .ref s.heap.objs.size ∧ s₁ = { s with heap := s.heap.push { cls := .type "list", data := .seq #[] } }) F.called_list (F.typeCall_list_1 _) F.entry_list_init
    (code_list_new _ ⟨rfl, rfl⟩) fun obj s₁ h₁ => ?_
  obtain ⟨rfl, rfl⟩ := h₁
  have hS : (s.heap.push { cls := .type "list", data := .seq #[] }).get? s.heap.objs.size = some { cls := .type "list", data := .seq #[] } := Heap.get?_push_size _ rfl
  refine ⟨⟨_, hS, rfl⟩, F.args_list_init_2 _ _, ?_⟩
  show wpAny _ _ (do let old ← Builtin.List.listItems (.ref s.heap.objs.size); Builtin.List.listUpdate (.ref s.heap.objs.size) (fun _ => #[]); letGo old.toList.reverse; Builtin.List.listExtendWith (.ref s.heap.objs.size) (.ref I) .none) _ _ _
  refine wpAny_bind ?_
  unfold Builtin.List.listItems
  refine wpAny_bind (wpAny_seqItems hS rfl (wpAny_pure ?_))
  show wpAny _ _ (updateSeq s.heap.objs.size (fun _ => #[]) >>= fun _ => letGo (#[] : Array Value).toList.reverse >>= fun _ => Builtin.List.listExtendWith (.ref s.heap.objs.size) (.ref I) .none) _ _ _
  refine wpAny_bind (wpAny_updateSeq hS rfl ?_)
  refine wpAny_bind (wpAny_letGo ?_)
  exact own_extend W (W.put _ _ _ _ _ _ hst (Heap.SameBut.update ..) (Heap.get?_update_self _ hS rfl)) (fun s' acc' hd ha => ⟨rfl, hQ s' acc' hd ha⟩) hn
end

set_option maxHeartbeats 8000000 in
theorem c_itN {w : World} {p : Program} {loose : List Str} {mean : ExcName → Option Value} {mg mb : Str → Option Value} {dp un : Nat} {s : Shared} {Q E : Value → Shared → Prop} {I : Addr} (X : (laid.heap_1 w.params).In s.heap) (T : Top p loose mean mg mb s.heap) (hd : dp + 5 < recursionLimit) (hu : un + 40 < cLine)
  (ret : ∀ h' tk', (∀ b o, s.heap.get? b = some o → h'.get? b = some o) → Q (.ref I) { s with heap := h', toks := tk' }) :
  wpAny (model PySem.Challenge.rw_ij0098_01.row.prog w) (topN dp un) (call (.ref 57) [.ref I]) Q E s := by
  (revert X; k_fill; intro X)
  refine wpAny_call ?_
  (k_dflt (refine' code_defN ?k3 ?k5 ?k6 ?k7 ?k8 ?k9 ?kB ?_ ?c2 ?c3 ?c4 ?c5; (case k3 => k_asm); (case k5 => k_asm); (case k6 => k_is); (case k7 => k_is); (case k8 => k_room); (case k9 => exact BindsTo.of_eq rfl); (case c5 => decide); (case kB => exact locs rfl); (case c2 => exact rfl); (case c3 => exact rfl); (case c4 => exact rfl); k_whole; intro g' L' h' hg' F' N' X' T'; (try dsimp only)))
  (repeat' (first | (k_unfold; (try dsimp only)) | (k_end; wrow_close) | walk1 | (dsimp only; walk1) | (leave1; walk_say "STEP leave1"; try dsimp only) | fail "no step"))
  all_goals ((rename Fr _ _ _ _ => F9); subst hg'; exact ret _ _ (fun b o e => F9.keep b o e))
section
variable {w : World} {p : Program} {loose : List Str} {mean : ExcName → Option Value} {mg mb : Str → Option Value} {dp un : Nat} {gd : Option (List Code)} {cn : Str} {cs : Scope} {a : Addr} {ccd : Value} {cl : List (Str × Addr)} {h₀ : Heap} {L : Addr} {m : Str → Option Value}
  {I dx ga Lg S : Nat} {nm qn : Value} {t3 t4 : Tok} {g N : Nat} {rev : List Str} {s₀ : Shared}
def ParJ (w : World) (h₀ : Heap) (L : Addr) (m : Str → Option Value) (s₀ : Shared) (I dx ga Lg S : Nat) (g : Nat) (nm qn : Value) (t3 t4 : Tok) (rev : List Str) (N : Nat) (i : Nat) (acc : Array Value) (s : Shared) : Prop :=
  ∃ gs fo cnt nx t0 t2 c, Fr h₀ L s.heap m ∧ News h₀ L s.heap [(I, islO dx ga cnt nx 1 (-1) t0 t2 t3 t4), (dx, dictOf [] 0), (ga, genObj g nm qn), (Lg, fo)] ∧ s.heap.get? S = some { cls := .type "list", dict := none, data := .seq acc c, slots := #[] } ∧
    s.gens[g]? = some gs ∧ GenOnlyQ g s₀.gens s.gens ∧ s.drawn = s₀.drawn ∧ s.os = s₀.os ∧ (∀ b o, b ≠ L → b ≠ I → b ≠ Lg → b ≠ S → s₀.heap.get? b = some o → s.heap.get? b = some o) ∧
    ReadyG PySem.Challenge.rw_ij0098_01.row.prog w h₀ Lg rev (if i = 0 then N else N - 1 - i) gs fo ∧ (if i = 0 then cnt = 0 ∧ nx = 1 else cnt = nx)
def ParD (h₀ : Heap) (L : Addr) (m : Str → Option Value) (s₀ : Shared) (I Lg S : Nat) (g : Nat) (acc : Array Value) (s : Shared) : Prop :=
  Fr h₀ L s.heap m ∧ (∃ c, s.heap.get? S = some { cls := .type "list", dict := none, data := .seq acc c, slots := #[] }) ∧ GenOnlyQ g s₀.gens s.gens ∧ s.drawn = s₀.drawn ∧ s.os = s₀.os ∧ (∀ b o, b ≠ L → b ≠ I → b ≠ Lg → b ≠ S → s₀.heap.get? b = some o → s.heap.get? b = some o)
theorem stop_is {M : Model} {A : Around} {Q : Option Value → Shared → Prop} {E : Value → Shared → Prop} {e : Addr} {s : Shared} (h : ∃ ob, s.heap.get? e = some ob ∧ ob.cls = .type "StopIteration") (k : Q none s) : OwitStop M A Q E (.ref e) s := by
  unfold OwitStop
  refine wpAny_isInstance (T := "StopIteration") (b := true) h isSubtype_stop ?_
  rw [if_pos rfl]; exact k
set_option maxHeartbeats 4000000 in
theorem par_walk (X : (laid.heap_1 w.params).In h₀) (T : Top p loose mean mg mb h₀) (hk : cs.kind = .function) (hdp : dp ≤ 400) (hun : un ≤ 4000) (o1 : Lg < ga ∧ ga < dx ∧ dx < I) (oS : I < S) (hSL : S ≠ L) (hS0 : h₀.get? S = none) (hN : 1 ≤ N) :
    OwnWalk PySem.Challenge.rw_ij0098_01.row.prog w (ktrTop dp un gd cn cs L a ccd cl []) (laid.heap_1 w.params) I S 68 (N - 1) (fun i v => ∃ y t, rev[N - 2 - i]? = some y ∧ v = .str y t) (ParJ w h₀ L m s₀ I dx ga Lg S g nm qn t3 t4 rev N) (ParD h₀ L m s₀ I Lg S g) := by
  have hr9 : recursionLimit = 1000 := rfl
  have hc9 : cLine = 9900 := rfl
  (revert X; k_fill; intro X)
  have f1 : findIn (laid.heap_1 w.params) (.ref 68) "__len__" = some none := by k_is
  have f2 : findIn (laid.heap_1 w.params) (.ref 68) "__length_hint__" = some none := by k_is
  have f3 : findIn (laid.heap_1 w.params) (.ref 68) "__iter__" = some (some (.ref 57)) := by k_is
  have f4 : findIn (laid.heap_1 w.params) (.ref 68) "__next__" = some (some (.ref 64)) := by k_is
  have f5 : isFn (laid.heap_1 w.params) (.ref 57) = true := by k_is
  have f6 : isFn (laid.heap_1 w.params) (.ref 64) = true := by k_is
  exact {
    ne := Nat.ne_of_gt oS
    frag := fun i acc s hJ => by obtain ⟨_, _, _, _, _, _, _, F, _⟩ := hJ; exact X.keeps F.keep
    inst := fun i acc s hJ => by obtain ⟨_, _, _, _, _, _, _, _, N, _⟩ := hJ; exact ⟨_, _, InstAt.of_news N (.head _) (.tail _ (.head _))⟩
    noLen := f1
    noHint := f2
    list := fun i acc s hJ => by obtain ⟨_, _, _, _, _, _, c, _, _, hS, _⟩ := hJ; exact ⟨c, hS⟩
    put := fun i acc s h' acc' c' hJ hs hS' => by
      obtain ⟨gs, fo, cnt, nx, t0, t2, c, F, N, hS, a1, a2, a3, a4, a5, a6, a7⟩ := hJ
      refine ⟨gs, fo, cnt, nx, t0, t2, c', F.change hs hSL hS0, fun p hp => ?_, hS', a1, a2, a3, a4, fun b o b1 b2 b3 b4 e => (hs.2 b b4).trans (a5 b o b1 b2 b3 b4 e), a6, a7⟩
      have hN := N p hp
      refine ⟨(hs.2 p.1 ?_).trans hN.1, hN.2⟩
      obtain ⟨q1, q2, q3⟩ := o1
      rcases List.mem_cons.mp hp with rfl | hp
      · exact Nat.ne_of_lt oS
      · rcases List.mem_cons.mp hp with rfl | hp
        · exact Nat.ne_of_lt (Nat.lt_trans q3 oS)
        · rcases List.mem_cons.mp hp with rfl | hp
          · exact Nat.ne_of_lt (Nat.lt_trans q2 (Nat.lt_trans q3 oS))
          · rw [List.mem_singleton.mp hp]; exact Nat.ne_of_lt (Nat.lt_trans q1 (Nat.lt_trans q2 (Nat.lt_trans q3 oS)))
    iter := fun acc s Q E hJ hQ => by
      obtain ⟨gs, fo, cnt, nx, t0, t2, c, F, Nw, hS, a1, a2, a3, a4, a5, a6, a7⟩ := hJ
      refine owit_iter F X (InstAt.of_news Nw (.head _) (.tail _ (.head _))) f3 f5 ?_
      refine wpAny_topN (dp := 410) (un := 4010) rfl (by show dp ≤ 410; omega) (by show un ≤ 4010; omega) (c_itN (X.keeps F.keep) (T.keeps F.keep) (by omega) (by omega) fun h' tk' k => ?_)
      refine owit_it (K := laid.heap_1 w.params) (fr_keep F k) X (InstAt.of_news (news_keep Nw k) (.head _) (.tail _ (.head _))) f4 ?_
      exact hQ h' tk' ⟨gs, fo, cnt, nx, t0, t2, c, fr_keep F k, news_keep Nw k, k _ _ hS, a1, a2, a3, a4, fun b o b1 b2 b3 b4 e => k _ _ (a5 b o b1 b2 b3 b4 e), a6, a7⟩
    item := fun i acc s Q E hi hJ hQ => by
      obtain ⟨gs, fo, cnt, nx, t0, t2, c, F, Nw, hS, a1, a2, a3, a4, a5, a6, a7⟩ := hJ
      refine owit_next F X (InstAt.of_news Nw (.head _) (.tail _ (.head _))) f4 f6 ?_
      have nI : S ≠ I := Nat.ne_of_gt oS
      have nLg : S ≠ Lg := Nat.ne_of_gt (by omega)
      by_cases h0 : i = 0
      · subst h0
        rw [if_pos rfl] at a6 a7
        obtain ⟨rfl, rfl⟩ := a7
        obtain ⟨n', rfl⟩ : ∃ n', N = n' + 2 := ⟨N - 2, by omega⟩
        refine c_nxt_first F X T hk hdp hun Nw o1 a1 a6 fun y t h' tk' gens' gs' fo' u0 u2 hy hb hg hG hR F' N' hK => ?_
        refine hQ _ _ ⟨y, t, hy, rfl⟩ ⟨gs', fo', 2, 2, u0, u2, c, F', N', hK _ _ hSL nI nLg hS, hg, a2.trans hG, a3, a4, fun b o b1 b2 b3 b4 e => hK _ _ b1 b2 b3 (a5 b o b1 b2 b3 b4 e), ?_, ?_⟩
        · rw [if_neg (by omega)]; exact hR
        · rw [if_neg (by omega)]
      · rw [if_neg h0] at a6 a7
        subst a7
        obtain ⟨n', hn'⟩ : ∃ n', N - 1 - i = n' + 1 := ⟨N - 2 - i, by omega⟩
        rw [hn'] at a6
        refine c_nxt_item F X T hk hdp hun Nw o1 a1 a6 fun y t h' tk' gens' gs' fo' u0 u2 hy hb hg hG hR F' N' hK => ?_
        refine hQ _ _ ⟨y, t, ?_, rfl⟩ ⟨gs', fo', _, _, u0, u2, c, F', N', hK _ _ hSL nI nLg hS, hg, a2.trans hG, a3, a4, fun b o b1 b2 b3 b4 e => hK _ _ b1 b2 b3 (a5 b o b1 b2 b3 b4 e), ?_, ?_⟩
        · rw [show N - 2 - i = n' by omega]; exact hy
        · rw [if_neg (by omega), show N - 1 - (i + 1) = n' by omega]; exact hR
        · rw [if_neg (by omega)]
    done := fun acc s Q E hJ hQ => by
      obtain ⟨gs, fo, cnt, nx, t0, t2, c, F, Nw, hS, a1, a2, a3, a4, a5, a6, a7⟩ := hJ
      refine owit_next F X (InstAt.of_news Nw (.head _) (.tail _ (.head _))) f4 f6 ?_
      have nI : S ≠ I := Nat.ne_of_gt oS
      have nLg : S ≠ Lg := Nat.ne_of_gt (by omega)
      by_cases h0 : N - 1 = 0
      · rw [if_pos h0] at a6 a7
        obtain ⟨rfl, rfl⟩ := a7
        obtain rfl : N = 1 := by omega
        exact c_nxt_first_stop F X T hk hdp hun Nw o1 a1 a6 fun e h' tk' gens' he hg hG F' hK => stop_is he (hQ _ ⟨F', ⟨c, hK _ _ hSL nI nLg hS⟩, a2.trans hG, a3, a4, fun b o b1 b2 b3 b4 e => hK _ _ b1 b2 b3 (a5 b o b1 b2 b3 b4 e)⟩)
      · rw [if_neg h0] at a6 a7
        subst a7
        rw [show N - 1 - (N - 1) = 0 by omega] at a6
        exact c_nxt_stop F X T hk hdp hun Nw o1 a1 a6 fun e h' tk' gens' he hg hG F' hK => stop_is he (hQ _ ⟨F', ⟨c, hK _ _ hSL nI nLg hS⟩, a2.trans hG, a3, a4, fun b o b1 b2 b3 b4 e => hK _ _ b1 b2 b3 (a5 b o b1 b2 b3 b4 e)⟩) }
end
end

section
/-! blocks: a law of their turns in which the ledger and the generators may grow -/
section
open PyProof.Rows PyProof.Rows.LCg
variable {prog : Program} {w : World} {A : Around} {E : Value → Shared → Prop} {s : Shared} {R : Result → Shared → Prop}
abbrev BodyT := Value → Env → (Shared → Prop) → (Value → Shared → Prop) → Shared → Prop
/-- what a turn of a block comes to, told by its body's transformer -/
def TurnW (prog : Program) (w : World) (A : Around) (e : Expr) (d : Nat) (x : Str) (px : Pos) (B : BodyT) : Prop :=
  ∀ it acc env (Q : Fin → Shared → Prop) (E : Value → Shared → Prop) (s : Shared), wpAny (model prog w) A (pyNext it) (fun r s₁ => match r with
    | none => Q (.done .next) s₁
    | some v => wpAny (model prog w) A (assign (.Name x px) env v) (fun _ s₂ => B acc env (fun s₃ => Q (.again (.compLoop e d it acc env)) s₃) E s₂) E s₁) E s → wpAny (model prog w) A (compTurn e d it acc env) Q E s
def bodyZ (prog : Program) (w : World) (A : Around) (elt : Expr) : BodyT := fun acc env Q E s =>
  wpAny (model prog w) A (eval elt env) (fun y s₁ => wpAny (model prog w) A (call (.builtin "list.append") [acc, y]) (fun _ s₂ => Q s₂) E s₁) E s
def bodyT (prog : Program) (w : World) (A : Around) (elt c : Expr) : BodyT := fun acc env Q E s =>
  wpAny (model prog w) A (isTrue c env (eval c env)) (fun ok s₁ => if ok = true then bodyZ prog w A elt acc env Q E s₁ else Q s₁) E s
def bodyN (prog : Program) (w : World) (A : Around) (e i1 : Expr) : BodyT := fun acc env Q E s =>
  wpAny (model prog w) A (eval i1 env) (fun xv s₁ => wpAny (model prog w) A (pyIter xv) (fun it1 s₂ => codeAny (model prog w) A (.compStart e 1 it1 acc env) (fun r s₃ => match r with | .ok _ => Q s₃ | .error x => cameBackBy (model prog w) A env E x s₃) s₂) E s₁) E s
theorem turnZ {elt iter : Expr} {x : Str} {px : Pos} {scope : Scope} {pos : Pos} : TurnW prog w A (.ListComp elt [⟨.Name x px, iter, [], 0⟩] scope pos) 0 x px (bodyZ prog w A elt) := fun it acc env Q E s h => by
  rw [compTurn_list]
  refine wpAny_bind (wpAny_standAt (wpAny_bind (wpAny_mono h (fun r s₁ h₁ => ?_) fun _ _ h' => h')))
  cases r with
  | none => exact wpAny_pure h₁
  | some v =>
    refine wpAny_bind (wpAny_of_eq rfl ?_)
    refine wpAny_bind (wpAny_mono h₁ (fun _ s₂ h₂ => wpAny_bind (wpAny_tests_nil ?_)) fun _ _ h' => h')
    exact wpAny_bind (wpAny_bind (wpAny_mono h₂ (fun x s₄ h₄ => wpAny_bind (wpAny_mono h₄ (fun _ s₅ h₅ => wpAny_pure (wpAny_pure h₅)) fun _ _ h' => h')) fun _ _ h' => h'))
theorem turnT {elt iter c : Expr} {x : Str} {px : Pos} {scope : Scope} {pos : Pos} : TurnW prog w A (.ListComp elt [⟨.Name x px, iter, [c], 0⟩] scope pos) 0 x px (bodyT prog w A elt c) := fun it acc env Q E s h => by
  rw [compTurn_list]
  refine wpAny_bind (wpAny_standAt (wpAny_bind (wpAny_mono h (fun r s₁ h₁ => ?_) fun _ _ h' => h')))
  cases r with
  | none => exact wpAny_pure h₁
  | some v =>
    refine wpAny_bind (wpAny_of_eq rfl ?_)
    refine wpAny_bind (wpAny_mono h₁ (fun _ s₂ h₂ => wpAny_bind (wpAny_tests_one (wpAny_mono h₂ (fun ok s₃ h₃ => ?_) fun _ _ h' => h'))) fun _ _ h' => h')
    cases ok with
    | false => exact wpAny_pure h₃
    | true => exact wpAny_bind (wpAny_bind (wpAny_mono h₃ (fun x s₄ h₄ => wpAny_bind (wpAny_mono h₄ (fun _ s₅ h₅ => wpAny_pure (wpAny_pure h₅)) fun _ _ h' => h')) fun _ _ h' => h'))
theorem compTurn_inner (elt target iter : Expr) (g0 : Comprehension) (scope : Scope) (pos : Pos) (it acc : Value) (env : Env) :
    compTurn (.ListComp elt [g0, ⟨target, iter, [], 0⟩] scope pos) 1 it acc env = (standAt iter.pos >>= fun _ => pyNext it >>= fun r => match r with
      | none => pure (.done .next)
      | some v => letOwnedTupleGo target it v >>= fun _ => assign target env v >>= fun _ =>
        (eval elt env >>= fun x => call (.builtin "list.append") [acc, x] >>= fun _ => pure ()) >>= fun _ =>
          again (.compLoop (.ListComp elt [g0, ⟨target, iter, [], 0⟩] scope pos) 1 it acc env)) := by rfl
theorem turnI {elt iter : Expr} {g0 : Comprehension} {x : Str} {px : Pos} {scope : Scope} {pos : Pos} : TurnW prog w A (.ListComp elt [g0, ⟨.Name x px, iter, [], 0⟩] scope pos) 1 x px (bodyZ prog w A elt) := fun it acc env Q E s h => by
  rw [compTurn_inner]
  refine wpAny_bind (wpAny_standAt (wpAny_bind (wpAny_mono h (fun r s₁ h₁ => ?_) fun _ _ h' => h')))
  cases r with
  | none => exact wpAny_pure h₁
  | some v =>
    refine wpAny_bind (wpAny_of_eq rfl ?_)
    exact wpAny_bind (wpAny_mono h₁ (fun _ s₂ h₂ => wpAny_bind (wpAny_bind (wpAny_mono h₂ (fun x s₃ h₃ => wpAny_bind (wpAny_mono h₃ (fun _ s₄ h₄ => wpAny_pure (wpAny_pure h₄)) fun _ _ h' => h')) fun _ _ h' => h'))) fun _ _ h' => h')
theorem compTurn_outer (elt target iter i1 : Expr) (t1 : Expr) (scope : Scope) (pos : Pos) (it acc : Value) (env : Env) :
    compTurn (.ListComp elt [⟨target, iter, [], 0⟩, ⟨t1, i1, [], 0⟩] scope pos) 0 it acc env = (standAt iter.pos >>= fun _ => pyNext it >>= fun r => match r with
      | none => pure (.done .next)
      | some v => letOwnedTupleGo target it v >>= fun _ => assign target env v >>= fun _ =>
        (eval i1 env >>= fun x => standAt i1.pos >>= fun _ => foldedSetIterable i1 env x >>= fun x => holding [x] (pyIter x) >>= fun it1 =>
          runOwn (.compStart (.ListComp elt [⟨target, iter, [], 0⟩, ⟨t1, i1, [], 0⟩] scope pos) 1 it1 acc env) env >>= fun _ =>
          again (.compLoop (.ListComp elt [⟨target, iter, [], 0⟩, ⟨t1, i1, [], 0⟩] scope pos) 0 it acc env))) := by rfl
theorem mark_none (A : Around) : A.mark none = A := by cases A; rfl
theorem turnN {elt iter i1 t1 : Expr} {x : Str} {px : Pos} {scope : Scope} {pos : Pos} (hs : ∀ env x, foldedSetIterable i1 env x = pure x) : TurnW prog w A (.ListComp elt [⟨.Name x px, iter, [], 0⟩, ⟨t1, i1, [], 0⟩] scope pos) 0 x px (bodyN prog w A (.ListComp elt [⟨.Name x px, iter, [], 0⟩, ⟨t1, i1, [], 0⟩] scope pos) i1) := fun it acc env Q E s h => by
  rw [compTurn_outer]
  refine wpAny_bind (wpAny_standAt (wpAny_bind (wpAny_mono h (fun r s₁ h₁ => ?_) fun _ _ h' => h')))
  cases r with
  | none => exact wpAny_pure h₁
  | some v =>
    refine wpAny_bind (wpAny_of_eq rfl ?_)
    refine wpAny_bind (wpAny_mono h₁ (fun _ s₂ h₂ => wpAny_bind (wpAny_mono h₂ (fun xv s₃ h₃ => wpAny_bind (wpAny_standAt (wpAny_bind (wpAny_of_eq (hs _ _) (wpAny_bind (wpAny_holding (wpAny_mono h₃ (fun it1 s₄ h₄ => ?_) fun _ _ h' => h'))))))) fun _ _ h' => h')) fun _ _ h' => h')
    refine wpAny_bind (wpAny_runOwn (h := none) ?_)
    rw [mark_none]
    refine codeAny_mono h₄ fun r s₅ hr => ?_
    cases r with
    | ok f => exact wpAny_pure hr
    | error x => exact hr
theorem comp_loop {elt : Expr} {gens : List Comprehension} {scope : Scope} {pos : Pos} {d : Nat} {x : Str} {px : Pos} {B : BodyT} {it acc : Value} {env : Env} (ht : TurnW prog w A (.ListComp elt gens scope pos) d x px B) (I : Nat → Shared → Prop)
    (turn : ∀ n s, I n s → wpAny (model prog w) A (pyNext it) (fun r s₁ => match r with
      | none => R (.ok .next) s₁
      | some v => wpAny (model prog w) A (assign (.Name x px) env v) (fun _ s₂ => B acc env (fun s₃ => ∃ m, m < n ∧ I m s₃) (notedBy (model prog w) A env fun e s' => R (.error e) s') s₂) (notedBy (model prog w) A env fun e s' => R (.error e) s') s₁)
      (notedBy (model prog w) A env fun e s' => R (.error e) s') s)
    (hB : ∀ acc env (Q Q' : Shared → Prop) E s, (∀ s', Q s' → Q' s') → B acc env Q E s → B acc env Q' E s)
    (n : Nat) (h : I n s) : codeAny (model prog w) A (.compLoop (.ListComp elt gens scope pos) d it acc env) R s := by
  refine codeAny_loop rfl I (fun n s hI => ?_) n h
  show wpAny _ A ((compTurn (.ListComp elt gens scope pos) d it acc env).onRaise (fun x => do noteFrame x env; theTreesLotGoes x)) _ _ s
  refine wpAny_noted (ht _ _ _ _ _ _ (wpAny_mono (turn n s hI) (fun r s₁ h₁ => ?_) fun _ _ h' => h'))
  cases r with
  | none => exact h₁
  | some v => exact wpAny_mono h₁ (fun _ s₂ h₂ => hB _ _ _ _ _ _ (fun s' h' => ⟨rfl, h'⟩) h₂) fun _ _ h' => h'
theorem bodyZ_mono {elt : Expr} : ∀ acc env (Q Q' : Shared → Prop) E s, (∀ s', Q s' → Q' s') → bodyZ prog w A elt acc env Q E s → bodyZ prog w A elt acc env Q' E s := fun _ _ _ _ _ _ k h => wpAny_mono h (fun _ _ h₁ => wpAny_mono h₁ (fun _ _ h₂ => k _ h₂) fun _ _ e => e) fun _ _ e => e
theorem bodyT_mono {elt c : Expr} : ∀ acc env (Q Q' : Shared → Prop) E s, (∀ s', Q s' → Q' s') → bodyT prog w A elt c acc env Q E s → bodyT prog w A elt c acc env Q' E s := fun _ _ _ _ _ _ k h => wpAny_mono h (fun ok _ h₁ => by
  cases ok with
  | true => exact bodyZ_mono _ _ _ _ _ _ k h₁
  | false => exact k _ h₁) fun _ _ e => e
theorem bodyN_mono {e i1 : Expr} : ∀ acc env (Q Q' : Shared → Prop) E s, (∀ s', Q s' → Q' s') → bodyN prog w A e i1 acc env Q E s → bodyN prog w A e i1 acc env Q' E s := fun _ _ _ _ _ _ k h => wpAny_mono h (fun _ _ h₁ => wpAny_mono h₁ (fun _ _ h₂ => codeAny_mono h₂ fun r s₃ hr => by
  cases r with
  | ok f => exact k _ hr
  | error x => exact hr) fun _ _ e => e) fun _ _ e => e
end

section
open PyProof.Rows PyProof.Rows.LCg
variable {prog : Program} {w : World} {A : Around} {E : Value → Shared → Prop} {s : Shared} {R : Result → Shared → Prop} {h₀ : Heap} {L I C D : Addr} {m : Str → Option Value} {dr : Drawn} {os : OsState}
/-- what stands behind a turn -/
def CEnd (h₀ : Heap) (L : Addr) (m : Str → Option Value) (I : Addr) (oI : Obj) (C D : Addr) (dr : Drawn) (os : OsState) (J : List Value → List (Addr × Obj) → Array GenState → Prop) (s' : Shared) : Prop :=
  ∃ h' g' tk' ys' news' oC' m', s' = { heap := h', gens := g', drawn := dr, toks := tk', os := os } ∧ NsObj oC' m' ∧ Fr h₀ L h' m ∧ News h₀ L h' ((I, oI) :: (C, oC') :: (D, lst ys') :: news') ∧ Off3 I C D news' ∧ J ys' news' g'
/-- what stands behind an element -/
def ZEnd (h₀ : Heap) (L : Addr) (m : Str → Option Value) (I : Addr) (oI : Obj) (C : Addr) (oC : Obj) (D : Addr) (ys : List Value) (dr : Drawn) (os : OsState) (J : Value → List (Addr × Obj) → Array GenState → Prop) (y : Value) (s' : Shared) : Prop :=
  ∃ h' g' tk' news', s' = { heap := h', gens := g', drawn := dr, toks := tk', os := os } ∧ Fr h₀ L h' m ∧ News h₀ L h' ((I, oI) :: (C, oC) :: (D, lst ys) :: news') ∧ Off3 I C D news' ∧ J y news' g'
theorem ZEnd.intro {oI oC : Obj} {ys : List Value} {J : Value → List (Addr × Obj) → Array GenState → Prop} {y : Value} {h' : Heap} {g' : Array GenState} {tk' : Nat} {all : List (Addr × Obj)} (news' : List (Addr × Obj)) (F : Fr h₀ L h' m) (N : News h₀ L h' all)
    (sub : ∀ p ∈ (I, oI) :: (C, oC) :: (D, lst ys) :: news', p ∈ all) (off : Off3 I C D news') (j : J y news' g') : ZEnd h₀ L m I oI C oC D ys dr os J y { heap := h', gens := g', drawn := dr, toks := tk', os := os } :=
  ⟨h', g', tk', news', rfl, F, fun p hp => N p (sub p hp), off, j⟩
theorem bodyZ_end {elt : Expr} {env : Env} {oI oC : Obj} {m₂ : Str → Option Value} {ys : List Value} {J : List Value → List (Addr × Obj) → Array GenState → Prop} (hC : NsObj oC m₂) (hys : ys.length ≤ sizeLine) (ne : (@Ne Nat I D) ∧ (@Ne Nat C D)) (hDL : D ≠ L) (hD₀ : h₀.get? D = none)
    (h : wpAny (model prog w) A (eval elt env) (ZEnd h₀ L m I oI C oC D ys dr os (fun y => J (ys ++ [y]))) E s) : bodyZ prog w A elt (.ref D) env (CEnd h₀ L m I oI C D dr os J) E s := by
  refine wpAny_mono h (fun y s' hz => ?_) fun _ _ e => e
  obtain ⟨h', g', tk', news', rfl, F, N, off, j⟩ := hz
  have zD := (N (D, lst ys) (.tail _ (.tail _ (.head _)))).1
  refine append_at (hsz := by rw [List.size_toArray]; exact hys) zD fun h₅ hs hD => ?_
  refine ⟨h₅, g', tk', ys ++ [y], news', oC, m₂, rfl, hC, F.change hs hDL hD₀, fun p hp => ?_, off, j⟩
  have off' := off.mem
  rcases List.mem_cons.mp hp with rfl | hp
  · exact ⟨(hs.2 _ ne.1).trans (N _ (.head _)).1, (N _ (.head _)).2⟩
  · rcases List.mem_cons.mp hp with rfl | hp
    · exact ⟨(hs.2 _ ne.2).trans (N _ (.tail _ (.head _))).1, (N _ (.tail _ (.head _))).2⟩
    · rcases List.mem_cons.mp hp with rfl | hp
      · exact ⟨hD.trans (congrArg some (lst_snoc ys y)), hDL, hD₀⟩
      · have hN := N p (.tail _ (.tail _ (.tail _ hp)))
        exact ⟨(hs.2 _ (off' p hp).2.2).trans hN.1, hN.2⟩
theorem comp_run {elt : Expr} {gens : List Comprehension} {scope : Scope} {pos : Pos} {d : Nat} {x : Str} {px : Pos} {B : BodyT} {env : Env} (ht : TurnW prog w A (.ListComp elt gens scope pos) d x px B)
    (hB : ∀ acc env (Q Q' : Shared → Prop) E s, (∀ s', Q s' → Q' s') → B acc env Q E s → B acc env Q' E s)
    (hloc : env.locals = C) (hkind : env.scope.kind = .function) (hx : env.kindOf x = some .local)
    {fp : List Addr} {n : Nat} {P : Nat → Value → Prop} {St : Nat → Heap → Prop} {S : List (Addr × Obj) → Prop} (W : Walks prog w A I fp [I] n P St) (hIo : ∀ i h, St i h → ∃ o, h.get? I = some o)
    (hSt : ∀ i h h' o nw, St i h → h.get? I = some o → h'.get? I = some o → (∀ b o, h₀.get? b = some o → h'.get? b = some o) → News h₀ L h' nw → S nw → St i h')
    {J : Nat → List Value → List (Addr × Obj) → Array GenState → Prop} (hJS : ∀ i ys nw g, J i ys nw g → S nw)
    (hCf : C ∉ fp) (ne : (@Ne Nat I C) ∧ (@Ne Nat I D) ∧ (@Ne Nat C D)) (hIL : I ≠ L) (hI₀ : h₀.get? I = none) (hCL : C ≠ L) (hC₀ : h₀.get? C = none)
    (turn : ∀ i v oI oC m₂ ys news h g tk (E' : Value → Shared → Prop), i < n → P i v → J i ys news g → NsObj oC m₂ → m₂ x = some v → Fr h₀ L h m → News h₀ L h ((I, oI) :: (C, oC) :: (D, lst ys) :: news) → Off3 I C D news →
      B (.ref D) env (CEnd h₀ L m I oI C D dr os (J (i + 1))) E' { heap := h, gens := g, drawn := dr, toks := tk, os := os })
    (fin : ∀ ys news h g tk m', J n ys news g → Fr h₀ L h m → h.Ns C m' → News h₀ L h ((D, lst ys) :: news) → Off3 I C D news → R (.ok .next) { heap := h, gens := g, drawn := dr, toks := tk, os := os })
    {h : Heap} {g : Array GenState} {tk : Nat} {ys : List Value} {news : List (Addr × Obj)} {mC : Str → Option Value} (st : St 0 h) (F : Fr h₀ L h m) (hC : h.Ns C mC) (N : News h₀ L h ((D, lst ys) :: news)) (off : Off3 I C D news) (j : J 0 ys news g) :
    codeAny (model prog w) A (.compLoop (.ListComp elt gens scope pos) d (.ref I) (.ref D) env) R { heap := h, gens := g, drawn := dr, toks := tk, os := os } := by
  obtain ⟨neIC, neID, neCD⟩ := ne
  refine comp_loop ht (fun k s' => ∃ h' g' tk' i ys m' news', s' = { heap := h', gens := g', drawn := dr, toks := tk', os := os } ∧ i ≤ n ∧ k = n + 1 - i ∧ St i h' ∧ Fr h₀ L h' m ∧ h'.Ns C m' ∧ News h₀ L h' ((D, lst ys) :: news') ∧ Off3 I C D news' ∧ J i ys news' g') ?_ hB (n + 1)
    ⟨h, g, tk, 0, ys, mC, news, rfl, Nat.zero_le _, rfl, st, F, hC, N, off, j⟩
  rintro k s' ⟨h', g', tk', i, ys, m', news', rfl, hi, rfl, st', F', hn', N', off', j'⟩
  have off3 := off'.mem
  by_cases hlt : i < n
  · refine W.item i _ _ _ hlt st' fun v h₂ tk₂ hPv st₂ hk₂ => ?_
    have hn₂ : h₂.Ns env.locals m' := by rw [hloc]; exact hn'.at' fun o e => hk₂ _ o (by simpa using Ne.symm neIC) e
    refine wpAny_assign_Name (wpAny_storeName_local hx hn₂ (fun h₃ hn₃ hs₃ => ?_) (by simp [hkind]))
    rw [hloc] at hn₃ hs₃
    have st₃ : St (i + 1) h₃ := W.frame _ _ _ st₂ fun b hb o e => hs₃.extBut b o (fun q => hCf (q ▸ hb)) e
    obtain ⟨oI, heI⟩ := hIo _ _ st₃
    obtain ⟨oC, heC, hoC⟩ := ns_obj hn₃
    have F₃ : Fr h₀ L h₃ m := (fr_but F' hk₂ (Ne.symm hIL) hI₀).change hs₃ hCL hC₀
    have N₂ : News h₀ L h₂ ((D, lst ys) :: news') := PyProof.Rows.LCg.news_but N' hk₂ fun p hp => by
      rcases List.mem_cons.mp hp with rfl | hp
      · exact Ne.symm neID
      · exact (off3 p hp).1
    have N₃ : News h₀ L h₃ ((I, oI) :: (C, oC) :: (D, lst ys) :: news') := fun p hp => by
      rcases List.mem_cons.mp hp with rfl | hp
      · exact ⟨heI, hIL, hI₀⟩
      · rcases List.mem_cons.mp hp with rfl | hp
        · exact ⟨heC, hCL, hC₀⟩
        · have z := N₂ p hp
          refine ⟨hs₃.extBut _ _ ?_ z.1, z.2⟩
          rcases List.mem_cons.mp hp with rfl | hp
          · exact Ne.symm neCD
          · exact (off3 p hp).2.1
    refine hB _ _ _ _ _ _ (fun s₄ h₄ => ?_) (turn i v oI oC _ ys news' h₃ g' _ _ hlt hPv j' hoC (by simp) F₃ N₃ off')
    obtain ⟨h₄, g₄, tk₄, ys₄, news₄, oC₄, m₄, rfl, hoC₄, F₄, N₄, off₄, j₄⟩ := h₄
    have zI := (N₄ (I, oI) (.head _)).1
    have N₄' : News h₀ L h₄ news₄ := fun p hp => N₄ p (.tail _ (.tail _ (.tail _ hp)))
    have st₄ : St (i + 1) h₄ := hSt _ _ _ _ _ st₃ heI zI F₄.keep N₄' (hJS _ _ _ _ j₄)
    exact ⟨n + 1 - (i + 1), by omega, h₄, g₄, tk₄, i + 1, ys₄, m₄, news₄, rfl, hlt, rfl, st₄, F₄, hoC₄.ns (N₄ (C, oC₄) (.tail _ (.head _))).1, fun p hp => N₄ p (.tail _ (.tail _ hp)), off₄, j₄⟩
  · obtain rfl : i = n := Nat.le_antisymm hi (Nat.not_lt.mp hlt)
    refine W.done _ _ _ st' fun h₂ tk₂ hk₂ => ?_
    refine fin ys news' h₂ g' tk₂ m' j' (fr_but F' hk₂ (Ne.symm hIL) hI₀) (hn'.at' fun o e => hk₂ _ o (by simpa using Ne.symm neIC) e) (PyProof.Rows.LCg.news_but N' hk₂ fun p hp => ?_) off'
    rcases List.mem_cons.mp hp with rfl | hp
    · exact Ne.symm neID
    · exact (off3 p hp).1
end

section
open PyProof.Rows PyProof.Rows.LCg
variable {prog : Program} {w : World} {A : Around} {E : Value → Shared → Prop} {s : Shared} {h₀ : Heap} {L : Addr} {m : Str → Option Value} {env : Env}
/-- what a block's turns must do, its three own addresses given -/
structure Turns (prog : Program) (w : World) (A : Around) (h₀ : Heap) (L : Addr) (m : Str → Option Value) (x : Str) (B : BodyT) (cenv : Addr → Env) (S : List (Addr × Obj) → Prop) (P : Nat → Value → Prop) (n : Nat) (dr : Drawn) (os : OsState) (g₀ : Array GenState) (news₀ : List (Addr × Obj))
    (J : Nat → List Value → List (Addr × Obj) → Array GenState → Prop) (I C D : Addr) : Prop where
  start : J 0 [] news₀ g₀
  src : ∀ i ys nw g, J i ys nw g → S nw
  turn : ∀ i v oI oC m₂ ys news h g tk (E' : Value → Shared → Prop), i < n → P i v → J i ys news g → NsObj oC m₂ → m₂ x = some v → Fr h₀ L h m → News h₀ L h ((I, oI) :: (C, oC) :: (D, lst ys) :: news) → Off3 I C D news →
      B (.ref D) (cenv C) (CEnd h₀ L m I oI C D dr os (J (i + 1))) E' { heap := h, gens := g, drawn := dr, toks := tk, os := os }
theorem block_V {elt iter : Expr} {x : Str} {px : Pos} {ifs : List Expr} {rest : List Comprehension} {scope : Scope} {cl : List (Str × Addr)} {pos : Pos} {B : BodyT} {s₂ : Shared} {I : Addr} {fp : List Addr} {n : Nat} {P : Nat → Value → Prop} {St : Nat → Heap → Prop} {S : List (Addr × Obj) → Prop} {news : List (Addr × Obj)}
    {RR : Value → Addr → Result → Shared → Prop}
    (ht : TurnW prog w A (.ListComp elt (⟨.Name x px, iter, ifs, 0⟩ :: rest) scope pos) 0 x px B) (hB : ∀ acc env (Q Q' : Shared → Prop) E s, (∀ s', Q s' → Q' s') → B acc env Q E s → B acc env Q' E s)
    (W : Walks prog w A I fp [I] n P St) (hIo : ∀ i h, St i h → ∃ o, h.get? I = some o)
    (hSt : ∀ i h h' o nw, St i h → h.get? I = some o → h'.get? I = some o → (∀ b o, h₀.get? b = some o → h'.get? b = some o) → News h₀ L h' nw → S nw → St i h')
    (hcell : ∀ y ∈ scope.names, y.2 ≠ .cell) (hkind : scope.kind = .function) (hx : scope.names.lookup x = some .local) (hst : St 0 s₂.heap) (hfp : ∀ b ∈ fp, b < s₂.heap.objs.size)
    (F : Fr h₀ L s₂.heap m) (N : News h₀ L s₂.heap news) (hIL : L ≠ I) (hI₀ : h₀.get? I = none) (off : ∀ p ∈ news, p.1 ≠ I)
    {J : Addr → Addr → Addr → Nat → List Value → List (Addr × Obj) → Array GenState → Prop}
    (T : ∀ C D, (∀ p ∈ news, @LT.lt Nat _ p.1 I ∧ @LT.lt Nat _ p.1 D) → @LT.lt Nat _ I D → @LT.lt Nat _ D C → C ≠ L → D ≠ L → h₀.get? C = none → h₀.get? D = none → Turns prog w A h₀ L m x B (fun C => compEnvC scope cl C env) S P n s₂.drawn s₂.os s₂.gens news (J I C D) I C D)
    (hlt : ∀ p ∈ news, @LT.lt Nat _ p.1 I)
    (hRR : ∀ D C h g tk m' ys news', J I C D n ys news' g → Fr h₀ L h m → News h₀ L h ((D, lst ys) :: news') → Off3 I C D news' → h.Ns C m' → h₀.get? C = none → h₀.get? D = none → C ≠ L → D ≠ L → C ≠ D → RR (.ref D) C (.ok .next) { heap := h, gens := g, drawn := s₂.drawn, toks := tk, os := s₂.os }) :
    wpAny (model prog w) A (newList []) (fun acc s₃ => wpAny (model prog w) A (newFunctionEnv scope env.globals cl [] env.qual none .none (some env)) (fun cenv s₄ =>
      codeAny (model prog w) A (.compStart (.ListComp elt (⟨.Name x px, iter, ifs, 0⟩ :: rest) scope pos) 0 (.ref I) acc { cenv with scope := relabel scope env }) (RR acc cenv.locals) s₄) E s₃) E s₂ := by
  refine wpAny_newObj_type (wpAny_newFunctionEnv hcell (by intro y hy; simp at hy) (fun h₁ hns₁ hsb₁ => ?_) hkind)
  dsimp only at hns₁ hsb₁ ⊢
  generalize hH2 : s₂.heap.push { cls := .type "list", dict := none, data := .seq ([] : List Value).toArray } = H2 at hns₁ hsb₁ ⊢
  have hC : H2.objs.size = s₂.heap.objs.size + 1 := by rw [← hH2, Heap.size_push]
  have hDC : s₂.heap.objs.size ≠ H2.objs.size := by rw [hC]; exact Nat.ne_of_lt (Nat.lt_succ_self _)
  have below : ∀ b, b < s₂.heap.objs.size → b ≠ H2.objs.size ∧ b ≠ s₂.heap.objs.size := fun b hb => ⟨by rw [hC]; exact Nat.ne_of_lt (Nat.lt_succ_of_lt hb), Nat.ne_of_lt hb⟩
  have hCf : H2.objs.size ∉ fp := fun hm => by have := hfp _ hm; rw [hC] at this; exact Nat.lt_irrefl _ (Nat.lt_of_succ_lt this)
  have hIlt : I < s₂.heap.objs.size := hfp I (W.sub I (List.mem_singleton.mpr rfl))
  have old : ∀ b o, s₂.heap.get? b = some o → h₁.get? b = some o := fun b o e => hsb₁.extBut b o (below b (Heap.lt_size e)).1 (Heap.get?_push_of_some _ (hH2 ▸ Heap.get?_push_of_some _ e))
  have hacc : h₁.get? s₂.heap.objs.size = some (lst []) := hsb₁.extBut _ _ hDC (Heap.get?_push_of_some _ (hH2 ▸ Heap.get?_push_size _ rfl))
  have hst₁ : St 0 h₁ := W.frame _ _ _ hst fun b _ o e => old b o e
  have fresh₀ : ∀ a, s₂.heap.objs.size ≤ a → h₀.get? a = none := fun a ha => by
    cases e : h₀.get? a with
    | none => rfl
    | some o' => exact absurd (Heap.lt_size (F.keep a o' e)) (Nat.not_lt.mpr ha)
  have hD₀ : h₀.get? s₂.heap.objs.size = none := fresh₀ _ (Nat.le_refl _)
  have hC₀ : h₀.get? H2.objs.size = none := fresh₀ _ (by rw [hC]; exact Nat.le_succ _)
  have hLlt : L < s₂.heap.objs.size := F.ns.lt
  have hDL : s₂.heap.objs.size ≠ L := Ne.symm (below L hLlt).2
  have hCL : H2.objs.size ≠ L := Ne.symm (below L hLlt).1
  have hCI : I ≠ H2.objs.size := (below I hIlt).1
  have hDI : I ≠ s₂.heap.objs.size := (below I hIlt).2
  have off₀ : Off3 I H2.objs.size s₂.heap.objs.size news := Off3.of fun p hp => ⟨off p hp, (below _ (Heap.lt_size (N p hp).1)).1, (below _ (Heap.lt_size (N p hp).1)).2⟩
  have T' := T H2.objs.size s₂.heap.objs.size (fun p hp => ⟨hlt p hp, Heap.lt_size (N p hp).1⟩) hIlt (by rw [hC]; exact Nat.lt_succ_self _) hCL hDL hC₀ hD₀
  have loop : ∀ s₃ : Shared, s₃ = { s₂ with heap := h₁, toks := s₂.toks + ([] : List (Str × Value)).length } →
      codeAny (model prog w) A (.compLoop (.ListComp elt (⟨.Name x px, iter, ifs, 0⟩ :: rest) scope pos) 0 (.ref I) (.ref s₂.heap.objs.size) (compEnvC scope cl H2.objs.size env)) (RR (.ref s₂.heap.objs.size) H2.objs.size) s₃ := by
    rintro s₃ rfl
    exact comp_run (env := compEnvC scope cl H2.objs.size env) (m := m) ht hB rfl hkind (lookup_relabel_local hx) W hIo hSt T'.src hCf ⟨hCI, hDI, Ne.symm hDC⟩ (Ne.symm hIL) hI₀ hCL hC₀ T'.turn
      (fun ys news' h g tk m' j F' hn N' off' => hRR _ _ h g tk m' ys news' j F' N' off' hn hC₀ hD₀ hCL hDL (Ne.symm hDC)) hst₁ (F.keeps old) hns₁ (fun p hp => by
        rcases List.mem_cons.mp hp with rfl | hp
        · exact ⟨hacc, hDL, hD₀⟩
        · exact ⟨old _ _ (N p hp).1, (N p hp).2⟩) off₀ T'.start
  exact codeAny_compStart_list (loop _ rfl) (W.self 0 _ _ _ hst₁ (loop _ rfl))
/-- the iterable of a block is a list -/
def SrcV (prog : Program) (w : World) (A : Around) (h₀ : Heap) (L : Addr) (m : Str → Option Value) (x : Str) (B : BodyT) (cenv : Addr → Env) (Fin : Addr → List Value → List (Addr × Obj) → Heap → Nat → Array GenState → Shared → Prop) (xv : Value) (s₁ : Shared) : Prop :=
  ∃ (ax : Addr) (its : Array Value) (news : List (Addr × Obj)) (J : Addr → Addr → Addr → Nat → List Value → List (Addr × Obj) → Array GenState → Prop), xv = .ref ax ∧ A.handled = none ∧ Fr h₀ L s₁.heap m ∧ News h₀ L s₁.heap news ∧ SrcAt h₀ ax its news ∧
    (∀ I C D, (∀ p ∈ news, @LT.lt Nat _ p.1 I ∧ @LT.lt Nat _ p.1 D) → @LT.lt Nat _ I D → @LT.lt Nat _ D C → C ≠ L → D ≠ L → h₀.get? C = none → h₀.get? D = none → Turns prog w A h₀ L m x B cenv (SrcAt h₀ ax its) (fun i v => its[i]? = some v) its.size s₁.drawn s₁.os s₁.gens news (J I C D) I C D) ∧
    ∀ I C D ys news' h tk g, J I C D its.size ys news' g → Off1 D news' → Fin D ys news' h tk g s₁
def FinEV (h₀ : Heap) (L : Addr) (m : Str → Option Value) (Q : Value → Shared → Prop) (D : Addr) (ys : List Value) (news : List (Addr × Obj)) (h : Heap) (tk : Nat) (g : Array GenState) (s : Shared) : Prop :=
  Fr h₀ L h m → News h₀ L h ((D, lst ys) :: news) → Q (.ref D) { heap := h, gens := g, drawn := s.drawn, toks := tk, os := s.os }
def FinAV (h₀ : Heap) (L : Addr) (m : Str → Option Value) (y : Str) (Q : Flow → Shared → Prop) (D : Addr) (ys : List Value) (news : List (Addr × Obj)) (h : Heap) (tk : Nat) (g : Array GenState) (s : Shared) : Prop :=
  Fr h₀ L h (fun z => if z = y then some (.ref D) else m z) → News h₀ L h ((D, lst ys) :: news) → Q .next { heap := h, gens := g, drawn := s.drawn, toks := tk, os := s.os }
theorem eval_V {elt iter : Expr} {x : Str} {px : Pos} {ifs : List Expr} {rest : List Comprehension} {scope : Scope} {cl : List (Str × Addr)} {pos : Pos} {B : BodyT} {Q : Value → Shared → Prop} (_F₀ : Fr h₀ L s.heap m)
    (ht : TurnW prog w A (.ListComp elt (⟨.Name x px, iter, ifs, 0⟩ :: rest) scope pos) 0 x px B) (hB : ∀ acc env (Q Q' : Shared → Prop) E s, (∀ s', Q s' → Q' s') → B acc env Q E s → B acc env Q' E s)
    (hclos : closureFor scope env = pure cl) (hcell : ∀ y ∈ scope.names, y.2 ≠ .cell) (hkind : scope.kind = .function)
    (hnames : ∀ y ∈ scope.names, y.2 = .local → scope.names.lookup y.1 = some .local) (hx : scope.names.lookup x = some .local)
    (h : wpAny (model prog w) A (eval iter env) (SrcV prog w A h₀ L m x B (fun C => compEnvC scope cl C env) (FinEV h₀ L m Q)) E s)
    (hs : ∀ x, foldedSetIterable iter env x = pure x := by intro _; rfl) :
    wpAny (model prog w) A (eval (.ListComp elt (⟨.Name x px, iter, ifs, 0⟩ :: rest) scope pos) env) Q E s := by
  rw [eval_ListComp]
  refine wpAny_comprehension_free (use := none) rfl hs hclos hkind hnames (wpAny_mono h (fun xv s₁ h₁ => ?_) fun _ _ e => e)
  obtain ⟨ax, its, news, J, rfl, hh, F, N, S, T, fin⟩ := h₁
  have hl := S.list F.keep N
  have hlt : ax < s₁.heap.objs.size := by obtain ⟨_, e, _⟩ := hl; exact Heap.lt_size e
  refine wpAny_pyIter_list hl ?_
  have up : ∀ b o, s₁.heap.get? b = some o → (s₁.heap.push { cls := .type "list_iterator", data := .fields #[.ref ax, .int 0 0] }).get? b = some o := fun b o e => Heap.get?_push_of_some _ e
  refine block_V ht hB (Walks.list hh s₁.heap.objs.size ax (Nat.ne_of_lt hlt) its) (fun i h st => by obtain ⟨o, e, _⟩ := st.1; exact ⟨o, e⟩) list_st hcell hkind hx ⟨⟨_, Heap.get?_push_size _ rfl, rfl, rfl⟩, hl.push _⟩ (fun b hb => ?_)
    (F.keeps up) (N.grown up) (Nat.ne_of_lt F.ns.lt) (next_is_new F) (fun p hp => Nat.ne_of_lt (Heap.lt_size (N p hp).1)) (T _) (fun p hp => Heap.lt_size (N p hp).1) ?_
  · show b < (s₁.heap.push _).objs.size
    rw [Heap.size_push]
    rcases List.mem_cons.mp hb with rfl | hb
    · exact Nat.lt_succ_self _
    · rw [List.mem_singleton.mp hb]; exact Nat.lt_succ_of_lt hlt
  · intro D C h' g tk m' ys news' j F' N' off' hn hC₀ hD₀ hCL hDL hCD
    refine ⟨m', hn, fun h'' hs'' => fin _ C D ys news' h'' tk g j off'.one (F'.change hs'' hCL hC₀) (fun p hp => ?_)⟩
    refine ⟨hs''.extBut _ _ ?_ (N' p hp).1, (N' p hp).2⟩
    rcases List.mem_cons.mp hp with rfl | hp
    · exact Ne.symm hCD
    · exact (off'.mem p hp).2.1
theorem assign_V {elt iter : Expr} {x y : Str} {px py : Pos} {ifs : List Expr} {rest : List Comprehension} {scope : Scope} {cl : List (Str × Addr)} {pos spos : Pos} {B : BodyT} {Q : Flow → Shared → Prop} (_F₀ : Fr h₀ L s.heap m)
    (hLe : env.locals = L) (hsw : swapsWith (.ListComp elt (⟨.Name x px, iter, ifs, 0⟩ :: rest) scope pos) (some (.Name y py)) spos.line env = pure true)
    (ht : TurnW prog w A (.ListComp elt (⟨.Name x px, iter, ifs, 0⟩ :: rest) scope pos) 0 x px B) (hB : ∀ acc env (Q Q' : Shared → Prop) E s, (∀ s', Q s' → Q' s') → B acc env Q E s → B acc env Q' E s)
    (hclos : closureFor scope env = pure cl) (hcell : ∀ y ∈ scope.names, y.2 ≠ .cell) (hkind : scope.kind = .function)
    (hnames : ∀ y ∈ scope.names, y.2 = .local → scope.names.lookup y.1 = some .local) (hx : scope.names.lookup x = some .local)
    (hy : env.kindOf y = some .local) (hp : (env.scope.kind == .class || (env.scope.kind == .module && env.locals != env.globals)) = false)
    (h : wpAny (model prog w) A (eval iter env) (SrcV prog w A h₀ L m x B (fun C => compEnvC scope cl C env) (FinAV h₀ L m y Q)) E s)
    (hs : ∀ x, foldedSetIterable iter env x = pure x := by intro _; rfl) :
    wpAny (model prog w) A (exec (.Assign [.Name y py] (.ListComp elt (⟨.Name x px, iter, ifs, 0⟩ :: rest) scope pos) spos) env) Q E s := by
  subst hLe
  rw [exec_Assign_Name_used _ _ _ _ hsw]
  refine wpAny_bind (wpAny_standAt (wpAny_bind ?_))
  show wpAny _ A (do let _ ← comprehension (.ListComp elt (⟨.Name x px, iter, ifs, 0⟩ :: rest) scope pos) scope env _ (newList []) false (eval iter env) (some (assign (.Name y py) env))) _ _ s
  refine wpAny_bind (wpAny_mono (wpAny_comprehension_free (use := some (assign (.Name y py) env)) (Q := fun _ s' => Q .next s') rfl hs hclos hkind hnames
    (wpAny_mono h (fun xv s₁ h₁ => ?_) fun _ _ e => e)) (fun _ s' hq => wpAny_pure (wpAny_pure hq)) fun _ _ e => e)
  obtain ⟨ax, its, news, J, rfl, hh, F, N, S, T, fin⟩ := h₁
  have hl := S.list F.keep N
  have hlt : ax < s₁.heap.objs.size := by obtain ⟨_, e, _⟩ := hl; exact Heap.lt_size e
  refine wpAny_pyIter_list hl ?_
  have up : ∀ b o, s₁.heap.get? b = some o → (s₁.heap.push { cls := .type "list_iterator", data := .fields #[.ref ax, .int 0 0] }).get? b = some o := fun b o e => Heap.get?_push_of_some _ e
  refine block_V ht hB (Walks.list hh s₁.heap.objs.size ax (Nat.ne_of_lt hlt) its) (fun i h st => by obtain ⟨o, e, _⟩ := st.1; exact ⟨o, e⟩) list_st hcell hkind hx ⟨⟨_, Heap.get?_push_size _ rfl, rfl, rfl⟩, hl.push _⟩ (fun b hb => ?_)
    (F.keeps up) (N.grown up) (Nat.ne_of_lt F.ns.lt) (next_is_new F) (fun p hp => Nat.ne_of_lt (Heap.lt_size (N p hp).1)) (T _) (fun p hp => Heap.lt_size (N p hp).1) ?_
  · show b < (s₁.heap.push _).objs.size
    rw [Heap.size_push]
    rcases List.mem_cons.mp hb with rfl | hb
    · exact Nat.lt_succ_self _
    · rw [List.mem_singleton.mp hb]; exact Nat.lt_succ_of_lt hlt
  · intro D C h' g tk m' ys news' j F' N' off' hn hC₀ hD₀ hCL hDL hCD
    show wpAny _ A (assign (.Name y py) env (.ref D)) _ _ _
    refine wpAny_assign_Name (wpAny_storeName_local hy F'.ns (fun h₂ hn₂ hs₂ => ?_) hp)
    have hL₀ : h₀.get? env.locals = none := Heap.get?_none_of_le F'.above
    have F₂ : Fr h₀ env.locals h₂ (fun z => if z = y then some (.ref D) else m z) := ⟨hn₂, fun b o e => hs₂.extBut b o (fun q => by rw [q, hL₀] at e; cases e) (F'.keep b o e), F'.above⟩
    refine ⟨m', hn.sameBut hs₂ hCL, fun h'' hs'' => fin _ C D ys news' h'' _ g j off'.one (F₂.change hs'' hCL hC₀) (fun p hp => ?_)⟩
    have z : h₂.get? p.1 = some p.2 := hs₂.extBut _ _ (N' p hp).2.1 (N' p hp).1
    refine ⟨hs''.extBut _ _ ?_ z, (N' p hp).2⟩
    rcases List.mem_cons.mp hp with rfl | hp
    · exact Ne.symm hCD
    · exact (off'.mem p hp).2.1
end

section
open PyProof.Rows PyProof.Rows.LCg
variable {prog : Program} {w : World} {A : Around} {h₀ : Heap} {L : Addr} {m : Str → Option Value} {x : Str} {elt : Expr} {cenv : Addr → Env} {Fin : Addr → List Value → List (Addr × Obj) → Heap → Nat → Array GenState → Shared → Prop} {ax : Addr} {its : Array Value} {k : Nat} {news : List (Addr × Obj)} {s₁ : Shared}
theorem off1_tail {D : Addr} : ∀ {l : List (Addr × Obj)}, Off1 D l → ∀ p ∈ l, p.1 ≠ D
  | [], _, _, h => nomatch h
  | _ :: _, x, p, h => by
    rcases List.mem_cons.mp h with rfl | h
    · exact x.1
    · exact off1_tail x.2 p h
/-- a block that changes nothing but its own list -/
theorem srcV_map {Pv : Nat → Value → Prop} (hh : A.handled = none) (F : Fr h₀ L s₁.heap m) (N : News h₀ L s₁.heap news) (hS : SrcAt h₀ ax its news) (hz : its.size ≤ sizeLine)
    (turn : ∀ (I C D : Nat) oI oC m₂ ys h tk i v (E' : Value → Shared → Prop), i < its.size → its[i]? = some v → (∀ p ∈ news, @LT.lt Nat _ p.1 I ∧ @LT.lt Nat _ p.1 D) → @LT.lt Nat _ I D → @LT.lt Nat _ D C → C ≠ L → D ≠ L → h₀.get? C = none → h₀.get? D = none → NsObj oC m₂ → m₂ x = some v → Fr h₀ L h m → News h₀ L h ((I, oI) :: (C, oC) :: (D, lst ys) :: news) → Off3 I C D news →
      wpAny (model prog w) A (eval elt (cenv C)) (ZEnd h₀ L m I oI C oC D ys s₁.drawn s₁.os (fun y nw g => nw = news ∧ g = s₁.gens ∧ Pv i y)) E' { heap := h, gens := s₁.gens, drawn := s₁.drawn, toks := tk, os := s₁.os })
    (fin : ∀ D ys h tk, ys.length = its.size → (∀ i y, ys[i]? = some y → Pv i y) → Off1 D news → (∀ p ∈ news, @LT.lt Nat _ p.1 D) → Fin D ys news h tk s₁.gens s₁) :
    SrcV prog w A h₀ L m x (bodyZ prog w A elt) cenv Fin (.ref ax) s₁ := by
  refine ⟨ax, its, news, fun I C D i ys nw g => nw = news ∧ g = s₁.gens ∧ ys.length = i ∧ (∀ p ∈ news, @LT.lt Nat _ p.1 D) ∧ ∀ j y, ys[j]? = some y → Pv j y, rfl, hh, F, N, hS, fun I C D hp hID hDC hCL hDL hC₀ hD₀ => ⟨⟨rfl, rfl, rfl, fun p h => (hp p h).2, fun j y h => by simp at h⟩, fun i ys nw g j => j.1 ▸ hS, ?_⟩, fun I C D ys news' h tk g j o1 => ?_⟩
  · rintro i v oI oC m₂ ys nw h g tk E' hi hv ⟨rfl, rfl, hl, hb, hP⟩ hC hx F' N' off
    refine bodyZ_end hC (by rw [hl]; exact Nat.le_trans (Nat.le_of_lt hi) hz) ⟨Nat.ne_of_lt hID, Nat.ne_of_gt hDC⟩ hDL hD₀ (wpAny_mono (turn I C D oI oC m₂ ys h tk i v E' hi hv hp hID hDC hCL hDL hC₀ hD₀ hC hx F' N' off) (fun y s' hz => ?_) fun _ _ e => e)
    obtain ⟨h', g', tk', news', e, F'', N'', off', rfl, rfl, hy⟩ := hz
    refine ⟨h', _, tk', _, e, F'', N'', off', rfl, rfl, by rw [List.length_append, List.length_singleton, hl], hb, fun j z hj => ?_⟩
    rw [List.getElem?_append] at hj
    split at hj
    · exact hP j z hj
    · rename_i hlt
      have : j - ys.length = 0 := by
        rcases Nat.eq_zero_or_pos (j - ys.length) with h | h
        · exact h
        · rw [List.getElem?_eq_none h] at hj; cases hj
      rw [this] at hj
      simp at hj
      subst hj
      rw [show j = i by omega]
      exact hy
  · obtain ⟨rfl, rfl, hl, hb, hP⟩ := j
    exact fin D ys h tk hl hP o1 hb
/-- a block whose elements are new objects, laid at the ledger's end -/
theorem srcV_grow {GR : Array GenState → Prop} {PO : Nat → Obj → Prop} (hh : A.handled = none) (F : Fr h₀ L s₁.heap m) (N : News h₀ L s₁.heap news) (hS : SrcAt h₀ ax its news) (hz : its.size ≤ sizeLine) (hG : GR s₁.gens)
    (turn : ∀ (I C D : Nat) oI oC m₂ ys h tk i v rows g (E' : Value → Shared → Prop), i < its.size → its[i]? = some v → GR g → (∀ p ∈ news, @LT.lt Nat _ p.1 I ∧ @LT.lt Nat _ p.1 D) → @LT.lt Nat _ I D → @LT.lt Nat _ D C → C ≠ L → D ≠ L → h₀.get? C = none → h₀.get? D = none → NsObj oC m₂ → m₂ x = some v → Fr h₀ L h m → News h₀ L h ((I, oI) :: (C, oC) :: (D, lst ys) :: (news ++ rows)) → Off3 I C D (news ++ rows) →
      wpAny (model prog w) A (eval elt (cenv C)) (ZEnd h₀ L m I oI C oC D ys s₁.drawn s₁.os (fun y nw g' => ∃ a o, y = .ref a ∧ nw = news ++ (a, o) :: rows ∧ PO i o ∧ GR g')) E' { heap := h, gens := g, drawn := s₁.drawn, toks := tk, os := s₁.os })
    (fin : ∀ D ys h tk rows g, ys.length = its.size → (∀ i y, ys[i]? = some y → ∃ a o, y = .ref a ∧ (a, o) ∈ rows ∧ PO i o) → GR g → Off1 D (news ++ rows) → (∀ p ∈ news, @LT.lt Nat _ p.1 D) → Fin D ys (news ++ rows) h tk g s₁) :
    SrcV prog w A h₀ L m x (bodyZ prog w A elt) cenv Fin (.ref ax) s₁ := by
  refine ⟨ax, its, news, fun I C D i ys nw g => ∃ rows, nw = news ++ rows ∧ GR g ∧ ys.length = i ∧ (∀ p ∈ news, @LT.lt Nat _ p.1 D) ∧ ∀ j y, ys[j]? = some y → ∃ a o, y = .ref a ∧ (a, o) ∈ rows ∧ PO j o, rfl, hh, F, N, hS, fun I C D hp hID hDC hCL hDL hC₀ hD₀ => ⟨⟨[], (List.append_nil _).symm, hG, rfl, fun p h => (hp p h).2, fun j y h => by simp at h⟩, fun i ys nw g j => ?_, ?_⟩, fun I C D ys news' h tk g j o1 => ?_⟩
  · obtain ⟨rows, rfl, _⟩ := j
    rcases hS with h | ⟨o, hm, r⟩
    · exact .inl h
    · exact .inr ⟨o, List.mem_append_left _ hm, r⟩
  · rintro i v oI oC m₂ ys nw h g tk E' hi hv ⟨rows, rfl, hg, hl, hb, hP⟩ hC hx F' N' off
    refine bodyZ_end hC (by rw [hl]; exact Nat.le_trans (Nat.le_of_lt hi) hz) ⟨Nat.ne_of_lt hID, Nat.ne_of_gt hDC⟩ hDL hD₀ (wpAny_mono (turn I C D oI oC m₂ ys h tk i v rows g E' hi hv hg hp hID hDC hCL hDL hC₀ hD₀ hC hx F' N' off) (fun y s' hz => ?_) fun _ _ e => e)
    obtain ⟨h', g', tk', news', e, F'', N'', off', a, o, rfl, rfl, hy, hg'⟩ := hz
    refine ⟨h', _, tk', _, e, F'', N'', off', _, rfl, hg', by rw [List.length_append, List.length_singleton, hl], hb, fun j z hj => ?_⟩
    rw [List.getElem?_append] at hj
    split at hj
    · obtain ⟨a', o', q1, q2, q3⟩ := hP j z hj
      exact ⟨a', o', q1, .tail _ q2, q3⟩
    · rename_i hlt
      have : j - ys.length = 0 := by
        rcases Nat.eq_zero_or_pos (j - ys.length) with h | h
        · exact h
        · rw [List.getElem?_eq_none h] at hj; cases hj
      rw [this] at hj
      simp at hj
      subst hj
      rw [show j = i by omega]
      exact ⟨a, o, rfl, .head _, hy⟩
  · obtain ⟨rows, rfl, hg, hl, hb, hP⟩ := j
    exact fin D ys h tk rows g hl hP hg o1 hb
end
end

section
/-! blocks with a test; blocks of two clauses -/
section
open PyProof.Rows PyProof.Rows.LCg
variable {prog : Program} {w : World} {A : Around} {h₀ : Heap} {L : Addr} {m : Str → Option Value} {x : Str} {elt : Expr} {cenv : Addr → Env} {Fin : Addr → List Value → List (Addr × Obj) → Heap → Nat → Array GenState → Shared → Prop} {ax : Addr} {its : Array Value} {news : List (Addr × Obj)} {s₁ : Shared}
/-- a block with one test; R tells the list after i items -/
theorem srcV_test {c : Expr} {R : Nat → List Value → Prop} (hh : A.handled = none) (F : Fr h₀ L s₁.heap m) (N : News h₀ L s₁.heap news) (hS : SrcAt h₀ ax its news) (h0 : R 0 []) (hlen : ∀ i ys, R i ys → ys.length ≤ sizeLine)
    (turn : ∀ (I C D : Nat) oI oC m₂ ys h tk i v (E' : Value → Shared → Prop), i < its.size → its[i]? = some v → R i ys → (∀ p ∈ news, @LT.lt Nat _ p.1 I ∧ @LT.lt Nat _ p.1 D) → @LT.lt Nat _ I D → @LT.lt Nat _ D C → C ≠ L → D ≠ L → h₀.get? C = none → h₀.get? D = none → NsObj oC m₂ → m₂ x = some v → Fr h₀ L h m → News h₀ L h ((I, oI) :: (C, oC) :: (D, lst ys) :: news) → Off3 I C D news →
      wpAny (model prog w) A (isTrue c (cenv C) (eval c (cenv C))) (fun ok s₂ => if ok = true then wpAny (model prog w) A (eval elt (cenv C)) (ZEnd h₀ L m I oI C oC D ys s₁.drawn s₁.os (fun y nw g => nw = news ∧ g = s₁.gens ∧ R (i + 1) (ys ++ [y]))) E' s₂
        else ZEnd h₀ L m I oI C oC D ys s₁.drawn s₁.os (fun _ nw g => nw = news ∧ g = s₁.gens ∧ R (i + 1) ys) .none s₂) E' { heap := h, gens := s₁.gens, drawn := s₁.drawn, toks := tk, os := s₁.os })
    (fin : ∀ D ys h tk, R its.size ys → Off1 D news → (∀ p ∈ news, @LT.lt Nat _ p.1 D) → Fin D ys news h tk s₁.gens s₁) :
    SrcV prog w A h₀ L m x (bodyT prog w A elt c) cenv Fin (.ref ax) s₁ := by
  refine ⟨ax, its, news, fun I C D i ys nw g => nw = news ∧ g = s₁.gens ∧ (∀ p ∈ news, @LT.lt Nat _ p.1 D) ∧ R i ys, rfl, hh, F, N, hS, fun I C D hp hID hDC hCL hDL hC₀ hD₀ => ⟨⟨rfl, rfl, fun p h => (hp p h).2, h0⟩, fun i ys nw g j => j.1 ▸ hS, ?_⟩, fun I C D ys news' h tk g j o1 => ?_⟩
  · rintro i v oI oC m₂ ys nw h g tk E' hi hv ⟨rfl, rfl, hb, hR⟩ hC hx F' N' off
    refine wpAny_mono (turn I C D oI oC m₂ ys h tk i v E' hi hv hR hp hID hDC hCL hDL hC₀ hD₀ hC hx F' N' off) (fun ok s₂ h₂ => ?_) fun _ _ e => e
    cases ok with
    | true =>
      rw [if_pos rfl] at h₂ ⊢
      refine bodyZ_end hC (hlen _ _ hR) ⟨Nat.ne_of_lt hID, Nat.ne_of_gt hDC⟩ hDL hD₀ (wpAny_mono h₂ (fun y s' hz => ?_) fun _ _ e => e)
      obtain ⟨h', g', tk', news', e, F'', N'', off', rfl, rfl, hy⟩ := hz
      exact ⟨h', _, tk', _, e, F'', N'', off', rfl, rfl, hb, hy⟩
    | false =>
      rw [if_neg Bool.false_ne_true] at h₂ ⊢
      obtain ⟨h', g', tk', news', e, F'', N'', off', rfl, rfl, hy⟩ := h₂
      exact ⟨h', _, tk', ys, _, oC, m₂, e, hC, F'', N'', off', rfl, rfl, hb, hy⟩
  · obtain ⟨rfl, rfl, hb, hR⟩ := j
    exact fin D ys h tk hR o1 hb
theorem compStart_inner {R : Result → Shared → Prop} {s : Shared} {target iter : Expr} {g0 : Comprehension} {scope : Scope} {pos : Pos} {it acc : Value} {env : Env}
    (h0 : codeAny (model prog w) A (.compLoop (.ListComp elt [g0, ⟨target, iter, [], 0⟩] scope pos) 1 it acc env) R s)
    (h : wpAny (model prog w) A (pyIter it) (fun it' s' => codeAny (model prog w) A (.compLoop (.ListComp elt [g0, ⟨target, iter, [], 0⟩] scope pos) 1 it' acc env) R s')
      (notedBy (model prog w) A env fun x s' => R (.error x) s') s) :
    codeAny (model prog w) A (.compStart (.ListComp elt [g0, ⟨target, iter, [], 0⟩] scope pos) 1 it acc env) R s := by
  refine codeAny_of_tree ?_
  show wpAny _ _ ((compStart (.ListComp elt [g0, ⟨target, iter, [], 0⟩] scope pos) 1 it acc env).onRaise (fun x => do noteFrame x env; standAt theWindowsPlace)) _ _ s
  refine wpAny_notedAt ?_
  unfold compStart
  show wpAny _ _ (ask >>= _) _ _ s
  refine wpAny_bind (wpAny_askSetting (wpAny_ite ?_))
  split
  · first
      | exact wpAny_bind (wpAny_pure (wpAny_pure (And.intro rfl h0)))
      | exact wpAny_pure (And.intro rfl h0)
  · first
      | exact wpAny_bind (wpAny_rule (wpAny_bind (wpAny_standAt (wpAny_bind (wpAny_mono h (fun it' s' h' => wpAny_pure (And.intro rfl h')) fun _ _ x => x)))))
      | (refine wpAny_bind (wpAny_rule ?_); show wpAny _ _ (standAt iter.pos >>= _) _ _ s; exact wpAny_bind (wpAny_standAt (wpAny_bind (wpAny_mono h (fun it' s' h' => wpAny_pure (And.intro rfl h')) fun _ _ x => x))))
/-- what the second clause's iterable comes to -/
def TwoE (h₀ : Heap) (L : Addr) (m : Str → Option Value) (I : Addr) (oI : Obj) (C : Addr) (oC : Obj) (D : Addr) (ys : List Value) (news : List (Addr × Obj)) (dr : Drawn) (os : OsState) (gens : Array GenState) (k : Nat) (P : Nat → Value → Prop) (xv : Value) (s₂ : Shared) : Prop :=
  ∃ ax1 its1 nw h' tk', xv = .ref ax1 ∧ s₂ = { heap := h', gens := gens, drawn := dr, toks := tk', os := os } ∧ its1.size = k ∧ Fr h₀ L h' m ∧ News h₀ L h' ((I, oI) :: (C, oC) :: (D, lst ys) :: nw) ∧ Off3 I C D nw ∧ (∀ p ∈ news, p ∈ nw) ∧ SrcAt h₀ ax1 its1 nw ∧ ∀ j y, its1[j]? = some y → P j y
/-- a block of two clauses; R tells the list after i rows and j items of the next -/
theorem srcV_two {iter i1 : Expr} {px px1 pe : Pos} {x1 : Str} {scope : Scope} {pos : Pos} {k : Nat → Nat} {P : Nat → Nat → Value → Prop} {R : Nat → Nat → List Value → Prop} (hh : A.handled = none) (F : Fr h₀ L s₁.heap m) (N : News h₀ L s₁.heap news) (hS : SrcAt h₀ ax its news) (h0 : R 0 0 []) (hlen : ∀ i j ys, R i j ys → ys.length ≤ sizeLine)
    (hR : ∀ i j ys y, i < its.size → j < k i → R i j ys → P i j y → R i (j + 1) (ys ++ [y])) (hN : ∀ i ys, i < its.size → R i (k i) ys → R (i + 1) 0 ys)
    (hloc : ∀ C, (cenv C).locals = C) (hkind : ∀ C, (cenv C).scope.kind = .function) (hx1 : ∀ C, (cenv C).kindOf x1 = some .local) (hdbg : (x1 == ("__debug__" : Str)) = false)
    (turn : ∀ (I C D : Nat) oI oC m₂ ys h tk i v (E' : Value → Shared → Prop), i < its.size → its[i]? = some v → (∀ p ∈ news, @LT.lt Nat _ p.1 I ∧ @LT.lt Nat _ p.1 D) → @LT.lt Nat _ I D → @LT.lt Nat _ D C → C ≠ L → D ≠ L → h₀.get? C = none → h₀.get? D = none → NsObj oC m₂ → m₂ x = some v → Fr h₀ L h m → News h₀ L h ((I, oI) :: (C, oC) :: (D, lst ys) :: news) → Off3 I C D news →
      wpAny (model prog w) A (eval i1 (cenv C)) (TwoE h₀ L m I oI C oC D ys news s₁.drawn s₁.os s₁.gens (k i) (P i))
        E' { heap := h, gens := s₁.gens, drawn := s₁.drawn, toks := tk, os := s₁.os })
    (fin : ∀ D ys h tk, R its.size 0 ys → Off1 D news → (∀ p ∈ news, @LT.lt Nat _ p.1 D) → Fin D ys news h tk s₁.gens s₁) :
    SrcV prog w A h₀ L m x (bodyN prog w A (.ListComp (.Name x1 pe) [⟨.Name x px, iter, [], 0⟩, ⟨.Name x1 px1, i1, [], 0⟩] scope pos) i1) cenv Fin (.ref ax) s₁ := by
  refine ⟨ax, its, news, fun I C D i ys nw g => nw = news ∧ g = s₁.gens ∧ (∀ p ∈ news, @LT.lt Nat _ p.1 D) ∧ R i 0 ys, rfl, hh, F, N, hS, fun I C D hp hID hDC hCL hDL hC₀ hD₀ => ⟨⟨rfl, rfl, fun p h => (hp p h).2, h0⟩, fun i ys nw g j => j.1 ▸ hS, ?_⟩, fun I C D ys news' h tk g j o1 => ?_⟩
  · rintro i v oI oC m₂ ys nw h g tk E' hi hv ⟨rfl, rfl, hb, hRi⟩ hC hx F' N' off
    refine wpAny_mono (turn I C D oI oC m₂ ys h tk i v E' hi hv hp hID hDC hCL hDL hC₀ hD₀ hC hx F' N' off) (fun xv s₂ h₂ => ?_) fun _ _ e => e
    obtain ⟨ax1, its1, nw1, h', tk', rfl, rfl, hk1, F1, N1, off1, hsub, hS1, hP1⟩ := h₂
    have nwI : News h₀ L h' ((I, oI) :: nw1) := fun p hp => by
      rcases List.mem_cons.mp hp with rfl | hp
      · exact N1 _ (.head _)
      · exact N1 p (.tail _ (.tail _ (.tail _ hp)))
    have hl := hS1.list F1.keep (fun p hp => nwI p (.tail _ hp) : News h₀ L h' nw1)
    have hlt : ax1 < h'.objs.size := by obtain ⟨_, e, _⟩ := hl; exact Heap.lt_size e
    refine wpAny_pyIter_list hl ?_
    generalize hI1 : h'.objs.size = I1 at *
    have up : ∀ b o, h'.get? b = some o → (h'.push { cls := .type "list_iterator", data := .fields #[.ref ax1, .int 0 0] }).get? b = some o := fun b o e => Heap.get?_push_of_some _ e
    have below : ∀ p ∈ (I, oI) :: (C, oC) :: (D, lst ys) :: nw1, @LT.lt Nat _ p.1 I1 := fun p hp => hI1 ▸ Heap.lt_size (N1 p hp).1
    have hIlt : @LT.lt Nat _ I I1 := below _ (.head _)
    have hClt : @LT.lt Nat _ C I1 := below _ (.tail _ (.head _))
    have hDlt : @LT.lt Nat _ D I1 := below _ (.tail _ (.tail _ (.head _)))
    have hI1L : I1 ≠ L := hI1 ▸ Nat.ne_of_gt F1.ns.lt
    have hI10 : h₀.get? I1 = none := hI1 ▸ next_is_new F1
    have St0 : (h'.push { cls := .type "list_iterator", data := .fields #[.ref ax1, .int 0 0] }).IsListIter I1 ax1 0 ∧ (h'.push { cls := .type "list_iterator", data := .fields #[.ref ax1, .int 0 0] }).IsList ax1 its1 := ⟨⟨_, hI1 ▸ Heap.get?_push_size _ rfl, rfl, rfl⟩, hl.push _⟩
    have W := Walks.list (prog := prog) (w := w) hh I1 ax1 (Nat.ne_of_lt hlt) its1
    have hnI : ∀ p ∈ nw1, p.1 ≠ I := fun p hp => (off1.mem p hp).1
    have offn : Off3 I1 C D ((I, oI) :: nw1) := Off3.of fun p hp => by
      rcases List.mem_cons.mp hp with rfl | hp
      · exact ⟨Nat.ne_of_lt hIlt, Nat.ne_of_lt (Nat.lt_trans hID hDC), Nat.ne_of_lt hID⟩
      · exact ⟨Nat.ne_of_lt (below p (.tail _ (.tail _ (.tail _ hp)))), (off1.mem p hp).2.1, (off1.mem p hp).2.2⟩
    have run : ∀ s₃ : Shared, s₃ = { heap := h'.push { cls := .type "list_iterator", data := .fields #[.ref ax1, .int 0 0] }, gens := s₁.gens, drawn := s₁.drawn, toks := tk', os := s₁.os } →
        codeAny (model prog w) A (.compLoop (.ListComp (.Name x1 pe) [⟨.Name x px, iter, [], 0⟩, ⟨.Name x1 px1, i1, [], 0⟩] scope pos) 1 (.ref I1) (.ref D) (cenv C)) (fun r s₃ => match r with | .ok _ => CEnd h₀ L m I oI C D s₁.drawn s₁.os (fun ys nw' g => nw' = nw ∧ g = s₁.gens ∧ (∀ p ∈ nw, @LT.lt Nat _ p.1 D) ∧ R (i + 1) 0 ys) s₃ | .error e => cameBackBy (model prog w) A (cenv C) E' e s₃) s₃ := by
      rintro s₃ rfl
      refine comp_run (n := its1.size) (S := SrcAt h₀ ax1 its1) (J := fun j ys' nw' g' => nw' = (I, oI) :: nw1 ∧ g' = s₁.gens ∧ R i j ys') turnI bodyZ_mono (hloc C) (hkind C) (hx1 C) W (fun i h st => by obtain ⟨o, e, _⟩ := st.1; exact ⟨o, e⟩) list_st (fun i ys nw g j => ?_) ?_ ⟨Nat.ne_of_gt hClt, Nat.ne_of_gt hDlt, Nat.ne_of_gt hDC⟩ hI1L hI10 hCL hC₀ ?_ ?_ St0 (F1.keeps up) (hC.ns (up _ _ (N1 _ (.tail _ (.head _))).1)) (fun p hp => ?_) offn ⟨rfl, rfl, hRi⟩
      · rw [j.1]
        rcases hS1 with h | ⟨o, hm, r⟩
        · exact .inl h
        · exact .inr ⟨o, .tail _ hm, r⟩
      · intro hm
        rcases List.mem_cons.mp hm with e | hm
        · exact Nat.ne_of_lt hClt e
        · have e := List.mem_singleton.mp hm
          rcases hS1 with ⟨o, q, _⟩ | ⟨o, hm, _⟩
          · rw [← e, hC₀] at q; cases q
          · exact (off1.mem _ hm).2.1 e.symm
      · rintro j y oI1 oC1 m1 ys1 nw' h3 g3 tk3 E3 hj hy ⟨rfl, rfl, hR1⟩ hC1 hxy F3 N3 off3
        refine bodyZ_end hC1 (hlen _ _ _ hR1) ⟨Nat.ne_of_gt hDlt, Nat.ne_of_gt hDC⟩ hDL hD₀ ?_
        refine wpAny_Name (wpAny_loadName_local (hkind C) (hx1 C) (by rw [hloc C]; exact hC1.ns (N3 _ (.tail _ (.head _))).1) hxy ?_) hdbg
        exact ZEnd.intro _ F3 N3 (fun p hp => hp) off3 ⟨rfl, rfl, hR _ _ _ _ hi (hk1 ▸ hj) hR1 (hP1 _ _ hy)⟩
      · rintro ys1 nw' h3 g3 tk3 m3 ⟨rfl, rfl, hR1⟩ F3 hn3 N3 off3
        obtain ⟨oC3, eC3, hC3⟩ := ns_obj hn3
        refine ⟨h3, _, tk3, ys1, nw, oC3, m3, rfl, hC3, F3, fun p hp => ?_, off, rfl, rfl, hb, hN _ _ hi (hk1 ▸ hR1)⟩
        rcases List.mem_cons.mp hp with rfl | hp
        · exact N3 _ (.tail _ (.head _))
        · rcases List.mem_cons.mp hp with rfl | hp
          · exact ⟨eC3, hCL, hC₀⟩
          · rcases List.mem_cons.mp hp with rfl | hp
            · exact N3 _ (.head _)
            · exact N3 p (.tail _ (.tail _ (hsub p hp)))
      · rcases List.mem_cons.mp hp with rfl | hp
        · exact ⟨up _ _ (N1 _ (.tail _ (.tail _ (.head _)))).1, hDL, hD₀⟩
        · exact ⟨up _ _ (nwI p hp).1, (nwI p hp).2⟩
    exact compStart_inner (run _ rfl) (W.self 0 _ _ _ St0 (run _ rfl))
  · obtain ⟨rfl, rfl, hb, hRi⟩ := j
    exact fin D ys h tk hRi o1 hb
end
section
variable {α : Type} {Are : List Value → List α → Prop} {p : α → Value → Prop} {row : Nat → List α} {n : Nat}
def TwoR (Are : List Value → List α → Prop) (row : Nat → List α) (n i j : Nat) (ys : List Value) : Prop := i ≤ n ∧ j ≤ (row i).length ∧ ys.length ≤ 16 * i + j ∧ Are ys (((List.range i).map row).flatten ++ (row i).take j)
theorem TwoR.zero (nil : Are [] []) : TwoR Are row n 0 0 [] := ⟨Nat.zero_le _, Nat.zero_le _, Nat.le_refl _, nil⟩
theorem TwoR.step (snoc : ∀ ys l y a, Are ys l → p a y → Are (ys ++ [y]) (l ++ [a])) {i j : Nat} {ys : List Value} {y : Value} {a : α} (h : TwoR Are row n i j ys) (e : (row i)[j]? = some a) (hp : p a y) : TwoR Are row n i (j + 1) (ys ++ [y]) := by
  obtain ⟨h1, h2, h3, h4⟩ := h
  have hj := (List.getElem?_eq_some_iff.mp e).1
  refine ⟨h1, hj, by rw [List.length_append, List.length_singleton]; omega, ?_⟩
  rw [List.take_add_one, e, ← List.append_assoc]
  exact snoc _ _ _ _ h4 hp
theorem TwoR.next (hrow : ∀ i, (row i).length ≤ 16) {i : Nat} {ys : List Value} (hi : i < n) (h : TwoR Are row n i (row i).length ys) : TwoR Are row n (i + 1) 0 ys := by
  obtain ⟨h1, h2, h3, h4⟩ := h
  have := hrow i
  refine ⟨hi, Nat.zero_le _, by omega, ?_⟩
  rw [List.take_length] at h4
  rw [List.range_succ, List.map_append, List.flatten_append, List.take_zero, List.append_nil, List.map_singleton, List.flatten_singleton]
  exact h4
theorem TwoR.len (hrow : ∀ i, (row i).length ≤ 16) (hn : n ≤ 16) {i j : Nat} {ys : List Value} (h : TwoR Are row n i j ys) : ys.length ≤ sizeLine := by
  obtain ⟨h1, h2, h3, h4⟩ := h
  have := hrow i
  rw [sizeLine_eq]
  omega
theorem TwoR.fin {ys : List Value} (h : TwoR Are row n n 0 ys) : Are ys ((List.range n).map row).flatten := by
  have := h.2.2.2
  rwa [List.take_zero, List.append_nil] at this
end
theorem strs_snoc : ∀ (ys : List Value) (l : List Str) (y : Value) (a : Str), StrsAre ys l → (∃ t, y = Value.str a t) → StrsAre (ys ++ [y]) (l ++ [a])
  | _, _, _, a, .nil, ⟨t, e⟩ => e ▸ .cons a t .nil
  | _, _, y, a, .cons z u h, e => .cons z u (strs_snoc _ _ y a h e)
theorem ints_snoc : ∀ (ys : List Value) (l : List Int) (y : Value) (a : Int), IntsAre ys l → (∃ t, y = Value.int a t) → IntsAre (ys ++ [y]) (l ++ [a])
  | _, _, _, a, .nil, ⟨t, e⟩ => e ▸ .cons a t .nil
  | _, _, y, a, .cons z u h, e => .cons z u (ints_snoc _ _ y a h e)
end

section
/-! a block over a text's signs -/
section
open PyProof.Rows PyProof.Rows.LCg
variable {prog : Program} {w : World} {A : Around} {E : Value → Shared → Prop} {s : Shared} {h₀ : Heap} {L : Addr} {m : Str → Option Value} {env : Env}
/-- the iterable of a block is a text of small signs -/
def SrcS (prog : Program) (w : World) (A : Around) (h₀ : Heap) (L : Addr) (m : Str → Option Value) (x : Str) (elt : Expr) (cenv : Addr → Env) (Pv : Nat → Value → Prop) (Q : Value → Shared → Prop) (xv : Value) (s₁ : Shared) : Prop :=
  ∃ (xt : Str) (t : Tok) (news : List (Addr × Obj)), xv = .str xt t ∧ xt.cps.all (· < 128) = true ∧ xt.cps.size ≤ sizeLine ∧ A.handled = none ∧ Fr h₀ L s₁.heap m ∧ News h₀ L s₁.heap news ∧
      (∀ (I C D : Nat) oI oC m₂ ys h tk i v (E' : Value → Shared → Prop), i < xt.cps.size → SignAt xt i v → (∀ p ∈ news, @LT.lt Nat _ p.1 I ∧ @LT.lt Nat _ p.1 D) → @LT.lt Nat _ I D → @LT.lt Nat _ D C → C ≠ L → D ≠ L → h₀.get? C = none → h₀.get? D = none → NsObj oC m₂ → m₂ x = some v → Fr h₀ L h m → News h₀ L h ((I, oI) :: (C, oC) :: (D, lst ys) :: news) → Off3 I C D news →
        wpAny (model prog w) A (eval elt (cenv C)) (ZEnd h₀ L m I oI C oC D ys s₁.drawn s₁.os (fun y nw g => nw = news ∧ g = s₁.gens ∧ Pv i y)) E' { heap := h, gens := s₁.gens, drawn := s₁.drawn, toks := tk, os := s₁.os }) ∧
      ∀ (D : Nat) ys h tk, ys.length = xt.cps.size → (∀ i y, ys[i]? = some y → Pv i y) → Off1 D news → (∀ p ∈ news, @LT.lt Nat _ p.1 D) → FinEV h₀ L m Q D ys news h tk s₁.gens s₁
theorem eval_strV {elt iter : Expr} {x : Str} {px : Pos} {scope : Scope} {cl : List (Str × Addr)} {pos : Pos} {Q : Value → Shared → Prop} {Pv : Nat → Value → Prop} (_F₀ : Fr h₀ L s.heap m)
    (hclos : closureFor scope env = pure cl) (hcell : ∀ y ∈ scope.names, y.2 ≠ .cell) (hkind : scope.kind = .function)
    (hnames : ∀ y ∈ scope.names, y.2 = .local → scope.names.lookup y.1 = some .local) (hx : scope.names.lookup x = some .local)
    (h : wpAny (model prog w) A (eval iter env) (SrcS prog w A h₀ L m x elt (fun C => compEnvC scope cl C env) Pv Q) E s)
    (hs : ∀ x, foldedSetIterable iter env x = pure x := by intro _; rfl) :
    wpAny (model prog w) A (eval (.ListComp elt [⟨.Name x px, iter, [], 0⟩] scope pos) env) Q E s := by
  rw [eval_ListComp]
  refine wpAny_comprehension_free (use := none) rfl hs hclos hkind hnames (wpAny_mono h (fun xv s₁ h₁ => ?_) fun _ _ e => e)
  obtain ⟨xt, t, news, rfl, ha, hz, hh, F, N, turn, fin⟩ := h₁
  refine wpAny_pyIter_ascii ha ?_
  have up : ∀ (o : Obj) b o', s₁.heap.get? b = some o' → (s₁.heap.push o).get? b = some o' := fun o b o' e => Heap.get?_push_of_some _ e
  refine block_V turnZ bodyZ_mono (Walks.strAscii hh s₁.heap.objs.size xt t) (S := fun _ => True) (fun i h st => by obtain ⟨o, e, _⟩ := st; exact ⟨o, e⟩) (fun i h h' o nw st e e' _ _ _ => by obtain ⟨o', q, r⟩ := st; rw [e] at q; cases q; exact ⟨o, e', r⟩) hcell hkind hx ⟨_, Heap.get?_push_size _ rfl, rfl, rfl⟩ (fun b hb => ?_)
    (F.keeps (up _)) (N.grown (up _)) (Nat.ne_of_lt F.ns.lt) (next_is_new F) (fun p hp => Nat.ne_of_lt (Heap.lt_size (N p hp).1)) (J := fun I C D i ys nw g => nw = news ∧ g = s₁.gens ∧ ys.length = i ∧ (∀ p ∈ news, @LT.lt Nat _ p.1 D) ∧ ∀ j y, ys[j]? = some y → Pv j y) (fun C D hp hID hDC hCL hDL hC₀ hD₀ => ⟨⟨rfl, rfl, rfl, fun p h => (hp p h).2, fun j y h => by simp at h⟩, fun _ _ _ _ _ => trivial, ?_⟩) (fun p hp => Heap.lt_size (N p hp).1) ?_
  · show b < (s₁.heap.push _).objs.size
    rw [Heap.size_push, List.mem_singleton.mp hb]
    exact Nat.lt_succ_self _
  · rintro i v oI oC m₂ ys nw h g tk E' hi hv ⟨rfl, rfl, hl, hb, hP⟩ hC hx F' N' off
    refine bodyZ_end hC (by rw [hl]; exact Nat.le_trans (Nat.le_of_lt hi) hz) ⟨Nat.ne_of_lt hID, Nat.ne_of_gt hDC⟩ hDL hD₀ (wpAny_mono (turn _ C D oI oC m₂ ys h tk i v E' hi hv hp hID hDC hCL hDL hC₀ hD₀ hC hx F' N' off) (fun y s' hz => ?_) fun _ _ e => e)
    obtain ⟨h', g', tk', news', e, F'', N'', off', rfl, rfl, hy⟩ := hz
    refine ⟨h', _, tk', _, e, F'', N'', off', rfl, rfl, by rw [List.length_append, List.length_singleton, hl], hb, fun j z hj => ?_⟩
    rw [List.getElem?_append] at hj
    split at hj
    · exact hP j z hj
    · rename_i hlt
      have : j - ys.length = 0 := by
        rcases Nat.eq_zero_or_pos (j - ys.length) with h | h
        · exact h
        · rw [List.getElem?_eq_none h] at hj; cases hj
      rw [this] at hj
      simp at hj
      subst hj
      rw [show j = i by omega]
      exact hy
  · intro D C h' g tk m' ys news' j F' N' off' hn hC₀ hD₀ hCL hDL hCD
    obtain ⟨rfl, rfl, hl, hb, hP⟩ := j
    refine ⟨m', hn, fun h'' hs'' => fin D ys h'' tk hl hP off'.one hb (F'.change hs'' hCL hC₀) (fun p hp => ?_)⟩
    refine ⟨hs''.extBut _ _ ?_ (N' p hp).1, (N' p hp).2⟩
    rcases List.mem_cons.mp hp with rfl | hp
    · exact Ne.symm hCD
    · exact (off'.mem p hp).2.1
end
end

section
section
variable {prog : Program} {w : World} {A : Around} {E : Value → Shared → Prop} {s : Shared} {h₀ : Heap} {L a b : Addr} {news : List (Addr × Obj)} {Q : Value → Shared → Prop}
theorem bools_read {h : Heap} : ∀ bs : List Bool, ∃ as, ReadsAll h (bs.map Value.bool) (bs.map PyData.bool) as
  | [] => ⟨_, ReadsAll.nil⟩
  | b :: bs => by
    obtain ⟨as, r⟩ := bools_read bs
    exact ⟨_, ReadsAll.cons (Reads.bool b) r⟩
theorem bools_eqv : ∀ bs : List Bool, PyData.eqvAll (bs.map PyData.bool) (bs.map PyData.bool) = true
  | [] => by simp [PyData.eqvAll]
  | b :: bs => by
    have ih := bools_eqv bs
    cases b <;> simp [PyData.eqvAll, PyData.eqv, ih]
theorem bools_lay : ∀ bs : List Bool, PyData.canLayAll0 (bs.map PyData.bool) = true ∧ PyData.depthAll (bs.map PyData.bool) = 0
  | [] => by simp [PyData.canLayAll0, PyData.depthAll]
  | b :: bs => by
    obtain ⟨h1, h2⟩ := bools_lay bs
    simp [PyData.canLayAll0, PyData.depthAll, PyData.canLay0, PyData.depth, h1, h2]
theorem bools_shaped (bs : List Bool) : SeqAt.shaped (.list (bs.map PyData.bool)) = true := by
  obtain ⟨h1, h2⟩ := bools_lay bs
  unfold SeqAt.shaped
  simp [PyData.canLay0, PyData.depth, h1, h2]
theorem ne_bools {bs cs : List Bool} {oa ob : Obj} {ka kb : Nat} (N : News h₀ L s.heap news) (ma : (a, oa) ∈ news) (mb : (b, ob) ∈ news) (ca : oa.cls = .type "list") (da : oa.data = .seq (bs.map Value.bool).toArray ka) (cb : ob.cls = .type "list") (db : ob.data = .seq (cs.map Value.bool).toArray kb) (e : bs = cs) (hu : A.units + 64 < cLine) (h : Q (.bool false) s) :
    wpAny (model prog w) A (compareOp .NotEq (.ref a) (.ref b)) Q E s := by
  subst e
  obtain ⟨as, ra⟩ := bools_read (h := s.heap) bs
  refine ne_dataH (reads_list_at (N.get ma) ca da (by simpa using ra)) (reads_list_at (N.get mb) cb db (by simpa using ra)) (bools_shaped bs) (bools_shaped bs) hu ?_
  have e : PyData.eqv (.list (bs.map PyData.bool)) (.list (bs.map PyData.bool)) = true := by simp only [PyData.eqv]; exact bools_eqv bs
  rw [e]
  exact h
end
end

section
/-! the law's own data, in plain words -/
def signL : List Nat := [42, 61, 60, 62, 47, 46, 45, 33, 97, 0, 61, 46]
def drawnOf (xs : List Int) : List Int := List.map (fun k' => k'.fmod 36) (List.take 8 xs)
theorem drawn_range {xs : List Int} {k : Int} (h : k ∈ drawnOf xs) : 0 ≤ k ∧ k < 36 := by
  obtain ⟨y, _, rfl⟩ := List.mem_map.mp h
  exact ⟨Int.fmod_nonneg_of_pos _ (by decide), Int.fmod_lt_of_pos _ (by decide)⟩
theorem drawn_len (xs : List Int) : (drawnOf xs).length ≤ 8 := by
  unfold drawnOf
  rw [List.length_map, List.length_take]; omega
def codeAt (k : Int) : Nat := signL.getD (k.fmod 12).toNat 0
def tailT : List Nat := [42, 42, 61, 46, 46, 46, 46, 97]
def textOf (xs : List Int) : List Nat := (drawnOf xs).map codeAt ++ tailT
theorem sign_item (k : Int) : Txt.item (Str.ofString "*=<>/.-!a\x00=.") (k.fmod 12) = ofL [codeAt k] := by
  have h0 := Int.fmod_nonneg_of_pos k (b := 12) (by decide)
  have h1 := Int.fmod_lt_of_pos k (b := 12) (by decide)
  unfold codeAt
  generalize k.fmod 12 = z at h0 h1 ⊢
  have : z = 0 ∨ z = 1 ∨ z = 2 ∨ z = 3 ∨ z = 4 ∨ z = 5 ∨ z = 6 ∨ z = 7 ∨ z = 8 ∨ z = 9 ∨ z = 10 ∨ z = 11 := by omega
  rcases this with rfl | rfl | rfl | rfl | rfl | rfl | rfl | rfl | rfl | rfl | rfl | rfl <;> decide +kernel
theorem fold_ones : ∀ (l : List Nat) (a : Array Nat), (l.map fun c => ofL [c]).foldl (fun acc p => acc ++ (Str.ofString "").cps ++ p.cps) a = a ++ l.toArray
  | [], a => by simp
  | c :: r, a => by
    rw [List.map_cons, List.foldl_cons, fold_ones r]
    show (a ++ #[] ++ #[c]) ++ r.toArray = a ++ (c :: r).toArray
    simp
theorem join_ones (l : List Nat) : Txt.join (Str.ofString "") (l.map fun c => ofL [c]) = ofL l := by
  unfold Txt.join Builtin.Str.glued
  cases l with
  | nil => rfl
  | cons c r =>
    rw [List.map_cons, List.drop_one, List.tail_cons, List.headD_cons, fold_ones]
    simp [ofL]
section
variable {prog : Program} {w : World} {A : Around} {E : Value → Shared → Prop} {s : Shared} {Q : Value → Shared → Prop}
theorem strs_ones {f : Nat → Nat} : ∀ {ys : List Value} {l : List Nat}, ys.length = l.length → (∀ (i : Nat) (y : Value), ys[i]? = some y → ∃ (t : Tok) (c : Nat), l[i]? = some c ∧ y = Value.str (ofL [c]) t) → StrsAre ys (l.map fun c => ofL [c])
  | [], [], _, _ => .nil
  | [], _ :: _, h, _ => by cases h
  | _ :: _, [], h, _ => by cases h
  | y :: ys, c :: l, h, hp => by
    obtain ⟨t, c', e, rfl⟩ := hp 0 y rfl
    simp at e
    subst e
    exact .cons _ _ (strs_ones (f := f) (by simpa using h) fun i y hy => hp (i + 1) y hy)
theorem join_text {D : Addr} {items : Array Value} {l : List Nat} {t : Tok} (hl : s.heap.IsList D items) (hn : items.size = l.length) (hz : l.length ≤ 1000) (hp : ∀ (i : Nat) (y : Value), items.toList[i]? = some y → ∃ (t : Tok) (c : Nat), l[i]? = some c ∧ y = Value.str (ofL [c]) t)
    (h : ∀ t' k, Q (.str (ofL l) t') { s with toks := k }) : wpAny (model prog w) A (call (.builtin "str.join") [.str (Str.ofString "") t, .ref D]) Q E s := by
  refine join_listC hl (strs_ones (f := id) (by simpa using hn) hp) (by decide) ?_ (by rw [join_ones]; exact h)
  have e : ∀ l : List Nat, (List.map (fun x => x.length) (List.map (fun c => ofL [c]) l)).sum = l.length := fun l => by
    induction l with
    | nil => rfl
    | cons c r ih =>
      rw [List.map_cons, List.map_cons, List.sum_cons, ih, List.length_cons]
      show 1 + r.length = r.length + 1
      omega
  rw [e, List.length_map]
  omega
end
theorem add_tail {w : World} {A : Around} {E : Value → Shared → Prop} {s : Shared} {Q : Value → Shared → Prop} {xs : List Int} {t u : Tok} (h : ∀ v k, Q (.str (ofL (textOf xs)) v) { s with toks := k }) :
    wpAny (model PySem.Challenge.rw_ij0098_01.row.prog w) A (binaryOp .Add (.str (ofL ((drawnOf xs).map codeAt)) t) (.str (Str.ofString "**=....a") u)) Q E s := by
  rw [show Str.ofString "**=....a" = ofL tailT from by decide +kernel]
  refine add_ofL ?_ h
  rw [List.length_map]
  have := drawn_len xs
  show _ + 8 ≤ 10000
  omega
theorem text_len (xs : List Int) : 8 ≤ (textOf xs).length ∧ (textOf xs).length ≤ 16 := by
  unfold textOf
  rw [List.length_append, List.length_map]
  have := drawn_len xs
  have e : tailT.length = 8 := rfl
  omega
end

section
section
variable {prog : Program} {w : World} {A : Around} {E : Value → Shared → Prop} {s : Shared} {Q : Value → Shared → Prop} {h₀ : Heap} {L : Addr} {m : Str → Option Value}
def sizesOf (n : Nat) : List Int := (List.range n).map fun (i : Nat) => (i : Int) + 1
theorem ints_get : ∀ {ys : List Value} {l : List Int}, ys.length = l.length → (∀ (i : Nat) (y : Value), ys[i]? = some y → ∃ (t : Tok) (k : Int), l[i]? = some k ∧ y = Value.int k t) → IntsAre ys l
  | [], [], _, _ => .nil
  | [], _ :: _, h, _ => by cases h
  | _ :: _, [], h, _ => by cases h
  | y :: ys, c :: l, h, hp => by
    obtain ⟨t, c', e, rfl⟩ := hp 0 y rfl
    simp at e
    subst e
    exact .cons _ _ (ints_get (by simpa using h) fun i y hy => hp (i + 1) y hy)
theorem list_sizes {r : Addr} {t u v : Tok} {b : Int} {n : Nat} {news : List (Addr × Obj)} (hh : A.handled = none) (F : Fr h₀ L s.heap m) (N : News h₀ L s.heap news) (hr : IsRange s.heap r 1 b 1 t u v) (hb : b = (n : Int) + 1) (hn : n ≤ 1000)
    (h : ∀ (D : Nat) ys c h' tk, (∀ p ∈ news, @LT.lt Nat _ p.1 D) → Fr h₀ L h' m → News h₀ L h' ((D, { cls := .type "list", data := .seq (List.toArray ys) c }) :: news) → IntsAre ys (sizesOf n) → Q (.ref D) { s with heap := h', toks := tk }) :
    wpAny (model prog w) A (call (.type "list") [.ref r]) Q E s := by
  subst hb
  refine call_list_range (n := n) hh hr ?_ ?_ (Nat.le_trans hn (by decide)) fun h' tk acc' c' hk hS' hacc => ?_
  · exact small_one (by decide) (by decide) (by omega) (by omega)
  · rw [rangeSize_nat]; congr 1; omega
  · refine h s.heap.objs.size acc'.toList c' h' tk (fun p hp => Heap.lt_size (N p hp).1) (F.keeps hk) (fun p hp => ?_) (ints_get ?_ fun i y hy => ?_)
    · rcases List.mem_cons.mp hp with rfl | hp
      · exact ⟨by simpa using hS', Nat.ne_of_gt F.ns.lt, next_is_new F⟩
      · exact ⟨hk _ _ (N p hp).1, (N p hp).2⟩
    · rw [Array.length_toList, hacc.1]; simp [sizesOf]
    · have hv : acc'[i]? = some y := by simpa using hy
      obtain ⟨tk', rfl⟩ := hacc.2 i y hv
      have hi : i < n := by
        have := (Array.getElem?_eq_some_iff.mp hv).1
        rw [hacc.1] at this; exact this
      exact ⟨tk', (i : Int) + 1, by simp [sizesOf, hi], by rw [Int.mul_one, Int.add_comm]⟩
end
def countsOf (xs : List Int) : List Int := List.map (fun k' => k'.fdiv 12) (drawnOf xs) ++ [0, 1, 2, 0, 1, 2, 0, 1]
theorem counts_len (xs : List Int) : (countsOf xs).length = (textOf xs).length := by
  unfold countsOf textOf
  rw [List.length_append, List.length_append, List.length_map, List.length_map]; rfl
theorem counts_bound {xs : List Int} : ∀ n ∈ countsOf xs, 0 ≤ n ∧ n ≤ 2 := by
  intro n hn
  rcases List.mem_append.mp hn with h | h
  · obtain ⟨k, hk, rfl⟩ := List.mem_map.mp h
    have hr := drawn_range hk
    have := Int.fdiv_eq_ediv_of_nonneg k (show (0:Int) ≤ 12 by decide)
    rw [this]
    omega
  · simp at h; omega
theorem code_le (k : Int) : codeAt k ≤ 126 := by
  unfold codeAt
  rw [List.getD_eq_getElem?_getD]
  cases e : signL[(k.fmod 12).toNat]? with
  | none => exact Nat.zero_le _
  | some c =>
    have : c ∈ signL := List.mem_of_getElem? e
    revert this
    generalize c = c
    intro h
    simp only [signL, List.mem_cons, List.not_mem_nil, or_false] at h
    show c ≤ 126
    omega
theorem text_le {xs : List Int} : ∀ c ∈ textOf xs, c ≤ 126 := by
  intro c hc
  rcases List.mem_append.mp hc with h | h
  · obtain ⟨k, _, rfl⟩ := List.mem_map.mp h
    exact code_le k
  · simp only [tailT, List.mem_cons, List.not_mem_nil, or_false] at h
    omega
theorem sizes_at {n i : Nat} {k : Int} (h : (sizesOf n)[i]? = some k) : i < n ∧ k = (i : Int) + 1 := by
  unfold sizesOf at h
  rw [List.getElem?_map] at h
  cases e : (List.range n)[i]? with
  | none => rw [e] at h; cases h
  | some j =>
    rw [e] at h
    have hi : i < n := by
      rcases Nat.lt_or_ge i n with h' | h'
      · exact h'
      · rw [List.getElem?_eq_none (by simpa using h')] at e; cases e
    rw [List.getElem?_range hi] at e
    cases e
    exact ⟨hi, (Option.some.inj h).symm⟩

theorem slice_nat (l : List Nat) (i : Nat) : Txt.slice (ofL l) none (some ((i : Int) + 1)) = ofL (l.take (i + 1)) := by
  rw [show ((i : Int) + 1) = ((i + 1 : Nat) : Int) by omega, slice_to, toL_ofL]
theorem slice_len (xs : List Int) (i : Nat) : (Txt.slice (ofL (textOf xs)) none (some ((i : Int) + 1))).length ≤ 16 := by
  rw [slice_nat, ofL_length, List.length_take]
  have := text_len xs
  omega
theorem slice_len2 (xs : List Int) (i : Nat) : (Txt.slice (ofL (textOf xs)) none (some ((i : Int) + 1))).length ≤ (textOf xs).length := by
  rw [slice_nat, ofL_length, List.length_take]
  omega
theorem slice_le (xs : List Int) (i : Nat) : ∀ c ∈ toL (Txt.slice (ofL (textOf xs)) none (some ((i : Int) + 1))), c ≤ 126 := by
  rw [slice_nat, toL_ofL]
  exact fun c hc => text_le c (List.mem_of_mem_take hc)
end

section
def ParMade (w : World) (h₀ hOld h' : Heap) (gens : Array GenState) (L I : Addr) (x : Str) : Prop :=
  ∃ (dx ga Lg : Nat) (nm qn : Value) (gs : GenState) (fo : Obj) (t0 t2 t3 t4 : Tok) (gOld : Array GenState), gens = gOld.push gs ∧ AllBare gens ∧ (@LT.lt Nat _ Lg ga ∧ @LT.lt Nat _ ga dx ∧ @LT.lt Nat _ dx I) ∧ (∀ b, b = I ∨ b = dx ∨ b = ga ∨ b = Lg → hOld.get? b = none) ∧
    News h₀ L h' [(I, islO dx ga 0 1 1 (-1) t0 t2 t3 t4), (dx, dictOf [] 0), (ga, genObj gOld.size nm qn), (Lg, fo)] ∧
    (∀ rev ys, Chain ys (Txt.rstripChars x (Str.ofString "/")) → (∃ pre, rev = ys.reverse ++ pre) → ReadyG PySem.Challenge.rw_ij0098_01.row.prog w h₀ Lg rev ys.length gs fo)
theorem ParMade.keep {w : World} {h₀ hOld h' h'' : Heap} {gens : Array GenState} {L I : Addr} {x : Str} (P : ParMade w h₀ hOld h' gens L I x) (k : ∀ b o, h'.get? b = some o → h''.get? b = some o) : ParMade w h₀ hOld h'' gens L I x := by
  obtain ⟨dx, ga, Lg, nm, qn, gs, fo, t0, t2, t3, t4, gOld, a1, a2, a3, a4, a5, a6⟩ := P
  exact ⟨dx, ga, Lg, nm, qn, gs, fo, t0, t2, t3, t4, gOld, a1, a2, a3, a4, news_keep a5 k, a6⟩
theorem strs_get : ∀ {vs : List Value} {l : List Str}, vs.length = l.length → (∀ (i : Nat) (y : Value), vs[i]? = some y → ∃ (t : Tok) (c : Str), l[i]? = some c ∧ y = Value.str c t) → StrsAre vs l
  | [], [], _, _ => .nil
  | [], _ :: _, h, _ => by cases h
  | _ :: _, [], h, _ => by cases h
  | y :: ys, c :: l, h, hp => by
    obtain ⟨t, c', e, rfl⟩ := hp 0 y rfl
    simp at e
    subst e
    exact .cons _ _ (strs_get (by simpa using h) fun i y hy => hp (i + 1) y hy)
theorem list_par {w : World} {p : Program} {loose : List Str} {mean : ExcName → Option Value} {mg mb : Str → Option Value} {dp un : Nat} {gd : Option (List Code)} {cn : Str} {cs : Scope} {a : Addr} {ccd : Value} {cl : List (Str × Addr)} {h₀ : Heap} {L : Addr} {m : Str → Option Value} {s : Shared} {news : List (Addr × Obj)} {hOld : Heap} {I : Addr} {x : Str} {Q E : Value → Shared → Prop}
    (F : Fr h₀ L s.heap m) (N : News h₀ L s.heap news) (hold : ∀ p ∈ news, hOld.get? p.1 ≠ none) (P : ParMade w h₀ hOld s.heap s.gens L I x) (X : (laid.heap_1 w.params).In h₀) (T : Top p loose mean mg mb h₀) (hk : cs.kind = .function) (hdp : dp ≤ 390) (hun : un ≤ 3990) (ys : List Str) (hc : Chain ys (Txt.rstripChars x (Str.ofString "/"))) (hne : 1 ≤ ys.length) (hlen : ys.length ≤ 1000)
    (ret : ∀ l vs c h' tk' gens', Fr h₀ L h' m → News h₀ L h' ((l, { cls := .type "list", data := .seq vs.toArray c }) :: news) → (∀ p ∈ news, p.1 ≠ l) → StrsAre vs ys.tail → AllBare gens' → Q (.ref l) { heap := h', gens := gens', drawn := s.drawn, toks := tk', os := s.os }) :
    wpAny (model PySem.Challenge.rw_ij0098_01.row.prog w) (ktrTop dp un gd cn cs L a ccd cl []) (call (.type "list") [.ref I]) Q E s := by
  obtain ⟨dx, ga, Lg, nm, qn, gs, fo, t0, t2, t3, t4, gOld, hgens, hbare, ho, hfr, NP, hR⟩ := P
  have hI := Heap.lt_size (NP _ (.head _)).1
  have hLs : L < s.heap.objs.size := F.ns.lt
  have up : ∀ b o, s.heap.get? b = some o → (s.heap.push { cls := .type "list", data := .seq #[] }).get? b = some o := fun b o e => Heap.get?_push_of_some _ e
  refine call_list_own (n := ys.length - 1) (P := fun i v => ∃ y t, ys.reverse[ys.length - 2 - i]? = some y ∧ v = .str y t) (J := ParJ w h₀ L m { s with heap := s.heap.push { cls := .type "list", data := .seq #[] } } I dx ga Lg s.heap.objs.size gOld.size nm qn t3 t4 ys.reverse ys.length) (D := ParD h₀ L m { s with heap := s.heap.push { cls := .type "list", data := .seq #[] } } I Lg s.heap.objs.size gOld.size)
    (par_walk (dp := dp) (un := un + 1 + 1) X T hk (by omega) (by omega) ho hI (Nat.ne_of_gt hLs) (next_is_new F) hne) ?_ ?_ (by rw [sizeLine_eq]; omega)
  · refine ⟨gs, fo, 0, 1, t0, t2, 0, F.keeps up, fun p hp => ⟨up _ _ (NP p hp).1, (NP p hp).2⟩, Heap.get?_push_size _ rfl, ?_, .inl rfl, rfl, rfl, fun b o _ _ _ _ e => e, ?_, ?_⟩
    · show s.gens[gOld.size]? = some gs
      rw [hgens]; exact Array.getElem?_push_size
    · rw [if_pos rfl]; exact hR _ _ hc ⟨[], by simp⟩
    · rw [if_pos rfl]; exact ⟨rfl, rfl⟩
  · rintro ⟨h', gens', dr', tk', os'⟩ acc' ⟨F', ⟨c, hS⟩, hG, hdr, hos, hK⟩ hacc
    dsimp only at hdr hos hS hG hK F'
    subst hdr hos
    have nS : ∀ p ∈ news, p.1 ≠ s.heap.objs.size := fun p hp => Nat.ne_of_lt (Heap.lt_size (N p hp).1)
    refine ret _ acc'.toList c h' tk' gens' F' (fun p hp => ?_) nS (strs_get ?_ fun i y hy => ?_) (hbare.moved (g := gOld.size) hG)
    · rcases List.mem_cons.mp hp with rfl | hp
      · refine ⟨by simpa using hS, Nat.ne_of_gt hLs, next_is_new F⟩
      · refine ⟨hK _ _ (N p hp).2.1 (fun e => hold p hp (e ▸ hfr _ (.inl rfl))) (fun e => hold p hp (e ▸ hfr _ (.inr (.inr (.inr rfl))))) (nS p hp) (up _ _ (N p hp).1), (N p hp).2⟩
    · rw [Array.length_toList, hacc.1, List.length_tail]
    · have hv : acc'[i]? = some y := by simpa using hy
      obtain ⟨z, t, e, rfl⟩ := hacc.2 i y hv
      refine ⟨t, z, ?_, rfl⟩
      have hi : i < ys.length - 1 := by
        have := (Array.getElem?_eq_some_iff.mp hv).1
        rw [hacc.1] at this; exact this
      rw [List.getElem?_reverse (by omega)] at e
      rw [List.getElem?_tail, ← e]
      congr 1
      omega
end

section
/-! the plain law: slices, paths, ends -/
def segs (ns : List Int) : Nat → Nat → List Nat → List (Nat × Int × Nat)
  | 0, _, _ => []
  | f + 1, k, l => if l = [] then [] else ((ns.getD k 0 + (if 0 < k then 1 else 0)).toNat, symL (tok l), k + (tok l).length) :: segs ns f (k + (tok l).length) (l.drop (tok l).length)
def render : List (Nat × Int × Nat) → List Nat
  | [] => []
  | q :: r => (sl q.1 ++ dg q.2.1) ++ render r
theorem render_append : ∀ a b, render (a ++ b) = render a ++ render b
  | [], _ => rfl
  | q :: r, b => by rw [List.cons_append, render, render, render_append r b, ← List.append_assoc]
theorem segs_nil (ns : List Int) : ∀ f k, segs ns f k [] = []
  | 0, _ => rfl
  | _ + 1, _ => by rw [segs, if_pos rfl]
theorem segs_cons (ns : List Int) (f k : Nat) {l : List Nat} (h : l ≠ []) : segs ns (f + 1) k l = ((ns.getD k 0 + (if 0 < k then 1 else 0)).toNat, symL (tok l), k + (tok l).length) :: segs ns f (k + (tok l).length) (l.drop (tok l).length) := by
  rw [segs, if_neg h]
theorem dropk_ne {t : List Nat} {k : Nat} (h : k < t.length) : t.drop k ≠ [] := fun e => by
  have := congrArg List.length e
  rw [List.length_drop, List.length_nil] at this
  omega
theorem pathL_segs (ns : List Int) (t : List Nat) : ∀ f k y, pathL ns t f k y = y ++ render (segs ns f k (t.drop k))
  | 0, k, y => by rw [pathL, segs, render, List.append_nil]
  | f + 1, k, y => by
    rw [pathL]
    by_cases h : k < t.length
    · rw [if_pos h, segs_cons ns f k (dropk_ne h), pathL_segs ns t f, List.drop_drop, render, List.append_assoc]; rfl
    · rw [if_neg h, List.drop_eq_nil_of_le (by omega), segs_nil, render, List.append_nil]
def alph : List Nat := [42, 61, 60, 62, 47, 46, 45, 33, 97, 0]
theorem esz_dot : ∀ a ∈ alph, ∀ b ∈ alph, esz [a, b, 46] = (tok [a, b, 46]).length := by decide +kernel
theorem esz_eq : ∀ a ∈ alph, ∀ b ∈ alph, esz [a, b, 61] = (tok [a, b, 61]).length := by decide +kernel
theorem esz_two : ∀ a ∈ alph, ∀ b ∈ alph, esz [a, b] = (tok [a, b]).length := by decide +kernel
theorem inT_end {a b c : Nat} (h1 : c ≠ 46) (h2 : c ≠ 61) : inT [a, b, c] = false := by
  have all : ∀ q ∈ DT.map (·.1), q.length = 3 → q.getLastD 0 = 46 ∨ q.getLastD 0 = 61 := by decide +kernel
  cases e : inT [a, b, c] with
  | false => rfl
  | true => exact ((all _ (inT_mem e) rfl).elim h1 h2).elim
theorem tok_end {a b c : Nat} (h1 : c ≠ 46) (h2 : c ≠ 61) : (tok [a, b, c]).length = (tok [a, b]).length := by
  have e : inT ([a, b, c].take 3) = false := inT_end h1 h2
  have e1 : tok [a, b, c] = if inT [a, b] = true then [a, b] else [a] := by unfold tok; rw [e]; rfl
  have e2 : tok [a, b] = if inT [a, b] = true then [a, b] else if inT [a, b] = true then [a, b] else [a] := rfl
  rw [e1, e2]
  by_cases h : inT [a, b] = true
  · rw [if_pos h, if_pos h]
  · rw [if_neg h, if_neg h]
theorem esz_end {a b c : Nat} (h1 : c ≠ 46) (h2 : c ≠ 61) : esz [a, b, c] = esz [a, b] := by
  simp [esz, h1, h2]
theorem esz_three (a : Nat) (ha : a ∈ alph) (b : Nat) (hb : b ∈ alph) (c : Nat) : esz [a, b, c] = (tok [a, b, c]).length := by
  by_cases h1 : c = 46
  · subst h1; exact esz_dot a ha b hb
  · by_cases h2 : c = 61
    · subst h2; exact esz_eq a ha b hb
    · rw [esz_end h1 h2, tok_end h1 h2, esz_two a ha b hb]
theorem esz_one : ∀ a ∈ alph, esz [a] = (tok [a]).length := by decide +kernel
theorem esz_tok {l : List Nat} (h : ∀ c ∈ l, c ∈ alph) (hne : l ≠ []) : esz l = (tok l).length := by
  match l, h, hne with
  | [a], h, _ => exact esz_one a (h a (by simp))
  | [a, b], h, _ => exact esz_two a (h a (by simp)) b (h b (by simp))
  | a :: b :: c :: r, h, _ =>
    have e := esz_three a (h a (by simp)) b (h b (by simp)) c
    have e1 : esz (a :: b :: c :: r) = esz [a, b, c] := rfl
    have e2 : tok (a :: b :: c :: r) = tok [a, b, c] := rfl
    rw [e1, e2, e]
theorem endsL_segs (ns : List Int) (t : List Nat) (ha : ∀ c ∈ t, c ∈ alph) : ∀ f k acc, endsL t f k acc = ((segs ns f k (t.drop k)).map (·.2.2)).reverse ++ acc
  | 0, k, acc => by rw [endsL, segs]; rfl
  | f + 1, k, acc => by
    rw [endsL]
    by_cases h : k < t.length
    · rw [if_pos h, segs_cons ns f k (dropk_ne h), endsL_segs ns t ha f, esz_tok (fun c hc => ha c (List.mem_of_mem_drop hc)) (dropk_ne h), List.drop_drop, List.map_cons, List.reverse_cons, List.append_assoc]; rfl
    · rw [if_neg h, List.drop_eq_nil_of_le (by omega), segs_nil]; rfl
theorem tok_pre {l : List Nat} {i : Nat} (hne : l ≠ []) (h : (tok l).length ≤ i) : tok (l.take i) = tok l := by
  have h1 := tok_len hne
  have ht := tok_take l
  rcases (by omega : i = 1 ∨ i = 2 ∨ 3 ≤ i) with rfl | rfl | hi
  · have e : (tok l).length = 1 := by omega
    rw [e] at ht
    rw [ht]
    unfold tok
    simp only [List.take_take, show min 3 1 = 1 by rfl, show min 2 1 = 1 by rfl, Nat.min_self]
    split <;> (try split) <;> rfl
  · unfold tok at h ⊢
    simp only [List.take_take, show min 3 2 = 2 by rfl, show min 1 2 = 1 by rfl, Nat.min_self]
    by_cases h3 : inT (l.take 3) = true
    · rw [if_pos h3] at h ⊢
      rw [List.length_take] at h
      have e : l.take 3 = l.take 2 := by rw [List.take_of_length_le (by omega), List.take_of_length_le (by omega)]
      rw [← e, if_pos h3]
    · rw [if_neg h3]
      by_cases h2 : inT (l.take 2) = true
      · rw [if_pos h2, if_pos h2]
      · rw [if_neg h2, if_neg h2]
  · unfold tok
    simp only [List.take_take, Nat.min_eq_left hi, Nat.min_eq_left (show 2 ≤ i by omega), Nat.min_eq_left (show 1 ≤ i by omega)]
theorem segs_take (ns : List Int) : ∀ f k l j q, (segs ns f k l)[j]? = some q → k < q.2.2 ∧ q.2.2 ≤ k + l.length ∧ segs ns f k (l.take (q.2.2 - k)) = (segs ns f k l).take (j + 1)
  | 0, k, l, j, q, h => by rw [segs] at h; simp at h
  | f + 1, k, l, j, q, h => by
    by_cases hl : l = []
    · subst hl; rw [segs_nil] at h; simp at h
    · have hn := tok_len hl
      rw [segs_cons ns f k hl] at h ⊢
      have hne : ∀ i, (tok l).length ≤ i → l.take i ≠ [] := fun i hi e => by
        have := congrArg List.length e
        rw [List.length_take, List.length_nil] at this
        omega
      cases j with
      | zero =>
        simp at h
        subst h
        refine ⟨by show k < k + _; omega, by show k + _ ≤ _; omega, ?_⟩
        show segs ns (f + 1) k (l.take (k + (tok l).length - k)) = _
        rw [show k + (tok l).length - k = (tok l).length by omega, segs_cons ns f k (hne _ (Nat.le_refl _)), tok_pre hl (Nat.le_refl _), List.drop_take, Nat.sub_self, List.take_zero, segs_nil]
        rfl
      | succ j =>
        rw [List.getElem?_cons_succ] at h
        obtain ⟨a1, a2, a3⟩ := segs_take ns f _ _ j q h
        rw [List.length_drop] at a2
        refine ⟨by omega, by omega, ?_⟩
        rw [segs_cons ns f k (hne _ (by omega)), tok_pre hl (by omega), List.drop_take, show q.2.2 - k - (tok l).length = q.2.2 - (k + (tok l).length) by omega, a3]
        rfl
theorem segs_fuel (ns : List Int) : ∀ f g k l, l.length ≤ f → l.length ≤ g → segs ns f k l = segs ns g k l
  | 0, g, k, l, h, _ => by rw [List.eq_nil_of_length_eq_zero (l := l) (by omega), segs_nil, segs_nil]
  | f + 1, 0, k, l, _, h => by rw [List.eq_nil_of_length_eq_zero (l := l) (by omega), segs_nil, segs_nil]
  | f + 1, g + 1, k, l, h, h' => by
    by_cases hl : l = []
    · subst hl; rw [segs_nil, segs_nil]
    · have hn := tok_len hl
      rw [segs_cons ns f k hl, segs_cons ns g k hl, segs_fuel ns f g _ _ (by rw [List.length_drop]; omega) (by rw [List.length_drop]; omega)]
theorem segs_last (ns : List Int) : ∀ f k l, l ≠ [] → l.length ≤ f → ∃ i q r, segs ns f k l = i ++ [q] ∧ q.2.2 = k + l.length ∧ q.2.1 = symL (tok r) ∧ r ≠ [] ∧ (∃ p, l = p ++ tok r) ∧ tok r = r
  | 0, k, l, h, h' => absurd (List.eq_nil_of_length_eq_zero (by omega)) h
  | f + 1, k, l, hl, h' => by
    have hn := tok_len hl
    rw [segs_cons ns f k hl]
    by_cases hd : l.drop (tok l).length = []
    · have e : (tok l).length = l.length := by
        have := congrArg List.length hd
        rw [List.length_drop, List.length_nil] at this
        omega
      have e2 : tok l = l := by have := tok_take l; rw [e, List.take_length] at this; exact this
      rw [hd, segs_nil]
      exact ⟨[], _, l, rfl, by show k + _ = _; omega, rfl, hl, ⟨[], by rw [e2]; rfl⟩, e2⟩
    · obtain ⟨i, q, r, a1, a2, a3, a4, ⟨p, a5⟩, a6⟩ := segs_last ns f (k + (tok l).length) _ hd (by rw [List.length_drop]; omega)
      rw [List.length_drop] at a2
      refine ⟨_ :: i, q, r, by rw [a1]; rfl, by omega, a3, a4, ⟨l.take (tok l).length ++ p, ?_⟩, a6⟩
      rw [List.append_assoc, ← a5, List.take_append_drop]
end

section
theorem dg_all : ((List.range 400).all fun n => (dg (n : Nat)).all (fun c => Nat.ble 48 c && Nat.ble c 57) && Nat.beq ((dg (n : Nat)).foldl (fun a c => 10 * a + (c - 48)) 0) n && Nat.blt 0 (dg (n : Nat)).length) = true := by decide +kernel
theorem dg_of {n : Int} (h0 : 0 ≤ n) (h1 : n < 400) : (∀ c ∈ dg n, 48 ≤ c ∧ c ≤ 57) ∧ (dg n).foldl (fun a c => 10 * a + (c - 48)) 0 = n.toNat ∧ dg n ≠ [] := by
  have h := List.all_eq_true.mp dg_all n.toNat (List.mem_range.mpr (by omega))
  rw [show ((n.toNat : Nat) : Int) = n by omega] at h
  simp only [Bool.and_eq_true] at h
  refine ⟨fun c hc => ?_, Nat.eq_of_beq_eq_true h.1.2, fun e => ?_⟩
  · have := List.all_eq_true.mp h.1.1 c hc
    simp only [Bool.and_eq_true] at this
    exact ⟨Nat.le_of_ble_eq_true this.1, Nat.le_of_ble_eq_true this.2⟩
  · have := h.2
    rw [e] at this
    cases this
theorem sym_le {l : List Nat} (_hne : l ≠ []) (hb : ∀ c ∈ l, c ≤ 126) : 0 ≤ symL (tok l) ∧ symL (tok l) < 400 := by
  unfold symL
  split
  · have := valT_le (tok l); omega
  · have : (tok l).headD 0 ≤ 126 := by
      cases ht : tok l with
      | nil => show (0:Nat) ≤ 126; omega
      | cons c r => exact hb c (tok_sub (by rw [ht]; simp))
    omega
/-- a row that can be read back -/
def Wf (l : List (Nat × Int × Nat)) : Prop := (∀ q ∈ l, q.1 ≤ 3 ∧ 0 ≤ q.2.1 ∧ q.2.1 < 400) ∧ ∀ q ∈ l.tail, 1 ≤ q.1
theorem segs_sym (ns : List Int) (hns : ∀ n ∈ ns, 0 ≤ n ∧ n ≤ 2) : ∀ f k l, (∀ c ∈ l, c ≤ 126) → ∀ q ∈ segs ns f k l, q.1 ≤ 3 ∧ (0 < k → 1 ≤ q.1) ∧ 0 ≤ q.2.1 ∧ q.2.1 < 400
  | 0, k, l, _, q, h => by rw [segs] at h; cases h
  | f + 1, k, l, hb, q, h => by
    by_cases hl : l = []
    · subst hl; rw [segs_nil] at h; cases h
    · have hn := tok_len hl
      rw [segs_cons ns f k hl] at h
      rcases List.mem_cons.mp h with rfl | h
      · have hs := sym_le hl hb
        have hc := counts_le (k := k) hns
        rw [Int.toNat_natCast] at hc
        refine ⟨?_, fun hk => ?_, hs.1, hs.2⟩
        · show (_ : Int).toNat ≤ 3
          split <;> omega
        · show 1 ≤ (_ : Int).toNat
          rw [if_pos hk]; omega
      · obtain ⟨a, b, c⟩ := segs_sym ns hns f _ _ (fun c hc => hb c (List.mem_of_mem_drop hc)) q h
        exact ⟨a, fun _ => b (by omega), c⟩
theorem segs_wf (ns : List Int) (hns : ∀ n ∈ ns, 0 ≤ n ∧ n ≤ 2) (f : Nat) {l : List Nat} (hb : ∀ c ∈ l, c ≤ 126) : Wf (segs ns f 0 l) := by
  refine ⟨fun q h => ?_, fun q h => ?_⟩
  · obtain ⟨a, _, c⟩ := segs_sym ns hns f 0 l hb q h; exact ⟨a, c⟩
  · cases f with
    | zero => rw [segs] at h; cases h
    | succ f =>
      by_cases hl : l = []
      · subst hl; rw [segs_nil] at h; cases h
      · rw [segs_cons ns f 0 hl] at h
        have hn := tok_len hl
        exact (segs_sym ns hns f _ _ (fun c hc => hb c (List.mem_of_mem_drop hc)) q h).2.1 (by omega)
theorem Wf.take {l : List (Nat × Int × Nat)} (h : Wf l) (j : Nat) : Wf (l.take j) := by
  refine ⟨fun q hq => h.1 q (List.mem_of_mem_take hq), fun q hq => h.2 q ?_⟩
  cases l with
  | nil => simp at hq
  | cons a r =>
    cases j with
    | zero => simp at hq
    | succ j => rw [List.take_succ_cons, List.tail_cons] at hq; exact List.mem_of_mem_take hq
theorem segs_length (ns : List Int) : ∀ f k l, (segs ns f k l).length ≤ f
  | 0, _, _ => by rw [segs]; exact Nat.le_refl _
  | f + 1, k, l => by
    rw [segs]
    split
    · exact Nat.zero_le _
    · rw [List.length_cons]; have := segs_length ns f (k + (tok l).length) (l.drop (tok l).length); omega
theorem render_len : ∀ l : List (Nat × Int × Nat), (∀ q ∈ l, q.1 ≤ 3 ∧ 0 ≤ q.2.1 ∧ q.2.1 < 400) → (render l).length ≤ 7 * l.length
  | [], _ => Nat.le_refl _
  | q :: r, h => by
    have ih := render_len r fun q hq => h q (.tail _ hq)
    obtain ⟨a, b, c⟩ := h q (.head _)
    have := dg_len b (by omega)
    rw [render, List.length_append, List.length_append, List.length_cons]
    unfold sl
    rw [List.length_replicate]
    omega
/-! slashes at the end -/
theorem rs_none {l : List Nat} (h : ∀ c, l.getLast? = some c → c ≠ 47) : rs l = l := by
  unfold rs
  cases e : l.reverse with
  | nil => rw [List.reverse_eq_nil_iff] at e; subst e; rfl
  | cons c r =>
    have hl : l = r.reverse ++ [c] := by rw [← List.reverse_reverse l, e, List.reverse_cons]
    have hc : c ≠ 47 := h c (by rw [hl]; simp)
    rw [List.dropWhile_cons, if_neg (by simpa using hc), ← e, List.reverse_reverse]
theorem rs_sl {l : List Nat} (k : Nat) : rs (l ++ sl k) = rs l := by
  unfold rs sl
  rw [List.reverse_append, List.reverse_replicate]
  congr 1
  induction k with
  | zero => rfl
  | succ k ih => rw [List.replicate_succ, List.cons_append, List.dropWhile_cons, if_pos (by rfl), ih]
theorem rs_only (k : Nat) : rs (sl k) = [] := by
  have := rs_sl (l := []) k
  rw [List.nil_append] at this
  rw [this]; rfl
/-- ends in a figure -/
theorem render_last {l : List (Nat × Int × Nat)} {q : Nat × Int × Nat} (h0 : 0 ≤ q.2.1) (h1 : q.2.1 < 400) : ∀ c, (render (l ++ [q])).getLast? = some c → c ≠ 47 := by
  intro c hc
  obtain ⟨a, _, ne⟩ := dg_of h0 h1
  rw [render_append] at hc
  have e : render [q] = sl q.1 ++ dg q.2.1 := by rw [render, render, List.append_nil]
  rw [e, ← List.append_assoc, List.getLast?_append] at hc
  cases e2 : (dg q.2.1).getLast? with
  | none => rw [List.getLast?_eq_none_iff] at e2; exact absurd e2 ne
  | some d =>
    rw [e2] at hc
    have : d = c := by simpa using hc
    subst this
    have := a d (List.mem_of_getLast? e2)
    omega
/-! the last slash -/
def lastBody (s sub : Str) (hi i : Nat) (st : Option Nat) : Id (ForInStep (Option Nat)) :=
  if i + sub.length ≤ hi ∧ Builtin.Str.subAt s sub i = true then pure (ForInStep.yield (some i)) else pure (ForInStep.yield st)
theorem last_eq (s sub : Str) (lo hi : Nat) : Builtin.Str.lastOccurrence s sub lo hi = (forIn (List.range' lo (hi + 1 - lo)) none (lastBody s sub hi)).run := by
  unfold Builtin.Str.lastOccurrence lastBody
  simp
theorem last_fails (s sub : Str) (hi : Nat) : ∀ (l : List Nat) (st : Option Nat), (∀ i ∈ l, ¬ (i + sub.length ≤ hi ∧ Builtin.Str.subAt s sub i = true)) → (forIn l st (lastBody s sub hi)).run = st
  | [], st, _ => rfl
  | a :: l, st, h => by
    rw [List.forIn_cons]
    unfold lastBody
    rw [if_neg (h a (.head _))]
    exact last_fails s sub hi l st fun i hi' => h i (.tail _ hi')
theorem last_hits (s sub : Str) (hi i : Nat) (l₂ : List Nat) (h2 : ∀ j ∈ l₂, ¬ (j + sub.length ≤ hi ∧ Builtin.Str.subAt s sub j = true)) (h1 : i + sub.length ≤ hi ∧ Builtin.Str.subAt s sub i = true) : ∀ (l₁ : List Nat) (st : Option Nat), (forIn (l₁ ++ i :: l₂) st (lastBody s sub hi)).run = some i
  | [], st => by
    rw [List.nil_append, List.forIn_cons]
    unfold lastBody
    rw [if_pos h1]
    exact last_fails s sub hi l₂ _ h2
  | a :: l, st => by
    rw [List.cons_append, List.forIn_cons]
    unfold lastBody
    split
    · exact last_hits s sub hi i l₂ h2 h1 l _
    · exact last_hits s sub hi i l₂ h2 h1 l _
theorem at_slash (l : List Nat) (i : Nat) : (i + (Str.ofString "/").length ≤ (ofL l).length ∧ Builtin.Str.subAt (ofL l) (Str.ofString "/") i = true) ↔ l[i]? = some 47 := by
  have e : Str.ofString "/" = (⟨#[47]⟩ : Str) := slash_is
  rw [e, StrLaws.subAt_one (ofL l) 47 i]
  show (toL (ofL l))[i]? = some 47 ↔ _
  rw [toL_ofL]
theorem rfind_none {l : List Nat} (h : 47 ∉ l) : Txt.rfind (ofL l) (Str.ofString "/") = -1 := by
  unfold Txt.rfind
  rw [last_eq, last_fails]
  intro i _ hc
  exact h (List.mem_of_getElem? ((at_slash l i).mp hc))
theorem rfind_at {a d : List Nat} (h : 47 ∉ d) : Txt.rfind (ofL (a ++ 47 :: d)) (Str.ofString "/") = (a.length : Nat) := by
  unfold Txt.rfind
  have e : List.range' 0 ((ofL (a ++ 47 :: d)).length + 1 - 0) = List.range' 0 a.length ++ a.length :: List.range' (a.length + 1) (d.length + 1) := by
    rw [ofL_length, List.length_append, List.length_cons, show a.length + (d.length + 1) + 1 - 0 = a.length + (d.length + 1 + 1) by omega, ← List.range'_append_1, Nat.zero_add, List.range'_succ]
  rw [last_eq, e, last_hits]
  · intro j hj hc
    have := (at_slash _ j).mp hc
    rw [List.mem_range'_1] at hj
    rw [List.getElem?_append_right (by omega), show j - a.length = (j - a.length - 1) + 1 by omega, List.getElem?_cons_succ] at this
    exact h (List.mem_of_getElem? this)
  · exact (at_slash _ _).mpr (by rw [List.getElem?_append_right (Nat.le_refl _), Nat.sub_self]; rfl)
theorem hdC_none {l : List Nat} (h : 47 ∉ l) : hdC (ofL l) = ofL [] := by
  show Txt.slice (ofL l) none (some (Txt.rfind (ofL l) (Str.ofString "/") + 1)) = _
  rw [rfind_none h, show (-1 + 1 : Int) = ((0 : Nat) : Int) by rfl, slice_to]
  rfl
theorem hdC_at {a d : List Nat} (h : 47 ∉ d) : hdC (ofL (a ++ 47 :: d)) = ofL (a ++ [47]) := by
  show Txt.slice (ofL (a ++ 47 :: d)) none (some (Txt.rfind (ofL (a ++ 47 :: d)) (Str.ofString "/") + 1)) = _
  rw [rfind_at h, show ((a.length : Nat) : Int) + 1 = ((a.length + 1 : Nat) : Int) by omega, slice_to, toL_ofL]
  congr 1
  rw [List.take_append, List.take_of_length_le (by omega), show a.length + 1 - a.length = 1 by omega]
  rfl
theorem sl_succ (k : Nat) : sl (k + 1) = sl k ++ [47] := by
  unfold sl; rw [List.replicate_succ']
theorem hdS_first {k : Nat} {d : List Nat} (h : 47 ∉ d) : hdS (ofL (sl k ++ d)) = ofL (sl k) := by
  have e : hdC (ofL (sl k ++ d)) = ofL (sl k) := by
    cases k with
    | zero => exact hdC_none h
    | succ k => rw [sl_succ, List.append_assoc]; exact hdC_at h
  unfold hdS
  rw [e]
  split
  · rfl
  · rw [mul_slash (by omega), Int.toNat_natCast, ofL_length]
    have : (sl k).length = k := by unfold sl; rw [List.length_replicate]
    rw [this]
    simp
theorem hdS_next {a d : List Nat} {k : Nat} (h : 47 ∉ d) (ha : ∃ c ∈ a, c ≠ 47) : hdS (ofL (a ++ (sl (k + 1) ++ d))) = ofL (rs a) := by
  have e : hdC (ofL (a ++ (sl (k + 1) ++ d))) = ofL (a ++ sl (k + 1)) := by
    have e1 : a ++ (sl (k + 1) ++ d) = (a ++ sl k) ++ 47 :: d := by rw [sl_succ]; simp
    have e2 : a ++ sl (k + 1) = (a ++ sl k) ++ [47] := by rw [sl_succ]; simp
    rw [e1, e2]
    exact hdC_at h
  unfold hdS
  rw [e]
  obtain ⟨c, hc, hne⟩ := ha
  have hlen : 0 < a.length := List.length_pos_of_mem hc
  rw [if_neg (by rw [ofL_length, List.length_append]; omega), mul_slash (by omega), Int.toNat_natCast, ofL_length]
  have n : (ofL (a ++ sl (k + 1)) != ofL (sl (a ++ sl (k + 1)).length)) = true := by
    rw [bne_iff_ne]
    intro q
    have q' := ofL_inj q
    have : c ∈ sl (a ++ sl (k + 1)).length := q' ▸ List.mem_append_left _ hc
    exact hne (List.eq_of_mem_replicate this)
  rw [n, if_pos rfl, rstrip_slash, toL_ofL, rs_sl]
theorem no47 {n : Int} (h0 : 0 ≤ n) (h1 : n < 400) : 47 ∉ dg n := fun h => by
  have := (dg_of h0 h1).1 47 h
  omega
/-! the ancestors of a row -/
def ups (S : List (Nat × Int × Nat)) : List Str := ((List.range S.length).map fun j => ofL (render (S.take (j + 1)))).reverse
theorem ups_snoc (S : List (Nat × Int × Nat)) (q : Nat × Int × Nat) : ups (S ++ [q]) = ofL (render (S ++ [q])) :: ups S := by
  have e : (List.range S.length).map (fun j => ofL (render ((S ++ [q]).take (j + 1)))) = (List.range S.length).map fun j => ofL (render (S.take (j + 1))) :=
    List.map_congr_left fun j hj => by
      rw [List.mem_range] at hj
      rw [List.take_append_of_le_length (by omega)]
  unfold ups
  rw [List.length_append, List.length_singleton, List.range_succ, List.map_append, List.reverse_append, e]
  show ofL (render ((S ++ [q]).take (S.length + 1))) :: _ = _
  rw [List.take_of_length_le (by rw [List.length_append, List.length_singleton]; exact Nat.le_refl _)]
  rfl
theorem chain_ups : ∀ (n : Nat) (S : List (Nat × Int × Nat)), S.length = n → n ≤ 140 → Wf S → S ≠ [] → Chain (ups S) (ofL (render S)) := by
  intro n
  induction n with
  | zero => intro S h _ _ hne; exact absurd (List.eq_nil_of_length_eq_zero h) hne
  | succ n ih =>
    intro S hlen hn hw hne
    obtain ⟨S', q, rfl⟩ : ∃ S' q, S = S' ++ [q] := ⟨S.dropLast, S.getLast hne, (List.dropLast_concat_getLast hne).symm⟩
    rw [List.length_append, List.length_singleton] at hlen
    have hq := hw.1 q (by simp)
    have hd := dg_of hq.2.1 hq.2.2
    have hlast := render_last (l := S') hq.2.1 hq.2.2
    have hrl := render_len _ hw.1
    rw [List.length_append, List.length_singleton] at hrl
    have e1 : render (S' ++ [q]) = render S' ++ (sl q.1 ++ dg q.2.1) := by rw [render_append]; simp [render]
    have hrs : Txt.rstripChars (ofL (render (S' ++ [q]))) (Str.ofString "/") = ofL (render (S' ++ [q])) := by
      rw [rstrip_slash, toL_ofL, rs_none hlast]
    rw [ups_snoc]
    refine ⟨rfl, by rw [ofL_length]; omega, ?_, ?_⟩
    · rw [hrs, ofL_length, e1, List.length_append, List.length_append]
      have := List.length_pos_iff.mpr hd.2.2
      omega
    · rw [e1]
      by_cases hS : S' = []
      · subst hS
        show Chain [] (hdS (ofL (sl q.1 ++ dg q.2.1)))
        rw [hdS_first (no47 hq.2.1 hq.2.2)]
        refine ⟨?_, ?_⟩
        · rw [ofL_length]; unfold sl; rw [List.length_replicate]; omega
        · rw [rstrip_slash, toL_ofL, rs_only]; rfl
      · have hq1 : 1 ≤ q.1 := hw.2 q (by
          cases S' with
          | nil => exact absurd rfl hS
          | cons a r => simp)
        obtain ⟨k, hk⟩ : ∃ k, q.1 = k + 1 := ⟨q.1 - 1, by omega⟩
        obtain ⟨S2, q2, rfl⟩ : ∃ S2 q2, S' = S2 ++ [q2] := ⟨S'.dropLast, S'.getLast hS, (List.dropLast_concat_getLast hS).symm⟩
        have hq2 := hw.1 q2 (by simp)
        have hd2 := dg_of hq2.2.1 hq2.2.2
        have hw' : Wf (S2 ++ [q2]) := by
          have := hw.take (S2 ++ [q2]).length
          rw [List.take_left] at this
          exact this
        rw [hk, hdS_next (no47 hq.2.1 hq.2.2), rs_none (render_last hq2.2.1 hq2.2.2)]
        · exact ih _ (by omega) (by omega) hw' (by simp)
        · rw [render_append]
          obtain ⟨c, hc⟩ := List.exists_mem_of_ne_nil _ hd2.2.2
          refine ⟨c, List.mem_append_right _ ?_, fun e => by have := hd2.1 c hc; omega⟩
          simp [render, hc]
end

section
/-! the law's own text -/
def pathAt (xs : List Int) (n : Nat) : List Nat := pathOf (countsOf xs) ((textOf xs).take n)
def endsAt (xs : List Int) (n : Nat) : List Nat := endsOf ((textOf xs).take n)
def segAt (xs : List Int) (n : Nat) : List (Nat × Int × Nat) := segs (countsOf xs) (textOf xs).length 0 ((textOf xs).take n)
theorem code_alph (k : Int) : codeAt k ∈ alph := by
  unfold codeAt
  rw [List.getD_eq_getElem?_getD]
  cases e : signL[(k.fmod 12).toNat]? with
  | none => exact by decide
  | some c =>
    have all : ∀ c ∈ signL, c ∈ alph := by decide
    exact all c (List.mem_of_getElem? e)
theorem text_alph {xs : List Int} : ∀ c ∈ textOf xs, c ∈ alph := by
  intro c hc
  rcases List.mem_append.mp hc with h | h
  · obtain ⟨k, _, rfl⟩ := List.mem_map.mp h
    exact code_alph k
  · have all : ∀ c ∈ tailT, c ∈ alph := by decide
    exact all c h
theorem take_len (xs : List Int) (n : Nat) : ((textOf xs).take n).length ≤ (textOf xs).length := by rw [List.length_take]; omega
theorem pathAt_seg (xs : List Int) (n : Nat) : pathAt xs n = render (segAt xs n) := by
  unfold pathAt pathOf segAt
  rw [pathL_segs, List.nil_append, List.drop_zero, segs_fuel _ _ (textOf xs).length _ _ (Nat.le_refl _) (take_len xs n)]
theorem endsAt_seg (xs : List Int) (n : Nat) : endsAt xs n = ((segAt xs n).map (·.2.2)).reverse := by
  unfold endsAt endsOf segAt
  rw [endsL_segs (countsOf xs) _ (fun c hc => text_alph c (List.mem_of_mem_take hc)), List.append_nil, List.drop_zero, segs_fuel _ _ (textOf xs).length _ _ (Nat.le_refl _) (take_len xs n)]
theorem segAt_wf (xs : List Int) (n : Nat) : Wf (segAt xs n) := segs_wf _ counts_bound _ fun c hc => text_le c (List.mem_of_mem_take hc)
theorem segAt_pre {xs : List Int} {n j : Nat} {q : Nat × Int × Nat} (h : (segAt xs n)[j]? = some q) : 1 ≤ q.2.2 ∧ q.2.2 ≤ n ∧ segAt xs q.2.2 = (segAt xs n).take (j + 1) := by
  obtain ⟨a, b, c⟩ := segs_take (countsOf xs) _ 0 _ j q h
  rw [List.length_take] at b
  refine ⟨by omega, by omega, ?_⟩
  unfold segAt
  rw [← c, Nat.sub_zero, List.take_take, Nat.min_eq_left (by omega)]
theorem ends_mem {xs : List Int} {n j : Nat} (h : j ∈ endsAt xs n) : 1 ≤ j ∧ j ≤ n := by
  rw [endsAt_seg, List.mem_reverse] at h
  obtain ⟨q, hq, rfl⟩ := List.mem_map.mp h
  obtain ⟨i, hi⟩ := List.getElem?_of_mem hq
  have := segAt_pre hi
  exact ⟨this.1, this.2.1⟩
theorem paths_ups (xs : List Int) (n : Nat) : (endsAt xs n).map (fun j => ofL (pathAt xs j)) = ups (segAt xs n) := by
  unfold ups
  rw [endsAt_seg, List.map_reverse, List.map_map]
  congr 1
  refine List.ext_getElem? fun j => ?_
  rw [List.getElem?_map, List.getElem?_map]
  cases e : (segAt xs n)[j]? with
  | none =>
    have := List.getElem?_eq_none_iff.mp e
    rw [List.getElem?_eq_none (by rw [List.length_range]; exact this)]
    rfl
  | some q =>
    have hj := (List.getElem?_eq_some_iff.mp e).1
    rw [List.getElem?_range hj]
    show some (ofL (pathAt xs q.2.2)) = some (ofL (render ((segAt xs n).take (j + 1))))
    rw [pathAt_seg, (segAt_pre e).2.2]
theorem segAt_len (xs : List Int) (n : Nat) : (segAt xs n).length ≤ 16 := Nat.le_trans (segs_length _ _ _ _) (text_len xs).2
theorem path_len (xs : List Int) (n : Nat) : (pathAt xs n).length ≤ 200 := by
  rw [pathAt_seg]
  have := render_len _ (segAt_wf xs n).1
  have := segAt_len xs n
  omega
theorem seg_last {xs : List Int} {n : Nat} (h1 : 1 ≤ n) (h2 : n ≤ (textOf xs).length) : ∃ i q r, segAt xs n = i ++ [q] ∧ q.2.2 = n ∧ q.2.1 = symL (tok r) ∧ r ≠ [] ∧ (∃ p, (textOf xs).take n = p ++ tok r) ∧ tok r = r := by
  have hl : ((textOf xs).take n).length = n := by rw [List.length_take]; omega
  have hne : (textOf xs).take n ≠ [] := fun e => by rw [e, List.length_nil] at hl; omega
  obtain ⟨i, q, r, a, b, c⟩ := segs_last (countsOf xs) (textOf xs).length 0 _ hne (take_len xs n)
  exact ⟨i, q, r, a, by rw [b, hl]; omega, c⟩
theorem ends_head {xs : List Int} {n : Nat} (h1 : 1 ≤ n) (h2 : n ≤ (textOf xs).length) : ∃ r, endsAt xs n = n :: r := by
  obtain ⟨i, q, r, a, b, _⟩ := seg_last h1 h2
  refine ⟨(i.map (·.2.2)).reverse, ?_⟩
  rw [endsAt_seg, a, List.map_append, List.reverse_append, List.map_singleton, b]
  rfl
theorem chain_at {xs : List Int} {n : Nat} (h1 : 1 ≤ n) (h2 : n ≤ (textOf xs).length) (k : Nat) : Chain ((endsAt xs n).map fun j => ofL (pathAt xs j)) (Txt.rstripChars (ofL (pathAt xs n ++ sl k)) (Str.ofString "/")) := by
  obtain ⟨i, q, r, a, b, _⟩ := seg_last h1 h2
  have hw := segAt_wf xs n
  have hq := hw.1 q (by rw [a]; simp)
  have e : rs (pathAt xs n) = pathAt xs n := by
    rw [pathAt_seg, a]; exact rs_none (render_last hq.2.1 hq.2.2)
  rw [rstrip_slash, toL_ofL, rs_sl, e, paths_ups, pathAt_seg]
  exact chain_ups _ _ rfl (Nat.le_trans (segAt_len xs n) (by decide)) hw (by rw [a]; simp)
/-! a path tells its beginning -/
def tl (s : Int) : Nat := if s < 256 then ((DT.find? fun p => p.2 == s).map fun p => p.1.length).getD 0 else 1
theorem tl_DT : ∀ p ∈ DT, tl p.2 = p.1.length := by decide +kernel
theorem tl_tok {l : List Nat} (h : l ≠ []) : tl (symL (tok l)) = (tok l).length := by
  unfold symL
  by_cases hq : inT (tok l) = true
  · rw [if_pos hq]
    unfold valT
    cases e : DT.lookup (tok l) with
    | none => unfold inT at hq; rw [e] at hq; cases hq
    | some v =>
      obtain ⟨l₁, l₂, hl, _⟩ := List.lookup_eq_some_iff.mp e
      exact tl_DT (tok l, v) (by rw [hl]; simp)
  · rw [if_neg hq, tok_one h (by simpa using hq)]
    unfold tl
    rw [if_neg (by omega)]
theorem segs_tot (ns : List Int) : ∀ f k l, l.length ≤ f → ((segs ns f k l).map fun q => tl q.2.1).sum = l.length
  | 0, k, l, h => by rw [segs]; simp; omega
  | f + 1, k, l, h => by
    by_cases hl : l = []
    · subst hl; rw [segs_nil]; rfl
    · have hn := tok_len hl
      rw [segs_cons ns f k hl, List.map_cons, List.sum_cons, segs_tot ns f _ _ (by rw [List.length_drop]; omega), List.length_drop]
      show tl (symL (tok l)) + _ = _
      rw [tl_tok hl]
      omega
theorem drop_sl {a : Nat} {x : List Nat} (h : ∀ c, x.head? = some c → c ≠ 47) : (sl a ++ x).dropWhile (· == 47) = x := by
  induction a with
  | zero =>
    show x.dropWhile _ = x
    cases x with
    | nil => rfl
    | cons c r => rw [List.dropWhile_cons, if_neg (by simpa using h c rfl)]
  | succ a ih =>
    show ((47 : Nat) :: (sl a ++ x)).dropWhile _ = x
    rw [List.dropWhile_cons, if_pos (by rfl), ih]
theorem take_fig {d x : List Nat} (hd : 47 ∉ d) (h : ∀ c, x.head? = some c → c = 47) : (d ++ x).takeWhile (· != 47) = d := by
  induction d with
  | nil =>
    cases x with
    | nil => rfl
    | cons c r => rw [List.nil_append, List.takeWhile_cons, if_neg (by simpa using h c rfl)]
  | cons c r ih =>
    rw [List.cons_append, List.takeWhile_cons, if_pos (by simp; exact fun e => hd (e ▸ .head _)), ih fun q => hd (.tail _ q)]
theorem head_digits {n : Int} (h0 : 0 ≤ n) (h1 : n < 400) (x : List Nat) : ∀ c, (dg n ++ x).head? = some c → c ≠ 47 := by
  intro c hc
  obtain ⟨a, _, ne⟩ := dg_of h0 h1
  cases e : dg n with
  | nil => exact absurd e ne
  | cons d r =>
    rw [e] at hc
    have : d = c := by simpa using hc
    subst this
    have := a d (by rw [e]; exact .head _)
    omega
theorem head_render {l : List (Nat × Int × Nat)} (h : ∀ q ∈ l, 1 ≤ q.1) : ∀ c, (render l).head? = some c → c = 47 := by
  intro c hc
  cases l with
  | nil => cases hc
  | cons q r =>
    obtain ⟨k, hk⟩ : ∃ k, q.1 = k + 1 := ⟨q.1 - 1, by have := h q (.head _); omega⟩
    rw [render, hk] at hc
    have : 47 = c := by simpa [sl, List.replicate_succ] using hc
    exact this.symm
theorem render_inj : ∀ (S S' : List (Nat × Int × Nat)), Wf S → Wf S' → render S = render S' → S.map (·.2.1) = S'.map (·.2.1)
  | [], [], _, _, _ => rfl
  | [], q :: r, _, h, e => by
    have hq := h.1 q (.head _)
    have ne := (dg_of hq.2.1 hq.2.2).2.2
    rw [render, render] at e
    have := congrArg List.length e
    rw [List.length_append, List.length_append, List.length_nil] at this
    have := List.length_pos_iff.mpr ne
    omega
  | q :: r, [], h, _, e => by
    have hq := h.1 q (.head _)
    have ne := (dg_of hq.2.1 hq.2.2).2.2
    rw [render, render] at e
    have := congrArg List.length e
    rw [List.length_append, List.length_append, List.length_nil] at this
    have := List.length_pos_iff.mpr ne
    omega
  | q :: r, q' :: r', h, h', e => by
    have hq := h.1 q (.head _)
    have hq' := h'.1 q' (.head _)
    have d := dg_of hq.2.1 hq.2.2
    have d' := dg_of hq'.2.1 hq'.2.2
    rw [render, render, List.append_assoc, List.append_assoc] at e
    have e2 := congrArg (List.dropWhile (· == 47)) e
    rw [drop_sl (head_digits hq.2.1 hq.2.2 _), drop_sl (head_digits hq'.2.1 hq'.2.2 _)] at e2
    have e3 := congrArg (List.takeWhile (· != 47)) e2
    rw [take_fig (no47 hq.2.1 hq.2.2) (head_render (l := r) h.2), take_fig (no47 hq'.2.1 hq'.2.2) (head_render (l := r') h'.2)] at e3
    rw [e3] at e2
    have e4 := List.append_cancel_left e2
    have e5 : q.2.1 = q'.2.1 := by
      have := d.2.1
      rw [e3, d'.2.1] at this
      omega
    have w : Wf r := ⟨fun x hx => h.1 x (.tail _ hx), fun x hx => h.2 x (List.mem_of_mem_tail hx)⟩
    have w' : Wf r' := ⟨fun x hx => h'.1 x (.tail _ hx), fun x hx => h'.2 x (List.mem_of_mem_tail hx)⟩
    rw [List.map_cons, List.map_cons, e5, render_inj r r' w w' e4]
theorem path_inj {xs : List Int} {m n : Nat} (hm : m ≤ (textOf xs).length) (hn : n ≤ (textOf xs).length) (e : pathAt xs m = pathAt xs n) : m = n := by
  rw [pathAt_seg, pathAt_seg] at e
  have h := render_inj _ _ (segAt_wf xs m) (segAt_wf xs n) e
  have h1 := segs_tot (countsOf xs) (textOf xs).length 0 ((textOf xs).take m) (take_len xs m)
  have h2 := segs_tot (countsOf xs) (textOf xs).length 0 ((textOf xs).take n) (take_len xs n)
  have e1 : ∀ S : List (Nat × Int × Nat), (S.map fun q => tl q.2.1) = (S.map (·.2.1)).map tl := fun S => by rw [List.map_map]; rfl
  rw [e1] at h1 h2
  unfold segAt at h
  rw [h, h2, List.length_take, List.length_take] at h1
  omega
end

section
def pathsOf (xs : List Int) : List Str := (List.range (textOf xs).length).map fun i => ofL (pathAt xs (i + 1))
theorem pathsOf_len (xs : List Int) : (pathsOf xs).length = (textOf xs).length := by unfold pathsOf; rw [List.length_map, List.length_range]
theorem pathsOf_get {xs : List Int} {i : Nat} (h : i < (textOf xs).length) : (pathsOf xs)[i]? = some (ofL (pathAt xs (i + 1))) := by
  unfold pathsOf
  rw [List.getElem?_map, List.getElem?_range h]; rfl
theorem paths_are {xs : List Int} {ys : List Value} (hl : ys.length = (sizesOf (textOf xs).length).length) (hP : ∀ (i : Nat) (y : Value), ys[i]? = some y → ∃ t, y = .str (ofL (pathOf (countsOf xs) ((textOf xs).take (i + 1)))) t) : StrsAre ys (pathsOf xs) := by
  have hl' : ys.length = (textOf xs).length := by rw [hl]; unfold sizesOf; rw [List.length_map, List.length_range]
  refine strs_get (by rw [hl', pathsOf_len]) fun i y hy => ?_
  obtain ⟨t, e⟩ := hP i y hy
  have hi := (List.getElem?_eq_some_iff.mp hy).1
  exact ⟨t, _, pathsOf_get (by omega), e⟩
section
variable {prog : Program} {w : World} {A : Around} {E : Value → Shared → Prop} {s : Shared}
theorem item_path {value slice : Expr} {l : Addr} {vs : List Value} {k : Int} {u : Tok} {Q : Value → Shared → Prop} {xs : List Int} (hl : s.heap.IsList l vs.toArray) (hi : StrsAre vs (pathsOf xs)) (n : Nat) (hk : k = (n : Int) - 1) (h1 : 1 ≤ n) (h2 : n ≤ (textOf xs).length)
    (h : ∀ t, Q (.str (ofL (pathAt xs n)) t) s)
    (hs : subscripted slice false (.ref l) (.int k u) = operate [.ref l, .int k u] (getItem (.ref l) (.int k u)) := by with_unfolding_all rfl) :
    wpAny (model prog w) A (subscriptTail value slice (.ref l) (.int k u)) Q E s := by
  have := (text_len xs).2
  refine KTb.item_list hl hi (by omega) (by rw [pathsOf_len]; omega) (by omega) (fun t _ => ?_) hs
  rw [List.getD_eq_getElem?_getD, pathsOf_get (by omega), show k.toNat + 1 = n by omega]
  exact h t
end
def aboveOf (xs : List Int) (n : Nat) : List Str := ((endsAt xs n).map fun j => ofL (pathAt xs j)).tail
def AboveO (xs : List Int) (i : Nat) (o : Obj) : Prop := ∃ (vs : List Value) (c : Nat), o = { cls := .type "list", data := .seq vs.toArray c } ∧ StrsAre vs (aboveOf xs (i + 1))
theorem fmod3 (n : Nat) : 0 ≤ ((n : Int) + 1).fmod 3 ∧ ((n : Int) + 1).fmod 3 ≤ 3 := by
  have h0 := Int.fmod_nonneg_of_pos ((n : Int) + 1) (b := 3) (by decide)
  have h1 := Int.fmod_lt_of_pos ((n : Int) + 1) (b := 3) (by decide)
  omega
theorem par_made {w : World} {h₀ hOld h' : Heap} {g : Array GenState} {L : Addr} {x : Str} {I dx ga Lg D : Nat} {nm qn : Value} {gs : GenState} {fo o : Obj} {t0 t2 t3 t4 : Tok} (hb : AllBare g) (hbare : gs.bare = true) (ho : Lg < ga ∧ ga < dx ∧ dx < I ∧ I < D) (hfr : ∀ b, b = I ∨ b = dx ∨ b = ga ∨ b = Lg → hOld.get? b = none)
    (N : News h₀ L h' [(D, o), (I, islO dx ga 0 1 1 (-1) t0 t2 t3 t4), (dx, dictOf [] 0), (ga, genObj g.size nm qn), (Lg, fo)])
    (hR : ∀ rev ys, Chain ys (Txt.rstripChars x (Str.ofString "/")) → (∃ pre, rev = ys.reverse ++ pre) → ReadyG PySem.Challenge.rw_ij0098_01.row.prog w h₀ Lg rev ys.length gs fo) : ParMade w h₀ hOld h' (g.push gs) L I x :=
  ⟨dx, ga, Lg, nm, qn, gs, fo, t0, t2, t3, t4, g, rfl, hb.push hbare, ⟨ho.1, ho.2.1, ho.2.2.1⟩, hfr, fun p hp => N p (.tail _ hp), hR⟩
theorem held {g h : Heap} {L : Addr} {news : List (Addr × Obj)} (N : News g L h news) : ∀ p ∈ news, h.get? p.1 ≠ none := fun p hp e => by
  rw [(N p hp).1] at e; cases e
theorem ends_len {xs : List Int} {n : Nat} {f : Nat → Str} (h1 : 1 ≤ n) (h2 : n ≤ (textOf xs).length) : 1 ≤ ((endsAt xs n).map f).length ∧ ((endsAt xs n).map f).length ≤ 1000 := by
  rw [List.length_map]
  constructor
  · obtain ⟨r, e⟩ := ends_head h1 h2
    rw [e, List.length_cons]; omega
  · rw [endsAt_seg, List.length_reverse, List.length_map]
    have := segAt_len xs n
    omega
def RowsAre (PO : Nat → Obj → Prop) (rows : List (Addr × Obj)) (ys : List Value) (n : Nat) : Prop := ys.length = n ∧ ∀ (i : Nat) (y : Value), ys[i]? = some y → ∃ a o, y = .ref a ∧ (a, o) ∈ rows ∧ PO i o
theorem sizes_len (n : Nat) : (sizesOf n).length = n := by unfold sizesOf; rw [List.length_map, List.length_range]
theorem news_dup {g h : Heap} {L : Addr} {p : Addr × Obj} {news : List (Addr × Obj)} (N : News g L h news) (hp : p ∈ news) : News g L h (p :: news) := fun q hq => by
  rcases List.mem_cons.mp hq with rfl | hq
  · exact N _ hp
  · exact N _ hq
section
variable {prog : Program} {w : World} {A : Around} {E : Value → Shared → Prop} {s : Shared} {h₀ : Heap} {L l : Addr} {m : Str → Option Value} {news : List (Addr × Obj)}
theorem slice_row {value slice : Expr} {vs : List Value} {ns : List Nat} {i : Int} {t : Tok} {Q : Value → Shared → Prop} (F : Fr h₀ L s.heap m) (N : News h₀ L s.heap news) (hl : s.heap.IsList l vs.toArray) (hi' : IntsAre vs (zs ns)) (hz : ns.length ≤ 1000) (h1 : i = 1)
    (h : ∀ D ws h', Fr h₀ L h' m → News h₀ L h' ((D, listOf (List.toArray ws) 0) :: news) → (∀ p ∈ news, @LT.lt Nat _ p.1 D) → IntsAre ws (zs ns.tail) → Q (.ref D) { s with heap := h' })
    (hs : subscripted slice false (.ref l) (.ref s.heap.objs.size) = operate [.ref s.heap.objs.size, .ref l] (getItem (.ref l) (.ref s.heap.objs.size))) (ht : ∀ r, letTemporaryGo value (.ref l) r = pure ()) :
    wpAny (model prog w) A (subscriptTail value slice (.ref l) (.ref s.heap.objs.size)) Q E { s with heap := s.heap.push { cls := .type "slice", data := .fields #[.int i t, .none, .none] } } := by
  subst h1
  have e : zs ns.tail = (zs ns).drop (1 : Int).toNat := by
    show zs ns.tail = (zs ns).drop 1
    unfold zs
    rw [List.drop_one, List.map_tail]
  refine kmk_slice_ints F N hl (IsPart.int _ _) IsPart.none hi' (e ▸ kmk_from hi' (by decide)) rfl (fun D ws h' F' N' l1 hI _ _ => h D ws h' F' N' l1 hI) hs ht ?_
  rw [List.size_toArray, hi'.length, zs_len, sizeLine_eq]
  omega
end
theorem ends_le {xs : List Int} {n : Nat} : (endsAt xs n).length ≤ 1000 := by
  rw [endsAt_seg, List.length_reverse, List.length_map]
  have := segAt_len xs n
  omega
theorem zs_get {l : List Nat} {j : Nat} {k : Int} (h : (zs l)[j]? = some k) : ∃ n, l[j]? = some n ∧ k = (n : Int) := by
  unfold zs at h
  rw [List.getElem?_map] at h
  cases e : l[j]? with
  | none => rw [e] at h; cases h
  | some n => rw [e] at h; exact ⟨n, rfl, (Option.some.inj h).symm⟩
theorem above_get {xs : List Int} {m j n : Nat} (h : (endsAt xs m).tail[j]? = some n) : (aboveOf xs m)[j]? = some (ofL (pathAt xs n)) ∧ 1 ≤ n ∧ n ≤ m := by
  refine ⟨?_, ends_mem (List.mem_of_mem_tail (List.mem_of_getElem? h))⟩
  unfold aboveOf
  rw [← List.map_tail, List.getElem?_map, h]; rfl
theorem above_len (xs : List Int) (m : Nat) : (aboveOf xs m).length = (endsAt xs m).tail.length := by
  unfold aboveOf
  rw [← List.map_tail, List.length_map]
theorem render_chars : ∀ l : List (Nat × Int × Nat), (∀ q ∈ l, q.1 ≤ 3 ∧ 0 ≤ q.2.1 ∧ q.2.1 < 400) → ∀ c ∈ render l, c ≤ 57
  | [], _, c, h => by cases h
  | q :: r, h, c, hc => by
    have hq := h q (.head _)
    rw [render] at hc
    rcases List.mem_append.mp hc with hc | hc
    · rcases List.mem_append.mp hc with hc | hc
      · have := List.eq_of_mem_replicate hc; omega
      · exact ((dg_of hq.2.1 hq.2.2).1 c hc).2
    · exact render_chars r (fun q hq => h q (.tail _ hq)) c hc
theorem path_ok (xs : List Int) (n : Nat) : PyData.strOk (ofL (pathAt xs n)) = true := by
  unfold PyData.strOk
  rw [Array.all_eq_true_iff_forall_mem]
  intro c hc
  have : c ∈ pathAt xs n := by simpa [ofL] using hc
  rw [pathAt_seg] at this
  have := render_chars _ (segAt_wf xs n).1 c this
  exact decide_eq_true (by omega)
theorem above_ok {xs : List Int} {n : Nat} : ∀ z ∈ aboveOf xs n, PyData.strOk z = true := by
  intro z hz
  obtain ⟨j, _, rfl⟩ := List.mem_map.mp (List.mem_of_mem_tail hz)
  exact path_ok xs j
theorem strs_dat {news : List (Addr × Obj)} : ∀ {vs : List Value} {l : List Str}, StrsAre vs l → DatAll news vs (l.map Dat.str)
  | _, _, .nil => .nil
  | _, _, .cons y t h => .cons (.str y t) (strs_dat h)
theorem dat_get {news : List (Addr × Obj)} {α : Type} {f : α → Dat} : ∀ {ys : List Value} {l : List α}, ys.length = l.length → (∀ (i : Nat) (y : Value), ys[i]? = some y → ∃ d, l[i]? = some d ∧ DatIn news y (f d)) → DatAll news ys (l.map f)
  | [], [], _, _ => .nil
  | [], _ :: _, h, _ => by cases h
  | _ :: _, [], h, _ => by cases h
  | y :: ys, c :: l, h, hp => by
    obtain ⟨d, e, hd⟩ := hp 0 y rfl
    simp at e
    subst e
    exact .cons hd (dat_get (by simpa using h) fun i y hy => hp (i + 1) y hy)
def aboveDat (xs : List Int) : List Dat := (List.range (textOf xs).length).map fun i => Dat.list ((aboveOf xs (i + 1)).map Dat.str)
theorem rows_dat {xs : List Int} {rows : List (Addr × Obj)} {ys : List Value} (h : RowsAre (AboveO xs) rows ys (textOf xs).length) : DatAll rows ys (aboveDat xs) := by
  refine dat_get (by rw [h.1, List.length_range]) fun i y hy => ?_
  obtain ⟨a, o, rfl, hm, vs, c, rfl, hs⟩ := h.2 i y hy
  have hi := (List.getElem?_eq_some_iff.mp hy).1
  rw [h.1] at hi
  exact ⟨i, List.getElem?_range hi, .list hm (strs_dat hs)⟩
theorem above_kqd (xs : List Int) : ∀ d ∈ aboveDat xs, kqdOk 8 d = true := by
  intro d hd
  obtain ⟨i, _, rfl⟩ := List.mem_map.mp hd
  rw [kqdOk, List.all_eq_true]
  intro e he
  obtain ⟨z, hz, rfl⟩ := List.mem_map.mp he
  rw [kqdOk]
  exact above_ok z hz
section
variable {prog : Program} {w : World} {A : Around} {E : Value → Shared → Prop} {s : Shared} {h₀ : Heap} {L a b : Addr} {news n₁ n₂ : List (Addr × Obj)} {va vb : List Value} {ds es : List Dat} {Q : Value → Shared → Prop}
open Classical in
theorem ne_rows (N : News h₀ L s.heap news) (ma : (a, LCg.lst va) ∈ news) (mb : (b, LCg.lst vb) ∈ news) (Da : DatAll n₁ va ds) (sa : ∀ p ∈ n₁, p ∈ news) (Db : DatAll n₂ vb es) (sb : ∀ p ∈ n₂, p ∈ news) (ha : ∀ d ∈ ds, kqdOk 8 d = true) (e : ds = es) (hu : A.units + 64 < cLine) (h : Q (.bool false) s) :
    wpAny (model prog w) A (compareOp .NotEq (.ref a) (.ref b)) Q E s := by
  subst e
  refine kqd_ne N ma rfl rfl Da sa mb rfl rfl Db sb ha ha hu ?_
  rw [decide_eq_true rfl]
  exact h
open Classical in
theorem eq_rows (N : News h₀ L s.heap news) (ma : (a, LCg.lst va) ∈ news) (mb : (b, LCg.lst vb) ∈ news) (Da : DatAll n₁ va ds) (sa : ∀ p ∈ n₁, p ∈ news) (Db : DatAll n₂ vb es) (sb : ∀ p ∈ n₂, p ∈ news) (ha : ∀ d ∈ ds, kqdOk 8 d = true) (e : ds = es) (hu : A.units + 64 < cLine) (h : Q (.bool true) s) :
    wpAny (model prog w) A (compareOp .Eq (.ref a) (.ref b)) Q E s := by
  subst e
  refine kqd_eq N ma rfl rfl Da sa mb rfl rfl Db sb ha ha hu ?_
  rw [decide_eq_true rfl]
  exact h
end
theorem path_val {xs : List Int} {vs : List Value} {i : Nat} {v : Value} (h : StrsAre vs (pathsOf xs)) (e : vs.toArray[i]? = some v) : ∃ t, v = .str (ofL (pathAt xs (i + 1))) t := by
  have hv : vs[i]? = some v := by simpa using e
  have hi := (List.getElem?_eq_some_iff.mp hv).1
  rw [h.length, pathsOf_len] at hi
  obtain ⟨t, ht⟩ := h.get _ _ (pathsOf_get hi)
  rw [hv] at ht
  exact ⟨t, Option.some.inj ht⟩
def symAt (xs : List Int) (n : Nat) : Int := match (segAt xs n).getLast? with | some q => q.2.1 | none => 0
end

section
/-! what stands behind the last slash -/
def lastPart (l : List Nat) : List Nat := (l.reverse.takeWhile (· != 47)).reverse
theorem takeWhile_stop {p : Nat → Bool} {c : Nat} (hc : p c = false) (v : List Nat) : ∀ u : List Nat, (u ++ c :: v).takeWhile p = u.takeWhile p
  | [] => by rw [List.nil_append, List.takeWhile_cons, hc]; rfl
  | a :: u => by
    rw [List.cons_append, List.takeWhile_cons, List.takeWhile_cons, takeWhile_stop hc v u]
theorem lastPart_free {l : List Nat} (h : 47 ∉ l) : lastPart l = l := by
  unfold lastPart
  have key : ∀ r : List Nat, 47 ∉ r → r.takeWhile (· != 47) = r := fun r => by
    induction r with
    | nil => intro _; rfl
    | cons c r ih =>
      intro hr
      rw [List.takeWhile_cons, if_pos (by simp; exact fun e => hr (e ▸ .head _)), ih fun q => hr (.tail _ q)]
  rw [key _ (by rw [List.mem_reverse]; exact h), List.reverse_reverse]
theorem lastPart_slash (a l : List Nat) : lastPart (a ++ 47 :: l) = lastPart l := by
  unfold lastPart
  rw [List.reverse_append, List.reverse_cons, List.append_assoc]
  show ((l.reverse ++ 47 :: a.reverse).takeWhile _).reverse = _
  rw [takeWhile_stop rfl]
theorem join_last : ∀ (ps : List Str) (p : Str), (∀ q ∈ p :: ps, 47 ∉ toL q) → toL ((p :: ps).getLast (List.cons_ne_nil _ _)) = lastPart (toL (Str.join (Str.ofString "/") (p :: ps)))
  | [], p, h => by
    show toL p = lastPart (toL p)
    rw [lastPart_free (h p (.head _))]
  | q :: ps, p, h => by
    show toL ((q :: ps).getLast _) = lastPart (toL (p ++ Str.ofString "/" ++ Str.join (Str.ofString "/") (q :: ps)))
    rw [join_last ps q fun r hr => h r (.tail _ hr), toL_append, toL_append, slash_is, toL_ofL, List.append_assoc]
    exact (lastPart_slash _ _).symm
theorem split_last (x : Str) : 1 ≤ (Txt.split x (Str.ofString "/")).length ∧ (Txt.split x (Str.ofString "/")).getD ((Txt.split x (Str.ofString "/")).length - 1) Str.empty = ofL (lastPart (toL x)) := by
  have hj := StrLaws.join_split x (Str.ofString "/")
  have hf := StrLaws.split_free x 47
  have e1 : (⟨#[47]⟩ : Str) = Str.ofString "/" := slash_is.symm
  rw [e1] at hf
  have hp := split_pos x (Str.ofString "/")
  cases e : Txt.split x (Str.ofString "/") with
  | nil => rw [e] at hp; exact absurd hp (by decide)
  | cons p ps =>
    rw [e] at hj hf
    have h := join_last ps p hf
    rw [hj] at h
    refine ⟨Nat.succ_le_succ (Nat.zero_le _), ?_⟩
    rw [← h, ofL_toL, List.getLast_eq_getElem, List.getD_eq_getElem?_getD, List.getElem?_eq_getElem (by simp)]
    rfl
theorem lastPart_render (S : List (Nat × Int × Nat)) (q : Nat × Int × Nat) (h0 : 0 ≤ q.2.1) (h1 : q.2.1 < 400) (hS : S = [] ∨ 1 ≤ q.1) : lastPart (render (S ++ [q])) = dg q.2.1 := by
  have e1 : render (S ++ [q]) = render S ++ (sl q.1 ++ dg q.2.1) := by rw [render_append]; simp [render]
  rw [e1]
  cases hq : q.1 with
  | zero =>
    rcases hS with rfl | h
    · exact lastPart_free (no47 h0 h1)
    · omega
  | succ k =>
    have e2 : render S ++ (sl (k + 1) ++ dg q.2.1) = (render S ++ sl k) ++ 47 :: dg q.2.1 := by rw [sl_succ]; simp
    rw [e2, lastPart_slash, lastPart_free (no47 h0 h1)]
theorem symAt_last {xs : List Int} {n : Nat} (h1 : 1 ≤ n) (h2 : n ≤ (textOf xs).length) : ∃ r, symAt xs n = symL (tok r) ∧ r ≠ [] ∧ (∃ p, (textOf xs).take n = p ++ tok r) ∧ tok r = r ∧ 0 ≤ symAt xs n ∧ symAt xs n < 400 ∧ lastPart (pathAt xs n) = dg (symAt xs n) := by
  obtain ⟨i, q, r, a, b, c, d, e, f⟩ := seg_last h1 h2
  have hw := segAt_wf xs n
  have hq := hw.1 q (by rw [a]; simp)
  have es : symAt xs n = q.2.1 := by unfold symAt; rw [a, List.getLast?_concat]
  refine ⟨r, es.trans c, d, e, f, es ▸ hq.2.1, es ▸ hq.2.2, ?_⟩
  rw [pathAt_seg, es, a]
  refine lastPart_render i q hq.2.1 hq.2.2 ?_
  cases i with
  | nil => exact .inl rfl
  | cons x y => exact .inr (hw.2 q (by rw [a]; simp))
section
variable {prog : Program} {w : World} {A : Around} {E : Value → Shared → Prop} {s : Shared}
theorem last_item {value slice : Expr} {l : Addr} {ls : List (Str × Tok)} {k : Int} {u : Tok} {Q : Value → Shared → Prop} {xs : List Int} {n : Nat} (hl : s.heap.IsList l (strValues ls).toArray) (e : ls.map (·.1) = Txt.split (ofL (pathAt xs n)) (Str.ofString "/")) (hi : StrsAre (strValues ls) (ls.map (·.1))) (hk : k = -1) (h1 : 1 ≤ n) (h2 : n ≤ (textOf xs).length)
    (h : ∀ t, Q (.str (ofL (dg (symAt xs n))) t) s)
    (hs : subscripted slice false (.ref l) (.int k u) = operate [.ref l, .int k u] (getItem (.ref l) (.int k u)) := by with_unfolding_all rfl) :
    wpAny (model prog w) A (subscriptTail value slice (.ref l) (.int k u)) Q E s := by
  have hsp := split_last (ofL (pathAt xs n))
  rw [e] at hi
  subst hk
  refine item_strs_negR hl hi (by decide) (by omega) (by decide) (fun t => ?_) hs
  have e2 : (-1 + ((Txt.split (ofL (pathAt xs n)) (Str.ofString "/")).length : Int)).toNat = (Txt.split (ofL (pathAt xs n)) (Str.ofString "/")).length - 1 := by omega
  rw [e2, hsp.2, toL_ofL]
  obtain ⟨_, _, _, _, _, _, _, e3⟩ := symAt_last h1 h2
  rw [e3]
  exact h t
theorem int_dg {n : Int} {t : Tok} {Q : Value → Shared → Prop} (h0 : 0 ≤ n) (h1 : n < 400) (h : Q (.int n s.toks) { s with toks := s.toks + 1 }) : wpAny (model prog w) A (call (.type "int") [.str (ofL (dg n)) t]) Q E s := by
  have e : ofL (dg n) = Str.ofString (toString n) := by unfold dg; rw [ofL_toL]
  rw [e]
  exact KIN.call_num h0 (by omega) h
end
/-! the terminal signs -/
def opsL : List Nat := [42, 61, 60, 62, 47, 46, 45, 33]
theorem ops_one : ∀ c ∈ alph, inT [c] = decide (c ∈ opsL) := by decide +kernel
theorem DT_sub : ∀ p ∈ DT, ∀ c ∈ p.1, c ∈ alph → c ∈ opsL := by decide +kernel
theorem symL_lt (q : List Nat) : decide (symL q < 256) = inT q := by
  unfold symL
  by_cases h : inT q = true
  · rw [if_pos h, h]
    have := valT_le q
    exact decide_eq_true (by omega)
  · rw [if_neg h]
    rw [show inT q = false by simpa using h]
    exact decide_eq_false (by omega)
theorem term_at {xs : List Int} {i : Nat} (h : i < (textOf xs).length) : ∃ c, (textOf xs)[i]? = some c ∧ decide (symAt xs (i + 1) < 256) = decide (c ∈ opsL) := by
  obtain ⟨r, e1, hne, ⟨p, e2⟩, e3, _⟩ := symAt_last (xs := xs) (n := i + 1) (by omega) (by omega)
  rw [e3] at e2
  have hl : ((textOf xs).take (i + 1)).length = i + 1 := by rw [List.length_take]; omega
  have hgl : (textOf xs)[i]? = some (r.getLast hne) := by
    have h3 : ((textOf xs).take (i + 1))[i]? = (textOf xs)[i]? := List.getElem?_take_of_lt (by omega)
    rw [← h3]
    have h4 : ((textOf xs).take (i + 1))[i]? = ((textOf xs).take (i + 1)).getLast? := by rw [List.getLast?_eq_getElem?, hl]; rfl
    rw [h4, e2, List.getLast?_append, List.getLast?_eq_some_getLast hne]
    rfl
  refine ⟨_, hgl, ?_⟩
  have hal : r.getLast hne ∈ alph := text_alph _ (List.mem_of_getElem? hgl)
  rw [e1, symL_lt, e3]
  by_cases hr : inT r = true
  · rw [hr]
    have hm := inT_mem hr
    obtain ⟨q, hq, rfl⟩ := List.mem_map.mp hm
    exact (decide_eq_true (DT_sub q hq _ (List.getLast_mem hne) hal)).symm
  · have h1 : r.length = 1 := by
      have := tok_one hne (by rw [e3]; simpa using hr)
      rw [e3] at this
      exact this
    obtain ⟨c, rfl⟩ := List.length_eq_one_iff.mp h1
    rw [ops_one c hal]
    rfl
def termOf (xs : List Int) : List Bool := (List.range (textOf xs).length).map fun i => decide (symAt xs (i + 1) < 256)
theorem term_is {xs : List Int} {ys : List Value} (hl : ys.length = (textOf xs).length) (hP : ∀ (i : Nat) (y : Value), ys[i]? = some y → y = Value.bool (decide (symAt xs (i + 1) < 256))) : ys = (termOf xs).map Value.bool := by
  refine List.ext_getElem? fun i => ?_
  unfold termOf
  rw [List.map_map, List.getElem?_map]
  cases e : ys[i]? with
  | none =>
    have := List.getElem?_eq_none_iff.mp e
    rw [List.getElem?_eq_none (by rw [List.length_range]; omega)]
    rfl
  | some y =>
    have hi := (List.getElem?_eq_some_iff.mp e).1
    rw [hP i y e, List.getElem?_range (by omega)]
    rfl
theorem term_len (xs : List Int) : (termOf xs).length = (textOf xs).length := by unfold termOf; rw [List.length_map, List.length_range]
theorem text_ascii (xs : List Int) : (ofL (textOf xs)).cps.all (· < 128) = true := by
  rw [Array.all_eq_true_iff_forall_mem]
  intro c hc
  have : c ∈ textOf xs := by simpa [ofL] using hc
  have := text_le c this
  exact decide_eq_true (by omega)
theorem text_size (xs : List Int) : (ofL (textOf xs)).cps.size = (textOf xs).length := by simp [ofL]
theorem sign_val {xs : List Int} {i : Nat} {v : Value} (h : SignAt (ofL (textOf xs)) i v) : ∃ c u, (textOf xs)[i]? = some c ∧ v = .str (ofL [c]) u := by
  obtain ⟨c, u, e, rfl⟩ := h
  exact ⟨c, u, by simpa [ofL] using e, rfl⟩
theorem ops_codes : toL (Str.ofString "*=<>/.-!") = opsL := by decide +kernel
theorem term_get {xs : List Int} {ys : List Value} (hl : ys.length = (textOf xs).length) (hP : ∀ (i : Nat) (y : Value), ys[i]? = some y → ∃ c, (textOf xs)[i]? = some c ∧ y = Value.bool (decide (c ∈ opsL))) : ys = (termOf xs).map Value.bool := by
  refine term_is hl fun i y hy => ?_
  obtain ⟨c, e, rfl⟩ := hP i y hy
  have hi := (List.getElem?_eq_some_iff.mp hy).1
  obtain ⟨c', e', q⟩ := term_at (xs := xs) (i := i) (by omega)
  rw [e] at e'
  cases e'
  rw [q]
theorem ops_in (c : Nat) : (!(Builtin.Str.occurrences (Str.ofString "*=<>/.-!") (ofL [c]) 0 (Str.ofString "*=<>/.-!").length 1).isEmpty) = decide (c ∈ opsL) := by
  rw [occ_mem, ops_codes, Bool.not_not]
theorem above_16 (xs : List Int) (i : Nat) : (aboveOf xs (i + 1)).length ≤ 16 := by
  rw [above_len, List.length_tail, endsAt_seg, List.length_reverse, List.length_map]
  have := segAt_len xs (i + 1)
  omega
def allAbove (xs : List Int) : List Str := ((List.range (textOf xs).length).map fun i => aboveOf xs (i + 1)).flatten
theorem flat_len {α : Type} {f : Nat → List α} (hf : ∀ i, (f i).length ≤ 16) : ∀ l : List Nat, ((l.map f).flatten).length ≤ 16 * l.length
  | [] => Nat.le_refl _
  | a :: r => by
    have h1 := flat_len hf r
    have h2 := hf a
    rw [List.map_cons, List.flatten_cons, List.length_append, List.length_cons]
    omega
theorem allAbove_len (xs : List Int) : (allAbove xs).length ≤ 1000 := by
  have h1 := flat_len (f := fun i => aboveOf xs (i + 1)) (above_16 xs) (List.range (textOf xs).length)
  have h2 := (text_len xs).2
  rw [List.length_range] at h1
  unfold allAbove
  omega
def innerOf (xs : List Int) : List Int := ((List.range (textOf xs).length).map fun i => zs (endsAt xs (i + 1)).tail).flatten
theorem inner_16 (xs : List Int) (i : Nat) : (zs (endsAt xs (i + 1)).tail).length ≤ 16 := by
  rw [zs_len, ← above_len]
  exact above_16 xs i
end

section
/-! the set of a list's texts -/
section
variable {prog : Program} {w : World} {A : Around} {E : Value → Shared → Prop} {s : Shared} {R : Result → Shared → Prop} {I S : Addr} {fp wr : List Addr} {n : Nat} {P : Nat → Value → Prop} {St : Nat → Heap → Prop}
def SetHas (prog : Program) (w : World) (h : Heap) (S : Addr) (l : List Str) : Prop := ∃ c, c ≤ l.length ∧ h.SetOf (strKind prog w) S (fun x => decide (x ∈ l)) c
theorem SetHas.keeps {h h' : Heap} {l : List Str} (x : SetHas prog w h S l) (k : ∀ o, h.get? S = some o → h'.get? S = some o) : SetHas prog w h' S l := by
  obtain ⟨c, hc, o, es, ep, t, ho, r⟩ := x
  exact ⟨c, hc, o, es, ep, t, k _ ho, r⟩
theorem SetHas.obj {h : Heap} {l : List Str} (x : SetHas prog w h S l) : ∃ o, h.get? S = some o ∧ o.ExactSet ∧ ∀ h' : Heap, h'.get? S = some o → SetHas prog w h' S l := by
  obtain ⟨c, hc, o, es, ep, t, ho, he, r⟩ := x
  exact ⟨o, ho, he, fun h' e => ⟨c, hc, o, es, ep, t, e, he, r⟩⟩
theorem set_fill (W : Walks prog w A.in1 I fp wr n P St) (hS : S ∉ fp) (l : List Str) (hl : l.length = n) (hP : ∀ i v, P i v → ∃ z t, l[i]? = some z ∧ v = .str z t) (hb : n + 1 < scanBound) :
    ∀ (k i : Nat) (s : Shared), n - i = k → i ≤ n → St i s.heap → SetHas prog w s.heap S (l.take i) →
      (∀ h' tk', (∀ b o, b ∉ S :: wr → s.heap.get? b = some o → h'.get? b = some o) → SetHas prog w h' S l → R (.ok (.ret .none)) { s with heap := h', toks := tk' }) →
      codeAny (model prog w) A (.builtin "set.update.loop" ⟨[.ref S, .ref I], []⟩) R s := by
  have hSw : S ∉ wr := fun h => hS (W.sub _ h)
  intro k
  induction k with
  | zero =>
    intro i s hk hi st hset hR
    obtain rfl : i = n := by omega
    refine codeAny_builtin F.entry_set_update_loop ?_
    rw [Around.under_plainId F.plain_set_update_loop _]
    show wpAny _ A.in1 (pyNext (.ref I) >>= _) _ _ s
    refine wpAny_bind (W.done s _ _ st fun h' tk hk' => wpAny_pure (hR h' tk (fun b o hb e => hk' b o (fun q => hb (.tail _ q)) e) ?_))
    rw [← hl, List.take_length] at hset
    exact hset.keeps fun o e => hk' _ _ hSw e
  | succ k ih =>
    intro i s hk hi st hset hR
    have hlt : i < n := by omega
    refine codeAny_builtin F.entry_set_update_loop ?_
    rw [Around.under_plainId F.plain_set_update_loop _]
    show wpAny _ A.in1 (pyNext (.ref I) >>= _) _ _ s
    refine wpAny_bind (W.item i s _ _ hlt st fun v h₁ tk₁ hv st₁ k₁ => ?_)
    obtain ⟨z, t, hz, rfl⟩ := hP i v hv
    obtain ⟨c, hc, hset₁⟩ := hset.keeps (h' := h₁) fun o e => k₁ _ _ hSw e
    rw [List.length_take] at hc
    show wpAny _ A.in1 (holding [Value.str z t] (setAdd S (.str z t)) >>= _) _ _ _
    refine wpAny_bind (wpAny_holding ?_)
    unfold setAdd
    refine wpAny_holding (wpAny_bind ((strKind prog w).pyHash (k := z) (strKind_is _ _ _ _) ?_))
    refine wpAny_setAddHashed_of (knd := strKind prog w) (s := { s with heap := h₁, toks := tk₁ + 1 }) (strKind_is _ _ _ _) rfl hset₁ (by omega) fun h₂ hs₂ hset₂ => ?_
    have hset' : SetHas prog w h₂ S (l.take (i + 1)) := by
      refine ⟨_, ?_, SetOf_congr hset₂ (fun x => ?_) rfl⟩
      · rw [List.length_take]; split <;> omega
      · rw [List.take_add_one, hz, Option.toList_some]
        by_cases h1 : x ∈ l.take i
        · simp [h1]
        · simp [h1]
    refine wpAny_pure ⟨plainId_quiet F.plain_set_update_loop _, ih (i + 1) _ (by omega) hlt (W.frame _ _ _ st₁ fun b hb o e => ?_) hset' fun h' tk' k' hset'' => ?_⟩
    · exact (hs₂.2 b fun q => hS (q ▸ hb)).trans e
    · exact hR h' tk' (fun b o hb e => k' b o hb ((hs₂.2 b fun q => hb (q ▸ .head _)).trans (k₁ b o (fun q => hb (.tail _ q)) e))) hset''
end
section
variable {prog : Program} {w : World} {A : Around} {E : Value → Shared → Prop} {s : Shared}
abbrev newSet (led : Bool) : Obj := { cls := .type "set", dict := none, data := .set #[] 0 (.fresh 0 0 led) }
/-- what the new set is filled with -/
theorem set_init {l : Addr} {vs : List Value} {ls : List Str} {led : Bool} (hh : A.handled = none) (hl : s.heap.IsList l vs.toArray) (hi : StrsAre vs ls) (hb : ls.length + 1 < scanBound) {Q : Value → Shared → Prop}
    (h : ∀ h' tk, SetHas prog w h' s.heap.objs.size ls → (∀ b o, s.heap.get? b = some o → h'.get? b = some o) → Q .none { s with heap := h', toks := tk }) :
    codeAny (model prog w) A (.call (.builtin "set.__init__") ⟨[.ref s.heap.objs.size, .ref l], []⟩) (wants Q E) { s with heap := s.heap.push (newSet led) } := by
  have hS : (s.heap.push (newSet led)).get? s.heap.objs.size = some (newSet led) := Heap.get?_push_size _ rfl
  have hT : Shared.TypeIs { s with heap := s.heap.push (newSet led) } (.ref s.heap.objs.size) "set" := ⟨_, hS, rfl⟩
  refine codeAny_call_builtin F.called_set.init.plain F.entry_set_init (check_set_init_1 hT ?_)
  obtain ⟨ol, hol, hcl, nl, hdl⟩ := hl
  obtain ⟨ocls, odict, odata, oslots⟩ := ol
  simp only at hcl hdl
  subst hcl; subst hdl
  have hlS : l < s.heap.objs.size := Heap.lt_size hol
  have hol' : (s.heap.push (newSet led)).get? l = some { cls := .type "list", dict := odict, data := .seq vs.toArray nl, slots := oslots } := Heap.get?_push_of_some _ hol
  have hl1 : (s.heap.push (newSet led)).IsList l vs.toArray := ⟨_, hol', rfl, nl, rfl⟩
  have b1 := F.sub_list_set
  have b2 := F.sub_list_frozenset
  have b3 : (Value.type "list" == Value.type "dict") = false := by decide
  unfold Builtin.«set.__init__» noKeywords Builtin.Frozenset.updateFrom
  generalize hPI : pyIter = PI
  wp_walk
  subst hPI
  refine wpAny_pyIter_list hl1 ?_
  refine wpAny_bind (wpAny_runValue ?_)
  have hz : (s.heap.push (newSet led)).objs.size = s.heap.objs.size + 1 := Heap.size_push ..
  refine set_fill (n := vs.toArray.size) (Walks.list (by simp [hh]) _ l (by rw [hz]; exact Nat.ne_of_lt (Nat.lt_succ_of_lt hlS)) vs.toArray) ?_ ls (by rw [List.size_toArray, hi.length]) (fun i v hv => ?_) (by rw [List.size_toArray, hi.length]; exact hb) _ 0 _ rfl (Nat.zero_le _) ⟨⟨_, Heap.get?_push_size _ rfl, rfl, rfl⟩, hl1.push _⟩ ?_ fun h' tk' k' hset => ?_
  · rw [hz]
    simp only [List.mem_cons, List.not_mem_nil, or_false, not_or]
    exact ⟨Nat.ne_of_lt (Nat.lt_succ_self _), Nat.ne_of_gt hlS⟩
  · have hv' : vs[i]? = some v := by simpa using hv
    have hj := (List.getElem?_eq_some_iff.mp hv').1
    rw [hi.length] at hj
    obtain ⟨t, ht⟩ := hi.get i _ (List.getElem?_eq_getElem hj)
    rw [hv'] at ht
    exact ⟨_, t, List.getElem?_eq_getElem hj, Option.some.inj ht⟩
  · exact ⟨0, Nat.zero_le _, SetOf_congr ((setObjOf_fresh (knd := strKind prog w) led).setOf (Heap.get?_push_of_some _ hS) (by unfold scanBound; omega)) (fun x => by simp) rfl⟩
  · refine wpAny_pure (wpAny_pure (h h' tk' hset fun b o e => k' b o ?_ (Heap.get?_push_of_some _ (Heap.get?_push_of_some _ e))))
    have hb := Heap.lt_size e
    rw [hz]
    simp only [List.mem_cons, List.not_mem_nil, or_false, not_or]
    exact ⟨Nat.ne_of_lt hb, Nat.ne_of_lt (Nat.lt_succ_of_lt hb)⟩
end
section
variable {prog : Program} {w : World} {A : Around} {E : Value → Shared → Prop} {s : Shared}
set_option maxHeartbeats 3200000 in
theorem call_set_strs {l : Addr} {vs : List Value} {ls : List Str} {Q : Value → Shared → Prop} (hh : A.handled = none) (hl : s.heap.IsList l vs.toArray) (hi : StrsAre vs ls) (hb : ls.length + 1 < scanBound)
    (h : ∀ h' tk, SetHas prog w h' s.heap.objs.size ls → (∀ b o, s.heap.get? b = some o → h'.get? b = some o) → Q (.ref s.heap.objs.size) { s with heap := h', toks := tk }) :
    wpAny (model prog w) A (call (.type "set") [.ref l]) Q E s := by
  obtain ⟨c, tl, hmro⟩ := F.called_set.mro
  have a1 := F.called_set.made
  have a2 := F.called_set.sub
  refine wpAny_call (codeAny_of_tree ?_)
  show wpAny _ _ (callAny (.type "set") _) _ _ _
  refine wpAny_pure ⟨Code.quiet_builtin _ (by decide +kernel), codeAny_builtin F.entry_type_call ?_⟩
  rw [Around.under_plain (weight_type_call_type "set" [.ref l] []) rfl]
  have a3 := F.called_set.notType
  have a4 := F.called_set.canCreate
  have a5 := F.typeCall_set_1 (.ref l)
  repeat (any_goals (first | assumption | wp_step))
  refine codeAny_mono (code_set_new_1 (.ref l) (E := E) (Q₁ := fun obj s₁ => ∃ led : Bool, obj = .ref s.heap.objs.size ∧ s₁ = { s with heap := s.heap.push (newSet led) }) fun led => ⟨led, rfl, rfl⟩) fun r s₁ hr => ?_
  match r, hr with
  | .error _, hr => exact hr
  | .ok (.ret obj), hr =>
    obtain ⟨led, rfl, rfl⟩ := hr
    have a6 : Shared.TypeIs { s with heap := s.heap.push (newSet led) } (.ref s.heap.objs.size) "set" := ⟨_, Heap.get?_push_size _ rfl, rfl⟩
    have a7 := F.called_set.init.lookup
    have a8 := F.called_set.init.bind (.ref s.heap.objs.size)
    repeat (any_goals (first | assumption | wp_step))
    refine codeAny_mono (set_init (E := E) (led := led) (Q := fun r s₂ => r = .none ∧ ∃ h' tk, s₂ = { s with heap := h', toks := tk } ∧ SetHas prog w h' s.heap.objs.size ls ∧ ∀ b o, s.heap.get? b = some o → h'.get? b = some o) (by simp [hh]) hl hi hb fun h' tk e k => ⟨rfl, h', tk, rfl, e, k⟩) fun r₂ s₂ hr₂ => ?_
    match r₂, hr₂ with
    | .error _, hr => exact hr
    | .ok (.ret _), hr =>
      obtain ⟨rfl, h', tk, rfl, e, k⟩ := hr
      repeat (any_goals (first | assumption | wp_step))
      exact h _ _ e k
end
section
variable {prog : Program} {w : World} {A : Around} {E : Value → Shared → Prop} {s : Shared} {h₀ : Heap} {L : Addr} {m : Str → Option Value} {news : List (Addr × Obj)}
def SetObj (prog : Program) (w : World) (D : Addr) (o : Obj) (ls : List Str) : Prop := o.ExactSet ∧ ∀ h : Heap, h.get? D = some o → SetHas prog w h D ls
theorem set_strs_K {l : Addr} {vs : List Value} {ls : List Str} {Q : Value → Shared → Prop} (hh : A.handled = none) (F : Fr h₀ L s.heap m) (N : News h₀ L s.heap news) (hl : s.heap.IsList l vs.toArray) (hi : StrsAre vs ls) (hb : ls.length ≤ 1000)
    (h : ∀ (D : Nat) o h' tk, Fr h₀ L h' m → News h₀ L h' ((D, o) :: news) → (∀ p ∈ news, @LT.lt Nat _ p.1 D) → SetObj prog w D o ls → Q (.ref D) { s with heap := h', toks := tk }) :
    wpAny (model prog w) A (call (.type "set") [.ref l]) Q E s := by
  refine call_set_strs hh hl hi (by unfold scanBound; omega) fun h' tk hs k => ?_
  obtain ⟨o, ho, he, hk⟩ := hs.obj
  refine h s.heap.objs.size o h' tk (fr_keep F k) (fun p hp => ?_) (fun p hp => Heap.lt_size (N p hp).1) ⟨he, hk⟩
  rcases List.mem_cons.mp hp with rfl | hp
  · exact ⟨ho, Nat.ne_of_gt F.ns.lt, next_is_new F⟩
  · exact ⟨k _ _ (N p hp).1, (N p hp).2⟩
end
end

section
/-! a set's __contains__ taken as a value, and called -/
namespace BD
theorem kind_is : builtinKind "set.__contains__" = some .method := by kernel_rfl
theorem type_is : typeOf (.builtin "set.__contains__") = pure (.type "method_descriptor") := by kernel_rfl
theorem slot_md_get : PySem.Slot "method_descriptor" "__get__" "method_descriptor.__get__" :=
  .of (owner := "method_descriptor") (n := "__get__") (by rw [typeLookup_type, builtinLookup_eq_fast]; kernel_rfl) (by decide +kernel) (by decide +kernel) (by decide +kernel)
    (by first | exact .inl (by decide +kernel) | exact .inr (by decide +kernel)) (by rw [isSubtype_type]; kernel_rfl)
theorem md_set : typeLookup (.type "method_descriptor") "__set__" = pure none := by rw [typeLookup_type, builtinLookup_eq_fast]; kernel_rfl
theorem md_delete : typeLookup (.type "method_descriptor") "__delete__" = pure none := by rw [typeLookup_type, builtinLookup_eq_fast]; kernel_rfl
theorem entry_md_get : entryFor table "method_descriptor.__get__" = some Builtin.«method_descriptor.__get__» := entryFor_of_tree (by kernel_rfl)
theorem args_md_get (a b c : Value) : argsOk "method_descriptor.__get__" ⟨[a, b, c], []⟩ := by unfold argsOk; kernel_rfl
theorem not_told : Manifest.toldItsClass.contains "set.__contains__" = false := by decide +kernel
theorem owner_is : (".".intercalate ("set.__contains__".cutAt '.').dropLast) = "set" := by
  have e0 : "set.__contains__".cutAt '.' = ["set", "__contains__"] := by first | rfl | decide +kernel
  rw [e0]; decide +kernel
theorem sub_owner : isSubtype (.type "set") (.type (".".intercalate ("set.__contains__".cutAt '.').dropLast)) = pure true := by
  rw [owner_is]; exact sub_set_self
end BD
section
variable {prog : Program} {w : World} {A : Around} {E : Value → Shared → Prop} {h : Heap} {g : Array GenState} {d : Drawn} {t : Nat} {os : OsState} {a : Addr} {o : Obj}
abbrev boundO (a : Addr) : Obj := { cls := .type "builtin_function_or_method", data := .fields #[.builtin "set.__contains__", .ref a] }
set_option maxHeartbeats 1000000 in
theorem contains_get {R : Result → Shared → Prop} (hx : h.get? a = some o) (hc : o.cls = .type "set") (hq : R (.ok (.ret (.ref h.objs.size))) ⟨h.push (boundO a), g, d, t, os⟩) :
    codeAny (model prog w) A (.call (.builtin "method_descriptor.__get__") ⟨[.builtin "set.__contains__", .ref a, .type "set"], []⟩) R ⟨h, g, d, t, os⟩ := by
  have hT : (⟨h, g, d, t, os⟩ : Shared).TypeIs (.ref a) "set" := ⟨_, hx, hc⟩
  have hT5 : (⟨h, g, d, t, os⟩ : Shared).TypeIs (.builtin "set.__contains__") "method_descriptor" := BD.type_is
  have f1 := BD.not_told
  have f2 := sub_set_self
  have f3 := BD.sub_owner
  refine codeAny_call_builtin BD.slot_md_get.plain BD.entry_md_get (BD.slot_md_get.check _ _ _ _ _ _ _ _ hT5 (BD.args_md_get _ _ _) ?_)
  repeat (any_goals (first | assumption | wp_step))
abbrev setO (es : Array (Int × Value)) (ep : Nat) (tb : SetTable) : Obj := { cls := .type "set", dict := none, data := .set es ep tb }
set_option maxHeartbeats 2000000 in
theorem contains_entry {es : Array (Int × Value)} {ep : Nat} {tb : SetTable} {tk : Tok} {Q : Fin → Shared → Prop} (hx : h.get? a = some (setO es ep tb)) (hq : Q (.done (.ret (.ref h.objs.size))) ⟨h.push (boundO a), g, d, t, os⟩) :
    wpAny (model prog w) A (Builtin.«object.__getattribute__» ⟨[.ref a, .str "__contains__" tk], []⟩) Q E ⟨h, g, d, t, os⟩ := by
  have hT : (⟨h, g, d, t, os⟩ : Shared).TypeIs (.ref a) "set" := ⟨_, hx, rfl⟩
  have hT5 : (⟨h, g, d, t, os⟩ : Shared).TypeIs (.builtin "set.__contains__") "method_descriptor" := BD.type_is
  have f4 := F.slot_set_contains.lookup
  have f5 := BD.type_is
  have f6 := BD.slot_md_get.lookup
  have f7 := BD.md_set
  have f8 := BD.md_delete
  repeat (any_goals (first | assumption | wp_step))
  exact contains_get hx rfl (wpAny_pure hq)
theorem contains_call {es : Array (Int × Value)} {ep : Nat} {tb : SetTable} {tk : Tok} {R : Result → Shared → Prop} (hx : h.get? a = some (setO es ep tb)) (hq : R (.ok (.ret (.ref h.objs.size))) ⟨h.push (boundO a), g, d, t, os⟩) :
    codeAny (model prog w) A (.call (.builtin "set.__getattribute__") ⟨[.ref a, .str "__contains__" tk], []⟩) R ⟨h, g, d, t, os⟩ :=
  codeAny_call_builtin F.slot_set_getattribute.plain F.entry_set_ga (F.slot_set_getattribute.check _ _ _ _ _ _ _ _ (show (⟨h, g, d, t, os⟩ : Shared).TypeIs (.ref a) "set" from ⟨_, hx, rfl⟩) (F.args_set_getattribute_2 _ _) (contains_entry hx hq))
set_option maxHeartbeats 2000000 in
theorem contains_by {es : Array (Int × Value)} {ep : Nat} {tb : SetTable} {tk : Tok} {Q : Value → Shared → Prop} (hx : h.get? a = some (setO es ep tb)) (hq : Q (.ref h.objs.size) ⟨h.push (boundO a), g, d, t, os⟩) :
    wpAny (model prog w) A (getAttrBy (.ref a) (.str "__contains__" tk) true true) Q E ⟨h, g, d, t, os⟩ := by
  have hT : (⟨h, g, d, t, os⟩ : Shared).TypeIs (.ref a) "set" := ⟨_, hx, rfl⟩
  have f2 := F.slot_set_getattribute.lookup
  have f3 := F.slot_set_getattribute.bind (.ref a)
  repeat (any_goals (first | assumption | wp_step))
  refine contains_call hx ?_
  repeat (any_goals (first | assumption | wp_step))
set_option maxHeartbeats 2000000 in
theorem contains_attr {es : Array (Int × Value)} {ep : Nat} {tb : SetTable} {Q : Value → Shared → Prop} (hx : h.get? a = some (setO es ep tb)) (hq : Q (.ref h.objs.size) ⟨h.push (boundO a), g, d, t + 1, os⟩) :
    wpAny (model prog w) A (getAttr (.ref a) (Str.ofString "__contains__") true) Q E ⟨h, g, d, t, os⟩ := by
  unfold getAttr
  repeat (any_goals (first | assumption | with_reducible apply contains_by hx | wp_step))
end
end

section
namespace BD
theorem not_varargs : Manifest.varargsMethods.contains "set.__contains__" = false := by decide +kernel
theorem sub_module : isSubtype (.type "set") (.type "module") = pure false := by rw [isSubtype_type]; kernel_rfl
theorem sub_type : isSubtype (.type "set") (.type "type") = pure false := by rw [isSubtype_type]; kernel_rfl
abbrev sigC : Manifest.Signature := ⟨.oneArg, "set.__contains__", "__contains__", .self, [⟨"object", .posOnly, true⟩]⟩
theorem sig_is : Manifest.signature? "set.__contains__" = some sigC := by
  rw [signature?_of (id := "set.__contains__") (n := ['_', '_', 's', 'n', 'i', 'a', 't', 'n', 'o', 'c', '_', '_']) (o := ['t', 'e', 's']) (by kernel_rfl) F.owner_set]; kernel_rfl
theorem check_is (a b : Value) (full : String) (hf : full = "set.__contains__") : Bind.checkArgs "set.__contains__" { sigC with full := full } ⟨[a, b], []⟩ = pure () := by
  subst hf
  have h := F.args_set_contains_2 a b
  unfold argsOk at h
  rw [sig_is] at h
  exact h
theorem full_is : s!"{Bind.lastOf "set"}.{Bind.lastOf "set.__contains__"}" = "set.__contains__" := by decide +kernel
theorem check_full (a b : Value) : Bind.checkArgs "set.__contains__" { sigC with full := s!"{Bind.lastOf "set"}.{Bind.lastOf "set.__contains__"}" } ⟨[a, b], []⟩ = pure () := check_is a b _ full_is
end BD
section
variable {prog : Program} {w : World} {A : Around} {E : Value → Shared → Prop} {h : Heap} {g : Array GenState} {d : Drawn} {t : Nat} {os : OsState} {a q : Addr} {b : Value}
theorem bound_check {es : Array (Int × Value)} {ep : Nat} {tb : SetTable} {M : Model} {Q : Unit → Shared → Prop} (hx : h.get? a = some (setO es ep tb)) (hq : Q () ⟨h, g, d, t, os⟩) : wpAny M A (checkBoundCall "set.__contains__" ⟨[.ref a, b], []⟩) Q E ⟨h, g, d, t, os⟩ := by
  have hT : (⟨h, g, d, t, os⟩ : Shared).TypeIs (.ref a) "set" := ⟨_, hx, rfl⟩
  have f1 := BD.not_varargs
  have f2 := BD.sub_module
  have f3 := BD.sub_type
  have f4 := BD.check_full (.ref a) b
  unfold checkBoundCall
  rw [BD.sig_is, BD.kind_is]
  repeat (any_goals (first | assumption | wp_step))
theorem bound_call {s : Shared} {z : Str} {u : Tok} {ls : List Str} {Q : Value → Shared → Prop} (hb : s.heap.get? q = some (boundO a)) (hS : SetHas prog w s.heap a ls) (hq : Q (.bool (decide (z ∈ ls))) { s with toks := s.toks + 1 }) :
    wpAny (model prog w) A (call (.ref q) [.str z u]) Q E s := by
  obtain ⟨c, _, hS⟩ := hS
  obtain ⟨o, es, ep, tb, ho, ⟨e1, e2, e3⟩, e4, hr⟩ := id hS
  have hT : s.TypeIs (.ref a) "set" := ⟨_, ho, e1⟩
  obtain ⟨ocls, odict, odata, oslots⟩ := o
  simp only at e1 e2 e3 e4
  subst e1 e2 e3 e4
  refine wpAny_call (codeAny_of_tree ?_)
  show wpAny _ _ (callAny (.ref q) ⟨[.str z u], []⟩) _ _ _
  unfold callAny
  dsimp only
  refine wpAny_bind (wpAny_load hb ?_)
  dsimp only
  show wpAny _ _ (checkBoundCall "set.__contains__" ⟨[.ref a, .str z u], []⟩ >>= fun _ => again (.builtin "set.__contains__" ⟨[.ref a, .str z u], []⟩)) _ _ _
  refine wpAny_bind (bound_check (g := s.gens) (d := s.drawn) (t := s.toks) (os := s.os) ho (wpAny_pure ⟨plainId_quiet (by decide +kernel) _, codeAny_builtin entry_set_contains ?_⟩))
  unfold Builtin.«frozenset.__contains__» Builtin.Frozenset.oneOther
  simp only [List.isEmpty_nil, bind_assoc]
  unfold Builtin.Frozenset.addrOf Builtin.Frozenset.withSetAsKey setContains
  refine wpAny_bind (wpAny_pure ?_)
  try dsimp only
  refine wpAny_bind (wpAny_pure ?_)
  try dsimp only
  refine wpAny_bind (wpAny_tryCatch ?_)
  refine wpAny_holding (wpAny_bind ((strKind prog w).pyHash (k := z) (strKind_is _ _ _ _) ?_))
  refine wpAny_bind (wpAny_setFind_of (s := { s with toks := s.toks + 1 }) (strKind_is _ _ _ _) rfl hS fun r hr => ?_)
  refine wpAny_pure ?_
  show wpAny _ _ (ret (Value.bool r.isSome)) _ _ _
  rw [hr]
  exact wpAny_pure hq
end
section
variable {prog : Program} {w : World} {A : Around} {E : Value → Shared → Prop} {s : Shared} {h₀ : Heap} {L D : Addr} {m : Str → Option Value} {news : List (Addr × Obj)} {o : Obj} {ls : List Str}
theorem contains_K {Q : Value → Shared → Prop} (F : Fr h₀ L s.heap m) (N : News h₀ L s.heap news) (hm : (D, o) ∈ news) (hO : SetObj prog w D o ls)
    (h : ∀ (q : Nat) h', Fr h₀ L h' m → News h₀ L h' ((q, boundO D) :: news) → (∀ p ∈ news, @LT.lt Nat _ p.1 q) → Q (.ref q) { s with heap := h', toks := s.toks + 1 }) :
    wpAny (model prog w) A (getAttr (.ref D) (Str.ofString "__contains__") true) Q E s := by
  have hD := (N _ hm).1
  obtain ⟨c, _, o', es, ep, tb, ho, _, e4, _⟩ := hO.2 _ hD
  obtain ⟨e1, e2, e3⟩ := hO.1
  rw [hD] at ho
  cases ho
  obtain ⟨ocls, odict, odata, oslots⟩ := o
  simp only at e1 e2 e3 e4
  subst e1 e2 e3 e4
  refine contains_attr (g := s.gens) (d := s.drawn) (t := s.toks) (os := s.os) hD ?_
  exact h s.heap.objs.size _ (F.push _) (N.push F _) fun p hp => Heap.lt_size (N p hp).1
end
abbrev listIt (a : Addr) (i : Int) (t : Tok) : Obj := { cls := .type "list_iterator", data := .fields #[.ref a, .int i t] }
section
variable {prog : Program} {w : World} {A : Around} {E : Value → Shared → Prop} {s : Shared} {h₀ : Heap} {L a : Addr} {m : Str → Option Value} {news : List (Addr × Obj)} {items : Array Value}
theorem iter_listK {Q : Value → Shared → Prop} (F : Fr h₀ L s.heap m) (N : News h₀ L s.heap news) (hl : s.heap.IsList a items)
    (h : ∀ (q : Nat) h', Fr h₀ L h' m → News h₀ L h' ((q, listIt a 0 0) :: news) → (∀ p ∈ news, @LT.lt Nat _ p.1 q) → Q (.ref q) { s with heap := h' }) :
    wpAny (model prog w) A (call (.builtin "iter") [.ref a]) Q E s := by
  refine call_function_entry (by decide +kernel) (by decide +kernel) kdk_entry_iter (kdk_args_iter _) ?_
  unfold Builtin.«iter»
  refine wpAny_bind (m := someArgs "iter" 1 2 _) (wpAny_of_eq (a := [Value.ref a]) (by first | rfl | kernel_rfl!) ?_)
  show wpAny _ _ (pyIter (.ref a) >>= _) _ _ _
  exact wpAny_bind (wpAny_pyIter_list hl (wpAny_pure ⟨_, rfl, h s.heap.objs.size _ (F.push _) (N.push F _) fun p hp => Heap.lt_size (N p hp).1⟩))
end
end

section
abbrev ffO (dx it q : Addr) : Obj := { cls := .ref 108, dict := some dx, slots := #[some (.ref q), some (.ref it)] }
theorem diff_keep {H g h' h₀ : Heap} {L L' a₁ a₂ : Addr} {m' : Str → Option Value} {o1 o2 : Obj} {all : List (Addr × Obj)} (G : GSub H g [a₁, a₂]) (F : Fr g L' h' m') (N : News h₀ L H [(a₁, o1), (a₂, o2)]) (N' : News h₀ L h' all) (m1 : (a₁, o1) ∈ all) (m2 : (a₂, o2) ∈ all) : ∀ b o, H.get? b = some o → h'.get? b = some o := fun b o e => by
  by_cases e1 : b = a₁
  · subst e1
    have h1 := (N _ (.head _)).1
    rw [e] at h1; cases h1
    exact (N' _ m1).1
  · by_cases e2 : b = a₂
    · subst e2
      have h1 := (N _ (.tail _ (.head _))).1
      rw [e] at h1; cases h1
      exact (N' _ m2).1
    · exact F.keep b o (G b o e (by simp [e1, e2]))
theorem diff_fresh {H g : Heap} {a₁ a₂ b : Addr} (G : GSub H g [a₁, a₂]) (h : g.get? b = none) (n1 : b ≠ a₁) (n2 : b ≠ a₂) : H.get? b = none := by
  cases e : H.get? b with
  | none => rfl
  | some o => rw [G b o e (by simp [n1, n2])] at h; cases h
theorem diff_end {prog : Program} {w : World} {s : Shared} {Q : Value → Shared → Prop} {g h' h₀ : Heap} {L L' : Addr} {a₁ a₂ I dx it q D : Nat} {o o1 o2 : Obj} {m m' : Str → Option Value} {tk' : Nat} {ls : List Str}
    (ret : ∀ (I dx it q D : Nat) o h' tk', (∀ b o, s.heap.get? b = some o → h'.get? b = some o) → (∀ b, b = I ∨ b = dx ∨ b = it ∨ b = q ∨ b = D → s.heap.get? b = none) → (a₁ < D ∧ D < q ∧ q < dx ∧ dx < I ∧ I < it) →
      News h₀ L h' [(I, ffO dx it q), (dx, dictOf [] 0), (it, listIt a₁ 0 0), (q, boundO D), (D, o)] → Fr h₀ L h' m → SetObj prog w D o ls → Q (.ref I) { s with heap := h', toks := tk' })
    (G : GSub s.heap g [a₁, a₂]) (F9 : Fr g L' h' m') (N : News h₀ L s.heap [(a₁, o1), (a₂, o2)]) (N8 : News h₀ L h' [(it, listIt a₁ 0 0), (I, ffO dx it q), (dx, dictOf [] 0), (q, boundO D), (D, o), (a₁, o1), (a₂, o2)]) (N9 : News g L' h' [(it, listIt a₁ 0 0), (I, ffO dx it q), (dx, dictOf [] 0), (q, boundO D), (D, o), (a₁, o1), (a₂, o2)])
    (F8 : Fr h₀ L h' m) (hO : SetObj prog w D o ls) (od : a₁ < D ∧ a₂ < D ∧ D < q ∧ q < dx ∧ dx < I ∧ I < it) : Q (.ref I) { s with heap := h', toks := tk' } := by
  obtain ⟨q1, q2, q3, q4, q5, q6⟩ := od
  have z1 := (N9 _ (.head _)).2.2
  have z2 := (N9 _ (.tail _ (.head _))).2.2
  have z3 := (N9 _ (.tail _ (.tail _ (.head _)))).2.2
  have z4 := (N9 _ (.tail _ (.tail _ (.tail _ (.head _))))).2.2
  have z5 := (N9 _ (.tail _ (.tail _ (.tail _ (.tail _ (.head _)))))).2.2
  refine ret I dx it q D o h' tk' (diff_keep G F9 N N8 (by simp) (by simp)) ?_ ⟨q1, q3, q4, q5, q6⟩ (fun p hp => N8 p ?_) F8 hO
  · rintro b (rfl | rfl | rfl | rfl | rfl)
    · exact diff_fresh G z2 (Nat.ne_of_gt (by omega)) (Nat.ne_of_gt (by omega))
    · exact diff_fresh G z3 (Nat.ne_of_gt (by omega)) (Nat.ne_of_gt (by omega))
    · exact diff_fresh G z1 (Nat.ne_of_gt (by omega)) (Nat.ne_of_gt (by omega))
    · exact diff_fresh G z4 (Nat.ne_of_gt (by omega)) (Nat.ne_of_gt (by omega))
    · exact diff_fresh G z5 (Nat.ne_of_gt (by omega)) (Nat.ne_of_gt (by omega))
  · simp only [List.mem_cons, List.not_mem_nil, or_false] at hp ⊢
    rcases hp with h | h | h | h | h
    · exact .inr (.inl h)
    · exact .inr (.inr (.inl h))
    · exact .inl h
    · exact .inr (.inr (.inr (.inl h)))
    · exact .inr (.inr (.inr (.inr (.inl h))))
local macro_rules | `(tactic| walk_at "call type:set") => `(tactic| (k_here; (with_reducible show wpAny _ _ (call (Value.type "set") [Value.ref _]) _ _ _); (rename StrsAre _ _ => hS9); (k_dflt (refine' set_strs_K rfl ?F ?N ?l hS9 ?z ?_; (case F => k_asm); (case N => k_asm); (case l => exact News.isList (by k_asm) (by k_mem)); (case z => assumption); intro D9 o9 h9 tk9 F9 N9 l9 hO9; (simp only [List.forall_mem_cons, List.forall_mem_nil, and_true] at l9)))))
local macro_rules | `(tactic| walk_at "getAttr ref") => `(tactic| (k_here; (with_reducible show wpAny _ _ (getAttr (Value.ref _) _ true) _ _ _); (rename SetObj _ _ _ _ _ => hO9); (k_dflt (refine' contains_K ?F ?N ?l hO9 ?_; (case F => k_asm); (case N => k_asm); (case l => k_mem); intro q9 h9 F9 N9 l9; (simp only [List.forall_mem_cons, List.forall_mem_nil, and_true] at l9)))))
local macro_rules | `(tactic| walk_at "call builtin:iter") => `(tactic| (k_here; (with_reducible show wpAny _ _ (call (Value.builtin "iter") [Value.ref _]) _ _ _); (k_dflt (refine' iter_listK ?F ?N ?l ?_; (case F => k_asm); (case N => k_asm); (case l => exact News.isList (by k_asm) (by k_mem)); intro q9 h9 F9 N9 l9; (simp only [List.forall_mem_cons, List.forall_mem_nil, and_true] at l9)))))
set_option maxHeartbeats 8000000 in
theorem c_diff {w : World} {p : Program} {loose : List Str} {mean : ExcName → Option Value} {mg mb : Str → Option Value} {dp un : Nat} {gd : Option (List Code)} {cn : Str} {cs : Scope} {a : Addr} {ccd : Value} {cl : List (Str × Addr)} {outer : List Env} {A₀ : Around} {base h₀ : Heap} {L : Addr} {m : Str → Option Value} {s : Shared} {Q E : Value → Shared → Prop} {a₁ a₂ : Nat} {va vb : List Value} {ls : List Str} (B : Below A₀ base outer h₀) (F : Fr h₀ L s.heap m) (X : (laid.heap_1 w.params).In h₀) (T : Top p loose mean mg mb h₀) (hk : cs.kind = .function) (hd : dp + 20 < recursionLimit) (hu : un + 200 < cLine) (N : News h₀ L s.heap [(a₁, LCg.lst va), (a₂, LCg.lst vb)]) (hi : StrsAre vb ls) (hz : ls.length ≤ 1000)
  (ret : ∀ (I dx it q D : Nat) o h' tk', (∀ b o, s.heap.get? b = some o → h'.get? b = some o) → (∀ b, b = I ∨ b = dx ∨ b = it ∨ b = q ∨ b = D → s.heap.get? b = none) → (a₁ < D ∧ D < q ∧ q < dx ∧ dx < I ∧ I < it) →
    News h₀ L h' [(I, ffO dx it q), (dx, dictOf [] 0), (it, listIt a₁ 0 0), (q, boundO D), (D, o)] → Fr h₀ L h' m → SetObj PySem.Challenge.rw_ij0098_01.row.prog w D o ls → Q (.ref I) { s with heap := h', toks := tk' }) :
  wpAny (model PySem.Challenge.rw_ij0098_01.row.prog w) (ktrTop dp un gd cn cs L a ccd cl outer) (call (.ref 154) [.ref a₁, .ref a₂]) Q E s := by
  (revert X; k_fill; intro X)
  refine wpAny_call ?_
  (k_dflt (refine' code_defG ?k1 ?k2 ?k3 ?k4 ?k5 ?kA ?kF ?kK ?k6 ?k7 ?k8 ?k9 ?kB ?_ ?c2 ?c3 ?c4 ?c5; (case kA => exact rfl); (case kF => exact rfl); (case kK => exact hk); (case k1 => k_asm); (case k2 => k_asm); (case k3 => k_asm); (case k4 => exact N); (case k5 => k_asm); (case k6 => k_is); (case k7 => k_is); (case k8 => k_room); (case k9 => exact BindsTo.of_eq rfl); (case c5 => decide); (case kB => exact locs rfl); (case c2 => exact rfl); (case c3 => exact rfl); (case c4 => exact rfl); k_whole; intro g' L' h' FG' F' N' B' X' T' kG'; (try dsimp only); (try k_lift B')))
  (repeat' (first | (k_unfold; (try dsimp only)) | (k_end; wrow_close) | walk1 | (dsimp only; walk1) | (leave1; walk_say "STEP leave1"; try dsimp only) | fail "no step"))
  (rename Fr g' _ _ _ => F9)
  (rename News g' _ _ _ => N9)
  (rename Fr h₀ _ _ _ => F8)
  (rename News h₀ _ _ ((_, _) :: (_, _) :: (_, _) :: _) => N8)
  (rename SetObj _ _ _ _ _ => hO9)
  exact diff_end (s := s) ret kG' F9 N N8 N9 F8 hO9 ⟨(by first | assumption | exact (And.left (by assumption)) | omega), (by first | assumption | exact (And.left (And.right (by assumption))) | omega), (by first | assumption | exact (And.left (by assumption)) | omega), (by first | assumption | exact (And.left (by assumption)) | omega), (by first | assumption | exact (And.left (by assumption)) | omega), (by first | assumption | exact (And.left (by assumption)) | omega)⟩
end

section
/-! next of a list's iterator, as a call; an exception that leaves its call -/
section
variable {prog : Program} {w : World} {A : Around} {E : Value → Shared → Prop} {s : Shared} {b : Heap} {L it a : Addr} {m : Str → Option Value} {news : List (Addr × Obj)} {va : List Value} {oa : Obj} {i : Nat}
theorem lnext_item {upd : Obj → List (Addr × Obj)} {x : Value} {ka : Nat} {Q : Value → Shared → Prop} (F : Fr b L s.heap m) (N : News b L s.heap news) (U : UpdF it (listIt a (i : Int) 0) news upd) (hl : (a, oa) ∈ news) (hda : oa.data = .seq va.toArray ka) (hx : va[i]? = some x)
    (h : ∀ h', Fr b L h' m → News b L h' (upd (listIt a ((i + 1 : Nat) : Int) 0)) → Heap.SameBut it s.heap h' → Q x { s with heap := h' }) : wpAny (model prog w) A (call (.builtin "next") [.ref it]) Q E s := by
  obtain ⟨pre, post, hsp, hupd, ha, hb⟩ := U.split
  have hm := N (it, listIt a (i : Int) 0) (by rw [hsp]; exact List.mem_append_right _ (.head _))
  have hT : s.TypeIs (.ref it) "list_iterator" := ⟨_, hm.1, rfl⟩
  refine call_function_entry (by decide +kernel) (by decide +kernel) kdk_entry_next (kdk_args_next _) ?_
  unfold Builtin.«next»
  refine wpAny_bind (m := someArgs "next" 1 2 _) (wpAny_of_eq (a := [Value.ref it]) (by first | rfl | kernel_rfl!) ?_)
  dsimp only
  refine wpAny_bind (wpAny_specialOf (name := Str.ofString "__next__") hT slot_listiter_next.lookup ?_)
  refine wpAny_ite_split (fun hab => absurd hab (by decide)) (fun _ => ?_)
  refine wpAny_bind (wpAny_callSpecial?_slot (name := Str.ofString "__next__") hT slot_listiter_next (wpAny_call_entry slot_listiter_next hT entry_listiter_next ?_ (args_listiter_next _)))
  show wpAny _ _ (field (.ref it) 0 >>= _) _ _ s
  refine wpAny_bind (wpAny_field hm.1 rfl (x := .ref a) rfl ?_)
  show wpAny _ _ (if (Value.ref a == Value.none) = true then _ else _) _ _ s
  rw [if_neg (show ¬ ((Value.ref a == Value.none) = true) from Bool.false_ne_true)]
  show wpAny _ _ (field (.ref it) 1 >>= _) _ _ s
  refine wpAny_bind (wpAny_field hm.1 rfl (x := .int i 0) rfl ?_)
  show wpAny _ _ (seqItems? (.ref a) >>= _) _ _ s
  refine wpAny_bind (wpAny_seqItems (N _ hl).1 hda ?_)
  have hx' : va.toArray[i]? = some x := by simpa using hx
  simp only [Int.toNat_natCast, hx']
  have hs := Heap.SameBut.update s.heap it (Obj.mapFields (·.setIfInBounds 1 (rawInt ((i : Int) + 1))))
  refine wpAny_bind (wpAny_setField hm.1 rfl (by simp) (wpAny_pure ⟨x, rfl, wpAny_pure ⟨_, rfl, h _ (F.change hs hm.2.1 hm.2.2) ?_ hs⟩⟩))
  rw [hupd]
  exact (show News b L s.heap (pre ++ (it, listIt a (i : Int) 0) :: post) from hsp ▸ N).setIn ha hb hs (Heap.get?_update_self _ hm.1 (Obj.isFreed_of_fields (Obj.data_mapFields rfl _)))
theorem lnext_end {ka : Nat} {Q : Value → Shared → Prop} (hh : A.handled = none) (F : Fr b L s.heap m) (N : News b L s.heap news) (hit : (it, listIt a (i : Int) 0) ∈ news) (hl : (a, oa) ∈ news) (hda : oa.data = .seq va.toArray ka) (hx : va[i]? = none)
    (h : ∀ e h₁ h', Fr b L h₁ m → Heap.SameBut it s.heap h₁ → Heap.NewExc h₁ h' e "StopIteration" → E (.ref e) { s with heap := h' }) : wpAny (model prog w) A (call (.builtin "next") [.ref it]) Q E s := by
  have hm := N _ hit
  have hT : s.TypeIs (.ref it) "list_iterator" := ⟨_, hm.1, rfl⟩
  refine call_function_entry (by decide +kernel) (by decide +kernel) kdk_entry_next (kdk_args_next _) ?_
  unfold Builtin.«next»
  refine wpAny_bind (m := someArgs "next" 1 2 _) (wpAny_of_eq (a := [Value.ref it]) (by first | rfl | kernel_rfl!) ?_)
  dsimp only
  refine wpAny_bind (wpAny_specialOf (name := Str.ofString "__next__") hT slot_listiter_next.lookup ?_)
  refine wpAny_ite_split (fun hab => absurd hab (by decide)) (fun _ => ?_)
  refine wpAny_bind (wpAny_callSpecial?_slot (name := Str.ofString "__next__") hT slot_listiter_next (wpAny_call_entry slot_listiter_next hT entry_listiter_next ?_ (args_listiter_next _)))
  show wpAny _ _ (field (.ref it) 0 >>= _) _ _ s
  refine wpAny_bind (wpAny_field hm.1 rfl (x := .ref a) rfl ?_)
  show wpAny _ _ (if (Value.ref a == Value.none) = true then _ else _) _ _ s
  rw [if_neg (show ¬ ((Value.ref a == Value.none) = true) from Bool.false_ne_true)]
  show wpAny _ _ (field (.ref it) 1 >>= _) _ _ s
  refine wpAny_bind (wpAny_field hm.1 rfl (x := .int i 0) rfl ?_)
  show wpAny _ _ (seqItems? (.ref a) >>= _) _ _ s
  refine wpAny_bind (wpAny_seqItems (N _ hl).1 hda ?_)
  have hx' : va.toArray[i]? = none := by simpa using hx
  simp only [Int.toNat_natCast, hx']
  have hs := Heap.SameBut.update s.heap it (Obj.mapFields (·.setIfInBounds 0 Value.none))
  refine wpAny_bind (wpAny_rule (wpAny_bind (wpAny_setField hm.1 rfl (by simp) ?_)))
  show wpAny _ _ (newExc (.type "StopIteration") [] >>= _) _ _ _
  refine wpAny_bind ?_
  simp only [newExc, newTuple]
  refine wpAny_bind (wpAny_newObj_type ?_ (by size_fits))
  refine wpAny_bind (m := firstArgMember _ _) (wpAny_of_eq (a := Value.none) (by first | rfl | (simp only [firstArgMember]; rfl)) ?_)
  refine wpAny_newObj_type ?_ (by size_fits)
  simp only [raiseNew]
  refine wpAny_bind (wpAny_handled ?_)
  rw [show A.in1.in1.handled = none from hh]
  refine wpAny_bind (wpAny_pure (wpAny_throw ?_))
  refine h _ _ _ (F.change hs hm.2.1 hm.2.2) hs ⟨fun c o hb => Heap.get?_push_of_some _ (Heap.get?_push_of_some _ hb), ?_, _, _, Heap.get?_push_size _ rfl, rfl, rfl⟩
  exact Heap.get?_none_of_le (by rw [Heap.size_push]; exact Nat.le_succ _)
end
open PyProof.Rows in
theorem exc_leave {prog : Program} {w : World} {A₀ : Around} {E : Value → Shared → Prop} {R : Value → Shared → Prop} {s' : Shared} {g h : Heap} {L L' a e : Addr} {m : Str → Option Value} {name : Str} {scope : Scope} {cd : Value} {env : Env} {oL : Obj} {new : List (Addr × Obj)} {X : String}
    (hfr : A₀.frames = some [env]) (Fs : TI.Frs [env] [(L, oL)]) (hx : Heap.NewExc h s'.heap e X) (F : Fr g L' h m) (N : News g L' h (new ++ [(L, oL)])) (hne : ∀ p ∈ new, p.1 ≠ L)
    (k : ∀ h' sl, Fr g L' h' m → News g L' h' (new ++ [(L, { oL with slots := sl })]) → (∃ ob, h'.get? e = some ob ∧ ob.cls = .type X) → R (.ref e) { s' with heap := h' }) (hk : scope.kind = .function := by rfl) :
    wpAny (model prog w) (A₀.deeper (envOf name scope L' a cd)) (leaving (envOf name scope L' a cd) (.ref e)) (fun _ s'' => R (.ref e) s'') E s' := by
  unfold leaving
  refine wpAny_bind (TLg.noted_new1 hfr Fs hx F N (TLgL.allNe_of hne) (fun h₁ sl Fs₁ H₁ => ?_) hk)
  obtain ⟨F₁, ⟨ob, vs, tb, otb, tvs, he, hcls, hd, h1, htb, htd, h3, htbL, htbe, htb0⟩, _⟩ := H₁.held
  have hap := H₁.apart ob vs tb he hd h1
  have hs := Heap.SameBut.update h₁ tb (Obj.mapFields (·.setIfInBounds 3 Value.none))
  refine wpAny_setFlight_none he hd h1 htb htd (Array.getElem?_eq_some_iff.mp h3).1 (k _ sl (F₁.change hs htbL htb0) (fun p hp => ?_) ⟨ob, ?_, hcls⟩)
  · exact ⟨(hs.2 _ (hap p hp)).trans (H₁.made p hp).1, (H₁.made p hp).2⟩
  · exact (hs.2 _ htbe.symm).trans he
end

section
local macro_rules | `(tactic| k_ne) => `(tactic| (with_reducible show _ ≠ _; first | exact Ne.symm (by assumption) | assumption | (intro hz9; subst hz9; exact absurd (by assumption) (Nat.lt_irrefl _))))
def BoundCall (M : Model) (A : Around) (u D : Addr) (Q E : Value → Shared → Prop) (vs : List Value) (s₁ : Shared) : Prop := s₁.heap.get? u = some (boundO D) ∧ wpAny M A (call (.ref u) vs) Q E s₁
theorem callWith_bnd {M : Model} {A : Around} {E Q : Value → Shared → Prop} {s : Shared} {pos : Pos} {u D : Addr} {env : Env} {e : Expr} (h : wpAny M A (spliced (backTo pos (starEach [e] env))) (BoundCall M A u D Q E) E s)
    (he : starEach [e] env = [(false, eval e env)] := by rfl) : wpAny M A (callWith pos (.ref u) [] (backTo pos (starEach [e] env)) []) Q E s := by
  have hplain : (backTo pos (starEach [e] env)).any (·.1) = false := by rw [he]; rfl
  rw [he] at h hplain ⊢
  have h' : wpAny M A (evalArgs (.ref u) true (backTo pos [(false, eval e env)]) []) (fun x s₁ => BoundCall M A u D Q E x.pos s₁ ∧ x.kw = []) E s := evalArgs_plain (wpAny_mono h (fun vs s₁ hv => ⟨hv, rfl⟩) fun _ _ z => z)
  unfold callWith
  refine wpAny_bind (wpAny_holding (wpAny_mono h' (fun x s₁ hx => wpAny_bind (wpAny_standAt ?_)) fun _ _ z => z))
  obtain ⟨⟨ho, hcall⟩, hkw⟩ := hx
  simp only [hplain, hkw, List.any_nil, Bool.or_false]
  refine wpAny_bind (m := keeperOf (.ref u)) ?_
  unfold keeperOf
  refine wpAny_bind (wpAny_load ho ?_)
  simp only [show (Value.type "builtin_function_or_method" != Value.type "method") = true by decide, show (Value.type "builtin_function_or_method" == Value.type "builtin_function_or_method" || Value.type "builtin_function_or_method" == Value.type "method-wrapper") = true by decide, if_true]
  refine wpAny_pure ?_
  exact wpAny_bind (wpAny_mono hcall (fun r s₂ hr => wpAny_bind (wpAny_holding (wpAny_point (wpAny_pure hr)))) fun _ _ z => z)
theorem ff_mem {ts ls : List Str} {j k : Nat} {y : Str} (h : ∀ i z, j ≤ i → i < k → ts[i]? = some z → z ∈ ls) (e : ts[k]? = some y) (hy : y ∈ ls) : ∀ i z, j ≤ i → i < k + 1 → ts[i]? = some z → z ∈ ls := fun i z h1 h2 h3 => by
  rcases Nat.lt_or_ge i k with h4 | h4
  · exact h i z h1 h4 h3
  · obtain rfl : i = k := by omega
    rw [e] at h3; cases h3; exact hy
theorem fr_bind2 {g h : Heap} {L : Addr} {m : Str → Option Value} {a b : Str} {va vb : Value} (F : Fr g L h m) (h1 : m a = some va) (h2 : m b = some vb) :
    Fr g L h (fun z => if z = a then some va else if z = b then some vb else m z) := by
  have q : m = (fun z => if z = a then some va else if z = b then some vb else m z) := by
    funext z
    split
    · rename_i e; rw [e, h1]
    · split
      · rename_i e; rw [e, h2]
      · rfl
  rw [← q]; exact F
theorem keep_rows {h₀ h h' : Heap} {L it : Addr} {news news' : List (Addr × Obj)} (K : ∀ b o, b ∉ L :: news.map (·.1) → h.get? b = some o → h'.get? b = some o) (N : News h₀ L h news) (N' : News h₀ L h' news') (hs : ∀ p ∈ news, p.1 ≠ it → p ∈ news') : ∀ b o, b ≠ L → b ≠ it → h.get? b = some o → h'.get? b = some o := fun b o n1 n2 e => by
  by_cases hb : b ∈ news.map (·.1)
  · obtain ⟨p, hp, rfl⟩ := List.mem_map.mp hb
    have h1 := (N p hp).1
    rw [e] at h1; cases h1
    exact (N' p (hs p hp n2)).1
  · exact K b o (by
      rw [List.mem_cons, not_or]
      exact ⟨n1, hb⟩) e
/-- between two turns of the search: k items are behind -/
def FfJ (I dx it q D a₁ L : Addr) (oD oL : Obj) (va : List Value) (ts ls : List Str) (j n : Nat) (m : Str → Option Value) (nx : List (Addr × Obj)) : Prop :=
  ∃ k, j ≤ k ∧ k ≤ ts.length ∧ n = ts.length - k ∧ (∀ i z, j ≤ i → i < k → ts[i]? = some z → z ∈ ls) ∧ m "self" = some (.ref I) ∧ m "func" = some (.ref q) ∧
    nx = [(I, ffO dx it q), (dx, dictOf [] 0), (it, listIt a₁ (k : Int) 0), (q, boundO D), (D, oD), (a₁, LCg.lst va), (L, oL)]
local macro_rules | `(tactic| walk_at "call ref") => `(tactic| (k_here; (with_reducible show wpAny _ _ (call (Value.ref _) [Value.str _ _]) _ _ _); (rename SetObj _ _ _ _ _ => hO9); (rename News _ _ _ _ => N9); (k_dflt (refine bound_call (News.get N9 (by k_mem)) (hO9.2 _ (News.get N9 (by k_mem))) ?_))))
set_option maxHeartbeats 8000000 in
theorem c_ffn {w : World} {p : Program} {loose : List Str} {mean : ExcName → Option Value} {mg mb : Str → Option Value} {dp un : Nat} {gd : Option (List Code)} {cn : Str} {cs : Scope} {a : Addr} {ccd : Value} {cl : List (Str × Addr)} {h₀ : Heap} {L : Addr} {m : Str → Option Value} {s : Shared} {Q E : Value → Shared → Prop}
  {I dx it q D a₁ j : Nat} {oD : Obj} {va : List Value} {ts ls : List Str}
  (F : Fr h₀ L s.heap m) (X : (laid.heap_1 w.params).In h₀) (T : Top p loose mean mg mb h₀) (hk : cs.kind = .function) (hd : dp ≤ 400) (hu : un ≤ 4000)
  (N : News h₀ L s.heap [(I, ffO dx it q), (dx, dictOf [] 0), (it, listIt a₁ (j : Int) 0), (q, boundO D), (D, oD), (a₁, LCg.lst va)]) (od : a₁ < D ∧ D < q ∧ q < dx ∧ dx < I ∧ I < it)
  (hS : StrsAre va ts) (hO : SetObj PySem.Challenge.rw_ij0098_01.row.prog w D oD ls) (hj : j ≤ ts.length)
  (ret : ∀ (k : Nat) y t h' tk', j ≤ k → ts[k]? = some y → y ∉ ls → (∀ i z, j ≤ i → i < k → ts[i]? = some z → z ∈ ls) → Fr h₀ L h' m →
    News h₀ L h' [(I, ffO dx it q), (dx, dictOf [] 0), (it, listIt a₁ ((k + 1 : Nat) : Int) 0), (q, boundO D), (D, oD), (a₁, LCg.lst va)] → (∀ b o, b ≠ L → b ≠ it → s.heap.get? b = some o → h'.get? b = some o) → Q (.str y t) { s with heap := h', toks := tk' })
  (stop : ∀ e h' tk', (∀ i z, j ≤ i → ts[i]? = some z → z ∈ ls) → (∃ ob, h'.get? e = some ob ∧ ob.cls = .type "StopIteration") → Fr h₀ L h' m → (∀ b o, b ≠ L → b ≠ it → s.heap.get? b = some o → h'.get? b = some o) → E (.ref e) { s with heap := h', toks := tk' }) :
  wpAny (model PySem.Challenge.rw_ij0098_01.row.prog w) (ktrTop dp un gd cn cs L a ccd cl []) (call (.ref 104) [.ref I]) Q E s := by
  have hr9 : recursionLimit = 1000 := rfl
  have hc9 : cLine = 9900 := rfl
  (revert X; k_fill; intro X)
  refine wpAny_call ?_
  k_dflt (refine' code_defH (cn := cn) (cs := cs) (a := a) (ccd := ccd) (cl := cl) F N X T hk ?k6 ?k7 ?k8 ?k9 ?kB ?_ ?c2 ?c3 ?c4 ?c5; (case k6 => k_is); (case k7 => k_is); (case k8 => k_room); (case k9 => exact BindsTo.of_eq rfl); (case c5 => decide); (case kB => exact locs rfl); (case c2 => exact rfl); (case c3 => exact rfl); (case c4 => exact rfl))
  intro g' L' h' oL C9 Fs9 ne9 kG' h0g F' N' X' T'
  try dsimp only
  simp only [List.nil_append, List.cons_append] at N'
  simp only [PyProof.Rows.TLg.AllNe, and_true] at ne9
  k_with "exec While Constant cons nil" => (refine' While_inv2 (FfJ I dx it q D a₁ L oD oL va ts ls j) (n₀ := ts.length - j) ?F ?N ?J ?_; (case F => k_asm); (case N => k_asm); (case J => exact ⟨j, Nat.le_refl _, hj, rfl, fun i z h1 h2 => absurd h2 (Nat.not_lt.mpr h1), rfl, rfl, rfl⟩); rintro n m₁ nx h₁ tk₁ F₁ N₁ ⟨k, hk1, hk2, rfl, hmem, h1, h2, rfl⟩; replace F₁ := fr_bind2 F₁ h1 h2; clear h1 h2)
  (repeat' (first | (k_unfold; (try dsimp only)) | (k_end; wrow_close) | walk1 | (dsimp only; walk1) | (leave1; walk_say "STEP leave1"; try dsimp only) | fail "no step"))
  obtain ⟨od1, od2, od3, od4, od5⟩ := od
  obtain ⟨ne1, ne2, ne3, ne4, ne5, ne6⟩ := ne9
  by_cases hlt : k < ts.length
  · obtain ⟨t9, ht9⟩ := hS.get k _ (List.getElem?_eq_getElem hlt)
    k_dflt (refine' lnext_item (a := a₁) (va := va) (oa := LCg.lst va) ?F ?N ?U ?l rfl ht9 ?_; (case F => k_asm); (case N => k_asm); (case U => k_updF); (case l => k_mem); intro h9 F9 N9 hs9; (try dsimp only at N9 ⊢))
    (repeat' (first | (k_unfold; (try dsimp only)) | (k_end; wrow_close) | walk1 | (dsimp only; walk1) | (leave1; walk_say "STEP leave1"; try dsimp only) | fail "no step"))
    k_dflt (refine callWith_bnd (D := D) ?_)
    (repeat' (first | (k_unfold; (try dsimp only)) | (k_end; wrow_close) | walk1 | (dsimp only; walk1) | (leave1; walk_say "STEP leave1"; try dsimp only) | fail "no step"))
    (rename News _ _ _ _ => N8)
    k_dflt (refine ⟨News.get N8 (by k_mem), bound_call (News.get N8 (by k_mem)) (hO.2 _ (News.get N8 (by k_mem))) ?_⟩)
    (repeat' (first | (k_unfold; (try dsimp only)) | (k_end; wrow_close) | walk1 | (dsimp only; walk1) | (leave1; walk_say "STEP leave1"; try dsimp only) | fail "no step"))
    all_goals (first
      | ((with_reducible show WhileStep2 _ _ _ _ _ _ _ _); (rename Fr g' _ _ _ => F7); (rename News g' _ _ _ => N7); exact ⟨_, _, _, _, ts.length - (k + 1), rfl, F7, N7, by omega, k + 1, by omega, by omega, rfl, ff_mem hmem (List.getElem?_eq_getElem hlt) (by assumption), rfl, rfl, rfl⟩)
      | ((rename Fr g' _ _ _ => F7); (rename News g' _ _ _ => N7); obtain ⟨FL, NL, KL⟩ := hide_fin (news := [(I, ffO dx it q), (dx, dictOf [] 0), (it, listIt a₁ (j : Int) 0), (q, boundO D), (D, oD), (a₁, LCg.lst va)]) (news' := [(_, _), (_, _), (_, _), (_, _), (_, _), (_, _)]) (sl := oL.slots) C9 h0g kG' F7 N7 (by
          intro p hp
          simp only [List.mem_cons, List.not_mem_nil, or_false] at hp
          rcases hp with rfl | rfl | rfl | rfl | rfl | rfl
          · exact ne1
          · exact ne2
          · exact ne3
          · exact ne4
          · exact ne5
          · exact ne6); exact ret k _ _ _ _ hk1 (List.getElem?_eq_getElem hlt) (by assumption) hmem FL NL (keep_rows KL N NL (by
            intro p hp hn
            simp only [List.mem_cons, List.not_mem_nil, or_false] at hp ⊢
            rcases hp with h | h | h | h | h | h
            · exact .inl h
            · exact .inr (.inl h)
            · exact absurd (by rw [h]) hn
            · exact .inr (.inr (.inr (.inl h)))
            · exact .inr (.inr (.inr (.inr (.inl h))))
            · exact .inr (.inr (.inr (.inr (.inr h))))))))
  · k_dflt (refine' lnext_end (a := a₁) (va := va) (oa := LCg.lst va) rfl ?F ?N ?i ?l rfl ?x ?_; (case F => k_asm); (case N => k_asm); (case i => k_mem); (case l => k_mem); (case x => exact List.getElem?_eq_none (by rw [hS.length]; omega)); intro e9 h19 h29 F9 hs9 hX9; (try dsimp only))
    have N19 : News g' L' h19 ([(I, ffO dx it q), (dx, dictOf [] 0), (q, boundO D), (D, oD), (a₁, LCg.lst va)] ++ [(L, oL)]) := news_but N₁ hs9 (by
      intro p hp
      simp only [List.mem_cons, List.mem_append, List.not_mem_nil, or_false] at hp ⊢
      rcases hp with (rfl | rfl | rfl | rfl | rfl) | rfl
      · exact ⟨.inl rfl, Nat.ne_of_lt od5⟩
      · exact ⟨.inr (.inl rfl), Nat.ne_of_lt (by omega)⟩
      · exact ⟨.inr (.inr (.inr (.inl rfl))), Nat.ne_of_lt (by omega)⟩
      · exact ⟨.inr (.inr (.inr (.inr (.inl rfl)))), Nat.ne_of_lt (by omega)⟩
      · exact ⟨.inr (.inr (.inr (.inr (.inr (.inl rfl))))), Nat.ne_of_lt (by omega)⟩
      · exact ⟨.inr (.inr (.inr (.inr (.inr (.inr rfl))))), fun e => ne3 e.symm⟩)
    have hne5 : ∀ p ∈ [(I, ffO dx it q), (dx, dictOf [] 0), (q, boundO D), (D, oD), (a₁, LCg.lst va)], p.1 ≠ L := by
      intro p hp
      simp only [List.mem_cons, List.not_mem_nil, or_false] at hp
      rcases hp with rfl | rfl | rfl | rfl | rfl
      · exact ne1
      · exact ne2
      · exact ne4
      · exact ne5
      · exact ne6
    refine exc_leave (R := fun e s => E e s) rfl Fs9 hX9 F9 N19 hne5 ?_
    intro hz slz Fz Nz hob
    obtain ⟨FL, NL, KL⟩ := hide_fin (news := [(I, ffO dx it q), (dx, dictOf [] 0), (it, listIt a₁ (j : Int) 0), (q, boundO D), (D, oD), (a₁, LCg.lst va)]) C9 h0g kG' Fz Nz hne5
    refine stop e9 hz _ (fun i z h1 h2 => hmem i z h1 ?_ h2) hob FL (keep_rows KL N NL ?_)
    · have := (List.getElem?_eq_some_iff.mp h2).1; omega
    · intro p hp hn
      simp only [List.mem_cons, List.not_mem_nil, or_false] at hp ⊢
      rcases hp with h | h | h | h | h | h
      · exact .inl h
      · exact .inr (.inl h)
      · exact absurd (by rw [h]) hn
      · exact .inr (.inr (.inl h))
      · exact .inr (.inr (.inr (.inl h)))
      · exact .inr (.inr (.inr (.inr h)))
end

section
set_option maxHeartbeats 8000000 in
theorem c_itF {w : World} {p : Program} {loose : List Str} {mean : ExcName → Option Value} {mg mb : Str → Option Value} {dp un : Nat} {s : Shared} {Q E : Value → Shared → Prop} {I : Addr} (X : (laid.heap_1 w.params).In s.heap) (T : Top p loose mean mg mb s.heap) (hd : dp + 5 < recursionLimit) (hu : un + 40 < cLine)
  (ret : ∀ h' tk', (∀ b o, s.heap.get? b = some o → h'.get? b = some o) → Q (.ref I) { s with heap := h', toks := tk' }) :
  wpAny (model PySem.Challenge.rw_ij0098_01.row.prog w) (topN dp un) (call (.ref 97) [.ref I]) Q E s := by
  (revert X; k_fill; intro X)
  refine wpAny_call ?_
  (k_dflt (refine' code_defN ?k3 ?k5 ?k6 ?k7 ?k8 ?k9 ?kB ?_ ?c2 ?c3 ?c4 ?c5; (case k3 => k_asm); (case k5 => k_asm); (case k6 => k_is); (case k7 => k_is); (case k8 => k_room); (case k9 => exact BindsTo.of_eq rfl); (case c5 => decide); (case kB => exact locs rfl); (case c2 => exact rfl); (case c3 => exact rfl); (case c4 => exact rfl); k_whole; intro g' L' h' hg' F' N' X' T'; (try dsimp only)))
  (repeat' (first | (k_unfold; (try dsimp only)) | (k_end; wrow_close) | walk1 | (dsimp only; walk1) | (leave1; walk_say "STEP leave1"; try dsimp only) | fail "no step"))
  all_goals ((rename Fr _ _ _ _ => F9); subst hg'; exact ret _ _ (fun b o e => F9.keep b o e))
def keptOf (ts ls : List Str) : List Str := ts.filter fun y => decide (y ∉ ls)
theorem kept_none {ts ls : List Str} {j : Nat} (h : ∀ i z, j ≤ i → ts[i]? = some z → z ∈ ls) : keptOf (ts.drop j) ls = [] := by
  unfold keptOf
  rw [List.filter_eq_nil_iff]
  intro z hz
  obtain ⟨i, hi⟩ := List.getElem?_of_mem hz
  rw [List.getElem?_drop] at hi
  have := h (j + i) z (by omega) hi
  simp [this]
theorem kept_some {ts ls : List Str} : ∀ (d j k : Nat) (y : Str), k = j + d → ts[k]? = some y → y ∉ ls → (∀ i z, j ≤ i → i < k → ts[i]? = some z → z ∈ ls) → keptOf (ts.drop j) ls = y :: keptOf (ts.drop (k + 1)) ls
  | 0, j, k, y, hk, e, hy, _ => by
    obtain rfl : k = j := hk
    have hlt := (List.getElem?_eq_some_iff.mp e).1
    have e' : ts[k] = y := (List.getElem?_eq_some_iff.mp e).2
    unfold keptOf
    rw [List.drop_eq_getElem_cons hlt, List.filter_cons, e', if_pos (by simpa using hy)]
  | d + 1, j, k, y, hk, e, hy, h => by
    have hlt := (List.getElem?_eq_some_iff.mp e).1
    have hj : j < ts.length := by omega
    have hm := h j _ (Nat.le_refl _) (by omega) (List.getElem?_eq_getElem hj)
    have ih := kept_some d (j + 1) k y (by omega) e hy fun i z h1 h2 => h i z (by omega) h2
    rw [← ih]
    unfold keptOf
    rw [List.drop_eq_getElem_cons hj, List.filter_cons, if_neg (by simpa using hm)]
section
variable {w : World} {p : Program} {loose : List Str} {mean : ExcName → Option Value} {mg mb : Str → Option Value} {dp un : Nat} {gd : Option (List Code)} {cn : Str} {cs : Scope} {a : Addr} {ccd : Value} {cl : List (Str × Addr)} {h₀ : Heap} {L : Addr} {m : Str → Option Value}
  {I dx it q D a₁ S : Nat} {oD : Obj} {va : List Value} {ts ls : List Str} {s₀ : Shared}
def FlJ (h₀ : Heap) (L : Addr) (m : Str → Option Value) (s₀ : Shared) (I dx it q D a₁ S : Nat) (oD : Obj) (va : List Value) (ts ls : List Str) (i : Nat) (acc : Array Value) (s : Shared) : Prop :=
  ∃ j c, j ≤ ts.length ∧ keptOf (ts.drop j) ls = (keptOf ts ls).drop i ∧ Fr h₀ L s.heap m ∧ News h₀ L s.heap [(I, ffO dx it q), (dx, dictOf [] 0), (it, listIt a₁ ((j : Nat) : Int) 0), (q, boundO D), (D, oD), (a₁, LCg.lst va)] ∧ s.heap.get? S = some { cls := .type "list", dict := none, data := .seq acc c, slots := #[] } ∧
    s.gens = s₀.gens ∧ s.drawn = s₀.drawn ∧ s.os = s₀.os ∧ (∀ b o, b ≠ L → b ≠ it → b ≠ S → s₀.heap.get? b = some o → s.heap.get? b = some o)
def FlD (h₀ : Heap) (L : Addr) (m : Str → Option Value) (s₀ : Shared) (it S : Nat) (acc : Array Value) (s : Shared) : Prop :=
  Fr h₀ L s.heap m ∧ (∃ c, s.heap.get? S = some { cls := .type "list", dict := none, data := .seq acc c, slots := #[] }) ∧ s.gens = s₀.gens ∧ s.drawn = s₀.drawn ∧ s.os = s₀.os ∧ (∀ b o, b ≠ L → b ≠ it → b ≠ S → s₀.heap.get? b = some o → s.heap.get? b = some o)
set_option maxHeartbeats 4000000 in
theorem ff_walk (X : (laid.heap_1 w.params).In h₀) (T : Top p loose mean mg mb h₀) (hk : cs.kind = .function) (hdp : dp ≤ 400) (hun : un ≤ 4000) (od : a₁ < D ∧ D < q ∧ q < dx ∧ dx < I ∧ I < it) (oS : it < S) (hSL : S ≠ L) (hS0 : h₀.get? S = none) (hS : StrsAre va ts) (hO : SetObj PySem.Challenge.rw_ij0098_01.row.prog w D oD ls) :
    OwnWalk PySem.Challenge.rw_ij0098_01.row.prog w (ktrTop dp un gd cn cs L a ccd cl []) (laid.heap_1 w.params) I S 108 (keptOf ts ls).length (fun i v => ∃ y t, (keptOf ts ls)[i]? = some y ∧ v = .str y t) (FlJ h₀ L m s₀ I dx it q D a₁ S oD va ts ls) (FlD h₀ L m s₀ it S) := by
  have hr9 : recursionLimit = 1000 := rfl
  have hc9 : cLine = 9900 := rfl
  (revert X; k_fill; intro X)
  have f1 : findIn (laid.heap_1 w.params) (.ref 108) "__len__" = some none := by k_is
  have f2 : findIn (laid.heap_1 w.params) (.ref 108) "__length_hint__" = some none := by k_is
  have f3 : findIn (laid.heap_1 w.params) (.ref 108) "__iter__" = some (some (.ref 97)) := by k_is
  have f4 : findIn (laid.heap_1 w.params) (.ref 108) "__next__" = some (some (.ref 104)) := by k_is
  have f5 : isFn (laid.heap_1 w.params) (.ref 97) = true := by k_is
  have f6 : isFn (laid.heap_1 w.params) (.ref 104) = true := by k_is
  obtain ⟨q1, q2, q3, q4, q5⟩ := id od
  exact {
    ne := Nat.ne_of_gt (Nat.lt_trans q5 oS)
    frag := fun i acc s hJ => by obtain ⟨_, _, _, _, F, _⟩ := hJ; exact X.keeps F.keep
    inst := fun i acc s hJ => by obtain ⟨_, _, _, _, _, N, _⟩ := hJ; exact ⟨_, _, InstAt.of_news N (.head _) (.tail _ (.head _))⟩
    noLen := f1
    noHint := f2
    list := fun i acc s hJ => by obtain ⟨_, c, _, _, _, _, hS, _⟩ := hJ; exact ⟨c, hS⟩
    put := fun i acc s h' acc' c' hJ hs hS' => by
      obtain ⟨j, c, a1, a2, F, N, hS, a3, a4, a5, a6⟩ := hJ
      refine ⟨j, c', a1, a2, F.change hs hSL hS0, fun p hp => ?_, hS', a3, a4, a5, fun b o b1 b2 b3 e => (hs.2 b b3).trans (a6 b o b1 b2 b3 e)⟩
      have hN := N p hp
      refine ⟨(hs.2 p.1 ?_).trans hN.1, hN.2⟩
      simp only [List.mem_cons, List.not_mem_nil, or_false] at hp
      rcases hp with rfl | rfl | rfl | rfl | rfl | rfl
      · exact Nat.ne_of_lt (by omega)
      · exact Nat.ne_of_lt (by omega)
      · exact Nat.ne_of_lt (by omega)
      · exact Nat.ne_of_lt (by omega)
      · exact Nat.ne_of_lt (by omega)
      · exact Nat.ne_of_lt (by omega)
    iter := fun acc s Q E hJ hQ => by
      obtain ⟨j, c, a1, a2, F, N, hS, a3, a4, a5, a6⟩ := hJ
      refine owit_iter F X (InstAt.of_news N (.head _) (.tail _ (.head _))) f3 f5 ?_
      refine wpAny_topN (dp := 410) (un := 4010) rfl (by show dp ≤ 410; omega) (by show un ≤ 4010; omega) (c_itF (X.keeps F.keep) (T.keeps F.keep) (by omega) (by omega) fun h' tk' k => ?_)
      refine owit_it (K := laid.heap_1 w.params) (fr_keep F k) X (InstAt.of_news (news_keep N k) (.head _) (.tail _ (.head _))) f4 ?_
      exact hQ h' tk' ⟨j, c, a1, a2, fr_keep F k, news_keep N k, k _ _ hS, a3, a4, a5, fun b o b1 b2 b3 e => k _ _ (a6 b o b1 b2 b3 e)⟩
    item := fun i acc s Q E hi hJ hQ => by
      obtain ⟨j, c, a1, a2, F, N, hS9, a3, a4, a5, a6⟩ := hJ
      refine owit_next F X (InstAt.of_news N (.head _) (.tail _ (.head _))) f4 f6 ?_
      have e0 : (keptOf ts ls).drop i = (keptOf ts ls)[i] :: (keptOf ts ls).drop (i + 1) := List.drop_eq_getElem_cons hi
      refine c_ffn F X T hk hdp hun N od hS hO a1 (fun k y t h' tk' hk1 hy hny hmem F' N' hK => ?_) (fun e h' tk' hall _ _ _ => ?_)
      · have e1 := kept_some (k - j) j k y (by omega) hy hny hmem
        rw [a2, e0] at e1
        have e2 := List.cons.inj e1
        have hkl := (List.getElem?_eq_some_iff.mp hy).1
        exact hQ _ _ ⟨y, t, by rw [List.getElem?_eq_getElem hi, e2.1], rfl⟩ ⟨k + 1, c, by omega, e2.2.symm, F', N', hK _ _ hSL (Nat.ne_of_gt oS) hS9, a3, a4, a5, fun b o b1 b2 b3 e => hK _ _ b1 b2 (a6 b o b1 b2 b3 e)⟩
      · have e1 := kept_none hall
        rw [a2, e0] at e1
        cases e1
    done := fun acc s Q E hJ hQ => by
      obtain ⟨j, c, a1, a2, F, N, hS9, a3, a4, a5, a6⟩ := hJ
      refine owit_next F X (InstAt.of_news N (.head _) (.tail _ (.head _))) f4 f6 ?_
      rw [List.drop_length] at a2
      refine c_ffn F X T hk hdp hun N od hS hO a1 (fun k y t h' tk' hk1 hy hny hmem F' N' hK => ?_) (fun e h' tk' hall he F' hK => ?_)
      · have e1 := kept_some (k - j) j k y (by omega) hy hny hmem
        rw [a2] at e1
        cases e1
      · exact stop_is he (hQ _ ⟨F', ⟨c, hK _ _ hSL (Nat.ne_of_gt oS) hS9⟩, a3, a4, a5, fun b o b1 b2 b3 e => hK _ _ b1 b2 (a6 b o b1 b2 b3 e)⟩) }
end
def DiffMade (w : World) (h₀ hOld h' : Heap) (L I a₁ : Addr) (ls : List Str) : Prop :=
  ∃ (dx it q D : Nat) (oD : Obj), (@LT.lt Nat _ a₁ D ∧ D < q ∧ q < dx ∧ @LT.lt Nat _ dx I ∧ @LT.lt Nat _ I it) ∧ (∀ b, b = I ∨ b = dx ∨ b = it ∨ b = q ∨ b = D → hOld.get? b = none) ∧ News h₀ L h' [(I, ffO dx it q), (dx, dictOf [] 0), (it, listIt a₁ 0 0), (q, boundO D), (D, oD)] ∧ SetObj PySem.Challenge.rw_ij0098_01.row.prog w D oD ls
theorem diff_made {w : World} {h₀ hOld h' : Heap} {L I a₁ : Addr} {ls : List Str} {dx it q D : Nat} {oD : Obj} (h1 : ∀ b, b = I ∨ b = dx ∨ b = it ∨ b = q ∨ b = D → hOld.get? b = none) (h2 : @LT.lt Nat _ a₁ D ∧ D < q ∧ q < dx ∧ @LT.lt Nat _ dx I ∧ @LT.lt Nat _ I it) (h3 : News h₀ L h' [(I, ffO dx it q), (dx, dictOf [] 0), (it, listIt a₁ 0 0), (q, boundO D), (D, oD)]) (h4 : SetObj PySem.Challenge.rw_ij0098_01.row.prog w D oD ls) : DiffMade w h₀ hOld h' L I a₁ ls :=
  ⟨dx, it, q, D, oD, h2, h1, h3, h4⟩
theorem list_diff {w : World} {p : Program} {loose : List Str} {mean : ExcName → Option Value} {mg mb : Str → Option Value} {dp un : Nat} {gd : Option (List Code)} {cn : Str} {cs : Scope} {a : Addr} {ccd : Value} {cl : List (Str × Addr)} {h₀ : Heap} {L : Addr} {m : Str → Option Value} {s : Shared} {news : List (Addr × Obj)} {hOld : Heap} {I a₁ : Addr} {va : List Value} {ts ls : List Str} {Q E : Value → Shared → Prop}
    (F : Fr h₀ L s.heap m) (N : News h₀ L s.heap news) (hold : ∀ p ∈ news, hOld.get? p.1 ≠ none) (P : DiffMade w h₀ hOld s.heap L I a₁ ls) (ha : (a₁, LCg.lst va) ∈ news) (X : (laid.heap_1 w.params).In h₀) (T : Top p loose mean mg mb h₀) (hk : cs.kind = .function) (hdp : dp ≤ 390) (hun : un ≤ 3990) (hS : StrsAre va ts) (hlen : ts.length ≤ 1000)
    (ret : ∀ l vs c h' tk', Fr h₀ L h' m → News h₀ L h' ((l, { cls := .type "list", data := .seq vs.toArray c }) :: news) → (∀ p ∈ news, @LT.lt Nat _ p.1 l) → StrsAre vs (keptOf ts ls) → Q (.ref l) { s with heap := h', toks := tk' }) :
    wpAny (model PySem.Challenge.rw_ij0098_01.row.prog w) (ktrTop dp un gd cn cs L a ccd cl []) (call (.type "list") [.ref I]) Q E s := by
  obtain ⟨dx, it, q, D, oD, od, hfr, NP, hO⟩ := P
  have hI := Heap.lt_size (NP _ (.tail _ (.tail _ (.head _)))).1
  have hLs : L < s.heap.objs.size := F.ns.lt
  have up : ∀ b o, s.heap.get? b = some o → (s.heap.push { cls := .type "list", data := .seq #[] }).get? b = some o := fun b o e => Heap.get?_push_of_some _ e
  have hkl : (keptOf ts ls).length ≤ 1000 := Nat.le_trans (List.length_filter_le _ _) hlen
  refine call_list_own (n := (keptOf ts ls).length) (P := fun i v => ∃ y t, (keptOf ts ls)[i]? = some y ∧ v = .str y t) (J := FlJ h₀ L m { s with heap := s.heap.push { cls := .type "list", data := .seq #[] } } I dx it q D a₁ s.heap.objs.size oD va ts ls) (D := FlD h₀ L m { s with heap := s.heap.push { cls := .type "list", data := .seq #[] } } it s.heap.objs.size)
    (ff_walk (dp := dp) (un := un + 1 + 1) X T hk (by omega) (by omega) od hI (Nat.ne_of_gt hLs) (next_is_new F) hS hO) ?_ ?_ (by rw [sizeLine_eq]; omega)
  · refine ⟨0, 0, Nat.zero_le _, rfl, F.keeps up, fun p hp => ?_, Heap.get?_push_size _ rfl, rfl, rfl, rfl, fun b o _ _ _ e => e⟩
    have hp' : p ∈ [(I, ffO dx it q), (dx, dictOf [] 0), (it, listIt a₁ 0 0), (q, boundO D), (D, oD)] ∨ p = (a₁, LCg.lst va) := by
      simp only [List.mem_cons, List.not_mem_nil, or_false] at hp ⊢
      rcases hp with h | h | h | h | h | h
      · exact .inl (.inl h)
      · exact .inl (.inr (.inl h))
      · exact .inl (.inr (.inr (.inl h)))
      · exact .inl (.inr (.inr (.inr (.inl h))))
      · exact .inl (.inr (.inr (.inr (.inr h))))
      · exact .inr h
    rcases hp' with h | rfl
    · exact ⟨up _ _ (NP p h).1, (NP p h).2⟩
    · exact ⟨up _ _ (N _ ha).1, (N _ ha).2⟩
  · rintro ⟨h', gens', dr', tk', os'⟩ acc' ⟨F', ⟨c, hS'⟩, hg, hdr, hos, hK⟩ hacc
    dsimp only at hg hdr hos hS' hK F'
    subst hg hdr hos
    have nS : ∀ p ∈ news, @LT.lt Nat _ p.1 s.heap.objs.size := fun p hp => Heap.lt_size (N p hp).1
    refine ret _ acc'.toList c h' tk' F' (fun p hp => ?_) nS (strs_get ?_ fun i y hy => ?_)
    · rcases List.mem_cons.mp hp with rfl | hp
      · refine ⟨by simpa using hS', Nat.ne_of_gt hLs, next_is_new F⟩
      · refine ⟨hK _ _ (N p hp).2.1 (fun e => hold p hp (e ▸ hfr _ (.inr (.inr (.inl rfl))))) (Nat.ne_of_lt (nS p hp)) (up _ _ (N p hp).1), (N p hp).2⟩
    · rw [Array.length_toList, hacc.1]
    · have hv : acc'[i]? = some y := by simpa using hy
      obtain ⟨z, t, e, rfl⟩ := hacc.2 i y hv
      exact ⟨t, z, e, rfl⟩
theorem news_two {g h : Heap} {L : Addr} {p q : Addr × Obj} {news : List (Addr × Obj)} (N : News g L h news) (hp : p ∈ news) (hq : q ∈ news) : News g L h [p, q] := fun r hr => by
  rcases List.mem_cons.mp hr with rfl | hr
  · exact N _ hp
  · rw [List.mem_singleton.mp hr]; exact N _ hq
end

section
/-! what is left -/
def restOf (xs : List Int) (i : Nat) : List Str := ((List.range i).filter fun (m : Nat) => decide (((m : Nat) : Int) + 1 ∉ innerOf xs)).map fun m => ofL (pathAt xs (m + 1))
theorem rest_yes {xs : List Int} {i : Nat} (h : ((i : Nat) : Int) + 1 ∉ innerOf xs) : restOf xs (i + 1) = restOf xs i ++ [ofL (pathAt xs (i + 1))] := by
  unfold restOf
  rw [List.range_succ, List.filter_append, List.map_append, List.filter_cons, if_pos (by simpa using h)]
  rfl
theorem rest_no {xs : List Int} {i : Nat} (h : ((i : Nat) : Int) + 1 ∈ innerOf xs) : restOf xs (i + 1) = restOf xs i := by
  unfold restOf
  rw [List.range_succ, List.filter_append, List.map_append, List.filter_cons, if_neg (by simpa using h)]
  simp
theorem rest_len (xs : List Int) (i : Nat) : (restOf xs i).length ≤ i := by
  unfold restOf
  rw [List.length_map]
  exact Nat.le_trans (List.length_filter_le _ _) (by rw [List.length_range]; exact Nat.le_refl _)
theorem mem_zs {n : Nat} {l : List Nat} : ((n : Nat) : Int) ∈ zs l ↔ n ∈ l := by
  unfold zs
  rw [List.mem_map]
  constructor
  · rintro ⟨m, hm, e⟩
    obtain rfl : m = n := by omega
    exact hm
  · exact fun h => ⟨n, h, rfl⟩
theorem path_above {xs : List Int} {m : Nat} (hm : m < (textOf xs).length) : ofL (pathAt xs (m + 1)) ∈ allAbove xs ↔ ((m : Nat) : Int) + 1 ∈ innerOf xs := by
  have e : ((m : Nat) : Int) + 1 = ((m + 1 : Nat) : Int) := by omega
  unfold allAbove innerOf
  simp only [List.mem_flatten, List.mem_map, List.mem_range, e]
  constructor
  · rintro ⟨l, ⟨i, hi, rfl⟩, hl⟩
    unfold aboveOf at hl
    rw [← List.map_tail, List.mem_map] at hl
    obtain ⟨j, hj, e2⟩ := hl
    have hjm := ends_mem (List.mem_of_mem_tail hj)
    have := path_inj (xs := xs) (by omega) (by omega) (ofL_inj e2)
    subst this
    exact ⟨_, ⟨i, hi, rfl⟩, mem_zs.mpr hj⟩
  · rintro ⟨l, ⟨i, hi, rfl⟩, hl⟩
    refine ⟨_, ⟨i, hi, rfl⟩, ?_⟩
    unfold aboveOf
    rw [← List.map_tail, List.mem_map]
    exact ⟨m + 1, mem_zs.mp hl, rfl⟩
theorem kept_rest (xs : List Int) : keptOf (pathsOf xs) (allAbove xs) = restOf xs (textOf xs).length := by
  unfold keptOf pathsOf restOf
  rw [List.filter_map]
  congr 1
  refine List.filter_congr fun m hm => ?_
  rw [List.mem_range] at hm
  show decide (ofL (pathAt xs (m + 1)) ∉ allAbove xs) = _
  rw [decide_eq_decide]
  exact not_congr (path_above hm)
theorem kept_ok {ts ls : List Str} (h : ∀ z ∈ ts, PyData.strOk z = true) : ∀ d ∈ (keptOf ts ls).map Dat.str, kqdOk 8 d = true := by
  intro d hd
  obtain ⟨z, hz, rfl⟩ := List.mem_map.mp hd
  rw [kqdOk]
  exact h z (List.mem_filter.mp hz).1
theorem paths_ok (xs : List Int) : ∀ z ∈ pathsOf xs, PyData.strOk z = true := by
  intro z hz
  obtain ⟨i, _, rfl⟩ := List.mem_map.mp hz
  exact path_ok xs (i + 1)
theorem ints_dat {news : List (Addr × Obj)} : ∀ {vs : List Value} {l : List Int}, IntsAre vs l → DatAll news vs (l.map Dat.int)
  | _, _, .nil => .nil
  | _, _, .cons i t h => .cons (.int i t) (ints_dat h)
theorem ints_ok (l : List Int) : ∀ d ∈ l.map Dat.int, kqdOk 8 d = true := by
  intro d hd
  obtain ⟨z, _, rfl⟩ := List.mem_map.mp hd
  rw [kqdOk]
theorem mem_int {i : Int} {l : List Int} : Dat.int i ∈ l.map Dat.int ↔ i ∈ l := by
  rw [List.mem_map]
  constructor
  · rintro ⟨j, hj, e⟩
    cases e; exact hj
  · exact fun h => ⟨i, h, rfl⟩
theorem news_cons {g h : Heap} {L : Addr} {p : Addr × Obj} {all r : List (Addr × Obj)} (N : News g L h all) (hp : p ∈ all) (N' : News g L h r) : News g L h (p :: r) := fun q hq => by
  rcases List.mem_cons.mp hq with rfl | hq
  · exact N _ hp
  · exact N' q hq
section
variable {prog : Program} {w : World} {A : Around} {E : Value → Shared → Prop} {s : Shared} {h₀ : Heap} {L a b : Addr} {news : List (Addr × Obj)} {Q : Value → Shared → Prop}
open Classical in
theorem eq_strs {oa ob : Obj} {ka kb : Nat} {va vb : List Value} {la lb : List Str} (N : News h₀ L s.heap news) (ma : (a, oa) ∈ news) (mb : (b, ob) ∈ news) (ca : oa.cls = .type "list") (da : oa.data = .seq va.toArray ka) (cb : ob.cls = .type "list") (db : ob.data = .seq vb.toArray kb) (ha : StrsAre va la) (hb : StrsAre vb lb) (e : la = lb) (hok : ∀ d ∈ la.map Dat.str, kqdOk 8 d = true) (hu : A.units + 64 < cLine) (h : Q (.bool true) s) :
    wpAny (model prog w) A (compareOp .Eq (.ref a) (.ref b)) Q E s := by
  subst e
  refine kqd_eq (n₁ := []) (n₂ := []) N ma ca da (strs_dat ha) (fun _ h => nomatch h) mb cb db (strs_dat hb) (fun _ h => nomatch h) hok hok hu ?_
  rw [decide_eq_true rfl]
  exact h
end
section
variable {prog : Program} {w : World} {A : Around} {E : Value → Shared → Prop} {s : Shared} {h₀ : Heap} {L a : Addr} {news : List (Addr × Obj)} {Q : Value → Shared → Prop}
open Classical in
theorem notin_ints {oa : Obj} {ka : Nat} {va : List Value} {ns : List Int} {i : Int} {t : Tok} (N : News h₀ L s.heap news) (ma : (a, oa) ∈ news) (ca : oa.cls = .type "list") (da : oa.data = .seq va.toArray ka) (ha : IntsAre va ns) (hu : A.units + 64 < cLine) (h0 : i ∈ ns → Q (.bool false) s) (h1 : i ∉ ns → Q (.bool true) s) :
    wpAny (model prog w) A (compareOp .NotIn (.int i t) (.ref a)) Q E s := by
  refine kqd_notIn (n₁ := []) (n₂ := []) N ma ca da (ints_dat ha) (fun _ h => nomatch h) (.int i t) (fun _ h => nomatch h) (ints_ok ns) rfl hu ?_
  by_cases h : i ∈ ns
  · rw [decide_eq_true (mem_int.mpr h)]; exact h0 h
  · rw [decide_eq_false fun q => h (mem_int.mp q)]; exact h1 h
end
theorem good_bool {c : ClaimW} {cl : Str → Option Addr} {mean : ExcName → Option Value} {args : List WData} {s₁ s' : Shared} {L : Addr} {m : Str → Option Value} {b : Bool} (F : Fr s₁.heap L s'.heap m) (hg : AllBare s'.gens) (hn : ∀ cls, c.raises args cls = false) (hp : c.post args (.bool b) args = true) (hos : s'.os = s₁.os) :
    GoodWG c cl mean args s₁ (.ok (.ret (.bool b))) s' := ⟨.inl ⟨_, _, _, rfl, hn, .bool b, hp, unshared_nil⟩, OldK.of_keep F.keep, hos, hg⟩
end

section
def EndsO (xs : List Int) (i : Nat) (o : Obj) : Prop := ∃ (vs : List Value) (c : Nat), o = { cls := .type "list", data := .seq vs.toArray c } ∧ IntsAre vs (zs (endsOf ((textOf xs).take (i + 1))))
section
open PyProof.Rows PyProof.Rows.LCg
variable {h₀ : Heap} {L I C D : Addr} {m : Str → Option Value}
theorem news_add {g h h' : Heap} {L l : Addr} {m : Str → Option Value} {o : Obj} {news : List (Addr × Obj)} (F : Fr g L h m) (N : News g L h news) (k : ∀ b o, h.get? b = some o → h'.get? b = some o) (hg : h'.get? l = some o) (hn : h.get? l = none) :
    News g L h' ((l, o) :: news) ∧ (∀ p ∈ news, p.1 ≠ l) := by
  have nL : l ≠ L := fun e => by
    obtain ⟨oL, _, _, hL, _⟩ := F.ns
    rw [← e, hn] at hL; cases hL
  refine ⟨fun p hp => ?_, fun p hp e => ?_⟩
  · rcases List.mem_cons.mp hp with rfl | hp
    · refine ⟨hg, nL, ?_⟩
      cases q : g.get? l with
      | none => rfl
      | some o' => have := F.keep _ _ q; rw [hn] at this; cases this
    · exact ⟨k _ _ (N p hp).1, (N p hp).2⟩
  · have := (N p hp).1
    rw [e, hn] at this; cases this
theorem off3_cons {p : Addr × Obj} {l : List (Addr × Obj)} (h : p.1 ≠ I ∧ p.1 ≠ C ∧ p.1 ≠ D) (k : Off3 I C D l) : Off3 I C D (p :: l) := Off3.of fun q hq => by
  rcases List.mem_cons.mp hq with rfl | hq
  · exact h
  · exact k.mem q hq
theorem off3_mid {p : Addr × Obj} {l r : List (Addr × Obj)} (h : p.1 ≠ I ∧ p.1 ≠ C ∧ p.1 ≠ D) (k : Off3 I C D (l ++ r)) : Off3 I C D (l ++ p :: r) := Off3.of fun q hq => by
  rcases List.mem_append.mp hq with hq | hq
  · exact k.mem q (List.mem_append_left _ hq)
  · rcases List.mem_cons.mp hq with rfl | hq
    · exact h
    · exact k.mem q (List.mem_append_right _ hq)
theorem grow_end {oI oC o : Obj} {ys : List Value} {news rows all : List (Addr × Obj)} {dr : Drawn} {os : OsState} {GR : Array GenState → Prop} {PO : Nat → Obj → Prop} {i : Nat} {l : Addr} {h' : Heap} {tk' : Nat} {g' : Array GenState} (F : Fr h₀ L h' m) (N : News h₀ L h' all)
    (sub : ∀ p ∈ (l, o) :: (I, oI) :: (C, oC) :: (D, lst ys) :: (news ++ rows), p ∈ all) (off : Off3 I C D (news ++ rows)) (nl : l ≠ I ∧ l ≠ C ∧ l ≠ D) (ho : PO i o) (hG : GR g') :
    ZEnd h₀ L m I oI C oC D ys dr os (fun y nw g' => ∃ a o, y = .ref a ∧ nw = news ++ (a, o) :: rows ∧ PO i o ∧ GR g') (.ref l) { heap := h', gens := g', drawn := dr, toks := tk', os := os } := by
  refine ZEnd.intro (news ++ (l, o) :: rows) F N (fun p hp => sub p ?_) (off3_mid nl off) ⟨l, o, rfl, rfl, ho, hG⟩
  simp only [List.mem_cons, List.mem_append] at hp ⊢
  rcases hp with h | h | h | h | h | h
  · exact .inr (.inl h)
  · exact .inr (.inr (.inl h))
  · exact .inr (.inr (.inr (.inl h)))
  · exact .inr (.inr (.inr (.inr (.inl h))))
  · exact .inl h
  · exact .inr (.inr (.inr (.inr (.inr h))))
end
end

/-- stops the walk -/
structure Held9 (P : Prop) : Prop where
  out : P
theorem held9_in {P : Prop} (h : Held9 P) : P := h.out
section
local macro_rules | `(tactic| walk_at "call builtin:str.join") => `(tactic| (k_here; (try dsimp only [List.nil_append, List.cons_append]); (with_reducible show wpAny _ _ (call (Value.builtin "str.join") [Value.str _ _, Value.ref _]) _ _ _); (k_dflt (refine' join_text ?jh ?jl ?jz ?jp ?_; (case jh => exact News.isList (by k_asm) (by k_mem)); (case jp => assumption); (case jl => (rw [List.size_toArray, List.length_map]; assumption)); (case jz => (rw [List.length_map]; exact Nat.le_trans (drawn_len _) (by decide)));  intro _ _))))
local macro_rules | `(tactic| walk_at "call type:list") => `(tactic| (k_here; (with_reducible show wpAny _ _ (call (Value.type _) [Value.ref _]) _ _ _); (with_reducible rename IsRange _ _ _ _ _ _ _ _ => hR9); (k_dflt (refine' list_sizes ?hh ?F ?N hR9 ?hb ?hn ?_; (case hh => exact rfl); (case F => k_asm); (case N => k_asm); (case hb => exact rfl); (case hn => exact Nat.le_trans (text_len _).2 (by decide)); intro D9 ys9 c9 h9 tk9 hl9 F9 N9 hS9; clear hR9; (simp only [List.forall_mem_cons, List.forall_mem_nil, and_true] at hl9)))))
local macro_rules | `(tactic| walk_at "subscriptTail Name Slice str ref") => `(tactic| (k_here; (with_reducible show wpAny _ _ (subscriptTail _ (Expr.Slice none (some _) none _) (Value.str (ofL (textOf _)) _) _) _ _ _); (rename Fr _ _ _ _ => F9); (rename News _ _ _ _ => N9); (k_dflt (refine slice_strN_ns (hsz := ?hsz) (s := ⟨_, _, _, _, _⟩) F9 N9 ?_; (case hsz => (rw [ofL_length]; exact Nat.le_trans (text_len _).2 (by decide))))); intro _ _ _ _ _))
local macro_rules | `(tactic| walk_at "subscriptTail Name Slice ref ref") => `(tactic| (k_here; (with_reducible show wpAny _ _ (subscriptTail _ (Expr.Slice (some _) none none _) (Value.ref _) (Value.ref _)) _ _ _); (k_dflt (refine' slice_row ?F ?N ?l ?i ?z ?o ?_ ?s ?t; (case F => k_asm); (case N => k_asm); (case l => exact News.isList (by k_asm) (by k_mem)); (case i => assumption); (case z => exact ends_le); (case o => exact rfl); (case s => with_unfolding_all rfl); (case t => (intro _; with_unfolding_all rfl))); intro D9 ws9 h9 F9 N9 l9 hI9; (simp only [List.forall_mem_cons] at l9))))
local macro_rules | `(tactic| walk_at "compareOp NotEq ref ref") => `(tactic| (k_here; (k_dflt (refine' ne_bools (bs := []) (cs := []) ?k1 ?k2 ?k3 ?c1 ?d1 ?c2 ?d2 rfl ?k6 ?_; (case k1 => k_asm); (case k2 => k_mem); (case k3 => k_mem); (case c1 => exact rfl); (case d1 => exact rfl); (case c2 => exact rfl); (case d2 => exact rfl); (case k6 => ke_room)))))
local macro_rules | `(tactic| walk_at "compareOp NotIn int ref") => `(tactic| (k_here; (rename IntsAre _ (innerOf _) => hI9); (k_dflt (refine' notin_ints ?k1 ?k2 ?c1 ?d1 hI9 ?k6 ?_ ?_; (case k1 => k_asm); (case k2 => k_mem); (case c1 => exact rfl); (case d1 => exact rfl); (case k6 => ke_room))) <;> intro hm9))
local macro_rules | `(tactic| walk_at $s:str) => `(tactic| k_extra $s)
set_option maxHeartbeats 80000000 in
theorem law_holds : PySem.Challenge.rw_ij0098_01.Holds := hd (by
  k_with_none
  k_with "eval ListComp" => (k_here; (with_reducible show wpAny _ _ (eval (Expr.ListComp (Expr.Subscript (Expr.Name (PySem.Str.ofString "signs") _) _ _) _ _ _) _) _ _ _); k_dflt (refine eval_V (by k_asm) turnZ bodyZ_mono (by with_unfolding_all rfl) (by decide) (by rfl) (by decide) (by rfl) ?_))
  k_with "binaryOp Add str str" => (k_here; (with_reducible show wpAny _ _ (binaryOp _ (Value.str (ofL (List.map codeAt _)) _) (Value.str _ _)) _ _ _); k_dflt (refine add_tail ?_; intro _ _))
  k_with "binaryOp Add str str" => (k_here; (with_reducible show wpAny _ _ (binaryOp _ (Value.str (ofL (pathAt _ _)) _) (Value.str _ _)) _ _ _); (k_dflt (refine add_ofL (Nat.le_trans (Nat.add_le_add (path_len _ _) (by assumption)) (by decide)) ?_; intro _ _)))
  k_with "call builtin:len" => (k_here; (try dsimp only [List.nil_append, List.cons_append]); (with_reducible show wpAny _ _ (call (Value.builtin "len") [Value.str (ofL (textOf _)) _]) _ _ _); k_dflt (refine len_ofL (Nat.le_trans (text_len _).2 (by decide)) ?_; intro _ _))
  k_with "call type:range" => (k_here; k_dflt (refine range2_rows (by k_asm) (by k_asm) ?_; intro h9k4 tk9k4 t9k4 u9k4 v9k4 hR9k4 F9k4 N9k4 k9k4))
  k_with "eval ListComp" => (k_here; (with_reducible show wpAny _ _ (eval (Expr.ListComp (Expr.Call _ _ _ _) [Comprehension.mk _ _ [] _] _ _) _) _ _ _); k_dflt (refine eval_V (by k_asm) turnZ bodyZ_mono (by with_unfolding_all rfl) (by decide) (by rfl) (by decide) (by rfl) ?_))
  k_with "call ref" => (k_here; (with_reducible show wpAny _ _ (call (Value.ref 171) [Value.str _ _, Value.ref _]) _ _ _); (rename Fr _ _ _ _ => F9k6); (rename News _ _ _ _ => N9k6); (rename IntsAre _ (countsOf _) => hCt9k6); (k_dflt (refine c_path (outer := []) (by assumption) F9k6 (by assumption) (by assumption) rfl (by decide) (by decide) (slice_len _ _) (slice_le _ _) (News.isList N9k6 (by k_mem)) hCt9k6 (by rw [counts_len]; exact slice_len2 _ _) counts_bound ?_; intro _ _ _ hk9k6; replace N9k6 := news_keep N9k6 hk9k6; replace F9k6 := fr_keep F9k6 hk9k6; clear hk9k6; (try dsimp only))))
  k_with "call ref" => (k_here; (with_reducible show wpAny _ _ (call (Value.ref 178) [Value.str _ _]) _ _ _); (rename Fr _ _ _ _ => F9k7); (rename News _ _ _ _ => N9k7); (k_dflt (refine c_ends (outer := []) (by assumption) F9k7 (by assumption) (by assumption) rfl (by decide) (by decide) (slice_len _ _) ?_; intro l9k7 vs9k7 c9k7 _ _ hk9k7 hg9k7 hn9k7 hi9k7; obtain ⟨N9k7', ne9k7⟩ := news_add F9k7 N9k7 hk9k7 hg9k7 hn9k7; clear N9k7; replace F9k7 := fr_keep F9k7 hk9k7; clear hk9k7 hg9k7 hn9k7; (try dsimp only))))
  k_with "exec Assign cons ListComp" => (k_here; (with_reducible show wpAny _ _ (exec (Stmt.Assign _ (Expr.ListComp (Expr.Call _ _ _ _) _ _ _) _) _) _ _ _); k_dflt (refine assign_V (by k_asm) rfl (by with_unfolding_all rfl) turnZ bodyZ_mono (by with_unfolding_all rfl) (by decide) (by rfl) (by decide) (by rfl) (by rfl) (by rfl) ?_))
  k_with "subscriptTail Name BinOp ref int" => (k_here; (with_reducible show wpAny _ _ (subscriptTail _ _ (Value.ref _) (Value.int (((_ : Nat) : Int) + 1 - 1) _)) _ _ _); (k_dflt (refine item_path (News.isList (by k_asm) (by k_mem)) (by assumption) (_ + 1) rfl (by omega) (by omega) ?_; intro _)))
  k_with "binaryOp Mult str int" => (k_here; (with_reducible show wpAny _ _ (binaryOp _ (Value.str _ _) (Value.int (Int.fmod _ 3) _)) _ _ _); (k_dflt (refine mul_sl (fmod3 _).1 (fmod3 _).2 ?_; intro _ _ _)))
  k_with "call ref" => (k_here; (with_reducible show wpAny _ _ (call (Value.ref 119) [Value.str _ _]) _ _ _); (rename Fr _ _ _ _ => F9k11); (rename News _ _ _ _ => N9k11); (rename AllBare _ => hG9k11); (k_dflt (refine c_par (outer := []) (by assumption) F9k11 (by assumption) (by assumption) rfl (by decide) (by decide) (by rw [ofL_length, List.length_append]; exact Nat.le_trans (Nat.add_le_add (path_len _ _) (by with_reducible assumption)) (by decide)) ?_; intro I9k11 dx9k11 ga9k11 Lg9k11 D9k11 nm9k11 qn9k11 gs9k11 fo9k11 h9k11 tk9k11 u0 u2 u3 u4 o9k11 k9k11 hb9k11 ho9k11 hf9k11 N9k11' F9k11' hR9k11; have P9k11 := par_made hG9k11 hb9k11 ho9k11 hf9k11 N9k11' hR9k11; have H9k11 := held N9k11; replace N9k11 := news_keep N9k11 k9k11; clear F9k11 k9k11 hb9k11 ho9k11 hf9k11 N9k11' hR9k11 hG9k11; (try dsimp only))))
  k_with "call type:list" => (k_here; (with_reducible show wpAny _ _ (call (Value.type _) [Value.ref _]) _ _ _); (rename Fr _ _ _ _ => F9k12); (rename News _ _ _ _ => N9k12); (rename ParMade _ _ _ _ _ _ _ _ => P9k12); (rename ∀ p ∈ _, Heap.get? _ (Prod.fst p) ≠ none => H9k12); (k_dflt (refine list_par F9k12 N9k12 H9k12 P9k12 (by assumption) (by assumption) rfl (by decide) (by decide) _ (chain_at (Nat.succ_le_succ (Nat.zero_le _)) (by omega) _) (ends_len (Nat.succ_le_succ (Nat.zero_le _)) (by omega)).1 (ends_len (Nat.succ_le_succ (Nat.zero_le _)) (by omega)).2 ?_; intro l9k12 vs9k12 c9k12 h9k12 tk9k12 g9k12 F9k12' N9k12' ne9k12 hS9k12 hG9k12; clear F9k12 N9k12 P9k12 H9k12; (try dsimp only))))
  k_with "eval ListComp" => (k_here; (with_reducible show wpAny _ _ (eval (Expr.ListComp (Expr.ListComp _ _ _ _) _ _ _) _) _ _ _); k_dflt (refine eval_V (by k_asm) turnZ bodyZ_mono (by with_unfolding_all rfl) (by decide) (by rfl) (by decide) (by rfl) ?_))
  k_with "eval ListComp" => (k_here; (with_reducible show wpAny _ _ (eval (Expr.ListComp (Expr.Subscript _ _ _) [Comprehension.mk _ (Expr.Subscript _ _ _) _ _] _ _) _) _ _ _); k_dflt (refine eval_V (by k_asm) turnZ bodyZ_mono (by with_unfolding_all rfl) (by decide) (by rfl) (by decide) (by rfl) ?_))
  k_with "subscriptTail Name BinOp ref int" => (k_here; (with_reducible show wpAny _ _ (subscriptTail _ _ (Value.ref _) (Value.int (((_ : Nat) : Int) - 1) _)) _ _ _); (k_dflt (refine item_path (News.isList (by k_asm) (by k_mem)) (by assumption) _ rfl (by assumption) (by omega) ?_; intro _)))
  k_with "call builtin:str.split" => (k_here; (try dsimp only [List.nil_append, List.cons_append]); (with_reducible show wpAny _ _ (call (Value.builtin "str.split") [Value.str (ofL (pathAt _ _)) _, Value.str _ _]) _ _ _); (k_dflt (refine KSpl.split1 (by k_asm) (by k_asm) (by decide) ?_ (by rw [ofL_length, sizeLine_eq]; exact Nat.le_trans (Nat.add_le_add_right (path_len _ _) 2) (by decide)); intro D9k16 l9k16 h9k16 k9k16 e9k16 a9k16 F9k16 N9k16 l19; (simp only [List.forall_mem_cons] at l19))))
  k_with "subscriptTail Call Attribute cons nil UnaryOp ref int" => (k_here; (with_reducible show wpAny _ _ (subscriptTail _ _ (Value.ref _) (Value.int _ _)) _ _ _); (rename List.map _ _ = Txt.split _ _ => e9k17); (k_dflt (refine last_item (News.isList (by k_asm) (by k_mem)) e9k17 (by assumption) rfl (Nat.succ_le_succ (Nat.zero_le _)) (by omega) ?_; intro _)))
  k_with "call type:int" => (k_here; (try dsimp only [List.nil_append, List.cons_append]); (with_reducible show wpAny _ _ (call (Value.type "int") [Value.str (ofL (dg _)) _]) _ _ _); (rename 0 ≤ symAt _ _ ∧ symAt _ _ < 400 => s9k18); (k_dflt (refine int_dg s9k18.1 s9k18.2 ?_)))
  k_with "eval ListComp" => (k_here; (with_reducible show wpAny _ _ (eval (Expr.ListComp (Expr.Name _ _) [Comprehension.mk _ _ [_] _] _ _) _) _ _ _); k_dflt (refine eval_V (by k_asm) turnT bodyT_mono (by with_unfolding_all rfl) (by decide) (by rfl) (by decide) (by rfl) ?_))
  k_with "eval ListComp" => (k_here; (with_reducible show wpAny _ _ (eval (Expr.ListComp (Expr.Compare _ _ _ _) [Comprehension.mk _ _ [] _] _ _) _) _ _ _); refine held9_in ?_)
  k_with "eval ListComp" => (k_here; (with_reducible show wpAny _ _ (eval (Expr.ListComp (Expr.Name _ _) [Comprehension.mk _ _ _ _, Comprehension.mk _ _ _ _] _ _) _) _ _ _); k_dflt (refine eval_V (by k_asm) (turnN (by intro _ _; rfl)) bodyN_mono (by with_unfolding_all rfl) (by decide) (by rfl) (by decide) (by rfl) ?_))
  k_with "call ref" => (k_here; (with_reducible show wpAny _ _ (call (Value.ref 154) [Value.ref _, Value.ref _]) _ _ _); (rename Fr _ _ _ _ => F9k22); (rename News _ _ _ _ => N9k22); (rename StrsAre _ (allAbove _) => hS9k22); (k_dflt (refine c_diff (outer := []) (by assumption) F9k22 (by assumption) (by assumption) rfl (by decide) (by decide) (news_two N9k22 (by k_mem) (by k_mem)) hS9k22 (allAbove_len _) ?_; intro I9k22 dx9k22 it9k22 q9k22 D9k22 o9k22 h9k22 tk9k22 k9k22 hf9k22 od9k22 N9k22' F9k22' hO9k22; have P9k22 := diff_made hf9k22 od9k22 N9k22' hO9k22; have H9k22 := held N9k22; replace N9k22 := news_keep N9k22 k9k22; clear F9k22 k9k22 hf9k22 od9k22 N9k22' hO9k22; (try dsimp only))))
  k_with "call type:list" => (k_here; (with_reducible show wpAny _ _ (call (Value.type _) [Value.ref _]) _ _ _); (rename Fr _ _ _ _ => F9k23); (rename News _ _ _ _ => N9k23); (rename DiffMade _ _ _ _ _ _ _ _ => P9k23); (rename StrsAre _ (pathsOf _) => hS9k23); (rename ∀ p ∈ _, Heap.get? _ (Prod.fst p) ≠ none => H9k23); (k_dflt (refine list_diff F9k23 N9k23 H9k23 P9k23 (by k_mem) (by assumption) (by assumption) rfl (by decide) (by decide) hS9k23 (by rw [pathsOf_len]; exact Nat.le_trans (text_len _).2 (by decide)) ?_; intro l9k23 vs9k23 c9k23 h9k23 tk9k23 F9k23' N9k23' ne9k23 hS9k23; clear F9k23 N9k23 P9k23 H9k23; (try dsimp only))))
  k_with "eval ListComp" => (k_here; (with_reducible show wpAny _ _ (eval (Expr.ListComp (Expr.Subscript _ _ _) [Comprehension.mk _ _ [_] _] _ _) _) _ _ _); k_dflt (refine eval_V (by k_asm) turnT bodyT_mono (by with_unfolding_all rfl) (by decide) (by rfl) (by decide) (by rfl) ?_))
  k_fill
  intro w s₀ s₁ mg mb G Y fa o pm cd doc dV kV ho hd hcd hD hmg hg args vals as hpre hlay hrd hwl hlo
  have KX := kIn_of Y
  have X := (Ground.X G).1
  have V := (Ground.X G).2
  refine Ground.open G ?_
  intro T B D TE TW
  try (refine guard_noD D (by decide +kernel) ?_; clear D)
  obtain ⟨_, _, M⟩ := bmod_of_top T
  have TA := at_of_top T
  try (obtain ⟨_, _, he, B0⟩ := based_of_top T rfl hmg ho hd; have he' : cd = _ := he; subst he'; clear he)
  clear hmg
  wrow_args hpre hlay hrd hwl hlo
  refine enter_call ?_
  w_top on
  have K0 := below_caller (Top.heap T)
  w_call any ho hd hcd hD T F
  clear hd TA
  k_drop
  try k_fold
  (repeat' (first | (k_unfold; (try dsimp only)) | (k_end; wrow_close) | walk1 | (dsimp only; walk1) | (leave1; walk_say "STEP leave1"; try dsimp only) | fail "no step"))
  rename IntsAre _ (List.map _ _) => hDr
  rename List Int => xs
  replace hDr : IntsAre _ (drawnOf xs) := hDr
  have htl := text_len xs
  k_dflt (refine srcV_map (Pv := fun i y => ∃ (t : Tok) (c : Nat), ((drawnOf xs).map codeAt)[i]? = some c ∧ y = .str (ofL [c]) t) rfl (by k_asm) (by k_asm) (.inr ⟨_, by k_mem, rfl, _, rfl⟩) (by rw [List.size_toArray, hDr.length, sizeLine_eq]; have := drawn_len xs; omega) ?_ ?_)
  · intro I9 C9 D9 oI9 oC9 m9 ys9 h9 tk9 i9 v9 E9 hi9 hv9 hlt9 hID9 hDC9 hCL9 hDL9 hC09 hD09 hC9 hx9 F9 N9 off9
    obtain ⟨k9, t9, e9, hk9⟩ := IntsAre.at hDr i9 v9 (by simpa using hv9)
    subst e9
    have hr9 := drawn_range (List.mem_of_getElem? hk9)
    (repeat' (first | (k_unfold; (try dsimp only)) | (k_end; wrow_close) | walk1 | (dsimp only; walk1) | (leave1; walk_say "STEP leave1"; try dsimp only) | fail "no step"))
    rw [sign_item]
    exact ⟨_, _, _, _, rfl, by assumption, by assumption, off9, rfl, rfl, _, _, (by rw [List.getElem?_map, hk9]; rfl), rfl⟩
  intro D9 ys9 h9 tk9 hl9 hP9 o19 hb9
  unfold FinEV
  intro F9 N9
  simp only [List.forall_mem_cons, List.forall_mem_nil, and_true] at hb9
  rw [List.size_toArray, hDr.length] at hl9
  (repeat' (first | (k_unfold; (try dsimp only)) | (k_end; wrow_close) | walk1 | (dsimp only; walk1) | (leave1; walk_say "STEP leave1"; try dsimp only) | fail "no step"))
  rename IntsAre _ (sizesOf _) => hSz
  rename IntsAre _ (List.map _ _ ++ _) => hCt
  rename List Int => xs
  replace hCt : IntsAre _ (countsOf xs) := hCt
  k_dflt (refine srcV_map (Pv := fun i y => ∃ t, y = .str (ofL (pathOf (countsOf xs) ((textOf xs).take (i + 1)))) t) rfl (by k_asm) (by k_asm) (.inr ⟨_, by k_mem, rfl, _, rfl⟩) (by rw [List.size_toArray, hSz.length, sizeLine_eq]; unfold sizesOf; rw [List.length_map, List.length_range]; omega) ?_ ?_)
  · intro I9 C9 D9 oI9 oC9 m9 ys9 h9 tk9 i9 v9 E9 hi9 hv9 hlt9 hID9 hDC9 hCL9 hDL9 hC09 hD09 hC9 hx9 F9 N9 off9
    obtain ⟨k9, t9, e9, hk9⟩ := IntsAre.at hSz i9 v9 (by simpa using hv9)
    subst e9
    obtain ⟨hi99, rfl⟩ := sizes_at hk9
    (repeat' (first | (k_unfold; (try dsimp only)) | (k_end; wrow_close) | walk1 | (dsimp only; walk1) | (leave1; walk_say "STEP leave1"; try dsimp only) | fail "no step"))
    rw [slice_nat, toL_ofL]
    exact ⟨_, _, _, _, rfl, by assumption, by assumption, off9, rfl, rfl, _, rfl⟩
  intro D9 ys9 h9 tk9 hl9 hP9 o19 hb9
  unfold FinEV
  intro F9 N9
  simp only [List.forall_mem_cons, List.forall_mem_nil, and_true] at hb9
  rw [List.size_toArray, hSz.length] at hl9
  have hPs9 := paths_are (xs := xs) hl9 hP9
  clear hP9
  (repeat' (first | (k_unfold; (try dsimp only)) | (k_end; wrow_close) | walk1 | (dsimp only; walk1) | (leave1; walk_say "STEP leave1"; try dsimp only) | fail "no step"))
  rename List Int => xs
  rename IntsAre _ (sizesOf _) => hSz
  (repeat' (first | (k_unfold; (try dsimp only)) | (k_end; wrow_close) | walk1 | (dsimp only; walk1) | (leave1; walk_say "STEP leave1"; try dsimp only) | fail "no step"))
  k_dflt (refine srcV_grow (GR := fun g => g = s₁.gens) (PO := EndsO xs) rfl (by k_asm) (by k_asm) (.inr ⟨_, by k_mem, rfl, _, rfl⟩) (by rw [List.size_toArray, hSz.length, sizeLine_eq]; unfold sizesOf; rw [List.length_map, List.length_range]; omega) rfl ?_ ?_)
  · intro I9 C9 D9 oI9 oC9 m9 ys9 h9 tk9 i9 v9 rows9 g9 E9 hi9 hv9 hG9 hlt9 hID9 hDC9 hCL9 hDL9 hC09 hD09 hC9 hx9 F9 N9 off9
    obtain ⟨k9, t9, e9, hk9⟩ := IntsAre.at hSz i9 v9 (by simpa using hv9)
    subst e9 hG9
    obtain ⟨hi99, rfl⟩ := sizes_at hk9
    try simp only [List.cons_append, List.nil_append] at N9
    (repeat' (first | (k_unfold; (try dsimp only)) | (k_end; wrow_close) | walk1 | (dsimp only; walk1) | (leave1; walk_say "STEP leave1"; try dsimp only) | fail "no step"))
    (rename News _ _ _ (_ :: _) => N9')
    (rename ∀ p ∈ (_ :: _), Prod.fst p ≠ _ => ne9)
    (rename IntsAre _ (zs _) => hi9)
    simp only [List.forall_mem_cons] at ne9
    rw [slice_nat, toL_ofL] at hi9
    exact grow_end (GR := fun g => g = s₁.gens) (PO := EndsO xs) (i := i9) (by assumption) N9' (fun _ h => h) off9 ⟨Ne.symm ne9.1, Ne.symm ne9.2.1, Ne.symm ne9.2.2.1⟩ ⟨_, _, rfl, hi9⟩ rfl
  intro D9 ys9 h9 tk9 rows9 g9 hl9 hP9 hG9 o19 hb9
  subst hG9
  unfold FinAV
  intro F9 N9
  simp only [List.forall_mem_cons, List.forall_mem_nil, and_true] at hb9
  rw [List.size_toArray, hSz.length, sizes_len] at hl9
  try simp only [List.cons_append, List.nil_append] at N9
  have hE9 : RowsAre (EndsO xs) rows9 ys9 (textOf xs).length := ⟨hl9, hP9⟩
  clear hP9 hl9
  (repeat' (first | (k_unfold; (try dsimp only)) | (k_end; wrow_close) | walk1 | (dsimp only; walk1) | (leave1; walk_say "STEP leave1"; try dsimp only) | fail "no step"))
  rename List Int => xs
  rename IntsAre _ (sizesOf _) => hSz
  (repeat' (first | (k_unfold; (try dsimp only)) | (k_end; wrow_close) | walk1 | (dsimp only; walk1) | (leave1; walk_say "STEP leave1"; try dsimp only) | fail "no step"))
  k_dflt (refine srcV_grow (GR := AllBare) (PO := AboveO xs) rfl (by k_asm) (by k_asm) (.inr ⟨_, by k_mem, rfl, _, rfl⟩) (by rw [List.size_toArray, hSz.length, sizeLine_eq]; unfold sizesOf; rw [List.length_map, List.length_range]; have := text_len xs; omega) (.of_eq hg) ?_ ?_)
  · intro I9 C9 D9 oI9 oC9 m9 ys9 h9 tk9 i9 v9 rows9 g9 E9 hi9 hv9 hG9 hlt9 hID9 hDC9 hCL9 hDL9 hC09 hD09 hC9 hx9 F9 N9 off9
    obtain ⟨k9, t9, e9, hk9⟩ := IntsAre.at hSz i9 v9 (by simpa using hv9)
    subst e9
    obtain ⟨hi99, rfl⟩ := sizes_at hk9
    try simp only [List.cons_append, List.nil_append] at N9
    (repeat' (first | (k_unfold; (try dsimp only)) | (k_end; wrow_close) | walk1 | (dsimp only; walk1) | (leave1; walk_say "STEP leave1"; try dsimp only) | fail "no step"))
    (rename News _ _ _ (_ :: _) => N9')
    (rename ∀ p ∈ (_ :: _), Prod.fst p ≠ _ => ne9)
    (rename StrsAre _ (List.tail _) => hi9)
    (rename AllBare _ => hG9)
    simp only [List.forall_mem_cons] at ne9
    exact grow_end (GR := AllBare) (PO := AboveO xs) (i := i9) (by assumption) N9' (fun _ h => h) off9 ⟨Ne.symm ne9.1, Ne.symm ne9.2.1, Ne.symm ne9.2.2.1⟩ ⟨_, _, rfl, hi9⟩ hG9
  intro D9 ys9 h9 tk9 rows9 g9 hl9 hP9 hG9 o19 hb9
  unfold FinAV
  intro F9 N9
  simp only [List.forall_mem_cons, List.forall_mem_nil, and_true] at hb9
  rw [List.size_toArray, hSz.length, sizes_len] at hl9
  try simp only [List.cons_append, List.nil_append] at N9
  have hA9 : RowsAre (AboveO xs) rows9 ys9 (textOf xs).length := ⟨hl9, hP9⟩
  clear hP9 hl9
  rename List Int => xs
  rename IntsAre _ (sizesOf _) => hSz
  rename RowsAre (EndsO _) _ _ _ => hE
  rename AllBare _ => hGb
  (repeat' (first | (k_unfold; (try dsimp only)) | (k_end; wrow_close) | walk1 | (dsimp only; walk1) | (leave1; walk_say "STEP leave1"; try dsimp only) | fail "no step"))
  k_dflt (refine srcV_grow (GR := fun g => g = _) (PO := AboveO xs) rfl (by k_asm) (by k_asm) (.inr ⟨_, by k_mem, rfl, _, rfl⟩) (by rw [List.size_toArray, hE.1, sizeLine_eq]; have := text_len xs; omega) rfl ?_ ?_)
  · intro I9 C9 D9 oI9 oC9 m9 ys9 h9 tk9 i9 v9 rows9 g9 E9 hi9 hv9 hG9 hlt9 hID9 hDC9 hCL9 hDL9 hC09 hD09 hC9 hx9 F9 N9 off9
    subst hG9
    obtain ⟨a9, o9, e9, hm9, vs9, c9, e8, hI9⟩ := hE.2 i9 v9 (by simpa using hv9)
    subst e9 e8
    have hi99 : i9 < (textOf xs).length := by rw [← hE.1]; simpa using hi9
    try simp only [List.cons_append, List.nil_append] at N9
    replace N9 := news_dup N9 (p := (a9, { cls := .type "list", data := .seq vs9.toArray c9 })) (by simp only [List.mem_cons, List.mem_append, hm9, true_or, or_true])
    (repeat' (first | (k_unfold; (try dsimp only)) | (k_end; wrow_close) | walk1 | (dsimp only; walk1) | (leave1; walk_say "STEP leave1"; try dsimp only) | fail "no step"))
    (rename IntsAre _ (zs (List.tail _)) => hW9)
    replace hW9 : IntsAre _ (zs (endsAt xs (i9 + 1)).tail) := hW9
    have hwl := hW9.length
    rw [zs_len, ← above_len] at hwl
    have hwz : (aboveOf xs (i9 + 1)).length ≤ 1000 := by rw [above_len, List.length_tail]; have := ends_le (xs := xs) (n := i9 + 1); omega
    k_dflt (refine srcV_map (Pv := fun j y => ∃ t z, (aboveOf xs (i9 + 1))[j]? = some z ∧ y = Value.str z t) rfl (by k_asm) (by k_asm) (.inr ⟨_, by k_mem, rfl, _, rfl⟩) (by rw [List.size_toArray, hwl, sizeLine_eq]; omega) ?_ ?_)
    · intro I8 C8 D8 oI8 oC8 m8 ys8 h8 tk8 i8 v8 E8 hi8 hv8 hlt8 hID8 hDC8 hCL8 hDL8 hC08 hD08 hC8 hx8 F8 N8 off8
      obtain ⟨k8, t8, e8, hk8⟩ := IntsAre.at hW9 i8 v8 (by simpa using hv8)
      subst e8
      obtain ⟨n8, hn8, rfl⟩ := zs_get hk8
      obtain ⟨hz8, hn81, hn82⟩ := above_get hn8
      (repeat' (first | (k_unfold; (try dsimp only)) | (k_end; wrow_close) | walk1 | (dsimp only; walk1) | (leave1; walk_say "STEP leave1"; try dsimp only) | fail "no step"))
      exact ⟨_, _, _, _, rfl, by assumption, by assumption, off8, rfl, rfl, _, _, hz8, rfl⟩
    intro D8 ys8 h8 tk8 hl8 hP8 o18 hb8
    unfold FinEV
    intro F8 N8
    simp only [List.forall_mem_cons, List.forall_mem_nil, and_true] at hb8
    rw [List.size_toArray] at hl8
    (repeat' (first | (k_unfold; (try dsimp only)) | (k_end; wrow_close) | walk1 | (dsimp only; walk1) | (leave1; walk_say "STEP leave1"; try dsimp only) | fail "no step"))
    exact grow_end (GR := fun g => g = _) (PO := AboveO xs) (i := i9) F8 N8 (fun p hp => by
      rcases List.mem_cons.mp hp with rfl | hp
      · exact .head _
      · exact .tail _ (.tail _ (.tail _ hp))) off9 ⟨Nat.ne_of_gt (by omega), Nat.ne_of_gt (by omega), Nat.ne_of_gt (by omega)⟩ ⟨ys8, ys8.length, rfl, strs_get (by rw [hl8, hwl]) fun i y hy => by
        obtain ⟨t, z, e1, e2⟩ := hP8 i y hy
        exact ⟨t, z, e1, e2⟩⟩ rfl
  intro D9 ys9 h9 tk9 rows9 g9 hl9 hP9 hG9 o19 hb9
  subst hG9
  unfold FinEV
  intro F9 N9
  simp only [List.forall_mem_cons, List.forall_mem_nil, and_true] at hb9
  rw [List.size_toArray, hE.1] at hl9
  try simp only [List.cons_append, List.nil_append] at N9
  have hB9 : RowsAre (AboveO xs) rows9 ys9 (textOf xs).length := ⟨hl9, hP9⟩
  clear hP9 hl9
  rename List Int => xs
  rename IntsAre _ (sizesOf _) => hSz
  k_dflt (refine' ne_rows ?k1 ?k2 ?k4 (rows_dat hA9) ?k3 (rows_dat hB9) ?k5 (above_kqd _) rfl ?k6 ?_; (case k1 => k_asm); (case k2 => k_mem); (case k4 => k_mem); (case k3 => (intro q9 h9; simp only [List.mem_cons, List.mem_append, h9, true_or, or_true])); (case k5 => (intro q9 h9; simp only [List.mem_cons, List.mem_append, h9, true_or, or_true])); (case k6 => ke_room))
  dsimp only
  (repeat' (first | (k_unfold; (try dsimp only)) | (k_end; wrow_close) | walk1 | (dsimp only; walk1) | (leave1; walk_say "STEP leave1"; try dsimp only) | fail "no step"))
  rename List Int => xs
  rename StrsAre _ (pathsOf _) => hPs
  have hpl := hPs.length
  rw [pathsOf_len] at hpl
  k_dflt (refine srcV_map (Pv := fun i y => y = Value.bool (decide (symAt xs (i + 1) < 256))) rfl (by k_asm) (by k_asm) (.inr ⟨_, by k_mem, rfl, _, rfl⟩) (by rw [List.size_toArray, hpl, sizeLine_eq]; have := text_len xs; omega) ?_ ?_)
  · intro I9 C9 D9 oI9 oC9 m9 ys9 h9 tk9 i9 v9 E9 hi9 hv9 hlt9 hID9 hDC9 hCL9 hDL9 hC09 hD09 hC9 hx9 F9 N9 off9
    obtain ⟨t9, e9⟩ := path_val hPs hv9
    subst e9
    have hi99 : i9 < (textOf xs).length := by rw [← hpl]; simpa using hi9
    have hsy : 0 ≤ symAt xs (i9 + 1) ∧ symAt xs (i9 + 1) < 400 := by
      obtain ⟨_, _, _, _, _, a, b, _⟩ := symAt_last (xs := xs) (n := i9 + 1) (Nat.succ_le_succ (Nat.zero_le _)) hi99
      exact ⟨a, b⟩
    (repeat' (first | (k_unfold; (try dsimp only)) | (k_end; wrow_close) | walk1 | (dsimp only; walk1) | (leave1; walk_say "STEP leave1"; try dsimp only) | fail "no step"))
    (rename News _ _ _ (_ :: _) => N9')
    first
      | exact ZEnd.intro _ (by assumption) N9' (fun p hp => .tail _ hp) off9 ⟨rfl, rfl, rfl⟩
      | exact ZEnd.intro _ (by assumption) N9' (fun p hp => hp) off9 ⟨rfl, rfl, rfl⟩
  intro D9 ys9 h9 tk9 hl9 hP9 o19 hb9
  unfold FinAV
  intro F9 N9
  simp only [List.forall_mem_cons, List.forall_mem_nil, and_true] at hb9
  rw [List.size_toArray, hpl] at hl9
  try simp only [List.cons_append, List.nil_append] at N9
  obtain rfl := term_is hl9 hP9
  clear hP9 hl9
  rename List Int => xs
  (repeat' (first | (k_unfold; (try dsimp only)) | (k_end; wrow_close) | walk1 | (dsimp only; walk1) | (leave1; walk_say "STEP leave1"; try dsimp only) | fail "no step"))
  k_dflt (refine srcV_test (R := fun _ ys => ys = []) rfl (by k_asm) (by k_asm) (.inr ⟨_, by k_mem, rfl, _, rfl⟩) rfl (fun _ _ h => h ▸ Nat.zero_le _) ?_ ?_)
  · intro I9 C9 D9 oI9 oC9 m9 ys9 h9 tk9 i9 v9 E9 hi9 hv9 hR9 hlt9 hID9 hDC9 hCL9 hDL9 hC09 hD09 hC9 hx9 F9 N9 off9
    subst hR9
    obtain ⟨b9, rfl⟩ : ∃ b, v9 = Value.bool b := by
      have hv : ((termOf xs).map Value.bool)[i9]? = some v9 := by simpa using hv9
      rw [List.getElem?_map] at hv
      cases e : (termOf xs)[i9]? with
      | none => rw [e] at hv; cases hv
      | some b => rw [e] at hv; exact ⟨b, (Option.some.inj hv).symm⟩
    try simp only [List.cons_append, List.nil_append] at N9
    (repeat' (first | (k_unfold; (try dsimp only)) | (k_end; wrow_close) | walk1 | (dsimp only; walk1) | (leave1; walk_say "STEP leave1"; try dsimp only) | fail "no step"))
    exact ZEnd.intro _ (by assumption) (by assumption) (fun p hp => hp) off9 ⟨rfl, rfl, by first | trivial | rfl⟩
  intro D9 ys9 h9 tk9 hR9 o19 hb9
  subst hR9
  unfold FinEV
  intro F9 N9
  simp only [List.forall_mem_cons, List.forall_mem_nil, and_true] at hb9
  try simp only [List.cons_append, List.nil_append] at N9
  rename List Int => xs
  (repeat' (first | (k_unfold; (try dsimp only)) | (k_end; wrow_close) | walk1 | (dsimp only; walk1) | (leave1; walk_say "STEP leave1"; try dsimp only) | fail "no step"))
  refine ⟨?_⟩
  rename List Int => xs
  k_dflt (refine eval_strV (Pv := fun i y => ∃ c, (textOf xs)[i]? = some c ∧ y = Value.bool (decide (c ∈ opsL))) (by k_asm) (by with_unfolding_all rfl) (by decide) (by rfl) (by decide) (by rfl) ?_)
  (repeat' (first | (k_unfold; (try dsimp only)) | (k_end; wrow_close) | walk1 | (dsimp only; walk1) | (leave1; walk_say "STEP leave1"; try dsimp only) | fail "no step"))
  k_dflt (refine ⟨ofL (textOf xs), _, _, rfl, text_ascii xs, (by rw [text_size, sizeLine_eq]; have := text_len xs; omega), rfl, (by k_asm), (by k_asm), ?_, ?_⟩)
  · intro I9 C9 D9 oI9 oC9 m9 ys9 h9 tk9 i9 v9 E9 hi9 hv9 hlt9 hID9 hDC9 hCL9 hDL9 hC09 hD09 hC9 hx9 F9 N9 off9
    obtain ⟨c9, u9, e9, rfl⟩ := sign_val hv9
    (repeat' (first | (k_unfold; (try dsimp only)) | (k_end; wrow_close) | walk1 | (dsimp only; walk1) | (leave1; walk_say "STEP leave1"; try dsimp only) | fail "no step"))
    exact ZEnd.intro _ (by assumption) (by assumption) (fun p hp => hp) off9 ⟨rfl, rfl, c9, e9, congrArg Value.bool (ops_in c9)⟩
  intro D9 ys9 h9 tk9 hl9 hP9 o19 hb9
  unfold FinEV
  intro F9 N9
  simp only [List.forall_mem_cons, List.forall_mem_nil, and_true] at hb9
  rw [text_size] at hl9
  obtain rfl := term_get hl9 hP9
  clear hP9 hl9
  rename List Int => xs
  k_dflt (refine' ne_bools (bs := termOf xs) (cs := termOf xs) ?k1 ?k2 ?k3 ?c1 ?d1 ?c2 ?d2 rfl ?k6 ?_; (case k1 => k_asm); (case k2 => k_mem); (case k3 => k_mem); (case c1 => exact rfl); (case d1 => exact rfl); (case c2 => exact rfl); (case d2 => exact rfl); (case k6 => ke_room))
  dsimp only
  (repeat' (first | (k_unfold; (try dsimp only)) | (k_end; wrow_close) | walk1 | (dsimp only; walk1) | (leave1; walk_say "STEP leave1"; try dsimp only) | fail "no step"))
  k_dflt (refine srcV_two (k := fun i => (aboveOf xs (i + 1)).length) (P := fun i j y => ∃ z, (aboveOf xs (i + 1))[j]? = some z ∧ ∃ t, y = Value.str z t) (R := TwoR StrsAre (fun i => aboveOf xs (i + 1)) (textOf xs).length) rfl (by k_asm) (by k_asm) (.inr ⟨_, by k_mem, rfl, _, rfl⟩) (TwoR.zero .nil) (fun _ _ _ h => h.len (above_16 xs) (text_len xs).2) (fun i j ys y _ _ h hp => by obtain ⟨z, e, hp⟩ := hp; exact h.step (p := fun z y => ∃ t, y = Value.str z t) strs_snoc e hp) (fun i ys hi h => h.next (above_16 xs) (by rw [List.size_toArray, hA9.1] at hi; exact hi)) (fun _ => rfl) (fun _ => rfl) (fun _ => rfl) (by decide) ?_ ?_)
  · intro I9 C9 D9 oI9 oC9 m9 ys9 h9 tk9 i9 v9 E9 hi9 hv9 hlt9 hID9 hDC9 hCL9 hDL9 hC09 hD09 hC9 hx9 F9 N9 off9
    obtain ⟨a9, o9, e9, hm9, vs9, c9, e8, hI9⟩ := hA9.2 i9 v9 (by simpa using hv9)
    subst e9 e8
    (repeat' (first | (k_unfold; (try dsimp only)) | (k_end; wrow_close) | walk1 | (dsimp only; walk1) | (leave1; walk_say "STEP leave1"; try dsimp only) | fail "no step"))
    refine ⟨a9, vs9.toArray, _, _, _, rfl, rfl, (by rw [List.size_toArray, hI9.length]), by assumption, N9, off9, fun _ h => h, .inr ⟨{ cls := .type "list", data := .seq vs9.toArray c9 }, (by simp only [List.mem_cons, List.mem_append, hm9, true_or, or_true]), rfl, _, rfl⟩, fun j y e => ?_⟩
    have e' : vs9[j]? = some y := by simpa using e
    have hj := (List.getElem?_eq_some_iff.mp e').1
    rw [hI9.length] at hj
    obtain ⟨t, ht⟩ := hI9.get j _ (List.getElem?_eq_getElem hj)
    rw [e'] at ht
    exact ⟨_, List.getElem?_eq_getElem hj, t, Option.some.inj ht⟩
  intro D9 ys9 h9 tk9 hR9 o19 hb9
  unfold FinEV
  intro F9 N9
  simp only [List.forall_mem_cons, List.forall_mem_nil, and_true] at hb9
  rw [List.size_toArray, hA9.1] at hR9
  replace hR9 : StrsAre ys9 (allAbove xs) := hR9.fin
  rename List Int => xs
  (repeat' (first | (k_unfold; (try dsimp only)) | (k_end; wrow_close) | walk1 | (dsimp only; walk1) | (leave1; walk_say "STEP leave1"; try dsimp only) | fail "no step"))
  rename List Int => xs
  rename RowsAre (EndsO _) _ _ _ => hE
  (repeat' (first | (k_unfold; (try dsimp only)) | (k_end; wrow_close) | walk1 | (dsimp only; walk1) | (leave1; walk_say "STEP leave1"; try dsimp only) | fail "no step"))
  k_dflt (refine srcV_two (k := fun i => (zs (endsAt xs (i + 1)).tail).length) (P := fun i j y => ∃ z, (zs (endsAt xs (i + 1)).tail)[j]? = some z ∧ ∃ t, y = Value.int z t) (R := TwoR IntsAre (fun i => zs (endsAt xs (i + 1)).tail) (textOf xs).length) rfl (by k_asm) (by k_asm) (.inr ⟨_, by k_mem, rfl, _, rfl⟩) (TwoR.zero .nil) (fun _ _ _ h => h.len (inner_16 xs) (text_len xs).2) (fun i j ys y _ _ h hp => by obtain ⟨z, e, hp⟩ := hp; exact h.step (p := fun z y => ∃ t, y = Value.int z t) ints_snoc e hp) (fun i ys hi h => h.next (inner_16 xs) (by rw [List.size_toArray, hE.1] at hi; exact hi)) (fun _ => rfl) (fun _ => rfl) (fun _ => rfl) (by decide) ?_ ?_)
  · intro I9 C9 D9 oI9 oC9 m9 ys9 h9 tk9 i9 v9 E9 hi9 hv9 hlt9 hID9 hDC9 hCL9 hDL9 hC09 hD09 hC9 hx9 F9 N9 off9
    obtain ⟨a9, o9, e9, hm9, vs9, c9, e8, hI9⟩ := hE.2 i9 v9 (by simpa using hv9)
    subst e9 e8
    replace N9 := news_dup N9 (p := (a9, { cls := .type "list", data := .seq vs9.toArray c9 })) (by simp only [List.mem_cons, List.mem_append, hm9, true_or, or_true])
    (repeat' (first | (k_unfold; (try dsimp only)) | (k_end; wrow_close) | walk1 | (dsimp only; walk1) | (leave1; walk_say "STEP leave1"; try dsimp only) | fail "no step"))
    (rename IntsAre _ (zs (List.tail _)) => hW9)
    replace hW9 : IntsAre _ (zs (endsAt xs (i9 + 1)).tail) := hW9
    (rename News _ _ _ (_ :: _) => N9')
    (rename _ ∧ _ ∧ _ ∧ _ ∧ _ => l9)
    refine ⟨_, _, (_, listOf (List.toArray _) 0) :: _, _, _, rfl, rfl, (by rw [List.size_toArray, hW9.length]), by assumption, fun p hp => N9' p ?_, off3_cons ⟨Nat.ne_of_gt l9.2.1, Nat.ne_of_gt l9.2.2.1, Nat.ne_of_gt l9.2.2.2.1⟩ off9, fun _ h => .tail _ h, .inr ⟨_, .head _, rfl, _, rfl⟩, fun j y e => ?_⟩
    · rcases List.mem_cons.mp hp with rfl | hp
      · exact .tail _ (.tail _ (.head _))
      · rcases List.mem_cons.mp hp with rfl | hp
        · exact .tail _ (.tail _ (.tail _ (.head _)))
        · rcases List.mem_cons.mp hp with rfl | hp
          · exact .tail _ (.tail _ (.tail _ (.tail _ (.head _))))
          · rcases List.mem_cons.mp hp with rfl | hp
            · exact .head _
            · exact .tail _ (.tail _ (.tail _ (.tail _ (.tail _ hp))))
    · have e' := by simpa using e
      obtain ⟨k, t, e2, e3⟩ := IntsAre.at hW9 j y e'
      exact ⟨k, e3, t, e2⟩
  intro D9 ys9 h9 tk9 hR9 o19 hb9
  unfold FinEV
  intro F9 N9
  simp only [List.forall_mem_cons, List.forall_mem_nil, and_true] at hb9
  rw [List.size_toArray, hE.1] at hR9
  replace hR9 : IntsAre ys9 (innerOf xs) := hR9.fin
  (rename ∀ p ∈ _, @LT.lt Nat _ (Prod.fst p) _ => ne9)
  simp only [List.forall_mem_cons] at ne9
  try simp only [List.cons_append, List.nil_append] at N9
  replace N9 := (news_cons N9 (.head _) (news_cons N9 (.tail _ (.head _)) (news_cons N9 (.tail _ (.tail _ (.tail _ (.tail _ (.tail _ (.tail _ (.tail _ (.tail _ (.tail _ (.tail _ (.head _))))))))))) (news_cons N9 (.tail _ (.tail _ (.tail _ (.tail _ (.tail _ (.tail _ (.tail _ (.tail _ (.tail _ (.tail _ (.tail _ (.head _)))))))))))) (news_cons N9 (.tail _ (.tail _ (.tail _ (.tail _ (.tail _ (.tail _ (.tail _ (.tail _ (.tail _ (.tail _ (.tail _ (.tail _ (.tail _ (.tail _ (.tail _ (.tail _ (.tail _ (.tail _ (.head _))))))))))))))))))) (news_cons N9 (.tail _ (.tail _ (.tail _ (.tail _ (.tail _ (.tail _ (.tail _ (.tail _ (.tail _ (.tail _ (.tail _ (.tail _ (.tail _ (.tail _ (.tail _ (.tail _ (.tail _ (.tail _ (.tail _ (.head _)))))))))))))))))))) (news_cons N9 (.tail _ (.tail _ (.tail _ (.tail _ (.tail _ (.tail _ (.tail _ (.tail _ (.tail _ (.tail _ (.tail _ (.tail _ (.tail _ (.tail _ (.tail _ (.tail _ (.tail _ (.tail _ (.tail _ (.tail _ (.head _))))))))))))))))))))) (news_cons N9 (.tail _ (.tail _ (.tail _ (.tail _ (.tail _ (.tail _ (.tail _ (.tail _ (.tail _ (.tail _ (.tail _ (.tail _ (.tail _ (.tail _ (.tail _ (.tail _ (.tail _ (.tail _ (.tail _ (.tail _ (.tail _ (.head _)))))))))))))))))))))) (news_cons N9 (.tail _ (.tail _ (.tail _ (.tail _ (.tail _ (.tail _ (.tail _ (.tail _ (.tail _ (.tail _ (.tail _ (.tail _ (.tail _ (.tail _ (.tail _ (.tail _ (.tail _ (.tail _ (.tail _ (.tail _ (.tail _ (.tail _ (.head _))))))))))))))))))))))) News.nil)))))))))
  rename List Int => xs
  rename IntsAre _ (sizesOf _) => hSz
  rename IntsAre _ (innerOf _) => hIn
  rename StrsAre _ (keptOf _ _) => hLf
  have htl := text_len xs
  have hszl := hSz.length
  rw [sizes_len] at hszl
  (repeat' (first | (k_unfold; (try dsimp only)) | (k_end; wrow_close) | walk1 | (dsimp only; walk1) | (leave1; walk_say "STEP leave1"; try dsimp only) | fail "no step"))
  k_dflt (refine srcV_test (R := fun i ys => i ≤ (textOf xs).length ∧ StrsAre ys (restOf xs i)) rfl (by k_asm) (by k_asm) (.inr ⟨_, by k_mem, rfl, _, rfl⟩) ⟨Nat.zero_le _, .nil⟩ (fun i ys h => by rw [h.2.length, sizeLine_eq]; have h1 := rest_len xs i; have h2 := h.1; omega) ?_ ?_)
  · intro I9 C9 D9 oI9 oC9 m9 ys9 h9 tk9 i9 v9 E9 hi9 hv9 hR9 hlt9 hID9 hDC9 hCL9 hDL9 hC09 hD09 hC9 hx9 F9 N9 off9
    obtain ⟨k9, t9, e9, hk9⟩ := IntsAre.at hSz i9 v9 (by simpa using hv9)
    subst e9
    obtain ⟨hi99, rfl⟩ := sizes_at hk9
    (repeat' (first | (k_unfold; (try dsimp only)) | (k_end; wrow_close) | walk1 | (dsimp only; walk1) | (leave1; walk_say "STEP leave1"; try dsimp only) | fail "no step"))
    all_goals (first
      | exact ZEnd.intro _ (by assumption) (by assumption) (fun p hp => hp) off9 ⟨rfl, rfl, hi99, by rw [rest_no (by assumption)]; exact hR9.2⟩
      | exact ZEnd.intro _ (by assumption) (by assumption) (fun p hp => hp) off9 ⟨rfl, rfl, hi99, by rw [rest_yes (by assumption)]; exact strs_snoc _ _ _ _ hR9.2 ⟨_, rfl⟩⟩)
  intro D9 ys9 h9 tk9 hR9 o19 hb9
  rw [List.size_toArray, hszl] at hR9
  unfold FinEV
  intro F9 N9
  simp only [List.forall_mem_cons, List.forall_mem_nil, and_true] at hb9
  try simp only [List.cons_append, List.nil_append] at N9
  k_dflt (refine' eq_strs ?k1 ?k2 ?k3 ?c1 ?d1 ?c2 ?d2 hLf hR9.2 (kept_rest xs) (kept_ok (paths_ok xs)) ?k6 ?_; (case k1 => k_asm); (case k2 => k_mem); (case k3 => k_mem); (case c1 => exact rfl); (case d1 => exact rfl); (case c2 => exact rfl); (case d2 => exact rfl); (case k6 => ke_room))
  dsimp only
  (repeat' (first | (k_unfold; (try dsimp only)) | (k_end; wrow_close) | walk1 | (dsimp only; walk1) | (leave1; walk_say "STEP leave1"; try dsimp only) | fail "no step"))
  (rename AllBare _ => hGb)
  exact good_bool F9 hGb (raisesW_false (by wrow_none_raised)) (postW_of (by wrow_shape) (by wtm_val) (by first | rfl | (str_meet; first | done | w_fin))) rfl)
end

end Mine
theorem PySem.Challenge.cw_ij0098_01_holds : PySem.Challenge.rw_ij0098_01.Holds :=
  Mine.law_holds
