import PyProof.Rows.All
import Wide.All
import OpenK.AllK
import Wide.FinOn
import PySem.Challenge.RW_rl0085_01
set_option Elab.async false
set_option rowWalk.seconds 0
set_option compiler.extract_closed false
section
open PySem PySem.W PyProof.Rows
set_option Elab.async false
namespace Mine
set_option maxRecDepth 100000 in
set_option maxHeartbeats 8000000 in
open_top hd for PySem.Challenge.rw_rl0085_01
end Mine
end
section
local macro_rules | `(tactic| walk_at $s:str) => `(tactic| k_extra $s)
local macro_rules | `(tactic| k_qdec) => `(tactic| decide +kernel)
local macro_rules | `(tactic| k_ne) => `(tactic| k_extra "k_ne")
local macro_rules | `(tactic| ktr_enter) => `(tactic| k_extra "ktr_enter")
local macro_rules | `(tactic| kts_go) => `(tactic| k_extra "kts_go")
local macro_rules | `(tactic| kts_caughtN) => `(tactic| k_extra "kts_caughtN")
local macro_rules | `(tactic| k_all) => `(tactic| k_extra "k_all")
local macro_rules | `(tactic| k_mem) => `(tactic| k_extra "k_mem")
local macro_rules | `(tactic| k_room) => `(tactic| k_extra "k_room")
section
open PySem PySem.W PyProof.Rows PySem.Calls PySem.Builtin PySem.Builtin.Str
set_option Elab.async false
set_option maxRecDepth 100000
namespace Mine
/-- the place behind which a search ends -/
noncomputable def hiIndex (len : Nat) (i : Int) : Nat := min (fromIndex len i) len
noncomputable def find4 (x y : Str) (i j : Int) : Int := match occurrences x y (fromIndex x.length i) (hiIndex x.length j) 1 with | k :: _ => (k : Int) | [] => -1
noncomputable def rfind4 (x y : Str) (i j : Int) : Int := match lastOccurrence x y (fromIndex x.length i) (hiIndex x.length j) with | some k => (k : Int) | none => -1
theorem gives_find4 (x y : Str) (i j : Int) (t u v v' : Tok) : Gives («str.find» ⟨[.str x t, .str y u, .int i v, .int j v'], []⟩) (.int (find4 x y i j)) := by
  show Gives (match occurrences x y (fromIndex x.length i) (hiIndex x.length j) 1 with | k :: _ => retInt k | [] => (do rule "str.find.not-found"; retInt (-1))) _
  unfold find4
  cases occurrences x y (fromIndex x.length i) (hiIndex x.length j) 1 with
  | nil => exact .rule (.of_eq rfl)
  | cons k _ => exact .of_eq rfl
theorem gives_rfind4 (x y : Str) (i j : Int) (t u v v' : Tok) : Gives («str.rfind» ⟨[.str x t, .str y u, .int i v, .int j v'], []⟩) (.int (rfind4 x y i j)) := by
  show Gives (match lastOccurrence x y (fromIndex x.length i) (hiIndex x.length j) with | some k => retInt k | none => (do rule "str.rfind.not-found"; retInt (-1))) _
  unfold rfind4
  cases lastOccurrence x y (fromIndex x.length i) (hiIndex x.length j) with
  | none => exact .rule (.of_eq rfl)
  | some k => exact .of_eq rfl
section
variable {prog : Program} {w : World} {A : Around} {E : Value → Shared → Prop} {s : Shared} {x y : Str} {t u v v' : Tok} {i j : Int} {Q : Value → Shared → Prop}
theorem call_find4 (hq : Q (.int (find4 x y i j) s.toks) { s with toks := s.toks + 1 }) : wpAny (model prog w) A (call (.builtin "str.find") [.str x t, .str y u, .int i v, .int j v']) Q E s :=
  call_gives F.slot_str_find (typeIs_str _ _ _) F.entry_str_find (F.args_str_find_4 _ _ _ _) (gives_find4 x y i j t u v v') hq
theorem call_rfind4 (hq : Q (.int (rfind4 x y i j) s.toks) { s with toks := s.toks + 1 }) : wpAny (model prog w) A (call (.builtin "str.rfind") [.str x t, .str y u, .int i v, .int j v']) Q E s :=
  call_gives F.slot_str_rfind (typeIs_str _ _ _) F.entry_str_rfind (F.args_str_rfind_4 _ _ _ _) (gives_rfind4 x y i j t u v v') hq
end
end Mine
end
section
open PySem PySem.W PyProof.Rows PySem.Calls
set_option Elab.async false
set_option maxRecDepth 100000
namespace Mine
/-- a call of the def at f, from any frame, over any ledger -/
noncomputable abbrev PureC (w : World) (mean : ExcName → Option Value) (mg mb : Str → Option Value) (f : Addr) (d : Nat) (news : List (Addr × Obj)) (vs : List Value) (R : Tok → Value) : Prop :=
  ∀ (dp un : Nat) (gd : Option (List Code)) (cn : Str) (cs : Scope) (a : Addr) (ccd : Value) (cl : List (Str × Addr)) (outer : List Env) (A₀ : Around) (base h₀ : Heap) (L : Addr) (m : Str → Option Value) (s : Shared) (Q E : Value → Shared → Prop),
    Below A₀ base outer h₀ → Fr h₀ L s.heap m → (Mine.hd.heap_39 w.params).In h₀ → News h₀ L s.heap news → Top Mine.hd.view_39 (looseW Mine.hd.view_39 [Str.ofString "tspecials", Str.ofString "_name_disallowed_re", Str.ofString "_value_disallowed_re", Str.ofString "_formatparam"]) mean mg mb h₀ → cs.kind = .function →
    dp + d < recursionLimit → un + 8 * d < cLine →
    (∀ (t : Tok) (h' : Heap) (tk' : Nat), Fr h₀ L h' m → News h₀ L h' news → Q (R t) { s with heap := h', toks := tk' }) →
      wpAny (model PySem.Challenge.rw_rl0085_01.row.toRowW.prog w) (ktrTop dp un gd cn cs L a ccd cl outer) (call (.ref f) vs) Q E s
theorem PureC.use {w : World} {mean : ExcName → Option Value} {mg mb : Str → Option Value} {f : Addr} {d : Nat} {news : List (Addr × Obj)} {vs : List Value} {R : Tok → Value} (C : PureC w mean mg mb f d news vs R)
    {dp un : Nat} {gd : Option (List Code)} {cn : Str} {cs : Scope} {a : Addr} {ccd : Value} {cl : List (Str × Addr)} {outer : List Env} {A₀ : Around} {base h₀ : Heap} {L : Addr} {m : Str → Option Value} {s : Shared} {Q E : Value → Shared → Prop}
    (B : Below A₀ base outer h₀) (F : Fr h₀ L s.heap m) (X : (Mine.hd.heap_39 w.params).In h₀) (N : News h₀ L s.heap news) (T : Top Mine.hd.view_39 (looseW Mine.hd.view_39 [Str.ofString "tspecials", Str.ofString "_name_disallowed_re", Str.ofString "_value_disallowed_re", Str.ofString "_formatparam"]) mean mg mb h₀) (hk : cs.kind = .function)
    (hd : dp + d < recursionLimit) (hu : un + 8 * d < cLine)
    (ret : ∀ (t : Tok) (h' : Heap) (tk' : Nat), Fr h₀ L h' m → News h₀ L h' news → Q (R t) { s with heap := h', toks := tk' }) :
    wpAny (model PySem.Challenge.rw_rl0085_01.row.toRowW.prog w) (ktrTop dp un gd cn cs L a ccd cl outer) (call (.ref f) vs) Q E s := C _ _ _ _ _ _ _ _ _ _ _ _ _ _ _ _ _ B F X N T hk hd hu ret
theorem len_lits : (Str.ofString ":").length = 1 ∧ (Str.ofString ":.").length = 2 ∧ (Str.ofString "\n").length = 1 ∧ (Str.ofString ":.\n").length = 3 ∧ (Str.ofString "\n.").length = 2 ∧ (Str.ofString "").length = 0 ∧ (Str.ofString ".").length = 1 ∧ (Str.ofString "x.").length = 2 := by decide +kernel
noncomputable def stripP (x : Str) : Str :=
  let e0 : Int := if 0 ≤ Txt.find x (Str.ofString "\n") then Txt.find x (Str.ofString "\n") else (x.length : Int)
  let e1 : Int := if 0 ≤ find4 x (Str.ofString ":") 0 e0 then find4 x (Str.ofString ":") 0 e0 else e0
  let s1 : Int := if 0 ≤ rfind4 x (Str.ofString ".") 0 e1 then rfind4 x (Str.ofString ".") 0 e1 + 1 else 0
  Txt.slice x (some s1) (some e1)
theorem strip_join {x : Str} {r : Int} (h : 0 ≤ Txt.find x (Str.ofString "\n") ∧ r = Txt.find x (Str.ofString "\n") ∨ ¬0 ≤ Txt.find x (Str.ofString "\n") ∧ r = ↑x.length) :
    (if 0 ≤ Txt.find x (Str.ofString "\n") then Txt.find x (Str.ofString "\n") else (x.length : Int)) = r := by
  rcases h with ⟨a, b⟩ | ⟨a, b⟩
  · rw [if_pos a, b]
  · rw [if_neg a, b]
set_option maxHeartbeats 8000000 in
theorem strip_c (w : World) (mean : ExcName → Option Value) (mg mb : Str → Option Value) (news : List (Addr × Obj)) (x : Str) (tx : Tok) (hx : x.length ≤ 100) :
   PureC w mean mg mb 52 2 news [.str x tx] (fun t => .str (stripP x) t) := by
  w_top off; k_with_none
  k_with "call builtin:str.find" => ((refine call_find4 ?_))
  k_with "call builtin:str.rfind" => ((refine call_rfind4 ?_))
  unfold PureC; k_fill; intros; rename_i hret; dsimp only at hret
  refine wpAny_call ?_
  k_dflt cell_enter
  k_steps
  all_goals (
    (rename ((_ ∧ _) ∨ (_ ∧ _)) => hj)
    refine cb_retS hret ?_ (by k_asm) (by first | k_asm | (refine cb_drop (by assumption) (fun p hp => ?_); repeat (first | exact hp | apply List.mem_cons_of_mem)))
    simp only [stripP, strip_join hj]
    simp only [*, if_true, if_false])
theorem words_off_RText : True := by k_with_none; exact trivial
end Mine
end
section
open PySem PySem.W PyProof.Rows PySem.Calls
set_option Elab.async false
set_option maxRecDepth 100000
namespace Mine
noncomputable def pick4 (k : Int) (a b c d : Str) : Str := if k = 0 then a else if k = 1 then b else if k = 2 then c else d
theorem pick4_at {k : Int} (h0 : 0 ≤ k) (h3 : k ≤ 3) (a b c d : Str) (ta tb tc td : Tok) : ∃ t, [Value.str a ta, .str b tb, .str c tc, .str d td][k.toNat]? = some (.str (pick4 k a b c d) t) := by
  rcases (by omega : k = 0 ∨ k = 1 ∨ k = 2 ∨ k = 3) with rfl | rfl | rfl | rfl
  · exact ⟨ta, rfl⟩
  · exact ⟨tb, rfl⟩
  · exact ⟨tc, rfl⟩
  · exact ⟨td, rfl⟩
theorem pick4_len {k : Int} {a b c d : Str} {n : Nat} (ha : a.length ≤ n) (hb : b.length ≤ n) (hc : c.length ≤ n) (hd : d.length ≤ n) : (pick4 k a b c d).length ≤ n := by
  unfold pick4; split <;> (try split) <;> (try split) <;> assumption
theorem item4 {prog w A E s} {value slice : PySem.Expr} {l : Addr} {k : Int} {u : Tok} {a b c d : Str} {ta tb tc td : Tok} {Q : Value → Shared → Prop}
    (hl : s.heap.IsList l [Value.str a ta, .str b tb, .str c tc, .str d td].toArray) (h0 : 0 ≤ k) (h3 : k ≤ 3) (hn : a.length ≤ 60 ∧ b.length ≤ 60 ∧ c.length ≤ 60 ∧ d.length ≤ 60) (h : ∀ t, (pick4 k a b c d).length ≤ 60 → Q (.str (pick4 k a b c d) t) s)
    (hs : subscripted slice false (.ref l) (.int k u) = operate [.ref l, .int k u] (getItem (.ref l) (.int k u)) := by with_unfolding_all rfl) :
    wpAny (model prog w) A (subscriptTail value slice (.ref l) (.int k u)) Q E s := by
  obtain ⟨t, ht⟩ := pick4_at h0 h3 a b c d ta tb tc td
  exact tail_any hl.typeIs slot_list_getitem.lookup (wpAny_getItem_list hl h0 (by omega) (by simpa using ht) (h t (pick4_len hn.1 hn.2.1 hn.2.2.1 hn.2.2.2))) hs
noncomputable def frontP (x : Str) (p : Int) (y : Str) (k : Int) : Str :=
  stripP ((if (y != Str.ofString "") = true then Str.ofString "x." ++ y ++ Str.ofString "." else if 0 < p then Str.ofString "." else Str.ofString "") ++ Txt.slice x none (some p) ++
        pick4 k (Str.ofString ":" ++ Txt.slice x (some p) none ++ Str.ofString ":." ++ y)
          (Str.ofString "\n" ++ Txt.slice x (some p) none ++ Str.ofString ":.\n" ++ y)
          (Str.ofString ":" ++ Txt.slice x (some p) none ++ Str.ofString "\n." ++ y) (Str.ofString ""))
theorem frontP1 {x y : Str} {p k : Int} (h : (y != Str.ofString "") = true) : frontP x p y k = stripP (Str.ofString "x." ++ y ++ Str.ofString "." ++ Txt.slice x none (some p) ++
        pick4 k (Str.ofString ":" ++ Txt.slice x (some p) none ++ Str.ofString ":." ++ y)
          (Str.ofString "\n" ++ Txt.slice x (some p) none ++ Str.ofString ":.\n" ++ y)
          (Str.ofString ":" ++ Txt.slice x (some p) none ++ Str.ofString "\n." ++ y) (Str.ofString "")) := by
  unfold frontP; rw [if_pos h]
theorem frontP2 {x y : Str} {p k : Int} (h : (y != Str.ofString "") = false) (hp : 0 < p) : frontP x p y k = stripP (Str.ofString "." ++ Txt.slice x none (some p) ++
        pick4 k (Str.ofString ":" ++ Txt.slice x (some p) none ++ Str.ofString ":." ++ y)
          (Str.ofString "\n" ++ Txt.slice x (some p) none ++ Str.ofString ":.\n" ++ y)
          (Str.ofString ":" ++ Txt.slice x (some p) none ++ Str.ofString "\n." ++ y) (Str.ofString "")) := by
  unfold frontP; rw [if_neg (by rw [h]; exact Bool.false_ne_true), if_pos hp]
theorem frontP3 {x y : Str} {p k : Int} (h : (y != Str.ofString "") = false) (hp : ¬ 0 < p) : frontP x p y k = stripP (Str.ofString "" ++ Txt.slice x none (some p) ++
        pick4 k (Str.ofString ":" ++ Txt.slice x (some p) none ++ Str.ofString ":." ++ y)
          (Str.ofString "\n" ++ Txt.slice x (some p) none ++ Str.ofString ":.\n" ++ y)
          (Str.ofString ":" ++ Txt.slice x (some p) none ++ Str.ofString "\n." ++ y) (Str.ofString "")) := by
  unfold frontP; rw [if_neg (by rw [h]; exact Bool.false_ne_true), if_neg hp]
set_option maxHeartbeats 8000000 in
theorem front_c (w : World) (mean : ExcName → Option Value) (mg mb : Str → Option Value) (news : List (Addr × Obj)) (x y : Str) (p k : Int) (tx tp ty tk : Tok) (hx : x.length ≤ 10) (hy : y.length ≤ 10) (hp : 0 ≤ p ∧ p ≤ x.length) (hk : 0 ≤ k ∧ k ≤ 3) :
   PureC w mean mg mb 207 4 news [.str x tx, .int p tp, .str y ty, .int k tk] (fun t => .str (frontP x p y k) t) := by
  w_top off; k_with_none
  k_with "call ref" => ((k_here; (with_reducible show wpAny _ _ (call (Value.ref 52) [Value.str _ _]) _ _ _); k_dflt ( refine' PureC.use (strip_c _ _ _ _ _ _ _ ?hx_w) ?k1_w ?k2_w ?k3_w ?k4_w ?k5_w ?kK_w ?kd_w ?ku_w ?_; (case k1_w => k_asm); (case k2_w => k_asm); (case k3_w => k_asm); (case k4_w => k_asm); (case k5_w => k_asm); (case kK_w => first | exact rfl | assumption); (case kd_w => ktr_room); (case ku_w => ktr_units); (case hx_w => (simp only [Str.length_append, len_lits]; omega)); intro t9_w h9_w tk9_w F9_w N9_w; (try dsimp only); (try k_fold))))
  k_with "subscriptTail Name Name ref int" => ((k_here; (with_unfolding_all refine' item4 ?k1_w ?k2_w ?k3_w ?k4_w ?_ ?k6_w; (case k1_w => is_list); (case k2_w => omega); (case k3_w => omega); (case k4_w => (simp only [Str.length_append, len_lits]; omega)); (case k6_w => with_unfolding_all rfl); k_whole); intro t9_w hl9_w))
  unfold PureC; k_fill; intros; rename_i hret; dsimp only at hret
  k_with "table" => skip
  refine wpAny_call ?_
  k_dflt cell_enter
  k_steps
  all_goals (
    refine cb_retS hret ?_ (by k_asm) (by first | k_asm | (refine cb_drop (by assumption) (fun p hp => ?_); repeat (first | exact hp | apply List.mem_cons_of_mem)))
    first
      | ((have h9 : (y != Str.ofString "") = true := by assumption); rw [frontP1 h9])
      | ((have h9 : (y != Str.ofString "") = false := by assumption); (have hp9 : 0 < p := by assumption); rw [frontP2 h9 hp9])
      | ((have h9 : (y != Str.ofString "") = false := by assumption); (have hp9 : ¬ 0 < p := by assumption); rw [frontP3 h9 hp9]))
theorem words_off_RFront : True := by k_with_none; exact trivial
end Mine
end
section
open PySem PySem.W PyProof.Rows PySem.Calls
set_option Elab.async false
set_option maxRecDepth 100000
set_option linter.unusedVariables false
set_option linter.unusedSimpArgs false
namespace Mine
section
open PySem.Builtin PySem.Builtin.Str StrLaws
noncomputable def hitL (c : Nat) (l : List Nat) (hi i : Nat) : Bool := decide (i + 1 ≤ hi) && ((l.drop i).take 1 == [c])
noncomputable def fstL (c : Nat) (l : List Nat) (lo hi : Nat) : Option Nat := (List.range' lo (hi + 1 - lo)).find? (hitL c l hi)
noncomputable def lstL (c : Nat) (l : List Nat) (lo hi : Nat) : Option Nat := (List.range' lo (hi + 1 - lo)).foldl (fun st i => if hitL c l hi i = true then some i else st) none
theorem occ_full (s sub : Str) (hi : Nat) : ∀ (is : List Nat) (st : Array Nat × Nat), 1 ≤ st.1.size → (forIn is st (occBody s sub hi 1)).run = st
  | [], st, _ => rfl
  | a :: is, st, h => by
    rw [List.forIn_cons]
    unfold occBody
    rw [if_neg (by intro hc; have := hc.1.1.1; omega)]
    exact occ_full s sub hi is st h
theorem hitL_iff (c : Nat) (l : List Nat) (hi a : Nat) : hitL c l hi a = true ↔ (a + (⟨#[c]⟩ : Str).length ≤ hi ∧ subAt ⟨l.toArray⟩ ⟨#[c]⟩ a = true) := by
  unfold hitL
  rw [Bool.and_eq_true, decide_eq_true_iff, subAt_eq]
  exact Iff.rfl
theorem occ_first (l : List Nat) (c hi : Nat) : ∀ (is : List Nat) (free : Nat), (∀ i ∈ is, free ≤ i) → (forIn is ((#[] : Array Nat), free) (occBody ⟨l.toArray⟩ ⟨#[c]⟩ hi 1)).run.1.toList = (is.find? (hitL c l hi)).toList
  | [], _, _ => rfl
  | a :: is, free, h => by
    rw [List.forIn_cons, List.find?_cons]
    unfold occBody
    have ha := h a (.head _)
    have hc : (#[] : Array Nat).size < 1 := by decide
    by_cases hh : hitL c l hi a = true
    · rw [hh]
      have hk := (hitL_iff c l hi a).1 hh
      rw [if_pos ⟨⟨⟨hc, ha⟩, hk.1⟩, hk.2⟩]
      have := occ_full ⟨l.toArray⟩ ⟨#[c]⟩ hi is (#[].push a, a + (⟨#[c]⟩ : Str).length) (by simp)
      exact congrArg (fun z : Array Nat × Nat => z.1.toList) this
    · have hf : hitL c l hi a = false := by simpa using hh
      rw [hf]
      rw [if_neg (fun hk => hh ((hitL_iff c l hi a).2 ⟨hk.1.2, hk.2⟩))]
      exact occ_first l c hi is free fun i hi' => h i (.tail _ hi')
theorem last_first (l : List Nat) (c hi : Nat) : ∀ (is : List Nat) (st : Option Nat), (forIn is st (lastBody ⟨l.toArray⟩ ⟨#[c]⟩ hi)).run = is.foldl (fun st i => if hitL c l hi i = true then some i else st) st
  | [], _ => rfl
  | a :: is, st => by
    rw [List.forIn_cons, List.foldl_cons]
    unfold lastBody
    by_cases hh : hitL c l hi a = true
    · rw [if_pos hh, if_pos ((hitL_iff c l hi a).1 hh)]
      exact last_first l c hi is (some a)
    · rw [if_neg hh, if_neg (fun hk => hh ((hitL_iff c l hi a).2 hk))]
      exact last_first l c hi is st
theorem last_list (l : List Nat) (c lo hi : Nat) : lastOccurrence ⟨l.toArray⟩ ⟨#[c]⟩ lo hi = lstL c l lo hi := by
  rw [last_eq]
  exact last_first l c hi _ none
theorem occ_list (l : List Nat) (c lo hi : Nat) : occurrences ⟨l.toArray⟩ ⟨#[c]⟩ lo hi 1 = (fstL c l lo hi).toList := by
  rw [occ_eq]
  exact occ_first l c hi _ lo fun i hi' => by
    have := List.mem_range'.1 hi'
    omega
end
noncomputable def stripL (l : List Nat) : List Nat :=
  let e0 := (fstL 10 l 0 l.length).getD l.length
  let e1 := (fstL 58 l 0 e0).getD e0
  let s1 := match lstL 46 l 0 e1 with | some i => i + 1 | none => 0
  (l.drop s1).take (e1 - s1)
section
open PySem.Builtin PySem.Builtin.Str StrLaws
theorem fstL_hit {c : Nat} {l : List Nat} {lo hi i : Nat} (h : fstL c l lo hi = some i) : i + 1 ≤ hi := by
  have := List.find?_some h
  unfold hitL at this
  rw [Bool.and_eq_true, decide_eq_true_iff] at this
  exact this.1
theorem lstL_hit {c : Nat} {l : List Nat} {lo hi : Nat} : ∀ {i : Nat}, lstL c l lo hi = some i → i + 1 ≤ hi := by
  unfold lstL
  have key : ∀ (is : List Nat) (st : Option Nat), (∀ i, st = some i → i + 1 ≤ hi) → ∀ i, is.foldl (fun st i => if hitL c l hi i = true then some i else st) st = some i → i + 1 ≤ hi := by
    intro is
    induction is with
    | nil => intro st h i e; exact h i e
    | cons a is ih =>
      intro st h i e
      rw [List.foldl_cons] at e
      refine ih _ (fun j hj => ?_) i e
      by_cases hh : hitL c l hi a = true
      · rw [if_pos hh] at hj
        cases hj
        unfold hitL at hh
        rw [Bool.and_eq_true, decide_eq_true_iff] at hh
        exact hh.1
      · rw [if_neg hh] at hj; exact h j hj
  intro i e
  exact key _ none (fun i h => by cases h) i e
theorem from_nat {n k : Nat} (h : k ≤ n) : fromIndex n (k : Int) = k := by
  unfold fromIndex
  split <;> omega
theorem find4_list (l : List Nat) (c : Nat) (e : Nat) (he : e ≤ l.length) : find4 ⟨l.toArray⟩ ⟨#[c]⟩ 0 (e : Int) = match fstL c l 0 e with | some i => (i : Int) | none => -1 := by
  unfold find4 hiIndex
  have h1 : fromIndex (⟨l.toArray⟩ : Str).length (e : Int) = e := from_nat (by show e ≤ l.toArray.size; simpa using he)
  have h0 : fromIndex (⟨l.toArray⟩ : Str).length 0 = 0 := from_nat (k := 0) (Nat.zero_le _)
  have h2 : min e (⟨l.toArray⟩ : Str).length = e := Nat.min_eq_left (by show e ≤ l.toArray.size; simpa using he)
  rw [h1, h0, h2, occ_list]
  all_goals (cases fstL c l 0 e <;> rfl)
theorem rfind4_list (l : List Nat) (c : Nat) (e : Nat) (he : e ≤ l.length) : rfind4 ⟨l.toArray⟩ ⟨#[c]⟩ 0 (e : Int) = match lstL c l 0 e with | some i => (i : Int) | none => -1 := by
  unfold rfind4 hiIndex
  have h1 : fromIndex (⟨l.toArray⟩ : Str).length (e : Int) = e := from_nat (by show e ≤ l.toArray.size; simpa using he)
  have h0 : fromIndex (⟨l.toArray⟩ : Str).length 0 = 0 := from_nat (k := 0) (Nat.zero_le _)
  have h2 : min e (⟨l.toArray⟩ : Str).length = e := Nat.min_eq_left (by show e ≤ l.toArray.size; simpa using he)
  rw [h1, h0, h2, last_list]
  all_goals (cases lstL c l 0 e <;> rfl)
theorem find_list (l : List Nat) (c : Nat) : Txt.find ⟨l.toArray⟩ ⟨#[c]⟩ = match fstL c l 0 l.length with | some i => (i : Int) | none => -1 := by
  unfold Txt.find
  have h : (⟨l.toArray⟩ : Str).length = l.length := by show l.toArray.size = _; simp
  rw [h, occ_list]
  all_goals (cases fstL c l 0 l.length <;> rfl)
theorem lit_nl : Str.ofString "\n" = ⟨#[10]⟩ := by decide +kernel
theorem lit_colon : Str.ofString ":" = ⟨#[58]⟩ := by decide +kernel
theorem lit_dot : Str.ofString "." = ⟨#[46]⟩ := by decide +kernel
theorem slice_list {l : List Nat} {i j : Nat} (h : i ≤ j ∧ j ≤ l.length) : Txt.slice ⟨l.toArray⟩ (some (i : Int)) (some (j : Int)) = ⟨((l.drop i).take (j - i)).toArray⟩ := by
  have := slice_closes (x := ⟨l.toArray⟩) (i := (i : Int)) (j := (j : Int)) ⟨by omega, by omega, by simpa using h.2⟩
  rw [eq_of_beq this]
  have e : ((j : Int) - (i : Int)).toNat = j - i := by omega
  rw [e]; rfl
theorem strip_list (l : List Nat) : stripP ⟨l.toArray⟩ = ⟨(stripL l).toArray⟩ := by
  unfold stripP stripL
  rw [lit_nl, lit_colon, lit_dot, find_list]
  have hlen : (⟨l.toArray⟩ : Str).length = l.length := by show l.toArray.size = _; simp
  have e0 : (if 0 ≤ (match fstL 10 l 0 l.length with | some i => (i : Int) | none => -1) then (match fstL 10 l 0 l.length with | some i => (i : Int) | none => -1) else ((⟨l.toArray⟩ : Str).length : Int)) = (((fstL 10 l 0 l.length).getD l.length : Nat) : Int) := by
    rw [hlen]
    cases fstL 10 l 0 l.length with
    | none => simp
    | some i => simp
  dsimp only
  rw [e0]
  have h0 : (fstL 10 l 0 l.length).getD l.length ≤ l.length := by
    cases h : fstL 10 l 0 l.length with
    | none => simp
    | some i => have := fstL_hit h; simp; omega
  generalize (fstL 10 l 0 l.length).getD l.length = n0 at h0 ⊢
  rw [find4_list l 58 n0 h0]
  have e1 : (if 0 ≤ (match fstL 58 l 0 n0 with | some i => (i : Int) | none => -1) then (match fstL 58 l 0 n0 with | some i => (i : Int) | none => -1) else (n0 : Int)) = (((fstL 58 l 0 n0).getD n0 : Nat) : Int) := by
    cases fstL 58 l 0 n0 with
    | none => simp
    | some i => simp
  rw [e1]
  have h1 : (fstL 58 l 0 n0).getD n0 ≤ l.length := by
    cases h : fstL 58 l 0 n0 with
    | none => simpa using h0
    | some i => have := fstL_hit h; simp; omega
  generalize (fstL 58 l 0 n0).getD n0 = n1 at h1 ⊢
  rw [rfind4_list l 46 n1 h1]
  cases h : lstL 46 l 0 n1 with
  | none =>
    simp only
    rw [if_neg (by decide)]
    exact slice_list (i := 0) ⟨by omega, h1⟩
  | some i =>
    have hi := lstL_hit h
    simp only
    rw [if_pos (by omega)]
    exact slice_list (i := i + 1) ⟨hi, h1⟩
end
theorem app_list2 (a b : List Nat) : (⟨a.toArray⟩ ++ ⟨b.toArray⟩ : Str) = ⟨(a ++ b).toArray⟩ := by
  show Str.mk (a.toArray ++ b.toArray) = _
  simp
noncomputable def pickL (k : Int) (a b c d : List Nat) : List Nat := if k = 0 then a else if k = 1 then b else if k = 2 then c else d
noncomputable def frontL (a : List Nat) (k : Nat) (b : List Nat) (kind : Int) : List Nat :=
  stripL ((if b.isEmpty = false then [120, 46] ++ b ++ [46] else if 0 < k then [46] else []) ++ a.take k ++
    pickL kind ([58] ++ a.drop k ++ [58, 46] ++ b) ([10] ++ a.drop k ++ [58, 46, 10] ++ b) ([58] ++ a.drop k ++ [10, 46] ++ b) [])
theorem lit_x : Str.ofString "x." = ⟨#[120, 46]⟩ := by decide +kernel
theorem lit_cd : Str.ofString ":." = ⟨#[58, 46]⟩ := by decide +kernel
theorem lit_cdn : Str.ofString ":.\n" = ⟨#[58, 46, 10]⟩ := by decide +kernel
theorem lit_nd : Str.ofString "\n." = ⟨#[10, 46]⟩ := by decide +kernel
theorem lit_e : Str.ofString "" = ⟨#[]⟩ := by decide +kernel
theorem slice_to (l : List Nat) (k : Nat) (h : k ≤ l.length) : Txt.slice ⟨l.toArray⟩ none (some (k : Int)) = ⟨(l.take k).toArray⟩ := by
  have := slice_closes_to (x := ⟨l.toArray⟩) (j := (k : Int)) ⟨by omega, by simpa using h⟩
  rw [eq_of_beq this]
  have e : ((k : Int) - 0).toNat = k := by omega
  rw [e]; rfl
theorem slice_from (l : List Nat) (k : Nat) (h : k ≤ l.length) : Txt.slice ⟨l.toArray⟩ (some (k : Int)) none = ⟨(l.drop k).toArray⟩ := by
  have := slice_closes_from (x := ⟨l.toArray⟩) (i := (k : Int)) ⟨by omega, by simpa using h⟩
  rw [eq_of_beq this]
  have e : ((((⟨l.toArray⟩ : Str).cps.toList.length : Int)) - (k : Int)).toNat = l.length - k := by
    show (((l.toArray.toList.length : Int)) - (k : Int)).toNat = _
    rw [List.toList_toArray]; omega
  rw [e]
  show Str.mk ((l.drop k).take (l.length - k)).toArray = _
  rw [List.take_of_length_le (by simp)]
theorem pick_list (k : Int) (a b c d : List Nat) : pick4 k ⟨a.toArray⟩ ⟨b.toArray⟩ ⟨c.toArray⟩ ⟨d.toArray⟩ = ⟨(pickL k a b c d).toArray⟩ := by
  unfold pick4 pickL
  split <;> (try rfl) <;> split <;> (try rfl) <;> split <;> rfl
theorem front_list (a b : List Nat) (k : Nat) (kind : Int) (h : k ≤ a.length) : frontP ⟨a.toArray⟩ (k : Int) ⟨b.toArray⟩ kind = ⟨(frontL a k b kind).toArray⟩ := by
  unfold frontP frontL
  rw [slice_to a k h, slice_from a k h, lit_x, lit_dot, lit_e, lit_colon, lit_cd, lit_nl, lit_cdn, lit_nd]
  have e1 : (⟨#[58]⟩ ++ ⟨(a.drop k).toArray⟩ ++ ⟨#[58, 46]⟩ ++ ⟨b.toArray⟩ : Str) = ⟨([58] ++ a.drop k ++ [58, 46] ++ b).toArray⟩ := by
    rw [← app_list2, ← app_list2, ← app_list2]
  have e2 : (⟨#[10]⟩ ++ ⟨(a.drop k).toArray⟩ ++ ⟨#[58, 46, 10]⟩ ++ ⟨b.toArray⟩ : Str) = ⟨([10] ++ a.drop k ++ [58, 46, 10] ++ b).toArray⟩ := by
    rw [← app_list2, ← app_list2, ← app_list2]
  have e3 : (⟨#[58]⟩ ++ ⟨(a.drop k).toArray⟩ ++ ⟨#[10, 46]⟩ ++ ⟨b.toArray⟩ : Str) = ⟨([58] ++ a.drop k ++ [10, 46] ++ b).toArray⟩ := by
    rw [← app_list2, ← app_list2, ← app_list2]
  have e4 : pick4 kind ⟨([58] ++ a.drop k ++ [58, 46] ++ b).toArray⟩ ⟨([10] ++ a.drop k ++ [58, 46, 10] ++ b).toArray⟩ ⟨([58] ++ a.drop k ++ [10, 46] ++ b).toArray⟩ (⟨#[]⟩ : Str) = _ := pick_list kind _ _ _ []
  have e5 : (if ((⟨b.toArray⟩ : Str) != ⟨#[]⟩) = true then (⟨#[120, 46]⟩ ++ ⟨b.toArray⟩ ++ ⟨#[46]⟩ : Str) else if (0 : Int) < (k : Int) then ⟨#[46]⟩ else ⟨#[]⟩) = ⟨(if b.isEmpty = false then [120, 46] ++ b ++ [46] else if 0 < k then [46] else []).toArray⟩ := by
    cases b with
    | nil =>
      have hb : ((⟨([] : List Nat).toArray⟩ : Str) != ⟨#[]⟩) = false := by decide
      rw [hb]
      simp only [Bool.false_eq_true, if_false, List.isEmpty_nil, Bool.true_eq_false]
      by_cases hk : 0 < k
      · rw [if_pos (Int.natCast_pos.mpr hk), if_pos hk]
      · rw [if_neg (fun q => hk (Int.natCast_pos.mp q)), if_neg hk]
    | cons c b =>
      have hb : ((⟨(c :: b).toArray⟩ : Str) != ⟨#[]⟩) = true := by
        rw [bne_iff_ne]
        intro q
        have := congrArg (fun z : Str => z.cps.size) q
        simp at this
      rw [hb]
      simp only [if_true, List.isEmpty_cons]
      rw [← app_list2, ← app_list2]
  rw [e1, e2, e3, e4, e5, app_list2, app_list2, strip_list]
end Mine
end
section
open PySem PySem.W PyProof.Rows PySem.Calls
set_option Elab.async false
set_option maxRecDepth 100000
set_option linter.unusedVariables false
set_option linter.unusedSimpArgs false
namespace Mine
noncomputable def S (l : List Nat) : Str := ⟨l.toArray⟩
/-- all texts of the letters c and a, of at most n signs -/
noncomputable def texts : Nat → List (List Nat)
  | 0 => [[]]
  | n + 1 => texts n ++ ((texts n).filter fun l => l.length == n).flatMap fun l => [l ++ [99], l ++ [97]]
/-- a stalk of at most n edges -/
noncomputable def StalkOk (n : Nat) (z : Str) : Prop := ∃ l, l ∈ texts n ∧ z = S l
/-- the letters as signs -/
noncomputable def letters : Nat → List (List Nat)
  | 0 => [[]]
  | n + 1 => (letters n).flatMap fun l => [l ++ [99], l ++ [97]]
theorem letters_texts {m : Nat} : ∀ n, m ≤ n → ∀ l ∈ letters m, l ∈ texts n ∧ l.length = m := by
  induction m with
  | zero =>
    intro n _ l hl
    simp [letters] at hl; subst hl
    refine ⟨?_, rfl⟩
    induction n with
    | zero => simp [texts]
    | succ n ih => exact List.mem_append_left _ (ih (Nat.zero_le _))
  | succ m ihm =>
    intro n hn l hl
    obtain ⟨l', hl', hm⟩ := List.mem_flatMap.1 hl
    have hlen : l.length = m + 1 := by
      have := (ihm m (Nat.le_refl _) l' hl').2
      simp at hm; rcases hm with rfl | rfl <;> simp [this]
    refine ⟨?_, hlen⟩
    induction n with
    | zero => omega
    | succ n ihn =>
      by_cases h : m + 1 ≤ n
      · exact List.mem_append_left _ (ihn h)
      · have e : m = n := by omega
        subst e
        refine List.mem_append_right _ (List.mem_flatMap.2 ⟨l', List.mem_filter.2 ⟨(ihm m (Nat.le_refl _) l' hl').1, ?_⟩, hm⟩)
        simp [(ihm m (Nat.le_refl _) l' hl').2]
theorem empty_cps : (Str.ofString "").cps = #[] := by decide +kernel
theorem join_snoc_S (zs : List Str) (l k : List Nat) (h : Txt.join (Str.ofString "") zs = S l) : Txt.join (Str.ofString "") (zs ++ [S k]) = S (l ++ k) := by
  have h' : Builtin.Str.glued (Str.ofString "") zs = S l := h
  show Builtin.Str.glued (Str.ofString "") (zs ++ [S k]) = S (l ++ k)
  cases zs with
  | nil =>
    have e : ([] : List Nat).toArray = l.toArray := congrArg Str.cps h'
    have e2 : l = [] := by simpa using e.symm
    subst e2
    rfl
  | cons z r =>
    have e : (r.foldl (fun acc p => acc ++ (Str.ofString "").cps ++ p.cps) z.cps) = l.toArray := congrArg Str.cps h'
    show Str.mk ((r ++ [S k]).foldl (fun acc p => acc ++ (Str.ofString "").cps ++ p.cps) z.cps) = S (l ++ k)
    rw [List.foldl_append, e, empty_cps]
    show Str.mk (l.toArray ++ #[] ++ k.toArray) = ⟨(l ++ k).toArray⟩
    simp
end Mine
end
section
open PySem PySem.W PyProof.Rows PySem.Calls
set_option Elab.async false
set_option maxRecDepth 100000
set_option linter.unusedVariables false
set_option linter.unusedSimpArgs false
namespace Mine
theorem hit_iff {c : Nat} {l : List Nat} {hi i : Nat} : hitL c l hi i = true ↔ i < hi ∧ l[i]? = some c := by
  unfold hitL
  rw [Bool.and_eq_true, decide_eq_true_iff, beq_iff_eq]
  have e : (l.drop i).take 1 = l[i]?.toList := by rw [List.take_one, List.head?_drop]
  rw [e]
  constructor
  · rintro ⟨h1, h2⟩
    refine ⟨h1, ?_⟩
    cases h : l[i]? with
    | none => rw [h] at h2; cases h2
    | some d => rw [h] at h2; simpa using h2
  · rintro ⟨h1, h2⟩
    rw [h2]; exact ⟨h1, rfl⟩
theorem fst_none {c : Nat} {l : List Nat} {hi : Nat} (h : ∀ i, i < hi → l[i]? ≠ some c) : fstL c l 0 hi = none := by
  unfold fstL
  rw [List.find?_eq_none]
  intro i _ hh
  have := hit_iff.1 hh
  exact h i this.1 this.2
theorem fst_at {c : Nat} {l : List Nat} {hi n : Nat} (hn : n < hi) (hc : l[n]? = some c) (h : ∀ i, i < n → l[i]? ≠ some c) : fstL c l 0 hi = some n := by
  unfold fstL
  rw [List.find?_range'_eq_some]
  refine ⟨hit_iff.2 ⟨hn, hc⟩, by rw [List.mem_range'_1]; omega, fun j _ hj => ?_⟩
  cases hh : hitL c l hi j with
  | false => rfl
  | true => exact absurd (hit_iff.1 hh).2 (h j hj)
theorem fold_last {p : Nat → Bool} : ∀ (is : List Nat) (st : Option Nat), (∀ i ∈ is, p i = false) → is.foldl (fun st i => if p i = true then some i else st) st = st
  | [], _, _ => rfl
  | a :: is, st, h => by
    rw [List.foldl_cons, if_neg (by rw [h a (.head _)]; exact Bool.false_ne_true)]
    exact fold_last is st fun i hi => h i (.tail _ hi)
theorem lst_none {c : Nat} {l : List Nat} {hi : Nat} (h : ∀ i, i < hi → l[i]? ≠ some c) : lstL c l 0 hi = none := by
  unfold lstL
  refine fold_last _ _ fun i _ => ?_
  cases hh : hitL c l hi i with
  | false => rfl
  | true => exact absurd (hit_iff.1 hh).2 (h i (hit_iff.1 hh).1)
theorem lst_at {c : Nat} {l : List Nat} {hi n : Nat} (hn : n < hi) (hc : l[n]? = some c) (h : ∀ i, n < i → i < hi → l[i]? ≠ some c) : lstL c l 0 hi = some n := by
  unfold lstL
  have e : List.range' 0 (hi + 1 - 0) = List.range' 0 n ++ n :: List.range' (n + 1) (hi - n) := by
    have h1 : hi + 1 - 0 = n + (1 + (hi - n)) := by omega
    rw [h1, ← List.range'_append_1, ← List.range'_append_1]
    simp
  rw [e, List.foldl_append, List.foldl_cons, if_pos (hit_iff.2 ⟨hn, hc⟩)]
  refine fold_last _ _ fun i hi' => ?_
  have := List.mem_range'_1.1 hi'
  cases hh : hitL c l hi i with
  | false => rfl
  | true => exact absurd (hit_iff.1 hh).2 (h i (by omega) (hit_iff.1 hh).1)
theorem get_mem_ne {c : Nat} {l : List Nat} (h : c ∉ l) (i : Nat) : l[i]? ≠ some c := fun e => h (List.mem_of_getElem? e)
theorem strip_mid {p a r : List Nat} (hp : p = [] ∨ ∃ q, p = q ++ [46]) (hn : 10 ∉ p ++ a) (hc : 58 ∉ p ++ a) (hd : 46 ∉ a) (hr : r = [] ∨ ∃ t, r = 10 :: t ∨ r = 58 :: t) : stripL (p ++ a ++ r) = a := by
  have hg : ∀ c, c ∉ p ++ a → ∀ i, i < (p ++ a).length → (p ++ a ++ r)[i]? ≠ some c := fun c h i hi => by
    rw [List.getElem?_append_left hi]; exact get_mem_ne h i
  have hh : ∀ d t, r = d :: t → (p ++ a ++ r)[(p ++ a).length]? = some d := fun d t e => by
    rw [e, List.getElem?_append_right (Nat.le_refl _)]; simp
  have hlen : (p ++ a ++ r).length = (p ++ a).length + r.length := List.length_append
  have h1 : ∃ e0, (fstL 10 (p ++ a ++ r) 0 (p ++ a ++ r).length).getD (p ++ a ++ r).length = e0 ∧ (p ++ a).length ≤ e0 ∧ (fstL 58 (p ++ a ++ r) 0 e0).getD e0 = (p ++ a).length := by
    refine ⟨_, rfl, ?_⟩
    rcases hr with rfl | ⟨t, rfl | rfl⟩
    · rw [List.append_nil]
      rw [fst_none fun i hi => get_mem_ne hn i]
      refine ⟨Nat.le_refl _, ?_⟩
      rw [Option.getD_none, fst_none fun i hi => get_mem_ne hc i]
      rfl
    · rw [fst_at (n := (p ++ a).length) (by rw [hlen]; simp) (hh _ _ rfl) (hg _ hn)]
      refine ⟨Nat.le_refl _, ?_⟩
      rw [Option.getD_some, fst_none (hg _ hc)]
      rfl
    · have hlt : (p ++ a).length < (fstL 10 (p ++ a ++ 58 :: t) 0 (p ++ a ++ 58 :: t).length).getD (p ++ a ++ 58 :: t).length := by
        cases h : fstL 10 (p ++ a ++ 58 :: t) 0 (p ++ a ++ 58 :: t).length with
        | none => rw [Option.getD_none, hlen]; simp
        | some n =>
          rw [Option.getD_some]
          unfold fstL at h
          have h2 := (hit_iff.1 (List.find?_some h)).2
          rcases Nat.lt_trichotomy n (p ++ a).length with h3 | h3 | h3
          · exact absurd h2 (hg _ hn n h3)
          · rw [h3, hh _ _ rfl] at h2; cases h2
          · exact h3
      refine ⟨Nat.le_of_lt hlt, ?_⟩
      rw [fst_at hlt (hh _ _ rfl) (hg _ hc)]
      rfl
  obtain ⟨e0, h1, h2, h3⟩ := h1
  unfold stripL
  rw [h1]
  dsimp only
  rw [h3]
  have hla : (p ++ a).length = p.length + a.length := List.length_append
  have hga : ∀ i, p.length ≤ i → i < (p ++ a).length → (p ++ a ++ r)[i]? ≠ some 46 := fun i h4 h5 => by
    rw [List.getElem?_append_left h5, List.getElem?_append_right h4]
    exact get_mem_ne hd _
  have hfin : ((p ++ a ++ r).drop p.length).take ((p ++ a).length - p.length) = a := by
    rw [List.append_assoc, List.drop_left, hla, Nat.add_sub_cancel_left, List.take_left]
  rcases hp with rfl | ⟨q, rfl⟩
  · rw [lst_none fun i hi => hga i (Nat.zero_le _) hi]
    exact hfin
  · rw [lst_at (n := q.length) (by rw [hla]; simp; omega) (by simp) (fun i h4 h5 => hga i (by simp; omega) h5)]
    have e : (q ++ [46]).length = q.length + 1 := by simp
    rw [e] at hfin
    exact hfin
/-- letters alone -/
noncomputable def Let (l : List Nat) : Prop := ∀ c ∈ l, c = 99 ∨ c = 97
theorem Let.no {l : List Nat} (h : Let l) {c : Nat} (h1 : c ≠ 99) (h2 : c ≠ 97) : c ∉ l := fun hm => by rcases h c hm with e | e <;> contradiction
theorem Let.take {l : List Nat} (h : Let l) (k : Nat) : Let (l.take k) := fun c hc => h c (List.mem_of_mem_take hc)
theorem front_take {a b : List Nat} (ha : Let a) (hb : Let b) (k : Nat) (kind : Int) : frontL a k b kind = a.take k := by
  unfold frontL
  have hr : ∀ (x1 x2 x3 : List Nat), pickL kind ([58] ++ x1) ([10] ++ x2) ([58] ++ x3) [] = [] ∨ ∃ t, pickL kind ([58] ++ x1) ([10] ++ x2) ([58] ++ x3) [] = 10 :: t ∨ pickL kind ([58] ++ x1) ([10] ++ x2) ([58] ++ x3) [] = 58 :: t := by
    intro x1 x2 x3
    unfold pickL
    split
    · exact .inr ⟨x1, .inr rfl⟩
    · split
      · exact .inr ⟨x2, .inl rfl⟩
      · split
        · exact .inr ⟨x3, .inr rfl⟩
        · exact .inl rfl
  have hk := ha.take k
  refine strip_mid ?_ ?_ ?_ (hk.no (by decide) (by decide)) ?_
  · split
    · exact .inr ⟨[120, 46] ++ b, rfl⟩
    · split
      · exact .inr ⟨[], rfl⟩
      · exact .inl rfl
  · intro h
    rcases List.mem_append.1 h with h | h
    · revert h
      split
      · have := hb.no (c := 10) (by decide) (by decide)
        simp [this]
      · split <;> simp
    · exact hk.no (by decide) (by decide) h
  · intro h
    rcases List.mem_append.1 h with h | h
    · revert h
      split
      · have := hb.no (c := 58) (by decide) (by decide)
        simp [this]
      · split <;> simp
    · exact hk.no (by decide) (by decide) h
  · simp only [List.append_assoc]
    exact hr _ _ _
end Mine
end
section
open PySem PySem.W PyProof.Rows PySem.Calls
set_option Elab.async false
set_option maxRecDepth 100000
set_option linter.unusedVariables false
set_option linter.unusedSimpArgs false
namespace Mine
noncomputable def turn1 (a : Str) : Str := if (a == Str.ofString "L") = true then Str.ofString "R" else Str.ofString "L"
noncomputable def turnedP (x : Str) : Str := Txt.join (Str.ofString "") ((signs x).map turn1)
theorem turned_carried {ys : List Value} {x : Str} (h : CarriedAll ys (List.map (fun a => if (a == Str.ofString "L") = true then PyData.str (Str.ofString "R") else PyData.str (Str.ofString "L")) (List.filter (fun a => true) (signs x)))) :
    CarriedAll ys ((signs x).map fun a => PyData.str (turn1 a)) := by
  have e : (fun a : Str => if (a == Str.ofString "L") = true then PyData.str (Str.ofString "R") else PyData.str (Str.ofString "L")) = fun a => PyData.str (turn1 a) := by
    funext a; unfold turn1; split <;> rfl
  rw [e, List.filter_eq_self.mpr (fun _ _ => rfl)] at h
  exact h
set_option maxHeartbeats 8000000 in
theorem turned_c (w : World) (mean : ExcName → Option Value) (mg mb : Str → Option Value) (news : List (Addr × Obj)) (x : Str) (tx : Tok) (hx : x.length ≤ 10) :
   PureC w mean mg mb 219 2 news [.str x tx] (fun t => .str (turnedP x) t) := by
  w_top off; k_with_none
  k_with "call builtin:str.join" => ((k_here; (with_reducible show wpAny _ _ (call (Value.builtin "str.join") [Value.str _ _, Value.ref _]) _ _ _); (have ktC_w := turned_carried (by assumption)); (refine KT.join_1 (by assumption) ktC_w (by intro a_w ha_w; unfold turn1; split <;> decide +kernel) (by simp only [signs_length]; omega) ?_); intro t9_w k9_w e9_w))
  unfold PureC; k_fill; intros; rename_i hret; dsimp only at hret
  refine wpAny_call ?_
  k_dflt cell_enter
  k_steps
  all_goals (refine cb_retS hret ?_ (by k_asm) (by first | k_asm | (refine cb_drop (by assumption) (fun p hp => ?_); repeat (first | exact hp | apply List.mem_cons_of_mem)));  rfl)
theorem words_off_RTurned : True := by k_with_none; exact trivial
end Mine
end
section
open PySem PySem.W PyProof.Rows PySem.Calls
set_option Elab.async false
set_option maxRecDepth 100000
set_option linter.unusedVariables false
set_option linter.unusedSimpArgs false
namespace Mine
theorem stripP_len (x : Str) : (stripP x).length ≤ x.length := PySem.Txt.slice_le _ _ _
theorem frontP_le {x y : Str} {p k : Int} (hx : x.length ≤ 10) (hy : y.length ≤ 10) : (frontP x p y k).length ≤ 100 := by
  refine Nat.le_trans (stripP_len _) ?_
  have h1 := PySem.Txt.slice_le x none (some p)
  have h2 := PySem.Txt.slice_le x (some p) none
  have h3 : (pick4 k (Str.ofString ":" ++ Txt.slice x (some p) none ++ Str.ofString ":." ++ y)
          (Str.ofString "\n" ++ Txt.slice x (some p) none ++ Str.ofString ":.\n" ++ y)
          (Str.ofString ":" ++ Txt.slice x (some p) none ++ Str.ofString "\n." ++ y) (Str.ofString "")).length ≤ 60 := by
    apply pick4_len <;> (simp only [Str.length_append, len_lits]; omega)
  have h4 : (if (y != Str.ofString "") = true then Str.ofString "x." ++ y ++ Str.ofString "." else if 0 < p then Str.ofString "." else Str.ofString "").length ≤ 20 := by
    split
    · simp only [Str.length_append, len_lits]; omega
    · split <;> simp only [len_lits] <;> omega
  simp only [Str.length_append]
  omega
/-- the front line, with the length of what it hands back -/
theorem front_c' (w : World) (mean : ExcName → Option Value) (mg mb : Str → Option Value) (news : List (Addr × Obj)) (x y : Str) (p k : Int) (tx tp ty tk : Tok) (hx : x.length ≤ 10) (hy : y.length ≤ 10) (hp : 0 ≤ p ∧ p ≤ x.length) (hk : 0 ≤ k ∧ k ≤ 3)
    {dp un : Nat} {gd : Option (List Code)} {cn : Str} {cs : Scope} {a : Addr} {ccd : Value} {cl : List (Str × Addr)} {outer : List Env} {A₀ : Around} {base h₀ : Heap} {L : Addr} {m : Str → Option Value} {s : Shared} {Q E : Value → Shared → Prop}
    (B : Below A₀ base outer h₀) (F : Fr h₀ L s.heap m) (X : (Mine.hd.heap_39 w.params).In h₀) (N : News h₀ L s.heap news) (T : Top Mine.hd.view_39 (looseW Mine.hd.view_39 [Str.ofString "tspecials", Str.ofString "_name_disallowed_re", Str.ofString "_value_disallowed_re", Str.ofString "_formatparam"]) mean mg mb h₀) (hkk : cs.kind = .function)
    (hd : dp + 4 < recursionLimit) (hu : un + 8 * 4 < cLine)
    (ret : ∀ (t : Tok) (h' : Heap) (tk' : Nat), (frontP x p y k).length ≤ 100 → Fr h₀ L h' m → News h₀ L h' news → Q (.str (frontP x p y k) t) { s with heap := h', toks := tk' }) :
    wpAny (model PySem.Challenge.rw_rl0085_01.row.toRowW.prog w) (ktrTop dp un gd cn cs L a ccd cl outer) (call (.ref 207) [.str x tx, .int p tp, .str y ty, .int k tk]) Q E s :=
  PureC.use (front_c w mean mg mb news x y p k tx tp ty tk hx hy hp hk) B F X N T hkk hd hu fun t h' tk' => ret t h' tk' (frontP_le hx hy)
noncomputable def spelledP (x y : Str) : Str :=
  let n := frontP x (x.length : Int) y 3 ++ Str.ofString "." ++ frontP y (y.length : Int) x 3
  if ((x.length : Int) + (y.length : Int)).fmod 2 = 1 then Txt.upper n else n
set_option maxHeartbeats 8000000 in
theorem spelled_c (w : World) (mean : ExcName → Option Value) (mg mb : Str → Option Value) (news : List (Addr × Obj)) (x y : Str) (tx ty : Tok) (hx : x.length ≤ 10) (hy : y.length ≤ 10) :
   PureC w mean mg mb 214 6 news [.str x tx, .str y ty] (fun t => .str (spelledP x y) t) := by
  w_top off; k_with_none
  k_with "call ref" => ((k_here; (with_reducible show wpAny _ _ (call (Value.ref 207) [Value.str _ _, Value.int _ _, Value.str _ _, Value.int _ _]) _ _ _); k_dflt (refine' front_c' _ _ _ _ _ _ _ _ _ _ _ _ _ ?hx_w ?hy_w ?hp_w ?hk_w ?k1_w ?k2_w ?k3_w ?k4_w ?k5_w ?kK_w ?kd_w ?ku_w ?_; (case k1_w => k_asm); (case k2_w => k_asm); (case k3_w => k_asm); (case k4_w => k_asm); (case k5_w => k_asm); (case kK_w => first | exact rfl | assumption); (case kd_w => ktr_room); (case ku_w => ktr_units); (case hx_w => omega); (case hy_w => omega); (case hp_w => (constructor <;> omega)); (case hk_w => (constructor <;> omega)); intro t9_w h9_w tk9_w hl9_w F9_w N9_w; (try dsimp only); (try k_fold))))
  k_with "call builtin:str.upper" => ((k_here; (refine SCL.upper (by first | omega | (simp only [Str.length_append, len_lits]; omega)) ?_); intro hl9_w))
  unfold PureC; k_fill; intros; rename_i hret; dsimp only at hret
  refine wpAny_call ?_
  k_dflt cell_enter
  k_steps
  all_goals (
    refine cb_retS hret ?_ (by k_asm) (by first | k_asm | (refine cb_drop (by assumption) (fun p hp => ?_); repeat (first | exact hp | apply List.mem_cons_of_mem)))
    simp only [spelledP]
    first
      | ((have h9 : ((x.length : Int) + (y.length : Int)).fmod 2 = 1 := by assumption); rw [if_pos h9])
      | ((have h9 : ¬ ((x.length : Int) + (y.length : Int)).fmod 2 = 1 := by assumption); rw [if_neg h9])
      | skip)
theorem words_off_RSpelled : True := by k_with_none; exact trivial
end Mine
end
section
open PySem PySem.W PyProof.Rows PySem.Calls
set_option Elab.async false
set_option maxRecDepth 100000
set_option linter.unusedVariables false
set_option linter.unusedSimpArgs false
namespace Mine
noncomputable def worthStep (x : Str) (σ : Int × Int × Unit) (k : Str) : Int × Int × Unit :=
          if (σ.snd.fst == 8) = true then
            if (k == Txt.item x 0) = true then
              if (k == Str.ofString "c") = true then (σ.fst + σ.snd.fst, σ.snd.fst, ())
              else (σ.fst + -σ.snd.fst, σ.snd.fst, ())
            else
              if (k == Str.ofString "c") = true then (σ.fst + σ.snd.fst.fdiv 2, σ.snd.fst.fdiv 2, ())
              else (σ.fst + -σ.snd.fst.fdiv 2, σ.snd.fst.fdiv 2, ())
          else
            if (k == Str.ofString "c") = true then (σ.fst + σ.snd.fst.fdiv 2, σ.snd.fst.fdiv 2, ())
            else (σ.fst + -σ.snd.fst.fdiv 2, σ.snd.fst.fdiv 2, ())
noncomputable def worthP (x : Str) : Int := (List.foldl (worthStep x) (0, 8, ()) (signs x)).fst
set_option maxHeartbeats 8000000 in
theorem worth_c1 (w : World) (mean : ExcName → Option Value) (mg mb : Str → Option Value) (news : List (Addr × Obj)) (x : Str) (tx : Tok) (hx : x.length ≤ 10) (hx0 : 0 < x.length) :
   PureC w mean mg mb 241 2 news [.str x tx] (fun t => .int (worthP x) t) := by
  w_top off; k_with_none
  unfold PureC; k_fill; intros; rename_i hret; dsimp only at hret
  refine wpAny_call ?_
  k_dflt cell_enter
  k_steps
  all_goals (exact cb_retI hret rfl (by k_asm) (by first | k_asm | (refine cb_drop (by assumption) (fun p hp => ?_); repeat (first | exact hp | apply List.mem_cons_of_mem))))
set_option maxHeartbeats 8000000 in
theorem worth_c0 (w : World) (mean : ExcName → Option Value) (mg mb : Str → Option Value) (news : List (Addr × Obj)) (tx : Tok) :
   PureC w mean mg mb 241 2 news [.str (Str.ofString "") tx] (fun t => .int 0 t) := by
  w_top off; k_with_none
  unfold PureC; k_fill; intros; rename_i hret; dsimp only at hret
  refine wpAny_call ?_
  k_dflt cell_enter
  k_steps
  all_goals (exact cb_retI hret rfl (by k_asm) (by first | k_asm | (refine cb_drop (by assumption) (fun p hp => ?_); repeat (first | exact hp | apply List.mem_cons_of_mem))))
theorem worth_c (w : World) (mean : ExcName → Option Value) (mg mb : Str → Option Value) (news : List (Addr × Obj)) (x : Str) (tx : Tok) (hx : x.length ≤ 10) :
   PureC w mean mg mb 241 2 news [.str x tx] (fun t => .int (worthP x) t) := by
  by_cases h : 0 < x.length
  · exact worth_c1 w mean mg mb news x tx hx h
  · have e : x = Str.ofString "" := by
      have h0 : x.cps.size = 0 := by simp only [Str.length] at h; omega
      have h1 : x.cps = #[] := Array.eq_empty_of_size_eq_zero h0
      show (⟨x.cps⟩ : Str) = _
      rw [h1]; decide +kernel
    subst e
    have e0 : worthP (Str.ofString "") = 0 := by decide +kernel
    rw [e0]
    exact worth_c0 w mean mg mb news tx
end Mine
end
section
open PySem PySem.W PyProof.Rows PySem.Calls
set_option Elab.async false
set_option maxRecDepth 100000
set_option linter.unusedVariables false
set_option linter.unusedSimpArgs false
namespace Mine
/-- a call of the def at f, from any frame, over the ledger `news`: R tells what comes back and the ledger behind -/
noncomputable abbrev CallC (w : World) (mean : ExcName → Option Value) (mg mb : Str → Option Value) (f : Addr) (d : Nat) (news : List (Addr × Obj)) (vs : List Value) (kw : List (Str × Value)) (R : Value → List (Addr × Obj) → Prop) : Prop :=
  ∀ (dp un : Nat) (gd : Option (List Code)) (cn : Str) (cs : Scope) (a : Addr) (ccd : Value) (cl : List (Str × Addr)) (outer : List Env) (A₀ : Around) (base h₀ : Heap) (L : Addr) (m : Str → Option Value) (s : Shared) (Q E : Value → Shared → Prop),
    Below A₀ base outer h₀ → Fr h₀ L s.heap m → (Mine.hd.heap_39 w.params).In h₀ → News h₀ L s.heap news → Top Mine.hd.view_39 (looseW Mine.hd.view_39 [Str.ofString "tspecials", Str.ofString "_name_disallowed_re", Str.ofString "_value_disallowed_re", Str.ofString "_formatparam"]) mean mg mb h₀ → cs.kind = .function →
    dp + d < recursionLimit → un + 8 * d < cLine →
    (∀ (v : Value) (nw : List (Addr × Obj)) (h' : Heap) (tk' : Nat), R v nw → Fr h₀ L h' m → News h₀ L h' nw → Q v { s with heap := h', toks := tk' }) →
      wpAny (model PySem.Challenge.rw_rl0085_01.row.toRowW.prog w) (ktrTop dp un gd cn cs L a ccd cl outer) (call (.ref f) vs kw) Q E s
theorem CallC.use {w : World} {mean : ExcName → Option Value} {mg mb : Str → Option Value} {f : Addr} {d : Nat} {news : List (Addr × Obj)} {vs : List Value} {kw : List (Str × Value)} {R : Value → List (Addr × Obj) → Prop} (C : CallC w mean mg mb f d news vs kw R)
    {dp un : Nat} {gd : Option (List Code)} {cn : Str} {cs : Scope} {a : Addr} {ccd : Value} {cl : List (Str × Addr)} {outer : List Env} {A₀ : Around} {base h₀ : Heap} {L : Addr} {m : Str → Option Value} {s : Shared} {Q E : Value → Shared → Prop}
    (B : Below A₀ base outer h₀) (F : Fr h₀ L s.heap m) (X : (Mine.hd.heap_39 w.params).In h₀) (N : News h₀ L s.heap news) (T : Top Mine.hd.view_39 (looseW Mine.hd.view_39 [Str.ofString "tspecials", Str.ofString "_name_disallowed_re", Str.ofString "_value_disallowed_re", Str.ofString "_formatparam"]) mean mg mb h₀) (hk : cs.kind = .function)
    (hd : dp + d < recursionLimit) (hu : un + 8 * d < cLine)
    (ret : ∀ (v : Value) (nw : List (Addr × Obj)) (h' : Heap) (tk' : Nat), R v nw → Fr h₀ L h' m → News h₀ L h' nw → Q v { s with heap := h', toks := tk' }) :
    wpAny (model PySem.Challenge.rw_rl0085_01.row.toRowW.prog w) (ktrTop dp un gd cn cs L a ccd cl outer) (call (.ref f) vs kw) Q E s := C _ _ _ _ _ _ _ _ _ _ _ _ _ _ _ _ _ B F X N T hk hd hu ret
end Mine
end
section
open PySem PySem.W PyProof.Rows PySem.Calls
set_option Elab.async false
set_option maxRecDepth 100000
set_option linter.unusedVariables false
set_option linter.unusedSimpArgs false
namespace Mine
section
open PySem.Builtin PySem.Builtin.Re
theorem plainAttrs_pat : PlainAttrs "re.Pattern" :=
  ⟨⟨"object.__getattribute__", by rw [typeLookup_type, builtinLookup_eq_fast]; kernel_rfl, by decide +kernel⟩, by rw [typeLookup_type, builtinLookup_eq_fast]; kernel_rfl⟩
theorem slot_pat_search : Slot "re.Pattern" "search" "re.Pattern.search" :=
  .of (owner := "re.Pattern") (n := "search") (by rw [typeLookup_type, builtinLookup_eq_fast]; kernel_rfl) (by decide +kernel) (by decide +kernel) (by decide +kernel)
    (by first | exact .inl (by decide +kernel) | exact .inr (by decide +kernel)) (by rw [isSubtype_type]; kernel_rfl)
theorem type_pat_search : typeOf (.builtin "re.Pattern.search") = pure (.type "method_descriptor") := by show builtinType _ = _; rw [builtinType_eq_fast]; kernel_rfl
theorem entry_pat_search : entryFor table "re.Pattern.search" = some Builtin.«re.Pattern.search» := entryFor_of_tree (by kernel_rfl)
theorem owner_pat : Manifest.owners.lookup (String.ofList ['n', 'r', 'e', 't', 't', 'a', 'P', '.', 'e', 'r'].reverse) = some Manifest.sig_re_Pattern := by kernel_rfl
theorem args_pat_search (a b : Value) : argsOk "re.Pattern.search" ⟨[a, b], []⟩ := by
  unfold argsOk; rw [signature?_of (id := "re.Pattern.search") (n := ['h', 'c', 'r', 'a', 'e', 's']) (o := ['n', 'r', 'e', 't', 't', 'a', 'P', '.', 'e', 'r']) (by kernel_rfl) owner_pat]; kernel_rfl
noncomputable def freshM (code text : Array Nat) (lim : Nat) : Sre.M :=
  { code, text, lim, start := 0, pc := (Sre.header code).2, pos := 0, handed := 0, marks := Array.replicate (2 * 0) none, mustAdvance := false,
    seen := if (Sre.header code).2 == 0 then {} else ({} : Sre.Seen).add 14 }
theorem forSearch_eq (code text : Array Nat) (lim : Nat) : Sre.forSearch code text 0 0 lim false =
    (if (decide (0 > lim) || decide (lim - 0 < (Sre.header code).1)) = true then (freshM code text lim).say false
     else Sre.M.attemptFrom { freshM code text lim with lastStart := if (decide ((Sre.header code).1 > 1) && !((Sre.header code).2 != 0 && code.getD 2 0 &&& 5 != 0)) = true then max 0 (lim - ((Sre.header code).1 - 1)) else lim } 0 true) := rfl
theorem admitted_none (m : Sre.M) (h : ∀ i, i < m.lim → ∀ seen, ∃ seen', Sre.inSet m.code (m.text.getD i 0) m.code.size 5 true seen = .ok (false, seen')) :
    ∀ (fuel s : Nat) (seen : Sre.Seen), ∃ seen', Sre.M.admitted m fuel s seen = .ok (none, seen') := by
  intro fuel
  induction fuel with
  | zero => intro s seen; exact ⟨seen, rfl⟩
  | succ n ih =>
    intro s seen
    unfold Sre.M.admitted
    by_cases hs : s ≥ m.lim
    · rw [if_pos hs]; exact ⟨seen, rfl⟩
    · rw [if_neg hs]
      obtain ⟨seen', e⟩ := h s (Nat.lt_of_not_le hs) seen
      rw [e]
      exact ih (s + 1) seen'
theorem search_fails (code text : Array Nat) (lim : Nat) (hf : Sre.M.hasFirstSet (freshM code text lim) = true) (h : ∀ i, i < lim → ∀ seen, ∃ seen', Sre.inSet code (text.getD i 0) code.size 5 true seen = .ok (false, seen')) :
    (Sre.forSearch code text 0 0 lim false).answer = some false ∧ (Sre.forSearch code text 0 0 lim false).frames = [] ∧ (Sre.forSearch code text 0 0 lim false).outcome = none := by
  rw [forSearch_eq]
  split
  · exact ⟨rfl, rfl, rfl⟩
  · generalize hm : ({ freshM code text lim with lastStart := if (decide ((Sre.header code).1 > 1) && !((Sre.header code).2 != 0 && code.getD 2 0 &&& 5 != 0)) = true then max 0 (lim - ((Sre.header code).1 - 1)) else lim } : Sre.M) = m
    have e1 : m.code = code := by rw [← hm]; rfl
    have e2 : m.text = text := by rw [← hm]; rfl
    have e3 : m.lim = lim := by rw [← hm]; rfl
    have e4 : m.frames = [] := by rw [← hm]; rfl
    have e5 : m.outcome = none := by rw [← hm]; rfl
    have e6 : m.hasFirstSet = true := by rw [← hm]; exact hf
    unfold Sre.M.attemptFrom
    rw [e6]
    obtain ⟨seen', e⟩ := admitted_none m (by rw [e1, e2, e3]; exact h) (m.lim + 1 - 0) 0 m.seen
    simp only [Bool.not_true, Bool.false_eq_true, if_false]
    rw [e]
    exact ⟨rfl, e4, e5⟩
theorem run_fails (m : Sre.M) (ha : m.answer = some false) (hf : m.frames = []) (ho : m.outcome = none) : (m.runFor 4).outcome = some .failed := by
  have e : m.step = { m with outcome := some .failed } := by
    unfold Sre.M.step; rw [ho, ha, hf]; rfl
  show (if m.outcome.isSome then m else Sre.M.runFor 3 m.step).outcome = _
  rw [ho, e]
  rfl
section
variable {M : Model} {A : Around} {E : Value → Shared → Prop} {s : Shared}
theorem wp_notes (b : Nat → Bool) (nm : Nat → String) (l : List Nat) {Q : PUnit → Shared → Prop} (h : Q ⟨⟩ s) :
    wpAny M A (forIn l PUnit.unit fun i _ => (if b i = true then (do rule (nm i); pure (ForInStep.yield PUnit.unit)) else pure (ForInStep.yield PUnit.unit) : Sem (ForInStep PUnit))) Q E s := by
  induction l with
  | nil => exact wpAny_pure h
  | cons i l ih =>
    rw [List.forIn_cons]
    refine wpAny_bind ?_
    by_cases hb : b i = true
    · simp only [hb, if_true]
      exact wpAny_bind (wpAny_rule (wpAny_pure ih))
    · simp only [hb, if_false]
      exact wpAny_pure ih
theorem wp_runToEnd {m : Sre.M} (h : (m.runFor 4).outcome = some .failed) {Q : Option Sre.M → Shared → Prop} (hq : Q none s) : wpAny M A (reRunToEnd m) Q E s := by
  unfold reRunToEnd
  have e : reDrive (2 ^ 64) m = pure (m.runFor 4) := by
    show reDrive ((2 ^ 64 - 1) + 1) m = _
    rw [reDrive]
    show (if (m.runFor 4).outcome.isSome = true then pure (m.runFor 4) else _) = _
    rw [h]; rfl
  rw [e]
  refine wpAny_bind (wpAny_pure ?_)
  refine wpAny_bind (wp_notes _ _ _ ?_)
  rw [h]
  exact wpAny_pure hq
end
/-- the signs that both patterns let pass -/
noncomputable def plainText (x : Str) : Prop := ∀ c ∈ x.cps.toList, 32 ≤ c ∧ c < 127
noncomputable def PatAt (h : Heap) (a c : Addr) (fs its : Array Value) : Prop := (∃ o, h.get? a = some o ∧ o.cls = .type "re.Pattern" ∧ o.dict = none ∧ o.data = .fields fs) ∧ ∃ o n, h.get? c = some o ∧ o.data = .seq its n
theorem gives_search {a c : Addr} {x : Str} {t : Tok} {fs its : Array Value} (h5 : fs.getD 5 .none = .ref c) (h6 : reRawNat (fs.getD 6 .none) = 0) (h2 : reRawNat (fs.getD 2 .none) = 0)
    (hsz : x.length ≤ 100) (code : Array Nat) (hcode : (its.map reRawOf).map (·.toNat) = code) (hfail : ((Sre.forSearch code x.cps 0 0 x.cps.size false).runFor 4).outcome = some .failed) :
    GivesAt (fun s => PatAt s.heap a c fs its) («re.Pattern.search» ⟨[.ref a, .str x t], []⟩) (.val .none) := by
  rintro prog w A R s ⟨⟨o, ho, _, _, hod⟩, oc, n, hoc, hocd⟩ hq
  have e : reTarget "re.Pattern.search" "search" ⟨[.ref a, .str x t], []⟩ = (do
      let fs ← fieldsOf (.ref a)
      let want := reRawNat (fs.getD 6 Value.none)
      let jp : Unit → Sem ReTarget := fun _ =>
        let jp2 : Unit → Sem ReTarget := fun _ => do
          reNoCollectionInside (.str x t) 0
          let l ← reRawItems (fs.getD 5 Value.none)
          pure { pattern := .ref a, string := .str x t, code := Array.map (fun x => x.toNat) l, text := x.cps, kind := 0, groups := reRawNat (fs.getD 2 Value.none), pos := min (0 : Int).toNat x.cps.size, lim := min (2 ^ 63 - 1 : Int).toNat x.cps.size }
        if (want == 1 && (0 == 0)) = true then do
          let r ← raiseErrorWords "TypeError" "cannot use a bytes pattern on a string-like object"
          jp2 r
        else jp2 ()
      if (want == 0 && (0 == 1)) = true then do
        let r ← raiseErrorWords "TypeError" "cannot use a string pattern on a bytes-like object"
        jp r
      else jp ()) := by rfl
  unfold «re.Pattern.search»
  rw [e]
  refine wpAny_bind (wpAny_bind (wpAny_bind (wpAny_load ho ?_)))
  rw [hod]
  refine wpAny_pure ?_
  simp only [h6, h5, h2]
  show wpAny _ _ (do reNoCollectionInside (.str x t) 0; _) _ _ s
  refine wpAny_bind ?_
  show wpAny _ _ (pure ()) _ _ s
  refine wpAny_pure ?_
  refine wpAny_bind (wpAny_bind (wpAny_bind (wpAny_load hoc ?_)))
  rw [hocd]
  refine wpAny_pure (wpAny_pure (wpAny_pure ?_))
  have el : min (2 ^ 63 - 1 : Int).toNat x.cps.size = x.cps.size := by
    have : x.cps.size ≤ 100 := hsz
    apply Nat.min_eq_right
    exact Nat.le_trans this (by decide)
  have ez : min (0 : Int).toNat x.cps.size = 0 := by simp
  simp only [Option.getD_some, hcode, el, ez]
  refine wpAny_bind (wp_runToEnd hfail ?_)
  exact wpAny_pure hq
end
section
variable {prog : Program} {w : World} {A : Around} {E : Value → Shared → Prop} {s : Shared}
theorem call_search {a c : Addr} {x : Str} {t : Tok} {fs its : Array Value} {Q : Value → Shared → Prop} (hp : PatAt s.heap a c fs its) (h5 : fs.getD 5 .none = .ref c) (h6 : Builtin.Re.reRawNat (fs.getD 6 .none) = 0) (h2 : Builtin.Re.reRawNat (fs.getD 2 .none) = 0)
    (hsz : x.length ≤ 100) (code : Array Nat) (hcode : (its.map Builtin.Re.reRawOf).map (·.toNat) = code) (hfail : ((Sre.forSearch code x.cps 0 0 x.cps.size false).runFor 4).outcome = some .failed) (h : Q .none s) :
    wpAny (model prog w) A (call (.builtin "re.Pattern.search") [.ref a, .str x t]) Q E s :=
  call_givesAt slot_pat_search (by obtain ⟨⟨o, ho, hc, _⟩, _⟩ := hp; exact ⟨o, ho, hc⟩) entry_pat_search (args_pat_search _ _) (gives_search h5 h6 h2 hsz code hcode hfail) hp h
theorem get_search {a c : Addr} {fs its : Array Value} {pl : Sem Bool} {Q : Value × List Value → Shared → Prop} (hp : PatAt s.heap a c fs its) (h : Q (.builtin "re.Pattern.search", [.ref a]) s) :
    wpAny (model prog w) A (getMethod (.ref a) "search" pl) Q E s :=
  getMethod_builtin (by obtain ⟨⟨o, ho, hc, _⟩, _⟩ := hp; exact ⟨o, ho, hc⟩) plainAttrs_pat slot_pat_search type_pat_search (fun b e => by cases e; obtain ⟨⟨o, ho, _, hd, _⟩, _⟩ := hp; exact ⟨o, ho, hd⟩) h
end
end Mine
end
section
open PySem PySem.W PyProof.Rows PySem.Calls
set_option Elab.async false
set_option maxRecDepth 100000
set_option linter.unusedVariables false
set_option linter.unusedSimpArgs false
namespace Mine
noncomputable abbrev code1 : Array Nat := #[14, 10, 4, 1, 1, 22, 0, 31, 16, 127, 0, 13, 7, 22, 0, 31, 16, 127, 0, 1]
noncomputable abbrev code2 : Array Nat := #[14, 14, 4, 1, 1, 9, 4294966783, 0, 0, 2147483648, 0, 0, 0, 0, 0, 13, 11, 9, 4294966783, 0, 0, 2147483648, 0, 0, 0, 0, 0, 1]
theorem inset1 (c : Nat) (h : 32 ≤ c ∧ c < 127) (seen : Sre.Seen) : ∃ seen', Sre.inSet code1 c code1.size 5 true seen = .ok (false, seen') := by
  have e1 : Sre.inSet code1 c 20 5 true seen = (if (decide (0 ≤ c) && decide (c ≤ 31)) = true then .ok (true, seen.add 22) else Sre.inSet code1 c 19 8 true (seen.add 22)) := rfl
  have e2 : Sre.inSet code1 c 19 8 true (seen.add 22) = (if (c == 127) = true then .ok (true, (seen.add 22).add 16) else Sre.inSet code1 c 18 10 true ((seen.add 22).add 16)) := rfl
  have e3 : Sre.inSet code1 c 18 10 true ((seen.add 22).add 16) = .ok (false, ((seen.add 22).add 16).add 0) := rfl
  refine ⟨((seen.add 22).add 16).add 0, ?_⟩
  show Sre.inSet code1 c 20 5 true seen = _
  rw [e1, if_neg (by simp; omega), e2, if_neg (by simp; omega), e3]
theorem bits2 : ∀ c : Fin 127, 32 ≤ c.val → (decide (c.val < 256) && (code2.getD (5 + (1 + c.val / 32)) 0).testBit (c.val % 32)) = false := by decide +kernel
theorem inset2 (c : Nat) (h : 32 ≤ c ∧ c < 127) (seen : Sre.Seen) : ∃ seen', Sre.inSet code2 c code2.size 5 true seen = .ok (false, seen') := by
  have e1 : Sre.inSet code2 c 28 5 true seen = (if (decide (c < 256) && (code2.getD (5 + (1 + c / 32)) 0).testBit (c % 32)) = true then .ok (true, seen.add 9) else Sre.inSet code2 c 27 14 true (seen.add 9)) := rfl
  have e3 : Sre.inSet code2 c 27 14 true (seen.add 9) = .ok (false, (seen.add 9).add 0) := rfl
  refine ⟨(seen.add 9).add 0, ?_⟩
  show Sre.inSet code2 c 28 5 true seen = _
  rw [e1, bits2 ⟨c, h.2⟩ h.1, e3]
  rfl
theorem text_at {x : Str} (h : plainText x) (i : Nat) (hi : i < x.cps.size) : 32 ≤ x.cps.getD i 0 ∧ x.cps.getD i 0 < 127 := by
  have e : x.cps.getD i 0 = x.cps[i] := by simp [Array.getD, hi]
  rw [e]
  exact h _ (by simp)
theorem fails1 {x : Str} (h : plainText x) : ((Sre.forSearch code1 x.cps 0 0 x.cps.size false).runFor 4).outcome = some .failed := by
  obtain ⟨a, b, c⟩ := search_fails code1 x.cps x.cps.size rfl (fun i hi seen => inset1 _ (text_at h i hi) seen)
  exact run_fails _ a b c
theorem fails2 {x : Str} (h : plainText x) : ((Sre.forSearch code2 x.cps 0 0 x.cps.size false).runFor 4).outcome = some .failed := by
  obtain ⟨a, b, c⟩ := search_fails code2 x.cps x.cps.size rfl (fun i hi seen => inset2 _ (text_at h i hi) seen)
  exact run_fails _ a b c
theorem pat_of {K : Frag} {h : Heap} {a c : Addr} {fs its : Array Value} {n : Nat} {oc : Value} {od : Option Addr} {sl sl' : Array (Option Value)} (X : K.In h) (ha : K.lookup a = some ⟨.type "re.Pattern", none, .fields fs, sl⟩) (hc : K.lookup c = some ⟨oc, od, .seq its n, sl'⟩) : PatAt h a c fs its :=
  ⟨⟨_, X _ _ ha, rfl, rfl, rfl⟩, _, _, X _ _ hc, rfl⟩
set_option maxHeartbeats 8000000 in
theorem conv_c (w : World) (mean : ExcName → Option Value) (mg mb : Str → Option Value) (news : List (Addr × Obj)) (tb : Addr) (x : Str) (tx : Tok) (b : Bool) (hx : x.length ≤ 100) (hpl : plainText x) :
   CallC w mean mg mb 97 4 news [.ref tb, .str x tx] [(Str.ofString "name", .bool b)] (fun v nw => v = .str x tx ∧ nw = news) := by
  w_top off; k_with_none
  k_with "ktr_enter" => (first | (refine' code_def ?k1_w ?k2_w ?k3_w ?k4_w ?k5_w ?kA_w ?kF_w ?kK_w ?k6_w ?k7_w ?k8_w ?k9_w ?kB_w ?_ ?c2_w ?c3_w ?c4_w ?c5_w; (case kA_w => exact rfl); (case kF_w => exact rfl); (case kK_w => first | exact rfl | assumption); (case k1_w => k_asm); (case k2_w => k_asm); (case k3_w => k_asm); (case k4_w => k_asm); (case k5_w => k_asm); (case k6_w => k_is); (case k7_w => k_is); (case k8_w => ktr_room); (case k9_w => first | exact BindsTo.of_eq rfl | exact binds_K (by k_in) rfl (by k_is) rfl rfl rfl | (refine' kp_binds ?kx_w ?ke_w; (case kx_w => k_in); (case ke_w => exact fun _ => rfl))); (case c5_w => decide); (case kB_w => exact locs rfl); (case c2_w => exact rfl); (case c3_w => exact rfl); (case c4_w => exact rfl); k_whole; intro g'_w L'_w h'_w FG'_w F'_w N'_w B'_w X'_w T'_w; (try dsimp only); (try k_lift B'_w); (try k_fold)) | (refine' code_defC ?k1_w ?k2_w ?k3_w ?k4_w ?k5_w ?kA_w ?kF_w ?kK_w ?k6_w ?k7_w ?k8_w ?k9_w ?kB_w ?kD_w ?_ ?c2_w ?c3_w ?c4_w; (case kA_w => exact rfl); (case kF_w => exact rfl); (case kK_w => first | exact rfl | assumption); (case k1_w => k_asm); (case k2_w => k_asm); (case k3_w => k_asm); (case k4_w => k_asm); (case k5_w => k_asm); (case k6_w => k_is); (case k7_w => k_is); (case k8_w => ktr_room); (case k9_w => first | exact BindsTo.of_eq rfl | exact binds_K (by k_in) rfl (by k_is) rfl rfl rfl | (refine' kp_binds ?kx_w ?ke_w; (case kx_w => k_in); (case ke_w => exact fun _ => rfl))); (case kB_w => exact rfl); (case kD_w => decide +kernel); (case c2_w => exact rfl); (case c3_w => exact rfl); (case c4_w => exact rfl); k_whole; intro g'_w L'_w h'_w tk'_w cells'_w FG'_w F'_w N'_w Y'_w B'_w X'_w T'_w l1_w; (try k_lt l1_w); k_cells Y'_w; (try simp only [List.cons_append, List.nil_append] at N'_w); (try dsimp only); (try k_lift B'_w); (try k_fold)))
  k_with "getMethod ref" => ((k_here; k_dflt (first | (refine' get_search (a := 62) (c := 61) (pat_of ?kx_w ?ka_w ?kc_w) ?_; (case kx_w => k_in); (case ka_w => k_is); (case kc_w => k_is); k_whole) | (refine' get_search (a := 67) (c := 66) (pat_of ?kx_w ?ka_w ?kc_w) ?_; (case kx_w => k_in); (case ka_w => k_is); (case kc_w => k_is); k_whole))))
  k_with "call builtin:re.Pattern.search" => ((k_here; k_dflt (first | (refine' call_search (a := 62) (c := 61) (pat_of ?kx_w ?ka_w ?kc_w) ?k5_w ?k6_w ?k2_w ?ks_w code1 ?kd_w (fails1 ?kp_w) ?_; (case kx_w => k_in); (case ka_w => k_is); (case kc_w => k_is); (case k5_w => rfl); (case k6_w => rfl); (case k2_w => rfl); (case ks_w => assumption); (case kd_w => decide +kernel); (case kp_w => assumption); k_whole) | (refine' call_search (a := 67) (c := 66) (pat_of ?kx_w ?ka_w ?kc_w) ?k5_w ?k6_w ?k2_w ?ks_w code2 ?kd_w (fails2 ?kp_w) ?_; (case kx_w => k_in); (case ka_w => k_is); (case kc_w => k_is); (case k5_w => rfl); (case k6_w => rfl); (case k2_w => rfl); (case ks_w => assumption); (case kd_w => decide +kernel); (case kp_w => assumption); k_whole))))
  unfold CallC; k_fill; intros; rename_i hret
  refine wpAny_call ?_
  k_dflt ktr_enter
  k_steps
  all_goals (exact hret _ _ _ _ ⟨rfl, rfl⟩ (by k_asm) (by first | k_asm | (refine cb_drop (by assumption) (fun p hp => ?_); repeat (first | exact hp | apply List.mem_cons_of_mem))))
theorem words_off_RConv : True := by k_with_none; exact trivial
end Mine
end
section
open PySem PySem.W PyProof.Rows PySem.Calls
set_option Elab.async false
set_option maxRecDepth 100000
set_option linter.unusedVariables false
set_option linter.unusedSimpArgs false
namespace Mine
/-- the tuple that a row of the table is -/
noncomputable abbrev rowObj (k v : Str) (tk tv : Tok) (n : Nat) : Obj := { cls := .type "tuple", data := .seq #[.str k tk, .str v tv] n }
inductive RowsIn (news : List (Addr × Obj)) : List Value → List (Str × Str) → Prop
  | nil : RowsIn news [] []
  | cons {a : Addr} {k v : Str} {tk tv : Tok} {n : Nat} {vs : List Value} {rows : List (Str × Str)} : (a, rowObj k v tk tv n) ∈ news → RowsIn news vs rows → RowsIn news (.ref a :: vs) ((k, v) :: rows)
theorem RowsIn.length {news : List (Addr × Obj)} {vs : List Value} {rows : List (Str × Str)} (h : RowsIn news vs rows) : vs.length = rows.length := by
  induction h with
  | nil => rfl
  | cons _ _ ih => simp [ih]
theorem RowsIn.mono {news news' : List (Addr × Obj)} (hs : ∀ p ∈ news, p ∈ news') {vs : List Value} {rows : List (Str × Str)} (h : RowsIn news vs rows) : RowsIn news' vs rows := by
  induction h with
  | nil => exact .nil
  | cons hm _ ih => exact .cons (hs _ hm) ih
theorem RowsIn.append {news : List (Addr × Obj)} {vs ws : List Value} {rows rows' : List (Str × Str)} (h : RowsIn news vs rows) (h' : RowsIn news ws rows') : RowsIn news (vs ++ ws) (rows ++ rows') := by
  induction h with
  | nil => exact h'
  | cons hm _ ih => exact .cons hm ih
theorem RowsIn.get {news : List (Addr × Obj)} {vs : List Value} {rows : List (Str × Str)} (h : RowsIn news vs rows) : ∀ {i : Nat} {v : Value}, vs[i]? = some v → ∃ a k x tk tv n, v = .ref a ∧ rows[i]? = some (k, x) ∧ (a, rowObj k x tk tv n) ∈ news := by
  induction h with
  | nil => intro i v e; simp at e
  | cons hm _ ih =>
    intro i v e
    cases i with
    | zero => simp at e; subst e; exact ⟨_, _, _, _, _, _, rfl, rfl, hm⟩
    | succ i => simp at e; simpa using ih e
/-- what a turn of a loop over rows leaves -/
noncomputable def RowStep (h₀ : Heap) (L : Addr) (ld : List (Addr × Obj)) (J : (Str → Option Value) → Prop) (s : Shared) (Q : Flow → Shared → Prop) (f : Flow) (s₂ : Shared) : Prop := match f with
  | .next => ∃ h tk m, s₂ = { s with heap := h, toks := tk } ∧ Fr h₀ L h m ∧ News h₀ L h ld ∧ J m
  | .cont => ∃ h tk m, s₂ = { s with heap := h, toks := tk } ∧ Fr h₀ L h m ∧ News h₀ L h ld ∧ J m
  | .brk => False
  | .ret v => Q (.ret v) s₂
section
variable {prog : Program} {w : World} {A : Around} {E : Value → Shared → Prop} {s : Shared} {env : Env} {h₀ : Heap}
theorem For_rows {xi xc : Str} {pk pv pt pos : Pos} {x1 : Nat} {iter : PySem.Expr} {body : List Stmt} {Q : Flow → Shared → Prop} {l : Addr} {vs : List Value} {nn : Nat} {rows : List (Str × Str)} {news : List (Addr × Obj)}
    (J : Nat → (Str → Option Value) → Prop) (hl : (l, listOf vs.toArray nn) ∈ news) (hr : RowsIn news vs rows)
    (hh : A.handled = none) (hxi : env.kindOf xi = some .local) (hxc : env.kindOf xc = some .local)
    (hp : (env.scope.kind == .class || (env.scope.kind == .module && env.locals != env.globals)) = false)
    (hs : ∀ x, foldedSetIterable iter env x = pure x)
    (hiter : wpAny (model prog w) A (eval iter env) (fun xv s₁ => xv = .ref l ∧ ∃ h tk m, s₁ = { s with heap := h, toks := tk } ∧ Fr h₀ env.locals h m ∧ News h₀ env.locals h news ∧ J 0 m) E s)
    (turn : ∀ i k v tk tv I oI m₁ h tkk (E' : Value → Shared → Prop), rows[i]? = some (k, v) → J i m₁ → (∀ p ∈ news, p.1 ≠ I) → Fr h₀ env.locals h (fun y => if y = xc then some (.str v tv) else if y = xi then some (.str k tk) else m₁ y) →
      News h₀ env.locals h ((I, oI) :: news) → wpAny (model prog w) A (execs body env) (RowStep h₀ env.locals ((I, oI) :: news) (J (i + 1)) { s with heap := h, toks := tkk } Q) E' { s with heap := h, toks := tkk })
    (done : ∀ h tk m₁, J rows.length m₁ → Fr h₀ env.locals h m₁ → News h₀ env.locals h news → Q .next { s with heap := h, toks := tk }) :
    wpAny (model prog w) A (exec (.For (.Tuple [.Name xi pk, .Name xc pv] x1 pt) iter body [] pos) env) Q E s := by
  refine wpAny_For (wpAny_mono hiter (fun xv s₁ h₁ => ?_) fun _ _ e => e) hs
  obtain ⟨rfl, H, tk, m, rfl, F, N, h0⟩ := h₁
  have hlist : H.IsList l vs.toArray := ⟨_, (N _ hl).1, rfl, nn, rfl⟩
  refine wpAny_pyIter_list hlist ?_
  dsimp only
  generalize hI : H.objs.size = I
  have hIL : env.locals ≠ I := hI ▸ Nat.ne_of_lt F.ns.lt
  have hIn : ∀ p ∈ news, p.1 ≠ I := fun p hp => hI ▸ Nat.ne_of_lt (Heap.lt_size (N p hp).1)
  have hI0 : h₀.get? I = none := hI ▸ next_is_new F
  have hlen : vs.toArray.size = rows.length := by simp [hr.length]
  refine codeAny_forLoop_any
    (fun k s' => ∃ h' tk' m' i, s' = { s with heap := h', toks := tk' } ∧ h'.IsListIter I l i ∧ Fr h₀ env.locals h' m' ∧ News h₀ env.locals h' news ∧ J i m' ∧ i ≤ rows.length ∧ k = rows.length + 1 - i) ?_ (rows.length + 1)
    ⟨_, tk, m, 0, rfl, ⟨_, by rw [← hI]; exact Heap.get?_push_size _ rfl, rfl, rfl⟩, F.push _, N.grown (fun _ _ e => Heap.get?_push_of_some _ e), h0, Nat.zero_le _, rfl⟩
  rintro k s' ⟨h', tk', m', i, rfl, hit, F', N', hJ, hi, rfl⟩
  have hl' : h'.IsList l vs.toArray := ⟨_, (N' _ hl).1, rfl, nn, rfl⟩
  cases hv : vs.toArray[i]? with
  | none =>
    have hin : i = rows.length := Nat.le_antisymm hi (by rw [← hlen]; simpa using hv)
    subst hin
    refine wpAny_pyNext_list_end hh hit hl' hv fun h₁ he₁ => wpAny_execs_nil ?_
    have up : ∀ b o, b ≠ I → h'.get? b = some o → h₁.get? b = some o := fun b o hb e => he₁ b o hb e
    exact done h₁ tk' m' hJ ⟨F'.ns.at' fun o e => up _ o hIL e, fun b o e => up b o (fun q => by rw [q, hI0] at e; cases e) (F'.keep b o e), F'.above⟩ fun p hp => ⟨up _ _ (hIn p hp) (N' p hp).1, (N' p hp).2⟩
  | some v =>
    obtain ⟨a, kk, x, tk₁, tv₁, n₁, rfl, hrow, hmem⟩ := hr.get (i := i) (v := v) (by simpa using hv)
    have hlt : i < rows.length := (List.getElem?_eq_some_iff.mp hrow).1
    refine wpAny_pyNext_list_item hit hl' hv fun h₁ hit₁ hs₁ => ?_
    refine wpAny_letOwnedTupleGo_listiter hit₁ ?_
    have up₁ : ∀ b o, b ≠ I → h'.get? b = some o → h₁.get? b = some o := fun b o hb e => hs₁.extBut b o hb e
    have F₁ : Fr h₀ env.locals h₁ m' := ⟨F'.ns.at' fun o e => up₁ _ o hIL e, fun b o e => up₁ b o (fun q => by rw [q, hI0] at e; cases e) (F'.keep b o e), F'.above⟩
    have N₁ : News h₀ env.locals h₁ news := fun p hp => ⟨up₁ _ _ (hIn p hp) (N' p hp).1, (N' p hp).2⟩
    have ht₁ : h₁.IsTuple a #[.str kk tk₁, .str x tv₁] := ⟨_, (N₁ _ hmem).1, rfl, n₁, rfl⟩
    refine wpAny_assign_Tuple hh ht₁ rfl rfl fun h₃ hx₃ => ?_
    replace hx₃ : Heap.ExtBut h₁.objs.size h₁ h₃ := hx₃
    have up₃ : ∀ b o, h₁.get? b = some o → h₃.get? b = some o := fun b o x => hx₃ b o (Nat.ne_of_lt (Heap.lt_size x)) x
    have F₃ : Fr h₀ env.locals h₃ m' := F₁.keeps up₃
    have N₃ : News h₀ env.locals h₃ news := N₁.grown up₃
    show wpAny _ A (do holding [Value.str x tv₁] (assign (.Name xi pk) env (.str kk tk₁)); do holding [] (assign (.Name xc pv) env (.str x tv₁)); pure ()) _ _ _
    refine wpAny_bind (wpAny_holding (wpAny_assign_Name (wpAny_storeName_local hxi F₃.ns (fun h₄ hn₄ hs₄ => ?_) hp)))
    replace hs₄ : Heap.SameBut env.locals h₃ h₄ := hs₄
    have F₄ := F₃.set hn₄ hs₄
    refine wpAny_bind (wpAny_holding (wpAny_assign_Name (wpAny_storeName_local hxc F₄.ns (fun h₅ hn₅ hs₅ => wpAny_pure ?_) hp)))
    replace hs₅ : Heap.SameBut env.locals h₄ h₅ := hs₅
    have F₅ := F₄.set hn₅ hs₅
    have N₅ : News h₀ env.locals h₅ news := (N₃.set hs₄).set hs₅
    obtain ⟨oI, hoI, hcI, hdI⟩ := id hit₁
    have hgI : h₅.get? I = some oI := hs₅.extBut I oI (Ne.symm hIL) (hs₄.extBut I oI (Ne.symm hIL) (up₃ I oI hoI))
    have NI : News h₀ env.locals h₅ ((I, oI) :: news) := fun p hp => by
      rcases List.mem_cons.mp hp with rfl | hp
      · exact ⟨hgI, Ne.symm hIL, hI0⟩
      · exact N₅ p hp
    refine wpAny_mono (turn i kk x tk₁ tv₁ I oI m' h₅ _ _ hrow hJ hIn F₅ NI) (fun f s₃ h₆ => ?_) fun _ _ e => e
    have fin : ∀ {P : Prop}, (∃ h tk m, s₃ = { s with heap := h, toks := tk } ∧ Fr h₀ env.locals h m ∧ News h₀ env.locals h ((I, oI) :: news) ∧ J (i + 1) m) →
        (∃ k', k' < rows.length + 1 - i ∧ ∃ h' tk' m' i', s₃ = { s with heap := h', toks := tk' } ∧ h'.IsListIter I l i' ∧ Fr h₀ env.locals h' m' ∧ News h₀ env.locals h' news ∧ J i' m' ∧ i' ≤ rows.length ∧ k' = rows.length + 1 - i') := by
      rintro P ⟨h₆, tk₆, m₆, e, F₆, N₆, hJ₆⟩
      exact ⟨rows.length + 1 - (i + 1), by omega, h₆, tk₆, m₆, i + 1, e, ⟨oI, (N₆ _ (.head _)).1, hcI, hdI⟩, F₆, fun p hp => N₆ p (.tail _ hp), hJ₆, hlt, rfl⟩
    cases f with
    | next => exact fin (P := True) h₆
    | cont => exact fin (P := True) h₆
    | brk => exact h₆.elim
    | ret v => exact h₆
end
/-- what a turn leaves, over the frame's map m₀ -/
noncomputable def RowStepF (h₀ : Heap) (L : Addr) (ld : List (Addr × Obj)) (xi xc : Str) (m₀ : Str → Option Value) (P : Prop) (s : Shared) (Q : Flow → Shared → Prop) (f : Flow) (s₂ : Shared) : Prop := match f with
  | .next => ∃ h tk m, s₂ = { s with heap := h, toks := tk } ∧ Fr h₀ L h m ∧ News h₀ L h ld ∧ (∀ y, y ≠ xc → y ≠ xi → m y = m₀ y) ∧ P
  | .cont => ∃ h tk m, s₂ = { s with heap := h, toks := tk } ∧ Fr h₀ L h m ∧ News h₀ L h ld ∧ (∀ y, y ≠ xc → y ≠ xi → m y = m₀ y) ∧ P
  | .brk => False
  | .ret v => Q (.ret v) s₂
section
variable {prog : Program} {w : World} {A : Around} {E : Value → Shared → Prop} {s : Shared} {env : Env} {h₀ : Heap}
theorem For_rowsF {xi xc : Str} {pk pv pt pos : Pos} {x1 : Nat} {iter : PySem.Expr} {body : List Stmt} {Q : Flow → Shared → Prop} {l : Addr} {vs : List Value} {nn : Nat} {rows : List (Str × Str)} {news : List (Addr × Obj)} {m₀ : Str → Option Value}
    (P : Nat → Prop) (F₀ : Fr h₀ env.locals s.heap m₀) (hl : (l, listOf vs.toArray nn) ∈ news) (hr : RowsIn news vs rows)
    (hh : A.handled = none) (hxi : env.kindOf xi = some .local) (hxc : env.kindOf xc = some .local)
    (hp : (env.scope.kind == .class || (env.scope.kind == .module && env.locals != env.globals)) = false)
    (hs : ∀ x, foldedSetIterable iter env x = pure x)
    (hiter : wpAny (model prog w) A (eval iter env) (fun xv s₁ => xv = .ref l ∧ ∃ h tk, s₁ = { s with heap := h, toks := tk } ∧ Fr h₀ env.locals h m₀ ∧ News h₀ env.locals h news) E s)
    (h0 : P 0)
    (turn : ∀ i k v tk tv I oI (u : Str → Option Value) h tkk (E' : Value → Shared → Prop), rows[i]? = some (k, v) → P i → (∀ p ∈ news, p.1 ≠ I) → Fr h₀ env.locals h (fun y => if y = xc then some (.str v tv) else if y = xi then some (.str k tk) else if y = xc then u y else if y = xi then u y else m₀ y) →
      News h₀ env.locals h ((I, oI) :: news) → wpAny (model prog w) A (execs body env) (RowStepF h₀ env.locals ((I, oI) :: news) xi xc m₀ (P (i + 1)) { s with heap := h, toks := tkk } Q) E' { s with heap := h, toks := tkk })
    (done : ∀ h tk (u : Str → Option Value), P rows.length → Fr h₀ env.locals h (fun y => if y = xc then u y else if y = xi then u y else m₀ y) → News h₀ env.locals h news → Q .next { s with heap := h, toks := tk }) :
    wpAny (model prog w) A (exec (.For (.Tuple [.Name xi pk, .Name xc pv] x1 pt) iter body [] pos) env) Q E s := by
  have conv : ∀ m : Str → Option Value, (∀ y, y ≠ xc → y ≠ xi → m y = m₀ y) → ∃ u : Str → Option Value, m = fun y => if y = xc then u y else if y = xi then u y else m₀ y := fun m hm =>
    ⟨m, funext fun y => by
      by_cases h1 : y = xc
      · rw [if_pos h1]
      · rw [if_neg h1]
        by_cases h2 : y = xi
        · rw [if_pos h2]
        · rw [if_neg h2, hm y h1 h2]⟩
  refine For_rows (h₀ := h₀) (fun i m => (∀ y, y ≠ xc → y ≠ xi → m y = m₀ y) ∧ P i) hl hr hh hxi hxc hp hs (wpAny_mono hiter (fun xv s₁ h₁ => ?_) fun _ _ e => e) ?_ ?_
  · obtain ⟨e, h, tk, e', F, N⟩ := h₁
    exact ⟨e, h, tk, m₀, e', F, N, fun _ _ _ => rfl, h0⟩
  · rintro i k v tk tv I oI m₁ h tkk E' hrow ⟨hm, hP⟩ hoff F N
    obtain ⟨u, rfl⟩ := conv m₁ hm
    refine wpAny_mono (turn i k v tk tv I oI u h tkk E' hrow hP hoff F N) (fun f s₂ h₂ => ?_) fun _ _ e => e
    cases f with
    | next => obtain ⟨h', tk', m', e, F', N', hm', hP'⟩ := h₂; exact ⟨h', tk', m', e, F', N', hm', hP'⟩
    | cont => obtain ⟨h', tk', m', e, F', N', hm', hP'⟩ := h₂; exact ⟨h', tk', m', e, F', N', hm', hP'⟩
    | brk => exact h₂
    | ret v => exact h₂
  · rintro h tk m₁ ⟨hm, hP⟩ F N
    obtain ⟨u, rfl⟩ := conv m₁ hm
    exact done h tk u hP F N
end
end Mine
end
section
open PySem PySem.W PyProof.Rows PySem.Calls
set_option Elab.async false
set_option maxRecDepth 100000
set_option linter.unusedVariables false
set_option linter.unusedSimpArgs false
namespace Mine
/-- the table tb in the ledger: the object, its dict, its list of rows -/
structure TabIn (w : World) (news : List (Addr × Obj)) (tb dx l : Addr) (th : Tok) (nd nl : Nat) (vs : List Value) (rows : List (Str × Str)) : Prop where
  inst : (tb, instObj 196 dx) ∈ news
  dict : (dx, dictOf [⟨PyData.keyHash w.params (Str.ofString "_headers"), .str (Str.ofString "_headers") th, .ref l⟩] nd) ∈ news
  list : (l, listOf vs.toArray nl) ∈ news
  rows : RowsIn news vs rows
noncomputable def findRow (rows : List (Str × Str)) (name : Str) : Option Str := (rows.find? fun r => Txt.lower r.1 == name).map (·.2)
/-- the names are short -/
noncomputable def ShortNames (rows : List (Str × Str)) : Prop := ∀ r ∈ rows, r.1.length ≤ 100 ∧ r.2.length ≤ 100
theorem findRow_some {rows : List (Str × Str)} {n k v : Str} {i : Nat} (h : rows[i]? = some (k, v)) (hP : ∀ r ∈ rows.take i, (Txt.lower r.1 == n) = false) (e : (Txt.lower k == n) = true) : findRow rows n = some v := by
  have hlt : i < rows.length := (List.getElem?_eq_some_iff.mp h).1
  have hd : rows = rows.take i ++ (k, v) :: rows.drop (i + 1) := by
    have e1 := List.take_append_drop i rows
    rw [List.drop_eq_getElem_cons hlt] at e1
    have e2 : rows[i] = (k, v) := Option.some.inj ((List.getElem?_eq_getElem hlt).symm.trans h)
    rw [e2] at e1
    exact e1.symm
  unfold findRow
  rw [hd, List.find?_append]
  have : (rows.take i).find? (fun r => Txt.lower r.1 == n) = none := List.find?_eq_none.mpr fun r hr => by rw [hP r hr]; exact Bool.false_ne_true
  rw [this]
  simp [e]
theorem findRow_none {rows : List (Str × Str)} {n : Str} (hP : ∀ r ∈ rows.take rows.length, (Txt.lower r.1 == n) = false) : findRow rows n = none := by
  rw [List.take_length] at hP
  unfold findRow
  rw [List.find?_eq_none.mpr fun r hr => by rw [hP r hr]; exact Bool.false_ne_true]
  rfl
theorem take_step {rows : List (Str × Str)} {n k v : Str} {i : Nat} (h : rows[i]? = some (k, v)) (hP : ∀ r ∈ rows.take i, (Txt.lower r.1 == n) = false) (e : (Txt.lower k == n) = false) : ∀ r ∈ rows.take (i + 1), (Txt.lower r.1 == n) = false := by
  intro r hr
  rw [List.take_add_one, h] at hr
  rcases List.mem_append.mp hr with hr | hr
  · exact hP r hr
  · simp at hr; subst hr; exact e
set_option maxHeartbeats 8000000 in
theorem get_c (w : World) (mean : ExcName → Option Value) (mg mb : Str → Option Value) (news : List (Addr × Obj)) (tb dx l : Addr) (th : Tok) (nd nl : Nat) (vs : List Value) (rows : List (Str × Str)) (x : Str) (tx : Tok)
    (hT1 : (tb, instObj 196 dx) ∈ news) (hT2 : (dx, dictOf [⟨PyData.keyHash w.params (Str.ofString "_headers"), .str (Str.ofString "_headers") th, .ref l⟩] nd) ∈ news) (hT3 : (l, listOf vs.toArray nl) ∈ news) (hT4 : RowsIn news vs rows)
    (hsn : ShortNames rows) (hx : x.length ≤ 30) (hx1 : (Txt.lower x).length ≤ 100) (hpl : plainText (Txt.lower x)) :
   CallC w mean mg mb 143 6 news [.ref tb, .str x tx] [] (fun v nw => nw = news ∧ ((∃ t y, findRow rows (Txt.lower x) = some y ∧ v = .str y t) ∨ (findRow rows (Txt.lower x) = none ∧ v = .none))) := by
  w_top off; k_with_none
  k_with "ktr_enter" => (first | (refine' code_def ?k1_w ?k2_w ?k3_w ?k4_w ?k5_w ?kA_w ?kF_w ?kK_w ?k6_w ?k7_w ?k8_w ?k9_w ?kB_w ?_ ?c2_w ?c3_w ?c4_w ?c5_w; (case kA_w => exact rfl); (case kF_w => exact rfl); (case kK_w => first | exact rfl | assumption); (case k1_w => k_asm); (case k2_w => k_asm); (case k3_w => k_asm); (case k4_w => k_asm); (case k5_w => k_asm); (case k6_w => k_is); (case k7_w => k_is); (case k8_w => ktr_room); (case k9_w => first | exact BindsTo.of_eq rfl | exact binds_K (by k_in) rfl (by k_is) rfl rfl rfl | (refine' kp_binds ?kx_w ?ke_w; (case kx_w => k_in); (case ke_w => exact fun _ => rfl))); (case c5_w => decide); (case kB_w => exact locs rfl); (case c2_w => exact rfl); (case c3_w => exact rfl); (case c4_w => exact rfl); k_whole; intro g'_w L'_w h'_w FG'_w F'_w N'_w B'_w X'_w T'_w; (try dsimp only); (try k_lift B'_w); (try k_fold)) | (refine' code_defC ?k1_w ?k2_w ?k3_w ?k4_w ?k5_w ?kA_w ?kF_w ?kK_w ?k6_w ?k7_w ?k8_w ?k9_w ?kB_w ?kD_w ?_ ?c2_w ?c3_w ?c4_w; (case kA_w => exact rfl); (case kF_w => exact rfl); (case kK_w => first | exact rfl | assumption); (case k1_w => k_asm); (case k2_w => k_asm); (case k3_w => k_asm); (case k4_w => k_asm); (case k5_w => k_asm); (case k6_w => k_is); (case k7_w => k_is); (case k8_w => ktr_room); (case k9_w => first | exact BindsTo.of_eq rfl | exact binds_K (by k_in) rfl (by k_is) rfl rfl rfl | (refine' kp_binds ?kx_w ?ke_w; (case kx_w => k_in); (case ke_w => exact fun _ => rfl))); (case kB_w => exact rfl); (case kD_w => decide +kernel); (case c2_w => exact rfl); (case c3_w => exact rfl); (case c4_w => exact rfl); k_whole; intro g'_w L'_w h'_w tk'_w cells'_w FG'_w F'_w N'_w Y'_w B'_w X'_w T'_w l1_w; (try k_lt l1_w); k_cells Y'_w; (try simp only [List.cons_append, List.nil_append] at N'_w); (try dsimp only); (try k_lift B'_w); (try k_fold)))
  k_with "k_room" => (ktr_room)
  k_with "call builtin:str.lower" => ((k_here; (refine SCL.lower (by first | omega | (simp only [Str.length_append, len_lits]; omega)) ?_); intro hl9_w))
  k_with "call builtin:str.upper" => ((k_here; (refine SCL.upper (by first | omega | (simp only [Str.length_append, len_lits]; omega)) ?_); intro hl9_w))
  k_with "call ref" => ((k_here; (k_dflt (show wpAny _ _ (call (Value.ref 97) [Value.ref _, Value.str _ _] [(_, Value.bool _)]) _ _ _)); k_dflt (refine' CallC.use (conv_c _ _ _ _ _ _ _ _ _ ?hx_w ?hpl_w) ?k1_w ?k2_w ?k3_w ?k4_w ?k5_w ?kK_w ?kd_w ?ku_w ?_; (case k1_w => k_asm); (case k2_w => k_asm); (case k3_w => k_asm); (case k4_w => k_asm); (case k5_w => k_asm); (case kK_w => first | exact rfl | assumption); (case kd_w => ktr_room); (case ku_w => ktr_units); (case hx_w => (first | assumption | omega)); (case hpl_w => assumption); intro v9_w nw9_w h9_w tk9_w hR9_w F9_w N9_w; (obtain ⟨e9_w, e9n_w⟩ := hR9_w; subst e9_w; rw [e9n_w] at N9_w; clear e9n_w); (try dsimp only); (try k_fold))))
  unfold CallC; k_fill; intros; rename_i hret
  refine wpAny_call ?_
  k_dflt ktr_enter
  k_steps
  (rename Fr _ _ _ _ => lF'); (rename News _ _ _ _ => lN')
  k_dflt (refine For_rowsF (l := l) (vs := vs) (rows := rows) (fun i => ∀ r ∈ rows.take i, (Txt.lower r.1 == Txt.lower x) = false) lF' hT3 hT4 (by rfl) (by rfl) (by rfl) (by rfl) (fun _ => rfl) ?_ ?_ ?_ ?_)
  · k_steps
    all_goals (first | assumption | k_asm)
  · intro r hr; simp at hr
  · intro i k v tk tv I oI u h tkk E' hrow hP hoff F' N'
    clear lF' lN'
    have hk9 : k.length ≤ 100 := (hsn _ (List.mem_of_getElem? hrow)).1
    k_steps
    · unfold RowStepF
      dsimp only
      k_steps
      exact hret _ _ _ _ ⟨rfl, .inl ⟨_, _, findRow_some hrow hP (by assumption), rfl⟩⟩ (by k_asm) (by first | k_asm | (refine cb_drop (by assumption) (fun p hp => ?_); repeat (first | exact hp | apply List.mem_cons_of_mem)))
    · exact ⟨_, _, _, rfl, by k_asm, by k_asm, fun y h1 h2 => by simp only [if_neg h1, if_neg h2], take_step hrow hP (by assumption)⟩
  · intro h tk u hP F' N'
    clear lF' lN'
    k_steps
    exact hret _ _ _ _ ⟨rfl, .inr ⟨findRow_none hP, rfl⟩⟩ (by k_asm) (by first | k_asm | (refine cb_drop (by assumption) (fun p hp => ?_); repeat (first | exact hp | apply List.mem_cons_of_mem)))
theorem words_off_RGet : True := by k_with_none; exact trivial
end Mine
end
section
open PySem PySem.W PyProof.Rows PySem.Calls
set_option Elab.async false
set_option maxRecDepth 100000
set_option linter.unusedVariables false
set_option linter.unusedSimpArgs false
namespace Mine
theorem off1_mem {D : Addr} : ∀ {l : List (Addr × Obj)}, LCg.Off1 D l → ∀ p ∈ l, p.1 ≠ D
  | [], _, _, h => nomatch h
  | _ :: _, x, p, h => by
    rcases List.mem_cons.mp h with rfl | h
    · exact x.1
    · exact off1_mem x.2 p h
noncomputable def Hold (P : Prop) : Prop := P
theorem hold {P : Prop} (h : Hold P) : P := h
noncomputable def OffFrom (d : Addr) (l : List (Addr × Obj)) : Prop := ∀ p ∈ l, p.1 < d
theorem offFrom_of {d : Addr} {l : List (Addr × Obj)} (h : ∀ p ∈ l, p.1 < d) : OffFrom d l := h
theorem offFrom_ne {d e : Nat} {l : List (Addr × Obj)} (h : OffFrom d l) (hd : d ≤ e) : ∀ p ∈ l, p.1 ≠ e := fun p hp q => by
  have := h p hp
  have q' : @Eq Nat p.1 e := q
  have t : @LT.lt Nat _ p.1 d := this
  omega
section
open LCg LCt LCp
variable {prog : Program} {w : World} {A : Around} {h₀ : Heap} {L : Addr} {m : Str → Option Value} {env : Env} {ct elt : PySem.Expr} {x x₂ : Str} {scope : Scope} {cl : List (Str × Addr)} {s : Shared} {S : List (Addr × Obj) → Prop} {Fin : List Value → List (Addr × Obj) → Prop} {news : List (Addr × Obj)}
theorem snoc_strs {y : Str} {t : Tok} : ∀ {vs : List Value} {ys : List Str}, StrsAre vs ys → StrsAre (vs ++ [.str y t]) (ys ++ [y])
  | _, _, .nil => .cons y t .nil
  | _, _, .cons z u r => .cons z u (snoc_strs r)
theorem take_next {α : Type} {l : List α} {i : Nat} {a : α} (h : l[i]? = some a) : l.take (i + 1) = l.take i ++ [a] := by
  rw [List.take_add_one, h]; rfl
/-- a comprehension with a test over the table's rows -/
theorem rest_rowsT {vs : List Value} {rows : List (Str × Str)} (test : Str × Str → Bool) (out : Str × Str → Str) (hr : RowsIn news vs rows)
    (turn : ∀ a k v tk tv nn I oI C oC D m₂ ys h tkk (E' : Value → Shared → Prop), (k, v) ∈ rows → (a, rowObj k v tk tv nn) ∈ news → NsObj oC m₂ → m₂ x = some (.ref a) → Fr h₀ L h m → News h₀ L h ((I, oI) :: (C, oC) :: (D, lst ys) :: news) → Off3 I C D news → ((@Ne Nat I C) ∧ (@Ne Nat I D) ∧ (@Ne Nat C D)) →
      wpAny (model prog w) A (isTrue ct (compEnvC scope cl C env) (eval ct (compEnvC scope cl C env))) (fun ok s' => if ok = true then
        wpAny (model prog w) A (eval elt (compEnvC scope cl C env)) (CompEnd h₀ L m { s with heap := h, toks := tkk } I oI C oC D (lst ys) S (fun y news' => news' = news ∧ test (k, v) = true ∧ ∃ t, y = .str (out (k, v)) t)) E' s'
        else CompEnd h₀ L m { s with heap := h, toks := tkk } I oI C oC D (lst ys) S (fun _ news' => news' = news ∧ test (k, v) = false) Value.none s') E' { s with heap := h, toks := tkk })
    (fin : ∀ ys, StrsAre ys ((rows.filter test).map out) → Fin ys news) :
    CompRestT prog w A h₀ L m env ct elt x scope cl s S (fun i v => vs.toArray[i]? = some v) Fin vs.toArray.size 0 [] news := by
  have key : ∀ (j i : Nat) (ys : List Value), i + j = vs.toArray.size → StrsAre ys (((rows.take i).filter test).map out) → CompRestT prog w A h₀ L m env ct elt x scope cl s S (fun i v => vs.toArray[i]? = some v) Fin j i ys news := by
    intro j
    induction j with
    | zero =>
      intro i ys hi hy
      have e : rows.length = i := by rw [← hr.length]; simpa using hi.symm
      rw [← e, List.take_length] at hy
      exact CompRestT.zero (fin ys hy)
    | succ j ih =>
      intro i ys hi hy
      refine CompRestT.succ ?_
      intro v I oI C oC D m₂ h tk E' hv hC hx F N off ne
      obtain ⟨a, k, z, tk₁, tv₁, n₁, rfl, hrow, hmem⟩ := hr.get (i := i) (v := v) (by simpa using hv)
      refine wpAny_mono (turn a k z tk₁ tv₁ n₁ I oI C oC D m₂ ys h tk E' (List.mem_of_getElem? hrow) hmem hC hx F N off ne) (fun ok s₂ hq => ?_) fun _ _ e => e
      by_cases hok : ok = true
      · rw [if_pos hok] at hq ⊢
        refine wpAny_mono hq (fun y s₃ hq => ?_) fun _ _ e => e
        obtain ⟨h', tk', nw, e, F', N', off', hS, hn, ht, t', hy'⟩ := hq
        subst hn
        refine ⟨h', tk', _, e, F', N', off', hS, ?_⟩
        subst hy'
        refine ih (i + 1) _ (by omega) ?_
        rw [take_next hrow, List.filter_append, List.filter_cons_of_pos ht, List.filter_nil, List.map_append]
        exact snoc_strs hy
      · rw [if_neg hok] at hq ⊢
        obtain ⟨h', tk', nw, e, F', N', off', hS, hn, ht⟩ := hq
        subst hn
        refine ⟨h', tk', _, e, F', N', off', hS, ?_⟩
        refine ih (i + 1) _ (by omega) ?_
        rw [take_next hrow, List.filter_append, List.filter_cons_of_neg (by rw [ht]; exact Bool.false_ne_true), List.filter_nil, List.append_nil]
        exact hy
  exact key _ 0 [] (by omega) (by simp only [List.take_zero, List.filter_nil, List.map_nil]; exact .nil)
/-- a comprehension over the rows as pairs -/
theorem rest_rowsP {vs : List Value} {rows : List (Str × Str)} (out : Str × Str → Str) (hr : RowsIn news vs rows)
    (turn : ∀ a k v tk tv nn I oI C oC D m₂ ys h tkk (E' : Value → Shared → Prop), (k, v) ∈ rows → (a, rowObj k v tk tv nn) ∈ news → NsObj oC m₂ → m₂ x = some (.str k tk) → m₂ x₂ = some (.str v tv) → Fr h₀ L h m → News h₀ L h ((I, oI) :: (C, oC) :: (D, lst ys) :: news) → Off3 I C D news → ((@Ne Nat I C) ∧ (@Ne Nat I D) ∧ (@Ne Nat C D)) →
      wpAny (model prog w) A (eval elt (compEnvC scope cl C env)) (CompEnd h₀ L m { s with heap := h, toks := tkk } I oI C oC D (lst ys) S (fun y news' => news' = news ∧ ∃ t, y = .str (out (k, v)) t)) E' { s with heap := h, toks := tkk })
    (fin : ∀ ys, StrsAre ys (rows.map out) → Fin ys news) :
    CompRestP prog w A h₀ L m env elt x x₂ scope cl s S (fun i v => vs.toArray[i]? = some v) Fin vs.toArray.size 0 [] news := by
  have key : ∀ (j i : Nat) (ys : List Value), i + j = vs.toArray.size → StrsAre ys ((rows.take i).map out) → CompRestP prog w A h₀ L m env elt x x₂ scope cl s S (fun i v => vs.toArray[i]? = some v) Fin j i ys news := by
    intro j
    induction j with
    | zero =>
      intro i ys hi hy
      have e : rows.length = i := by rw [← hr.length]; simpa using hi.symm
      rw [← e, List.take_length] at hy
      exact CompRestP.zero (fin ys hy)
    | succ j ih =>
      intro i ys hi hy
      refine CompRestP.succ ?_
      intro v hv
      obtain ⟨a, k, z, tk₁, tv₁, n₁, rfl, hrow, hmem⟩ := hr.get (i := i) (v := v) (by simpa using hv)
      refine ⟨a, _, _, _, n₁, rfl, hmem, rfl, rfl, ?_⟩
      intro I oI C oC D m₂ h tk E' hC hx hx2 F N off ne
      refine wpAny_mono (turn a k z tk₁ tv₁ n₁ I oI C oC D m₂ ys h tk E' (List.mem_of_getElem? hrow) hmem hC hx hx2 F N off ne) (fun y s₂ hq => ?_) fun _ _ e => e
      obtain ⟨h', tk', nw, e, F', N', off', hS, hn, t', hy'⟩ := hq
      subst hn
      refine ⟨h', tk', _, e, F', N', off', hS, ?_⟩
      subst hy'
      refine ih (i + 1) _ (by omega) ?_
      rw [take_next hrow, List.map_append]
      exact snoc_strs hy
  exact key _ 0 [] (by omega) (by simp only [List.take_zero, List.map_nil]; exact .nil)
/-- a comprehension over a list of texts -/
theorem rest_strsU {vs : List Value} {zs : List Str} (out : Str → Str) (hr : StrsAre vs zs)
    (turn : ∀ z t I oI C oC D m₂ ys h tkk (E' : Value → Shared → Prop), z ∈ zs → NsObj oC m₂ → m₂ x = some (.str z t) → Fr h₀ L h m → News h₀ L h ((I, oI) :: (C, oC) :: (D, lst ys) :: news) → Off3 I C D news → ((@Ne Nat I C) ∧ (@Ne Nat I D) ∧ (@Ne Nat C D)) →
      wpAny (model prog w) A (eval elt (compEnvC scope cl C env)) (CompEnd h₀ L m { s with heap := h, toks := tkk } I oI C oC D (lst ys) S (fun y news' => news' = news ∧ ∃ t, y = .str (out z) t)) E' { s with heap := h, toks := tkk })
    (fin : ∀ ys, StrsAre ys (zs.map out) → Fin ys news) :
    CompRest prog w A h₀ L m env elt x scope cl s S (fun i v => vs.toArray[i]? = some v) Fin vs.toArray.size 0 [] news := by
  have at_ : ∀ {vs : List Value} {zs : List Str}, StrsAre vs zs → ∀ {i : Nat} {v : Value}, vs[i]? = some v → ∃ z t, zs[i]? = some z ∧ v = .str z t := by
    intro vs zs h
    induction h with
    | nil => intro i v e; simp at e
    | cons y t r ih =>
      intro i v e
      cases i with
      | zero => simp at e; subst e; exact ⟨_, _, rfl, rfl⟩
      | succ i => simp at e; simpa using ih e
  have len : ∀ {vs : List Value} {zs : List Str}, StrsAre vs zs → vs.length = zs.length := by
    intro vs zs h
    induction h with
    | nil => rfl
    | cons y t r ih => simp [ih]
  have key : ∀ (j i : Nat) (ys : List Value), i + j = vs.toArray.size → StrsAre ys ((zs.take i).map out) → CompRest prog w A h₀ L m env elt x scope cl s S (fun i v => vs.toArray[i]? = some v) Fin j i ys news := by
    intro j
    induction j with
    | zero =>
      intro i ys hi hy
      have e : zs.length = i := by rw [← len hr]; simpa using hi.symm
      rw [← e, List.take_length] at hy
      exact CompRest.zero (fin ys hy)
    | succ j ih =>
      intro i ys hi hy
      refine CompRest.succ ?_
      intro v I oI C oC D m₂ h tk E' hv hC hx F N off ne
      obtain ⟨z, t, hz, rfl⟩ := at_ hr (i := i) (v := v) (by simpa using hv)
      refine wpAny_mono (turn z t I oI C oC D m₂ ys h tk E' (List.mem_of_getElem? hz) hC hx F N off ne) (fun y s₂ hq => ?_) fun _ _ e => e
      obtain ⟨h', tk', nw, e, F', N', off', hS, hn, t', hy'⟩ := hq
      subst hn
      refine ⟨h', tk', _, e, F', N', off', hS, ?_⟩
      subst hy'
      refine ih (i + 1) _ (by omega) ?_
      rw [take_next hz, List.map_append]
      exact snoc_strs hy
  exact key _ 0 [] (by omega) (by simp only [List.take_zero, List.map_nil]; exact .nil)
/-- a comprehension with a test over range(n) -/
theorem rest_rangeT {n : Nat} {a₀ : Int} (test : Int → Bool) (out : Int → Str)
    (turn : ∀ (k : Int) t I oI C oC D m₂ ys h tkk (E' : Value → Shared → Prop), a₀ ≤ k → k < a₀ + n → NsObj oC m₂ → m₂ x = some (.int k t) → Fr h₀ L h m → News h₀ L h ((I, oI) :: (C, oC) :: (D, lst ys) :: news) → Off3 I C D news → ((@Ne Nat I C) ∧ (@Ne Nat I D) ∧ (@Ne Nat C D)) →
      wpAny (model prog w) A (isTrue ct (compEnvC scope cl C env) (eval ct (compEnvC scope cl C env))) (fun ok s' => if ok = true then
        wpAny (model prog w) A (eval elt (compEnvC scope cl C env)) (CompEnd h₀ L m { s with heap := h, toks := tkk } I oI C oC D (lst ys) S (fun y news' => news' = news ∧ test k = true ∧ ∃ t, y = .str (out k) t)) E' s'
        else CompEnd h₀ L m { s with heap := h, toks := tkk } I oI C oC D (lst ys) S (fun _ news' => news' = news ∧ test k = false) Value.none s') E' { s with heap := h, toks := tkk })
    (fin : ∀ ys, StrsAre ys (((rangeKs a₀ n).filter test).map out) → Fin ys news) :
    CompRestT prog w A h₀ L m env ct elt x scope cl s S (fun i v => ∃ t, v = .int (a₀ + (i : Int)) t) Fin n 0 [] news := by
  have key : ∀ (j i : Nat) (ys : List Value), i + j = n → StrsAre ys ((((rangeKs a₀ n).take i).filter test).map out) → CompRestT prog w A h₀ L m env ct elt x scope cl s S (fun i v => ∃ t, v = .int (a₀ + (i : Int)) t) Fin j i ys news := by
    intro j
    induction j with
    | zero =>
      intro i ys hi hy
      rw [List.take_of_length_le (by rw [rangeKs_length]; omega)] at hy
      exact CompRestT.zero (fin ys hy)
    | succ j ih =>
      intro i ys hi hy
      refine CompRestT.succ ?_
      intro v I oI C oC D m₂ h tk E' hv hC hx F N off ne
      obtain ⟨t, rfl⟩ := hv
      have hk : (rangeKs a₀ n)[i]? = some (a₀ + (i : Int)) := by simp [rangeKs, show i < n by omega]
      refine wpAny_mono (turn (a₀ + (i : Int)) t I oI C oC D m₂ ys h tk E' (by omega) (by omega) hC hx F N off ne) (fun ok s₂ hq => ?_) fun _ _ e => e
      by_cases hok : ok = true
      · rw [if_pos hok] at hq ⊢
        refine wpAny_mono hq (fun y s₃ hq => ?_) fun _ _ e => e
        obtain ⟨h', tk', nw, e, F', N', off', hS, hn, ht, t', hy'⟩ := hq
        subst hn
        refine ⟨h', tk', _, e, F', N', off', hS, ?_⟩
        subst hy'
        refine ih (i + 1) _ (by omega) ?_
        rw [take_next hk, List.filter_append, List.filter_cons_of_pos ht, List.filter_nil, List.map_append]
        exact snoc_strs hy
      · rw [if_neg hok] at hq ⊢
        obtain ⟨h', tk', nw, e, F', N', off', hS, hn, ht⟩ := hq
        subst hn
        refine ⟨h', tk', _, e, F', N', off', hS, ?_⟩
        refine ih (i + 1) _ (by omega) ?_
        rw [take_next hk, List.filter_append, List.filter_cons_of_neg (by rw [ht]; exact Bool.false_ne_true), List.filter_nil, List.append_nil]
        exact hy
  exact key _ 0 [] (by omega) (by simp only [List.take_zero, List.filter_nil, List.map_nil]; exact .nil)
end
end Mine
end
section
open PySem PySem.W PyProof.Rows PySem.Calls
set_option Elab.async false
set_option maxRecDepth 100000
set_option linter.unusedVariables false
set_option linter.unusedSimpArgs false
namespace Mine
theorem drop3 {h₀ h : Heap} {L : Addr} {a b c d : Addr × Obj} {r : List (Addr × Obj)} (N : News h₀ L h (a :: b :: c :: d :: r)) : News h₀ L h (a :: r) := fun p hp => N p (by
  rcases List.mem_cons.mp hp with rfl | hp
  · exact List.mem_cons_self
  · exact .tail _ (.tail _ (.tail _ (.tail _ hp))))
theorem swap2 {h₀ h : Heap} {L : Addr} {a b : Addr × Obj} {r : List (Addr × Obj)} (N : News h₀ L h (a :: b :: r)) : News h₀ L h (b :: a :: r) := fun p hp => N p (by
  rcases List.mem_cons.mp hp with rfl | hp
  · exact .tail _ List.mem_cons_self
  · rcases List.mem_cons.mp hp with rfl | hp
    · exact List.mem_cons_self
    · exact .tail _ (.tail _ hp))
theorem allLt_ne {d : Nat} : ∀ {l : List (Addr × Obj)}, AllLt d l → ∀ p ∈ l, p.1 ≠ d
  | [], _, _, h => nomatch h
  | q :: _, x, p, h => by
    rcases List.mem_cons.mp h with e | h
    · rw [e]; exact Nat.ne_of_lt x.1
    · exact allLt_ne x.2 p h
theorem join_one (s y : Str) : Txt.join s [y] = y := rfl
theorem push_list (vs : List Value) (v : Value) : vs.toArray.push v = (vs ++ [v]).toArray := by simp
set_option maxHeartbeats 1000000 in
theorem add_c (w : World) (mean : ExcName → Option Value) (mg mb : Str → Option Value) (news : List (Addr × Obj)) (tb dx l : Addr) (th : Tok) (nd nl : Nat) (vs : List Value) (x y : Str) (tx ty : Tok)
    (hT1 : (tb, instObj 196 dx) ∈ news) (hT2 : (dx, dictOf [⟨PyData.keyHash w.params (Str.ofString "_headers"), .str (Str.ofString "_headers") th, .ref l⟩] nd) ∈ news) 
    (hoff : ∀ p ∈ news, p.1 ≠ l) (hlv : vs.length ≤ 1000) (hx1 : x.length ≤ 100) (hpl : plainText x) (hy1 : y.length ≤ 100) (hply : plainText y) :
   CallC w mean mg mb 193 6 ((l, listOf vs.toArray nl) :: news) [.ref tb, .str x tx, .str y ty] [] (fun v nw => v = .none ∧ ∃ a tk tv, nw = (l, listOf (vs ++ [Value.ref a]).toArray (nl + 1)) :: (a, rowObj x y tk tv 0) :: news ∧ a ≠ l ∧ ∀ p ∈ news, p.1 ≠ a) := by
  w_top off; k_with_none
  k_with "ktr_enter" => (first | (refine' code_def ?k1_w ?k2_w ?k3_w ?k4_w ?k5_w ?kA_w ?kF_w ?kK_w ?k6_w ?k7_w ?k8_w ?k9_w ?kB_w ?_ ?c2_w ?c3_w ?c4_w ?c5_w; (case kA_w => exact rfl); (case kF_w => exact rfl); (case kK_w => first | exact rfl | assumption); (case k1_w => k_asm); (case k2_w => k_asm); (case k3_w => k_asm); (case k4_w => k_asm); (case k5_w => k_asm); (case k6_w => k_is); (case k7_w => k_is); (case k8_w => ktr_room); (case k9_w => first | exact BindsTo.of_eq rfl | exact binds_K (by k_in) rfl (by k_is) rfl rfl rfl | (refine' kp_binds ?kx_w ?ke_w; (case kx_w => k_in); (case ke_w => exact fun _ => rfl))); (case c5_w => decide); (case kB_w => exact locs rfl); (case c2_w => exact rfl); (case c3_w => exact rfl); (case c4_w => exact rfl); k_whole; intro g'_w L'_w h'_w FG'_w F'_w N'_w B'_w X'_w T'_w; (try dsimp only); (try k_lift B'_w); (try k_fold)) | (refine' code_defC ?k1_w ?k2_w ?k3_w ?k4_w ?k5_w ?kA_w ?kF_w ?kK_w ?k6_w ?k7_w ?k8_w ?k9_w ?kB_w ?kD_w ?_ ?c2_w ?c3_w ?c4_w; (case kA_w => exact rfl); (case kF_w => exact rfl); (case kK_w => first | exact rfl | assumption); (case k1_w => k_asm); (case k2_w => k_asm); (case k3_w => k_asm); (case k4_w => k_asm); (case k5_w => k_asm); (case k6_w => k_is); (case k7_w => k_is); (case k8_w => ktr_room); (case k9_w => first | exact BindsTo.of_eq rfl | exact binds_K (by k_in) rfl (by k_is) rfl rfl rfl | (refine' kp_binds ?kx_w ?ke_w; (case kx_w => k_in); (case ke_w => exact fun _ => rfl))); (case kB_w => exact rfl); (case kD_w => decide +kernel); (case c2_w => exact rfl); (case c3_w => exact rfl); (case c4_w => exact rfl); k_whole; intro g'_w L'_w h'_w tk'_w cells'_w FG'_w F'_w N'_w Y'_w B'_w X'_w T'_w l1_w; (have hcell9_w := offFrom_of l1_w); (try k_lt l1_w); k_cells Y'_w; (try simp only [List.cons_append, List.nil_append] at N'_w); (try dsimp only); (try k_lift B'_w); (try k_fold)))
  k_with "ktr_enter" => ((refine' kp_more ?k1_w ?k2_w ?k3_w ?k4_w ?k5_w ?kA_w ?kF_w ?kK_w ?k6_w ?k7_w ?k8_w ?kX_w ?kM_w ?kN_w ?kD_w ?kR_w ?kP_w ?kT_w ?kB_w ?_ ?c2_w ?c3_w ?c4_w ?c5_w; (case kA_w => exact rfl); (case kF_w => exact rfl); (case kK_w => first | exact rfl | assumption); (case k1_w => k_asm); (case k2_w => k_asm); (case k3_w => k_asm); (case k4_w => k_asm); (case k5_w => k_asm); (case k6_w => k_is); (case k7_w => k_is); (case k8_w => ktr_room); (case kX_w => kp_lit); (case kM_w => exact rfl); (case kN_w => exact rfl); (case kD_w => kp_flats); (case kR_w => exact rfl); (case kP_w => exact rfl); (case kT_w => exact fun _ => rfl); (case kB_w => exact fun _ => locs rfl); (case c5_w => decide); (case c2_w => exact rfl); (case c3_w => exact rfl); (case c4_w => exact rfl); k_whole; intro D'_w o'_w g'_w L'_w h'_w tk'_w l1_w lo'_w hs'_w fs'_w FG'_w F'_w N'_w B'_w X'_w T'_w; (try k_lt l1_w); (try dsimp only); (try k_lift B'_w); (try k_fold)))
  k_with "k_room" => (ktr_room)
  k_with "call builtin:str.lower" => ((k_here; (refine SCL.lower (by first | omega | (simp only [Str.length_append, len_lits]; omega)) ?_); intro hl9_w))
  k_with "call builtin:str.upper" => ((k_here; (refine SCL.upper (by first | omega | (simp only [Str.length_append, len_lits]; omega)) ?_); intro hl9_w))
  k_with "call ref" => ((k_here; (k_dflt (show wpAny _ _ (call (Value.ref 97) [Value.ref _, Value.str _ _] [(_, Value.bool _)]) _ _ _)); k_dflt (refine' CallC.use (conv_c _ _ _ _ _ _ _ _ _ ?hx_w ?hpl_w) ?k1_w ?k2_w ?k3_w ?k4_w ?k5_w ?kK_w ?kd_w ?ku_w ?_; (case k1_w => k_asm); (case k2_w => k_asm); (case k3_w => k_asm); (case k4_w => k_asm); (case k5_w => k_asm); (case kK_w => first | exact rfl | assumption); (case kd_w => ktr_room); (case ku_w => ktr_units); (case hx_w => (first | assumption | omega)); (case hpl_w => assumption); intro v9_w nw9_w h9_w tk9_w hR9_w F9_w N9_w; (obtain ⟨e9_w, e9n_w⟩ := hR9_w; subst e9_w; rw [e9n_w] at N9_w; clear e9n_w); (try dsimp only); (try k_fold))))
  k_with "k_mem" => (assumption)
  k_with "k_all" => (assumption)
  k_with "k_all" => (((with_reducible rename OffFrom _ _ => hc9_w); exact offFrom_ne hc9_w (by omega)))
  k_with "call builtin:list.append" => ((k_here; (with_reducible show wpAny _ _ (call (Value.builtin _) [Value.ref _, _]) _ _ _); k_dflt (refine' append_K ?k1_w ?k2_w ?k3_w ?_ ?z_w; (case k1_w => k_asm); (case k2_w => k_asm); (case k3_w => k_upd); (case z_w => first | size_fits | (rw [List.size_toArray, sizeLine_eq]; omega)); k_whole); intro h'_w F'_w N'_w; (try k_sweep)))
  unfold CallC; k_fill; intros; rename_i hret
  refine wpAny_call ?_
  k_dflt ktr_enter
  k_steps
  (rename News _ _ _ _ => lN')
  have N2 := drop3 lN'
  clear lN'
  k_steps
  (rename (_ ∧ _ ∧ _ ∧ _ ∧ AllLt _ _) => hL9)
  (rename News _ _ _ _ => kN9)
  rw [push_list] at kN9
  exact hret _ _ _ _ ⟨rfl, _, _, _, rfl, by k_ne, allLt_ne hL9.2.2.2.2⟩ (by k_asm) (swap2 kN9)
theorem words_off_RAdd : True := by k_with_none; exact trivial
end Mine
end
section
open PySem PySem.W PyProof.Rows PySem.Calls
set_option Elab.async false
set_option maxRecDepth 100000
set_option linter.unusedVariables false
set_option linter.unusedSimpArgs false
namespace Mine
theorem fmod3_bd (a : Int) : 0 ≤ a.fmod 3 ∧ a.fmod 3 ≤ 3 := by
  rw [Int.fmod_eq_emod_of_nonneg a (by decide)]
  omega
theorem strs_len {vs : List Value} {ys : List Str} (h : StrsAre vs ys) : vs.length = ys.length := by
  induction h with
  | nil => rfl
  | cons y t r ih => simp [ih]
theorem strs_range_len {vs : List Value} {a₀ : Int} {n : Nat} {test : Int → Bool} {out : Int → Str} (h : StrsAre vs (((rangeKs a₀ n).filter test).map out)) : vs.length ≤ n := by
  rw [strs_len h, List.length_map]
  exact Nat.le_trans (List.length_filter_le _ _) (by rw [rangeKs_length]; exact Nat.le_refl _)
theorem strs_append {vs ws : List Value} {ys zs : List Str} (h : StrsAre vs ys) (k : StrsAre ws zs) : StrsAre (vs ++ ws) (ys ++ zs) := by
  induction h with
  | nil => exact k
  | cons y t r ih => exact .cons y t ih
noncomputable def leftP (x y : Str) (c : Str) : List Str :=
  ((rangeKs 0 ((x.length : Int) - 0).toNat).filter fun k => Txt.item x k == c).map (fun k => frontP x k y (((x.length : Int) + (y.length : Int) + k).fmod 3) ++ Str.ofString "." ++ y) ++
  ((rangeKs 0 ((y.length : Int) - 0).toNat).filter fun k => Txt.item y k == c).map (fun k => x ++ Str.ofString "." ++ frontP y k x (((x.length : Int) + (y.length : Int) + k).fmod 3))
/-- a name that is asked of the table: it stands there, and all is short and plain -/
structure NameOk (rows : List (Str × Str)) (z : Str) (v : Str) : Prop where
  found1 : findRow rows (Txt.lower z) = some v
  found2 : findRow rows (Txt.lower (Txt.upper z)) = some v
  two : v.length = 2
  short : z.length ≤ 20
  short1 : (Txt.upper z).length ≤ 30
  short2 : (Txt.lower z).length ≤ 100
  short3 : (Txt.lower (Txt.upper z)).length ≤ 100
  plain1 : plainText (Txt.lower z)
  plain2 : plainText (Txt.lower (Txt.upper z))
/-- get, of a name that stands in the table -/
theorem getf_c (w : World) (mean : ExcName → Option Value) (mg mb : Str → Option Value) (news : List (Addr × Obj)) (tb dx l : Addr) (th : Tok) (nd nl : Nat) (vs : List Value) (rows : List (Str × Str)) (x y : Str) (tx : Tok)
    (hT1 : (tb, instObj 196 dx) ∈ news) (hT2 : (dx, dictOf [⟨PyData.keyHash w.params (Str.ofString "_headers"), .str (Str.ofString "_headers") th, .ref l⟩] nd) ∈ news) (hT3 : (l, listOf vs.toArray nl) ∈ news) (hT4 : RowsIn news vs rows)
    (hsn : ShortNames rows) (hx : x.length ≤ 30) (hx1 : (Txt.lower x).length ≤ 100) (hpl : plainText (Txt.lower x)) (hf : findRow rows (Txt.lower x) = some y) :
   CallC w mean mg mb 143 6 news [.ref tb, .str x tx] [] (fun v nw => nw = news ∧ ∃ t, v = .str y t) := by
  intro dp un gd cn cs a ccd cl outer A₀ base h₀ L m s Q E B F X N T hk hd hu ret
  refine CallC.use (get_c w mean mg mb news tb dx l th nd nl vs rows x tx hT1 hT2 hT3 hT4 hsn hx hx1 hpl) B F X N T hk hd hu fun v nw h' tk' hR F' N' => ret v nw h' tk' ?_ F' N'
  obtain ⟨e, ⟨t, z, e1, e2⟩ | ⟨e1, _⟩⟩ := hR
  · rw [hf] at e1; cases e1; exact ⟨e, t, e2⟩
  · rw [hf] at e1; cases e1
end Mine
end
section
open PySem PySem.W PyProof.Rows PySem.Calls
set_option Elab.async false
set_option maxRecDepth 100000
set_option linter.unusedVariables false
set_option linter.unusedSimpArgs false
namespace Mine
section
open PySem.Builtin PySem.Builtin.List
theorem look_list_iadd : typeLookup (.type "list") (dunderI "add") = pure (some (.builtin "list.__iadd__")) := by
  show typeLookup (.type "list") "__iadd__" = _
  rw [typeLookup_type, builtinLookup_eq_fast]; kernel_rfl
theorem slot_list_iadd : Slot "list" "__iadd__" "list.__iadd__" :=
  .of (owner := "list") (n := "__iadd__") (by rw [typeLookup_type, builtinLookup_eq_fast]; kernel_rfl) (by decide +kernel) (by decide +kernel) (by decide +kernel)
    (by first | exact .inl (by decide +kernel) | exact .inr (by decide +kernel)) (by rw [isSubtype_type]; kernel_rfl)
theorem args_list_iadd (a b : Value) : argsOk "list.__iadd__" ⟨[a, b], []⟩ := by
  unfold argsOk; rw [signature?_of (id := "list.__iadd__") (n := ['_', '_', 'd', 'd', 'a', 'i', '_', '_']) (o := ['t', 's', 'i', 'l']) (by kernel_rfl) F.owner_list]; kernel_rfl
section
variable {M : Model} {A : Around} {E : Value → Shared → Prop} {s : Shared}
theorem inplace_list {a b : Value} {Q : Value → Shared → Prop} (ha : s.TypeIs a "list") (hb : s.TypeIs b "list") (hc : wpAny M A (call (.builtin "list.__iadd__") [a, b]) Q E s) : wpAny M A (inplaceOp .Add a b) Q E s := by
  unfold inplaceOp
  refine wpAny_holding ?_
  have hfi : fillsInplaceSlot (.type "list") "add" (Operator.Add == .Add) = pure false := by
    unfold fillsInplaceSlot
    show (typeLookup (.type "list") (dunderI "add") >>= fun fi => pure (fi.isSome && !isSeqSlot fi)) = pure false
    rw [look_list_iadd]
    show (pure ((some (Value.builtin "list.__iadd__")).isSome && !isSeqSlot (some (.builtin "list.__iadd__"))) : Sem Bool) = pure false
    rw [show isSeqSlot (some (.builtin "list.__iadd__")) = true from by decide +kernel]; rfl
  have hsi : seqSlot? (.type "list") (dunderI "add") = pure (some (.builtin "list.__iadd__")) := PySem.seqSlot_of look_list_iadd (by decide +kernel)
  refine wpAny_bind (wpAny_typeOf ha (wpAny_bind (wpAny_of_eq hfi ?_)))
  show wpAny M A (if false = true then _ else _) Q E s
  rw [if_neg Bool.false_ne_true]
  refine wpAny_bind (wpAny_binaryOp1_none (nm := "add") ha hb noFill_list_add ?_)
  refine wpAny_bind (wpAny_of_eq hsi ?_)
  exact wpAny_bind (wpAny_rule hc)
end
end
section
variable {prog : Program} {w : World} {A : Around} {E : Value → Shared → Prop} {s : Shared} {h₀ : Heap} {L D b : Addr} {m : Str → Option Value} {news news' : List (Addr × Obj)} {its its2 : Array Value} {n n2 : Nat}
/-- left += right, both lists of the ledger -/
theorem iadd_K {Q : Value → Shared → Prop} (F : Fr h₀ L s.heap m) (N : News h₀ L s.heap news) (hb : (b, listOf its2 n2) ∈ news)
    (U : Upd D (listOf its n) (listOf (its ++ its2) (if ((its ++ its2).size == its.size) = true then n else n + 1)) news news') (hz : its.size + its2.size ≤ 1000000)
    (h : ∀ h', Fr h₀ L h' m → News h₀ L h' news' → Q (.ref D) { s with heap := h' }) : wpAny (model prog w) A (inplaceOp .Add (.ref D) (.ref b)) Q E s := by
  obtain ⟨pre, post, rfl, rfl, a, c⟩ := U.split
  have z := N (D, listOf its n) (List.mem_append.mpr (.inr (.head _)))
  refine inplace_list ⟨_, z.1, rfl⟩ ⟨_, (N _ hb).1, rfl⟩ ?_
  have hs : sizeLine = 16777216 := by decide +kernel
  refine call_meets slot_list_iadd ⟨_, z.1, rfl⟩ PySem.F.entry_list_iadd (args_list_iadd _ _) (PySem.AutoSeq1.list___iadd___list_list_0 D its n b its2 n2 (by
      unfold Builtin.List.listTooLong
      rw [decide_eq_false (by rw [hs]; omega)]
      simp) (by rw [hs]; omega) (by rw [hs]; omega)) ⟨z.1, (N _ hb).1, ?_⟩
  exact h _ (F.change (Heap.SameBut.update ..) z.2.1 z.2.2) (news_set N a c (Heap.SameBut.update ..) (Heap.get?_update_self _ z.1 rfl))
end
end Mine
end
section
open PySem PySem.W PyProof.Rows PySem.Calls
set_option Elab.async false
set_option maxRecDepth 100000
set_option linter.unusedVariables false
set_option linter.unusedSimpArgs false
namespace Mine
set_option maxHeartbeats 1000000 in
theorem winT_c (w : World) (mean : ExcName → Option Value) (mg mb : Str → Option Value) (news : List (Addr × Obj)) (tb dx l : Addr) (th : Tok) (nd nl : Nat) (vs : List Value) (rows : List (Str × Str)) (x y : Str) (tx ty tt : Tok) (T : Int) (hT : 0 ≤ T ∧ T ≤ 1) (val : Str → Str)
    (hT1 : (tb, instObj 196 dx) ∈ news) (hT2 : (dx, dictOf [⟨PyData.keyHash w.params (Str.ofString "_headers"), .str (Str.ofString "_headers") th, .ref l⟩] nd) ∈ news) (hT3 : (l, listOf vs.toArray nl) ∈ news) (hT4 : RowsIn news vs rows)
    (hsn : ShortNames rows) (hx : x.length ≤ 10) (hy : y.length ≤ 10) (hnm : ∀ z ∈ leftP x y (Txt.item (Str.ofString "ca") T), NameOk rows z (val z)) :
   CallC w mean mg mb 224 12 news [.ref tb, .str x tx, .str y ty, .int T tt] [] (fun v nw => nw = news ∧ ∃ t, v = .str (if ((leftP x y (Txt.item (Str.ofString "ca") T)).map fun z => Txt.item (val z) (1 - T)).any (· == Txt.item (Str.ofString "LR") T) = true then Txt.item (Str.ofString "LR") T else Txt.item (Str.ofString "RL") T) t) := by
  obtain ⟨hT0, hT1'⟩ := hT
  w_top off; k_with_none
  k_with "ktr_enter" => (first | (refine' code_def ?k1_w ?k2_w ?k3_w ?k4_w ?k5_w ?kA_w ?kF_w ?kK_w ?k6_w ?k7_w ?k8_w ?k9_w ?kB_w ?_ ?c2_w ?c3_w ?c4_w ?c5_w; (case kA_w => exact rfl); (case kF_w => exact rfl); (case kK_w => first | exact rfl | assumption); (case k1_w => k_asm); (case k2_w => k_asm); (case k3_w => k_asm); (case k4_w => k_asm); (case k5_w => k_asm); (case k6_w => k_is); (case k7_w => k_is); (case k8_w => ktr_room); (case k9_w => first | exact BindsTo.of_eq rfl | exact binds_K (by k_in) rfl (by k_is) rfl rfl rfl | (refine' kp_binds ?kx_w ?ke_w; (case kx_w => k_in); (case ke_w => exact fun _ => rfl))); (case c5_w => decide); (case kB_w => exact locs rfl); (case c2_w => exact rfl); (case c3_w => exact rfl); (case c4_w => exact rfl); k_whole; intro g'_w L'_w h'_w FG'_w F'_w N'_w B'_w X'_w T'_w; (try dsimp only); (try k_lift B'_w); (try k_fold)) | (refine' code_defC ?k1_w ?k2_w ?k3_w ?k4_w ?k5_w ?kA_w ?kF_w ?kK_w ?k6_w ?k7_w ?k8_w ?k9_w ?kB_w ?kD_w ?_ ?c2_w ?c3_w ?c4_w; (case kA_w => exact rfl); (case kF_w => exact rfl); (case kK_w => first | exact rfl | assumption); (case k1_w => k_asm); (case k2_w => k_asm); (case k3_w => k_asm); (case k4_w => k_asm); (case k5_w => k_asm); (case k6_w => k_is); (case k7_w => k_is); (case k8_w => ktr_room); (case k9_w => first | exact BindsTo.of_eq rfl | exact binds_K (by k_in) rfl (by k_is) rfl rfl rfl | (refine' kp_binds ?kx_w ?ke_w; (case kx_w => k_in); (case ke_w => exact fun _ => rfl))); (case kB_w => exact rfl); (case kD_w => decide +kernel); (case c2_w => exact rfl); (case c3_w => exact rfl); (case c4_w => exact rfl); k_whole; intro g'_w L'_w h'_w tk'_w cells'_w FG'_w F'_w N'_w Y'_w B'_w X'_w T'_w l1_w; (have hcell9_w := offFrom_of l1_w); (try k_lt l1_w); k_cells Y'_w; (try simp only [List.cons_append, List.nil_append] at N'_w); (try dsimp only); (try k_lift B'_w); (try k_fold)))
  k_with "k_room" => (ktr_room)
  k_with "call builtin:str.lower" => ((k_here; (refine SCL.lower (by first | omega | (simp only [Str.length_append, len_lits]; omega)) ?_); intro hl9_w))
  k_with "call builtin:str.upper" => ((k_here; (refine SCL.upper (by first | omega | (simp only [Str.length_append, len_lits]; omega)) ?_); intro hl9_w))
  k_with "call ref" => ((k_here; (k_dflt (show wpAny _ _ (call (Value.ref 97) [Value.ref _, Value.str _ _] [(_, Value.bool _)]) _ _ _)); k_dflt (refine' CallC.use (conv_c _ _ _ _ _ _ _ _ _ ?hx_w ?hpl_w) ?k1_w ?k2_w ?k3_w ?k4_w ?k5_w ?kK_w ?kd_w ?ku_w ?_; (case k1_w => k_asm); (case k2_w => k_asm); (case k3_w => k_asm); (case k4_w => k_asm); (case k5_w => k_asm); (case kK_w => first | exact rfl | assumption); (case kd_w => ktr_room); (case ku_w => ktr_units); (case hx_w => (first | assumption | omega)); (case hpl_w => assumption); intro v9_w nw9_w h9_w tk9_w hR9_w F9_w N9_w; (obtain ⟨e9_w, e9n_w⟩ := hR9_w; subst e9_w; rw [e9n_w] at N9_w; clear e9n_w); (try dsimp only); (try k_fold))))
  k_with "k_mem" => (assumption)
  k_with "k_all" => (assumption)
  k_with "k_all" => (((with_reducible rename OffFrom _ _ => hc9_w); exact offFrom_ne hc9_w (by omega)))
  k_with "eval ListComp" => ((k_here; lct_look; k_dflt (refine LCt.ListComp_T (F₀ := by k_asm) (by with_unfolding_all rfl) (by decide) (by rfl) (by decide) (by rfl) ?_)))
  k_with "exec Assign cons ListComp" => ((k_here; lct_look; k_dflt (refine LCt.Assign_ListComp_T (F₀ := by k_asm) (by rfl) (by with_unfolding_all rfl) (by with_unfolding_all rfl) (by decide) (by rfl) (by decide) (by rfl) (by rfl) (by rfl) ?_)))
  k_with "CompSrcT" => ((refine hold ?_))
  k_with "call ref" => ((k_here; (k_dflt (show wpAny _ _ (call (Value.ref 207) [Value.str _ _, Value.int _ _, Value.str _ _, Value.int _ _]) _ _ _)); k_dflt (refine' front_c' _ _ _ _ _ _ _ _ _ _ _ _ _ ?hx_w ?hy_w ?hp_w ?hk_w ?k1_w ?k2_w ?k3_w ?k4_w ?k5_w ?kK_w ?kd_w ?ku_w ?_; (case k1_w => k_asm); (case k2_w => k_asm); (case k3_w => k_asm); (case k4_w => k_asm); (case k5_w => k_asm); (case kK_w => first | exact rfl | assumption); (case kd_w => ktr_room); (case ku_w => ktr_units); (case hx_w => omega); (case hy_w => omega); (case hp_w => (constructor <;> omega)); (case hk_w => first | exact fmod3_bd _ | (constructor <;> omega)); intro t9_w h9_w tk9_w hl9_w F9_w N9_w; (try dsimp only); (try k_fold))))
  k_with "call ref" => ((k_here; (k_dflt (show wpAny _ _ (call (Value.ref 143) [Value.ref _, Value.str _ _]) _ _ _)); k_dflt (refine' CallC.use (getf_c _ _ _ _ _ _ _ _ _ _ _ _ _ _ _ _ ?t1_w ?t2_w ?t3_w ?t4_w ?hsn_w ?hx_w ?hx1_w ?hpl_w ?hf_w) ?k1_w ?k2_w ?k3_w ?k4_w ?k5_w ?kK_w ?kd_w ?ku_w ?_; (case k1_w => k_asm); (case k2_w => k_asm); (case k3_w => k_asm); (case k4_w => k_asm); (case k5_w => k_asm); (case kK_w => first | exact rfl | assumption); (case kd_w => ktr_room); (case ku_w => ktr_units); (case t1_w => k_mem); (case t2_w => k_mem); (case t3_w => k_mem); (case t4_w => (refine' RowsIn.mono ?su_w ?ro_w; (case ro_w => assumption); (case su_w => (intro p9_w hp9_w; repeat (first | exact hp9_w | apply List.mem_cons_of_mem))))); (case hsn_w => assumption); (case hx_w => (first | assumption | omega)); (case hx1_w => (first | assumption | omega)); (case hpl_w => assumption); (case hf_w => assumption); intro v9_w nw9_w h9_w tk9_w hR9_w F9_w N9_w; (obtain ⟨e9n_w, t9_w, e9_w⟩ := hR9_w; subst e9_w; rw [e9n_w] at N9_w; clear e9n_w); (try dsimp only); (try k_fold))))
  k_with "inplaceOp Add ref ref" => ((k_here; k_dflt (refine' iadd_K ?F_w ?N_w ?b_w ?U_w ?z_w ?_; (case F_w => k_asm); (case N_w => k_asm); (case b_w => k_mem); (case U_w => k_upd); (case z_w => (simp only [List.size_toArray]; omega)); k_whole); intro h'_w F'_w N'_w))
  unfold CallC; k_fill; intros; rename_i hret
  refine wpAny_call ?_
  k_dflt ktr_enter
  k_steps
  unfold Hold
  k_dflt (refine LCt.CompSrcT.range (by rfl) (by k_asm) (by k_asm) (by assumption) (by exact small_one (by omega) (by omega) (by omega) (by omega)) (by exact rangeSize_nat _ _) (by rw [sizeLine_eq]; omega) ?_)
  intro g9
  refine rest_rangeT (fun k => Txt.item x k == Txt.item (Str.ofString "ca") T) (fun k => frontP x k y (((x.length : Int) + (y.length : Int) + k).fmod 3) ++ Str.ofString "." ++ y) ?_ ?_
  · intro k t I oI C oC D m₂ ys h tkk E' hlo' hhi' hC' hx' F' N' off' ne'
    k_steps
    · exact ⟨_, _, _, rfl, by k_asm, by k_asm, off', trivial, rfl, by assumption, _, rfl⟩
    · exact ⟨_, _, _, rfl, by k_asm, by k_asm, off', trivial, rfl, by assumption⟩
  intro ys hys D h tk F' N' off'
  have hoD : ∀ p ∈ news, p.1 ≠ D := fun p hp => off1_mem off' p (by repeat (first | exact hp | apply List.mem_cons_of_mem))
  have hly : ys.length ≤ 10 := Nat.le_trans (strs_range_len hys) (by omega)
  simp only [LCg.Off1] at off'
  k_steps
  unfold Hold
  k_dflt (refine LCt.CompSrcT.range (by rfl) (by k_asm) (by k_asm) (by assumption) (by exact small_one (by omega) (by omega) (by omega) (by omega)) (by exact rangeSize_nat _ _) (by rw [sizeLine_eq]; omega) ?_)
  intro g9
  refine rest_rangeT (fun k => Txt.item y k == Txt.item (Str.ofString "ca") T) (fun k => x ++ Str.ofString "." ++ frontP y k x (((x.length : Int) + (y.length : Int) + k).fmod 3)) ?_ ?_
  · intro k t I oI C oC D m₂ ys h tkk E' hlo' hhi' hC' hx' F' N' off' ne'
    k_steps
    · exact ⟨_, _, _, rfl, by k_asm, by k_asm, off', trivial, rfl, by assumption, _, rfl⟩
    · exact ⟨_, _, _, rfl, by k_asm, by k_asm, off', trivial, rfl, by assumption⟩
  intro ys2 hys2 D2 h2 tk2 F' N' off2'
  have hoD2 : ∀ p ∈ news, p.1 ≠ D2 := fun p hp => off1_mem off2' p (by repeat (first | exact hp | apply List.mem_cons_of_mem))
  have hly2 : ys2.length ≤ 10 := Nat.le_trans (strs_range_len hys2) (by omega)
  simp only [LCg.Off1] at off2'
  k_steps
  k_dflt (refine LCg.CompSrc.ledger (by rfl) (by k_asm) (by k_asm) (by k_mem) (by rw [sizeLine_eq]; simp; omega) ?_)
  intro g9
  rw [List.append_toArray]
  refine rest_strsU (fun z => Txt.item (val z) (1 - T)) (strs_append hys hys2) ?_ ?_
  · intro z t I oI C oC D m₂ ys h tkk E' hz hC' hx' F' N' off' ne'
    obtain ⟨q1, q2, q3, q4, q5, q6, q7, q8, q9⟩ := hnm z hz
    k_steps
    all_goals (exact ⟨_, _, _, rfl, by k_asm, by k_asm, off', .inr ⟨_, by k_mem, rfl, _, rfl⟩, rfl, _, rfl⟩)
  intro ys3 hys3 D3 h3 tk3 F' N' off3'
  k_steps
  all_goals (
    (rename (List.any _ _ = _) => hb9)
    change ((leftP x y (Txt.item (Str.ofString "ca") T)).map fun z => Txt.item (val z) (1 - T)).any (· == Txt.item (Str.ofString "LR") T) = _ at hb9
    refine hret _ _ _ _ ⟨rfl, ?_⟩ (by k_asm) (by first | k_asm | (refine cb_drop (by assumption) (fun p hp => ?_); repeat (first | exact hp | apply List.mem_cons_of_mem)))
    rw [hb9]
    first | (rw [if_pos rfl]; exact ⟨_, rfl⟩) | (rw [if_neg Bool.false_ne_true]; exact ⟨_, rfl⟩))
theorem words_off_RWinT : True := by k_with_none; exact trivial
end Mine
end
section
open PySem PySem.W PyProof.Rows PySem.Calls
set_option Elab.async false
set_option maxRecDepth 100000
set_option linter.unusedVariables false
set_option linter.unusedSimpArgs false
namespace Mine
theorem litC0 : Txt.item (Str.ofString "ca") 0 = Str.ofString "c" := by decide +kernel
theorem litL0 : Txt.item (Str.ofString "LR") 0 = Str.ofString "L" := by decide +kernel
theorem litR0 : Txt.item (Str.ofString "RL") 0 = Str.ofString "R" := by decide +kernel
theorem win0_c (w : World) (mean : ExcName → Option Value) (mg mb : Str → Option Value) (news : List (Addr × Obj)) (tb dx l : Addr) (th : Tok) (nd nl : Nat) (vs : List Value) (rows : List (Str × Str)) (x y : Str) (tx ty tt : Tok) (val : Str → Str)
    (hT1 : (tb, instObj 196 dx) ∈ news) (hT2 : (dx, dictOf [⟨PyData.keyHash w.params (Str.ofString "_headers"), .str (Str.ofString "_headers") th, .ref l⟩] nd) ∈ news) (hT3 : (l, listOf vs.toArray nl) ∈ news) (hT4 : RowsIn news vs rows)
    (hsn : ShortNames rows) (hx : x.length ≤ 10) (hy : y.length ≤ 10) (hnm : ∀ z ∈ leftP x y (Str.ofString "c"), NameOk rows z (val z)) :
   CallC w mean mg mb 224 12 news [.ref tb, .str x tx, .str y ty, .int 0 tt] [] (fun v nw => nw = news ∧ ∃ t, v = .str (if ((leftP x y (Str.ofString "c")).map fun z => Txt.item (val z) 1).any (· == Str.ofString "L") = true then Str.ofString "L" else Str.ofString "R") t) := by
  have h := winT_c w mean mg mb news tb dx l th nd nl vs rows x y tx ty tt 0 ⟨by omega, by omega⟩ val hT1 hT2 hT3 hT4 hsn hx hy (by rw [litC0]; exact hnm)
  rw [litC0, litL0, litR0] at h
  exact h
theorem litC1 : Txt.item (Str.ofString "ca") 1 = Str.ofString "a" := by decide +kernel
theorem litL1 : Txt.item (Str.ofString "LR") 1 = Str.ofString "R" := by decide +kernel
theorem litR1 : Txt.item (Str.ofString "RL") 1 = Str.ofString "L" := by decide +kernel
theorem win1_c (w : World) (mean : ExcName → Option Value) (mg mb : Str → Option Value) (news : List (Addr × Obj)) (tb dx l : Addr) (th : Tok) (nd nl : Nat) (vs : List Value) (rows : List (Str × Str)) (x y : Str) (tx ty tt : Tok) (val : Str → Str)
    (hT1 : (tb, instObj 196 dx) ∈ news) (hT2 : (dx, dictOf [⟨PyData.keyHash w.params (Str.ofString "_headers"), .str (Str.ofString "_headers") th, .ref l⟩] nd) ∈ news) (hT3 : (l, listOf vs.toArray nl) ∈ news) (hT4 : RowsIn news vs rows)
    (hsn : ShortNames rows) (hx : x.length ≤ 10) (hy : y.length ≤ 10) (hnm : ∀ z ∈ leftP x y (Str.ofString "a"), NameOk rows z (val z)) :
   CallC w mean mg mb 224 12 news [.ref tb, .str x tx, .str y ty, .int 1 tt] [] (fun v nw => nw = news ∧ ∃ t, v = .str (if ((leftP x y (Str.ofString "a")).map fun z => Txt.item (val z) 0).any (· == Str.ofString "R") = true then Str.ofString "R" else Str.ofString "L") t) := by
  have h := winT_c w mean mg mb news tb dx l th nd nl vs rows x y tx ty tt 1 ⟨by omega, by omega⟩ val hT1 hT2 hT3 hT4 hsn hx hy (by rw [litC1]; exact hnm)
  rw [litC1, litL1, litR1] at h
  exact h
end Mine
end
section
open PySem PySem.W PyProof.Rows PySem.Calls
set_option Elab.async false
set_option maxRecDepth 100000
set_option linter.unusedVariables false
set_option linter.unusedSimpArgs false
namespace Mine
/-- what a turn of a loop over a range leaves: a new frame map and a new ledger, of which J tells -/
noncomputable def TurnJ (h₀ : Heap) (L I : Addr) (oI : Obj) (J : (Str → Option Value) → List (Addr × Obj) → Prop) (s : Shared) (Q : Flow → Shared → Prop) (f : Flow) (s₂ : Shared) : Prop := match f with
  | .next => ∃ h tk m nw, s₂ = { s with heap := h, toks := tk } ∧ Fr h₀ L h m ∧ News h₀ L h ((I, oI) :: nw) ∧ (∀ p ∈ nw, p.1 ≠ I) ∧ J m nw
  | .cont => ∃ h tk m nw, s₂ = { s with heap := h, toks := tk } ∧ Fr h₀ L h m ∧ News h₀ L h ((I, oI) :: nw) ∧ (∀ p ∈ nw, p.1 ≠ I) ∧ J m nw
  | .brk => False
  | .ret v => Q (.ret v) s₂
section
variable {prog : Program} {w : World} {A : Around} {E : Value → Shared → Prop} {s : Shared} {env : Env} {h₀ : Heap}
theorem For_rangeJ {x : Str} {pk pos : Pos} {iter : PySem.Expr} {body : List Stmt} {Q : Flow → Shared → Prop} {n : Nat}
    (J : Nat → (Str → Option Value) → List (Addr × Obj) → Prop) (hn : n ≤ 1000)
    (hh : A.handled = none) (hs : ∀ x, foldedSetIterable iter env x = pure x)
    (hiter : wpAny (model prog w) A (eval iter env) (fun xv s₁ => ∃ r b t u v h tk m nw, xv = .ref r ∧ s₁ = { s with heap := h, toks := tk } ∧ IsRange h r 0 b 1 t u v ∧ b = (n : Int) ∧ Fr h₀ env.locals h m ∧ News h₀ env.locals h nw ∧ J 0 m nw) E s)
    (turn : ∀ (i : Nat) (t : Tok) I oI m nw h tkk (E' : Value → Shared → Prop), i < n → J i m nw → (∀ p ∈ nw, p.1 ≠ I) → Fr h₀ env.locals h m → News h₀ env.locals h ((I, oI) :: nw) →
      wpAny (model prog w) A (storeName env x (.int (i : Int) t)) (fun _ s₂ => wpAny (model prog w) A (execs body env) (TurnJ h₀ env.locals I oI (J (i + 1)) { s with heap := h, toks := tkk } Q) E' s₂) E' { s with heap := h, toks := tkk })
    (done : ∀ h tk m nw, J n m nw → Fr h₀ env.locals h m → News h₀ env.locals h nw → Q .next { s with heap := h, toks := tk }) :
    wpAny (model prog w) A (exec (.For (.Name x pk) iter body [] pos) env) Q E s := by
  refine wpAny_For (wpAny_mono hiter (fun xv s₁ h₁ => ?_) fun _ _ e => e) hs
  obtain ⟨r, b, t, u, v, H, tk, m, nw, rfl, rfl, hr, rfl, F, N, h0⟩ := h₁
  refine wpAny_pyIter_range hr (small_one (by omega) (by omega) (by omega) (by omega)) ?_
  dsimp only
  generalize hI : H.objs.size = I
  have hIL : env.locals ≠ I := hI ▸ Nat.ne_of_lt F.ns.lt
  have hIn : ∀ p ∈ nw, p.1 ≠ I := fun p hp => hI ▸ Nat.ne_of_lt (Heap.lt_size (N p hp).1)
  have hI0 : h₀.get? I = none := hI ▸ next_is_new F
  have hsz : Builtin.Range.rangeSize 0 (n : Int) 1 = (n : Int) := by rw [rangeSize_nat]; omega
  rw [hsz]
  refine codeAny_forLoop_any
    (fun k s' => ∃ (h' : Heap) (tk' : Nat) (m' : Str → Option Value) (nw' : List (Addr × Obj)) (i : Nat), s' = { s with heap := h', toks := tk' } ∧ IsRangeIter h' I (i : Int) ((n : Int) - (i : Int)) 1 ∧ Fr h₀ env.locals h' m' ∧ News h₀ env.locals h' nw' ∧ (∀ p ∈ nw', p.1 ≠ I) ∧ J i m' nw' ∧ i ≤ n ∧ k = n + 1 - i) ?_ (n + 1)
    ⟨_, tk, m, nw, 0, rfl, by rw [← hI]; simpa using Heap.get?_push_size _ rfl, F.push _, N.grown (fun _ _ e => Heap.get?_push_of_some _ e), hIn, h0, Nat.zero_le _, rfl⟩
  rintro k s' ⟨h', tk', m', nw', i, rfl, hit, F', N', hIn', hJ, hi, rfl⟩
  by_cases hlt : i < n
  · refine wpAny_pyNext_range_item hit (by omega) fun h₁ hit₁ hs₁ => ?_
    have hnt : ∀ {Q : Unit → Shared → Prop} {E : Value → Shared → Prop} {s : Shared} {v : Value}, Q () s → wpAny (model prog w) A (letOwnedTupleGo (.Name x pk) (.ref I) v) Q E s := fun h => wpAny_pure h
    refine hnt ?_
    have up₁ : ∀ b o, b ≠ I → h'.get? b = some o → h₁.get? b = some o := fun b o hb e => hs₁.extBut b o hb e
    have F₁ : Fr h₀ env.locals h₁ m' := ⟨F'.ns.at' fun o e => up₁ _ o hIL e, fun b o e => up₁ b o (fun q => by rw [q, hI0] at e; cases e) (F'.keep b o e), F'.above⟩
    have N₁ : News h₀ env.locals h₁ nw' := fun p hp => ⟨up₁ _ _ (hIn' p hp) (N' p hp).1, (N' p hp).2⟩
    generalize hoI : ({ cls := .type "range_iterator", dict := none, data := .fields #[rawInt ((i : Int) + 1), rawInt ((n : Int) - (i : Int) - 1), rawInt 1], slots := #[] } : Obj) = oI
    have hg₁ : h₁.get? I = some oI := by rw [← hoI]; exact hit₁
    have NI : News h₀ env.locals h₁ ((I, oI) :: nw') := fun p hp => by
      rcases List.mem_cons.mp hp with rfl | hp
      · exact ⟨hg₁, Ne.symm hIL, hI0⟩
      · exact N₁ p hp
    refine wpAny_assign_Name ?_
    refine wpAny_mono (turn i _ I oI m' nw' h₁ _ _ hlt hJ hIn' F₁ NI) (fun _ s₂ h₂ => wpAny_mono h₂ (fun f s₃ h₆ => ?_) fun _ _ e => e) fun _ _ e => e
    have fin : ∀ {P : Prop}, (∃ h tk m nw, s₃ = { s with heap := h, toks := tk } ∧ Fr h₀ env.locals h m ∧ News h₀ env.locals h ((I, oI) :: nw) ∧ (∀ p ∈ nw, p.1 ≠ I) ∧ J (i + 1) m nw) →
        (∃ k', k' < n + 1 - i ∧ ∃ (h' : Heap) (tk' : Nat) (m' : Str → Option Value) (nw' : List (Addr × Obj)) (i' : Nat), s₃ = { s with heap := h', toks := tk' } ∧ IsRangeIter h' I (i' : Int) ((n : Int) - (i' : Int)) 1 ∧ Fr h₀ env.locals h' m' ∧ News h₀ env.locals h' nw' ∧ (∀ p ∈ nw', p.1 ≠ I) ∧ J i' m' nw' ∧ i' ≤ n ∧ k' = n + 1 - i') := by
      rintro P ⟨h₆, tk₆, m₆, nw₆, e, F₆, N₆, o₆, hJ₆⟩
      refine ⟨n + 1 - (i + 1), by omega, h₆, tk₆, m₆, nw₆, i + 1, e, ?_, F₆, fun p hp => N₆ p (.tail _ hp), o₆, hJ₆, hlt, rfl⟩
      have z := (N₆ _ (.head _)).1
      rw [← hoI] at z
      have e1 : ((i + 1 : Nat) : Int) = (i : Int) + 1 := by omega
      have e2 : (n : Int) - ((i + 1 : Nat) : Int) = (n : Int) - (i : Int) - 1 := by omega
      rw [e2, e1]
      exact z
    cases f with
    | next => exact fin (P := True) h₆
    | cont => exact fin (P := True) h₆
    | brk => exact h₆.elim
    | ret v => exact h₆
  · have hin : i = n := by omega
    subst hin
    refine wpAny_pyNext_range_end hh hit (by omega) fun h₁ he₁ => wpAny_execs_nil ?_
    have up : ∀ b o, b ≠ I → h'.get? b = some o → h₁.get? b = some o := fun b o hb e => he₁ b o hb e
    exact done h₁ tk' m' nw' hJ ⟨F'.ns.at' fun o e => up _ o hIL e, fun b o e => up b o (fun q => by rw [q, hI0] at e; cases e) (F'.keep b o e), F'.above⟩ fun p hp => ⟨up _ _ (hIn' p hp) (N' p hp).1, (N' p hp).2⟩
end
end Mine
end
section
open PySem PySem.W PyProof.Rows PySem.Calls
set_option Elab.async false
set_option maxRecDepth 100000
set_option linter.unusedVariables false
set_option linter.unusedSimpArgs false
namespace Mine
noncomputable abbrev cutP (x : Str) (i : Nat) : Str := Txt.slice x none (some (i : Int))
/-- the rows that the game lays at one place -/
noncomputable def posRows (x y : Str) (D : Nat → Nat → Str) (i j : Nat) : List (Str × Str) :=
  (spelledP (cutP x i) (cutP y j), D i j) :: (if i = 0 then [(Str.ofString "." ++ cutP y j, turnedP (D i j))] else [])
noncomputable def rowsLine (x y : Str) (D : Nat → Nat → Str) (i j : Nat) : List (Str × Str) := (List.range j).flatMap (posRows x y D i)
noncomputable def rowsUpto (x y : Str) (D : Nat → Nat → Str) (i j : Nat) : List (Str × Str) := (List.range i).flatMap (fun a => rowsLine x y D a (y.length + 1)) ++ rowsLine x y D i j
theorem rowsUpto_step (x y : Str) (D : Nat → Nat → Str) (i j : Nat) : rowsUpto x y D i (j + 1) = rowsUpto x y D i j ++ posRows x y D i j := by
  simp [rowsUpto, rowsLine, List.range_succ, List.flatMap_append]
theorem rowsUpto_line (x y : Str) (D : Nat → Nat → Str) (i : Nat) : rowsUpto x y D (i + 1) 0 = rowsUpto x y D i (y.length + 1) := by
  simp [rowsUpto, rowsLine, List.range_succ, List.flatMap_append]
theorem rowsUpto_zero (x y : Str) (D : Nat → Nat → Str) : rowsUpto x y D 0 0 = [] := by simp [rowsUpto, rowsLine]
noncomputable def win0P (x y : Str) (val : Str → Str) : Str := if ((leftP x y (Str.ofString "c")).map fun z => Txt.item (val z) 1).any (· == Str.ofString "L") = true then Str.ofString "L" else Str.ofString "R"
noncomputable def win1P (x y : Str) (val : Str → Str) : Str := if ((leftP x y (Str.ofString "a")).map fun z => Txt.item (val z) 0).any (· == Str.ofString "R") = true then Str.ofString "R" else Str.ofString "L"
/-- all that a turn of the game asks -/
noncomputable def PosOk (x y : Str) (rows : List (Str × Str)) (d : Str) : Prop := ∃ val : Str → Str,
  (∀ z ∈ leftP x y (Str.ofString "c"), NameOk rows z (val z)) ∧ (∀ z ∈ leftP x y (Str.ofString "a"), NameOk rows z (val z)) ∧
  Txt.join (Str.ofString "") [win0P x y val, win1P x y val] = d ∧ d.length ≤ 10 ∧ plainText d ∧ (spelledP x y).length ≤ 100 ∧ plainText (spelledP x y) ∧
  plainText (Str.ofString "." ++ y) ∧ (turnedP d).length ≤ 10 ∧ plainText (turnedP d) ∧ turnedP d = Txt.join (Str.ofString "") ([win0P x y val, win1P x y val].map turn1) ∧ ShortNames rows ∧ rows.length ≤ 900
noncomputable def GamePre (x y : Str) (D : Nat → Nat → Str) : Prop := ∀ i j, i ≤ x.length → j ≤ y.length → PosOk (cutP x i) (cutP y j) (rowsUpto x y D i j) (D i j)
/-- the ledger at the head of the game's loops -/
noncomputable def GameJ (w : World) (x y : Str) (D : Nat → Nat → Str) (news : List (Addr × Obj)) (L tb d l : Addr) (th : Tok) (nd : Nat) (og os ot : Obj) (m₀ : Str → Option Value) (ex : List (Addr × Obj)) (P : Obj → Prop) (i j : Nat) (m : Str → Option Value) (nw : List (Addr × Obj)) : Prop :=
  ∃ (oi oj : Obj) (vi vj : Option Value) (vs : List Value) (nl : Nat) (rest : List (Addr × Obj)),
    nw = (l, listOf vs.toArray nl) :: (tb, instObj 196 d) :: (d, dictOf [⟨PyData.keyHash w.params (Str.ofString "_headers"), .str (Str.ofString "_headers") th, .ref l⟩] nd) ::
      (L + 1 + 1 + 1 + 1 + 1, oj) :: (L + 1 + 1 + 1 + 1, oi) :: (L + 1 + 1 + 1, ot) :: (L + 1 + 1, os) :: (L + 1, og) :: (ex ++ rest) ∧
    oi.data = .cell vi ∧ oj.data = .cell vj ∧ P oi ∧ RowsIn rest vs (rowsUpto x y D i j) ∧ (∀ p ∈ news, p ∈ rest) ∧
    (∀ p ∈ rest, p.1 ≠ l ∧ p.1 ≠ tb ∧ p.1 ≠ d ∧ p.1 ≠ L + 1 + 1 + 1 + 1 + 1 ∧ p.1 ≠ L + 1 + 1 + 1 + 1 ∧ p.1 ≠ L + 1 + 1 + 1 ∧ p.1 ≠ L + 1 + 1 ∧ p.1 ≠ L + 1) ∧
    (∀ y, y ≠ Str.ofString "winners" → m y = m₀ y)
theorem rows_len_of {news : List (Addr × Obj)} {vs : List Value} {rows : List (Str × Str)} (h : RowsIn news vs rows) (hl : rows.length ≤ 900) : vs.length ≤ 900 := by rw [h.length]; exact hl
end Mine
end
section
open PySem PySem.W PyProof.Rows PySem.Calls
set_option Elab.async false
set_option maxRecDepth 100000
set_option linter.unusedVariables false
set_option linter.unusedSimpArgs false
namespace Mine
theorem len_S (l : List Nat) : (S l).length = l.length := by show l.toArray.size = _; simp
theorem cut_list {l : List Nat} {i : Nat} (h : i ≤ l.length) : cutP (S l) i = S (l.take i) := slice_to l i h
theorem app_S (a b : List Nat) : S a ++ S b = S (a ++ b) := app_list2 a b
theorem lit_dotS : Str.ofString "." = S [46] := lit_dot
theorem lit_cS : Str.ofString "c" = S [99] := by decide +kernel
theorem lit_aS : Str.ofString "a" = S [97] := by decide +kernel
theorem front_S {a b : List Nat} (ha : Let a) (hb : Let b) {k : Nat} (hk : k ≤ a.length) (kind : Int) : frontP (S a) (k : Int) (S b) kind = S (a.take k) := by
  show frontP ⟨a.toArray⟩ _ ⟨b.toArray⟩ kind = _
  rw [front_list a b k kind hk, front_take ha hb]; rfl
noncomputable def nmL (a b : List Nat) : List Nat := a ++ 46 :: b
theorem name_S (a b : List Nat) : S a ++ Str.ofString "." ++ S b = S (nmL a b) := by
  rw [lit_dotS, app_S, app_S]; unfold nmL; rw [List.append_assoc]; rfl
theorem name_S0 (b : List Nat) : Str.ofString "." ++ S b = S (nmL [] b) := by
  rw [lit_dotS, app_S]; rfl
noncomputable def SmallL (l : List Nat) : Prop := ∀ c ∈ l, c = 99 ∨ c = 97 ∨ c = 46
theorem nm_small {a b : List Nat} (ha : Let a) (hb : Let b) : SmallL (nmL a b) := by
  intro c hc
  unfold nmL at hc
  rcases List.mem_append.1 hc with h | h
  · rcases ha c h with h | h <;> simp [h]
  · rcases List.mem_cons.1 h with h | h
    · simp [h]
    · rcases hb c h with h | h <;> simp [h]
theorem lower_S {l : List Nat} (h : SmallL l) : Txt.lower (S l) = S l := by
  rw [lower_ascii (x := S l) (fun c hc => by rcases h c (by simpa [S] using hc) with e | e | e <;> omega)]
  show (⟨l.toArray.map lo1⟩ : Str) = ⟨l.toArray⟩
  rw [List.map_toArray]
  have e : l.map lo1 = l := by
    rw [List.map_congr_left (g := id) (fun c hc => by rcases h c hc with e | e | e <;> subst e <;> rfl), List.map_id]
  rw [e]
theorem upper_S {l : List Nat} (h : SmallL l) : Txt.upper (S l) = S (l.map up1) := by
  rw [upper_ascii (x := S l) (fun c hc => by rcases h c (by simpa [S] using hc) with e | e | e <;> omega)]
  show (⟨l.toArray.map up1⟩ : Str) = ⟨(l.map up1).toArray⟩
  rw [List.map_toArray]
theorem lower_upper {l : List Nat} (h : SmallL l) : Txt.lower (Txt.upper (S l)) = S l := by
  have hm : ∀ c ∈ l.map up1, c < 128 := by
    intro c hc
    obtain ⟨d, hd, rfl⟩ := List.mem_map.1 hc
    rcases h d hd with e | e | e <;> subst e <;> decide
  rw [upper_S h, lower_ascii (x := S (l.map up1)) (fun c hc => hm c (by simpa [S] using hc))]
  show (⟨(l.map up1).toArray.map lo1⟩ : Str) = ⟨l.toArray⟩
  rw [List.map_toArray, List.map_map]
  have e : l.map (lo1 ∘ up1) = l := by
    rw [List.map_congr_left (g := id) (fun c hc => by rcases h c hc with e | e | e <;> subst e <;> rfl), List.map_id]
  rw [e]
theorem plain_S {l : List Nat} (h : SmallL l) : plainText (S l) := fun c hc => by
  rcases h c (by simpa [S] using hc) with e | e | e <;> omega
theorem plain_up {l : List Nat} (h : SmallL l) : plainText (S (l.map up1)) := fun c hc => by
  have hc' : c ∈ l.map up1 := by simpa [S] using hc
  obtain ⟨d, hd, rfl⟩ := List.mem_map.1 hc'
  rcases h d hd with e | e | e <;> subst e <;> decide
theorem spelled_S {a b : List Nat} (ha : Let a) (hb : Let b) : spelledP (S a) (S b) = if ((a.length : Int) + (b.length : Int)).fmod 2 = 1 then Txt.upper (S (nmL a b)) else S (nmL a b) := by
  unfold spelledP
  rw [len_S, len_S, front_S ha hb (Nat.le_refl _), front_S hb ha (Nat.le_refl _), List.take_length, List.take_length, name_S]
theorem spelled_lower {a b : List Nat} (ha : Let a) (hb : Let b) : Txt.lower (spelledP (S a) (S b)) = S (nmL a b) := by
  rw [spelled_S ha hb]
  split
  · exact lower_upper (nm_small ha hb)
  · exact lower_S (nm_small ha hb)
theorem spelled_len {a b : List Nat} (ha : Let a) (hb : Let b) : (spelledP (S a) (S b)).length = (nmL a b).length := by
  rw [spelled_S ha hb]
  split
  · rw [upper_S (nm_small ha hb), len_S, List.length_map]
  · rw [len_S]
theorem spelled_plain {a b : List Nat} (ha : Let a) (hb : Let b) : plainText (spelledP (S a) (S b)) := by
  rw [spelled_S ha hb]
  split
  · rw [upper_S (nm_small ha hb)]; exact plain_up (nm_small ha hb)
  · exact plain_S (nm_small ha hb)
theorem nm_len (a b : List Nat) : (nmL a b).length = a.length + 1 + b.length := by unfold nmL; simp; omega
theorem item_S {l : List Nat} {k : Nat} (h : k < l.length) : Txt.item (S l) (k : Int) = S [l[k]] := by
  unfold Txt.item Txt.charAt
  rw [seqIndex_of (by omega) (by rw [len_S]; omega)]
  show (⟨#[((l.toArray)[(k : Int).toNat]?).getD 0]⟩ : Str) = ⟨#[l[k]]⟩
  simp [h]
noncomputable def optL (a b : List Nat) (c : Nat) : List (List Nat × List Nat) :=
  ((List.range a.length).filter fun k => a[k]? == some c).map (fun k => (a.take k, b)) ++ ((List.range b.length).filter fun k => b[k]? == some c).map (fun k => (a, b.take k))
theorem left_half (a : List Nat) (c : Nat) (f : Int → Str) (g : Nat → Str) (hfg : ∀ k, k < a.length → f (k : Int) = g k) :
    ((rangeKs 0 (((S a).length : Int) - 0).toNat).filter fun k => Txt.item (S a) k == S [c]).map f = ((List.range a.length).filter fun k => a[k]? == some c).map g := by
  have e : (((S a).length : Int) - 0).toNat = a.length := by rw [len_S]; omega
  rw [e]
  unfold rangeKs
  rw [List.filter_map, List.map_map]
  have e2 : (List.range a.length).filter ((fun k => Txt.item (S a) k == S [c]) ∘ fun (i : Nat) => (0 : Int) + (i : Int)) = (List.range a.length).filter fun k => a[k]? == some c := by
    refine List.filter_congr fun k hk => ?_
    have hk := List.mem_range.1 hk
    show (Txt.item (S a) (0 + (k : Int)) == S [c]) = (a[k]? == some c)
    rw [Int.zero_add, item_S hk, List.getElem?_eq_getElem hk]
    rw [Bool.eq_iff_iff, beq_iff_eq, beq_iff_eq]
    constructor
    · intro q
      have := congrArg Str.cps q
      simp [S] at this
      rw [this]
    · intro q
      rw [Option.some.inj q]
  rw [e2]
  refine List.map_congr_left fun k hk => ?_
  have hk := List.mem_range.1 (List.mem_filter.1 hk).1
  show f (0 + (k : Int)) = g k
  rw [Int.zero_add]
  exact hfg k hk
theorem left_list {a b : List Nat} (ha : Let a) (hb : Let b) (c : Nat) : leftP (S a) (S b) (S [c]) = (optL a b c).map fun p => S (nmL p.1 p.2) := by
  unfold leftP optL
  rw [List.map_append, List.map_map, List.map_map]
  rw [left_half a c _ (fun k => S (nmL (a.take k) b)) (fun k hk => by rw [front_S ha hb (Nat.le_of_lt hk), name_S])]
  rw [left_half b c _ (fun k => S (nmL a (b.take k))) (fun k hk => by rw [front_S hb ha (Nat.le_of_lt hk), name_S])]
  rfl
theorem nm_inj {a b a' b' : List Nat} (ha : Let a) (ha' : Let a') (h : nmL a b = nmL a' b') : a = a' ∧ b = b' := by
  unfold nmL at h
  induction a generalizing a' with
  | nil =>
    cases a' with
    | nil => exact ⟨rfl, by simpa using h⟩
    | cons c r =>
      have h1 : (46 : Nat) = c := (List.cons.inj h).1
      rcases ha' c (.head _) with e | e <;> omega
  | cons d q ih =>
    cases a' with
    | nil =>
      have h1 : d = (46 : Nat) := (List.cons.inj h).1
      rcases ha d (.head _) with e | e <;> omega
    | cons c r =>
      have h1 := List.cons.inj h
      have h2 := ih (a' := r) (fun x hx => ha x (.tail _ hx)) (fun x hx => ha' x (.tail _ hx)) h1.2
      exact ⟨by rw [h1.1, h2.1], h2.2⟩
theorem S_inj {a b : List Nat} (h : S a = S b) : a = b := by
  have := congrArg Str.cps h
  simpa [S] using this
theorem cut_inj {l k : List Nat} (hl : Let l) {i j i' j' : Nat} (hi : i ≤ l.length) (hi' : i' ≤ l.length) (hj : j ≤ k.length) (hj' : j' ≤ k.length) (h : nmL (l.take i) (k.take j) = nmL (l.take i') (k.take j')) : i = i' ∧ j = j' := by
  obtain ⟨e1, e2⟩ := nm_inj (hl.take i) (hl.take i') h
  have h1 := congrArg List.length e1
  have h2 := congrArg List.length e2
  rw [List.length_take, List.length_take] at h1 h2
  omega
theorem range_split {n i : Nat} (h : i < n) : List.range n = List.range i ++ i :: List.range' (i + 1) (n - i - 1) := by
  rw [List.range_eq_range', List.range_eq_range']
  have h1 : n = i + (1 + (n - i - 1)) := by omega
  rw [h1, ← List.range'_append_1, ← List.range'_append_1]
  have h2 : i + (1 + (n - i - 1)) - i - 1 = n - i - 1 := by omega
  rw [h2]
  simp
theorem line_split {x y : Str} {D : Nat → Nat → Str} {i j n : Nat} (h : j < n) : rowsLine x y D i n = rowsLine x y D i j ++ posRows x y D i j ++ (List.range' (j + 1) (n - j - 1)).flatMap (posRows x y D i) := by
  unfold rowsLine
  rw [range_split h, List.flatMap_append, List.flatMap_cons, List.append_assoc]
theorem line_mem {x y : Str} {D : Nat → Nat → Str} {i n : Nat} {r : Str × Str} (h : r ∈ rowsLine x y D i n) : ∃ j, j < n ∧ r ∈ posRows x y D i j := by
  obtain ⟨j, hj, hr⟩ := List.mem_flatMap.1 h
  exact ⟨j, List.mem_range.1 hj, hr⟩
theorem upto_mem {x y : Str} {D : Nat → Nat → Str} {i j : Nat} {r : Str × Str} (h : r ∈ rowsUpto x y D i j) : ∃ i0 j0, (i0 < i ∧ j0 ≤ y.length ∨ i0 = i ∧ j0 < j) ∧ r ∈ posRows x y D i0 j0 := by
  unfold rowsUpto at h
  rcases List.mem_append.1 h with h | h
  · obtain ⟨i0, hi0, h⟩ := List.mem_flatMap.1 h
    obtain ⟨j0, hj0, h⟩ := line_mem h
    exact ⟨i0, j0, .inl ⟨List.mem_range.1 hi0, by omega⟩, h⟩
  · obtain ⟨j0, hj0, h⟩ := line_mem h
    exact ⟨i, j0, .inr ⟨rfl, hj0⟩, h⟩
theorem rows_split {x y : Str} {D : Nat → Nat → Str} {i j i' j' : Nat} (h : i' < i ∧ j' ≤ y.length ∨ i' = i ∧ j' < j) :
    ∃ pre post, rowsUpto x y D i j = pre ++ posRows x y D i' j' ++ post ∧ ∀ r ∈ pre ++ post, ∃ i0 j0, (i0 < i ∧ j0 ≤ y.length ∨ i0 = i ∧ j0 < j) ∧ ¬(i0 = i' ∧ j0 = j') ∧ r ∈ posRows x y D i0 j0 := by
  rcases h with ⟨h1, h2⟩ | ⟨rfl, h2⟩
  · refine ⟨(List.range i').flatMap (fun a => rowsLine x y D a (y.length + 1)) ++ rowsLine x y D i' j',
      (List.range' (j' + 1) (y.length + 1 - j' - 1)).flatMap (posRows x y D i') ++ ((List.range' (i' + 1) (i - i' - 1)).flatMap (fun a => rowsLine x y D a (y.length + 1)) ++ rowsLine x y D i j), ?_, ?_⟩
    · unfold rowsUpto
      rw [range_split h1, List.flatMap_append, List.flatMap_cons, line_split (x := x) (y := y) (D := D) (i := i') (j := j') (n := y.length + 1) (by omega)]
      simp only [List.append_assoc]
    · intro r hr
      simp only [List.mem_append] at hr
      rcases hr with (hr | hr) | hr | hr | hr
      · obtain ⟨a, ha, hr⟩ := List.mem_flatMap.1 hr
        obtain ⟨b, hb, hr⟩ := line_mem hr
        have := List.mem_range.1 ha
        exact ⟨a, b, .inl ⟨by omega, by omega⟩, by omega, hr⟩
      · obtain ⟨b, hb, hr⟩ := line_mem hr
        exact ⟨i', b, .inl ⟨h1, by omega⟩, by omega, hr⟩
      · obtain ⟨b, hb, hr⟩ := List.mem_flatMap.1 hr
        have := List.mem_range'_1.1 hb
        exact ⟨i', b, .inl ⟨h1, by omega⟩, by omega, hr⟩
      · obtain ⟨a, ha, hr⟩ := List.mem_flatMap.1 hr
        obtain ⟨b, hb, hr⟩ := line_mem hr
        have := List.mem_range'_1.1 ha
        exact ⟨a, b, .inl ⟨by omega, by omega⟩, by omega, hr⟩
      · obtain ⟨b, hb, hr⟩ := line_mem hr
        exact ⟨i, b, .inr ⟨rfl, hb⟩, by omega, hr⟩
  · refine ⟨(List.range i').flatMap (fun a => rowsLine x y D a (y.length + 1)) ++ rowsLine x y D i' j', (List.range' (j' + 1) (j - j' - 1)).flatMap (posRows x y D i'), ?_, ?_⟩
    · unfold rowsUpto
      rw [line_split (x := x) (y := y) (D := D) (i := i') h2]
      simp only [List.append_assoc]
    · intro r hr
      simp only [List.mem_append] at hr
      rcases hr with (hr | hr) | hr
      · obtain ⟨a, ha, hr⟩ := List.mem_flatMap.1 hr
        obtain ⟨b, hb, hr⟩ := line_mem hr
        have := List.mem_range.1 ha
        exact ⟨a, b, .inl ⟨this, by omega⟩, by omega, hr⟩
      · obtain ⟨b, hb, hr⟩ := line_mem hr
        exact ⟨i', b, .inr ⟨rfl, by omega⟩, by omega, hr⟩
      · obtain ⟨b, hb, hr⟩ := List.mem_flatMap.1 hr
        have := List.mem_range'_1.1 hb
        exact ⟨i', b, .inr ⟨rfl, by omega⟩, by omega, hr⟩
/-- the name of a row -/
theorem pos_lower {l k : List Nat} (hl : Let l) (hk : Let k) {D : Nat → Nat → Str} {i j : Nat} (hi : i ≤ l.length) (hj : j ≤ k.length) {r : Str × Str} (h : r ∈ posRows (S l) (S k) D i j) : Txt.lower r.1 = S (nmL (l.take i) (k.take j)) := by
  unfold posRows at h
  rw [cut_list hi, cut_list hj] at h
  rcases List.mem_cons.1 h with rfl | h
  · exact spelled_lower (hl.take i) (hk.take j)
  · split at h
    · rename_i h0
      subst h0
      rw [List.mem_singleton] at h
      subst h
      show Txt.lower (Str.ofString "." ++ S (k.take j)) = _
      rw [name_S0]
      exact lower_S (nm_small (by intro c hc; cases hc) (hk.take j))
    · cases h
theorem find_rows {l k : List Nat} (hl : Let l) (hk : Let k) {D : Nat → Nat → Str} {i j i' j' : Nat} (hi : i ≤ l.length) (hj : j ≤ k.length + 1) (h : i' < i ∧ j' ≤ k.length ∨ i' = i ∧ j' < j) :
    findRow (rowsUpto (S l) (S k) D i j) (S (nmL (l.take i') (k.take j'))) = some (D i' j') := by
  obtain ⟨pre, post, e, hr⟩ := rows_split (x := S l) (y := S k) (D := D) (i := i) (j := j) (i' := i') (j' := j') (by rw [len_S]; exact h)
  rw [len_S] at hr
  unfold findRow
  rw [e, List.append_assoc, List.find?_append]
  have h0 : pre.find? (fun r => Txt.lower r.1 == S (nmL (l.take i') (k.take j'))) = none := List.find?_eq_none.mpr fun r hm => by
    obtain ⟨i0, j0, hb, hne, hm⟩ := hr r (List.mem_append_left _ hm)
    rw [pos_lower hl hk (by omega) (by omega) hm, beq_iff_eq]
    intro q
    exact hne (cut_inj hl (by omega) (by omega) (by omega) (by omega) (S_inj q))
  rw [h0, Option.none_or]
  unfold posRows
  rw [List.cons_append, List.find?_cons]
  have h1 : (Txt.lower (spelledP (cutP (S l) i') (cutP (S k) j')) == S (nmL (l.take i') (k.take j'))) = true := by
    rw [beq_iff_eq, cut_list (by omega), cut_list (by omega), spelled_lower (hl.take _) (hk.take _)]
  rw [h1]
  rfl
/-- all rows of a name -/
theorem filter_rows {l k : List Nat} (hl : Let l) (hk : Let k) {D : Nat → Nat → Str} {i' j' : Nat} (hi : i' ≤ l.length) (hj : j' ≤ k.length) :
    ((rowsUpto (S l) (S k) D (l.length + 1) 0).filter fun r => Txt.lower r.1 == S (nmL (l.take i') (k.take j'))).map (·.2) = D i' j' :: (if i' = 0 then [turnedP (D i' j')] else []) := by
  obtain ⟨pre, post, e, hr⟩ := rows_split (x := S l) (y := S k) (D := D) (i := l.length + 1) (j := 0) (i' := i') (j' := j') (by rw [len_S]; omega)
  rw [len_S] at hr
  have h0 : ∀ r ∈ pre ++ post, (Txt.lower r.1 == S (nmL (l.take i') (k.take j'))) = false := fun r hm => by
    obtain ⟨i0, j0, hb, hne, hm⟩ := hr r hm
    rw [pos_lower hl hk (by omega) (by omega) hm, beq_eq_false_iff_ne]
    intro q
    exact hne (cut_inj hl (by omega) (by omega) (by omega) (by omega) (S_inj q))
  have h1 : ∀ r ∈ posRows (S l) (S k) D i' j', (Txt.lower r.1 == S (nmL (l.take i') (k.take j'))) = true := fun r hm => by
    rw [pos_lower hl hk hi hj hm, beq_iff_eq]
  rw [e, List.filter_append, List.filter_append]
  have q1 : pre.filter (fun r => Txt.lower r.1 == S (nmL (l.take i') (k.take j'))) = [] := List.filter_eq_nil_iff.2 fun r hm => by rw [h0 r (List.mem_append_left _ hm)]; exact Bool.false_ne_true
  have q2 : post.filter (fun r => Txt.lower r.1 == S (nmL (l.take i') (k.take j'))) = [] := List.filter_eq_nil_iff.2 fun r hm => by rw [h0 r (List.mem_append_right _ hm)]; exact Bool.false_ne_true
  rw [q1, q2]
  rw [List.filter_eq_self.2 h1, List.nil_append, List.append_nil]
  unfold posRows
  split <;> rfl
theorem flatMap_le {α β : Type} {f : α → List β} {c : Nat} : ∀ (l : List α), (∀ a ∈ l, (f a).length ≤ c) → (l.flatMap f).length ≤ l.length * c
  | [], _ => by simp
  | a :: l, h => by
    rw [List.flatMap_cons, List.length_append, List.length_cons]
    have h1 := h a (.head _)
    have h2 := flatMap_le l fun b hb => h b (.tail _ hb)
    rw [Nat.add_mul]
    omega
theorem pos_len (x y : Str) (D : Nat → Nat → Str) (i j : Nat) : (posRows x y D i j).length ≤ 2 := by
  unfold posRows; split <;> simp
theorem line_len (x y : Str) (D : Nat → Nat → Str) (i n : Nat) : (rowsLine x y D i n).length ≤ n * 2 := by
  have := flatMap_le (f := posRows x y D i) (List.range n) fun j _ => pos_len x y D i j
  rw [List.length_range] at this
  exact this
theorem upto_len {x y : Str} {D : Nat → Nat → Str} {i j : Nat} (hi : i ≤ 6) (hj : j ≤ 6) (hy : y.length ≤ 4) : (rowsUpto x y D i j).length ≤ 100 := by
  unfold rowsUpto
  rw [List.length_append]
  have h1 := flatMap_le (f := fun a => rowsLine x y D a (y.length + 1)) (c := 10) (List.range i) fun a _ => Nat.le_trans (line_len x y D a _) (by omega)
  rw [List.length_range] at h1
  have h2 := line_len x y D i j
  omega
end Mine
end
section
open PySem PySem.W PyProof.Rows PySem.Calls
set_option Elab.async false
set_option maxRecDepth 100000
set_option linter.unusedVariables false
set_option linter.unusedSimpArgs false
namespace Mine
theorem any_congr {α : Type} {p q : α → Bool} : ∀ (l : List α), (∀ a ∈ l, p a = q a) → l.any p = l.any q
  | [], _ => rfl
  | a :: l, h => by rw [List.any_cons, List.any_cons, h a (.head _), any_congr l fun b hb => h b (.tail _ hb)]
noncomputable def dueI (h : Int) : Str := if 0 < h then Str.ofString "LL" else if h < 0 then Str.ofString "RR" else Str.ofString "RL"
noncomputable def moreF (x y : Str) (i j : Nat) : Int := worthP (cutP x i) + worthP (cutP y j)
noncomputable def dueF (x y : Str) (i j : Nat) : Str := dueI (moreF x y i j)
noncomputable def worthL (l : List Nat) : Int :=
  (l.foldl (fun (σ : Int × Int) c => let w := if σ.1 == 8 && c == l.headD 0 then 8 else σ.1 / 2; (w, σ.2 + if c = 99 then w else -w)) (8, 0)).2
theorem texts4_let : ∀ l ∈ texts 4, (∀ c ∈ l, c = 99 ∨ c = 97) ∧ l.length ≤ 4 := by decide +kernel
theorem texts3_let : ∀ l ∈ texts 3, (∀ c ∈ l, c = 99 ∨ c = 97) ∧ l.length ≤ 3 := by decide +kernel
theorem texts4_take : ∀ l ∈ texts 4, ∀ i, i < 5 → l.take i ∈ texts 4 := by decide +kernel
theorem texts3_take : ∀ l ∈ texts 3, ∀ i, i < 4 → l.take i ∈ texts 3 := by decide +kernel
theorem texts3_4 : ∀ l ∈ texts 3, l ∈ texts 4 := fun l h => List.mem_append_left _ h
theorem worth_S : ∀ l ∈ texts 4, worthP (S l) = worthL l := by decide +kernel
/-- the game is told by the worths -/
theorem game_pairs : ∀ a ∈ texts 4, ∀ b ∈ texts 3,
    ((optL a b 99).any fun p => decide (0 ≤ worthL p.1 + worthL p.2)) = decide (0 < worthL a + worthL b) ∧
    ((optL a b 97).any fun p => decide (worthL p.1 + worthL p.2 ≤ 0)) = decide (worthL a + worthL b < 0) := by decide +kernel
noncomputable def valN (l : List Nat) : Int := worthL (l.takeWhile (· != 46)) + worthL ((l.dropWhile (· != 46)).drop 1)
noncomputable def valZ (z : Str) : Str := dueI (valN z.cps.toList)
theorem val_S {a b : List Nat} (ha : Let a) : valZ (S (nmL a b)) = dueI (worthL a + worthL b) := by
  have h : ∀ c ∈ a, (c != 46) = true := fun c hc => by rcases ha c hc with e | e <;> subst e <;> rfl
  have e1 : (nmL a b).takeWhile (· != 46) = a := by
    unfold nmL; rw [List.takeWhile_append_of_pos h]; simp
  have e2 : (nmL a b).dropWhile (· != 46) = 46 :: b := by
    unfold nmL; rw [List.dropWhile_append_of_pos h]; simp
  show dueI (valN (nmL a b).toArray.toList) = _
  rw [List.toList_toArray]
  unfold valN
  rw [e1, e2]
  rfl
theorem due_cases (h : Int) : 0 < h ∧ dueI h = Str.ofString "LL" ∨ h < 0 ∧ dueI h = Str.ofString "RR" ∨ h = 0 ∧ dueI h = Str.ofString "RL" := by
  unfold dueI
  by_cases h1 : 0 < h
  · exact .inl ⟨h1, if_pos h1⟩
  · by_cases h2 : h < 0
    · exact .inr (.inl ⟨h2, by rw [if_neg h1, if_pos h2]⟩)
    · exact .inr (.inr ⟨by omega, by rw [if_neg h1, if_neg h2]⟩)
theorem told1 (h : Int) : (Txt.item (dueI h) 1 == Str.ofString "L") = decide (0 ≤ h) := by
  rcases due_cases h with ⟨h1, e⟩ | ⟨h1, e⟩ | ⟨h1, e⟩ <;> rw [e]
  · rw [decide_eq_true (by omega)]; decide +kernel
  · rw [decide_eq_false (by omega)]; decide +kernel
  · rw [decide_eq_true (by omega)]; decide +kernel
theorem told0 (h : Int) : (Txt.item (dueI h) 0 == Str.ofString "R") = decide (h ≤ 0) := by
  rcases due_cases h with ⟨h1, e⟩ | ⟨h1, e⟩ | ⟨h1, e⟩ <;> rw [e]
  · rw [decide_eq_false (by omega)]; decide +kernel
  · rw [decide_eq_true (by omega)]; decide +kernel
  · rw [decide_eq_true (by omega)]; decide +kernel
theorem opt_mem {a b : List Nat} {c : Nat} {p : List Nat × List Nat} (h : p ∈ optL a b c) : (∃ k, k < a.length ∧ p = (a.take k, b)) ∨ ∃ k, k < b.length ∧ p = (a, b.take k) := by
  unfold optL at h
  rcases List.mem_append.1 h with h | h
  · obtain ⟨k, hk, rfl⟩ := List.mem_map.1 h
    exact .inl ⟨k, List.mem_range.1 (List.mem_filter.1 hk).1, rfl⟩
  · obtain ⟨k, hk, rfl⟩ := List.mem_map.1 h
    exact .inr ⟨k, List.mem_range.1 (List.mem_filter.1 hk).1, rfl⟩
theorem opt_let {a b : List Nat} (ha : Let a) {c : Nat} {p : List Nat × List Nat} (h : p ∈ optL a b c) : Let p.1 := by
  rcases opt_mem h with ⟨k, _, rfl⟩ | ⟨k, _, rfl⟩
  · exact ha.take k
  · exact ha
theorem win0_S {a b : List Nat} (ha : a ∈ texts 4) (hb : b ∈ texts 3) : win0P (S a) (S b) valZ = if 0 < worthL a + worthL b then Str.ofString "L" else Str.ofString "R" := by
  have la := (texts4_let a ha).1
  unfold win0P
  rw [lit_cS, left_list la (texts3_let b hb).1 99, List.map_map, List.any_map]
  have e : (optL a b 99).any ((fun x => x == Str.ofString "L") ∘ (fun z => Txt.item (valZ z) 1) ∘ fun p => S (nmL p.1 p.2)) = decide (0 < worthL a + worthL b) := by
    rw [← (game_pairs a ha b hb).1]
    refine any_congr _ (fun p hp => ?_)
    show (Txt.item (valZ (S (nmL p.1 p.2))) 1 == Str.ofString "L") = _
    rw [val_S (opt_let la hp), told1]
  rw [e]
  by_cases h : 0 < worthL a + worthL b
  · rw [if_pos (decide_eq_true h), if_pos h]
  · rw [if_neg (by rw [decide_eq_false h]; exact Bool.false_ne_true), if_neg h]
theorem win1_S {a b : List Nat} (ha : a ∈ texts 4) (hb : b ∈ texts 3) : win1P (S a) (S b) valZ = if worthL a + worthL b < 0 then Str.ofString "R" else Str.ofString "L" := by
  have la := (texts4_let a ha).1
  unfold win1P
  rw [lit_aS, left_list la (texts3_let b hb).1 97, List.map_map, List.any_map]
  have e : (optL a b 97).any ((fun x => x == Str.ofString "R") ∘ (fun z => Txt.item (valZ z) 0) ∘ fun p => S (nmL p.1 p.2)) = decide (worthL a + worthL b < 0) := by
    rw [← (game_pairs a ha b hb).2]
    refine any_congr _ (fun p hp => ?_)
    show (Txt.item (valZ (S (nmL p.1 p.2))) 0 == Str.ofString "R") = _
    rw [val_S (opt_let la hp), told0]
  rw [e]
  by_cases h : worthL a + worthL b < 0
  · rw [if_pos (decide_eq_true h), if_pos h]
  · rw [if_neg (by rw [decide_eq_false h]; exact Bool.false_ne_true), if_neg h]
theorem due_S {l k : List Nat} (hl : l ∈ texts 4) (hk : k ∈ texts 3) {i j : Nat} (hi : i ≤ l.length) (hj : j ≤ k.length) : dueF (S l) (S k) i j = dueI (worthL (l.take i) + worthL (k.take j)) := by
  have h1 := (texts4_let l hl).2
  have h2 := (texts3_let k hk).2
  unfold dueF moreF
  rw [cut_list hi, cut_list hj, worth_S _ (texts4_take l hl i (by omega)), worth_S _ (texts3_4 _ (texts3_take k hk j (by omega)))]
theorem due_len (h : Int) : (dueI h).length = 2 := by
  rcases due_cases h with ⟨_, e⟩ | ⟨_, e⟩ | ⟨_, e⟩ <;> rw [e] <;> decide +kernel
theorem plain_dec (x : Str) (h : (x.cps.toList.all fun c => decide (32 ≤ c) && decide (c < 127)) = true) : plainText x := fun c hc => by
  have := List.all_eq_true.1 h c hc
  simpa using this
theorem due_plain (h : Int) : plainText (dueI h) := by
  rcases due_cases h with ⟨_, e⟩ | ⟨_, e⟩ | ⟨_, e⟩ <;> rw [e] <;> exact plain_dec _ (by decide +kernel)
theorem turned_due (h : Int) : (turnedP (dueI h)).length = 2 ∧ plainText (turnedP (dueI h)) := by
  rcases due_cases h with ⟨_, e⟩ | ⟨_, e⟩ | ⟨_, e⟩ <;> rw [e] <;> exact ⟨by decide +kernel, plain_dec _ (by decide +kernel)⟩
theorem name_ok {l k : List Nat} (hl : l ∈ texts 4) (hk : k ∈ texts 3) {i j i' j' : Nat} (hi : i ≤ l.length) (hj : j ≤ k.length + 1) (h : i' < i ∧ j' ≤ k.length ∨ i' = i ∧ j' < j) :
    NameOk (rowsUpto (S l) (S k) (dueF (S l) (S k)) i j) (S (nmL (l.take i') (k.take j'))) (valZ (S (nmL (l.take i') (k.take j')))) := by
  have tl := texts4_let l hl
  have tk := texts3_let k hk
  have ll : Let l := tl.1
  have lk : Let k := tk.1
  have hs := nm_small (ll.take i') (lk.take j')
  have hlen : (nmL (l.take i') (k.take j')).length ≤ 8 := by
    rw [nm_len, List.length_take, List.length_take]; omega
  have hf : findRow (rowsUpto (S l) (S k) (dueF (S l) (S k)) i j) (S (nmL (l.take i') (k.take j'))) = some (valZ (S (nmL (l.take i') (k.take j')))) := by
    rw [find_rows ll lk hi hj h, due_S hl hk (by omega) (by omega), val_S (ll.take i')]
  refine ⟨by rw [lower_S hs]; exact hf, by rw [lower_upper hs]; exact hf, ?_, ?_, ?_, ?_, ?_, ?_, ?_⟩
  · rw [val_S (ll.take i')]; exact due_len _
  · rw [len_S]; omega
  · rw [upper_S hs, len_S, List.length_map]; omega
  · rw [lower_S hs, len_S]; omega
  · rw [lower_upper hs, len_S]; omega
  · rw [lower_S hs]; exact plain_S hs
  · rw [lower_upper hs]; exact plain_S hs
theorem rows_short {l k : List Nat} (hl : l ∈ texts 4) (hk : k ∈ texts 3) {i j : Nat} (hi : i ≤ l.length ∧ j ≤ k.length + 1 ∨ i = l.length + 1 ∧ j = 0) : ShortNames (rowsUpto (S l) (S k) (dueF (S l) (S k)) i j) := by
  have tl := texts4_let l hl
  have tk := texts3_let k hk
  have ll : Let l := tl.1
  have lk : Let k := tk.1
  intro r hr
  obtain ⟨i0, j0, hb, hr⟩ := upto_mem hr
  rw [len_S] at hb
  have h1 : i0 ≤ l.length := by omega
  have h2 : j0 ≤ k.length := by omega
  unfold posRows at hr
  rw [cut_list h1, cut_list h2, due_S hl hk h1 h2] at hr
  rcases List.mem_cons.1 hr with rfl | hr
  · refine ⟨?_, ?_⟩
    · show (spelledP (S (l.take i0)) (S (k.take j0))).length ≤ 100
      rw [spelled_len (ll.take _) (lk.take _), nm_len, List.length_take, List.length_take]; omega
    · show (dueI _).length ≤ 100
      rw [due_len]; omega
  · split at hr
    · rw [List.mem_singleton] at hr
      subst hr
      refine ⟨?_, ?_⟩
      · show (Str.ofString "." ++ S (k.take j0)).length ≤ 100
        rw [name_S0, len_S, nm_len, List.length_take]; simp; omega
      · show (turnedP _).length ≤ 100
        rw [(turned_due _).1]; omega
    · cases hr
theorem opt_names {l k : List Nat} {i j : Nat} (hi : i ≤ l.length) (hj : j ≤ k.length) {c : Nat} {z : Str} (hl : Let l) (hk : Let k) (h : z ∈ leftP (S (l.take i)) (S (k.take j)) (S [c])) :
    ∃ i' j', (i' < i ∧ j' ≤ k.length ∨ i' = i ∧ j' < j) ∧ z = S (nmL (l.take i') (k.take j')) := by
  rw [left_list (hl.take i) (hk.take j)] at h
  obtain ⟨p, hp, rfl⟩ := List.mem_map.1 h
  rcases opt_mem hp with ⟨n, hn, rfl⟩ | ⟨n, hn, rfl⟩
  · rw [List.length_take] at hn
    refine ⟨n, j, .inl ⟨by omega, hj⟩, ?_⟩
    show S (nmL ((l.take i).take n) (k.take j)) = _
    rw [List.take_take, Nat.min_eq_left (by omega)]
  · rw [List.length_take] at hn
    refine ⟨i, n, .inr ⟨rfl, by omega⟩, ?_⟩
    show S (nmL (l.take i) ((k.take j).take n)) = _
    rw [List.take_take, Nat.min_eq_left (by omega)]
theorem join_wins {a b : List Nat} (ha : a ∈ texts 4) (hb : b ∈ texts 3) :
    Txt.join (Str.ofString "") [win0P (S a) (S b) valZ, win1P (S a) (S b) valZ] = dueI (worthL a + worthL b) ∧
    turnedP (dueI (worthL a + worthL b)) = Txt.join (Str.ofString "") ([win0P (S a) (S b) valZ, win1P (S a) (S b) valZ].map turn1) := by
  rw [win0_S ha hb, win1_S ha hb]
  rcases due_cases (worthL a + worthL b) with ⟨h, e⟩ | ⟨h, e⟩ | ⟨h, e⟩ <;> rw [e]
  · rw [if_pos h, if_neg (by omega)]; exact ⟨by decide +kernel, by decide +kernel⟩
  · rw [if_neg (by omega), if_pos h]; exact ⟨by decide +kernel, by decide +kernel⟩
  · rw [if_neg (by omega), if_neg (by omega)]; exact ⟨by decide +kernel, by decide +kernel⟩
theorem game_ok {x y : Str} (hx : StalkOk 4 x) (hy : StalkOk 3 y) : GamePre x y (dueF x y) := by
  obtain ⟨l, hl, rfl⟩ := hx
  obtain ⟨k, hk, rfl⟩ := hy
  have tl := texts4_let l hl
  have tk := texts3_let k hk
  have ll : Let l := tl.1
  have lk : Let k := tk.1
  intro i j hi hj
  rw [len_S] at hi hj
  have ta := texts4_take l hl i (by omega)
  have tb := texts3_take k hk j (by omega)
  have hjw := join_wins ta tb
  unfold PosOk
  rw [cut_list hi, cut_list hj, due_S hl hk hi hj]
  refine ⟨valZ, ?_, ?_, hjw.1, by rw [due_len]; omega, due_plain _, ?_, spelled_plain (ll.take _) (lk.take _), ?_, by rw [(turned_due _).1]; omega, (turned_due _).2, hjw.2, rows_short hl hk (.inl ⟨hi, by omega⟩), ?_⟩
  · intro z hz
    rw [lit_cS] at hz
    obtain ⟨i', j', hb, rfl⟩ := opt_names hi hj ll lk hz
    exact name_ok hl hk hi (by omega) hb
  · intro z hz
    rw [lit_aS] at hz
    obtain ⟨i', j', hb, rfl⟩ := opt_names hi hj ll lk hz
    exact name_ok hl hk hi (by omega) hb
  · rw [spelled_len (ll.take _) (lk.take _), nm_len, List.length_take, List.length_take]; omega
  · rw [name_S0]; exact plain_S (nm_small (by intro c hc; cases hc) (lk.take _))
  · exact Nat.le_trans (upto_len (by omega) (by omega) (by rw [len_S]; omega)) (by omega)
end Mine
end
section
open PySem PySem.W PyProof.Rows PySem.Calls
set_option Elab.async false
set_option maxRecDepth 100000
set_option linter.unusedVariables false
set_option linter.unusedSimpArgs false
namespace Mine
noncomputable def FreshIn (a : Addr) (l : List (Addr × Obj)) : Prop := ∀ p ∈ l, p.1 ≠ a
theorem off1_of {D : Addr} : ∀ {l : List (Addr × Obj)}, FreshIn D l → LCg.Off1 D l
  | [], _ => trivial
  | p :: r, h => ⟨h p (.head _), off1_of fun q hq => h q (.tail _ hq)⟩
theorem cons_sub {h₀ h : Heap} {L : Addr} {nw nw' : List (Addr × Obj)} (N : News h₀ L h nw) (hs : ∀ p ∈ nw', p ∈ nw) : News h₀ L h nw' := fun p hp => N p (hs p hp)
/-- add_header, the list of rows anywhere in the ledger -/
theorem addF_c (w : World) (mean : ExcName → Option Value) (mg mb : Str → Option Value) (news : List (Addr × Obj)) (g : Obj → List (Addr × Obj)) (tb dx l : Addr) (th : Tok) (nd nl : Nat) (vs : List Value) (x y : Str) (tx ty : Tok)
    (U : UpdF l (listOf vs.toArray nl) news g)
    (hT1 : (tb, instObj 196 dx) ∈ news) (hT2 : (dx, dictOf [⟨PyData.keyHash w.params (Str.ofString "_headers"), .str (Str.ofString "_headers") th, .ref l⟩] nd) ∈ news) 
    (n1 : @Ne Nat tb l) (n2 : @Ne Nat dx l)
    (hlv : vs.length ≤ 1000) (hx1 : x.length ≤ 100) (hpl : plainText x) (hy1 : y.length ≤ 100) (hply : plainText y) :
   CallC w mean mg mb 193 6 news [.ref tb, .str x tx, .str y ty] [] (fun v nw => v = .none ∧ ∃ a tk tv, nw = (a, rowObj x y tk tv 0) :: g (listOf (vs ++ [Value.ref a]).toArray (nl + 1)) ∧ FreshIn a news) := by
  obtain ⟨own, rest, rfl, hg, h1, h2⟩ := U.split
  intro dp un gd cn cs a ccd cl outer A₀ base h₀ L m s Q E B F X N T hk hd hu ret
  have m1 : ∀ {q : Addr × Obj}, q ∈ own ++ (l, listOf vs.toArray nl) :: rest → @Ne Nat q.1 l → q ∈ own ++ rest := by
    intro q hq hn
    rcases List.mem_append.mp hq with h | h
    · exact List.mem_append_left _ h
    · rcases List.mem_cons.mp h with rfl | h
      · exact absurd rfl hn
      · exact List.mem_append_right _ h
  have hoff : ∀ p ∈ own ++ rest, p.1 ≠ l := fun p hp => (List.mem_append.mp hp).elim (h1 p) (h2 p)
  have N1 : News h₀ L s.heap ((l, listOf vs.toArray nl) :: (own ++ rest)) := cons_sub N fun p hp => by
    rcases List.mem_cons.mp hp with rfl | hp
    · exact List.mem_append_right _ (.head _)
    · rcases List.mem_append.mp hp with h | h
      · exact List.mem_append_left _ h
      · exact List.mem_append_right _ (.tail _ h)
  refine CallC.use (add_c w mean mg mb (own ++ rest) tb dx l th nd nl vs x y tx ty (m1 hT1 n1) (m1 hT2 n2) hoff hlv hx1 hpl hy1 hply) B F X N1 T hk hd hu fun v nw h' tk' hR F' N' => ?_
  obtain ⟨e1, b, tk, tv, rfl, hb, hall⟩ := hR
  refine ret v _ h' tk' ⟨e1, b, tk, tv, rfl, fun p hp => ?_⟩ F' ?_
  · rcases List.mem_append.mp hp with h | h
    · exact hall p (List.mem_append_left _ h)
    · rcases List.mem_cons.mp h with rfl | h
      · exact fun q => hb q.symm
      · exact hall p (List.mem_append_right _ h)
  · rw [hg]
    refine cons_sub N' fun p hp => ?_
    rcases List.mem_cons.mp hp with rfl | hp
    · exact .tail _ (.head _)
    · rcases List.mem_append.mp hp with h | h
      · exact .tail _ (.tail _ (List.mem_append_left _ h))
      · rcases List.mem_cons.mp h with rfl | h
        · exact .head _
        · exact .tail _ (.tail _ (List.mem_append_right _ h))
end Mine
end
section
open PySem PySem.W PyProof.Rows PySem.Calls
set_option Elab.async false
set_option maxRecDepth 100000
set_option linter.unusedVariables false
set_option linter.unusedSimpArgs false
namespace Mine
noncomputable abbrev tabDict (w : World) (th : Tok) (nd : Nat) (l : Addr) : Obj := dictOf [⟨PyData.keyHash w.params (Str.ofString "_headers"), .str (Str.ofString "_headers") th, .ref l⟩] nd
/-- the game's own part of the ledger -/
noncomputable abbrev gameLed (w : World) (L tb d l : Addr) (th : Tok) (nd : Nat) (og os ot oi oj : Obj) (vs : List Value) (nl : Nat) (rest : List (Addr × Obj)) : List (Addr × Obj) :=
  (l, listOf vs.toArray nl) :: (tb, instObj 196 d) :: (d, dictOf [⟨PyData.keyHash w.params (Str.ofString "_headers"), .str (Str.ofString "_headers") th, .ref l⟩] nd) ::
    (L + 1 + 1 + 1 + 1 + 1, oj) :: (L + 1 + 1 + 1 + 1, oi) :: (L + 1 + 1 + 1, ot) :: (L + 1 + 1, os) :: (L + 1, og) :: rest
/-- the end of a turn of the inner loop -/
noncomputable def TurnG (w : World) (x y : Str) (D : Nat → Nat → Str) (h₀ : Heap) (Lf L tb d l : Addr) (th : Tok) (nd : Nat) (og os ot oi : Obj) (m₀ : Str → Option Value) (I : Addr) (oI : Obj) (I2 : Addr) (oI2 : Obj) (rest : List (Addr × Obj)) (i j : Nat) (s : Shared) (f : Flow) (s₂ : Shared) : Prop :=
  f = .next ∧ ∃ h tk m oj vj vs nl rest', s₂ = { s with heap := h, toks := tk } ∧ Fr h₀ Lf h m ∧ (∀ z, z ≠ Str.ofString "winners" → m z = m₀ z) ∧
    News h₀ Lf h ((I2, oI2) :: gameLed w L tb d l th nd og os ot oi oj vs nl ((I, oI) :: rest')) ∧ oj.data = .cell vj ∧ RowsIn rest' vs (rowsUpto x y D i (j + 1)) ∧ (∀ p ∈ rest, p ∈ rest') ∧
    (∀ p ∈ rest', p ∈ rest ∨ (p.1 ≠ l ∧ p.1 ≠ L + 1 + 1 + 1 + 1 ∧ p.1 ≠ L + 1 + 1 + 1 + 1 + 1 ∧ p.1 ≠ I ∧ p.1 ≠ I2))
/-- the end of a turn of the outer loop -/
noncomputable def TurnH (w : World) (x y : Str) (D : Nat → Nat → Str) (h₀ : Heap) (Lf L tb d l : Addr) (th : Tok) (nd : Nat) (og os ot : Obj) (m₀ : Str → Option Value) (I : Addr) (oI : Obj) (rest : List (Addr × Obj)) (i : Nat) (s : Shared) (f : Flow) (s₂ : Shared) : Prop :=
  f = .next ∧ ∃ h tk m oi vi oj vj vs nl rest', s₂ = { s with heap := h, toks := tk } ∧ Fr h₀ Lf h m ∧ (∀ z, z ≠ Str.ofString "winners" → m z = m₀ z) ∧
    News h₀ Lf h ((I, oI) :: gameLed w L tb d l th nd og os ot oi oj vs nl rest') ∧ oi.data = .cell vi ∧ oj.data = .cell vj ∧ RowsIn rest' vs (rowsUpto x y D (i + 1) 0) ∧ (∀ p ∈ rest, p ∈ rest') ∧
    (∀ p ∈ rest', p ∈ rest ∨ (p.1 ≠ l ∧ p.1 ≠ L + 1 + 1 + 1 + 1 ∧ p.1 ≠ L + 1 + 1 + 1 + 1 + 1 ∧ p.1 ≠ I))
theorem map_conv {m m₀ : Str → Option Value} {n : Str} (h : ∀ z, z ≠ n → m z = m₀ z) : ∃ u : Str → Option Value, m = fun z => if z = n then u z else m₀ z :=
  ⟨m, funext fun z => by
    by_cases e : z = n
    · rw [if_pos e]
    · rw [if_neg e, h z e]⟩
section
variable {prog : Program} {w : World} {A : Around} {E : Value → Shared → Prop} {s : Shared} {env : Env} {h₀ : Heap}
theorem For_gameJ {x y : Str} {D : Nat → Nat → Str} {L tb d l : Addr} {th : Tok} {nd nl : Nat} {og os ot oi oj : Obj} {vj : Option Value} {m₀ : Str → Option Value} {I : Addr} {oI : Obj} {vs : List Value} {rest : List (Addr × Obj)} {i : Nat}
    {xn : Str} {pk pos : Pos} {iter : PySem.Expr} {body : List Stmt} {Q : Flow → Shared → Prop} {n : Nat} {u₀ : Str → Option Value}
    (F₀ : Fr h₀ env.locals s.heap (fun z => if z = Str.ofString "winners" then u₀ z else m₀ z))
    (N₀ : News h₀ env.locals s.heap ((I, oI) :: gameLed w L tb d l th nd og os ot oi oj vs nl rest)) (hoj : oj.data = .cell vj)
    (hr : RowsIn rest vs (rowsUpto x y D i 0)) (hof : ∀ p ∈ rest, p.1 ≠ l ∧ p.1 ≠ L + 1 + 1 + 1 + 1 ∧ p.1 ≠ L + 1 + 1 + 1 + 1 + 1 ∧ p.1 ≠ I)
    (hI : @Ne Nat I l ∧ @Ne Nat I (L + 1 + 1 + 1 + 1) ∧ @Ne Nat I (L + 1 + 1 + 1 + 1 + 1)) (hn : n ≤ 1000)
    (hh : A.handled = none) (hs : ∀ x, foldedSetIterable iter env x = pure x)
    (hiter : wpAny (model prog w) A (eval iter env) (fun xv s₁ => ∃ r b t u v h tk, xv = .ref r ∧ s₁ = { s with heap := h, toks := tk } ∧ IsRange h r 0 b 1 t u v ∧ b = (n : Int) ∧ Fr h₀ env.locals h (fun z => if z = Str.ofString "winners" then u₀ z else m₀ z) ∧
      News h₀ env.locals h ((I, oI) :: gameLed w L tb d l th nd og os ot oi oj vs nl rest)) E s)
    (turn : ∀ (j : Nat) (t : Tok) I2 oI2 (u : Str → Option Value) oj vj vs nl rest h tkk (E' : Value → Shared → Prop), j < n → oj.data = .cell vj → RowsIn rest vs (rowsUpto x y D i j) →
      (∀ p ∈ rest, p.1 ≠ l) → (∀ p ∈ rest, p.1 ≠ L + 1 + 1 + 1 + 1) → (∀ p ∈ rest, p.1 ≠ L + 1 + 1 + 1 + 1 + 1) → (∀ p ∈ rest, p.1 ≠ I) → (∀ p ∈ rest, p.1 ≠ I2) →
      (@Ne Nat I2 l ∧ @Ne Nat I2 tb ∧ @Ne Nat I2 d ∧ @Ne Nat I2 (L + 1 + 1 + 1 + 1 + 1) ∧ @Ne Nat I2 (L + 1 + 1 + 1 + 1) ∧ @Ne Nat I2 (L + 1 + 1 + 1) ∧ @Ne Nat I2 (L + 1 + 1) ∧ @Ne Nat I2 (L + 1) ∧ @Ne Nat I2 I) →
      Fr h₀ env.locals h (fun z => if z = Str.ofString "winners" then u z else m₀ z) → News h₀ env.locals h ((I2, oI2) :: gameLed w L tb d l th nd og os ot oi oj vs nl ((I, oI) :: rest)) →
      wpAny (model prog w) A (storeName env xn (.int (j : Int) t)) (fun _ s₂ => wpAny (model prog w) A (execs body env) (TurnG w x y D h₀ env.locals L tb d l th nd og os ot oi m₀ I oI I2 oI2 rest i j { s with heap := h, toks := tkk }) E' s₂) E' { s with heap := h, toks := tkk })
    (done : ∀ h tk (u : Str → Option Value) oj vj vs nl rest', oj.data = .cell vj → RowsIn rest' vs (rowsUpto x y D i n) → (∀ p ∈ rest, p ∈ rest') →
      (∀ p ∈ rest', p ∈ rest ∨ (p.1 ≠ l ∧ p.1 ≠ L + 1 + 1 + 1 + 1 ∧ p.1 ≠ L + 1 + 1 + 1 + 1 + 1 ∧ p.1 ≠ I)) →
      Fr h₀ env.locals h (fun z => if z = Str.ofString "winners" then u z else m₀ z) → News h₀ env.locals h ((I, oI) :: gameLed w L tb d l th nd og os ot oi oj vs nl rest') → Q .next { s with heap := h, toks := tk }) :
    wpAny (model prog w) A (exec (.For (.Name xn pk) iter body [] pos) env) Q E s := by
  refine For_rangeJ (h₀ := h₀) (n := n) (fun j m nw => ∃ oj vj vs nl rest', nw = gameLed w L tb d l th nd og os ot oi oj vs nl ((I, oI) :: rest') ∧ oj.data = .cell vj ∧ RowsIn rest' vs (rowsUpto x y D i j) ∧
    (∀ p ∈ rest, p ∈ rest') ∧ (∀ p ∈ rest', p ∈ rest ∨ (p.1 ≠ l ∧ p.1 ≠ L + 1 + 1 + 1 + 1 ∧ p.1 ≠ L + 1 + 1 + 1 + 1 + 1 ∧ p.1 ≠ I)) ∧ ∀ z, z ≠ Str.ofString "winners" → m z = m₀ z) hn hh hs (wpAny_mono hiter (fun xv s₁ h₁ => ?_) fun _ _ e => e) ?_ ?_
  · obtain ⟨r, b, t, u, v, h, tk, e1, e2, hR, e3, F, N⟩ := h₁
    refine ⟨r, b, t, u, v, h, tk, _, _, e1, e2, hR, e3, F, ?_, oj, vj, vs, nl, rest, rfl, hoj, hr, fun _ hp => hp, fun _ hp => .inl hp, fun z hz => by rw [if_neg hz]⟩
    refine cons_sub N fun p hp => ?_
    simp only [gameLed, List.mem_cons] at hp ⊢
    rcases hp with h | h | h | h | h | h | h | h | h | h <;> simp [h]
  · rintro j t I2 oI2 m nw h tkk E' hj ⟨oj, vj, vs, nl, rest', rfl, hoj, hr', hsub, hnew, hm⟩ hI2 F N
    obtain ⟨u, rfl⟩ := map_conv hm
    have ho : ∀ p ∈ rest', p.1 ≠ l ∧ p.1 ≠ L + 1 + 1 + 1 + 1 ∧ p.1 ≠ L + 1 + 1 + 1 + 1 + 1 ∧ p.1 ≠ I := fun p hp => (hnew p hp).elim (hof p) id
    have g : ∀ {q : Addr × Obj}, q ∈ gameLed w L tb d l th nd og os ot oi oj vs nl ((I, oI) :: rest') → I2 ≠ q.1 := fun hq e => hI2 _ hq e.symm
    refine wpAny_mono (turn j t I2 oI2 u oj vj vs nl rest' h tkk E' hj hoj hr' (fun p hp => (ho p hp).1) (fun p hp => (ho p hp).2.1) (fun p hp => (ho p hp).2.2.1) (fun p hp => (ho p hp).2.2.2)
      (fun p hp => hI2 p (by simp only [gameLed, List.mem_cons, hp, or_true])) ⟨g (q := (l, listOf vs.toArray nl)) (by k_mem), g (q := (tb, instObj 196 d)) (by k_mem), g (q := (d, dictOf [⟨PyData.keyHash w.params (Str.ofString "_headers"), .str (Str.ofString "_headers") th, .ref l⟩] nd)) (by k_mem),
        g (q := (_, oj)) (by k_mem), g (q := (_, oi)) (by k_mem), g (q := (_, ot)) (by k_mem), g (q := (_, os)) (by k_mem), g (q := (_, og)) (by k_mem), g (q := (I, oI)) (by k_mem)⟩ F N)
      (fun _ s₂ h₂ => wpAny_mono h₂ (fun f s₃ h₃ => ?_) fun _ _ e => e) fun _ _ e => e
    obtain ⟨rfl, h', tk', m', oj', vj', vs', nl', rest2, e, F', hm', N', hoj', hr2, hsub2, hnew2⟩ := h₃
    refine ⟨h', tk', m', _, e, F', N', ?_, oj', vj', vs', nl', rest2, rfl, hoj', hr2, fun p hp => hsub2 p (hsub p hp), fun p hp => ?_, hm'⟩
    · intro p hp
      simp only [gameLed, List.mem_cons] at hp
      rcases hp with h | h | h | h | h | h | h | h | h | h
      · rw [h]; exact hI2 (l, listOf vs.toArray nl) (by k_mem)
      · exact hI2 p (by first | (rw [h]; k_mem) | (simp only [gameLed, List.mem_cons, h, or_true]))
      · exact hI2 p (by first | (rw [h]; k_mem) | (simp only [gameLed, List.mem_cons, h, or_true]))
      · rw [h]; exact hI2 (L + 1 + 1 + 1 + 1 + 1, oj) (by k_mem)
      · exact hI2 p (by first | (rw [h]; k_mem) | (simp only [gameLed, List.mem_cons, h, or_true]))
      · exact hI2 p (by first | (rw [h]; k_mem) | (simp only [gameLed, List.mem_cons, h, or_true]))
      · exact hI2 p (by first | (rw [h]; k_mem) | (simp only [gameLed, List.mem_cons, h, or_true]))
      · exact hI2 p (by first | (rw [h]; k_mem) | (simp only [gameLed, List.mem_cons, h, or_true]))
      · exact hI2 p (by first | (rw [h]; k_mem) | (simp only [gameLed, List.mem_cons, h, or_true]))
      · rcases hnew2 p h with h | h
        · exact hI2 p (by first | (rw [h]; k_mem) | (simp only [gameLed, List.mem_cons, h, or_true]))
        · exact h.2.2.2.2
    · rcases hnew2 p hp with h | h
      · exact hnew p h
      · exact .inr ⟨h.1, h.2.1, h.2.2.1, h.2.2.2.1⟩
  · rintro h tk m nw ⟨oj, vj, vs, nl, rest', rfl, hoj, hr', hsub, hnew, hm⟩ F N
    obtain ⟨u, rfl⟩ := map_conv hm
    refine done h tk u oj vj vs nl rest' hoj hr' hsub hnew F (cons_sub N fun p hp => ?_)
    simp only [gameLed, List.mem_cons] at hp ⊢
    rcases hp with h | h | h | h | h | h | h | h | h | h <;> simp [h]
theorem For_gameI {x y : Str} {D : Nat → Nat → Str} {L tb d l : Addr} {th : Tok} {nd nl : Nat} {og os ot oi oj : Obj} {vi vj : Option Value} {m₀ : Str → Option Value} {vs : List Value} {rest : List (Addr × Obj)}
    {xn : Str} {pk pos : Pos} {iter : PySem.Expr} {body : List Stmt} {Q : Flow → Shared → Prop} {n : Nat}
    (F₀ : Fr h₀ env.locals s.heap m₀)
    (N₀ : News h₀ env.locals s.heap (gameLed w L tb d l th nd og os ot oi oj vs nl rest)) (hoi : oi.data = .cell vi) (hoj : oj.data = .cell vj)
    (hr : RowsIn rest vs (rowsUpto x y D 0 0)) (hof : ∀ p ∈ rest, p.1 ≠ l ∧ p.1 ≠ L + 1 + 1 + 1 + 1 ∧ p.1 ≠ L + 1 + 1 + 1 + 1 + 1)
    (hn : n ≤ 1000)
    (hh : A.handled = none) (hs : ∀ x, foldedSetIterable iter env x = pure x)
    (hiter : wpAny (model prog w) A (eval iter env) (fun xv s₁ => ∃ r b t u v h tk, xv = .ref r ∧ s₁ = { s with heap := h, toks := tk } ∧ IsRange h r 0 b 1 t u v ∧ b = (n : Int) ∧ Fr h₀ env.locals h m₀ ∧
      News h₀ env.locals h (gameLed w L tb d l th nd og os ot oi oj vs nl rest)) E s)
    (turn : ∀ (i : Nat) (t : Tok) I oI (u : Str → Option Value) oi vi oj vj vs nl rest h tkk (E' : Value → Shared → Prop), i < n → oi.data = .cell vi → oj.data = .cell vj → RowsIn rest vs (rowsUpto x y D i 0) →
      (∀ p ∈ rest, p.1 ≠ l) → (∀ p ∈ rest, p.1 ≠ L + 1 + 1 + 1 + 1) → (∀ p ∈ rest, p.1 ≠ L + 1 + 1 + 1 + 1 + 1) → (∀ p ∈ rest, p.1 ≠ I) →
      (@Ne Nat I l ∧ @Ne Nat I tb ∧ @Ne Nat I d ∧ @Ne Nat I (L + 1 + 1 + 1 + 1 + 1) ∧ @Ne Nat I (L + 1 + 1 + 1 + 1) ∧ @Ne Nat I (L + 1 + 1 + 1) ∧ @Ne Nat I (L + 1 + 1) ∧ @Ne Nat I (L + 1)) →
      Fr h₀ env.locals h (fun z => if z = Str.ofString "winners" then u z else m₀ z) → News h₀ env.locals h ((I, oI) :: gameLed w L tb d l th nd og os ot oi oj vs nl rest) →
      wpAny (model prog w) A (storeName env xn (.int (i : Int) t)) (fun _ s₂ => wpAny (model prog w) A (execs body env) (TurnH w x y D h₀ env.locals L tb d l th nd og os ot m₀ I oI rest i { s with heap := h, toks := tkk }) E' s₂) E' { s with heap := h, toks := tkk })
    (done : ∀ h tk (u : Str → Option Value) oi vi oj vj vs nl rest', oi.data = .cell vi → oj.data = .cell vj → RowsIn rest' vs (rowsUpto x y D n 0) → (∀ p ∈ rest, p ∈ rest') →
      Fr h₀ env.locals h (fun z => if z = Str.ofString "winners" then u z else m₀ z) → News h₀ env.locals h (gameLed w L tb d l th nd og os ot oi oj vs nl rest') → Q .next { s with heap := h, toks := tk }) :
    wpAny (model prog w) A (exec (.For (.Name xn pk) iter body [] pos) env) Q E s := by
  refine For_rangeJ (h₀ := h₀) (n := n) (fun i m nw => ∃ oi vi oj vj vs nl rest', nw = gameLed w L tb d l th nd og os ot oi oj vs nl rest' ∧ oi.data = .cell vi ∧ oj.data = .cell vj ∧ RowsIn rest' vs (rowsUpto x y D i 0) ∧
    (∀ p ∈ rest, p ∈ rest') ∧ (∀ p ∈ rest', p ∈ rest ∨ (p.1 ≠ l ∧ p.1 ≠ L + 1 + 1 + 1 + 1 ∧ p.1 ≠ L + 1 + 1 + 1 + 1 + 1)) ∧ ∀ z, z ≠ Str.ofString "winners" → m z = m₀ z) hn hh hs (wpAny_mono hiter (fun xv s₁ h₁ => ?_) fun _ _ e => e) ?_ ?_
  · obtain ⟨r, b, t, u, v, h, tk, e1, e2, hR, e3, F, N⟩ := h₁
    exact ⟨r, b, t, u, v, h, tk, _, _, e1, e2, hR, e3, F, N, oi, vi, oj, vj, vs, nl, rest, rfl, hoi, hoj, hr, fun _ hp => hp, fun _ hp => .inl hp, fun z hz => rfl⟩
  · rintro i t I2 oI2 m nw h tkk E' hj ⟨oi, vi, oj, vj, vs, nl, rest', rfl, hoi, hoj, hr', hsub, hnew, hm⟩ hI2 F N
    obtain ⟨u, rfl⟩ := map_conv hm
    have ho : ∀ p ∈ rest', p.1 ≠ l ∧ p.1 ≠ L + 1 + 1 + 1 + 1 ∧ p.1 ≠ L + 1 + 1 + 1 + 1 + 1 := fun p hp => (hnew p hp).elim (hof p) id
    have g : ∀ {q : Addr × Obj}, q ∈ gameLed w L tb d l th nd og os ot oi oj vs nl rest' → I2 ≠ q.1 := fun hq e => hI2 _ hq e.symm
    refine wpAny_mono (turn i t I2 oI2 u oi vi oj vj vs nl rest' h tkk E' hj hoi hoj hr' (fun p hp => (ho p hp).1) (fun p hp => (ho p hp).2.1) (fun p hp => (ho p hp).2.2)
      (fun p hp => hI2 p (by simp only [gameLed, List.mem_cons, hp, or_true])) ⟨g (q := (l, listOf vs.toArray nl)) (by k_mem), g (q := (tb, instObj 196 d)) (by k_mem), g (q := (d, dictOf [⟨PyData.keyHash w.params (Str.ofString "_headers"), .str (Str.ofString "_headers") th, .ref l⟩] nd)) (by k_mem),
        g (q := (_, oj)) (by k_mem), g (q := (_, oi)) (by k_mem), g (q := (_, ot)) (by k_mem), g (q := (_, os)) (by k_mem), g (q := (_, og)) (by k_mem)⟩ F N)
      (fun _ s₂ h₂ => wpAny_mono h₂ (fun f s₃ h₃ => ?_) fun _ _ e => e) fun _ _ e => e
    obtain ⟨rfl, h', tk', m', oi', vi', oj', vj', vs', nl', rest2, e, F', hm', N', hoi', hoj', hr2, hsub2, hnew2⟩ := h₃
    refine ⟨h', tk', m', _, e, F', N', ?_, oi', vi', oj', vj', vs', nl', rest2, rfl, hoi', hoj', hr2, fun p hp => hsub2 p (hsub p hp), fun p hp => ?_, hm'⟩
    · intro p hp
      simp only [gameLed, List.mem_cons] at hp
      rcases hp with h | h | h | h | h | h | h | h | h
      · rw [h]; exact hI2 (l, listOf vs.toArray nl) (by k_mem)
      · exact hI2 p (by first | (rw [h]; k_mem) | (simp only [gameLed, List.mem_cons, h, or_true]))
      · exact hI2 p (by first | (rw [h]; k_mem) | (simp only [gameLed, List.mem_cons, h, or_true]))
      · rw [h]; exact hI2 (L + 1 + 1 + 1 + 1 + 1, oj) (by k_mem)
      · rw [h]; exact hI2 (L + 1 + 1 + 1 + 1, oi) (by k_mem)
      · exact hI2 p (by first | (rw [h]; k_mem) | (simp only [gameLed, List.mem_cons, h, or_true]))
      · exact hI2 p (by first | (rw [h]; k_mem) | (simp only [gameLed, List.mem_cons, h, or_true]))
      · exact hI2 p (by first | (rw [h]; k_mem) | (simp only [gameLed, List.mem_cons, h, or_true]))
      · rcases hnew2 p h with h | h
        · exact hI2 p (by first | (rw [h]; k_mem) | (simp only [gameLed, List.mem_cons, h, or_true]))
        · exact h.2.2.2
    · rcases hnew2 p hp with h | h
      · exact hnew p h
      · exact .inr ⟨h.1, h.2.1, h.2.2.1⟩
  · rintro h tk m nw ⟨oi, vi, oj, vj, vs, nl, rest', rfl, hoi, hoj, hr', hsub, hnew, hm⟩ F N
    obtain ⟨u, rfl⟩ := map_conv hm
    exact done h tk u oi vi oj vj vs nl rest' hoi hoj hr' hsub F N
end
section
variable {prog : Program} {w : World} {A : Around} {E : Value → Shared → Prop} {s : Shared} {env : Env} {h₀ : Heap}
/-- a loop over an empty list of the ledger -/
theorem For_rowsE {xi xc : Str} {pk pv pt pos : Pos} {x1 : Nat} {iter : PySem.Expr} {body : List Stmt} {Q : Flow → Shared → Prop} {l : Addr} {nn : Nat} {news : List (Addr × Obj)} {m₀ : Str → Option Value}
    (F₀ : Fr h₀ env.locals s.heap m₀) (N₀ : News h₀ env.locals s.heap ((l, listOf #[] nn) :: news))
    (hh : A.handled = none) (hxi : env.kindOf xi = some .local) (hxc : env.kindOf xc = some .local)
    (hp : (env.scope.kind == .class || (env.scope.kind == .module && env.locals != env.globals)) = false)
    (hs : ∀ x, foldedSetIterable iter env x = pure x)
    (hiter : wpAny (model prog w) A (eval iter env) (fun xv s₁ => xv = .ref l ∧ ∃ h tk, s₁ = { s with heap := h, toks := tk } ∧ Fr h₀ env.locals h m₀ ∧ News h₀ env.locals h ((l, listOf #[] nn) :: news)) E s)
    (done : ∀ h tk (u : Str → Option Value), Fr h₀ env.locals h (fun y => if y = xc then u y else if y = xi then u y else m₀ y) → News h₀ env.locals h ((l, listOf #[] nn) :: news) → Q .next { s with heap := h, toks := tk }) :
    wpAny (model prog w) A (exec (.For (.Tuple [.Name xi pk, .Name xc pv] x1 pt) iter body [] pos) env) Q E s :=
  For_rowsF (vs := []) (rows := []) (nn := nn) (l := l) (news := (l, listOf #[] nn) :: news) (fun _ => True) F₀ List.mem_cons_self .nil hh hxi hxc hp hs hiter trivial
    (fun i k v tk tv I oI u h tkk E' hrow => by simp at hrow) fun h tk u _ F N => done h tk u F N
end
end Mine
end
section
open PySem PySem.W PyProof.Rows PySem.Calls
set_option Elab.async false
set_option maxRecDepth 100000
set_option linter.unusedVariables false
set_option linter.unusedSimpArgs false
namespace Mine
section
open LCg
variable {prog : Program} {w : World} {A : Around} {h₀ : Heap} {L : Addr} {m : Str → Option Value} {env : Env} {elt : PySem.Expr} {x : Str} {scope : Scope} {cl : List (Str × Addr)} {s : Shared} {S : List (Addr × Obj) → Prop} {Fin : List Value → List (Addr × Obj) → Prop} {news : List (Addr × Obj)}
/-- a comprehension over range(2), each element a text -/
theorem rest_two (y0 y1 : Str)
    (turn0 : ∀ t I oI C oC D m₂ ys h tkk (E' : Value → Shared → Prop), NsObj oC m₂ → m₂ x = some (.int 0 t) → Fr h₀ L h m → News h₀ L h ((I, oI) :: (C, oC) :: (D, lst ys) :: news) → Off3 I C D news → ((@Ne Nat I C) ∧ (@Ne Nat I D) ∧ (@Ne Nat C D)) →
      wpAny (model prog w) A (eval elt (compEnvC scope cl C env)) (CompEnd h₀ L m { s with heap := h, toks := tkk } I oI C oC D (lst ys) S (fun y news' => news' = news ∧ ∃ t, y = .str y0 t)) E' { s with heap := h, toks := tkk })
    (turn1 : ∀ t I oI C oC D m₂ ys h tkk (E' : Value → Shared → Prop), NsObj oC m₂ → m₂ x = some (.int 1 t) → Fr h₀ L h m → News h₀ L h ((I, oI) :: (C, oC) :: (D, lst ys) :: news) → Off3 I C D news → ((@Ne Nat I C) ∧ (@Ne Nat I D) ∧ (@Ne Nat C D)) →
      wpAny (model prog w) A (eval elt (compEnvC scope cl C env)) (CompEnd h₀ L m { s with heap := h, toks := tkk } I oI C oC D (lst ys) S (fun y news' => news' = news ∧ ∃ t, y = .str y1 t)) E' { s with heap := h, toks := tkk })
    (fin : ∀ t0 t1, Fin [.str y0 t0, .str y1 t1] news) :
    CompRest prog w A h₀ L m env elt x scope cl s S (fun i v => ∃ t, v = .int (0 + (i : Int)) t) Fin 2 0 [] news := by
  refine CompRest.succ ?_
  intro v I oI C oC D m₂ h tk E' hv hC hx F N off ne
  obtain ⟨t, rfl⟩ := hv
  refine wpAny_mono (turn0 t I oI C oC D m₂ _ h tk E' hC hx F N off ne) (fun y s₂ hq => ?_) fun _ _ e => e
  obtain ⟨h', tk', nw, e, F', N', off', hS, hn, t', hy'⟩ := hq
  subst nw
  refine ⟨h', tk', _, e, F', N', off', hS, ?_⟩
  subst hy'
  refine CompRest.succ ?_
  intro v I oI C oC D m₂ h tk E' hv hC hx F N off ne
  obtain ⟨t, rfl⟩ := hv
  refine wpAny_mono (turn1 t I oI C oC D m₂ _ h tk E' hC hx F N off ne) (fun y s₂ hq => ?_) fun _ _ e => e
  obtain ⟨h', tk', nw, e, F', N', off', hS, hn, t', hy'⟩ := hq
  subst nw
  refine ⟨h', tk', _, e, F', N', off', hS, ?_⟩
  subst hy'
  exact CompRest.zero (fin _ _)
end
section
variable {prog : Program} {w : World} {A : Around} {E : Value → Shared → Prop} {s : Shared} {Q : Value → Shared → Prop}
theorem join_S {D : Addr} {ys : List Value} {zs : List Str} {t : Tok} (hl : s.heap.IsList D ys.toArray) (hs : StrsAre ys zs) (h1 : ∀ a ∈ zs, a.length = 1) (hn : zs.length ≤ 1000)
    (h : ∀ t' k, (Txt.join (Str.ofString "") zs).length = zs.length → Q (.str (Txt.join (Str.ofString "") zs) t') { s with toks := k }) :
    wpAny (model prog w) A (call (.builtin "str.join") [.str (Str.ofString "") t, .ref D]) Q E s := by
  refine KT.join_1 (l := zs) (g := id) hl hs.carried (fun a ha => h1 a ha) (by omega) ?_
  intro t' k e
  rw [List.map_id] at e ⊢
  exact h t' k e
end
theorem win0P_len (x y : Str) (val : Str → Str) : (win0P x y val).length = 1 := by unfold win0P; split <;> decide +kernel
theorem win1P_len (x y : Str) (val : Str → Str) : (win1P x y val).length = 1 := by unfold win1P; split <;> decide +kernel
theorem turn1_len (x : Str) : (turn1 x).length = 1 := by unfold turn1; split <;> decide +kernel
theorem turn1_t {z : Str} (h : (z == Str.ofString "L") = true) : turn1 z = Str.ofString "R" := by unfold turn1; rw [if_pos h]
theorem turn1_f {z : Str} (h : (z == Str.ofString "L") = false) : turn1 z = Str.ofString "L" := by unfold turn1; rw [if_neg (by rw [h]; exact Bool.false_ne_true)]
theorem list_of_news {h₀ h : Heap} {L D : Addr} {news : List (Addr × Obj)} {ys : List Value} {n : Nat} (N : News h₀ L h news) (hm : (D, listOf ys.toArray n) ∈ news) : h.IsList D ys.toArray := ⟨_, (N _ hm).1, rfl, n, rfl⟩
set_option maxHeartbeats 1000000 in
theorem turnedL_c (w : World) (mean : ExcName → Option Value) (mg mb : Str → Option Value) (news : List (Addr × Obj)) (D : Addr) (ys : List Value) (zs : List Str) (n : Nat) (hD : (D, listOf ys.toArray n) ∈ news) (hs : StrsAre ys zs) (hn : zs.length ≤ 10) :
   PureC w mean mg mb 219 2 news [.ref D] (fun t => .str (Txt.join (Str.ofString "") (zs.map turn1)) t) := by
  w_top off; k_with_none
  k_with "k_mem" => (assumption)
  k_with "CompSrc" => ((refine hold ?_))
  unfold PureC; k_fill; intros; rename_i hret; dsimp only at hret
  refine wpAny_call ?_
  k_dflt cell_enter
  k_steps
  unfold Hold
  k_dflt (refine LCg.CompSrc.ledger (by rfl) (by k_asm) (by k_asm) hD (by rw [List.size_toArray, sizeLine_eq, strs_len hs]; omega) ?_)
  intro g9
  refine rest_strsU turn1 hs ?_ ?_
  · intro z t I oI C oC D m₂ ys h tkk E' hz hC' hx' F' N' off' ne'
    k_steps
    · exact ⟨_, _, _, rfl, by k_asm, by k_asm, off', .inr ⟨_, by k_mem, rfl, _, rfl⟩, rfl, _, by rw [turn1_t (by assumption)]⟩
    · exact ⟨_, _, _, rfl, by k_asm, by k_asm, off', .inr ⟨_, by k_mem, rfl, _, rfl⟩, rfl, _, by rw [turn1_f (by assumption)]⟩
  intro ys3 hys3 D3 h3 tk3 F' N' off3'
  k_steps
  refine join_S (ys := ys3) (zs := zs.map turn1) ?_ hys3 ?_ ?_ ?_
  · exact list_of_news N' List.mem_cons_self
  · intro a ha; obtain ⟨b, _, rfl⟩ := List.mem_map.1 ha; exact turn1_len _
  · rw [List.length_map]; omega
  intro t9 k9 e9
  k_steps
  all_goals (refine cb_retS hret ?_ (by k_asm) (by first | k_asm | (refine cb_drop (by assumption) (fun p hp => ?_); repeat (first | exact hp | apply List.mem_cons_of_mem))); rfl)
theorem words_off_RTwo : True := by k_with_none; exact trivial
end Mine
end
section
open PySem PySem.W PyProof.Rows PySem.Calls
set_option Elab.async false
set_option maxRecDepth 100000
set_option linter.unusedVariables false
set_option linter.unusedSimpArgs false
namespace Mine
theorem ownMembersOf_Stop : ownMembersOf (.type "StopIteration") [] = #[] := by
  unfold ownMembersOf
  split <;> first | rfl | (rename_i h; revert h; decide) | simp_all
/-- an iterator over the list l, at place k -/
noncomputable def IterOf (o : Obj) (l : Addr) (k : Nat) : Prop := o.cls = .type "list_iterator" ∧ o.data = .fields #[.ref l, .int (k : Int) 0]
section
variable {prog : Program} {w : World} {A : Around} {E : Value → Shared → Prop} {s : Shared} {h₀ : Heap} {L l it : Addr} {m : Str → Option Value} {news : List (Addr × Obj)} {g : Obj → List (Addr × Obj)} {io : Obj} {its : Array Value} {n k : Nat} {x : Value}
theorem iter_list {Q : Value → Shared → Prop} (F : Fr h₀ L s.heap m) (N : News h₀ L s.heap news) (hl : (l, listOf its n) ∈ news)
    (h : ∀ (I : Addr) h' oI, Fr h₀ L h' m → News h₀ L h' ((I, oI) :: news) → (∀ p ∈ news, p.1 < I) → IterOf oI l 0 → Q (.ref I) { s with heap := h' }) :
    wpAny (model prog w) A (call (.builtin "iter") [.ref l]) Q E s := by
  refine call_function_entry (by decide +kernel) (by decide +kernel) kdk_entry_iter (kdk_args_iter _) ?_
  unfold Builtin.«iter»
  refine wpAny_bind (m := someArgs "iter" 1 2 _) (wpAny_of_eq (a := [Value.ref l]) (by first | rfl | kernel_rfl!) ?_)
  show wpAny _ _ (pyIter (.ref l) >>= _) _ _ _
  refine wpAny_bind (wpAny_pyIter_list ⟨_, (N _ hl).1, rfl, n, rfl⟩ ?_)
  exact wpAny_pure ⟨_, rfl, h _ _ _ (F.push _) (News.push F N _ rfl) (fun q hq => Heap.lt_size (N q hq).1) ⟨rfl, rfl⟩⟩
theorem special_item {Q : Option Value → Shared → Prop} (hit : s.heap.IsListIter it l k) (hl : s.heap.IsList l its) (hx : its[k]? = some x)
    (hQ : ∀ h', h'.IsListIter it l (k + 1) → Heap.SameBut it s.heap h' → Q (some x) { s with heap := h' }) : wpAny (model prog w) A (callSpecial? (.ref it) (Str.ofString "__next__")) Q E s := by
  obtain ⟨o, ho, hc, hd⟩ := id hit
  obtain ⟨ol, hol, _, nl, hdl⟩ := hl
  refine wpAny_callSpecial?_slot (name := Str.ofString "__next__") hit.typeIs slot_listiter_next
    (wpAny_call_entry slot_listiter_next hit.typeIs entry_listiter_next ?_ (args_listiter_next _))
  show wpAny _ _ (field (.ref it) 0 >>= _) _ _ s
  refine wpAny_bind (wpAny_field ho hd (x := .ref l) rfl ?_)
  show wpAny _ _ (if (Value.ref l == Value.none) = true then _ else _) _ _ s
  rw [if_neg (show ¬ ((Value.ref l == Value.none) = true) from Bool.false_ne_true)]
  show wpAny _ _ (field (.ref it) 1 >>= _) _ _ s
  refine wpAny_bind (wpAny_field ho hd (x := .int k 0) rfl ?_)
  show wpAny _ _ (seqItems? (.ref l) >>= _) _ _ s
  refine wpAny_bind (wpAny_seqItems hol hdl ?_)
  simp only [Int.toNat_natCast, hx]
  refine wpAny_bind (wpAny_setField ho hd (by simp) (wpAny_pure ⟨x, rfl, hQ _ ?_ (Heap.SameBut.update ..)⟩))
  exact ⟨_, Heap.get?_update_self _ ho (Obj.isFreed_of_fields (Obj.data_mapFields hd _)), (Obj.cls_mapFields ..).trans hc, by
    rw [Obj.data_mapFields hd]; simp [rawInt]⟩
theorem special_end {Q : Option Value → Shared → Prop} (hh : A.handled = none) (hit : s.heap.IsListIter it l k) (hl : s.heap.IsList l its) (hx : its[k]? = none)
    (hE : ∀ h₁ h' e, Heap.SameBut it s.heap h₁ → (∃ o', h₁.get? it = some o') → Heap.NewExc h₁ h' e "StopIteration" → E (.ref e) { s with heap := h' }) : wpAny (model prog w) A (callSpecial? (.ref it) (Str.ofString "__next__")) Q E s := by
  obtain ⟨o, ho, hc, hd⟩ := id hit
  obtain ⟨ol, hol, _, nl, hdl⟩ := hl
  refine wpAny_callSpecial?_slot (name := Str.ofString "__next__") hit.typeIs slot_listiter_next
    (wpAny_call_entry slot_listiter_next hit.typeIs entry_listiter_next ?_ (args_listiter_next _))
  show wpAny _ _ (field (.ref it) 0 >>= _) _ _ s
  refine wpAny_bind (wpAny_field ho hd (x := .ref l) rfl ?_)
  show wpAny _ _ (if (Value.ref l == Value.none) = true then _ else _) _ _ s
  rw [if_neg (show ¬ ((Value.ref l == Value.none) = true) from Bool.false_ne_true)]
  show wpAny _ _ (field (.ref it) 1 >>= _) _ _ s
  refine wpAny_bind (wpAny_field ho hd (x := .int k 0) rfl ?_)
  show wpAny _ _ (seqItems? (.ref l) >>= _) _ _ s
  refine wpAny_bind (wpAny_seqItems hol hdl ?_)
  simp only [Int.toNat_natCast, hx]
  refine wpAny_bind (wpAny_rule (wpAny_bind (wpAny_setField ho hd (by simp) ?_)))
  show wpAny _ _ (newExc (.type "StopIteration") [] >>= _) _ _ _
  refine wpAny_bind ?_
  simp only [newExc, newTuple]
  refine wpAny_bind (wpAny_newObj_type ?_ (by size_fits))
  refine wpAny_bind (m := firstArgMember _ _) (wpAny_of_eq (a := Value.none) (by first | rfl | (simp only [firstArgMember]; rfl)) ?_)
  refine wpAny_newObj_type ?_ (by size_fits)
  simp only [raiseNew]
  refine wpAny_bind (wpAny_handled ?_)
  first | rw [show A.in1.handled = none from hh] | rw [hh]
  refine wpAny_bind (wpAny_pure (wpAny_throw ?_))
  refine hE (s.heap.update it (Obj.mapFields (·.setIfInBounds 0 Value.none))) _ _ (Heap.SameBut.update ..) ⟨_, Heap.get?_update_self _ ho (Obj.isFreed_of_fields (Obj.data_mapFields hd _))⟩ ?_
  exact ⟨fun b o hb => Heap.get?_push_of_some _ (Heap.get?_push_of_some _ hb), Heap.get?_none_of_le (by simp), _, .ref s.heap.objs.size, Heap.get?_push_size _ rfl, rfl, by simp [ownMembersOf_Stop]⟩
theorem next_list {Q : Value → Shared → Prop} (F : Fr h₀ L s.heap m) (N : News h₀ L s.heap news) (U : UpdF it io news g) (hi : IterOf io l k) (hp : (l, listOf its n) ∈ news) (hx : its[k]? = some x)
    (h : ∀ h' o', Fr h₀ L h' m → News h₀ L h' (g o') → IterOf o' l (k + 1) → Q x { s with heap := h' }) :
    wpAny (model prog w) A (call (.builtin "next") [.ref it]) Q E s := by
  obtain ⟨pre, post, hl, hg, a, b⟩ := U.split
  have hmem : (it, io) ∈ news := by rw [hl]; exact List.mem_append_right _ (.head _)
  have hm := N (it, io) hmem
  have hit : s.heap.IsListIter it l k := ⟨io, hm.1, hi.1, hi.2⟩
  refine call_function_entry (by decide +kernel) (by decide +kernel) kdk_entry_next (kdk_args_next _) ?_
  unfold Builtin.«next»
  refine wpAny_bind (m := someArgs "next" 1 2 _) (wpAny_of_eq (a := [Value.ref it]) (by first | rfl | kernel_rfl!) ?_)
  dsimp only
  refine wpAny_bind (wpAny_specialOf (name := Str.ofString "__next__") hit.typeIs slot_listiter_next.lookup ?_)
  refine wpAny_ite_split (fun hab => absurd hab (by decide)) (fun _ => ?_)
  refine wpAny_bind (special_item hit ⟨_, (N _ hp).1, rfl, n, rfl⟩ hx fun h' hit' hs => ?_)
  obtain ⟨o', ho', hc', hd'⟩ := hit'
  exact wpAny_pure ⟨_, rfl, h h' o' (F.change hs hm.2.1 hm.2.2) (hg o' ▸ (show News h₀ L s.heap (pre ++ (it, io) :: post) from hl ▸ N).setIn a b hs ho') ⟨hc', hd'⟩⟩
theorem next_over {Q : Value → Shared → Prop} (hh : A.handled = none) (F : Fr h₀ L s.heap m) (N : News h₀ L s.heap news) (U : UpdF it io news g) (hi : IterOf io l k) (hp : (l, listOf its n) ∈ news) (hx : its[k]? = none)
    (h : ∀ h₁ o' h' e, Fr h₀ L h₁ m → News h₀ L h₁ (g o') → Heap.NewExc h₁ h' e "StopIteration" → E (.ref e) { s with heap := h' }) :
    wpAny (model prog w) A (call (.builtin "next") [.ref it]) Q E s := by
  obtain ⟨pre, post, hl, hg, a, b⟩ := U.split
  have hmem : (it, io) ∈ news := by rw [hl]; exact List.mem_append_right _ (.head _)
  have hm := N (it, io) hmem
  have hit : s.heap.IsListIter it l k := ⟨io, hm.1, hi.1, hi.2⟩
  refine call_function_entry (by decide +kernel) (by decide +kernel) kdk_entry_next (kdk_args_next _) ?_
  unfold Builtin.«next»
  refine wpAny_bind (m := someArgs "next" 1 2 _) (wpAny_of_eq (a := [Value.ref it]) (by first | rfl | kernel_rfl!) ?_)
  dsimp only
  refine wpAny_bind (wpAny_specialOf (name := Str.ofString "__next__") hit.typeIs slot_listiter_next.lookup ?_)
  refine wpAny_ite_split (fun hab => absurd hab (by decide)) (fun _ => ?_)
  refine wpAny_bind (special_end (by exact hh) hit ⟨_, (N _ hp).1, rfl, n, rfl⟩ hx fun h₁ h' e hs ho' hx' => ?_)
  obtain ⟨o', ho'⟩ := ho'
  exact h h₁ o' h' e (F.change hs hm.2.1 hm.2.2) (hg o' ▸ (show News h₀ L s.heap (pre ++ (it, io) :: post) from hl ▸ N).setIn a b hs ho') hx'
end
section
variable {prog : Program} {w : World} {A : Around} {E : Value → Shared → Prop} {s : Shared} {h₀ : Heap} {L : Addr} {news : List (Addr × Obj)}
theorem item_lastP {value slice : PySem.Expr} {l : Addr} {its : Array Value} {v : Value} {u : Tok} {n : Nat} {Q : Value → Shared → Prop} (N : News h₀ L s.heap news) (hp : (l, listOf (its.push v) n) ∈ news) (h : Q v s)
    (hs : subscripted slice false (.ref l) (.int (-1) u) = operate [.ref l, .int (-1) u] (getItem (.ref l) (.int (-1) u)) := by with_unfolding_all rfl) :
    wpAny (model prog w) A (subscriptTail value slice (.ref l) (.int (-1) u)) Q E s := by
  have hl : s.heap.IsList l (its.push v) := ⟨_, (N _ hp).1, rfl, n, rfl⟩
  exact tail_any hl.typeIs slot_list_getitem.lookup (wpAny_getItem_list_neg hl (by decide) (by simp; omega) (by decide) (by
    have e : ((-1 : Int) + ((its.push v).size : Int)).toNat = its.size := by simp; omega
    rw [e]; simp) h) hs
end
theorem stop_isExc : isSubtype (.type "StopIteration") (.type "BaseException") = pure true := by rw [isSubtype_type]; kernel_rfl
theorem stop_notTuple : isSubtype (.type ((Manifest.find? "StopIteration").elim "type" fun x => x.metatype)) (.type "tuple") = pure false := by
  rw [show ((Manifest.find? "StopIteration").elim "type" fun x => x.metatype) = "type" from by kernel_rfl, isSubtype_type]; kernel_rfl
end Mine
end
section
open PySem PySem.W PyProof.Rows PySem.Calls
set_option Elab.async false
set_option maxRecDepth 100000
set_option linter.unusedVariables false
set_option linter.unusedSimpArgs false
namespace Mine
section
variable {prog : Program} {w : World} {A : Around} {E : Value → Shared → Prop} {s : Shared} {t u : Tok} {a b v r : Int} {Q : Value → Shared → Prop}
theorem and63 (h : Q (.int (a % 64) s.toks) { s with toks := s.toks + 1 }) : wpAny (model prog w) A (binaryOp .BitAnd (.int a t) (.int 63 u)) Q E s := by
  refine and_int ?_
  rw [bitAnd_m6]; exact h
theorem and64 {c : Int} (e : Builtin.bitAnd a 64 = c) (h : Q (.int c s.toks) { s with toks := s.toks + 1 }) : wpAny (model prog w) A (binaryOp .BitAnd (.int a t) (.int 64 u)) Q E s := by
  refine and_int ?_
  rw [e]; exact h
theorem shl6 (h0 : 0 ≤ v) (h1 : v < 2 ^ 40) (h : Q (.int (v * 64) s.toks) { s with toks := s.toks + 1 }) : wpAny (model prog w) A (inplaceOp .LShift (.int v t) (.int 6 u)) Q E s := by
  refine ilshift_int_small (by decide) (by decide) (by omega) ?_
  exact h
theorem and_low (v r : Nat) (h : r < 64) : (v * 64) &&& r = 0 := by
  apply Nat.eq_of_testBit_eq
  intro i
  rw [Nat.testBit_and, Nat.zero_testBit, show v * 64 = 2 ^ 6 * v from by omega, Nat.testBit_two_pow_mul]
  by_cases hi : 6 ≤ i
  · have : r.testBit i = false := Nat.testBit_lt_two_pow (Nat.lt_of_lt_of_le h (Nat.pow_le_pow_right (by decide) hi : 2 ^ 6 ≤ 2 ^ i))
    rw [this, Bool.and_false]
  · rw [decide_eq_false hi, Bool.false_and, Bool.false_and]
theorem or_low (v r : Nat) (h : r < 64) : Builtin.bitOr ((v * 64 : Nat) : Int) (r : Int) = ((v * 64 + r : Nat) : Int) := by
  rw [bitOr_and]
  have e : Builtin.bitAnd ((v * 64 : Nat) : Int) (r : Int) = (((v * 64) &&& r : Nat) : Int) := by
    unfold Builtin.bitAnd
    rw [decide_eq_true (Int.natCast_nonneg (v * 64)), decide_eq_true (Int.natCast_nonneg r)]
    rfl
  rw [e, and_low v r h]
  omega
theorem or6 (h0 : 0 ≤ v) (h : Q (.int (v * 64 + b % 64) s.toks) { s with toks := s.toks + 1 }) : wpAny (model prog w) A (inplaceOp .BitOr (.int (v * 64) t) (.int (b % 64) u)) Q E s := by
  refine ior_int ?_
  have e : Builtin.bitOr (v * 64) (b % 64) = v * 64 + b % 64 := by
    have h2 : 0 ≤ b % 64 := Int.emod_nonneg _ (by decide)
    have h3 : b % 64 < 64 := Int.emod_lt_of_pos _ (by decide)
    have e1 : ((v.toNat * 64 : Nat) : Int) = v * 64 := by omega
    have e2 : (((b % 64).toNat : Nat) : Int) = b % 64 := by omega
    have := or_low v.toNat (b % 64).toNat (by omega)
    rw [e1, e2] at this
    rw [this]; omega
  rw [e]; exact h
end
/-- a contract that changes one object, the object at the ledger's head, as a contract over any ledger -/
theorem CallC.upd {w : World} {mean : ExcName → Option Value} {mg mb : Str → Option Value} {f : Addr} {d : Nat} {news : List (Addr × Obj)} {g : Obj → List (Addr × Obj)} {it : Addr} {io : Obj} {vs : List Value} {kw : List (Str × Value)} {R : Value → Obj → Prop} (U : UpdF it io news g)
    (C : ∀ rest, (∀ p ∈ rest, p.1 ≠ it) → (∀ q ∈ news, @Ne Nat q.1 it → q ∈ rest) → CallC w mean mg mb f d ((it, io) :: rest) vs kw (fun v nw => ∃ io', nw = (it, io') :: rest ∧ R v io')) :
    CallC w mean mg mb f d news vs kw (fun v nw => ∃ io', nw = g io' ∧ R v io') := by
  obtain ⟨own, rest, rfl, hg, h1, h2⟩ := U.split
  intro dp un gd cn cs a ccd cl outer A₀ base h₀ L m s Q E B F X N T hk hd hu ret
  have N1 : News h₀ L s.heap ((it, io) :: (own ++ rest)) := cons_sub N fun p hp => by
    rcases List.mem_cons.mp hp with rfl | hp
    · exact List.mem_append_right _ (.head _)
    · rcases List.mem_append.mp hp with h | h
      · exact List.mem_append_left _ h
      · exact List.mem_append_right _ (.tail _ h)
  refine CallC.use (C (own ++ rest) (fun p hp => (List.mem_append.mp hp).elim (h1 p) (h2 p)) (fun q hq hn => ?_)) B F X N1 T hk hd hu fun v nw h' tk' hR F' N' => ?_
  · rcases List.mem_append.mp hq with h | h
    · exact List.mem_append_left _ h
    · rcases List.mem_cons.mp h with rfl | h
      · exact absurd rfl hn
      · exact List.mem_append_right _ h
  · obtain ⟨io', rfl, hR⟩ := hR
    refine ret v _ h' tk' ⟨io', rfl, hR⟩ F' ?_
    rw [hg]
    refine cons_sub N' fun p hp => ?_
    rcases List.mem_append.mp hp with h | h
    · exact .tail _ (List.mem_append_left _ h)
    · rcases List.mem_cons.mp h with rfl | h
      · exact .head _
      · exact .tail _ (List.mem_append_right _ h)
noncomputable def five (a b c d e : Int) : Int := (((a % 64 * 64 + b % 64) * 64 + c % 64) * 64 + d % 64) * 64 + e % 64
set_option maxHeartbeats 1000000 in
theorem var5_c0 (w : World) (mean : ExcName → Option Value) (mg mb : Str → Option Value) (news : List (Addr × Obj)) (it l : Addr) (io : Obj) (vs : List Value) (n k : Nat) (b1 b2 b3 b4 b5 : Int) (t1 t2 t3 t4 t5 : Tok)
    (hoff : ∀ p ∈ news, p.1 ≠ it) (hi : IterOf io l k) (hl : (l, listOf vs.toArray n) ∈ news)
    (x1 : vs.toArray[k]? = some (.int b1 t1)) (x2 : vs.toArray[k + 1]? = some (.int b2 t2)) (x3 : vs.toArray[k + 1 + 1]? = some (.int b3 t3)) (x4 : vs.toArray[k + 1 + 1 + 1]? = some (.int b4 t4)) (x5 : vs.toArray[k + 1 + 1 + 1 + 1]? = some (.int b5 t5))
    (y1 : Builtin.bitAnd b1 64 = 64) (y2 : Builtin.bitAnd b2 64 = 64) (y3 : Builtin.bitAnd b3 64 = 64) (y4 : Builtin.bitAnd b4 64 = 64) (y5 : Builtin.bitAnd b5 64 = 0) :
   CallC w mean mg mb 45 4 ((it, io) :: news) [.ref it] [] (fun v nw => ∃ io', nw = (it, io') :: news ∧ IterOf io' l (k + 1 + 1 + 1 + 1 + 1) ∧ ∃ t, v = .int (five b1 b2 b3 b4 b5) t) := by
  w_top off; k_with_none
  k_with "ktr_enter" => (first | (refine' code_def ?k1_w ?k2_w ?k3_w ?k4_w ?k5_w ?kA_w ?kF_w ?kK_w ?k6_w ?k7_w ?k8_w ?k9_w ?kB_w ?_ ?c2_w ?c3_w ?c4_w ?c5_w; (case kA_w => exact rfl); (case kF_w => exact rfl); (case kK_w => first | exact rfl | assumption); (case k1_w => k_asm); (case k2_w => k_asm); (case k3_w => k_asm); (case k4_w => k_asm); (case k5_w => k_asm); (case k6_w => k_is); (case k7_w => k_is); (case k8_w => ktr_room); (case k9_w => first | exact BindsTo.of_eq rfl | exact binds_K (by k_in) rfl (by k_is) rfl rfl rfl | (refine' kp_binds ?kx_w ?ke_w; (case kx_w => k_in); (case ke_w => exact fun _ => rfl))); (case c5_w => decide); (case kB_w => exact locs rfl); (case c2_w => exact rfl); (case c3_w => exact rfl); (case c4_w => exact rfl); k_whole; intro g'_w L'_w h'_w FG'_w F'_w N'_w B'_w X'_w T'_w; (try dsimp only); (try k_lift B'_w); (try k_fold)) | (refine' code_defC ?k1_w ?k2_w ?k3_w ?k4_w ?k5_w ?kA_w ?kF_w ?kK_w ?k6_w ?k7_w ?k8_w ?k9_w ?kB_w ?kD_w ?_ ?c2_w ?c3_w ?c4_w; (case kA_w => exact rfl); (case kF_w => exact rfl); (case kK_w => first | exact rfl | assumption); (case k1_w => k_asm); (case k2_w => k_asm); (case k3_w => k_asm); (case k4_w => k_asm); (case k5_w => k_asm); (case k6_w => k_is); (case k7_w => k_is); (case k8_w => ktr_room); (case k9_w => first | exact BindsTo.of_eq rfl | exact binds_K (by k_in) rfl (by k_is) rfl rfl rfl | (refine' kp_binds ?kx_w ?ke_w; (case kx_w => k_in); (case ke_w => exact fun _ => rfl))); (case kB_w => exact rfl); (case kD_w => decide +kernel); (case c2_w => exact rfl); (case c3_w => exact rfl); (case c4_w => exact rfl); k_whole; intro g'_w L'_w h'_w tk'_w cells'_w FG'_w F'_w N'_w Y'_w B'_w X'_w T'_w l1_w; (have hcell9_w := offFrom_of l1_w); (try k_lt l1_w); k_cells Y'_w; (try simp only [List.cons_append, List.nil_append] at N'_w); (try dsimp only); (try k_lift B'_w); (try k_fold)))
  k_with "k_room" => (ktr_room)
  k_with "k_mem" => (assumption)
  k_with "k_all" => (assumption)
  k_with "k_all" => (((with_reducible rename OffFrom _ _ => hc9_w); exact offFrom_ne hc9_w (by omega)))
  k_with "call builtin:next" => ((k_here; (with_reducible show wpAny _ _ (call (Value.builtin "next") [Value.ref _]) _ _ _); k_dflt (refine' next_list ?F_w ?N_w ?U_w ?i_w ?p_w ?x_w ?_; (case F_w => k_asm); (case N_w => k_asm); (case U_w => k_updF); (case i_w => with_reducible assumption); (case p_w => k_mem); (case x_w => with_reducible assumption); k_whole); intro h'_w o'_w F'_w N'_w hi'_w; (try dsimp only at N'_w)))
  k_with "exec" => ((k_here; (with_reducible show wpAny _ _ (exec (Stmt.While _ _ _ _) _) _ _ _); k_dflt (refine whl_start 100 ?_)))
  k_with "binaryOp BitAnd int int" => ((k_here; first | refine and63 ?_ | refine and64 (by with_reducible assumption) ?_))
  k_with "inplaceOp LShift int int" => ((k_here; refine shl6 (by omega) (by omega) ?_))
  k_with "inplaceOp BitOr int int" => ((k_here; refine or6 (by omega) ?_))
  unfold CallC; k_fill; intros; rename_i hret
  refine wpAny_call ?_
  k_dflt ktr_enter
  k_steps
  exact hret _ _ _ _ ⟨_, rfl, by with_reducible assumption, _, rfl⟩ (by k_asm) (by k_asm)
set_option maxHeartbeats 1000000 in
theorem var1_c0 (w : World) (mean : ExcName → Option Value) (mg mb : Str → Option Value) (news : List (Addr × Obj)) (it l : Addr) (io : Obj) (vs : List Value) (n k : Nat) (b1 : Int) (t1 : Tok)
    (hoff : ∀ p ∈ news, p.1 ≠ it) (hi : IterOf io l k) (hl : (l, listOf vs.toArray n) ∈ news)
    (x1 : vs.toArray[k]? = some (.int b1 t1)) (y1 : Builtin.bitAnd b1 64 = 0) :
   CallC w mean mg mb 45 4 ((it, io) :: news) [.ref it] [] (fun v nw => ∃ io', nw = (it, io') :: news ∧ IterOf io' l (k + 1) ∧ ∃ t, v = .int (b1 % 64) t) := by
  w_top off; k_with_none
  k_with "ktr_enter" => (first | (refine' code_def ?k1_w ?k2_w ?k3_w ?k4_w ?k5_w ?kA_w ?kF_w ?kK_w ?k6_w ?k7_w ?k8_w ?k9_w ?kB_w ?_ ?c2_w ?c3_w ?c4_w ?c5_w; (case kA_w => exact rfl); (case kF_w => exact rfl); (case kK_w => first | exact rfl | assumption); (case k1_w => k_asm); (case k2_w => k_asm); (case k3_w => k_asm); (case k4_w => k_asm); (case k5_w => k_asm); (case k6_w => k_is); (case k7_w => k_is); (case k8_w => ktr_room); (case k9_w => first | exact BindsTo.of_eq rfl | exact binds_K (by k_in) rfl (by k_is) rfl rfl rfl | (refine' kp_binds ?kx_w ?ke_w; (case kx_w => k_in); (case ke_w => exact fun _ => rfl))); (case c5_w => decide); (case kB_w => exact locs rfl); (case c2_w => exact rfl); (case c3_w => exact rfl); (case c4_w => exact rfl); k_whole; intro g'_w L'_w h'_w FG'_w F'_w N'_w B'_w X'_w T'_w; (try dsimp only); (try k_lift B'_w); (try k_fold)) | (refine' code_defC ?k1_w ?k2_w ?k3_w ?k4_w ?k5_w ?kA_w ?kF_w ?kK_w ?k6_w ?k7_w ?k8_w ?k9_w ?kB_w ?kD_w ?_ ?c2_w ?c3_w ?c4_w; (case kA_w => exact rfl); (case kF_w => exact rfl); (case kK_w => first | exact rfl | assumption); (case k1_w => k_asm); (case k2_w => k_asm); (case k3_w => k_asm); (case k4_w => k_asm); (case k5_w => k_asm); (case k6_w => k_is); (case k7_w => k_is); (case k8_w => ktr_room); (case k9_w => first | exact BindsTo.of_eq rfl | exact binds_K (by k_in) rfl (by k_is) rfl rfl rfl | (refine' kp_binds ?kx_w ?ke_w; (case kx_w => k_in); (case ke_w => exact fun _ => rfl))); (case kB_w => exact rfl); (case kD_w => decide +kernel); (case c2_w => exact rfl); (case c3_w => exact rfl); (case c4_w => exact rfl); k_whole; intro g'_w L'_w h'_w tk'_w cells'_w FG'_w F'_w N'_w Y'_w B'_w X'_w T'_w l1_w; (have hcell9_w := offFrom_of l1_w); (try k_lt l1_w); k_cells Y'_w; (try simp only [List.cons_append, List.nil_append] at N'_w); (try dsimp only); (try k_lift B'_w); (try k_fold)))
  k_with "k_room" => (ktr_room)
  k_with "k_mem" => (assumption)
  k_with "k_all" => (assumption)
  k_with "k_all" => (((with_reducible rename OffFrom _ _ => hc9_w); exact offFrom_ne hc9_w (by omega)))
  k_with "call builtin:next" => ((k_here; (with_reducible show wpAny _ _ (call (Value.builtin "next") [Value.ref _]) _ _ _); k_dflt (refine' next_list ?F_w ?N_w ?U_w ?i_w ?p_w ?x_w ?_; (case F_w => k_asm); (case N_w => k_asm); (case U_w => k_updF); (case i_w => with_reducible assumption); (case p_w => k_mem); (case x_w => with_reducible assumption); k_whole); intro h'_w o'_w F'_w N'_w hi'_w; (try dsimp only at N'_w)))
  k_with "exec" => ((k_here; (with_reducible show wpAny _ _ (exec (Stmt.While _ _ _ _) _) _ _ _); k_dflt (refine whl_start 100 ?_)))
  k_with "binaryOp BitAnd int int" => ((k_here; first | refine and63 ?_ | refine and64 (by with_reducible assumption) ?_))
  k_with "inplaceOp LShift int int" => ((k_here; refine shl6 (by omega) (by omega) ?_))
  k_with "inplaceOp BitOr int int" => ((k_here; refine or6 (by omega) ?_))
  unfold CallC; k_fill; intros; rename_i hret
  refine wpAny_call ?_
  k_dflt ktr_enter
  k_steps
  exact hret _ _ _ _ ⟨_, rfl, by with_reducible assumption, _, rfl⟩ (by k_asm) (by k_asm)
theorem var5_c (w : World) (mean : ExcName → Option Value) (mg mb : Str → Option Value) (news : List (Addr × Obj)) (g : Obj → List (Addr × Obj)) (it l : Addr) (io : Obj) (vs : List Value) (n k : Nat) (b1 b2 b3 b4 b5 : Int) (t1 t2 t3 t4 t5 : Tok)
    (U : UpdF it io news g) (hi : IterOf io l k) (hl : (l, listOf vs.toArray n) ∈ news) (hne : @Ne Nat l it)
    (x1 : vs.toArray[k]? = some (.int b1 t1)) (x2 : vs.toArray[k + 1]? = some (.int b2 t2)) (x3 : vs.toArray[k + 1 + 1]? = some (.int b3 t3)) (x4 : vs.toArray[k + 1 + 1 + 1]? = some (.int b4 t4)) (x5 : vs.toArray[k + 1 + 1 + 1 + 1]? = some (.int b5 t5))
    (y1 : Builtin.bitAnd b1 64 = 64) (y2 : Builtin.bitAnd b2 64 = 64) (y3 : Builtin.bitAnd b3 64 = 64) (y4 : Builtin.bitAnd b4 64 = 64) (y5 : Builtin.bitAnd b5 64 = 0) :
   CallC w mean mg mb 45 4 news [.ref it] [] (fun v nw => ∃ io', nw = g io' ∧ (IterOf io' l (k + 1 + 1 + 1 + 1 + 1) ∧ ∃ t, v = .int (five b1 b2 b3 b4 b5) t)) :=
  CallC.upd U fun rest h1 h2 => var5_c0 w mean mg mb rest it l io vs n k b1 b2 b3 b4 b5 t1 t2 t3 t4 t5 h1 hi (h2 _ hl hne) x1 x2 x3 x4 x5 y1 y2 y3 y4 y5
theorem var1_c (w : World) (mean : ExcName → Option Value) (mg mb : Str → Option Value) (news : List (Addr × Obj)) (g : Obj → List (Addr × Obj)) (it l : Addr) (io : Obj) (vs : List Value) (n k : Nat) (b1 : Int) (t1 : Tok)
    (U : UpdF it io news g) (hi : IterOf io l k) (hl : (l, listOf vs.toArray n) ∈ news) (hne : @Ne Nat l it)
    (x1 : vs.toArray[k]? = some (.int b1 t1)) (y1 : Builtin.bitAnd b1 64 = 0) :
   CallC w mean mg mb 45 4 news [.ref it] [] (fun v nw => ∃ io', nw = g io' ∧ (IterOf io' l (k + 1) ∧ ∃ t, v = .int (b1 % 64) t)) :=
  CallC.upd U fun rest h1 h2 => var1_c0 w mean mg mb rest it l io vs n k b1 t1 h1 hi (h2 _ hl hne) x1 y1
theorem words_off_RVar : True := by k_with_none; exact trivial
end Mine
end
section
open PySem PySem.W PyProof.Rows PySem.Calls
set_option Elab.async false
set_option maxRecDepth 100000
set_option linter.unusedVariables false
set_option linter.unusedSimpArgs false
namespace Mine
section
variable {prog : Program} {w : World} {A₀ A : Around} {s : Shared} {base h₀ : Heap} {L a : Addr} {m : Str → Option Value} {news : List (Addr × Obj)} {K : Frag} {p : Program} {loose : List Str} {mean : ExcName → Option Value} {mg mb : Str → Option Value} {env : Env}
  {R : Result → Shared → Prop} {name qual : Str} {params : Arguments} {body : List Stmt} {scope : Scope} {dV kV doc pm cdv ct oc : Value} {an od : Option Addr} {osl : Array (Option Value)} {f : Addr} {args : Args} {binds : List (Str × Value)}
theorem mem_one (hf : env.frame = some L) {b : Addr} (hb : b ∈ [env].filterMap (·.frame)) : b = L := by
  simpa [hf] using hb
/-- a def that catches, called from the outermost frame (with cells or without) -/
theorem code_defX0 (B : Below A₀ base [] h₀) (F : Fr h₀ L s.heap m) (X₀ : K.In h₀) (N : News h₀ L s.heap news) (T : Top p loose mean mg mb h₀) (hA : A.frames = some [env]) (hf : env.frame = some L) (hke : env.scope.kind = .function)
    (ho : K.lookup f = some ⟨oc, od, .func (fnOf name qual params body scope dV kV doc pm an cdv ct), osl⟩) (hcd : codeIn K cdv qual = true) (hroom : A.depth < recursionLimit)
    (hbind : BindsTo s (fnOf name qual params body scope dV kV doc pm an cdv ct) args binds) (hloc : ∀ y ∈ binds, scope.names.lookup y.1 = some .local)
    (h : ∀ g L' h₁, Fr h₀ L g m → Fr g L' h₁ (fun y => binds.reverse.lookup y) → News g L' h₁ news → Below A base [env] g → K.In g → Top p loose mean mg mb g → KtsDicts ([env].filterMap (·.frame)) g →
      wpAny (model prog w) (A.deeper (envOf qual scope L' f cdv)) (execs body (envOf qual scope L' f cdv))
        (fun fl s' => LeaveS0 ([env].filterMap (·.frame)) h₀ L m g R (match fl with | .ret v => v | _ => .none) s')
        (fun e s' => wpAny (model prog w) (A.deeper (envOf qual scope L' f cdv)) (leaving (envOf qual scope L' f cdv) e) (fun _ s'' => R (.error e) s'') (fun e' s'' => R (.error e') s'') s')
        { s with heap := h₁, toks := s.toks + binds.length })
    (hco : scope.isCoroutine = false) (hgen : scope.isGenerator = false) (hk : scope.kind = .function)
    (hcell : ∀ x ∈ scope.names, x.2 ≠ .cell) : codeAny (model prog w) A (.call (.ref f) args) R s := by
  have X := X₀.keeps F.keep
  refine codeAny_call_def (fd := fnOf name qual params body scope dV kV doc pm an cdv ct) (body := body) (binds := binds) hroom (X _ _ ho) rfl (T.nolimit.keeps F.keep) (codeRec_of X hcd) rfl hbind hcell hloc (fun h₁ hns hk₁ => ?_) hco hgen hk
  have nm : ∀ b o, h₀.get? b = some o → b ∉ news.map (·.1) := fun b o e q => by
    obtain ⟨p, hp, rfl⟩ := List.mem_map.mp q
    rw [(N p hp).2.2] at e; cases e
  have st : h₀.StaysIn (hideAll s.heap (news.map (·.1))) := fun b o e => hideAll_get _ (F.keep b o e) (nm b o e)
  obtain ⟨oL, es, ep, hL, hLd, hLk, hLf⟩ := id F.ns
  have nL : L ∉ news.map (·.1) := fun q => by
    obtain ⟨p, hp, e⟩ := List.mem_map.mp q
    exact (N p hp).2.1 e
  have hLg := hideAll_get (news.map (·.1)) hL nL
  have hN : ∀ (sl : Array (Option Value)) h', h'.get? L = some { oL with slots := sl } → Heap.Ns h' L m := fun sl h' e => ⟨_, es, ep, e, hLd, hLk, hLf⟩
  have nL₀ : h₀.get? L = none := kts_self F
  have hnew : base.get? L = none := by
    cases hq : base.get? L with
    | none => rfl
    | some o => have := B.stays L o hq; rw [nL₀] at this; cases this
  have fr0 : s.heap.FunFrames base [env] := .cons (by rw [hke]; decide) hf F.ns hnew trivial
  have B₂ : Below A base [env] (hideAll s.heap (news.map (·.1))) := ⟨hA, fun b o e => st b o (B.stays b o e), funFrames_hideAll fr0 fun e he b hb hfe => by
    cases he with
    | head => rw [hf] at hfe; exact nL (Option.some.inj hfe ▸ hb)
    | tail _ he => cases he⟩
  refine wpAny_mono (h _ s.heap.objs.size h₁ ⟨hN oL.slots _ hLg, st, F.above⟩ ⟨hns, fun b o e => hk₁ b o (of_hideAll _ e), Nat.le_of_eq (hideAll_size _ _)⟩
    (fun p hp => ⟨hk₁ _ _ (N p hp).1, Nat.ne_of_lt (Heap.lt_size (N p hp).1), hideAll_none _ (List.mem_map_of_mem hp)⟩) B₂ (X₀.keeps st) (T.keeps st) (fun b hb => by
      rw [mem_one hf hb]; exact ⟨oL, es, ep, hLg, hLd⟩)) (fun fl s' hl => ?_) fun _ _ y => y
  obtain ⟨g', L', m', news', T', F', N', k⟩ := hl
  obtain ⟨sl, hs⟩ := T'.up hLg
  refine k ⟨hN sl _ (F'.keep _ _ hs), fun b o e => F'.keep b o (T'.other b o (st b o e) (fun q => by
    rw [mem_one hf q, nL₀] at e
    cases e)), F.above⟩ fun p hp => ⟨(N' p hp).1, fun q => ?_, ?_⟩
  · have := (N' p hp).2.2; rw [q, hs] at this; cases this
  · cases q : h₀.get? p.1 with
    | none => rfl
    | some o =>
      obtain ⟨sl', hs'⟩ := T'.up (st _ _ q)
      have := (N' p hp).2.2
      rw [hs'] at this; cases this
end
/-- a call from the outermost frame -/
noncomputable abbrev CallS (w : World) (mean : ExcName → Option Value) (mg mb : Str → Option Value) (f : Addr) (d : Nat) (news : List (Addr × Obj)) (vs : List Value) (kw : List (Str × Value)) (R : Value → List (Addr × Obj) → Prop) : Prop :=
  ∀ (dp un : Nat) (gd : Option (List Code)) (cn : Str) (cs : Scope) (a : Addr) (ccd : Value) (cl : List (Str × Addr)) (A₀ : Around) (h₀ : Heap) (L : Addr) (m : Str → Option Value) (s : Shared) (Q E : Value → Shared → Prop),
    Below A₀ h₀ [] h₀ → Fr h₀ L s.heap m → (Mine.hd.heap_39 w.params).In h₀ → News h₀ L s.heap news → Top Mine.hd.view_39 (looseW Mine.hd.view_39 [Str.ofString "tspecials", Str.ofString "_name_disallowed_re", Str.ofString "_value_disallowed_re", Str.ofString "_formatparam"]) mean mg mb h₀ → cs.kind = .function →
    dp + d < recursionLimit → un + 8 * d < cLine →
    (∀ (v : Value) (nw : List (Addr × Obj)) (h' : Heap) (tk' : Nat), R v nw → Fr h₀ L h' m → News h₀ L h' nw → Q v { s with heap := h', toks := tk' }) →
      wpAny (model PySem.Challenge.rw_rl0085_01.row.toRowW.prog w) (ktrTop dp un gd cn cs L a ccd cl []) (call (.ref f) vs kw) Q E s
theorem CallS.use {w : World} {mean : ExcName → Option Value} {mg mb : Str → Option Value} {f : Addr} {d : Nat} {news : List (Addr × Obj)} {vs : List Value} {kw : List (Str × Value)} {R : Value → List (Addr × Obj) → Prop} (C : CallS w mean mg mb f d news vs kw R)
    {dp un : Nat} {gd : Option (List Code)} {cn : Str} {cs : Scope} {a : Addr} {ccd : Value} {cl : List (Str × Addr)} {A₀ : Around} {h₀ : Heap} {L : Addr} {m : Str → Option Value} {s : Shared} {Q E : Value → Shared → Prop}
    (B : Below A₀ h₀ [] h₀) (F : Fr h₀ L s.heap m) (X : (Mine.hd.heap_39 w.params).In h₀) (N : News h₀ L s.heap news) (T : Top Mine.hd.view_39 (looseW Mine.hd.view_39 [Str.ofString "tspecials", Str.ofString "_name_disallowed_re", Str.ofString "_value_disallowed_re", Str.ofString "_formatparam"]) mean mg mb h₀) (hk : cs.kind = .function)
    (hd : dp + d < recursionLimit) (hu : un + 8 * d < cLine)
    (ret : ∀ (v : Value) (nw : List (Addr × Obj)) (h' : Heap) (tk' : Nat), R v nw → Fr h₀ L h' m → News h₀ L h' nw → Q v { s with heap := h', toks := tk' }) :
    wpAny (model PySem.Challenge.rw_rl0085_01.row.toRowW.prog w) (ktrTop dp un gd cn cs L a ccd cl []) (call (.ref f) vs kw) Q E s := C _ _ _ _ _ _ _ _ _ _ _ _ _ _ _ B F X N T hk hd hu ret
end Mine
end
section
open PySem PySem.W PyProof.Rows PySem.Calls
set_option Elab.async false
set_option maxRecDepth 100000
set_option linter.unusedVariables false
set_option linter.unusedSimpArgs false
namespace Mine
/-- as TurnJ, where the ground may change -/
noncomputable def TurnS (fs : List Addr) (g₀ : Heap) (L I : Addr) (oI : Obj) (J : Heap → (Str → Option Value) → List (Addr × Obj) → Prop) (s : Shared) (Q : Flow → Shared → Prop) (f : Flow) (s₂ : Shared) : Prop := match f with
  | .next => ∃ g h tk m nw, s₂ = { s with heap := h, toks := tk } ∧ KtsTurn fs g₀ g ∧ Fr g L h m ∧ News g L h ((I, oI) :: nw) ∧ (∀ p ∈ nw, p.1 ≠ I) ∧ J g m nw
  | .cont => ∃ g h tk m nw, s₂ = { s with heap := h, toks := tk } ∧ KtsTurn fs g₀ g ∧ Fr g L h m ∧ News g L h ((I, oI) :: nw) ∧ (∀ p ∈ nw, p.1 ≠ I) ∧ J g m nw
  | .brk => False
  | .ret v => Q (.ret v) s₂
section
variable {prog : Program} {w : World} {A : Around} {E : Value → Shared → Prop} {s : Shared} {env : Env}
theorem For_rangeS {x : Str} {pk pos : Pos} {iter : PySem.Expr} {body : List Stmt} {Q : Flow → Shared → Prop} {n : Nat}
    (fs : List Addr) (g₀ : Heap) (J : Nat → Heap → (Str → Option Value) → List (Addr × Obj) → Prop) (hn : n ≤ 1000)
    (hh : A.handled = none) (hs : ∀ x, foldedSetIterable iter env x = pure x)
    (hiter : wpAny (model prog w) A (eval iter env) (fun xv s₁ => ∃ r b t u v h tk m nw, xv = .ref r ∧ s₁ = { s with heap := h, toks := tk } ∧ IsRange h r 0 b 1 t u v ∧ b = (n : Int) ∧ Fr g₀ env.locals h m ∧ News g₀ env.locals h nw ∧ J 0 g₀ m nw) E s)
    (turn : ∀ (i : Nat) (t : Tok) I oI g m nw h tkk (E' : Value → Shared → Prop), i < n → KtsTurn fs g₀ g → J i g m nw → (∀ p ∈ nw, p.1 ≠ I) → Fr g env.locals h m → News g env.locals h ((I, oI) :: nw) →
      wpAny (model prog w) A (storeName env x (.int (i : Int) t)) (fun _ s₂ => wpAny (model prog w) A (execs body env) (TurnS fs g₀ env.locals I oI (J (i + 1)) { s with heap := h, toks := tkk } Q) E' s₂) E' { s with heap := h, toks := tkk })
    (done : ∀ g h tk m nw, KtsTurn fs g₀ g → J n g m nw → Fr g env.locals h m → News g env.locals h nw → Q .next { s with heap := h, toks := tk }) :
    wpAny (model prog w) A (exec (.For (.Name x pk) iter body [] pos) env) Q E s := by
  refine wpAny_For (wpAny_mono hiter (fun xv s₁ h₁ => ?_) fun _ _ e => e) hs
  obtain ⟨r, b, t, u, v, H, tk, m, nw, rfl, rfl, hr, rfl, F, N, h0⟩ := h₁
  refine wpAny_pyIter_range hr (small_one (by omega) (by omega) (by omega) (by omega)) ?_
  dsimp only
  generalize hI : H.objs.size = I
  have hIL : env.locals ≠ I := hI ▸ Nat.ne_of_lt F.ns.lt
  have hIn : ∀ p ∈ nw, p.1 ≠ I := fun p hp => hI ▸ Nat.ne_of_lt (Heap.lt_size (N p hp).1)
  have hIg : g₀.get? I = none := hI ▸ next_is_new F
  have hsz : Builtin.Range.rangeSize 0 (n : Int) 1 = (n : Int) := by rw [rangeSize_nat]; omega
  rw [hsz]
  refine codeAny_forLoop_any
    (fun k s' => ∃ (h₀ h' : Heap) (tk' : Nat) (m' : Str → Option Value) (nw' : List (Addr × Obj)) (i : Nat), s' = { s with heap := h', toks := tk' } ∧ KtsTurn fs g₀ h₀ ∧ IsRangeIter h' I (i : Int) ((n : Int) - (i : Int)) 1 ∧ Fr h₀ env.locals h' m' ∧ News h₀ env.locals h' nw' ∧ (∀ p ∈ nw', p.1 ≠ I) ∧ J i h₀ m' nw' ∧ i ≤ n ∧ k = n + 1 - i) ?_ (n + 1)
    ⟨g₀, _, tk, m, nw, 0, rfl, KtsTurn.refl, by rw [← hI]; simpa using Heap.get?_push_size _ rfl, F.push _, N.grown (fun _ _ e => Heap.get?_push_of_some _ e), hIn, h0, Nat.zero_le _, rfl⟩
  rintro k s' ⟨h₀, h', tk', m', nw', i, rfl, hT, hit, F', N', hIn', hJ, hi, rfl⟩
  have hI0 : h₀.get? I = none := hT.none_ I hIg
  by_cases hlt : i < n
  · refine wpAny_pyNext_range_item hit (by omega) fun h₁ hit₁ hs₁ => ?_
    have hnt : ∀ {Q : Unit → Shared → Prop} {E : Value → Shared → Prop} {s : Shared} {v : Value}, Q () s → wpAny (model prog w) A (letOwnedTupleGo (.Name x pk) (.ref I) v) Q E s := fun h => wpAny_pure h
    refine hnt ?_
    have up₁ : ∀ b o, b ≠ I → h'.get? b = some o → h₁.get? b = some o := fun b o hb e => hs₁.extBut b o hb e
    have F₁ : Fr h₀ env.locals h₁ m' := ⟨F'.ns.at' fun o e => up₁ _ o hIL e, fun b o e => up₁ b o (fun q => by rw [q, hI0] at e; cases e) (F'.keep b o e), F'.above⟩
    have N₁ : News h₀ env.locals h₁ nw' := fun p hp => ⟨up₁ _ _ (hIn' p hp) (N' p hp).1, (N' p hp).2⟩
    generalize hoI : ({ cls := .type "range_iterator", dict := none, data := .fields #[rawInt ((i : Int) + 1), rawInt ((n : Int) - (i : Int) - 1), rawInt 1], slots := #[] } : Obj) = oI
    have hg₁ : h₁.get? I = some oI := by rw [← hoI]; exact hit₁
    have NI : News h₀ env.locals h₁ ((I, oI) :: nw') := fun p hp => by
      rcases List.mem_cons.mp hp with rfl | hp
      · exact ⟨hg₁, Ne.symm hIL, hI0⟩
      · exact N₁ p hp
    refine wpAny_assign_Name ?_
    refine wpAny_mono (turn i _ I oI h₀ m' nw' h₁ _ _ hlt hT hJ hIn' F₁ NI) (fun _ s₂ h₂ => wpAny_mono h₂ (fun f s₃ h₆ => ?_) fun _ _ e => e) fun _ _ e => e
    have fin : ∀ {P : Prop}, (∃ g h tk m nw, s₃ = { s with heap := h, toks := tk } ∧ KtsTurn fs g₀ g ∧ Fr g env.locals h m ∧ News g env.locals h ((I, oI) :: nw) ∧ (∀ p ∈ nw, p.1 ≠ I) ∧ J (i + 1) g m nw) →
        (∃ k', k' < n + 1 - i ∧ ∃ (h₀ h' : Heap) (tk' : Nat) (m' : Str → Option Value) (nw' : List (Addr × Obj)) (i' : Nat), s₃ = { s with heap := h', toks := tk' } ∧ KtsTurn fs g₀ h₀ ∧ IsRangeIter h' I (i' : Int) ((n : Int) - (i' : Int)) 1 ∧ Fr h₀ env.locals h' m' ∧ News h₀ env.locals h' nw' ∧ (∀ p ∈ nw', p.1 ≠ I) ∧ J i' h₀ m' nw' ∧ i' ≤ n ∧ k' = n + 1 - i') := by
      rintro P ⟨g₆, h₆, tk₆, m₆, nw₆, e, T₆, F₆, N₆, o₆, hJ₆⟩
      refine ⟨n + 1 - (i + 1), by omega, g₆, h₆, tk₆, m₆, nw₆, i + 1, e, T₆, ?_, F₆, fun p hp => N₆ p (.tail _ hp), o₆, hJ₆, hlt, rfl⟩
      have z := (N₆ _ (.head _)).1
      rw [← hoI] at z
      have e1 : ((i + 1 : Nat) : Int) = (i : Int) + 1 := by omega
      have e2 : (n : Int) - ((i + 1 : Nat) : Int) = (n : Int) - (i : Int) - 1 := by omega
      rw [e2, e1]
      exact z
    cases f with
    | next => exact fin (P := True) h₆
    | cont => exact fin (P := True) h₆
    | brk => exact h₆.elim
    | ret v => exact h₆
  · have hin : i = n := by omega
    subst hin
    refine wpAny_pyNext_range_end hh hit (by omega) fun h₁ he₁ => wpAny_execs_nil ?_
    have up : ∀ b o, b ≠ I → h'.get? b = some o → h₁.get? b = some o := fun b o hb e => he₁ b o hb e
    exact done h₀ h₁ tk' m' nw' hT hJ ⟨F'.ns.at' fun o e => up _ o hIL e, fun b o e => up b o (fun q => by rw [q, hI0] at e; cases e) (F'.keep b o e), F'.above⟩ fun p hp => ⟨up _ _ (hIn' p hp) (N' p hp).1, (N' p hp).2⟩
end
end Mine
end
section
open PySem PySem.W PyProof.Rows PySem.Calls
set_option Elab.async false
set_option maxRecDepth 100000
set_option linter.unusedVariables false
set_option linter.unusedSimpArgs false
namespace Mine
/-- a row of numbers in the ledger -/
noncomputable abbrev numObj (a b : Int) (t1 t2 t3 : Tok) (n : Nat) : Obj := listOf #[.int a t1, .int b t2, .int 46 t3] n
inductive NumsIn (news : List (Addr × Obj)) : List Value → List (Int × Int) → Prop
  | nil : NumsIn news [] []
  | cons {r : Addr} {a b : Int} {t1 t2 t3 : Tok} {n : Nat} {vs : List Value} {rows : List (Int × Int)} : (r, numObj a b t1 t2 t3 n) ∈ news → NumsIn news vs rows → NumsIn news (.ref r :: vs) ((a, b) :: rows)
theorem NumsIn.length {news : List (Addr × Obj)} {vs : List Value} {rows : List (Int × Int)} (h : NumsIn news vs rows) : vs.length = rows.length := by
  induction h with
  | nil => rfl
  | cons _ _ ih => simp [ih]
theorem NumsIn.mono {news news' : List (Addr × Obj)} (hs : ∀ p ∈ news, p ∈ news') {vs : List Value} {rows : List (Int × Int)} (h : NumsIn news vs rows) : NumsIn news' vs rows := by
  induction h with
  | nil => exact .nil
  | cons hm _ ih => exact .cons (hs _ hm) ih
theorem NumsIn.append {news : List (Addr × Obj)} {vs ws : List Value} {rows rows' : List (Int × Int)} (h : NumsIn news vs rows) (h' : NumsIn news ws rows') : NumsIn news (vs ++ ws) (rows ++ rows') := by
  induction h with
  | nil => exact h'
  | cons hm _ ih => exact .cons hm ih
theorem NumsIn.get {news : List (Addr × Obj)} {vs : List Value} {rows : List (Int × Int)} (h : NumsIn news vs rows) : ∀ {i : Nat} {v : Value}, vs[i]? = some v → ∃ r a b t1 t2 t3 n, v = .ref r ∧ rows[i]? = some (a, b) ∧ (r, numObj a b t1 t2 t3 n) ∈ news := by
  induction h with
  | nil => intro i v e; simp at e
  | cons hm _ ih =>
    intro i v e
    cases i with
    | zero => simp at e; subst e; exact ⟨_, _, _, _, _, _, _, rfl, rfl, hm⟩
    | succ i => simp at e; simpa using ih e
noncomputable def numsUpto (D : Nat → Int × Int) (i : Nat) : List (Int × Int) := (List.range i).map D
theorem numsUpto_step (D : Nat → Int × Int) (i : Nat) : numsUpto D (i + 1) = numsUpto D i ++ [D i] := by simp [numsUpto, List.range_succ]
noncomputable abbrev ovrN (u m₀ : Str → Option Value) : Str → Option Value := fun z => if z = Str.ofString "octets" then u z else if z = Str.ofString "other" then u z else if z = Str.ofString "front" then u z else if z = Str.ofString "size" then u z else m₀ z
noncomputable def OffN (z : Str) : Prop := z ≠ Str.ofString "octets" ∧ z ≠ Str.ofString "other" ∧ z ≠ Str.ofString "front" ∧ z ≠ Str.ofString "size"
theorem ovrN_conv {m m₀ : Str → Option Value} (h : ∀ z, OffN z → m z = m₀ z) : ∃ u : Str → Option Value, m = ovrN u m₀ :=
  ⟨m, funext fun z => by
    unfold ovrN
    by_cases e1 : z = Str.ofString "octets"
    · rw [if_pos e1]
    · rw [if_neg e1]
      by_cases e2 : z = Str.ofString "other"
      · rw [if_pos e2]
      · rw [if_neg e2]
        by_cases e3 : z = Str.ofString "front"
        · rw [if_pos e3]
        · rw [if_neg e3]
          by_cases e4 : z = Str.ofString "size"
          · rw [if_pos e4]
          · rw [if_neg e4, h z ⟨e1, e2, e3, e4⟩]⟩
noncomputable def TurnN (D : Nat → Int × Int) (fs : List Addr) (g₀ : Heap) (G : Heap → Prop) (Lf R : Addr) (m₀ : Str → Option Value) (I : Addr) (oI : Obj) (rest : List (Addr × Obj)) (i : Nat) (s : Shared) (f : Flow) (s₂ : Shared) : Prop :=
  f = .next ∧ ∃ g h tk m rv nr rest', s₂ = { s with heap := h, toks := tk } ∧ KtsTurn fs g₀ g ∧ G g ∧ Fr g Lf h m ∧ (∀ z, OffN z → m z = m₀ z) ∧ News g Lf h ((I, oI) :: (R, listOf rv.toArray nr) :: rest') ∧ NumsIn rest' rv (numsUpto D (i + 1)) ∧ (∀ p ∈ rest, p ∈ rest') ∧
    (∀ p ∈ rest', p ∈ rest ∨ (p.1 ≠ R ∧ p.1 ≠ I))
section
variable {prog : Program} {w : World} {A : Around} {E : Value → Shared → Prop} {s : Shared} {env : Env} {g₀ : Heap}
theorem For_nums {D : Nat → Int × Int} {R : Addr} {m₀ : Str → Option Value} {rest : List (Addr × Obj)} {xn : Str} {pk pos : Pos} {iter : PySem.Expr} {body : List Stmt} {Q : Flow → Shared → Prop} {n : Nat} (fs : List Addr) (G : Heap → Prop)
    (F₀ : Fr g₀ env.locals s.heap m₀) (N₀ : News g₀ env.locals s.heap ((R, listOf #[] 0) :: rest)) (hG : G g₀) (hof : ∀ p ∈ rest, p.1 ≠ R) (hn : n ≤ 1000)
    (hh : A.handled = none) (hs : ∀ x, foldedSetIterable iter env x = pure x)
    (hiter : wpAny (model prog w) A (eval iter env) (fun xv s₁ => ∃ r b t u v h tk, xv = .ref r ∧ s₁ = { s with heap := h, toks := tk } ∧ IsRange h r 0 b 1 t u v ∧ b = (n : Int) ∧ Fr g₀ env.locals h m₀ ∧ News g₀ env.locals h ((R, listOf #[] 0) :: rest)) E s)
    (turn : ∀ (i : Nat) (t : Tok) I oI (u : Str → Option Value) rv nr rest g h tkk (E' : Value → Shared → Prop), i < n → KtsTurn fs g₀ g → G g → NumsIn rest rv (numsUpto D i) → (∀ p ∈ rest, p.1 ≠ R) → (∀ p ∈ rest, p.1 ≠ I) → @Ne Nat I R →
      Fr g env.locals h (ovrN u m₀) → News g env.locals h ((I, oI) :: (R, listOf rv.toArray nr) :: rest) →
      wpAny (model prog w) A (storeName env xn (.int (i : Int) t)) (fun _ s₂ => wpAny (model prog w) A (execs body env) (TurnN D fs g₀ G env.locals R m₀ I oI rest i { s with heap := h, toks := tkk }) E' s₂) E' { s with heap := h, toks := tkk })
    (done : ∀ g h tk (u : Str → Option Value) rv nr rest', KtsTurn fs g₀ g → G g → NumsIn rest' rv (numsUpto D n) → (∀ p ∈ rest, p ∈ rest') → Fr g env.locals h (ovrN u m₀) → News g env.locals h ((R, listOf rv.toArray nr) :: rest') → Q .next { s with heap := h, toks := tk }) :
    wpAny (model prog w) A (exec (.For (.Name xn pk) iter body [] pos) env) Q E s := by
  refine For_rangeS (n := n) fs g₀ (fun i g m nw => G g ∧ ∃ rv nr rest', nw = (R, listOf rv.toArray nr) :: rest' ∧ NumsIn rest' rv (numsUpto D i) ∧ (∀ p ∈ rest, p ∈ rest') ∧ (∀ p ∈ rest', p.1 ≠ R) ∧ ∀ z, OffN z → m z = m₀ z) hn hh hs (wpAny_mono hiter (fun xv s₁ h₁ => ?_) fun _ _ e => e) ?_ ?_
  · obtain ⟨r, b, t, u, v, h, tk, e1, e2, hR, e3, F, N⟩ := h₁
    exact ⟨r, b, t, u, v, h, tk, _, _, e1, e2, hR, e3, F, N, hG, [], 0, rest, rfl, .nil, fun _ hp => hp, hof, fun z hz => rfl⟩
  · rintro i t I2 oI2 g m nw h tkk E' hj hT ⟨hg, rv, nr, rest', rfl, hr', hsub, hof', hm⟩ hI2 F N
    obtain ⟨u, rfl⟩ := ovrN_conv hm
    refine wpAny_mono (turn i t I2 oI2 u rv nr rest' g h tkk E' hj hT hg hr' hof' (fun p hp => hI2 p (.tail _ hp)) (fun e => hI2 (R, listOf rv.toArray nr) (.head _) e.symm) F N)
      (fun _ s₂ h₂ => wpAny_mono h₂ (fun f s₃ h₃ => ?_) fun _ _ e => e) fun _ _ e => e
    obtain ⟨rfl, g', h', tk', m', rv', nr', rest2, e, hT', hg', F', hm', N', hr2, hsub2, hnew2⟩ := h₃
    refine ⟨g', h', tk', m', _, e, hT', F', N', ?_, hg', rv', nr', rest2, rfl, hr2, fun p hp => hsub2 p (hsub p hp), fun p hp => (hnew2 p hp).elim (hof' p) (·.1), hm'⟩
    intro p hp
    rcases List.mem_cons.mp hp with rfl | hp
    · exact hI2 (R, listOf rv.toArray nr) (.head _)
    · exact (hnew2 p hp).elim (fun h => hI2 p (.tail _ h)) (·.2)
  · rintro g h tk m nw hT ⟨hg, rv, nr, rest', rfl, hr', hsub, hof', hm⟩ F N
    obtain ⟨u, rfl⟩ := ovrN_conv hm
    exact done g h tk u rv nr rest' hT hg hr' hsub F N
end
/-- what is kept of the ground of a frame -/
noncomputable def GroundOk (w : World) (mean : ExcName → Option Value) (mg mb : Str → Option Value) (A₀ : Around) (base : Heap) (outer : List Env) (g : Heap) : Prop :=
  Below A₀ base outer g ∧ (Mine.hd.heap_39 w.params).In g ∧ Top Mine.hd.view_39 (looseW Mine.hd.view_39 [Str.ofString "tspecials", Str.ofString "_name_disallowed_re", Str.ofString "_value_disallowed_re", Str.ofString "_formatparam"]) mean mg mb g ∧ KtsDicts (outer.filterMap (·.frame)) g
section
variable {prog : Program} {w w' : World} {A : Around} {E : Value → Shared → Prop} {s : Shared} {env : Env} {g₀ : Heap} {mean : ExcName → Option Value} {mg mb : Str → Option Value} {A₀ : Around} {base : Heap} {outer : List Env}
theorem For_numsG {D : Nat → Int × Int} {R : Addr} {m₀ : Str → Option Value} {rest : List (Addr × Obj)} {xn : Str} {pk pos : Pos} {iter : PySem.Expr} {body : List Stmt} {Q : Flow → Shared → Prop} {n : Nat}
    (F₀ : Fr g₀ env.locals s.heap m₀) (N₀ : News g₀ env.locals s.heap ((R, listOf #[] 0) :: rest)) (hG : GroundOk w' mean mg mb A₀ base outer g₀) (hof : ∀ p ∈ rest, p.1 ≠ R) (hn : n ≤ 1000)
    (hh : A.handled = none) (hs : ∀ x, foldedSetIterable iter env x = pure x)
    (hiter : wpAny (model prog w) A (eval iter env) (fun xv s₁ => ∃ r b t u v h tk, xv = .ref r ∧ s₁ = { s with heap := h, toks := tk } ∧ IsRange h r 0 b 1 t u v ∧ b = (n : Int) ∧ Fr g₀ env.locals h m₀ ∧ News g₀ env.locals h ((R, listOf #[] 0) :: rest)) E s)
    (turn : ∀ (i : Nat) (t : Tok) I oI (u : Str → Option Value) rv nr rest g h tkk, i < n → KtsTurn (outer.filterMap (·.frame)) g₀ g → Below A₀ base outer g → (Mine.hd.heap_39 w'.params).In g → Top Mine.hd.view_39 (looseW Mine.hd.view_39 [Str.ofString "tspecials", Str.ofString "_name_disallowed_re", Str.ofString "_value_disallowed_re", Str.ofString "_formatparam"]) mean mg mb g → KtsDicts (outer.filterMap (·.frame)) g →
      NumsIn rest rv (numsUpto D i) → (∀ p ∈ rest, p.1 ≠ R) → (∀ p ∈ rest, p.1 ≠ I) → @Ne Nat I R →
      Fr g env.locals h (ovrN u m₀) → News g env.locals h ((I, oI) :: (R, listOf rv.toArray nr) :: rest) →
      wpAny (model prog w) A (storeName env xn (.int (i : Int) t)) (fun _ s₂ => wpAny (model prog w) A (execs body env) (TurnN D (outer.filterMap (·.frame)) g₀ (GroundOk w' mean mg mb A₀ base outer) env.locals R m₀ I oI rest i { s with heap := h, toks := tkk }) (fun _ _ => False) s₂) (fun _ _ => False) { s with heap := h, toks := tkk })
    (done : ∀ g h tk (u : Str → Option Value) rv nr rest', KtsTurn (outer.filterMap (·.frame)) g₀ g → Below A₀ base outer g → (Mine.hd.heap_39 w'.params).In g → Top Mine.hd.view_39 (looseW Mine.hd.view_39 [Str.ofString "tspecials", Str.ofString "_name_disallowed_re", Str.ofString "_value_disallowed_re", Str.ofString "_formatparam"]) mean mg mb g → KtsDicts (outer.filterMap (·.frame)) g →
      NumsIn rest' rv (numsUpto D n) → (∀ p ∈ rest, p ∈ rest') → Fr g env.locals h (ovrN u m₀) → News g env.locals h ((R, listOf rv.toArray nr) :: rest') → Q .next { s with heap := h, toks := tk }) :
    wpAny (model prog w) A (exec (.For (.Name xn pk) iter body [] pos) env) Q E s :=
  For_nums (outer.filterMap (·.frame)) (GroundOk w' mean mg mb A₀ base outer) F₀ N₀ hG hof hn hh hs hiter (fun i t I oI u rv nr rest g h tkk E' h1 h2 h3 h4 h5 h6 h7 h8 h9 => wpAny_mono (turn i t I oI u rv nr rest g h tkk h1 h2 h3.1 h3.2.1 h3.2.2.1 h3.2.2.2 h4 h5 h6 h7 h8 h9) (fun _ _ h => wpAny_noRaise h) fun _ _ e => e.elim) fun g h tk u rv nr rest' h1 h2 => done g h tk u rv nr rest' h1 h2.1 h2.2.1 h2.2.2.1 h2.2.2.2
end
end Mine
end
section
open PySem PySem.W PyProof.Rows PySem.Calls
set_option Elab.async false
set_option maxRecDepth 100000
set_option linter.unusedVariables false
set_option linter.unusedSimpArgs false
namespace Mine
section
open LCg
variable {prog : Program} {w : World} {A : Around} {E : Value → Shared → Prop} {h₀ : Heap} {L : Addr} {m : Str → Option Value} {env : Env} {s : Shared}
/-- the source of a comprehension over a text -/
noncomputable def SrcS (prog : Program) (w : World) (A : Around) (h₀ : Heap) (L : Addr) (m : Str → Option Value) (env : Env) (elt : PySem.Expr) (x : Str) (scope : Scope) (cl : List (Str × Addr)) (Q : Value → Shared → Prop) (xv : Value) (s₁ : Shared) : Prop :=
  ∃ tx t news, xv = .str tx t ∧ A.handled = none ∧ Fr h₀ L s₁.heap m ∧ News h₀ L s₁.heap news ∧ tx.cps.size ≤ sizeLine ∧
    ∀ s₂ : Shared, (∃ h, s₂ = { s₁ with heap := h }) → CompRest prog w A h₀ L m env elt x scope cl s₂ (fun _ => True) (SignAt tx) (FinE h₀ L m s₂ Q) tx.cps.size 0 [] news
theorem SrcS.mk {elt : PySem.Expr} {x : Str} {scope : Scope} {cl : List (Str × Addr)} {Q : Value → Shared → Prop} {tx : Str} {t : Tok} {news : List (Addr × Obj)} {s₁ : Shared}
    (hh : A.handled = none) (F : Fr h₀ L s₁.heap m) (N : News h₀ L s₁.heap news) (hsz : tx.cps.size ≤ sizeLine)
    (h : ∀ g, CompRest prog w A h₀ L m env elt x scope cl { s₁ with heap := g } (fun _ => True) (SignAt tx) (FinE h₀ L m { s₁ with heap := g } Q) tx.cps.size 0 [] news) :
    SrcS prog w A h₀ L m env elt x scope cl Q (.str tx t) s₁ := ⟨tx, t, news, rfl, hh, F, N, hsz, fun _ ⟨g, e⟩ => e ▸ h g⟩
theorem ListComp_S {elt iter : PySem.Expr} {x : Str} {px : Pos} {scope : Scope} {cl : List (Str × Addr)} {pos : Pos} {Q : Value → Shared → Prop} (F₀ : Fr h₀ L s.heap m)
    (hclos : closureFor scope env = pure cl) (hcell : ∀ y ∈ scope.names, y.2 ≠ .cell) (hkind : scope.kind = .function)
    (hnames : ∀ y ∈ scope.names, y.2 = .local → scope.names.lookup y.1 = some .local) (hx : scope.names.lookup x = some .local)
    (h : wpAny (model prog w) A (eval iter env) (SrcS prog w A h₀ L m env elt x scope cl Q) E s)
    (hs : ∀ x, foldedSetIterable iter env x = pure x := by intro _; rfl) :
    wpAny (model prog w) A (eval (.ListComp elt [⟨.Name x px, iter, [], 0⟩] scope pos) env) Q E s := by
  rw [eval_ListComp]
  refine wpAny_comprehension_free (use := none) rfl hs hclos hkind hnames (wpAny_mono h (fun xv s₁ h₁ => ?_) fun _ _ e => e)
  obtain ⟨tx, t, news, rfl, hh, F, N, hsz, R⟩ := h₁
  have go : ∀ {cls : String} {St : Nat → Heap → Prop}, Walks prog w A s₁.heap.objs.size [s₁.heap.objs.size] [s₁.heap.objs.size] tx.cps.size (SignAt tx) St → (∀ i h, St i h → ∃ o, h.get? s₁.heap.objs.size = some o) →
      (∀ i (h h' : Heap) (o : Obj), St i h → h.get? s₁.heap.objs.size = some o → h'.get? s₁.heap.objs.size = some o → St i h') → ∀ o, St 0 (s₁.heap.push o) →
      wpAny (model prog w) A (newList []) (fun acc s₃ => wpAny (model prog w) A (newFunctionEnv scope env.globals cl [] env.qual none .none (some env)) (fun cenv s₄ =>
        codeAny (model prog w) A (.compStart (.ListComp elt [⟨.Name x px, iter, [], 0⟩] scope pos) 0 (.ref s₁.heap.objs.size) acc { cenv with scope := relabel scope env }) (compPost (model prog w) A E none Q acc cenv.locals) s₄) E s₃) E { s₁ with heap := s₁.heap.push o } := by
    intro cls St W hIo hSt o hst
    refine block_U W hsz hIo (fun i h h' o _ st e e' _ _ _ => hSt i h h' o st e e') hcell hkind hx hst (fun b hb => ?_)
      (F.keeps fun _ _ e => Heap.get?_push_of_some _ e) (N.grown fun _ _ e => Heap.get?_push_of_some _ e) (Nat.ne_of_lt F.ns.lt) (next_is_new F) (fun p hp => Nat.ne_of_lt (Heap.lt_size (N p hp).1)) trivial (R _ ⟨_, rfl⟩) ?_
    · rw [List.mem_singleton.mp hb]
      show s₁.heap.objs.size < (s₁.heap.push _).objs.size
      rw [Heap.size_push]; exact Nat.lt_succ_self _
    · intro D C h tk m' ys news' F' N' o1 hn hC₀ hD₀ hCL hDL hCD offC fin
      refine ⟨m', hn, fun h'' hs'' => fin D h'' tk (F'.change hs'' hCL hC₀) (fun p hp => ?_) o1⟩
      refine ⟨hs''.extBut _ _ ?_ (N' p hp).1, (N' p hp).2⟩
      rcases List.mem_cons.mp hp with rfl | hp
      · exact Ne.symm hCD
      · exact offC p hp
  cases ha : tx.cps.all (· < 128)
  · exact wpAny_pyIter_wide ha (go (cls := "") (Walks.strWide hh _ tx t) (fun i h st => let ⟨o, e, _⟩ := st; ⟨o, e⟩) (fun i h h' o st e e' => let ⟨o', q, r⟩ := st; by rw [e] at q; cases q; exact ⟨o, e', r⟩) _ ⟨_, Heap.get?_push_size _ rfl, rfl, rfl⟩)
  · exact wpAny_pyIter_ascii ha (go (cls := "") (Walks.strAscii hh _ tx t) (fun i h st => let ⟨o, e, _⟩ := st; ⟨o, e⟩) (fun i h h' o st e e' => let ⟨o', q, r⟩ := st; by rw [e] at q; cases q; exact ⟨o, e', r⟩) _ ⟨_, Heap.get?_push_size _ rfl, rfl, rfl⟩)
variable {elt : PySem.Expr} {x : Str} {scope : Scope} {cl : List (Str × Addr)} {Fin : List Value → List (Addr × Obj) → Prop} {news : List (Addr × Obj)}
theorem snoc_ints {y : Int} {t : Tok} : ∀ {vs : List Value} {ys : List Int}, IntsAre vs ys → IntsAre (vs ++ [.int y t]) (ys ++ [y])
  | _, _, .nil => .cons y t .nil
  | _, _, .cons z u r => .cons z u (snoc_ints r)
/-- a comprehension over a text, each element a text -/
theorem rest_signsS {tx : Str} (out : Str → Str)
    (turn : ∀ z t I oI C oC D m₂ ys h tkk (E' : Value → Shared → Prop), z ∈ signs tx → NsObj oC m₂ → m₂ x = some (.str z t) → Fr h₀ L h m → News h₀ L h ((I, oI) :: (C, oC) :: (D, lst ys) :: news) → Off3 I C D news → ((@Ne Nat I C) ∧ (@Ne Nat I D) ∧ (@Ne Nat C D)) →
      wpAny (model prog w) A (eval elt (compEnvC scope cl C env)) (CompEnd h₀ L m { s with heap := h, toks := tkk } I oI C oC D (lst ys) (fun _ => True) (fun y news' => news' = news ∧ ∃ t, y = .str (out z) t)) E' { s with heap := h, toks := tkk })
    (fin : ∀ ys, StrsAre ys ((signs tx).map out) → Fin ys news) :
    CompRest prog w A h₀ L m env elt x scope cl s (fun _ => True) (SignAt tx) Fin tx.cps.size 0 [] news := by
  have hlen : (signs tx).length = tx.cps.size := signs_length tx
  have key : ∀ (j i : Nat) (ys : List Value), i + j = tx.cps.size → StrsAre ys (((signs tx).take i).map out) → CompRest prog w A h₀ L m env elt x scope cl s (fun _ => True) (SignAt tx) Fin j i ys news := by
    intro j
    induction j with
    | zero =>
      intro i ys hi hy
      rw [List.take_of_length_le (by rw [hlen]; omega)] at hy
      exact CompRest.zero (fin ys hy)
    | succ j ih =>
      intro i ys hi hy
      refine CompRest.succ ?_
      intro v I oI C oC D m₂ h tk E' hv hC hx F N off ne
      obtain ⟨c, u, hc, rfl⟩ := hv
      have hz := signs_get hc
      refine wpAny_mono (turn _ u I oI C oC D m₂ ys h tk E' (List.mem_of_getElem? hz) hC hx F N off ne) (fun y s₂ hq => ?_) fun _ _ e => e
      obtain ⟨h', tk', nw, e, F', N', off', hS, hn, t', hy'⟩ := hq
      subst nw
      refine ⟨h', tk', _, e, F', N', off', hS, ?_⟩
      subst hy'
      refine ih (i + 1) _ (by omega) ?_
      rw [take_next hz, List.map_append]
      exact snoc_strs hy
  exact key _ 0 [] (by omega) (by simp only [List.take_zero, List.map_nil]; exact .nil)
/-- a comprehension over a text, each element an int -/
theorem rest_signsI {tx : Str} (out : Str → Int)
    (turn : ∀ z t I oI C oC D m₂ ys h tkk (E' : Value → Shared → Prop), z ∈ signs tx → NsObj oC m₂ → m₂ x = some (.str z t) → Fr h₀ L h m → News h₀ L h ((I, oI) :: (C, oC) :: (D, lst ys) :: news) → Off3 I C D news → ((@Ne Nat I C) ∧ (@Ne Nat I D) ∧ (@Ne Nat C D)) →
      wpAny (model prog w) A (eval elt (compEnvC scope cl C env)) (CompEnd h₀ L m { s with heap := h, toks := tkk } I oI C oC D (lst ys) (fun _ => True) (fun y news' => news' = news ∧ ∃ t, y = .int (out z) t)) E' { s with heap := h, toks := tkk })
    (fin : ∀ ys, IntsAre ys ((signs tx).map out) → Fin ys news) :
    CompRest prog w A h₀ L m env elt x scope cl s (fun _ => True) (SignAt tx) Fin tx.cps.size 0 [] news := by
  have hlen : (signs tx).length = tx.cps.size := signs_length tx
  have key : ∀ (j i : Nat) (ys : List Value), i + j = tx.cps.size → IntsAre ys (((signs tx).take i).map out) → CompRest prog w A h₀ L m env elt x scope cl s (fun _ => True) (SignAt tx) Fin j i ys news := by
    intro j
    induction j with
    | zero =>
      intro i ys hi hy
      rw [List.take_of_length_le (by rw [hlen]; omega)] at hy
      exact CompRest.zero (fin ys hy)
    | succ j ih =>
      intro i ys hi hy
      refine CompRest.succ ?_
      intro v I oI C oC D m₂ h tk E' hv hC hx F N off ne
      obtain ⟨c, u, hc, rfl⟩ := hv
      have hz := signs_get hc
      refine wpAny_mono (turn _ u I oI C oC D m₂ ys h tk E' (List.mem_of_getElem? hz) hC hx F N off ne) (fun y s₂ hq => ?_) fun _ _ e => e
      obtain ⟨h', tk', nw, e, F', N', off', hS, hn, t', hy'⟩ := hq
      subst nw
      refine ⟨h', tk', _, e, F', N', off', hS, ?_⟩
      subst hy'
      refine ih (i + 1) _ (by omega) ?_
      rw [take_next hz, List.map_append]
      exact snoc_ints hy
  exact key _ 0 [] (by omega) (by simp only [List.take_zero, List.map_nil]; exact .nil)
end
end Mine
end
section
open PySem PySem.W PyProof.Rows PySem.Calls
set_option Elab.async false
set_option maxRecDepth 100000
set_option linter.unusedVariables false
set_option linter.unusedSimpArgs false
namespace Mine
noncomputable def swap1 (z : Str) : Str := if z = Str.ofString "a" then Str.ofString "c" else if z = Str.ofString "c" then Str.ofString "a" else z
noncomputable def ord1 (z : Str) : Int := ((z.cps.getD 0 0 : Nat) : Int)
noncomputable abbrev frontN (x : Str) (i : Nat) : Str := Txt.slice (Txt.slice x none (some (i : Int)) ++ Str.ofString "bbbb") none (some 4) ++ Str.ofString "."
noncomputable def otherN (x : Str) (i : Nat) : Str := Txt.join (Str.ofString "") ((signs (frontN x i)).map swap1)
noncomputable def octN (x : Str) (i : Nat) : List Int := (signs (frontN x i)).map (fun z => ord1 z + 128) ++ (signs (otherN x i ++ Str.ofString ".")).map ord1
noncomputable def SignOk (z : Str) : Prop := z = Str.ofString "a" ∨ z = Str.ofString "b" ∨ z = Str.ofString "c" ∨ z = Str.ofString "."
noncomputable def NumOk (x : Str) (i : Nat) (d : Int × Int) : Prop :=
  (∀ z ∈ signs (frontN x i), SignOk z) ∧ (∀ z ∈ signs (otherN x i ++ Str.ofString "."), SignOk z) ∧ (frontN x i).length ≤ 5 ∧ (otherN x i).length ≤ 5 ∧
  ∃ b1 b2 b3 b4 b5 c1 c2 c3 c4 c5 : Int, octN x i = [b1, b2, b3, b4, b5, c1, c2, c3, c4, c5, 46] ∧
    (Builtin.bitAnd b1 64 = 64 ∧ Builtin.bitAnd b2 64 = 64 ∧ Builtin.bitAnd b3 64 = 64 ∧ Builtin.bitAnd b4 64 = 64 ∧ Builtin.bitAnd b5 64 = 0) ∧
    (Builtin.bitAnd c1 64 = 64 ∧ Builtin.bitAnd c2 64 = 64 ∧ Builtin.bitAnd c3 64 = 64 ∧ Builtin.bitAnd c4 64 = 64 ∧ Builtin.bitAnd c5 64 = 0) ∧ d = (five b1 b2 b3 b4 b5, five c1 c2 c3 c4 c5)
noncomputable def NumPre (x : Str) (D : Nat → Int × Int) : Prop := ∀ i, i ≤ x.length → NumOk x i (D i)
theorem ints_cons {vs : List Value} {i : Int} {is : List Int} (h : IntsAre vs (i :: is)) : ∃ t vs', vs = .int i t :: vs' ∧ IntsAre vs' is := by
  obtain _ | ⟨_, t, h⟩ := h
  exact ⟨t, _, rfl, h⟩
theorem ints_nil {vs : List Value} (h : IntsAre vs []) : vs = [] := by
  cases h; rfl
theorem octs_at {vs : List Value} {b1 b2 b3 b4 b5 c1 c2 c3 c4 c5 : Int} (h : IntsAre vs [b1, b2, b3, b4, b5, c1, c2, c3, c4, c5, 46]) : ∃ t1 t2 t3 t4 t5 u1 u2 u3 u4 u5 u6,
    vs.toArray[(0 : Nat)]? = some (.int b1 t1) ∧ vs.toArray[(0 + 1 : Nat)]? = some (.int b2 t2) ∧ vs.toArray[(0 + 1 + 1 : Nat)]? = some (.int b3 t3) ∧ vs.toArray[(0 + 1 + 1 + 1 : Nat)]? = some (.int b4 t4) ∧ vs.toArray[(0 + 1 + 1 + 1 + 1 : Nat)]? = some (.int b5 t5) ∧
    vs.toArray[(0 + 1 + 1 + 1 + 1 + 1 : Nat)]? = some (.int c1 u1) ∧ vs.toArray[(0 + 1 + 1 + 1 + 1 + 1 + 1 : Nat)]? = some (.int c2 u2) ∧ vs.toArray[(0 + 1 + 1 + 1 + 1 + 1 + 1 + 1 : Nat)]? = some (.int c3 u3) ∧ vs.toArray[(0 + 1 + 1 + 1 + 1 + 1 + 1 + 1 + 1 : Nat)]? = some (.int c4 u4) ∧ vs.toArray[(0 + 1 + 1 + 1 + 1 + 1 + 1 + 1 + 1 + 1 : Nat)]? = some (.int c5 u5) ∧
    vs.toArray[(0 + 1 + 1 + 1 + 1 + 1 + 1 + 1 + 1 + 1 + 1 : Nat)]? = some (.int 46 u6) ∧ vs.toArray[(0 + 1 + 1 + 1 + 1 + 1 + 1 + 1 + 1 + 1 + 1 + 1 : Nat)]? = none := by
  obtain ⟨t1, _, rfl, h1⟩ := ints_cons h
  obtain ⟨t2, _, rfl, h2⟩ := ints_cons h1
  obtain ⟨t3, _, rfl, h3⟩ := ints_cons h2
  obtain ⟨t4, _, rfl, h4⟩ := ints_cons h3
  obtain ⟨t5, _, rfl, h5⟩ := ints_cons h4
  obtain ⟨u1, _, rfl, h6⟩ := ints_cons h5
  obtain ⟨u2, _, rfl, h7⟩ := ints_cons h6
  obtain ⟨u3, _, rfl, h8⟩ := ints_cons h7
  obtain ⟨u4, _, rfl, h9⟩ := ints_cons h8
  obtain ⟨u5, _, rfl, h10⟩ := ints_cons h9
  obtain ⟨u6, _, rfl, h11⟩ := ints_cons h10
  cases ints_nil h11
  exact ⟨t1, t2, t3, t4, t5, u1, u2, u3, u4, u5, u6, rfl, rfl, rfl, rfl, rfl, rfl, rfl, rfl, rfl, rfl, rfl, rfl⟩
theorem bit46 : Builtin.bitAnd 46 64 = 0 := by decide +kernel
theorem swap1_len {z : Str} (h : SignOk z) : (swap1 z).length = 1 := by
  rcases h with rfl | rfl | rfl | rfl <;> decide +kernel
theorem swap_a : swap1 (Str.ofString "a") = Str.ofString "c" := by decide +kernel
theorem swap_b : swap1 (Str.ofString "b") = Str.ofString "b" := by decide +kernel
theorem swap_c : swap1 (Str.ofString "c") = Str.ofString "a" := by decide +kernel
theorem swap_d : swap1 (Str.ofString ".") = Str.ofString "." := by decide +kernel
theorem ord_a : ord1 (Str.ofString "a") = 97 := by decide +kernel
theorem ord_b : ord1 (Str.ofString "b") = 98 := by decide +kernel
theorem ord_c : ord1 (Str.ofString "c") = 99 := by decide +kernel
theorem ord_d : ord1 (Str.ofString ".") = 46 := by decide +kernel
theorem TurnN.mk {w : World} {mean : ExcName → Option Value} {mg mb : Str → Option Value} {A₀ : Around} {base g₀ g h : Heap} {outer : List Env} {D : Nat → Int × Int} {Lf R I a : Addr} {oI : Obj} {p1 p2 p3 p4 p5 : Addr × Obj} {m m₀ : Str → Option Value} {rest : List (Addr × Obj)} {rv : List Value} {nr i tk : Nat} {s : Shared} {v1 v2 : Int} {t1 t2 t3 : Tok}
    (hT : KtsTurn (outer.filterMap (·.frame)) g₀ g) (hB : Below A₀ base outer g) (hX : (Mine.hd.heap_39 w.params).In g) (hTp : Top Mine.hd.view_39 (looseW Mine.hd.view_39 [Str.ofString "tspecials", Str.ofString "_name_disallowed_re", Str.ofString "_value_disallowed_re", Str.ofString "_formatparam"]) mean mg mb g) (hD : KtsDicts (outer.filterMap (·.frame)) g)
    (F : Fr g Lf h m) (hm : ∀ z, OffN z → m z = m₀ z)
    (N : News g Lf h ((a, listOf #[.int v1 t1, .int v2 t2, .int (46 % 64) t3] 0) :: p1 :: p2 :: p3 :: p4 :: p5 :: (I, oI) :: (R, listOf (rv.toArray.push (.ref a)) nr) :: rest))
    (hrow : NumsIn rest rv (numsUpto D i)) (hd : D i = (v1, v2)) (hne : @Ne Nat a R ∧ @Ne Nat a I) :
    TurnN D (outer.filterMap (·.frame)) g₀ (GroundOk w mean mg mb A₀ base outer) Lf R m₀ I oI rest i s .next { s with heap := h, toks := tk } := by
  refine ⟨rfl, g, h, tk, m, rv ++ [.ref a], nr, (a, listOf #[.int v1 t1, .int v2 t2, .int (46 % 64) t3] 0) :: rest, rfl, hT, ⟨hB, hX, hTp, hD⟩, F, hm, cons_sub N ?_, ?_, fun p hp => .tail _ hp, ?_⟩
  · intro p hp
    rw [push_list]
    simp only [List.mem_cons] at hp ⊢
    rcases hp with h | h | h | h <;> simp only [h, true_or, or_true]
  · rw [numsUpto_step, hd]
    exact .append (hrow.mono fun p hp => .tail _ hp) (.cons (n := 0) List.mem_cons_self .nil)
  · intro p hp
    rcases List.mem_cons.mp hp with rfl | hp
    · exact .inr hne
    · exact .inl hp
end Mine
end
section
open PySem PySem.W PyProof.Rows PySem.Calls
set_option Elab.async false
set_option maxRecDepth 100000
set_option linter.unusedVariables false
set_option linter.unusedSimpArgs false
namespace Mine
set_option maxHeartbeats 2000000 in
theorem nums_c (w : World) (mean : ExcName → Option Value) (mg mb : Str → Option Value) (news : List (Addr × Obj)) (x : Str) (tx : Tok) (D : Nat → Int × Int) (hx : x.length ≤ 4) (hP : NumPre x D) :
   CallS w mean mg mb 234 8 news [.str x tx] [] (fun v nw => ∃ R rv nr, v = .ref R ∧ (R, listOf rv.toArray nr) ∈ nw ∧ NumsIn nw rv (numsUpto D (x.length + 1)) ∧ ∀ p ∈ news, p ∈ nw) := by
  w_top off; k_with_none
  k_with "ktr_enter" => (first | (refine' code_def ?k1_w ?k2_w ?k3_w ?k4_w ?k5_w ?kA_w ?kF_w ?kK_w ?k6_w ?k7_w ?k8_w ?k9_w ?kB_w ?_ ?c2_w ?c3_w ?c4_w ?c5_w; (case kA_w => exact rfl); (case kF_w => exact rfl); (case kK_w => first | exact rfl | assumption); (case k1_w => k_asm); (case k2_w => k_asm); (case k3_w => k_asm); (case k4_w => k_asm); (case k5_w => k_asm); (case k6_w => k_is); (case k7_w => k_is); (case k8_w => ktr_room); (case k9_w => first | exact BindsTo.of_eq rfl | exact binds_K (by k_in) rfl (by k_is) rfl rfl rfl | (refine' kp_binds ?kx_w ?ke_w; (case kx_w => k_in); (case ke_w => exact fun _ => rfl))); (case c5_w => decide); (case kB_w => exact locs rfl); (case c2_w => exact rfl); (case c3_w => exact rfl); (case c4_w => exact rfl); k_whole; intro g'_w L'_w h'_w FG'_w F'_w N'_w B'_w X'_w T'_w; (try dsimp only); (try k_lift B'_w); (try k_fold)) | (refine' code_defC ?k1_w ?k2_w ?k3_w ?k4_w ?k5_w ?kA_w ?kF_w ?kK_w ?k6_w ?k7_w ?k8_w ?k9_w ?kB_w ?kD_w ?_ ?c2_w ?c3_w ?c4_w; (case kA_w => exact rfl); (case kF_w => exact rfl); (case kK_w => first | exact rfl | assumption); (case k1_w => k_asm); (case k2_w => k_asm); (case k3_w => k_asm); (case k4_w => k_asm); (case k5_w => k_asm); (case k6_w => k_is); (case k7_w => k_is); (case k8_w => ktr_room); (case k9_w => first | exact BindsTo.of_eq rfl | exact binds_K (by k_in) rfl (by k_is) rfl rfl rfl | (refine' kp_binds ?kx_w ?ke_w; (case kx_w => k_in); (case ke_w => exact fun _ => rfl))); (case kB_w => exact rfl); (case kD_w => decide +kernel); (case c2_w => exact rfl); (case c3_w => exact rfl); (case c4_w => exact rfl); k_whole; intro g'_w L'_w h'_w tk'_w cells'_w FG'_w F'_w N'_w Y'_w B'_w X'_w T'_w l1_w; (have hcell9_w := offFrom_of l1_w); (try k_lt l1_w); k_cells Y'_w; (try simp only [List.cons_append, List.nil_append] at N'_w); (try dsimp only); (try k_lift B'_w); (try k_fold)))
  k_with "kts_go" => ((refine' code_defX0 ?k1_w ?k2_w ?k3_w ?k4_w ?k5_w ?kA_w ?kF_w ?kK_w ?k6_w ?k7_w ?k8_w ?k9_w ?kB_w ?_ ?c2_w ?c3_w ?c4_w ?c5_w; (case kA_w => exact rfl); (case kF_w => exact rfl); (case kK_w => first | exact rfl | assumption); (case k1_w => k_asm); (case k2_w => k_asm); (case k3_w => k_asm); (case k4_w => k_asm); (case k5_w => k_asm); (case k6_w => k_is); (case k7_w => k_is); (case k8_w => ktr_room); (case k9_w => first | exact BindsTo.of_eq rfl | exact binds_K (by k_in) rfl (by k_is) rfl rfl rfl | (refine' kp_binds ?kx_w ?ke_w; (case kx_w => k_in); (case ke_w => exact fun _ => rfl))); (case c5_w => decide); (case kB_w => exact locs rfl); (case c2_w => exact rfl); (case c3_w => exact rfl); (case c4_w => exact rfl); k_whole; intro g'_w L'_w h'_w FG'_w F'_w N'_w B'_w X'_w T'_w D'_w; (try dsimp only); (try k_lift B'_w); (try k_fold)))
  k_with "k_room" => (ktr_room)
  k_with "k_mem" => (assumption)
  k_with "k_all" => (assumption)
  k_with "k_all" => (((with_reducible rename OffFrom _ _ => hc9_w); exact offFrom_ne hc9_w (by omega)))
  k_with "eval ListComp" => ((k_here; k_dflt (refine ListComp_S (F₀ := by k_asm) (by with_unfolding_all rfl) (by decide) (by rfl) (by decide) (by rfl) ?_)))
  k_with "SrcS" => ((refine hold ?_))
  k_with "exec For Name Call cons nil" => ((refine hold ?_))
  k_with "call builtin:str.join" => ((refine hold ?_))
  k_with "binaryOp Add ref ref" => ((refine hold ?_))
  k_with "call builtin:list.append" => ((k_here; (with_reducible show wpAny _ _ (call (Value.builtin _) [Value.ref _, _]) _ _ _); k_dflt (refine' append_K ?k1_w ?k2_w ?k3_w ?_ ?z_w; (case k1_w => k_asm); (case k2_w => k_asm); (case k3_w => k_upd); (case z_w => (rw [List.size_toArray, sizeLine_eq]; omega)); k_whole); intro h'_w F'_w N'_w; (try k_sweep)))
  k_with "call ref" => ((k_here; (k_dflt (show wpAny _ _ (call (Value.ref 45) [Value.ref _]) _ _ _)); k_dflt (refine' CallC.use (var1_c _ _ _ _ _ _ _ _ _ _ _ _ _ _ ?U_w ?hi_w ?hl_w ?hne_w ?x1_w ?y1_w) ?k1_w ?k2_w ?k3_w ?k4_w ?k5_w ?kK_w ?kd_w ?ku_w ?_; (case k1_w => k_asm); (case k2_w => k_asm); (case k3_w => k_asm); (case k4_w => k_asm); (case k5_w => k_asm); (case kK_w => first | exact rfl | assumption); (case kd_w => ktr_room); (case ku_w => ktr_units); (case U_w => k_updF); (case hi_w => with_reducible assumption); (case hl_w => k_mem); (case hne_w => k_ne); (case x1_w => with_reducible assumption); (case y1_w => with_reducible assumption); intro v9_w nw9_w h9_w tk9_w hR9_w F9_w N9_w; (obtain ⟨o9_w, e9n_w, hi9_w, t9_w, e9_w⟩ := hR9_w; subst e9_w; rw [e9n_w] at N9_w; clear e9n_w; (try dsimp only at N9_w)); (try dsimp only); (try k_fold))))
  k_with "call ref" => ((k_here; (k_dflt (show wpAny _ _ (call (Value.ref 45) [Value.ref _]) _ _ _)); k_dflt (refine' CallC.use (var5_c _ _ _ _ _ _ _ _ _ _ _ _ _ _ _ _ _ _ _ _ _ _ ?U_w ?hi_w ?hl_w ?hne_w ?x1_w ?x2_w ?x3_w ?x4_w ?x5_w ?y1_w ?y2_w ?y3_w ?y4_w ?y5_w) ?k1_w ?k2_w ?k3_w ?k4_w ?k5_w ?kK_w ?kd_w ?ku_w ?_; (case k1_w => k_asm); (case k2_w => k_asm); (case k3_w => k_asm); (case k4_w => k_asm); (case k5_w => k_asm); (case kK_w => first | exact rfl | assumption); (case kd_w => ktr_room); (case ku_w => ktr_units); (case U_w => k_updF); (case hi_w => with_reducible assumption); (case hl_w => k_mem); (case hne_w => k_ne); (case x1_w => with_reducible assumption); (case x2_w => with_reducible assumption); (case x3_w => with_reducible assumption); (case x4_w => with_reducible assumption); (case x5_w => with_reducible assumption); (case y1_w => with_reducible assumption); (case y2_w => with_reducible assumption); (case y3_w => with_reducible assumption); (case y4_w => with_reducible assumption); (case y5_w => with_reducible assumption); intro v9_w nw9_w h9_w tk9_w hR9_w F9_w N9_w; (obtain ⟨o9_w, e9n_w, hi9_w, t9_w, e9_w⟩ := hR9_w; subst e9_w; rw [e9n_w] at N9_w; clear e9n_w; (try dsimp only at N9_w)); (try dsimp only); (try k_fold))))
  k_with "call builtin:iter" => ((k_here; (with_reducible show wpAny _ _ (call (Value.builtin "iter") [Value.ref _]) _ _ _); k_dflt (refine' iter_list ?F_w ?N_w ?p_w ?_; (case F_w => k_asm); (case N_w => k_asm); (case p_w => k_mem); k_whole); intro D'_w h'_w o'_w F'_w N'_w l1_w hi'_w; (try k_lt l1_w)))
  k_with "call builtin:next" => ((k_here; (with_reducible show wpAny _ _ (call (Value.builtin "next") [Value.ref _]) _ _ _); k_dflt (refine' next_over ?h_w ?F_w ?N_w ?U_w ?i_w ?p_w ?x_w ?_; (case h_w => rfl); (case F_w => k_asm); (case N_w => k_asm); (case U_w => k_updF); (case i_w => with_reducible assumption); (case p_w => k_mem); (case x_w => with_reducible assumption); k_whole); intro h1'_w o'_w h'_w e'_w F'_w N'_w x'_w; (try dsimp only at N'_w)))
  k_with "kts_caughtN" => (((with_reducible show wpAny _ _ (noteFrame _ _) (fun _ s₂ => wpAny _ _ (setFlight _ none) (fun _ s₃ => wpAny _ _ (handleBy _ _ (ExceptHandler.ExceptHandler (some (Expr.Name (Str.ofString "StopIteration") _)) none _ _ :: _)) _ _ s₃) _ s₂) _ _); k_dflt (refine' caught_SN0 (T' := "StopIteration") ?R_w ?F_w ?K_w ?U_w ?XB_w ?TB_w ?D_w ?T0_w ?ex_w PyProof.Rows.Boot.«StopIteration» ?hn_w stop_isExc stop_notTuple ?hs_w ?_; (case R_w => assumption); (case F_w => assumption); (case K_w => assumption); (case U_w => assumption); (case XB_w => assumption); (case TB_w => assumption); (case D_w => assumption); (case T0_w => first | assumption | exact KtsTurn.refl); (case hs_w => kts_sub); (case ex_w => k_is); (case hn_w => decide); k_whole); intro h'_w g'_w T'_w F'_w N'_w K'_w X'_w P'_w D'_w; (try k_lift K'_w); (try k_sweep)))
  k_with "subscriptTail" => ((k_here; (with_reducible show wpAny _ _ (subscriptTail _ _ (Value.ref _) (Value.int (-1) _)) _ _ _); k_dflt (refine' item_lastP ?F_w ?p_w ?_; (case F_w => k_asm); (case p_w => k_mem); k_whole)))
  unfold CallS; k_fill; intros; rename_i hret
  refine wpAny_call ?_
  k_dflt kts_go
  k_steps
  unfold Hold
  (rename Fr _ _ _ _ => lF'); (rename News _ _ _ _ => lN')
  k_dflt (refine For_numsG (n := x.length + 1) (D := D) lF' lN' ⟨by assumption, by assumption, by assumption, by assumption⟩ ?_ (by omega) (by rfl) (fun _ => rfl) ?_ ?_ ?_)
  · intro p hp
    exact Nat.ne_of_lt (‹∀ p ∈ news, p.1 < _› p hp)
  · k_steps
    all_goals (first | assumption | k_asm)
  · intro i t I oI u rv nr rest g h tkk hi hT0 hB hX hTp hDk hrow o1 o2 o3 F' N'
    clear lF' lN'
    have hQ : NumOk x i (D i) := hP i (by omega)
    clear hP
    k_steps
    unfold Hold
    have hsz9 : (frontN x i).cps.size ≤ sizeLine := Nat.le_trans hQ.2.2.1 (by rw [sizeLine_eq]; omega)
    k_dflt (refine' SrcS.mk ?a ?b ?c ?d ?_)
    case a => rfl
    case b => k_asm
    case c => k_asm
    case d => exact hsz9
    intro g9
    with_reducible refine rest_signsS swap1 ?_ ?_
    · intro z t3 I3 oI3 C3 oC3 D3 m3 ys3 h3 tk3 E3 hz hC3 hx3 F' N' off3 ne3
      have hz4 := hQ.1 z hz
      clear hsz9 hQ hrow o1 o2 hret hz
      rcases hz4 with rfl | rfl | rfl | rfl
      · k_steps
        exact ⟨_, _, _, rfl, by k_asm, cb_drop (by assumption) (fun p hp => List.mem_cons_of_mem _ hp), off3, trivial, rfl, _, by rw [swap_a]⟩
      · k_steps
        exact ⟨_, _, _, rfl, by k_asm, cb_drop (by assumption) (fun p hp => List.mem_cons_of_mem _ hp), off3, trivial, rfl, _, by rw [swap_b]⟩
      · k_steps
        exact ⟨_, _, _, rfl, by k_asm, cb_drop (by assumption) (fun p hp => List.mem_cons_of_mem _ hp), off3, trivial, rfl, _, by rw [swap_c]⟩
      · k_steps
        exact ⟨_, _, _, rfl, by k_asm, cb_drop (by assumption) (fun p hp => List.mem_cons_of_mem _ hp), off3, trivial, rfl, _, by rw [swap_d]⟩
    intro ys3 hys3 D3 h3 tk3 F' N' off3
    clear hsz9
    have oD3 := off1_mem off3
    simp only [LCg.Off1] at off3
    k_steps
    unfold Hold
    k_dflt (refine' join_S ?hl ?hs ?h1 ?hn ?_)
    case hl => exact list_of_news N' List.mem_cons_self
    case hs => with_reducible exact hys3
    case h1 =>
      intro a ha; obtain ⟨b, hb, rfl⟩ := List.mem_map.1 ha
      exact swap1_len (hQ.1 b hb)
    case hn =>
      rw [List.length_map, signs_length]
      exact Nat.le_trans hQ.2.2.1 (by omega)
    intro t9 k9 e9
    have hol : (Txt.join (Str.ofString "") (List.map swap1 (signs (frontN x i)))).length ≤ 5 := by
      rw [e9, List.length_map, signs_length]
      exact hQ.2.2.1
    clear e9
    k_steps
    unfold Hold
    have hsz9 : (frontN x i).cps.size ≤ sizeLine := Nat.le_trans hQ.2.2.1 (by rw [sizeLine_eq]; omega)
    k_dflt (refine' SrcS.mk ?a2 ?b2 ?c2 ?d2 ?_)
    case a2 => rfl
    case b2 => k_asm
    case c2 => k_asm
    case d2 => exact hsz9
    intro g9
    with_reducible refine rest_signsI (fun z => ord1 z + 128) ?_ ?_
    · intro z t3 I3 oI3 C3 oC3 D4 m3 ys4 h3 tk3 E3 hz hC3 hx3 F' N' off4 ne3
      have hz4 := hQ.1 z hz
      clear hsz9 hQ hrow o1 o2 hret hz hol oD3 hys3
      rcases hz4 with rfl | rfl | rfl | rfl
      all_goals (k_steps; exact ⟨_, _, _, rfl, by k_asm, by k_asm, off4, trivial, rfl, _, rfl⟩)
    intro ys4 hys4 D4 h4 tk4 F' N' off4
    clear hsz9
    have oD4 : ∀ p ∈ rest, p.1 ≠ D4 := fun p hp => off1_mem off4 p (by repeat (first | exact hp | apply List.mem_cons_of_mem))
    simp only [LCg.Off1] at off4
    k_steps
    unfold Hold
    have hsz9 : (otherN x i ++ Str.ofString ".").cps.size ≤ sizeLine := by
      show (otherN x i ++ Str.ofString ".").length ≤ sizeLine
      rw [Str.length_append, sizeLine_eq]
      have h5 : (otherN x i).length ≤ 5 := hQ.2.2.2.1
      have h6 : (Str.ofString ".").length = 1 := by decide +kernel
      omega
    k_dflt (refine' SrcS.mk ?a3 ?b3 ?c3 ?d3 ?_)
    case a3 => rfl
    case b3 => k_asm
    case c3 => k_asm
    case d3 => exact hsz9
    intro g9
    with_reducible refine rest_signsI ord1 ?_ ?_
    · intro z t3 I3 oI3 C3 oC3 D5 m3 ys5 h3 tk3 E3 hz hC3 hx3 F' N' off5 ne3
      have hz4 : SignOk z := hQ.2.1 z hz
      clear hsz9 hQ hrow o1 o2 hret hz hol oD3 hys3 hys4 oD4
      rcases hz4 with rfl | rfl | rfl | rfl
      all_goals (k_steps; exact ⟨_, _, _, rfl, by k_asm, by k_asm, off5, trivial, rfl, _, rfl⟩)
    intro ys5 hys5 D5 h5 tk5 F' N' off5
    clear hsz9
    have oD5 : ∀ p ∈ rest, p.1 ≠ D5 := fun p hp => off1_mem off5 p (by repeat (first | exact hp | apply List.mem_cons_of_mem))
    simp only [LCg.Off1] at off5
    k_steps
    unfold Hold
    k_dflt (refine' kmk_add_ints ?fa ?na ?la ?lb ?ia ?ib ?_ ?za)
    case fa => k_asm
    case na => k_asm
    case la => exact list_of_news N' (.tail _ List.mem_cons_self)
    case lb => exact list_of_news N' List.mem_cons_self
    case ia => with_reducible exact hys4
    case ib => with_reducible exact hys5
    case za =>
      rw [List.length_map, List.length_map, signs_length, signs_length, sizeLine_eq]
      have h5 : (otherN x i ++ Str.ofString ".").length ≤ 6 := by
        rw [Str.length_append]
        have h5 : (otherN x i).length ≤ 5 := hQ.2.2.2.1
        have h6 : (Str.ofString ".").length = 1 := by decide +kernel
        omega
      exact Nat.le_trans (Nat.add_le_add hQ.2.2.1 h5) (by omega)
    intro D6 us h6 F' N' lt6 hI6
    obtain ⟨-, -, -, -, b1, b2, b3, b4, b5, c1, c2, c3, c4, c5, hos, ⟨yb1, yb2, yb3, yb4, yb5⟩, ⟨yc1, yc2, yc3, yc4, yc5⟩, hd⟩ := hQ
    have hI7 : IntsAre us [b1, b2, b3, b4, b5, c1, c2, c3, c4, c5, 46] := hos ▸ hI6
    obtain ⟨t1, t2, t3, t4, t5, u1, u2, u3, u4, u5, u6, x1, x2, x3, x4, x5, x6, x7, x8, x9, x10, x11, x12⟩ := octs_at hI7
    have y46 := bit46
    clear hos hI6 hI7 hys3 hys4 hys5 hol
    (try k_lt lt6)
    have hrl : rv.length ≤ 10 := by rw [hrow.length]; simp only [numsUpto, List.length_map, List.length_range]; omega
    k_steps
    refine TurnN.mk (by with_reducible assumption) (by with_reducible assumption) (by with_reducible assumption) (by with_reducible assumption) (by with_reducible assumption) (by k_asm) ?_ (by k_asm) hrow hd ⟨?_, ?_⟩
    · intro z hz
      obtain ⟨z1, z2, z3, z4⟩ := hz
      simp only [ovrN, if_neg z1, if_neg z2, if_neg z3, if_neg z4]
    · omega
    · omega
  · intro g h2 tk2 u2 rv nr rest hT0 hB hX hTp hDk hrow hsub F' N'
    clear lF' lN'
    k_steps
    exact hret _ _ _ _ ⟨_, rv, nr, rfl, .head _, hrow.mono fun p hp => .tail _ hp, fun p hp => .tail _ (hsub p hp)⟩ (by k_asm) (by k_asm)
theorem words_off_RNums : True := by k_with_none; exact trivial
end Mine
end
section
open PySem PySem.W PyProof.Rows PySem.Calls
set_option Elab.async false
set_option maxRecDepth 100000
set_option linter.unusedVariables false
set_option linter.unusedSimpArgs false
namespace Mine
theorem intsAre_at {vs : List Value} {ns : List Int} (h : IntsAre vs ns) : ∀ {i : Nat} {v : Value}, vs[i]? = some v → ∃ k t, v = .int k t := by
  induction h with
  | nil => intro i v e; simp at e
  | cons n t r ih =>
    intro i v e
    cases i with
    | zero => simp at e; subst e; exact ⟨_, _, rfl⟩
    | succ i => simp at e; exact ih e
theorem intsAre_pick {vs : List Value} {ns : List Int} (h : IntsAre vs ns) : ∀ (l : List Nat), ∃ ms, IntsAre (l.filterMap (vs.toArray[·]?)) ms := by
  intro l
  induction l with
  | nil => exact ⟨[], .nil⟩
  | cons i l ih =>
    obtain ⟨ms, hm⟩ := ih
    cases e : vs.toArray[i]? with
    | none => exact ⟨ms, by rw [List.filterMap_cons_none e]; exact hm⟩
    | some v =>
      obtain ⟨k, t, rfl⟩ := intsAre_at h (i := i) (v := v) (by simpa using e)
      exact ⟨k :: ms, by rw [List.filterMap_cons_some e]; exact .cons k t hm⟩
section
variable {prog : Program} {w : World} {A : Around} {E : Value → Shared → Prop} {s : Shared} {h₀ : Heap} {L l : Addr} {m : Str → Option Value} {news : List (Addr × Obj)} {value slice : PySem.Expr} {vs : List Value} {ns : List Int} {vl vu vk : Value} {lo hi st : Option Int} {ops : List Value} {Q : Value → Shared → Prop}
theorem slice_intsI (F : Fr h₀ L s.heap m) (N : News h₀ L s.heap news) (hl : s.heap.IsList l vs.toArray) (pl : IsPart vl lo) (pu : IsPart vu hi) (hi' : IntsAre vs ns) (hz : ns.length ≤ 1000)
    (h : ∀ D ws ms h', Fr h₀ L h' m → News h₀ L h' ((D, listOf (List.toArray ws) 0) :: news) → (∀ p ∈ news, p.1 < D) → IntsAre ws ms → ms.length ≤ ns.length → Q (.ref D) { s with heap := h' })
    (hs : subscripted slice false (.ref l) (.ref s.heap.objs.size) = operate [.ref s.heap.objs.size, .ref l] (getItem (.ref l) (.ref s.heap.objs.size))) (ht : ∀ r, letTemporaryGo value (.ref l) r = pure ()) :
    wpAny (model prog w) A (subscriptTail value slice (.ref l) (.ref s.heap.objs.size)) Q E { s with heap := s.heap.push { cls := .type "slice", data := .fields #[vl, vu, .none] } } := by
  have hvs : vs.toArray.size ≤ sizeLine := by rw [List.size_toArray, sizeLine_eq, hi'.length]; omega
  refine kmk_slice F N hl pl pu (fun D h' F' N' l1 => ?_) hs ht hvs
  obtain ⟨ms, hm⟩ := intsAre_pick hi' (sliceRange (sliceBounds lo hi none vs.toArray.size).1 (sliceBounds lo hi none vs.toArray.size).2.1 (sliceBounds lo hi none vs.toArray.size).2.2)
  refine h D _ ms h' F' N' l1 hm ?_
  have q := slicePick_size_le vs.toArray lo hi none
  unfold slicePick at q
  rw [List.size_toArray] at q
  rw [← hm.length, ← hi'.length]
  simpa using q
theorem slice_intsS (F : Fr h₀ L s.heap m) (N : News h₀ L s.heap news) (hl : s.heap.IsList l vs.toArray) (pl : IsPart vl lo) (pu : IsPart vu hi) (pk : IsPart vk st) (h0 : st ≠ some 0) (hi' : IntsAre vs ns) (hz : ns.length ≤ 1000)
    (h : ∀ D ws ms h', Fr h₀ L h' m → News h₀ L h' ((D, listOf (List.toArray ws) 0) :: news) → (∀ p ∈ news, p.1 < D) → IntsAre ws ms → ms.length ≤ ns.length → Q (.ref D) { s with heap := h' })
    (hs : subscripted slice false (.ref l) (.ref s.heap.objs.size) = operate ops (getItem (.ref l) (.ref s.heap.objs.size))) (ht : ∀ r, letTemporaryGo value (.ref l) r = pure ()) :
    wpAny (model prog w) A (subscriptTail value slice (.ref l) (.ref s.heap.objs.size)) Q E { s with heap := s.heap.push { cls := .type "slice", data := .fields #[vl, vu, vk] } } := by
  have hvs : vs.toArray.size ≤ sizeLine := by rw [List.size_toArray, sizeLine_eq, hi'.length]; omega
  obtain ⟨ms, hm⟩ := intsAre_pick hi' (sliceRange (sliceBounds lo hi st vs.toArray.size).1 (sliceBounds lo hi st vs.toArray.size).2.1 (sliceBounds lo hi st vs.toArray.size).2.2)
  refine kmk_slice3_lit (zs := (slicePick vs.toArray lo hi st).toList) F N hl pl pu pk h0 rfl (fun D h' F' N' l1 => ?_) hs ht hvs
  refine h D _ ms h' F' N' l1 (by simpa [slicePick] using hm) ?_
  have q := slicePick_size_le vs.toArray lo hi st
  unfold slicePick at q
  rw [List.size_toArray] at q
  rw [← hm.length, ← hi'.length]
  simpa using q
end
section
open LCg
variable {prog : Program} {w : World} {A : Around} {h₀ : Heap} {L : Addr} {m : Str → Option Value} {env : Env} {elt : PySem.Expr} {x : Str} {scope : Scope} {cl : List (Str × Addr)} {s : Shared} {S : List (Addr × Obj) → Prop} {Fin : List Value → List (Addr × Obj) → Prop} {news : List (Addr × Obj)}
/-- a comprehension over range(n), each element a text -/
theorem rest_rangeU {n : Nat} (out : Int → Str)
    (turn : ∀ (k : Int) t I oI C oC D m₂ ys h tkk (E' : Value → Shared → Prop), 0 ≤ k → k < n → NsObj oC m₂ → m₂ x = some (.int k t) → Fr h₀ L h m → News h₀ L h ((I, oI) :: (C, oC) :: (D, lst ys) :: news) → Off3 I C D news → ((@Ne Nat I C) ∧ (@Ne Nat I D) ∧ (@Ne Nat C D)) →
      wpAny (model prog w) A (eval elt (compEnvC scope cl C env)) (CompEnd h₀ L m { s with heap := h, toks := tkk } I oI C oC D (lst ys) S (fun y news' => news' = news ∧ ∃ t, y = .str (out k) t)) E' { s with heap := h, toks := tkk })
    (fin : ∀ ys, StrsAre ys ((rangeKs 0 n).map out) → Fin ys news) :
    CompRest prog w A h₀ L m env elt x scope cl s S (fun i v => ∃ t, v = .int (0 + (i : Int)) t) Fin n 0 [] news := by
  have key : ∀ (j i : Nat) (ys : List Value), i + j = n → StrsAre ys (((rangeKs 0 n).take i).map out) → CompRest prog w A h₀ L m env elt x scope cl s S (fun i v => ∃ t, v = .int (0 + (i : Int)) t) Fin j i ys news := by
    intro j
    induction j with
    | zero =>
      intro i ys hi hy
      rw [List.take_of_length_le (by rw [rangeKs_length]; omega)] at hy
      exact CompRest.zero (fin ys hy)
    | succ j ih =>
      intro i ys hi hy
      refine CompRest.succ ?_
      intro v I oI C oC D m₂ h tk E' hv hC hx F N off ne
      obtain ⟨t, rfl⟩ := hv
      have hk : (rangeKs 0 n)[i]? = some (0 + (i : Int)) := by simp [rangeKs, show i < n by omega]
      refine wpAny_mono (turn (0 + (i : Int)) t I oI C oC D m₂ ys h tk E' (by omega) (by omega) hC hx F N off ne) (fun y s₂ hq => ?_) fun _ _ e => e
      obtain ⟨h', tk', nw, e, F', N', off', hS, hn, t', hy'⟩ := hq
      subst nw
      refine ⟨h', tk', _, e, F', N', off', hS, ?_⟩
      subst hy'
      refine ih (i + 1) _ (by omega) ?_
      rw [take_next hk, List.map_append]
      exact snoc_strs hy
  exact key _ 0 [] (by omega) (by simp only [List.take_zero, List.map_nil]; exact .nil)
end
theorem item_len1 (x : Str) (i : Int) : (Txt.item x i).length = 1 := rfl
theorem src_small {prog : Program} {w : World} {A : Around} {h₀ : Heap} {L : Addr} {m : Str → Option Value} {env : Env} {elt : PySem.Expr} {x : Str} {scope : Scope} {cl : List (Str × Addr)} {Fin : Shared → List Value → List (Addr × Obj) → Prop} {r : Addr} {b : Int} {t u v : Tok} {news : List (Addr × Obj)} {s₁ : Shared}
    (hh : A.handled = none) (F : Fr h₀ L s₁.heap m) (N : News h₀ L s₁.heap news) (hr : IsRange s₁.heap r 0 b 1 t u v) (hb : 0 ≤ b ∧ b ≤ 4)
    (h : ∀ g, LCg.CompRest prog w A h₀ L m env elt x scope cl { s₁ with heap := g } (fun _ => True) (fun i v => ∃ t, v = .int (0 + (i : Int)) t) (Fin { s₁ with heap := g }) b.toNat 0 [] news) :
    LCg.CompSrc prog w A h₀ L m env elt x scope cl Fin (.ref r) s₁ :=
  LCg.CompSrc.range (n := b.toNat) hh F N hr (small_one (by omega) (by omega) (by omega) (by omega)) (by rw [rangeSize_nat]; omega) (by rw [sizeLine_eq]; omega) h
theorem bd1 (a : Int) : 0 ≤ 1 + a.fmod 4 ∧ 1 + a.fmod 4 ≤ 4 := by
  rw [Int.fmod_eq_emod_of_nonneg a (by decide)]; omega
theorem bd0 (a : Int) : 0 ≤ a.fmod 4 ∧ a.fmod 4 ≤ 4 := by
  rw [Int.fmod_eq_emod_of_nonneg a (by decide)]; omega
end Mine
end
section
open PySem PySem.W PyProof.Rows PySem.Calls
set_option Elab.async false
set_option maxRecDepth 100000
set_option linter.unusedVariables false
set_option linter.unusedSimpArgs false
namespace Mine
noncomputable def bitsP (X : Int) (n : Nat) : List Str := (rangeKs 0 n).map fun k => Txt.item (Str.ofString "ca") ((X.fdiv (2 ^ Int.toNat k)).fmod 2)
theorem bitsP_len (X : Int) (n : Nat) : (bitsP X n).length = n := by simp [bitsP, rangeKs]
theorem bitsP_ones (X : Int) (n : Nat) : ∀ a ∈ bitsP X n, a.length = 1 := by
  intro a ha
  obtain ⟨k, _, rfl⟩ := List.mem_map.1 ha
  rfl
theorem item_ca (e : Int) : Txt.item (Str.ofString "ca") (e.fmod 2) = S [99] ∨ Txt.item (Str.ofString "ca") (e.fmod 2) = S [97] := by
  have h : e.fmod 2 = 0 ∨ e.fmod 2 = 1 := by rw [Int.fmod_eq_emod_of_nonneg e (by decide)]; omega
  rcases h with h | h <;> rw [h]
  · exact .inl (by decide +kernel)
  · exact .inr (by decide +kernel)
theorem bits_stalk (X : Int) : ∀ n, ∃ l ∈ letters n, Txt.join (Str.ofString "") (bitsP X n) = S l := by
  intro n
  induction n with
  | zero => exact ⟨[], by simp [letters], rfl⟩
  | succ n ih =>
    obtain ⟨l, hl, e⟩ := ih
    have hb : bitsP X (n + 1) = bitsP X n ++ [Txt.item (Str.ofString "ca") ((X.fdiv (2 ^ Int.toNat (n : Int))).fmod 2)] := by
      simp [bitsP, rangeKs, List.range_succ]
    rw [hb]
    rcases item_ca (X.fdiv (2 ^ Int.toNat (n : Int))) with h | h
    · exact ⟨l ++ [99], List.mem_flatMap.2 ⟨l, hl, by simp⟩, by rw [h]; exact join_snoc_S _ _ _ e⟩
    · exact ⟨l ++ [97], List.mem_flatMap.2 ⟨l, hl, by simp⟩, by rw [h]; exact join_snoc_S _ _ _ e⟩
theorem stalk_of {X : Int} {n m : Nat} (h : n ≤ m) : StalkOk m (Txt.join (Str.ofString "") (bitsP X n)) := by
  obtain ⟨l, hl, e⟩ := bits_stalk X n
  exact ⟨l, (letters_texts m h l hl).1, e⟩
section
open LCg
variable {prog : Program} {w : World} {A : Around} {E : Value → Shared → Prop} {h₀ : Heap} {L : Addr} {m : Str → Option Value} {env : Env} {elt : PySem.Expr} {x : Str} {scope : Scope} {cl : List (Str × Addr)} {Fin : Shared → List Value → List (Addr × Obj) → Prop} {r : Addr} {b X : Int} {t u v : Tok} {news : List (Addr × Obj)} {s₁ : Shared}
theorem src_bits (hh : A.handled = none) (F : Fr h₀ L s₁.heap m) (N : News h₀ L s₁.heap news) (hr : IsRange s₁.heap r 0 b 1 t u v) (hb : 0 ≤ b ∧ b ≤ 4) (X : Int)
    (turn : ∀ (g : Heap) (k : Int) t I oI C oC D m₂ ys h tkk (E' : Value → Shared → Prop), k = 0 ∨ k = 1 ∨ k = 2 ∨ k = 3 → NsObj oC m₂ → m₂ x = some (.int k t) → Fr h₀ L h m → News h₀ L h ((I, oI) :: (C, oC) :: (D, lst ys) :: news) → Off3 I C D news → ((@Ne Nat I C) ∧ (@Ne Nat I D) ∧ (@Ne Nat C D)) →
      wpAny (model prog w) A (eval elt (compEnvC scope cl C env)) (CompEnd h₀ L m { s₁ with heap := h, toks := tkk } I oI C oC D (lst ys) (fun _ => True) (fun y news' => news' = news ∧ ∃ t, y = .str (Txt.item (Str.ofString "ca") ((X.fdiv (2 ^ Int.toNat k)).fmod 2)) t)) E' { s₁ with heap := h, toks := tkk })
    (fin : ∀ g ys, StrsAre ys (bitsP X b.toNat) → Fin { s₁ with heap := g } ys news) :
    CompSrc prog w A h₀ L m env elt x scope cl Fin (.ref r) s₁ :=
  src_small hh F N hr hb fun g => rest_rangeU (fun k => Txt.item (Str.ofString "ca") ((X.fdiv (2 ^ Int.toNat k)).fmod 2))
    (fun k t I oI C oC D m₂ ys h tkk E' h1 h2 hC hx F' N' off ne => turn g k t I oI C oC D m₂ ys h tkk E' (by omega) hC hx F' N' off ne) (fun ys hy => fin g ys hy)
theorem src_bits1 (hr : IsRange s₁.heap r 0 (1 + (X.fdiv 16).fmod 4) 1 t u v) (hh : A.handled = none) (F : Fr h₀ L s₁.heap m) (N : News h₀ L s₁.heap news)
    (turn : ∀ (g : Heap) (k : Int) t I oI C oC D m₂ ys h tkk (E' : Value → Shared → Prop), k = 0 ∨ k = 1 ∨ k = 2 ∨ k = 3 → NsObj oC m₂ → m₂ x = some (.int k t) → Fr h₀ L h m → News h₀ L h ((I, oI) :: (C, oC) :: (D, lst ys) :: news) → Off3 I C D news → ((@Ne Nat I C) ∧ (@Ne Nat I D) ∧ (@Ne Nat C D)) →
      wpAny (model prog w) A (eval elt (compEnvC scope cl C env)) (CompEnd h₀ L m { s₁ with heap := h, toks := tkk } I oI C oC D (lst ys) (fun _ => True) (fun y news' => news' = news ∧ ∃ t, y = .str (Txt.item (Str.ofString "ca") ((X.fdiv (2 ^ Int.toNat k)).fmod 2)) t)) E' { s₁ with heap := h, toks := tkk })
    (fin : ∀ g ys n, 1 ≤ n ∧ n ≤ 4 → StrsAre ys (bitsP X n) → Fin { s₁ with heap := g } ys news) : CompSrc prog w A h₀ L m env elt x scope cl Fin (.ref r) s₁ :=
  src_bits hh F N hr (bd1 _) X turn fun g ys hy => fin g ys _ (by have := bd1 (X.fdiv 16); have := bd0 (X.fdiv 16); omega) hy
theorem src_bits0 (hr : IsRange s₁.heap r 0 ((X.fdiv 8).fmod 4) 1 t u v) (hh : A.handled = none) (F : Fr h₀ L s₁.heap m) (N : News h₀ L s₁.heap news)
    (turn : ∀ (g : Heap) (k : Int) t I oI C oC D m₂ ys h tkk (E' : Value → Shared → Prop), k = 0 ∨ k = 1 ∨ k = 2 ∨ k = 3 → NsObj oC m₂ → m₂ x = some (.int k t) → Fr h₀ L h m → News h₀ L h ((I, oI) :: (C, oC) :: (D, lst ys) :: news) → Off3 I C D news → ((@Ne Nat I C) ∧ (@Ne Nat I D) ∧ (@Ne Nat C D)) →
      wpAny (model prog w) A (eval elt (compEnvC scope cl C env)) (CompEnd h₀ L m { s₁ with heap := h, toks := tkk } I oI C oC D (lst ys) (fun _ => True) (fun y news' => news' = news ∧ ∃ t, y = .str (Txt.item (Str.ofString "ca") ((X.fdiv (2 ^ Int.toNat k)).fmod 2)) t)) E' { s₁ with heap := h, toks := tkk })
    (fin : ∀ g ys n, n ≤ 3 → StrsAre ys (bitsP X n) → Fin { s₁ with heap := g } ys news) : CompSrc prog w A h₀ L m env elt x scope cl Fin (.ref r) s₁ :=
  src_bits hh F N hr (bd0 _) X turn fun g ys hy => fin g ys _ (by rw [Int.fmod_eq_emod_of_nonneg _ (by decide)]; omega) hy
/-- the join of a stalk's letters: some stalk -/
theorem join_bits {D : Addr} {ys : List Value} {n k : Nat} {s : Shared} {Q : Value → Shared → Prop} (hl : s.heap.IsList D ys.toArray) (hs : StrsAre ys (bitsP X n)) (hn : n ≤ k) (hk : k ≤ 4)
    (h : ∀ z t' kk, z.length = n → StalkOk k z → Q (.str z t') { s with toks := kk }) :
    wpAny (model prog w) A (call (.builtin "str.join") [.str (Str.ofString "") t, .ref D]) Q E s :=
  join_S hl hs (bitsP_ones X n) (by rw [bitsP_len]; omega) fun t' kk e => h _ t' kk (by rw [e, bitsP_len]) (stalk_of hn)
end
end Mine
end
section
open PySem PySem.W PyProof.Rows PySem.Calls
set_option Elab.async false
set_option maxRecDepth 100000
set_option linter.unusedVariables false
set_option linter.unusedSimpArgs false
namespace Mine
local macro_rules | `(tactic| k_mem) => `(tactic| assumption)
section
variable {w : World} {x y : Str} {D : Nat → Nat → Str} {h₀ h : Heap} {Lf L tb d l : Addr} {th : Tok} {nd nl n0 nl0 : Nat} {og os ot oi oj : Obj} {vj : Option Value} {m m₀ : Str → Option Value} {I : Addr} {oI : Obj} {I2 : Addr} {oI2 o3 : Obj} {D3 a b : Addr} {rest : List (Addr × Obj)} {i j tk : Nat} {s : Shared} {vs : List Value}
  {k v k2 v2 : Str} {t1 t2 t3 t4 : Tok}
theorem TurnG.one {vs0 : List Value} (F : Fr h₀ Lf h m) (hm : ∀ z, z ≠ Str.ofString "winners" → m z = m₀ z)
    (N : News h₀ Lf h ((a, rowObj k v t1 t2 0) :: (D3, o3) :: (I2, oI2) :: gameLed w L tb d l th nd og os ot oi oj (vs ++ [.ref a]) nl ((I, oI) :: rest)))
    (hoj : oj.data = .cell vj) (hrow : RowsIn rest vs (rowsUpto x y D i j)) (hp : posRows x y D i j = [(k, v)])
    (hall : FreshIn a ((D3, o3) :: (I2, oI2) :: gameLed w L tb d l th nd og os ot oi oj vs0 nl0 ((I, oI) :: rest))) :
    TurnG w x y D h₀ Lf L tb d l th nd og os ot oi m₀ I oI I2 oI2 rest i j s .next { s with heap := h, toks := tk } := by
  refine ⟨rfl, h, tk, m, oj, vj, vs ++ [.ref a], nl, (a, rowObj k v t1 t2 0) :: rest, rfl, F, hm, cons_sub N ?_, hoj, ?_, fun p hp => .tail _ hp, ?_⟩
  · intro p hp
    simp only [gameLed, List.mem_cons] at hp ⊢
    rcases hp with h | h | h | h | h | h | h | h | h | h | h | h <;> simp only [h, true_or, or_true]
  · rw [rowsUpto_step, hp]
    exact .append (hrow.mono fun p hp => .tail _ hp) (.cons List.mem_cons_self .nil)
  · intro p hp
    rcases List.mem_cons.mp hp with rfl | hp
    · refine .inr ⟨?_, ?_, ?_, ?_, ?_⟩
      · exact fun e => hall (l, listOf vs0.toArray nl0) (by k_mem) e.symm
      · exact fun e => hall (L + 1 + 1 + 1 + 1, oi) (by k_mem) e.symm
      · exact fun e => hall (L + 1 + 1 + 1 + 1 + 1, oj) (by k_mem) e.symm
      · exact fun e => hall (I, oI) (by k_mem) e.symm
      · exact fun e => hall (I2, oI2) (by k_mem) e.symm
    · exact .inl hp
theorem TurnG.two {vs0 vs1 : List Value} (F : Fr h₀ Lf h m) (hm : ∀ z, z ≠ Str.ofString "winners" → m z = m₀ z)
    (N : News h₀ Lf h ((b, rowObj k2 v2 t3 t4 0) :: (a, rowObj k v t1 t2 0) :: (D3, o3) :: (I2, oI2) :: gameLed w L tb d l th nd og os ot oi oj ((vs ++ [.ref a]) ++ [.ref b]) nl ((I, oI) :: rest)))
    (hoj : oj.data = .cell vj) (hrow : RowsIn rest vs (rowsUpto x y D i j)) (hp : posRows x y D i j = [(k, v), (k2, v2)])
    (hall : FreshIn a ((D3, o3) :: (I2, oI2) :: gameLed w L tb d l th nd og os ot oi oj vs0 nl0 ((I, oI) :: rest)))
    (hall2 : FreshIn b ((a, rowObj k v t1 t2 0) :: (D3, o3) :: (I2, oI2) :: gameLed w L tb d l th nd og os ot oi oj vs1 n0 ((I, oI) :: rest))) :
    TurnG w x y D h₀ Lf L tb d l th nd og os ot oi m₀ I oI I2 oI2 rest i j s .next { s with heap := h, toks := tk } := by
  refine ⟨rfl, h, tk, m, oj, vj, (vs ++ [.ref a]) ++ [.ref b], nl, (b, rowObj k2 v2 t3 t4 0) :: (a, rowObj k v t1 t2 0) :: rest, rfl, F, hm, cons_sub N ?_, hoj, ?_, fun p hp => .tail _ (.tail _ hp), ?_⟩
  · intro p hp
    simp only [gameLed, List.mem_cons] at hp ⊢
    rcases hp with h | h | h | h | h | h | h | h | h | h | h | h | h <;> simp only [h, true_or, or_true]
  · rw [rowsUpto_step, hp]
    have e : rowsUpto x y D i j ++ [(k, v), (k2, v2)] = (rowsUpto x y D i j ++ [(k, v)]) ++ [(k2, v2)] := by simp
    rw [e]
    exact .append (.append (hrow.mono fun p hp => .tail _ (.tail _ hp)) (.cons (.tail _ List.mem_cons_self) .nil)) (.cons List.mem_cons_self .nil)
  · intro p hp
    rcases List.mem_cons.mp hp with rfl | hp
    · refine .inr ⟨?_, ?_, ?_, ?_, ?_⟩
      · exact fun e => hall2 (l, listOf vs1.toArray n0) (by k_mem) e.symm
      · exact fun e => hall2 (L + 1 + 1 + 1 + 1, oi) (by k_mem) e.symm
      · exact fun e => hall2 (L + 1 + 1 + 1 + 1 + 1, oj) (by k_mem) e.symm
      · exact fun e => hall2 (I, oI) (by k_mem) e.symm
      · exact fun e => hall2 (I2, oI2) (by k_mem) e.symm
    · rcases List.mem_cons.mp hp with rfl | hp
      · refine .inr ⟨?_, ?_, ?_, ?_, ?_⟩
        · exact fun e => hall (l, listOf vs0.toArray nl0) (by k_mem) e.symm
        · exact fun e => hall (L + 1 + 1 + 1 + 1, oi) (by k_mem) e.symm
        · exact fun e => hall (L + 1 + 1 + 1 + 1 + 1, oj) (by k_mem) e.symm
        · exact fun e => hall (I, oI) (by k_mem) e.symm
        · exact fun e => hall (I2, oI2) (by k_mem) e.symm
      · exact .inl hp
theorem TurnH.mk (F : Fr h₀ Lf h m) (hm : ∀ z, z ≠ Str.ofString "winners" → m z = m₀ z) {vi : Option Value} {rest' : List (Addr × Obj)}
    (N : News h₀ Lf h ((I, oI) :: gameLed w L tb d l th nd og os ot oi oj vs nl rest')) (hoi : oi.data = .cell vi) (hoj : oj.data = .cell vj) (hrow : RowsIn rest' vs (rowsUpto x y D i (y.length + 1))) (hsub : ∀ p ∈ rest, p ∈ rest')
    (hnew : ∀ p ∈ rest', p ∈ rest ∨ (p.1 ≠ l ∧ p.1 ≠ L + 1 + 1 + 1 + 1 ∧ p.1 ≠ L + 1 + 1 + 1 + 1 + 1 ∧ p.1 ≠ I)) :
    TurnH w x y D h₀ Lf L tb d l th nd og os ot m₀ I oI rest i s .next { s with heap := h, toks := tk } :=
  ⟨rfl, h, tk, m, oi, vi, oj, vj, vs, nl, rest', rfl, F, hm, N, hoi, hoj, by rw [rowsUpto_line]; exact hrow, hsub, hnew⟩
end
theorem posRows_one {x y : Str} {D : Nat → Nat → Str} {i j : Nat} (h : (i : Int) ≠ 0) : posRows x y D i j = [(spelledP (cutP x i) (cutP y j), D i j)] := by
  unfold posRows; rw [if_neg (by omega)]
theorem posRows_two {x y : Str} {D : Nat → Nat → Str} {i j : Nat} {z : Str} (h : (i : Int) = 0) (e : turnedP (D i j) = z) : posRows x y D i j = [(spelledP (cutP x i) (cutP y j), D i j), (Str.ofString "." ++ cutP y j, z)] := by
  unfold posRows; rw [if_pos (by omega), e]
/-- what the game hands back -/
noncomputable def GameOut (w : World) (rows : List (Str × Str)) (news : List (Addr × Obj)) (v : Value) (nw : List (Addr × Obj)) : Prop :=
  ∃ tb dx l th nd nl vs, v = .ref tb ∧ (tb, instObj 196 dx) ∈ nw ∧ (dx, dictOf [⟨PyData.keyHash w.params (Str.ofString "_headers"), .str (Str.ofString "_headers") th, .ref l⟩] nd) ∈ nw ∧ (l, listOf vs.toArray nl) ∈ nw ∧ RowsIn nw vs rows ∧ ∀ p ∈ news, p ∈ nw
theorem gameOut_mk {w : World} {L tb d l : Addr} {th : Tok} {nd nl : Nat} {og os ot oi oj : Obj} {vs : List Value} {rest news : List (Addr × Obj)} {rows : List (Str × Str)} (hr : RowsIn rest vs rows) (hs : ∀ p ∈ news, p ∈ rest) :
    GameOut w rows news (.ref tb) (gameLed w L tb d l th nd og os ot oi oj vs nl rest) :=
  ⟨tb, d, l, th, nd, nl, vs, rfl, by k_mem, by k_mem, by k_mem, hr.mono fun p hp => by repeat (first | exact hp | apply List.mem_cons_of_mem), fun p hp => by repeat (first | exact hs p hp | apply List.mem_cons_of_mem)⟩
end Mine
end
section
open PySem PySem.W PyProof.Rows PySem.Calls
set_option Elab.async false
set_option maxRecDepth 100000
set_option linter.unusedVariables false
set_option linter.unusedSimpArgs false
namespace Mine
set_option maxHeartbeats 3000000 in
theorem game_c (w : World) (mean : ExcName → Option Value) (mg mb : Str → Option Value) (news : List (Addr × Obj)) (x y : Str) (tx ty : Tok) (D : Nat → Nat → Str) (hx : x.length ≤ 4) (hy : y.length ≤ 4) (hG : GamePre x y D) :
   CallC w mean mg mb 229 20 news [.str x tx, .str y ty] [] (GameOut w (rowsUpto x y D (x.length + 1) 0) news) := by
  w_top off; k_with_none
  k_with "k_ne" => (first | with_reducible assumption | (refine Ne.symm ?_; with_reducible assumption))
  k_with "ktr_enter" => (first | (refine' code_def ?k1_w ?k2_w ?k3_w ?k4_w ?k5_w ?kA_w ?kF_w ?kK_w ?k6_w ?k7_w ?k8_w ?k9_w ?kB_w ?_ ?c2_w ?c3_w ?c4_w ?c5_w; (case kA_w => exact rfl); (case kF_w => exact rfl); (case kK_w => first | exact rfl | assumption); (case k1_w => k_asm); (case k2_w => k_asm); (case k3_w => k_asm); (case k4_w => k_asm); (case k5_w => k_asm); (case k6_w => k_is); (case k7_w => k_is); (case k8_w => ktr_room); (case k9_w => first | exact BindsTo.of_eq rfl | exact binds_K (by k_in) rfl (by k_is) rfl rfl rfl | (refine' kp_binds ?kx_w ?ke_w; (case kx_w => k_in); (case ke_w => exact fun _ => rfl))); (case c5_w => decide); (case kB_w => exact locs rfl); (case c2_w => exact rfl); (case c3_w => exact rfl); (case c4_w => exact rfl); k_whole; intro g'_w L'_w h'_w FG'_w F'_w N'_w B'_w X'_w T'_w; (try dsimp only); (try k_lift B'_w); (try k_fold)) | (refine' code_defC ?k1_w ?k2_w ?k3_w ?k4_w ?k5_w ?kA_w ?kF_w ?kK_w ?k6_w ?k7_w ?k8_w ?k9_w ?kB_w ?kD_w ?_ ?c2_w ?c3_w ?c4_w; (case kA_w => exact rfl); (case kF_w => exact rfl); (case kK_w => first | exact rfl | assumption); (case k1_w => k_asm); (case k2_w => k_asm); (case k3_w => k_asm); (case k4_w => k_asm); (case k5_w => k_asm); (case k6_w => k_is); (case k7_w => k_is); (case k8_w => ktr_room); (case k9_w => first | exact BindsTo.of_eq rfl | exact binds_K (by k_in) rfl (by k_is) rfl rfl rfl | (refine' kp_binds ?kx_w ?ke_w; (case kx_w => k_in); (case ke_w => exact fun _ => rfl))); (case kB_w => exact rfl); (case kD_w => decide +kernel); (case c2_w => exact rfl); (case c3_w => exact rfl); (case c4_w => exact rfl); k_whole; intro g'_w L'_w h'_w tk'_w cells'_w FG'_w F'_w N'_w Y'_w B'_w X'_w T'_w l1_w; (have hcell9_w := offFrom_of l1_w); (try k_lt l1_w); k_cells Y'_w; (try simp only [List.cons_append, List.nil_append] at N'_w); (try dsimp only); (try k_lift B'_w); (try k_fold)))
  k_with "k_room" => (ktr_room)
  k_with "call builtin:str.lower" => ((k_here; (refine SCL.lower (by first | omega | (simp only [Str.length_append, len_lits]; omega)) ?_); intro hl9_w))
  k_with "call builtin:str.upper" => ((k_here; (refine SCL.upper (by first | omega | (simp only [Str.length_append, len_lits]; omega)) ?_); intro hl9_w))
  k_with "call ref" => ((k_here; (k_dflt (show wpAny _ _ (call (Value.ref 97) [Value.ref _, Value.str _ _] [(_, Value.bool _)]) _ _ _)); k_dflt (refine' CallC.use (conv_c _ _ _ _ _ _ _ _ _ ?hx_w ?hpl_w) ?k1_w ?k2_w ?k3_w ?k4_w ?k5_w ?kK_w ?kd_w ?ku_w ?_; (case k1_w => k_asm); (case k2_w => k_asm); (case k3_w => k_asm); (case k4_w => k_asm); (case k5_w => k_asm); (case kK_w => first | exact rfl | assumption); (case kd_w => ktr_room); (case ku_w => ktr_units); (case hx_w => (first | assumption | omega)); (case hpl_w => assumption); intro v9_w nw9_w h9_w tk9_w hR9_w F9_w N9_w; (obtain ⟨e9_w, e9n_w⟩ := hR9_w; subst e9_w; rw [e9n_w] at N9_w; clear e9n_w); (try dsimp only); (try k_fold))))
  k_with "k_mem" => (assumption)
  k_with "k_all" => (assumption)
  k_with "k_all" => (((with_reducible rename OffFrom _ _ => hc9_w); exact offFrom_ne hc9_w (by omega)))
  k_with "CompSrc" => ((refine hold ?_))
  k_with "call ref" => ((k_here; (k_dflt (show wpAny _ _ (call (Value.ref 224) [Value.ref _, Value.str _ _, Value.str _ _, Value.int 0 _]) _ _ _)); k_dflt (refine' CallC.use (win0_c _ _ _ _ _ _ _ _ _ _ _ _ _ _ _ _ _ _ _ ?t1_w ?t2_w ?t3_w ?t4_w ?hsn_w ?hx_w ?hy_w ?hn_w) ?k1_w ?k2_w ?k3_w ?k4_w ?k5_w ?kK_w ?kd_w ?ku_w ?_; (case k1_w => k_asm); (case k2_w => k_asm); (case k3_w => k_asm); (case k4_w => k_asm); (case k5_w => k_asm); (case kK_w => first | exact rfl | assumption); (case kd_w => ktr_room); (case ku_w => ktr_units); (case t1_w => k_mem); (case t2_w => k_mem); (case t3_w => k_mem); (case t4_w => (refine' RowsIn.mono ?su_w ?ro_w; (case ro_w => assumption); (case su_w => (intro p9_w hp9_w; repeat (first | exact hp9_w | apply List.mem_cons_of_mem))))); (case hsn_w => assumption); (case hx_w => (first | assumption | omega)); (case hy_w => (first | assumption | omega)); (case hn_w => assumption); intro v9_w nw9_w h9_w tk9_w hR9_w F9_w N9_w; (obtain ⟨e9n_w, t9_w, e9_w⟩ := hR9_w; subst e9_w; rw [e9n_w] at N9_w; clear e9n_w); (try dsimp only); (try k_fold))))
  k_with "call ref" => ((k_here; (k_dflt (show wpAny _ _ (call (Value.ref 224) [Value.ref _, Value.str _ _, Value.str _ _, Value.int 1 _]) _ _ _)); k_dflt (refine' CallC.use (win1_c _ _ _ _ _ _ _ _ _ _ _ _ _ _ _ _ _ _ _ ?t1_w ?t2_w ?t3_w ?t4_w ?hsn_w ?hx_w ?hy_w ?hn_w) ?k1_w ?k2_w ?k3_w ?k4_w ?k5_w ?kK_w ?kd_w ?ku_w ?_; (case k1_w => k_asm); (case k2_w => k_asm); (case k3_w => k_asm); (case k4_w => k_asm); (case k5_w => k_asm); (case kK_w => first | exact rfl | assumption); (case kd_w => ktr_room); (case ku_w => ktr_units); (case t1_w => k_mem); (case t2_w => k_mem); (case t3_w => k_mem); (case t4_w => (refine' RowsIn.mono ?su_w ?ro_w; (case ro_w => assumption); (case su_w => (intro p9_w hp9_w; repeat (first | exact hp9_w | apply List.mem_cons_of_mem))))); (case hsn_w => assumption); (case hx_w => (first | assumption | omega)); (case hy_w => (first | assumption | omega)); (case hn_w => assumption); intro v9_w nw9_w h9_w tk9_w hR9_w F9_w N9_w; (obtain ⟨e9n_w, t9_w, e9_w⟩ := hR9_w; subst e9_w; rw [e9n_w] at N9_w; clear e9n_w); (try dsimp only); (try k_fold))))
  k_with "call ref" => ((k_here; (k_dflt (show wpAny _ _ (call (Value.ref 214) [Value.str _ _, Value.str _ _]) _ _ _)); k_dflt (refine' PureC.use (spelled_c _ _ _ _ _ _ _ _ _ ?hx_w ?hy_w) ?k1_w ?k2_w ?k3_w ?k4_w ?k5_w ?kK_w ?kd_w ?ku_w ?_; (case k1_w => k_asm); (case k2_w => k_asm); (case k3_w => k_asm); (case k4_w => k_asm); (case k5_w => k_asm); (case kK_w => first | exact rfl | assumption); (case kd_w => ktr_room); (case ku_w => ktr_units); (case hx_w => omega); (case hy_w => omega); intro t9_w h9_w tk9_w F9_w N9_w; (try dsimp only); (try k_fold))))
  k_with "call ref" => ((k_here; (k_dflt (show wpAny _ _ (call (Value.ref 193) [Value.ref _, Value.str _ _, Value.str _ _]) _ _ _)); k_dflt (refine' CallC.use (addF_c _ _ _ _ _ _ _ _ _ _ _ _ _ _ _ _ _ ?U_w ?t1_w ?t2_w ?n1_w ?n2_w ?hlv_w ?hx1_w ?hpl_w ?hy1_w ?hply_w) ?k1_w ?k2_w ?k3_w ?k4_w ?k5_w ?kK_w ?kd_w ?ku_w ?_; (case k1_w => k_asm); (case k2_w => k_asm); (case k3_w => k_asm); (case k4_w => k_asm); (case k5_w => k_asm); (case kK_w => first | exact rfl | assumption); (case kd_w => ktr_room); (case ku_w => ktr_units); (case t1_w => k_mem); (case t2_w => k_mem); (case U_w => k_updF); (case n1_w => k_ne); (case n2_w => k_ne); (case hlv_w => (first | omega | (simp only [List.length_append, List.length_cons, List.length_nil]; omega))); (case hx1_w => (first | with_reducible assumption | omega)); (case hpl_w => with_reducible assumption); (case hy1_w => (first | with_reducible assumption | omega)); (case hply_w => with_reducible assumption); intro v9_w nw9_w h9_w tk9_w hR9_w F9_w N9_w; (obtain ⟨e9_w, a9_w, tk9_w, tv9_w, e9n_w, hal9_w⟩ := hR9_w; subst e9_w; rw [e9n_w] at N9_w; clear e9n_w; (have ho9_w := off1_of hal9_w); (simp only [LCg.Off1] at ho9_w); (try dsimp only at N9_w)); (try dsimp only); (try k_fold))))
  k_with "call ref" => ((k_here; (k_dflt (show wpAny _ _ (call (Value.ref 219) [Value.ref _]) _ _ _)); k_dflt (refine' PureC.use (turnedL_c _ _ _ _ _ _ _ _ _ ?hD_w ?hs_w ?hn_w) ?k1_w ?k2_w ?k3_w ?k4_w ?k5_w ?kK_w ?kd_w ?ku_w ?_; (case k1_w => k_asm); (case k2_w => k_asm); (case k3_w => k_asm); (case k4_w => k_asm); (case k5_w => k_asm); (case kK_w => first | exact rfl | assumption); (case kd_w => ktr_room); (case ku_w => ktr_units); (case hD_w => k_mem); (case hs_w => with_reducible assumption); (case hn_w => exact Nat.le_of_ble_eq_true rfl); intro t9_w h9_w tk9_w F9_w N9_w; (try dsimp only); (try k_fold))))
  unfold CallC; k_fill; intros; rename_i hret
  refine wpAny_call ?_
  k_dflt ktr_enter
  k_steps
  (rename Fr _ _ _ _ => lF'); (rename News _ _ _ _ => lN')
  k_dflt (refine For_rowsE lF' lN' (by rfl) (by rfl) (by rfl) (by rfl) (fun _ => rfl) ?_ ?_)
  · k_steps
    all_goals (first | assumption | k_asm)
  intro h tk u F' N'
  clear lF' lN'
  k_steps
  (rename Fr _ _ _ _ => lF'); (rename News _ _ _ _ => lN')
  k_dflt (refine For_gameI (n := x.length + 1) (x := x) (y := y) (D := D) (rest := news) (vs := []) lF' lN' (by assumption) (by assumption) (by rw [rowsUpto_zero]; exact .nil) ?_ (by omega) (by rfl) (fun _ => rfl) ?_ ?_ ?_)
  · intro p hp
    (with_reducible rename OffFrom _ _ => hL9)
    have q1 := hL9 p hp
    have q2 : ∀ {e : Nat}, @LT.lt Nat _ p.1 e → p.1 ≠ e := fun h q => Nat.lt_irrefl _ (q ▸ h)
    refine ⟨q2 ?_, q2 ?_, q2 ?_⟩
    · have q1' : @LT.lt Nat _ p.1 _ := q1
      omega
    · have q1' : @LT.lt Nat _ p.1 _ := q1
      omega
    · have q1' : @LT.lt Nat _ p.1 _ := q1
      omega
  · k_steps
    all_goals (first | assumption | k_asm)
  · intro i t I oI u oi vi oj vj vs nl rest h tkk E' hi hoi hoj hrow o1 o2 o3 o4 oo F' N'
    clear lF' lN'
    obtain ⟨oo1, oo2, oo3, oo4, oo5, oo6, oo7, oo8⟩ := oo
    k_steps
    (rename Fr _ _ _ _ => lF'); (rename News _ _ _ _ => lN')
    k_dflt (refine For_gameJ (n := y.length + 1) (x := x) (y := y) (D := D) (rest := rest) (i := i) (vs := vs) lF' lN' (by assumption) hrow (fun p hp => ⟨o1 p hp, o2 p hp, o3 p hp, o4 p hp⟩) ⟨oo1, oo5, oo4⟩ (by omega) (by rfl) (fun _ => rfl) ?_ ?_ ?_)
    · k_steps
      all_goals (first | assumption | k_asm)
    · intro j t2 I2 oI2 u2 oj2 vj2 vs2 nl2 rest2 h2 tkk2 E2' hj hoj2 hrow2 p1 p2 p3 p4 p5 pp F' N'
      clear lF' lN'
      obtain ⟨pp1, pp2, pp3, pp4, pp5, pp6, pp7, pp8, pp9⟩ := pp
      obtain ⟨val, hv0, hv1, hjoin, hd1, hd2, hs1, hs2, hdot, ht1, ht2, htj, hsn, hrl⟩ := hG i j (by omega) (by omega)
      rw [htj] at ht1 ht2
      have hvl := rows_len_of hrow2 hrl
      have hdl : (Str.ofString "." ++ cutP y j).length ≤ 100 := by simp only [Str.length_append, len_lits]; exact Nat.le_trans (Nat.add_le_add_left (PySem.Txt.slice_le _ _ _) 1) (by omega)
      have hcx : (cutP x i).length ≤ 10 := Nat.le_trans (PySem.Txt.slice_le _ _ _) (by omega)
      have hcy : (cutP y j).length ≤ 10 := Nat.le_trans (PySem.Txt.slice_le _ _ _) (by omega)
      k_steps
      unfold Hold
      k_dflt (refine LCg.CompSrc.range (by rfl) (by k_asm) (by k_asm) (by assumption) (by decide) (by rfl) (Nat.le_of_ble_eq_true rfl) ?_)
      intro g9
      refine rest_two (win0P (cutP x i) (cutP y j) val) (win1P (cutP x i) (cutP y j) val) ?_ ?_ ?_
      · intro t3 I3 oI3 C3 oC3 D3 m3 ys3 h3 tk3 E3 hC3 hx3 F' N' off3 ne3
        k_steps
        exact ⟨_, _, _, rfl, by k_asm, by k_asm, off3, trivial, rfl, _, rfl⟩
      · intro t3 I3 oI3 C3 oC3 D3 m3 ys3 h3 tk3 E3 hC3 hx3 F' N' off3 ne3
        k_steps
        exact ⟨_, _, _, rfl, by k_asm, by k_asm, off3, trivial, rfl, _, rfl⟩
      intro t0 t1 D3 h3 tk3 F' N' off3
      have oD3 : ∀ p ∈ rest2, p.1 ≠ D3 := fun p hp => off1_mem off3 p (by repeat (first | exact hp | apply List.mem_cons_of_mem))
      simp only [LCg.Off1] at off3
      obtain ⟨q1, q2, q3, q4, q5, q6, q7, q8, q9, q10, q11⟩ := off3
      k_steps
      k_dflt (refine join_S (ys := [_, _]) (zs := [win0P (cutP x i) (cutP y j) val, win1P (cutP x i) (cutP y j) val]) (list_of_news (by k_asm) (by k_mem)) (.cons _ _ (.cons _ _ .nil)) ?_ (Nat.le_of_ble_eq_true rfl) ?_)
      · intro a ha
        rcases List.mem_cons.mp ha with rfl | ha
        · exact win0P_len _ _ _
        · rcases List.mem_cons.mp ha with rfl | ha
          · exact win1P_len _ _ _
          · cases ha
      intro t9 k9 e9
      rw [hjoin]
      clear e9
      have hsA : StrsAre [Value.str (win0P (cutP x i) (cutP y j) val) t0, .str (win1P (cutP x i) (cutP y j) val) t1] [win0P (cutP x i) (cutP y j) val, win1P (cutP x i) (cutP y j) val] := .cons _ _ (.cons _ _ .nil)
      k_steps
      · exact TurnG.two (by k_asm) (fun z hz => by simp only [if_neg hz]) (by k_asm) (by with_reducible assumption) hrow2 (posRows_two (by with_reducible assumption) htj) (by with_reducible assumption) (by with_reducible assumption)
      · exact TurnG.one (by k_asm) (fun z hz => by simp only [if_neg hz]) (by k_asm) (by with_reducible assumption) hrow2 (posRows_one (by with_reducible assumption)) (by with_reducible assumption)
    · intro h2 tk2 u2 oj2 vj2 vs2 nl2 rest2 hoj2 hrow2 hsub2 hnew2 F' N'
      k_steps
      exact TurnH.mk F' (fun z hz => by simp only [if_neg hz]) N' (by assumption) hoj2 hrow2 hsub2 hnew2
  · intro h2 tk2 u2 oi2 vi2 oj2 vj2 vs2 nl2 rest2 hoi2 hoj2 hrow2 hsub2 F' N'
    clear lF' lN'
    k_steps
    exact hret _ _ _ _ (gameOut_mk hrow2 hsub2) (by k_asm) (by k_asm)
theorem words_off_RGame : True := by k_with_none; exact trivial
end Mine
end
section
open PySem PySem.W PyProof.Rows PySem.Calls
set_option Elab.async false
set_option maxRecDepth 100000
set_option linter.unusedVariables false
set_option linter.unusedSimpArgs false
namespace Mine
set_option maxHeartbeats 1000000 in
theorem getall_c (w : World) (mean : ExcName → Option Value) (mg mb : Str → Option Value) (news : List (Addr × Obj)) (tb dx l : Addr) (th : Tok) (nd nl : Nat) (vs : List Value) (rows : List (Str × Str)) (x : Str) (tx : Tok)
    (hT1 : (tb, instObj 196 dx) ∈ news) (hT2 : (dx, dictOf [⟨PyData.keyHash w.params (Str.ofString "_headers"), .str (Str.ofString "_headers") th, .ref l⟩] nd) ∈ news) (hT3 : (l, listOf vs.toArray nl) ∈ news) (hT4 : RowsIn news vs rows)
    (hsn : ShortNames rows) (hln : rows.length ≤ 1000) (hx : x.length ≤ 30) (hx1 : (Txt.lower x).length ≤ 100) (hpl : plainText (Txt.lower x)) :
   CallC w mean mg mb 135 6 news [.ref tb, .str x tx] [] (fun v nw => ∃ D ys n, v = .ref D ∧ nw = (D, listOf ys.toArray n) :: news ∧ StrsAre ys ((rows.filter fun r => Txt.lower r.1 == Txt.lower x).map (·.2)) ∧ ∀ p ∈ news, p.1 ≠ D) := by
  w_top off; k_with_none
  k_with "ktr_enter" => (first | (refine' code_def ?k1_w ?k2_w ?k3_w ?k4_w ?k5_w ?kA_w ?kF_w ?kK_w ?k6_w ?k7_w ?k8_w ?k9_w ?kB_w ?_ ?c2_w ?c3_w ?c4_w ?c5_w; (case kA_w => exact rfl); (case kF_w => exact rfl); (case kK_w => first | exact rfl | assumption); (case k1_w => k_asm); (case k2_w => k_asm); (case k3_w => k_asm); (case k4_w => k_asm); (case k5_w => k_asm); (case k6_w => k_is); (case k7_w => k_is); (case k8_w => ktr_room); (case k9_w => first | exact BindsTo.of_eq rfl | exact binds_K (by k_in) rfl (by k_is) rfl rfl rfl | (refine' kp_binds ?kx_w ?ke_w; (case kx_w => k_in); (case ke_w => exact fun _ => rfl))); (case c5_w => decide); (case kB_w => exact locs rfl); (case c2_w => exact rfl); (case c3_w => exact rfl); (case c4_w => exact rfl); k_whole; intro g'_w L'_w h'_w FG'_w F'_w N'_w B'_w X'_w T'_w; (try dsimp only); (try k_lift B'_w); (try k_fold)) | (refine' code_defC ?k1_w ?k2_w ?k3_w ?k4_w ?k5_w ?kA_w ?kF_w ?kK_w ?k6_w ?k7_w ?k8_w ?k9_w ?kB_w ?kD_w ?_ ?c2_w ?c3_w ?c4_w; (case kA_w => exact rfl); (case kF_w => exact rfl); (case kK_w => first | exact rfl | assumption); (case k1_w => k_asm); (case k2_w => k_asm); (case k3_w => k_asm); (case k4_w => k_asm); (case k5_w => k_asm); (case k6_w => k_is); (case k7_w => k_is); (case k8_w => ktr_room); (case k9_w => first | exact BindsTo.of_eq rfl | exact binds_K (by k_in) rfl (by k_is) rfl rfl rfl | (refine' kp_binds ?kx_w ?ke_w; (case kx_w => k_in); (case ke_w => exact fun _ => rfl))); (case kB_w => exact rfl); (case kD_w => decide +kernel); (case c2_w => exact rfl); (case c3_w => exact rfl); (case c4_w => exact rfl); k_whole; intro g'_w L'_w h'_w tk'_w cells'_w FG'_w F'_w N'_w Y'_w B'_w X'_w T'_w l1_w; (have hcell9_w := offFrom_of l1_w); (try k_lt l1_w); k_cells Y'_w; (try simp only [List.cons_append, List.nil_append] at N'_w); (try dsimp only); (try k_lift B'_w); (try k_fold)))
  k_with "k_room" => (ktr_room)
  k_with "call builtin:str.lower" => ((k_here; (refine SCL.lower (by first | omega | (simp only [Str.length_append, len_lits]; omega)) ?_); intro hl9_w))
  k_with "call builtin:str.upper" => ((k_here; (refine SCL.upper (by first | omega | (simp only [Str.length_append, len_lits]; omega)) ?_); intro hl9_w))
  k_with "call ref" => ((k_here; (k_dflt (show wpAny _ _ (call (Value.ref 97) [Value.ref _, Value.str _ _] [(_, Value.bool _)]) _ _ _)); k_dflt (refine' CallC.use (conv_c _ _ _ _ _ _ _ _ _ ?hx_w ?hpl_w) ?k1_w ?k2_w ?k3_w ?k4_w ?k5_w ?kK_w ?kd_w ?ku_w ?_; (case k1_w => k_asm); (case k2_w => k_asm); (case k3_w => k_asm); (case k4_w => k_asm); (case k5_w => k_asm); (case kK_w => first | exact rfl | assumption); (case kd_w => ktr_room); (case ku_w => ktr_units); (case hx_w => (first | assumption | omega)); (case hpl_w => assumption); intro v9_w nw9_w h9_w tk9_w hR9_w F9_w N9_w; (obtain ⟨e9_w, e9n_w⟩ := hR9_w; subst e9_w; rw [e9n_w] at N9_w; clear e9n_w); (try dsimp only); (try k_fold))))
  k_with "k_mem" => (assumption)
  k_with "k_all" => (assumption)
  k_with "k_all" => (((with_reducible rename OffFrom _ _ => hc9_w); exact offFrom_ne hc9_w (by omega)))
  k_with "eval ListComp" => ((k_here; lct_look; k_dflt (refine LCt.ListComp_T (F₀ := by k_asm) (by with_unfolding_all rfl) (by decide) (by rfl) (by decide) (by rfl) ?_)))
  k_with "exec Assign cons ListComp" => ((k_here; lct_look; k_dflt (refine LCt.Assign_ListComp_T (F₀ := by k_asm) (by rfl) (by with_unfolding_all rfl) (by with_unfolding_all rfl) (by decide) (by rfl) (by decide) (by rfl) (by rfl) (by rfl) ?_)))
  k_with "CompSrcT" => ((refine hold ?_))
  unfold CallC; k_fill; intros; rename_i hret
  refine wpAny_call ?_
  k_dflt ktr_enter
  k_steps
  unfold Hold
  k_dflt (refine LCt.CompSrcT.ledger (by rfl) (by k_asm) (by k_asm) (.tail _ hT3) (by rw [List.size_toArray, sizeLine_eq, hT4.length]; omega) ?_)
  intro g9
  refine rest_rowsT (fun r => Txt.lower r.1 == Txt.lower x) (fun r => r.2) (RowsIn.mono (fun p hp => List.mem_cons_of_mem _ hp) hT4) ?_ ?_
  · intro a k v tk tv nn I oI C oC D m₂ ys h tkk E' hkv hmem hC' hx' F' N' off' ne'
    have hk9 : k.length ≤ 100 := (hsn _ hkv).1
    k_steps
    · exact ⟨_, _, _, rfl, by k_asm, by k_asm, off', .inr ⟨_, .tail _ hT3, rfl, _, rfl⟩, rfl, by assumption, _, rfl⟩
    · exact ⟨_, _, _, rfl, by k_asm, by k_asm, off', .inr ⟨_, .tail _ hT3, rfl, _, rfl⟩, rfl, by assumption⟩
  · intro ys hys D h tk F' N' off'
    k_steps
    all_goals (exact hret _ _ _ _ ⟨D, ys, _, rfl, rfl, hys, fun p hp => off1_mem off' p (.tail _ hp)⟩ (by k_asm) (by first | k_asm | (refine cb_drop (by assumption) (fun p hp => ?_); rcases List.mem_cons.mp hp with rfl | hp; exact List.mem_cons_self; exact List.mem_cons_of_mem _ (List.mem_cons_of_mem _ hp))))
theorem words_off_RGetAll : True := by k_with_none; exact trivial
end Mine
end
section
open PySem PySem.W PyProof.Rows PySem.Calls
set_option Elab.async false
set_option maxRecDepth 100000
set_option linter.unusedVariables false
set_option linter.unusedSimpArgs false
namespace Mine
set_option maxHeartbeats 1000000 in
theorem keys_c (w : World) (mean : ExcName → Option Value) (mg mb : Str → Option Value) (news : List (Addr × Obj)) (tb dx l : Addr) (th : Tok) (nd nl : Nat) (vs : List Value) (rows : List (Str × Str))
    (hT1 : (tb, instObj 196 dx) ∈ news) (hT2 : (dx, dictOf [⟨PyData.keyHash w.params (Str.ofString "_headers"), .str (Str.ofString "_headers") th, .ref l⟩] nd) ∈ news) (hT3 : (l, listOf vs.toArray nl) ∈ news) (hT4 : RowsIn news vs rows)
    (hln : rows.length ≤ 1000) :
   CallC w mean mg mb 148 6 news [.ref tb] [] (fun v nw => ∃ D ys n, v = .ref D ∧ nw = (D, listOf ys.toArray n) :: news ∧ StrsAre ys (rows.map (·.1)) ∧ ∀ p ∈ news, p.1 ≠ D) := by
  w_top off; k_with_none
  k_with "ktr_enter" => (first | (refine' code_def ?k1_w ?k2_w ?k3_w ?k4_w ?k5_w ?kA_w ?kF_w ?kK_w ?k6_w ?k7_w ?k8_w ?k9_w ?kB_w ?_ ?c2_w ?c3_w ?c4_w ?c5_w; (case kA_w => exact rfl); (case kF_w => exact rfl); (case kK_w => first | exact rfl | assumption); (case k1_w => k_asm); (case k2_w => k_asm); (case k3_w => k_asm); (case k4_w => k_asm); (case k5_w => k_asm); (case k6_w => k_is); (case k7_w => k_is); (case k8_w => ktr_room); (case k9_w => first | exact BindsTo.of_eq rfl | exact binds_K (by k_in) rfl (by k_is) rfl rfl rfl | (refine' kp_binds ?kx_w ?ke_w; (case kx_w => k_in); (case ke_w => exact fun _ => rfl))); (case c5_w => decide); (case kB_w => exact locs rfl); (case c2_w => exact rfl); (case c3_w => exact rfl); (case c4_w => exact rfl); k_whole; intro g'_w L'_w h'_w FG'_w F'_w N'_w B'_w X'_w T'_w; (try dsimp only); (try k_lift B'_w); (try k_fold)) | (refine' code_defC ?k1_w ?k2_w ?k3_w ?k4_w ?k5_w ?kA_w ?kF_w ?kK_w ?k6_w ?k7_w ?k8_w ?k9_w ?kB_w ?kD_w ?_ ?c2_w ?c3_w ?c4_w; (case kA_w => exact rfl); (case kF_w => exact rfl); (case kK_w => first | exact rfl | assumption); (case k1_w => k_asm); (case k2_w => k_asm); (case k3_w => k_asm); (case k4_w => k_asm); (case k5_w => k_asm); (case k6_w => k_is); (case k7_w => k_is); (case k8_w => ktr_room); (case k9_w => first | exact BindsTo.of_eq rfl | exact binds_K (by k_in) rfl (by k_is) rfl rfl rfl | (refine' kp_binds ?kx_w ?ke_w; (case kx_w => k_in); (case ke_w => exact fun _ => rfl))); (case kB_w => exact rfl); (case kD_w => decide +kernel); (case c2_w => exact rfl); (case c3_w => exact rfl); (case c4_w => exact rfl); k_whole; intro g'_w L'_w h'_w tk'_w cells'_w FG'_w F'_w N'_w Y'_w B'_w X'_w T'_w l1_w; (have hcell9_w := offFrom_of l1_w); (try k_lt l1_w); k_cells Y'_w; (try simp only [List.cons_append, List.nil_append] at N'_w); (try dsimp only); (try k_lift B'_w); (try k_fold)))
  k_with "k_room" => (ktr_room)
  k_with "call builtin:str.lower" => ((k_here; (refine SCL.lower (by first | omega | (simp only [Str.length_append, len_lits]; omega)) ?_); intro hl9_w))
  k_with "call builtin:str.upper" => ((k_here; (refine SCL.upper (by first | omega | (simp only [Str.length_append, len_lits]; omega)) ?_); intro hl9_w))
  k_with "call ref" => ((k_here; (k_dflt (show wpAny _ _ (call (Value.ref 97) [Value.ref _, Value.str _ _] [(_, Value.bool _)]) _ _ _)); k_dflt (refine' CallC.use (conv_c _ _ _ _ _ _ _ _ _ ?hx_w ?hpl_w) ?k1_w ?k2_w ?k3_w ?k4_w ?k5_w ?kK_w ?kd_w ?ku_w ?_; (case k1_w => k_asm); (case k2_w => k_asm); (case k3_w => k_asm); (case k4_w => k_asm); (case k5_w => k_asm); (case kK_w => first | exact rfl | assumption); (case kd_w => ktr_room); (case ku_w => ktr_units); (case hx_w => (first | assumption | omega)); (case hpl_w => assumption); intro v9_w nw9_w h9_w tk9_w hR9_w F9_w N9_w; (obtain ⟨e9_w, e9n_w⟩ := hR9_w; subst e9_w; rw [e9n_w] at N9_w; clear e9n_w); (try dsimp only); (try k_fold))))
  k_with "k_mem" => (assumption)
  k_with "k_all" => (assumption)
  k_with "k_all" => (((with_reducible rename OffFrom _ _ => hc9_w); exact offFrom_ne hc9_w (by omega)))
  k_with "eval ListComp" => ((k_here; lcp_look; k_dflt (refine LCp.ListComp_P (F₀ := by k_asm) (by with_unfolding_all rfl) (by decide) (by rfl) (by decide) (by rfl) (by rfl) (by decide) ?_)))
  k_with "SrcLP" => ((refine hold ?_))
  unfold CallC; k_fill; intros; rename_i hret
  refine wpAny_call ?_
  k_dflt ktr_enter
  k_steps
  unfold Hold
  k_dflt (refine LCp.SrcLP.ledger (by rfl) (by k_asm) (by k_asm) hT3 (by rw [List.size_toArray, sizeLine_eq, hT4.length]; omega) ?_)
  intro g9
  refine rest_rowsP (fun r => r.1) hT4 ?_ ?_
  · intro a k v tk tv nn I oI C oC D m₂ ys h tkk E' hkv hmem hC' hx' hx2' F' N' off' ne'
    k_steps
    all_goals (exact ⟨_, _, _, rfl, by k_asm, by k_asm, off', .inr ⟨_, hT3, rfl, _, rfl⟩, rfl, _, rfl⟩)
  · intro ys hys D h tk F' N' off'
    k_steps
    all_goals (exact hret _ _ _ _ ⟨D, ys, _, rfl, rfl, hys, off1_mem off'⟩ (by k_asm) (by k_asm))
theorem words_off_RKeys : True := by k_with_none; exact trivial
end Mine
end
section
open PySem PySem.W PyProof.Rows PySem.Calls
set_option Elab.async false
set_option maxRecDepth 100000
set_option linter.unusedVariables false
set_option linter.unusedSimpArgs false
namespace Mine
noncomputable def numF (x : Str) (i : Nat) : Int × Int :=
  (five ((octN x i).getD 0 0) ((octN x i).getD 1 0) ((octN x i).getD 2 0) ((octN x i).getD 3 0) ((octN x i).getD 4 0), five ((octN x i).getD 5 0) ((octN x i).getD 6 0) ((octN x i).getD 7 0) ((octN x i).getD 8 0) ((octN x i).getD 9 0))
noncomputable def SumOk (x : Str) : Prop := ∀ i, i ≤ x.length → (numF x i).1 + (numF x i).2 = 1158959452
noncomputable def CmpOk (x y : Str) : Prop := ∀ i j, i ≤ x.length → j ≤ y.length → ((numF y j).2 < (numF x i).1 ↔ 0 < moreF x y i j) ∧ ((numF x i).1 < (numF y j).2 ↔ moreF x y i j < 0)
theorem lit_bbbb : Str.ofString "bbbb" = S [98, 98, 98, 98] := by decide +kernel
noncomputable def frL (l : List Nat) : List Nat := (l ++ [98, 98, 98, 98]).take 4 ++ [46]
noncomputable def swapL (c : Nat) : Nat := if c = 97 then 99 else if c = 99 then 97 else c
theorem frontN_S {l : List Nat} {i : Nat} (h : i ≤ l.length) : frontN (S l) i = S (frL (l.take i)) := by
  show Txt.slice (cutP (S l) i ++ Str.ofString "bbbb") none (some 4) ++ Str.ofString "." = _
  have e : Txt.slice (S (l.take i ++ [98, 98, 98, 98])) none (some ((4 : Nat) : Int)) = S ((l.take i ++ [98, 98, 98, 98]).take 4) := slice_to _ 4 (by simp)
  rw [cut_list h, lit_bbbb, app_S, show (4 : Int) = ((4 : Nat) : Int) from rfl, e, lit_dotS, app_S]
  rfl
theorem signs_S (l : List Nat) : signs (S l) = l.map fun c => S [c] := by
  rw [signs_def]
  show (l.toArray.toList).map _ = _
  rw [List.toList_toArray]
  rfl
theorem join_all : ∀ (l r : List Nat) (zs : List Str), Txt.join (Str.ofString "") zs = S r → Txt.join (Str.ofString "") (zs ++ l.map fun c => S [c]) = S (r ++ l)
  | [], r, zs, h => by rw [List.map_nil, List.append_nil, List.append_nil]; exact h
  | c :: l, r, zs, h => by
    have := join_all l (r ++ [c]) (zs ++ [S [c]]) (join_snoc_S zs r [c] h)
    rw [List.append_assoc, List.append_assoc] at this
    exact this
/-- the letters, b and the dot -/
noncomputable def Abc (l : List Nat) : Prop := ∀ c ∈ l, c = 97 ∨ c = 98 ∨ c = 99 ∨ c = 46
theorem sign_ok {c : Nat} (h : c = 97 ∨ c = 98 ∨ c = 99 ∨ c = 46) : SignOk (S [c]) := by
  rcases h with rfl | rfl | rfl | rfl
  · exact .inl (by decide +kernel)
  · exact .inr (.inl (by decide +kernel))
  · exact .inr (.inr (.inl (by decide +kernel)))
  · exact .inr (.inr (.inr (by decide +kernel)))
theorem swap_one {c : Nat} (h : c = 97 ∨ c = 98 ∨ c = 99 ∨ c = 46) : swap1 (S [c]) = S [swapL c] := by
  rcases h with rfl | rfl | rfl | rfl <;> decide +kernel
theorem ord_one (c : Nat) : ord1 (S [c]) = (c : Int) := rfl
theorem swap_map {l : List Nat} (h : Abc l) : (signs (S l)).map swap1 = (l.map swapL).map fun c => S [c] := by
  rw [signs_S, List.map_map, List.map_map]
  exact List.map_congr_left fun c hc => swap_one (h c hc)
theorem other_S {l : List Nat} {i : Nat} (h : i ≤ l.length) (ha : Abc (frL (l.take i))) : otherN (S l) i = S ((frL (l.take i)).map swapL) := by
  unfold otherN
  rw [frontN_S h, swap_map ha]
  have := join_all ((frL (l.take i)).map swapL) [] [] rfl
  rw [List.nil_append, List.nil_append] at this
  exact this
noncomputable def octL (l : List Nat) : List Int := (frL l).map (fun (c : Nat) => (c : Int) + 128) ++ ((frL l).map swapL ++ [46]).map fun (c : Nat) => (c : Int)
theorem oct_S {l : List Nat} {i : Nat} (h : i ≤ l.length) (ha : Abc (frL (l.take i))) : octN (S l) i = octL (l.take i) := by
  unfold octN octL
  rw [frontN_S h, other_S h ha, lit_dotS, app_S, signs_S, signs_S, List.map_map, List.map_map]
  rfl
noncomputable def numL (l : List Nat) : Int × Int :=
  (five ((octL l).getD 0 0) ((octL l).getD 1 0) ((octL l).getD 2 0) ((octL l).getD 3 0) ((octL l).getD 4 0), five ((octL l).getD 5 0) ((octL l).getD 6 0) ((octL l).getD 7 0) ((octL l).getD 8 0) ((octL l).getD 9 0))
theorem num_S {l : List Nat} {i : Nat} (h : i ≤ l.length) (ha : Abc (frL (l.take i))) : numF (S l) i = numL (l.take i) := by
  unfold numF numL
  rw [oct_S h ha]
theorem fr_form {l : List Nat} (hl : l ∈ texts 4) : ∃ a b c d, frL l = [a, b, c, d, 46] ∧ (a = 97 ∨ a = 98 ∨ a = 99) ∧ (b = 97 ∨ b = 98 ∨ b = 99) ∧ (c = 97 ∨ c = 98 ∨ c = 99) ∧ (d = 97 ∨ d = 98 ∨ d = 99) := by
  have h := texts4_let l hl
  have hm : ∀ c ∈ (l ++ [98, 98, 98, 98]).take 4, c = 97 ∨ c = 98 ∨ c = 99 := by
    intro c hc
    rcases List.mem_append.1 (List.mem_of_mem_take hc) with hc | hc
    · rcases h.1 c hc with e | e <;> simp [e]
    · simp at hc; simp [hc]
  have hlen : ((l ++ [98, 98, 98, 98]).take 4).length = 4 := by rw [List.length_take, List.length_append]; simp
  unfold frL
  generalize (l ++ [98, 98, 98, 98]).take 4 = q at hm hlen
  match q, hlen with
  | [a, b, c, d], _ => exact ⟨a, b, c, d, rfl, hm a (by simp), hm b (by simp), hm c (by simp), hm d (by simp)⟩
theorem fr_abc {l : List Nat} (hl : l ∈ texts 4) : Abc (frL l) := by
  obtain ⟨a, b, c, d, e, ha, hb, hc, hd⟩ := fr_form hl
  rw [e]
  intro x hx
  simp only [List.mem_cons, List.not_mem_nil, or_false] at hx
  have k : ∀ {z : Nat}, (z = 97 ∨ z = 98 ∨ z = 99) → z = 97 ∨ z = 98 ∨ z = 99 ∨ z = 46 := fun h => h.elim .inl fun h => .inr (h.elim .inl fun h => .inr (.inl h))
  rcases hx with rfl | rfl | rfl | rfl | rfl
  · exact k ha
  · exact k hb
  · exact k hc
  · exact k hd
  · exact .inr (.inr (.inr rfl))
theorem swap_abc {l : List Nat} (h : Abc l) : Abc (l.map swapL) := by
  intro x hx
  obtain ⟨c, hc, rfl⟩ := List.mem_map.1 hx
  rcases h c hc with rfl | rfl | rfl | rfl <;> decide
theorem hi_bit {a : Nat} (h : a = 97 ∨ a = 98 ∨ a = 99) : Builtin.bitAnd ((a : Int) + 128) 64 = 64 ∧ Builtin.bitAnd ((swapL a : Nat) : Int) 64 = 64 := by
  rcases h with rfl | rfl | rfl <;> exact ⟨by decide +kernel, by decide +kernel⟩
theorem num_okL {l : List Nat} (hl : l ∈ texts 4) {i : Nat} (hi : i ≤ l.length) : NumOk (S l) i (numF (S l) i) := by
  have ht := texts4_take l hl i (by have := (texts4_let l hl).2; omega)
  have hA := fr_abc ht
  obtain ⟨a, b, c, d, e, ha, hb, hc, hd⟩ := fr_form ht
  have hlen : (frL (l.take i)).length = 5 := by rw [e]; rfl
  refine ⟨?_, ?_, ?_, ?_, (a : Int) + 128, (b : Int) + 128, (c : Int) + 128, (d : Int) + 128, ((46 : Nat) : Int) + 128, ((swapL a : Nat) : Int), ((swapL b : Nat) : Int), ((swapL c : Nat) : Int), ((swapL d : Nat) : Int), ((swapL 46 : Nat) : Int), ?_,
    ⟨(hi_bit ha).1, (hi_bit hb).1, (hi_bit hc).1, (hi_bit hd).1, by decide +kernel⟩, ⟨(hi_bit ha).2, (hi_bit hb).2, (hi_bit hc).2, (hi_bit hd).2, by decide +kernel⟩, ?_⟩
  · rw [frontN_S hi, signs_S]
    intro z hz
    obtain ⟨q, hq, rfl⟩ := List.mem_map.1 hz
    exact sign_ok (hA q hq)
  · rw [other_S hi hA, lit_dotS, app_S, signs_S]
    intro z hz
    obtain ⟨q, hq, rfl⟩ := List.mem_map.1 hz
    refine sign_ok ?_
    rcases List.mem_append.1 hq with hq | hq
    · exact swap_abc hA q hq
    · rw [List.mem_singleton] at hq; subst hq; exact .inr (.inr (.inr rfl))
  · rw [frontN_S hi, len_S, hlen]; exact Nat.le_refl _
  · rw [other_S hi hA, len_S, List.length_map, hlen]; exact Nat.le_refl _
  · rw [oct_S hi hA]
    unfold octL
    rw [e]
    rfl
  · rw [num_S hi hA]
    unfold numL octL
    rw [e]
    rfl
theorem stalk_4 {n : Nat} {l : List Nat} (h : l ∈ texts n) (hn : n ≤ 4) : l ∈ texts 4 := by
  have h1 : ∀ m, l ∈ texts m → l ∈ texts (m + 1) := fun m h => List.mem_append_left _ h
  match n, hn with
  | 0, _ => exact h1 _ (h1 _ (h1 _ (h1 _ h)))
  | 1, _ => exact h1 _ (h1 _ (h1 _ h))
  | 2, _ => exact h1 _ (h1 _ h)
  | 3, _ => exact h1 _ h
  | 4, _ => exact h
theorem num_ok {n : Nat} {x : Str} (hx : StalkOk n x) (hn : n ≤ 4) : NumPre x (numF x) := by
  obtain ⟨l, hl, rfl⟩ := hx
  intro i hi
  exact num_okL (stalk_4 hl hn) (by rw [len_S] at hi; exact hi)
theorem sums_L : ∀ l ∈ texts 4, (numL l).1 + (numL l).2 = 1158959452 := by decide +kernel
theorem sum_ok {n : Nat} {x : Str} (hx : StalkOk n x) (hn : n ≤ 4) : SumOk x := by
  obtain ⟨l, hl, rfl⟩ := hx
  have hl := stalk_4 hl hn
  intro i hi
  rw [len_S] at hi
  have ht := texts4_take l hl i (by have := (texts4_let l hl).2; omega)
  rw [num_S hi (fr_abc ht)]
  exact sums_L _ ht
theorem cmps_L : ∀ l ∈ texts 4, ∀ k ∈ texts 3, ((numL k).2 < (numL l).1 ↔ 0 < worthL l + worthL k) ∧ ((numL l).1 < (numL k).2 ↔ worthL l + worthL k < 0) := by decide +kernel
theorem cmp_ok {x y : Str} (hx : StalkOk 4 x) (hy : StalkOk 3 y) : CmpOk x y := by
  obtain ⟨l, hl, rfl⟩ := hx
  obtain ⟨k, hk, rfl⟩ := hy
  intro i j hi hj
  rw [len_S] at hi hj
  have ht := texts4_take l hl i (by have := (texts4_let l hl).2; omega)
  have hu := texts3_take k hk j (by have := (texts3_let k hk).2; omega)
  unfold moreF
  rw [num_S hi (fr_abc ht), num_S hj (fr_abc (texts3_4 _ hu)), cut_list hi, cut_list hj, worth_S _ ht, worth_S _ (texts3_4 _ hu)]
  exact cmps_L _ ht _ hu
end Mine
end
section
open PySem PySem.W PyProof.Rows PySem.Calls
set_option Elab.async false
set_option maxRecDepth 100000
set_option linter.unusedVariables false
set_option linter.unusedSimpArgs false
namespace Mine
section
variable {prog : Program} {w : World} {A : Around} {E : Value → Shared → Prop} {s : Shared} {h₀ : Heap} {L a b : Addr} {m : Str → Option Value} {news : List (Addr × Obj)} {vs ws : List Value} {n k : Nat} {Q : Value → Shared → Prop}
theorem add_listK (F : Fr h₀ L s.heap m) (N : News h₀ L s.heap news) (ha : (a, listOf vs.toArray n) ∈ news) (hb : (b, listOf ws.toArray k) ∈ news) (hz : vs.length + ws.length ≤ 1000)
    (h : ∀ D h', Fr h₀ L h' m → News h₀ L h' ((D, listOf (vs ++ ws).toArray 0) :: news) → (∀ p ∈ news, p.1 < D) → Q (.ref D) { s with heap := h' }) :
    wpAny (model prog w) A (binaryOp .Add (.ref a) (.ref b)) Q E s :=
  add_arrays (its := vs.toArray) (its2 := ws.toArray) F N ⟨_, (N _ ha).1, rfl, n, rfl⟩ ⟨_, (N _ hb).1, rfl, k, rfl⟩ (fun h' F' N' => h _ h' F' N' fun p hp => Heap.lt_size (N p hp).1)
    (by rw [List.size_toArray, List.size_toArray, sizeLine_eq]; omega)
end
section
open LCg LCt
variable {prog : Program} {w : World} {A : Around} {h₀ : Heap} {L : Addr} {m : Str → Option Value} {env : Env} {ct elt : PySem.Expr} {x : Str} {scope : Scope} {cl : List (Str × Addr)} {s : Shared} {S : List (Addr × Obj) → Prop} {Fin : List Value → List (Addr × Obj) → Prop} {news : List (Addr × Obj)}
/-- a comprehension over rows of numbers, whose test no row passes -/
theorem rest_none {vs : List Value} {rows : List (Int × Int)} (hr : NumsIn news vs rows)
    (turn : ∀ r a b t1 t2 t3 nn I oI C oC D m₂ ys h tkk (E' : Value → Shared → Prop), (a, b) ∈ rows → (r, numObj a b t1 t2 t3 nn) ∈ news → NsObj oC m₂ → m₂ x = some (.ref r) → Fr h₀ L h m → News h₀ L h ((I, oI) :: (C, oC) :: (D, lst ys) :: news) → Off3 I C D news → ((@Ne Nat I C) ∧ (@Ne Nat I D) ∧ (@Ne Nat C D)) →
      wpAny (model prog w) A (isTrue ct (compEnvC scope cl C env) (eval ct (compEnvC scope cl C env))) (fun ok s' => ok = false ∧ CompEnd h₀ L m { s with heap := h, toks := tkk } I oI C oC D (lst ys) S (fun _ news' => news' = news) Value.none s') E' { s with heap := h, toks := tkk })
    (fin : Fin [] news) :
    CompRestT prog w A h₀ L m env ct elt x scope cl s S (fun i v => vs.toArray[i]? = some v) Fin vs.toArray.size 0 [] news := by
  have key : ∀ (j i : Nat), i + j = vs.toArray.size → CompRestT prog w A h₀ L m env ct elt x scope cl s S (fun i v => vs.toArray[i]? = some v) Fin j i [] news := by
    intro j
    induction j with
    | zero => intro i hi; exact CompRestT.zero fin
    | succ j ih =>
      intro i hi
      refine CompRestT.succ ?_
      intro v I oI C oC D m₂ h tk E' hv hC hx F N off ne
      obtain ⟨r, a, b, t1, t2, t3, n₁, rfl, hrow, hmem⟩ := hr.get (i := i) (v := v) (by simpa using hv)
      refine wpAny_mono (turn r a b t1 t2 t3 n₁ I oI C oC D m₂ [] h tk E' (List.mem_of_getElem? hrow) hmem hC hx F N off ne) (fun ok s₂ hq => ?_) fun _ _ e => e
      obtain ⟨hok, hq⟩ := hq
      rw [if_neg (by rw [hok]; exact Bool.false_ne_true)]
      obtain ⟨h', tk', nw, e, F', N', off', hS, hn⟩ := hq
      subst nw
      exact ⟨h', tk', _, e, F', N', off', hS, ih (i + 1) (by omega)⟩
  exact key _ 0 (by omega)
end
theorem nums_len (D : Nat → Int × Int) (n : Nat) : (numsUpto D n).length = n := by simp [numsUpto]
theorem nums_sum {x : Str} (h : SumOk x) {n : Nat} (hn : n ≤ x.length + 1) {a b : Int} (hm : (a, b) ∈ numsUpto (numF x) n) : a + b = 1158959452 := by
  obtain ⟨i, hi, e⟩ := List.mem_map.1 hm
  have := h i (by have := List.mem_range.1 hi; omega)
  rw [e] at this
  exact this
end Mine
end
section
open PySem PySem.W PyProof.Rows PySem.Calls
set_option Elab.async false
set_option maxRecDepth 100000
set_option linter.unusedVariables false
set_option linter.unusedSimpArgs false
namespace Mine
noncomputable abbrev ovr6 (u m₀ : Str → Option Value) : Str → Option Value := fun z => if z = Str.ofString "j" then u z else if z = Str.ofString "more" then u z else if z = Str.ofString "high" then u z else if z = Str.ofString "low" then u z else if z = Str.ofString "due" then u z else if z = Str.ofString "name" then u z else m₀ z
noncomputable abbrev ovr7 (u m₀ : Str → Option Value) : Str → Option Value := fun z => if z = Str.ofString "j" then u z else if z = Str.ofString "more" then u z else if z = Str.ofString "high" then u z else if z = Str.ofString "low" then u z else if z = Str.ofString "due" then u z else if z = Str.ofString "name" then u z else if z = Str.ofString "i" then u z else m₀ z
noncomputable def Off6 (z : Str) : Prop := z ≠ Str.ofString "j" ∧ z ≠ Str.ofString "more" ∧ z ≠ Str.ofString "high" ∧ z ≠ Str.ofString "low" ∧ z ≠ Str.ofString "due" ∧ z ≠ Str.ofString "name"
noncomputable def Off7 (z : Str) : Prop := z ≠ Str.ofString "j" ∧ z ≠ Str.ofString "more" ∧ z ≠ Str.ofString "high" ∧ z ≠ Str.ofString "low" ∧ z ≠ Str.ofString "due" ∧ z ≠ Str.ofString "name" ∧ z ≠ Str.ofString "i"
theorem ovr6_conv {m m₀ : Str → Option Value} (h : ∀ z, Off6 z → m z = m₀ z) : ∃ u : Str → Option Value, m = ovr6 u m₀ :=
  ⟨m, funext fun z => by
    unfold ovr6
    split
    · rfl
    · split
      · rfl
      · split
        · rfl
        · split
          · rfl
          · split
            · rfl
            · split
              · rfl
              · exact h z ⟨by assumption, by assumption, by assumption, by assumption, by assumption, by assumption⟩⟩
theorem ovr7_conv {m m₀ : Str → Option Value} (h : ∀ z, Off7 z → m z = m₀ z) : ∃ u : Str → Option Value, m = ovr7 u m₀ :=
  ⟨m, funext fun z => by
    unfold ovr7
    split
    · rfl
    · split
      · rfl
      · split
        · rfl
        · split
          · rfl
          · split
            · rfl
            · split
              · rfl
              · split
                · rfl
                · exact h z ⟨by assumption, by assumption, by assumption, by assumption, by assumption, by assumption, by assumption⟩⟩
noncomputable def TurnW (Off : Str → Prop) (h₀ : Heap) (L nm : Addr) (m₀ : Str → Option Value) (I : Addr) (oI : Obj) (rest : List (Addr × Obj)) (T : List Str) (s : Shared) (f : Flow) (s₂ : Shared) : Prop :=
  f = .next ∧ ∃ h tk m ns n, s₂ = { s with heap := h, toks := tk } ∧ Fr h₀ L h m ∧ (∀ z, Off z → m z = m₀ z) ∧ News h₀ L h ((I, oI) :: (nm, listOf (List.toArray ns) n) :: rest) ∧ StrsAre ns T
section
variable {prog : Program} {w : World} {A : Around} {E : Value → Shared → Prop} {s : Shared} {env : Env} {h₀ : Heap}
theorem For_lawG (Off : Str → Prop) (ov : (Str → Option Value) → (Str → Option Value) → Str → Option Value) (hov : ∀ m m₀, (∀ z, Off z → m z = m₀ z) → ∃ u, m = ov u m₀) {T : Nat → List Str} {nm : Addr} {m₀ : Str → Option Value} {ns₀ : List Value} {n₀ : Nat} {rest : List (Addr × Obj)} {xn : Str} {pk pos : Pos} {iter : PySem.Expr} {body : List Stmt} {Q : Flow → Shared → Prop} {n : Nat}
    (F₀ : Fr h₀ env.locals s.heap m₀) (N₀ : News h₀ env.locals s.heap ((nm, listOf ns₀.toArray n₀) :: rest)) (hns : StrsAre ns₀ (T 0)) (hof : ∀ p ∈ rest, p.1 ≠ nm) (hn : n ≤ 1000)
    (hh : A.handled = none) (hs : ∀ x, foldedSetIterable iter env x = pure x)
    (hiter : wpAny (model prog w) A (eval iter env) (fun xv s₁ => ∃ r b t u v h tk, xv = .ref r ∧ s₁ = { s with heap := h, toks := tk } ∧ IsRange h r 0 b 1 t u v ∧ b = (n : Int) ∧ Fr h₀ env.locals h m₀ ∧ News h₀ env.locals h ((nm, listOf ns₀.toArray n₀) :: rest)) E s)
    (turn : ∀ (i : Nat) (t : Tok) I oI (u : Str → Option Value) ns k h tkk (E' : Value → Shared → Prop), i < n → StrsAre ns (T i) → (∀ p ∈ rest, p.1 ≠ I) → @Ne Nat I nm →
      Fr h₀ env.locals h (ov u m₀) → News h₀ env.locals h ((I, oI) :: (nm, listOf (List.toArray ns) k) :: rest) →
      wpAny (model prog w) A (storeName env xn (.int (i : Int) t)) (fun _ s₂ => wpAny (model prog w) A (execs body env) (TurnW Off h₀ env.locals nm m₀ I oI rest (T (i + 1)) { s with heap := h, toks := tkk }) E' s₂) E' { s with heap := h, toks := tkk })
    (done : ∀ h tk (u : Str → Option Value) ns k, StrsAre ns (T n) → Fr h₀ env.locals h (ov u m₀) → News h₀ env.locals h ((nm, listOf (List.toArray ns) k) :: rest) → Q .next { s with heap := h, toks := tk }) :
    wpAny (model prog w) A (exec (.For (.Name xn pk) iter body [] pos) env) Q E s := by
  refine For_rangeJ (h₀ := h₀) (n := n) (fun i m nw => ∃ ns k, nw = (nm, listOf (List.toArray ns) k) :: rest ∧ StrsAre ns (T i) ∧ ∀ z, Off z → m z = m₀ z) hn hh hs (wpAny_mono hiter (fun xv s₁ h₁ => ?_) fun _ _ e => e) ?_ ?_
  · obtain ⟨r, b, t, u, v, h, tk, e1, e2, hR, e3, F, N⟩ := h₁
    exact ⟨r, b, t, u, v, h, tk, _, _, e1, e2, hR, e3, F, N, ns₀, n₀, rfl, hns, fun z hz => rfl⟩
  · rintro i t I2 oI2 m nw h tkk E' hj ⟨ns, k, rfl, hns', hm⟩ hI2 F N
    obtain ⟨u, rfl⟩ := hov _ _ hm
    refine wpAny_mono (turn i t I2 oI2 u ns k h tkk E' hj hns' (fun p hp => hI2 p (.tail _ hp)) (fun e => hI2 (nm, listOf ns.toArray k) (.head _) e.symm) F N)
      (fun _ s₂ h₂ => wpAny_mono h₂ (fun f s₃ h₃ => ?_) fun _ _ e => e) fun _ _ e => e
    obtain ⟨rfl, h', tk', m', ns', k', e, F', hm', N', hns2⟩ := h₃
    refine ⟨h', tk', m', _, e, F', N', ?_, ns', k', rfl, hns2, hm'⟩
    intro p hp
    rcases List.mem_cons.mp hp with rfl | hp
    · exact hI2 (nm, listOf ns.toArray k) (.head _)
    · exact hI2 p (.tail _ hp)
  · rintro h tk m nw ⟨ns, k, rfl, hns', hm⟩ F N
    obtain ⟨u, rfl⟩ := hov _ _ hm
    exact done h tk u ns k hns' F N
end
@[irreducible] noncomputable def namesTo (x y : Str) (i j : Nat) : List Str := (rowsUpto x y (dueF x y) i j).map (·.1)
@[irreducible] noncomputable def rowsAll (x y : Str) : List (Str × Str) := rowsUpto x y (dueF x y) (x.length + 1) 0
theorem namesTo_zero (x y : Str) : namesTo x y 0 0 = [] := by unfold namesTo; rw [rowsUpto_zero]; rfl
theorem namesTo_line (x y : Str) (i : Nat) : namesTo x y (i + 1) 0 = namesTo x y i (y.length + 1) := by unfold namesTo; rw [rowsUpto_line]
theorem namesTo_step (x y : Str) (i j : Nat) : namesTo x y i (j + 1) = namesTo x y i j ++ (posRows x y (dueF x y) i j).map (·.1) := by unfold namesTo; rw [rowsUpto_step, List.map_append]
theorem namesTo_all (x y : Str) : (rowsAll x y).map (·.1) = namesTo x y (x.length + 1) 0 := by unfold rowsAll namesTo; rfl
theorem rowsAll_in {news : List (Addr × Obj)} {vs : List Value} {x y : Str} (h : RowsIn news vs (rowsUpto x y (dueF x y) (x.length + 1) 0)) : RowsIn news vs (rowsAll x y) := by unfold rowsAll; exact h
theorem off_conj {d : Addr} {l : List (Addr × Obj)} (h : AllLt d l) : ∀ p ∈ l, p.1 ≠ d := allLt_ne h
section
variable {prog : Program} {w : World} {A : Around} {E : Value → Shared → Prop} {s : Shared} {h₀ : Heap} {L : Addr} {news : List (Addr × Obj)}
/-- a row of numbers by its place -/
theorem item_num {value slice : PySem.Expr} {l : Addr} {vs : List Value} {rows : List (Int × Int)} {n i : Nat} {u : Tok} {Q : Value → Shared → Prop} (N : News h₀ L s.heap news) (hp : (l, listOf vs.toArray n) ∈ news) (hr : NumsIn news vs rows) (hi : i < rows.length) (hz : rows.length ≤ 1000)
    (h : ∀ r a b t1 t2 t3 k, rows[i]? = some (a, b) → (r, numObj a b t1 t2 t3 k) ∈ news → Q (.ref r) s)
    (hs : subscripted slice false (.ref l) (.int (i : Int) u) = operate [.ref l, .int (i : Int) u] (getItem (.ref l) (.int (i : Int) u)) := by with_unfolding_all rfl) :
    wpAny (model prog w) A (subscriptTail value slice (.ref l) (.int (i : Int) u)) Q E s := by
  have hl : s.heap.IsList l vs.toArray := ⟨_, (N _ hp).1, rfl, n, rfl⟩
  have hi' : i < vs.length := by rw [hr.length]; exact hi
  obtain ⟨r, a, b, t1, t2, t3, k, e, hrow, hm⟩ := hr.get (i := i) (v := vs[i]) (List.getElem?_eq_getElem hi')
  refine tail_any hl.typeIs slot_list_getitem.lookup (wpAny_getItem_list hl (by omega) (by omega) (x := .ref r) ?_ (h r a b t1 t2 t3 k hrow hm)) hs
  rw [Int.toNat_natCast, ← e]
  simp [hi']
end
end Mine
end
section
open PySem PySem.W PyProof.Rows PySem.Calls
set_option Elab.async false
set_option maxRecDepth 100000
set_option linter.unusedVariables false
set_option linter.unusedSimpArgs false
namespace Mine
section
variable {prog : Program} {w : World} {A : Around} {E : Value → Shared → Prop} {s : Shared} {h₀ : Heap} {L : Addr} {news : List (Addr × Obj)}
theorem item_n0 {value slice : PySem.Expr} {r : Addr} {a b : Int} {t1 t2 t3 : Tok} {n : Nat} {u : Tok} {Q : Value → Shared → Prop} (N : News h₀ L s.heap news) (hp : (r, numObj a b t1 t2 t3 n) ∈ news) (h : Q (.int a t1) s)
    (hs : subscripted slice false (.ref r) (.int 0 u) = operate [.ref r, .int 0 u] (getItem (.ref r) (.int 0 u)) := by with_unfolding_all rfl) :
    wpAny (model prog w) A (subscriptTail value slice (.ref r) (.int 0 u)) Q E s := by
  have hl : s.heap.IsList r #[.int a t1, .int b t2, .int 46 t3] := ⟨_, (N _ hp).1, rfl, n, rfl⟩
  exact tail_any hl.typeIs slot_list_getitem.lookup (wpAny_getItem_list hl (by omega) (by omega) (x := .int a t1) rfl h) hs
theorem item_n1 {value slice : PySem.Expr} {r : Addr} {a b : Int} {t1 t2 t3 : Tok} {n : Nat} {u : Tok} {Q : Value → Shared → Prop} (N : News h₀ L s.heap news) (hp : (r, numObj a b t1 t2 t3 n) ∈ news) (h : Q (.int b t2) s)
    (hs : subscripted slice false (.ref r) (.int 1 u) = operate [.ref r, .int 1 u] (getItem (.ref r) (.int 1 u)) := by with_unfolding_all rfl) :
    wpAny (model prog w) A (subscriptTail value slice (.ref r) (.int 1 u)) Q E s := by
  have hl : s.heap.IsList r #[.int a t1, .int b t2, .int 46 t3] := ⟨_, (N _ hp).1, rfl, n, rfl⟩
  exact tail_any hl.typeIs slot_list_getitem.lookup (wpAny_getItem_list hl (by omega) (by omega) (x := .int b t2) rfl h) hs
end
noncomputable abbrev nameP (x y : Str) (i j : Nat) : Str := Txt.slice x none (some (i : Int)) ++ Str.ofString "." ++ Txt.slice y none (some (j : Int))
/-- all that a turn of the law's loops asks of a name -/
noncomputable def NameF (x y : Str) (i j : Nat) : Prop :=
  (nameP x y i j).length ≤ 8 ∧ (Txt.upper (nameP x y i j)).length ≤ 8 ∧ (Txt.lower (nameP x y i j)).length ≤ 8 ∧ plainText (Txt.lower (nameP x y i j)) ∧ ShortNames (rowsAll x y) ∧ (rowsAll x y).length ≤ 100 ∧
  ((rowsAll x y).filter fun r => Txt.lower r.1 == Txt.lower (nameP x y i j)).map (·.2) = dueF x y i j :: (if i = 0 then [turnedP (dueF x y i j)] else []) ∧
  (posRows x y (dueF x y) i j).map (·.1) = (if ((i : Int) + (j : Int)).fmod 2 = 1 then Txt.upper (nameP x y i j) else nameP x y i j) :: (if i = 0 then [nameP x y i j] else [])
theorem namesTo_len {x y : Str} {i j : Nat} (hi : i ≤ 6) (hj : j ≤ 6) (hy : y.length ≤ 4) : (namesTo x y i j).length ≤ 100 := by
  unfold namesTo
  rw [List.length_map]
  exact upto_len hi hj hy
theorem name_f {x y : Str} (hx : StalkOk 4 x) (hy : StalkOk 3 y) {i j : Nat} (hi : i ≤ x.length) (hj : j ≤ y.length) : NameF x y i j := by
  obtain ⟨l, hl, rfl⟩ := hx
  obtain ⟨k, hk, rfl⟩ := hy
  rw [len_S] at hi hj
  have tl := texts4_let l hl
  have tk := texts3_let k hk
  have ll : Let l := tl.1
  have lk : Let k := tk.1
  have hN : nameP (S l) (S k) i j = S (nmL (l.take i) (k.take j)) := by
    show cutP (S l) i ++ Str.ofString "." ++ cutP (S k) j = _
    rw [cut_list hi, cut_list hj, name_S]
  have hs := nm_small (ll.take i) (lk.take j)
  have hlen : (nmL (l.take i) (k.take j)).length ≤ 8 := by
    rw [nm_len, List.length_take, List.length_take]; omega
  unfold NameF
  rw [hN]
  refine ⟨by rw [len_S]; exact hlen, by rw [upper_S hs, len_S, List.length_map]; exact hlen, by rw [lower_S hs, len_S]; exact hlen, by rw [lower_S hs]; exact plain_S hs, ?_, ?_, ?_, ?_⟩
  · unfold rowsAll
    rw [len_S]
    exact rows_short hl hk (.inr ⟨rfl, rfl⟩)
  · unfold rowsAll
    exact upto_len (by rw [len_S]; omega) (by omega) (by rw [len_S]; omega)
  · unfold rowsAll
    rw [lower_S hs, len_S]
    exact filter_rows ll lk hi hj
  · unfold posRows
    rw [cut_list hi, cut_list hj, spelled_S (ll.take i) (lk.take j), List.length_take, List.length_take, Nat.min_eq_left hi, Nat.min_eq_left hj]
    rw [List.map_cons]
    by_cases h : i = 0
    · subst h
      rw [if_pos rfl, if_pos rfl]
      show _ :: [Str.ofString "." ++ S (k.take j)] = _
      rw [name_S0]
      rfl
    · rw [if_neg h, if_neg h]
      rfl
theorem strs_one {vs : List Value} {d : Str} (h : StrsAre vs [d]) : ∃ t, vs = [.str d t] := by
  cases h with
  | cons y t r => cases r; exact ⟨t, rfl⟩
theorem strs_two {vs : List Value} {d e : Str} (h : StrsAre vs [d, e]) : ∃ t u, vs = [.str d t, .str e u] := by
  cases h with
  | cons y t r => obtain ⟨u, rfl⟩ := strs_one r; exact ⟨t, u, rfl⟩
theorem nums_at {D : Nat → Int × Int} {n i : Nat} {a b : Int} (h : (numsUpto D n)[i]? = some (a, b)) (hi : i < n) : (D i).1 = a ∧ (D i).2 = b := by
  unfold numsUpto at h
  rw [List.getElem?_map, List.getElem?_range hi] at h
  have := Option.some.inj h
  exact ⟨by rw [this], by rw [this]⟩
/-- the law's own comparison -/
theorem cmp_at {x y : Str} (hx : StalkOk 4 x) (hy : StalkOk 3 y) {i j : Nat} (hi : i < x.length + 1) (hj : j < y.length + 1) {a1 b1 a2 b2 : Int} (h1 : (numsUpto (numF x) (x.length + 1))[i]? = some (a1, b1)) (h2 : (numsUpto (numF y) (y.length + 1))[j]? = some (a2, b2)) :
    (decide (b2 < a1) == decide (0 < worthP (Txt.slice x none (some (i : Int))) + worthP (Txt.slice y none (some (j : Int)))) && decide (a1 < b2) == decide (worthP (Txt.slice x none (some (i : Int))) + worthP (Txt.slice y none (some (j : Int))) < 0)) = true := by
  have h := cmp_ok hx hy i j (by omega) (by omega)
  rw [(nums_at h1 hi).1, (nums_at h2 hj).2] at h
  rw [Bool.and_eq_true, beq_iff_eq, beq_iff_eq]
  exact ⟨decide_eq_decide.2 h.1, decide_eq_decide.2 h.2⟩
theorem due_at {x y : Str} (hx : StalkOk 4 x) (hy : StalkOk 3 y) {i j : Nat} (hi : i < x.length + 1) (hj : j < y.length + 1) {a1 b1 a2 b2 : Int} (h1 : (numsUpto (numF x) (x.length + 1))[i]? = some (a1, b1)) (h2 : (numsUpto (numF y) (y.length + 1))[j]? = some (a2, b2)) :
    (b2 < a1 → dueF x y i j = Str.ofString "LL") ∧ (¬ b2 < a1 → a1 < b2 → dueF x y i j = Str.ofString "RR") ∧ (¬ b2 < a1 → ¬ a1 < b2 → dueF x y i j = Str.ofString "RL") := by
  have h := cmp_ok hx hy i j (by omega) (by omega)
  rw [(nums_at h1 hi).1, (nums_at h2 hj).2] at h
  unfold dueF dueI
  refine ⟨fun q => if_pos (h.1.1 q), fun q r => ?_, fun q r => ?_⟩
  · rw [if_neg (fun z => q (h.1.2 z)), if_pos (h.2.1 r)]
  · rw [if_neg (fun z => q (h.1.2 z)), if_neg (fun z => r (h.2.2 z))]
section
variable {M : Model} {A : Around} {E : Value → Shared → Prop} {s : Shared} {tree : Sem Value}
noncomputable def StrEnd (d : Str) (s : Shared) (v : Value) (s' : Shared) : Prop := ∃ t tk, v = .str d t ∧ s' = { s with toks := tk }
/-- a tree that yields one text, whatever the way -/
theorem to_str {Q : Value → Shared → Prop} (d : Str) (h : wpAny M A tree (StrEnd d s) E s) (hq : ∀ t tk, Q (.str d t) { s with toks := tk }) : wpAny M A tree Q E s :=
  wpAny_mono h (fun v s' hv => by obtain ⟨t, tk, rfl, rfl⟩ := hv; exact hq t tk) fun _ _ e => e
theorem StrEnd.mk {d e : Str} {t : Tok} {h : Heap} {tk : Nat} (hd : d = e) : StrEnd d { s with heap := h } (.str e t) { s with heap := h, toks := tk } := ⟨t, tk, by rw [hd], rfl⟩
end
theorem due_len2 (x y : Str) (i j : Nat) : (dueF x y i j).length = 2 := due_len _
theorem turned_len2 (x y : Str) (i j : Nat) : (turnedP (dueF x y i j)).length = 2 := (turned_due _).1
theorem NameF.rows0 {x y : Str} {i j : Nat} (h : NameF x y i j) (h0 : i = 0) {ys : List Value} (hy : StrsAre ys (((rowsAll x y).filter fun r => Txt.lower r.1 == Txt.lower (nameP x y i j)).map (·.2))) : ∃ t u, ys = [.str (dueF x y i j) t, .str (turnedP (dueF x y i j)) u] := by
  rw [h.2.2.2.2.2.2.1, if_pos h0] at hy
  exact strs_two hy
theorem NameF.rows1 {x y : Str} {i j : Nat} (h : NameF x y i j) (h0 : ¬ i = 0) {ys : List Value} (hy : StrsAre ys (((rowsAll x y).filter fun r => Txt.lower r.1 == Txt.lower (nameP x y i j)).map (·.2))) : ∃ t, ys = [.str (dueF x y i j) t] := by
  rw [h.2.2.2.2.2.2.1, if_neg h0] at hy
  exact strs_one hy
end Mine
end
section
open PySem PySem.W PyProof.Rows PySem.Calls
set_option Elab.async false
set_option maxRecDepth 100000
set_option linter.unusedVariables false
set_option linter.unusedSimpArgs false
namespace Mine
section
open PyProof.V PySem.Spec PySem.SeqAt
theorem strs_carried {vs : List Value} {zs : List Str} (h : StrsAre vs zs) : CarriedAll vs (zs.map PyData.str) := by
  induction h with
  | nil => exact .nil
  | cons y t _ ih => exact .cons (.str y t) ih
theorem plain_ok {x : Str} (h : plainText x) : PyData.strOk x = true := by
  unfold PyData.strOk
  rw [Array.all_eq_true']
  intro c hc
  have := h c (by simpa using hc)
  exact decide_eq_true (by omega)
theorem canLay_strs : ∀ {zs : List Str}, (∀ z ∈ zs, plainText z) → PyData.canLayAll0 (zs.map PyData.str) = true
  | [], _ => by simp [PyData.canLayAll0]
  | z :: r, h => by
    have h1 := plain_ok (h z (.head _))
    have h2 := canLay_strs (zs := r) fun y hy => h y (.tail _ hy)
    simp [PyData.canLayAll0, PyData.canLay0, h1, h2]
theorem depth_strs : ∀ zs : List Str, PyData.depthAll (zs.map PyData.str) = 0
  | [] => rfl
  | _ :: r => by simp [PyData.depthAll, PyData.depth, depth_strs r]
theorem shaped_strs {zs : List Str} (h : ∀ z ∈ zs, plainText z) : shaped (.list (zs.map PyData.str)) = true := by
  simp [SeqAt.shaped, PyData.canLay0, PyData.depth, canLay_strs h, depth_strs]
theorem noMix_strs : ∀ zs : List Str, noMixAll (zs.map PyData.str) (zs.map PyData.str) = true
  | [] => by simp [noMixAll]
  | _ :: r => by simp [noMixAll, noMix, noMix_strs r]
theorem same_strs : ∀ zs : List Str, PySem.Spec.sameAll (zs.map PyData.str) (zs.map PyData.str) = true
  | [] => by simp [PySem.Spec.sameAll]
  | z :: r => by simp [PySem.Spec.sameAll, PySem.Spec.same, same_strs r]
variable {prog : Program} {w : World} {A : Around} {E : Value → Shared → Prop} {s : Shared} {h₀ : Heap} {L : Addr} {news : List (Addr × Obj)} {a b : Addr} {vs ws : List Value} {zs : List Str} {n k : Nat} {Q : Value → Shared → Prop}
/-- two lists of the same texts -/
theorem ne_strs (N : News h₀ L s.heap news) (ha : (a, listOf vs.toArray n) ∈ news) (hb : (b, listOf ws.toArray k) ∈ news) (hv : StrsAre vs zs) (hw : StrsAre ws zs) (hp : ∀ z ∈ zs, plainText z) (hu : A.units + 64 < cLine) (h : Q (.bool false) s) :
    wpAny (model prog w) A (compareOp .NotEq (.ref a) (.ref b)) Q E s := by
  have la : s.heap.IsList a vs.toArray := ⟨_, (N _ ha).1, rfl, n, rfl⟩
  have lb : s.heap.IsList b ws.toArray := ⟨_, (N _ hb).1, rfl, k, rfl⟩
  exact ne_dataH_same (reads_newData la (strs_carried hv)) (reads_newData lb (strs_carried hw)) (shaped_strs hp) (shaped_strs hp) hu (by simp only [noMix]; exact noMix_strs zs) (by simp only [PySem.Spec.same, same_strs]; exact h)
theorem eq_strs (N : News h₀ L s.heap news) (ha : (a, listOf vs.toArray n) ∈ news) (hb : (b, listOf ws.toArray k) ∈ news) (hv : StrsAre vs zs) (hw : StrsAre ws zs) (hp : ∀ z ∈ zs, plainText z) (hu : A.units + 64 < cLine) (h : Q (.bool true) s) :
    wpAny (model prog w) A (compareOp .Eq (.ref a) (.ref b)) Q E s := by
  have la : s.heap.IsList a vs.toArray := ⟨_, (N _ ha).1, rfl, n, rfl⟩
  have lb : s.heap.IsList b ws.toArray := ⟨_, (N _ hb).1, rfl, k, rfl⟩
  exact eq_dataH_same (reads_newData la (strs_carried hv)) (reads_newData lb (strs_carried hw)) (shaped_strs hp) (shaped_strs hp) hu (by simp only [noMix]; exact noMix_strs zs) (by simp only [PySem.Spec.same, same_strs]; exact h)
end
theorem due_plain2 (x y : Str) (i j : Nat) : plainText (dueF x y i j) := due_plain _
theorem turned_plain2 (x y : Str) (i j : Nat) : plainText (turnedP (dueF x y i j)) := (turned_due _).2
/-- the same two lists, as the turn makes them -/
theorem plain_one {d : Str} (h : plainText d) : ∀ z ∈ [d], plainText z := fun z hz => by rw [List.mem_singleton] at hz; subst hz; exact h
theorem plain_two {d e : Str} (h : plainText d) (k : plainText e) : ∀ z ∈ [d, e], plainText z := fun z hz => by
  rcases List.mem_cons.1 hz with rfl | hz
  · exact h
  · exact plain_one k z hz
section
variable {M : Model} {A : Around} {E : Value → Shared → Prop} {s : Shared} {test body orelse : PySem.Expr} {pos : Pos} {env : Env} {Q : Value → Shared → Prop}
/-- a test that comes out as b -/
noncomputable def TestIs (b : Bool) (s : Shared) (c : Bool) (s' : Shared) : Prop := c = b ∧ ∃ tk, s' = { s with toks := tk }
theorem ifexp_tt (h : wpAny M A (isTrue test env (eval test env)) (TestIs true s) E s) (k : ∀ tk, wpAny M A (eval body env) Q E { s with toks := tk }) : wpAny M A (eval (.IfExp test body orelse pos) env) Q E s :=
  wpAny_IfExp (wpAny_mono h (fun b s₁ hb => by obtain ⟨rfl, tk, rfl⟩ := hb; exact k tk) fun _ _ e => e)
theorem ifexp_ff (h : wpAny M A (isTrue test env (eval test env)) (TestIs false s) E s) (k : ∀ tk, wpAny M A (eval orelse env) Q E { s with toks := tk }) : wpAny M A (eval (.IfExp test body orelse pos) env) Q E s :=
  wpAny_IfExp (wpAny_mono h (fun b s₁ hb => by obtain ⟨rfl, tk, rfl⟩ := hb; exact k tk) fun _ _ e => e)
end
theorem news_tail {a : Heap} {b : Addr} {c : Heap} {p : Addr × Obj} {l : List (Addr × Obj)} (N : News a b c (p :: l)) : News a b c l := fun q hq => N q (.tail _ hq)
section
variable {prog : Program} {w : World} {A : Around} {E : Value → Shared → Prop} {s : Shared} {h₀ h : Heap} {L D b I nm : Addr} {oI : Obj} {m m₀ : Str → Option Value} {news news' rest : List (Addr × Obj)} {its its2 : Array Value} {n n2 tk : Nat} {p : Addr × Obj}
theorem not_long {its : Array Value} {k : Nat} (h : k ≤ 500) : ¬(!its.isEmpty && Builtin.List.listTooLong k) = true := by
  have e : Builtin.List.listTooLong k = false := by
    unfold Builtin.List.listTooLong
    simp only [decide_eq_false_iff_not]
    first | omega | (rw [sizeLine_eq]; omega)
  rw [e, Bool.and_false]
  exact Bool.false_ne_true
theorem extend_some {Q : Value → Shared → Prop} (F : Fr h₀ L s.heap m) (N : News h₀ L s.heap news) (hb : (b, listOf its2 n2) ∈ news) (hne : its2.toList.length ≠ 0)
    (U : Upd D (listOf its n) (listOf (its.toList ++ its2.toList).toArray (n + 1)) news news') (hz : its.size + its2.size ≤ 500)
    (h : ∀ h', Fr h₀ L h' m → News h₀ L h' news' → Q .none { s with heap := h' }) : wpAny (model prog w) A (call (.builtin "list.extend") [.ref D, .ref b]) Q E s :=
  kl_extend F N hb rfl hne U (not_long hz) (by rw [Array.length_toList, sizeLine_eq]; omega) (by rw [sizeLine_eq]; omega) h
theorem extend_none {Q : Value → Shared → Prop} (F : Fr h₀ L s.heap m) (N : News h₀ L s.heap news) (hb : (b, listOf its2 n2) ∈ news) (e0 : its2.toList = [])
    (U : Upd D (listOf its n) (listOf its n) news news') (hz : its.size + its2.size ≤ 500)
    (h : ∀ h', Fr h₀ L h' m → News h₀ L h' news' → Q .none { s with heap := h' }) : wpAny (model prog w) A (call (.builtin "list.extend") [.ref D, .ref b]) Q E s :=
  kxn_extend F N hb e0 U (not_long hz) (by rw [Array.length_toList, sizeLine_eq]; omega) (by rw [sizeLine_eq]; omega) h
theorem TurnW.two {Off : Str → Prop} {ns : List Value} {a c : Str} {t u : Tok} {T T' : List Str} (F : Fr h₀ L h m) (hm : ∀ z, Off z → m z = m₀ z)
    (N : News h₀ L h (p :: (I, oI) :: (nm, listOf ((ns.toArray.push (Value.str a t)).toList ++ #[Value.str c u].toList).toArray n) :: rest)) (hs : StrsAre ns T) (hT : T' = T ++ [a, c]) :
    TurnW Off h₀ L nm m₀ I oI rest T' s .next { s with heap := h, toks := tk } := by
  refine ⟨rfl, h, tk, m, ns ++ [Value.str a t, Value.str c u], n, rfl, F, hm, ?_, ?_⟩
  · have e : ((ns.toArray.push (Value.str a t)).toList ++ #[Value.str c u].toList).toArray = (ns ++ [Value.str a t, Value.str c u]).toArray := by simp
    rw [e] at N
    exact news_tail N
  · rw [hT]; exact strs_append hs (.cons _ _ (.cons _ _ .nil))
theorem TurnW.one {Off : Str → Prop} {ns : List Value} {a : Str} {t : Tok} {T T' : List Str} (F : Fr h₀ L h m) (hm : ∀ z, Off z → m z = m₀ z)
    (N : News h₀ L h (p :: (I, oI) :: (nm, listOf (ns.toArray.push (Value.str a t)) n) :: rest)) (hs : StrsAre ns T) (hT : T' = T ++ [a]) :
    TurnW Off h₀ L nm m₀ I oI rest T' s .next { s with heap := h, toks := tk } := by
  refine ⟨rfl, h, tk, m, ns ++ [Value.str a t], n, rfl, F, hm, ?_, ?_⟩
  · have e : (ns.toArray.push (Value.str a t)) = (ns ++ [Value.str a t]).toArray := by simp
    rw [e] at N
    exact news_tail N
  · rw [hT]; exact strs_append hs (.cons _ _ .nil)
end
theorem names_two {x y : Str} {i j : Nat} (h : NameF x y i j) (h0 : i = 0) : namesTo x y i (j + 1) = namesTo x y i j ++ [if ((i : Int) + (j : Int)).fmod 2 = 1 then Txt.upper (nameP x y i j) else nameP x y i j, nameP x y i j] := by
  rw [namesTo_step, h.2.2.2.2.2.2.2, if_pos h0]
theorem names_one {x y : Str} {i j : Nat} (h : NameF x y i j) (h0 : ¬ i = 0) : namesTo x y i (j + 1) = namesTo x y i j ++ [if ((i : Int) + (j : Int)).fmod 2 = 1 then Txt.upper (nameP x y i j) else nameP x y i j] := by
  rw [namesTo_step, h.2.2.2.2.2.2.2, if_neg h0]
theorem off6_at {u m₀ : Str → Option Value} {z : Str} (hz : Off6 z) {v1 v2 v3 v4 v5 v6 : Option Value} :
    (if z = Str.ofString "name" then v1 else if z = Str.ofString "due" then v2 else if z = Str.ofString "high" then v3 else if z = Str.ofString "low" then v4 else if z = Str.ofString "more" then v5 else if z = Str.ofString "j" then v6 else ovr6 u m₀ z) = m₀ z := by
  obtain ⟨z1, z2, z3, z4, z5, z6⟩ := hz
  simp only [ovr6, if_neg z1, if_neg z2, if_neg z3, if_neg z4, if_neg z5, if_neg z6]
theorem off7_at {u u₂ m₀ : Str → Option Value} {z : Str} (hz : Off7 z) {v : Option Value} : ovr6 u₂ (fun y => if y = Str.ofString "i" then v else ovr7 u m₀ y) z = m₀ z := by
  obtain ⟨z1, z2, z3, z4, z5, z6, z7⟩ := hz
  simp only [ovr6, ovr7, if_neg z1, if_neg z2, if_neg z3, if_neg z4, if_neg z5, if_neg z6, if_neg z7]
theorem names_plain {x y : Str} (hx : StalkOk 4 x) (hy : StalkOk 3 y) : (∀ z ∈ (rowsAll x y).map (·.1), plainText z) ∧ (rowsAll x y).length ≤ 100 := by
  obtain ⟨l, hl, rfl⟩ := hx
  obtain ⟨k, hk, rfl⟩ := hy
  have tl := texts4_let l hl
  have tk := texts3_let k hk
  have ll : Let l := tl.1
  have lk : Let k := tk.1
  unfold rowsAll
  refine ⟨fun z hz => ?_, upto_len (by rw [len_S]; omega) (by omega) (by rw [len_S]; omega)⟩
  obtain ⟨r, hr, rfl⟩ := List.mem_map.1 hz
  obtain ⟨i0, j0, hb, hr⟩ := upto_mem hr
  rw [len_S, len_S] at hb
  have h1 : i0 ≤ l.length := by omega
  have h2 : j0 ≤ k.length := by omega
  unfold posRows at hr
  rw [cut_list h1, cut_list h2] at hr
  rcases List.mem_cons.1 hr with rfl | hr
  · exact spelled_plain (ll.take i0) (lk.take j0)
  · split at hr
    · rw [List.mem_singleton] at hr
      subst hr
      show plainText (Str.ofString "." ++ S (k.take j0))
      rw [name_S0]
      exact plain_S (nm_small (by intro c hc; cases hc) (lk.take j0))
    · cases hr
end Mine
end
section
open PySem PySem.W PyProof.Rows PySem.Calls
set_option Elab.async false
set_option maxRecDepth 100000
set_option linter.unusedVariables false
set_option linter.unusedSimpArgs false
namespace Mine
set_option maxHeartbeats 20000000 in
theorem law_holds : PySem.Challenge.rw_rl0085_01.Holds := hd (by
  w_top off; k_with_none
  k_with "ktr_enter" => (first | (refine' code_def ?k1_w ?k2_w ?k3_w ?k4_w ?k5_w ?kA_w ?kF_w ?kK_w ?k6_w ?k7_w ?k8_w ?k9_w ?kB_w ?_ ?c2_w ?c3_w ?c4_w ?c5_w; (case kA_w => exact rfl); (case kF_w => exact rfl); (case kK_w => first | exact rfl | assumption); (case k1_w => k_asm); (case k2_w => k_asm); (case k3_w => k_asm); (case k4_w => k_asm); (case k5_w => k_asm); (case k6_w => k_is); (case k7_w => k_is); (case k8_w => ktr_room); (case k9_w => first | exact BindsTo.of_eq rfl | exact binds_K (by k_in) rfl (by k_is) rfl rfl rfl | (refine' kp_binds ?kx_w ?ke_w; (case kx_w => k_in); (case ke_w => exact fun _ => rfl))); (case c5_w => decide); (case kB_w => exact locs rfl); (case c2_w => exact rfl); (case c3_w => exact rfl); (case c4_w => exact rfl); k_whole; intro g'_w L'_w h'_w FG'_w F'_w N'_w B'_w X'_w T'_w; (try dsimp only); (try k_lift B'_w); (try k_fold)) | (refine' code_defC ?k1_w ?k2_w ?k3_w ?k4_w ?k5_w ?kA_w ?kF_w ?kK_w ?k6_w ?k7_w ?k8_w ?k9_w ?kB_w ?kD_w ?_ ?c2_w ?c3_w ?c4_w; (case kA_w => exact rfl); (case kF_w => exact rfl); (case kK_w => first | exact rfl | assumption); (case k1_w => k_asm); (case k2_w => k_asm); (case k3_w => k_asm); (case k4_w => k_asm); (case k5_w => k_asm); (case k6_w => k_is); (case k7_w => k_is); (case k8_w => ktr_room); (case k9_w => first | exact BindsTo.of_eq rfl | exact binds_K (by k_in) rfl (by k_is) rfl rfl rfl | (refine' kp_binds ?kx_w ?ke_w; (case kx_w => k_in); (case ke_w => exact fun _ => rfl))); (case kB_w => exact rfl); (case kD_w => decide +kernel); (case c2_w => exact rfl); (case c3_w => exact rfl); (case c4_w => exact rfl); k_whole; intro g'_w L'_w h'_w tk'_w cells'_w FG'_w F'_w N'_w Y'_w B'_w X'_w T'_w l1_w; (have hcell9_w := offFrom_of l1_w); (try k_lt l1_w); k_cells Y'_w; (try simp only [List.cons_append, List.nil_append] at N'_w); (try dsimp only); (try k_lift B'_w); (try k_fold)))
  k_with "k_room" => (ktr_room)
  k_with "exec For Name Call cons nil" => ((refine hold ?_))
  k_with "call builtin:str.join" => ((refine hold ?_))
  k_with "k_mem" => (assumption)
  k_with "subscriptTail" => ((k_here; (with_reducible show wpAny _ _ (subscriptTail _ (PySem.Expr.Slice _ _ none _) (Value.ref _) (Value.ref _)) _ _ _); k_dflt (refine' slice_intsI ?F_w ?N_w ?l_w ?p_w ?q_w ?i_w ?z_w ?_ ?s_w ?t_w; (case F_w => k_asm); (case N_w => k_asm); (case l_w => kmk_list); (case p_w => kmk_part); (case q_w => kmk_part); (case i_w => with_reducible assumption); (case z_w => omega); (case s_w => with_unfolding_all rfl); (case t_w => kmk_pure); k_whole); intro D'_w ws'_w ms'_w h'_w F'_w N'_w l1_w hI'_w hL'_w; (try k_lt l1_w)))
  k_with "subscriptTail" => ((k_here; (with_reducible show wpAny _ _ (subscriptTail _ (PySem.Expr.Slice _ _ (some _) _) (Value.ref _) (Value.ref _)) _ _ _); k_dflt (refine kba_turn (value' := PySem.Expr.Name (PySem.Str.ofString "q") ⟨0, 0, 0, 0⟩) (fun _ => rfl) ?_; refine' slice_intsS ?F_w ?N_w ?l_w ?p_w ?q_w ?k_w ?o_w ?i_w ?z_w ?_ ?s_w ?t_w; (case F_w => k_asm); (case N_w => k_asm); (case l_w => kmk_list); (case p_w => kmk_part); (case q_w => kmk_part); (case k_w => kmk_part); (case o_w => decide); (case i_w => with_reducible assumption); (case z_w => omega); (case s_w => with_unfolding_all rfl); (case t_w => kmk_pure); k_whole); intro D'_w ws'_w ms'_w h'_w F'_w N'_w l1_w hI'_w hL'_w; (try k_lt l1_w)))
  k_with "subscriptTail Name Slice ref ref" => ((k_here; (with_reducible show wpAny _ _ (subscriptTail _ (PySem.Expr.Slice _ _ none _) (Value.ref _) (Value.ref _)) _ _ _); k_dflt (refine' slice_intsI ?F_w ?N_w ?l_w ?p_w ?q_w ?i_w ?z_w ?_ ?s_w ?t_w; (case F_w => k_asm); (case N_w => k_asm); (case l_w => kmk_list); (case p_w => kmk_part); (case q_w => kmk_part); (case i_w => with_reducible assumption); (case z_w => omega); (case s_w => with_unfolding_all rfl); (case t_w => kmk_pure); k_whole); intro D'_w ws'_w ms'_w h'_w F'_w N'_w l1_w hI'_w hL'_w; (try k_lt l1_w)))
  k_with "subscriptTail Name Slice ref ref" => ((k_here; (with_reducible show wpAny _ _ (subscriptTail _ (PySem.Expr.Slice _ _ (some _) _) (Value.ref _) (Value.ref _)) _ _ _); k_dflt (refine kba_turn (value' := PySem.Expr.Name (PySem.Str.ofString "q") ⟨0, 0, 0, 0⟩) (fun _ => rfl) ?_; refine' slice_intsS ?F_w ?N_w ?l_w ?p_w ?q_w ?k_w ?o_w ?i_w ?z_w ?_ ?s_w ?t_w; (case F_w => k_asm); (case N_w => k_asm); (case l_w => kmk_list); (case p_w => kmk_part); (case q_w => kmk_part); (case k_w => kmk_part); (case o_w => decide); (case i_w => with_reducible assumption); (case z_w => omega); (case s_w => with_unfolding_all rfl); (case t_w => kmk_pure); k_whole); intro D'_w ws'_w ms'_w h'_w F'_w N'_w l1_w hI'_w hL'_w; (try k_lt l1_w)))
  k_with "subscriptTail Subscript Slice ref ref" => ((k_here; (with_reducible show wpAny _ _ (subscriptTail _ (PySem.Expr.Slice _ _ none _) (Value.ref _) (Value.ref _)) _ _ _); k_dflt (refine' slice_intsI ?F_w ?N_w ?l_w ?p_w ?q_w ?i_w ?z_w ?_ ?s_w ?t_w; (case F_w => k_asm); (case N_w => k_asm); (case l_w => kmk_list); (case p_w => kmk_part); (case q_w => kmk_part); (case i_w => with_reducible assumption); (case z_w => omega); (case s_w => with_unfolding_all rfl); (case t_w => kmk_pure); k_whole); intro D'_w ws'_w ms'_w h'_w F'_w N'_w l1_w hI'_w hL'_w; (try k_lt l1_w)))
  k_with "subscriptTail Subscript Slice ref ref" => ((k_here; (with_reducible show wpAny _ _ (subscriptTail _ (PySem.Expr.Slice _ _ (some _) _) (Value.ref _) (Value.ref _)) _ _ _); k_dflt (refine kba_turn (value' := PySem.Expr.Name (PySem.Str.ofString "q") ⟨0, 0, 0, 0⟩) (fun _ => rfl) ?_; refine' slice_intsS ?F_w ?N_w ?l_w ?p_w ?q_w ?k_w ?o_w ?i_w ?z_w ?_ ?s_w ?t_w; (case F_w => k_asm); (case N_w => k_asm); (case l_w => kmk_list); (case p_w => kmk_part); (case q_w => kmk_part); (case k_w => kmk_part); (case o_w => decide); (case i_w => with_reducible assumption); (case z_w => omega); (case s_w => with_unfolding_all rfl); (case t_w => kmk_pure); k_whole); intro D'_w ws'_w ms'_w h'_w F'_w N'_w l1_w hI'_w hL'_w; (try k_lt l1_w)))
  k_with "call builtin:sum" => ((k_here; (with_reducible show wpAny _ _ (call (Value.builtin "sum") [Value.ref _]) _ _ _); k_dflt (refine' sumK ?k0_w ?k1_w ?k2_w ?k3_w ?k4_w ?_; (case k0_w => rfl); (case k1_w => k_asm); (case k2_w => k_asm); (case k3_w => kmk_list); (case k4_w => with_reducible assumption); k_whole); intro h'_w tk'_w t'_w F'_w N'_w))
  k_with "CompSrc" => ((refine hold ?_))
  k_with "eval ListComp" => ((k_here; lct_look; k_dflt (refine LCt.ListComp_T (F₀ := by k_asm) (by with_unfolding_all rfl) (by decide) (by rfl) (by decide) (by rfl) ?_)))
  k_with "exec Assign cons ListComp" => ((k_here; lct_look; k_dflt (refine LCt.Assign_ListComp_T (F₀ := by k_asm) (by rfl) (by with_unfolding_all rfl) (by with_unfolding_all rfl) (by decide) (by rfl) (by decide) (by rfl) (by rfl) (by rfl) ?_)))
  k_with "CompSrcT" => ((refine hold ?_))
  k_with "binaryOp Add ref ref" => ((refine hold ?_))
  k_with "call ref" => ((k_here; (k_dflt (show wpAny _ _ (call (Value.ref 229) [Value.str _ _, Value.str _ _]) _ _ _)); refine hold ?_))
  k_with "call ref" => ((k_here; (k_dflt (show wpAny _ _ (call (Value.ref 234) [Value.str _ _]) _ _ _)); refine hold ?_))
  k_with "call ref" => ((k_here; (k_dflt (show wpAny _ _ (call (Value.ref 135) [Value.ref _, Value.str _ _]) _ _ _)); refine hold ?_))
  k_with "call ref" => ((k_here; (k_dflt (show wpAny _ _ (call (Value.ref 148) [Value.ref _]) _ _ _)); refine hold ?_))
  k_with "call ref" => ((k_here; (k_dflt (show wpAny _ _ (call (Value.ref 241) [Value.str _ _]) _ _ _)); k_dflt (refine' PureC.use (worth_c _ _ _ _ _ _ _ ?hx_w) ?k1_w ?k2_w ?k3_w ?k4_w ?k5_w ?kK_w ?kd_w ?ku_w ?_; (case k1_w => k_asm); (case k2_w => k_asm); (case k3_w => k_asm); (case k4_w => k_asm); (case k5_w => k_asm); (case kK_w => first | exact rfl | assumption); (case kd_w => ktr_room); (case ku_w => ktr_units); (case hx_w => omega); intro t9_w h9_w tk9_w F9_w N9_w; (try dsimp only); (try k_fold))))
  k_with "call ref" => ((k_here; (k_dflt (show wpAny _ _ (call (Value.ref 219) [Value.str _ _]) _ _ _)); k_dflt (refine' PureC.use (turned_c _ _ _ _ _ _ _ ?hx_w) ?k1_w ?k2_w ?k3_w ?k4_w ?k5_w ?kK_w ?kd_w ?ku_w ?_; (case k1_w => k_asm); (case k2_w => k_asm); (case k3_w => k_asm); (case k4_w => k_asm); (case k5_w => k_asm); (case kK_w => first | exact rfl | assumption); (case kd_w => ktr_room); (case ku_w => ktr_units); (case hx_w => omega); intro t9_w h9_w tk9_w F9_w N9_w; (try dsimp only); (try k_fold))))
  k_with "subscriptTail" => ((k_here; (with_reducible show wpAny _ _ (subscriptTail (PySem.Expr.Name _ _) (PySem.Expr.Name _ _) (Value.ref _) (Value.int _ _)) _ _ _); refine hold ?_))
  k_with "subscriptTail Name Name ref int" => ((k_here; (with_reducible show wpAny _ _ (subscriptTail (PySem.Expr.Name _ _) (PySem.Expr.Name _ _) (Value.ref _) (Value.int _ _)) _ _ _); refine hold ?_))
  k_with "subscriptTail" => ((k_here; (with_reducible show wpAny _ _ (subscriptTail _ _ (Value.ref _) (Value.int 0 _)) _ _ _); k_dflt (refine' item_n0 ?F_w ?p_w ?_; (case F_w => k_asm); (case p_w => (repeat (first | with_reducible assumption | apply List.mem_cons_of_mem))); k_whole)))
  k_with "subscriptTail" => ((k_here; (with_reducible show wpAny _ _ (subscriptTail _ _ (Value.ref _) (Value.int 1 _)) _ _ _); k_dflt (refine' item_n1 ?F_w ?p_w ?_; (case F_w => k_asm); (case p_w => (repeat (first | with_reducible assumption | apply List.mem_cons_of_mem))); k_whole)))
  k_with "eval IfExp" => ((refine hold ?_))
  k_with "call builtin:str.lower" => ((k_here; (refine SCL.lower (by first | omega | (simp only [Str.length_append, len_lits]; omega)) ?_); intro hl9_w))
  k_with "call builtin:str.upper" => ((k_here; (refine SCL.upper (by first | omega | (simp only [Str.length_append, len_lits]; omega)) ?_); intro hl9_w))
  k_with "call builtin:list.append" => ((k_here; (with_reducible show wpAny _ _ (call (Value.builtin _) [Value.ref _, _]) _ _ _); k_dflt (refine' append_K ?k1_w ?k2_w ?k3_w ?_ ?z_w; (case k1_w => k_asm); (case k2_w => k_asm); (case k3_w => k_upd); (case z_w => (rw [List.size_toArray, sizeLine_eq]; omega)); k_whole); intro h'_w F'_w N'_w; (try k_sweep)))
  k_with "k_all" => (with_reducible assumption)
  k_with "call builtin:list.extend" => ((k_here; (with_reducible show wpAny _ _ (call (Value.builtin _) [Value.ref _, Value.ref _]) _ _ _); k_dflt (first | (refine' extend_some ?F_w ?N_w ?b_w ?ne_w ?U_w ?z_w ?_; (case F_w => k_asm); (case N_w => k_asm); (case b_w => k_mem); (case U_w => k_upd); (case ne_w => exact Nat.succ_ne_zero _); (case z_w => (simp only [Array.size_push, List.size_toArray, List.length_cons, List.length_nil]; omega)); k_whole) | (refine' extend_none ?F_w ?N_w ?b_w ?ne_w ?U_w ?z_w ?_; (case F_w => k_asm); (case N_w => k_asm); (case b_w => k_mem); (case U_w => k_upd); (case ne_w => exact rfl); (case z_w => (simp only [Array.size_push, List.size_toArray, List.length_cons, List.length_nil]; omega)); k_whole)); intro h'_w F'_w N'_w; (try k_sweep)))
  k_with "compareOp NotEq ref ref" => ((k_here; (with_reducible show wpAny _ _ (compareOp CmpOp.NotEq (Value.ref _) (Value.ref _)) _ _ _); k_dflt (refine' ne_strs ?N_w ?a_w ?b_w ?v_w ?w_w ?p_w ?u_w ?_; (case N_w => k_asm); (case a_w => k_mem); (case b_w => k_mem); (case v_w => first | exact .cons _ _ (.cons _ _ .nil) | exact .cons _ _ .nil); (case w_w => first | exact .cons _ _ (.cons _ _ .nil) | exact .cons _ _ .nil); (case p_w => first | exact plain_two (due_plain2 _ _ _ _) (turned_plain2 _ _ _ _) | exact plain_one (due_plain2 _ _ _ _)); (case u_w => ke_room); k_whole)))
  k_with "compareOp Eq ref ref" => ((refine hold ?_))
  k_with "subscriptTail" => ((k_here; (with_reducible show wpAny _ _ (subscriptTail (PySem.Expr.List _ _) (PySem.Expr.Slice none (some _) none _) (Value.ref _) (Value.ref _)) _ _ _); k_dflt (refine kba_turn (value' := PySem.Expr.Name (PySem.Str.ofString "_") ⟨0, 0, 0, 0⟩) (fun _ => rfl) ?_); k_dflt (refine' kms_slice_lit ?F_w ?N_w ?l_w ?p_w ?q_w ?e_w ?_ ?s_w ?t_w ?z_w; (case F_w => k_asm); (case N_w => k_asm); (case l_w => exact News.isList (by k_asm) (List.Mem.head _)); (case p_w => kmk_part); (case q_w => kmk_part); (case e_w => kl_lit); (case s_w => with_unfolding_all rfl); (case t_w => kmk_pure); (case z_w => kmk_size)); intro D'_w h'_w F'_w N'_w l1_w; (try k_lt l1_w); (try k_sweep)))
  k_go0
  all_goals (try k_fold)
  k_steps
  unfold Hold
  k_dflt (refine' src_bits1 ?a4 ?a1 ?a2 ?a3 ?_ ?_)
  case a4 => assumption
  case a1 => rfl
  case a2 => k_asm
  case a3 => k_asm
  · intro g9 k t I oI C oC D m₂ ys h tkk E' hk4 hC hx F' N' off' ne'
    rcases hk4 with rfl | rfl | rfl | rfl
    all_goals k_steps
    all_goals exact ⟨_, _, _, rfl, by k_asm, by k_asm, off', trivial, rfl, _, rfl⟩
  intro g9 ys n hn hys D h tk F' N' off'
  simp only [LCg.Off1] at off'
  k_steps
  unfold Hold
  k_dflt (refine' join_bits (k := 4) ?b1 hys hn.2 (by omega) ?_)
  case b1 => exact list_of_news N' List.mem_cons_self
  intro first tf kf hflen hfirst
  k_steps
  unfold Hold
  k_dflt (refine' src_bits0 ?c4 ?c1 ?c2 ?c3 ?_ ?_)
  case c4 => assumption
  case c1 => rfl
  case c2 => k_asm
  case c3 => k_asm
  · intro g9 k t I oI C oC D m₂ ys h tkk E' hk4 hC hx F' N' off' ne'
    rcases hk4 with rfl | rfl | rfl | rfl
    all_goals k_steps
    all_goals exact ⟨_, _, _, rfl, by k_asm, by k_asm, off', trivial, rfl, _, rfl⟩
  intro g9 ys2 n2 hn2 hys2 D2 h2 tk2 F' N' off2
  simp only [LCg.Off1] at off2
  k_steps
  unfold Hold
  k_dflt (refine' join_bits (k := 3) ?d1 hys2 hn2 (by omega) ?_)
  case d1 => exact list_of_news N' List.mem_cons_self
  intro second ts ks hslen hsecond
  k_steps
  unfold Hold
  k_dflt (refine' CallC.use (game_c _ _ _ _ _ first second _ _ (dueF first second) (by omega) (by omega) (game_ok hfirst hsecond)) ?e1 ?e2 ?e3 ?e4 ?e5 ?e6 ?e7 ?e8 ?_)
  case e1 => k_asm
  case e2 => k_asm
  case e3 => k_asm
  case e4 => k_asm
  case e5 => k_asm
  case e6 => first | exact rfl | assumption
  case e7 => ktr_room
  case e8 => ktr_units
  intro vt nw hh tkh hR F' N'
  obtain ⟨tb, dx, l, th, nd, nl, vs, rfl, hT1, hT2, hT3, hT4', hsub⟩ := hR
  have hT4 := rowsAll_in hT4'
  clear hT4'
  k_steps
  unfold Hold
  k_dflt (refine' CallS.use (nums_c _ _ _ _ _ first _ (numF first) (by omega) (num_ok hfirst (by omega))) ?f1 ?f2 ?f3 ?f4 ?f5 ?f6 ?f7 ?f8 ?_)
  case f1 => k_asm
  case f2 => k_asm
  case f3 => k_asm
  case f4 => k_asm
  case f5 => k_asm
  case f6 => first | exact rfl | assumption
  case f7 => ktr_room
  case f8 => ktr_units
  intro v1 nw1 h1 tk1 hR F' N'
  obtain ⟨R1, rv1, nr1, rfl, hP1, hP2, hsub1⟩ := hR
  k_steps
  unfold Hold
  k_dflt (refine' CallS.use (nums_c _ _ _ _ _ second _ (numF second) (by omega) (num_ok hsecond (by omega))) ?g1 ?g2 ?g3 ?g4 ?g5 ?g6 ?g7 ?g8 ?_)
  case g1 => k_asm
  case g2 => k_asm
  case g3 => k_asm
  case g4 => k_asm
  case g5 => k_asm
  case g6 => first | exact rfl | assumption
  case g7 => ktr_room
  case g8 => ktr_units
  intro v2 nw2 h2 tk2 hR F' N'
  obtain ⟨R2, rv2, nr2, rfl, hO1, hO2, hsub2⟩ := hR
  have hU1 := hsub2 _ (hsub1 _ hT1)
  have hU2 := hsub2 _ (hsub1 _ hT2)
  have hU3 := hsub2 _ (hsub1 _ hT3)
  have hU4 := (hT4.mono hsub1).mono hsub2
  clear hT1 hT2 hT3 hT4
  have hP1' := hsub2 _ hP1
  have hP2' := hP2.mono hsub2
  clear hsub2
  clear hP1 hP2 hsub hsub1
  have hl1 : rv1.length ≤ 5 := by rw [hP2'.length, nums_len]; omega
  have hl2 : rv2.length ≤ 5 := by rw [hO2.length, nums_len]; omega
  k_steps
  unfold Hold
  k_dflt (refine' add_listK ?h1 ?h2 hP1' hO1 (by omega) ?_)
  case h1 => k_asm
  case h2 => k_asm
  intro D3 h3 F' N' lt3
  k_steps
  unfold Hold
  k_dflt (refine' LCt.CompSrcT.ledger ?i0 ?i1 ?i2 ?i3 ?i4 ?_)
  case i0 => rfl
  case i1 => k_asm
  case i2 => exact N'
  case i3 => exact List.mem_cons_self
  case i4 => rw [List.size_toArray, sizeLine_eq, List.length_append]; omega
  intro g9
  with_reducible refine rest_none ((hP2'.append hO2).mono fun p hp => List.mem_cons_of_mem _ hp) ?_ ?_
  · intro r a b t1 t2 t3 nn I oI C oC D m₂ ys h tkk E' hab hmem hC hx F' N' off' ne'
    have hsum : a + b = 1158959452 := by
      rcases List.mem_append.1 hab with h | h
      · exact nums_sum (sum_ok hfirst (by omega)) (by omega) h
      · exact nums_sum (sum_ok hsecond (by omega)) (by omega) h
    clear hab
    k_steps
    all_goals first
      | (exfalso; omega)
      | exact ⟨_, _, _, rfl, by k_asm, by first | k_asm | (refine cb_drop (by assumption) (fun p hp => ?_); repeat (first | exact hp | apply List.mem_cons_of_mem)), off', .inr ⟨_, List.mem_cons_self, rfl, _, rfl⟩, rfl⟩
  k_steps
  unfold Hold
  (rename Fr _ _ _ _ => lF'); (rename News _ _ _ _ => lN')
  (with_reducible rename (_ ∧ _ ∧ _ ∧ AllLt _ _) => hL9)
  k_dflt (refine' For_lawG Off7 ovr7 (fun _ _ => ovr7_conv) (n := first.length + 1) (T := fun i => namesTo first second i 0) (ns₀ := []) lF' lN' ?j1 ?j2 (by omega) ?j3 (fun _ => rfl) ?j4 ?_ ?_)
  case j1 =>
    show StrsAre [] (namesTo first second 0 0)
    rw [namesTo_zero]; exact .nil
  case j2 =>
    obtain ⟨q1, q2, q3, q4⟩ := hL9
    intro p hp
    rcases List.mem_cons.mp hp with rfl | hp
    · exact Nat.ne_of_lt q1
    · rcases List.mem_cons.mp hp with rfl | hp
      · exact Nat.ne_of_lt q2
      · rcases List.mem_cons.mp hp with rfl | hp
        · exact Nat.ne_of_lt q3
        · exact allLt_ne q4 p hp
  case j3 => rfl
  case j4 =>
    k_steps
    all_goals (first | assumption | k_asm)
  · intro i ti I oI u ns k h tkk E' hi hns o1 o2 F' N'
    clear lF' lN'
    k_steps
    unfold Hold
    (rename Fr _ _ _ _ => lF'); (rename News _ _ _ _ => lN')
    have lN2 := swap2 lN'
    k_dflt (refine' For_lawG Off6 ovr6 (fun _ _ => ovr6_conv) (n := second.length + 1) (T := fun j => namesTo first second i j) lF' lN2 ?m1 ?m2 (by omega) ?m3 (fun _ => rfl) ?m4 ?_ ?_)
    case m1 => exact hns
    case m2 =>
      intro p hp
      rcases List.mem_cons.mp hp with rfl | hp
      · exact o2
      · obtain ⟨q1, q2, q3, q4⟩ := hL9
        rcases List.mem_cons.mp hp with rfl | hp
        · exact Nat.ne_of_lt q1
        · rcases List.mem_cons.mp hp with rfl | hp
          · exact Nat.ne_of_lt q2
          · rcases List.mem_cons.mp hp with rfl | hp
            · exact Nat.ne_of_lt q3
            · exact allLt_ne q4 p hp
    case m3 => rfl
    case m4 =>
      k_steps
      all_goals (first | assumption | k_asm)
    · intro j tj I2 oI2 u2 ns2 k2 h2' tkk2 E2 hj hns2 o3 o4 F' N'
      clear lF' lN' lN2
      (repeat (first | clear ek | clear qk))
      k_steps
      unfold Hold
      k_dflt (refine' item_num ?n1 ?n2 ?n3 ?n4 ?n5 ?_)
      case n1 => k_asm
      case n2 => k_mem
      case n3 => exact hP2'.mono fun p hp => by repeat (first | exact hp | apply List.mem_cons_of_mem)
      case n4 => rw [nums_len]; omega
      case n5 => rw [nums_len]; omega
      intro r1 a1 b1 ta tb' tc' k1' hrow1 hm1
      k_steps
      unfold Hold
      k_dflt (refine' item_num ?o1 ?o2 ?o3 ?o4 ?o5 ?_)
      case o1 => k_asm
      case o2 => k_mem
      case o3 => exact hO2.mono fun p hp => by repeat (first | exact hp | apply List.mem_cons_of_mem)
      case o4 => rw [nums_len]; omega
      case o5 => rw [nums_len]; omega
      intro r2 a2 b2 td te tf k2' hrow2 hm2
      k_steps
      rotate_left
      · exfalso
        exact Bool.noConfusion ((cmp_at hfirst hsecond hi hj hrow1 hrow2).symm.trans (by assumption))
      unfold Hold
      refine to_str (dueF first second i j) ?_ ?_
      · have hdue := due_at hfirst hsecond hi hj hrow1 hrow2
        refine wpAny_IfExp ?_
        k_steps
        · exact ⟨_, _, by rw [hdue.1 (by assumption)], rfl⟩
        unfold Hold
        refine wpAny_IfExp ?_
        k_steps
        · exact ⟨_, _, by rw [hdue.2.1 (by assumption) (by assumption)], rfl⟩
        · exact ⟨_, _, by rw [hdue.2.2 (by assumption) (by assumption)], rfl⟩
      intro t9 tk9
      (try dsimp only); (try k_fold)
      k_steps
      unfold Hold
      have hnf := name_f hfirst hsecond (Nat.le_of_lt_succ hi) (Nat.le_of_lt_succ hj)
      k_dflt (refine' CallC.use (getall_c _ _ _ _ _ _ _ _ _ _ _ _ (rowsAll first second) (nameP first second i j) _ ?u1 ?u2 ?u3 ?u4 ?u5 ?u6 ?u7 ?u8 ?u9) ?v1 ?v2 ?v3 ?v4 ?v5 ?v6 ?v7 ?v8 ?_)
      case v1 => k_asm
      case v2 => k_asm
      case v3 => k_asm
      case v4 => k_asm
      case v5 => k_asm
      case v6 => first | exact rfl | assumption
      case v7 => ktr_room
      case v8 => ktr_units
      case u1 => (repeat (first | exact hU1 | apply List.mem_cons_of_mem))
      case u2 => (repeat (first | exact hU2 | apply List.mem_cons_of_mem))
      case u3 => (repeat (first | exact hU3 | apply List.mem_cons_of_mem))
      case u4 => exact hU4.mono fun p hp => by repeat (first | exact hp | apply List.mem_cons_of_mem)
      case u5 => exact hnf.2.2.2.2.1
      case u6 => exact Nat.le_trans hnf.2.2.2.2.2.1 (by omega)
      case u7 => exact Nat.le_trans hnf.1 (by omega)
      case u8 => exact Nat.le_trans hnf.2.2.1 (by omega)
      case u9 => exact hnf.2.2.2.1
      intro v9 nw9 h9 tk9' hR9 F' N'
      obtain ⟨D9, ys9, n9, rfl, rfl, hys9, off9⟩ := hR9
      have hdl := due_len2 first second i j
      have htl := turned_len2 first second i j
      by_cases h0 : i = 0
      · obtain ⟨t10, u10, rfl⟩ := hnf.rows0 h0 hys9
        have h0' : (i : Int) = 0 := by omega
        clear hys9 off9
        (try dsimp only); (try k_fold)
        k_steps
        unfold Hold
        refine ifexp_tt ?_ ?_
        · k_steps
          exact ⟨by simp [h0], _, rfl⟩
        intro tk10
        k_steps
        unfold Hold
        (rename News _ _ _ _ => lN')
        have N' := news_tail (news_tail (news_tail (news_tail (news_tail (news_tail lN')))))
        clear lN'
        have hnw := allLt_ne hL9.2.2.2
        have hnl : ns2.length ≤ 100 := by rw [strs_len hns2]; exact namesTo_len (by omega) (by omega) (by omega)
        refine to_str (if ((i : Int) + (j : Int)).fmod 2 = 1 then Txt.upper (nameP first second i j) else nameP first second i j) ?_ ?_
        · refine wpAny_IfExp ?_
          k_steps
          · exact ⟨_, _, by rw [if_pos (by with_reducible assumption)], rfl⟩
          · exact ⟨_, _, by rw [if_neg (by with_reducible assumption)], rfl⟩
        intro t11 tk11
        (try dsimp only [List.cons_append, List.nil_append]); (try k_fold)
        k_steps
        unfold Hold
        refine ifexp_tt ?_ ?_
        · k_steps
          exact ⟨by simp [h0], _, rfl⟩
        intro tk12
        k_steps
        exact TurnW.two (by k_asm) (fun z hz => off6_at hz) (by k_asm) hns2 (names_two hnf h0)
      · obtain ⟨t10, rfl⟩ := hnf.rows1 h0 hys9
        have h0' : ¬ (i : Int) = 0 := by omega
        clear hys9 off9
        (try dsimp only); (try k_fold)
        k_steps
        unfold Hold
        refine ifexp_ff ?_ ?_
        · k_steps
          exact ⟨by simp [h0], _, rfl⟩
        intro tk10
        k_steps
        unfold Hold
        (rename News _ _ _ _ => lN')
        have N' := news_tail (news_tail (news_tail (news_tail (news_tail (news_tail lN')))))
        clear lN'
        have hnw := allLt_ne hL9.2.2.2
        have hnl : ns2.length ≤ 100 := by rw [strs_len hns2]; exact namesTo_len (by omega) (by omega) (by omega)
        refine to_str (if ((i : Int) + (j : Int)).fmod 2 = 1 then Txt.upper (nameP first second i j) else nameP first second i j) ?_ ?_
        · refine wpAny_IfExp ?_
          k_steps
          · exact ⟨_, _, by rw [if_pos (by with_reducible assumption)], rfl⟩
          · exact ⟨_, _, by rw [if_neg (by with_reducible assumption)], rfl⟩
        intro t11 tk11
        (try dsimp only [List.cons_append, List.nil_append]); (try k_fold)
        k_steps
        unfold Hold
        refine ifexp_ff ?_ ?_
        · k_steps
          exact ⟨by simp [h0], _, rfl⟩
        intro tk12
        k_steps
        exact TurnW.one (by k_asm) (fun z hz => off6_at hz) (by k_asm) hns2 (names_one hnf h0)
    · intro h2' tk2' u2 ns2 k2 hns2 F' N'
      clear lF' lN' lN2
      (try k_fold)
      k_steps
      (rename Fr _ _ _ _ => lF'); (rename News _ _ _ _ => lN')
      exact ⟨rfl, _, _, _, ns2, k2, rfl, lF', fun z hz => off7_at hz, swap2 lN', by rw [namesTo_line]; exact hns2⟩
  · intro h tk u ns k hns F' N'
    clear lF' lN'
    (try k_fold)
    k_steps
    unfold Hold
    have hnp := names_plain hfirst hsecond
    k_dflt (refine' CallC.use (keys_c _ _ _ _ _ _ _ _ _ _ _ _ (rowsAll first second) ?u1 ?u2 ?u3 ?u4 ?u5) ?v1 ?v2 ?v3 ?v4 ?v5 ?v6 ?v7 ?v8 ?_)
    case v1 => k_asm
    case v2 => k_asm
    case v3 => k_asm
    case v4 => k_asm
    case v5 => k_asm
    case v6 => first | exact rfl | assumption
    case v7 => ktr_room
    case v8 => ktr_units
    case u1 => (repeat (first | exact hU1 | apply List.mem_cons_of_mem))
    case u2 => (repeat (first | exact hU2 | apply List.mem_cons_of_mem))
    case u3 => (repeat (first | exact hU3 | apply List.mem_cons_of_mem))
    case u4 => exact hU4.mono fun p hp => by repeat (first | exact hp | apply List.mem_cons_of_mem)
    case u5 => exact Nat.le_trans hnp.2 (by omega)
    intro v9 nw9 h9 tk9' hR9 F' N'
    obtain ⟨D9, ys9, n9, rfl, rfl, hys9, off9⟩ := hR9
    rw [namesTo_all] at hys9 hnp
    (try dsimp only); (try k_fold)
    k_steps
    unfold Hold
    k_dflt (refine' eq_strs ?w1 ?w2 ?w3 hys9 hns hnp.1 ?w4 ?_)
    case w1 => k_asm
    case w2 => k_mem
    case w3 => k_mem
    case w4 => ke_room
    k_steps)
theorem words_off_RLaw1 : True := by k_with_none; exact trivial
end Mine
end
end
theorem PySem.Challenge.cw_rl0085_01_holds : PySem.Challenge.rw_rl0085_01.Holds :=
  Mine.law_holds
