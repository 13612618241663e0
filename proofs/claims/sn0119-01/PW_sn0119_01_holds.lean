import PyProof.Rows.All
import Wide.All
import OpenK.AllK
import Wide.FinOn
import PyProof.StrReplace2
import PyProof.StrLawsReplace
import PyProof.StrLawsTight
import KE.KData
import PySem.Challenge.RW_sn0119_01
set_option Elab.async false
section
open PySem PySem.W PyProof.Rows
set_option maxRecDepth 100000
set_option maxHeartbeats 8000000
namespace Mine
open_top hd for PySem.Challenge.rw_sn0119_01
end Mine
end
section
open PySem PySem.W PyProof.Rows
set_option maxRecDepth 100000
set_option maxHeartbeats 8000000
namespace Mine
def blanks (n : Int) : Str := ⟨Array.replicate n.toNat 32⟩
def reind (x : Str) (n : Int) : Str := Txt.replace x (Str.ofString "\n") (Str.ofString "\n" ++ blanks n)
theorem gen_toks {α : Type} {M : Model} {A : Around} {t : Sem α} {Q : α → Shared → Prop} {E : Value → Shared → Prop} {h g d o} {a b : Nat} (hb : Nat.ble 1 b = true)
    (H : ∀ T, 1 ≤ T → wpAny M A t Q E ⟨h, g, d, T, o⟩) : wpAny M A t Q E ⟨h, g, d, a + b, o⟩ := H _ (by have := Nat.le_of_ble_eq_true hb; omega)
theorem blanks_len (n : Int) : (blanks n).length = n.toNat := by simp [blanks, Str.length]
theorem blanks_none {n : Int} (h : n < 1) : blanks n = Str.empty := by
  have : n.toNat = 0 := by omega
  simp [blanks, Str.empty, this]
theorem rep32 (k : Nat) : (List.replicate k (Str.ofString " ").cps).foldl (· ++ ·) #[] = Array.replicate k 32 := by
  have e : (Str.ofString " ").cps = #[32] := by decide +kernel
  rw [e]
  have h : ∀ (k : Nat) (a : Array Nat), (List.replicate k #[32]).foldl (· ++ ·) a = a ++ Array.replicate k 32 := by
    intro k
    induction k with
    | zero => intro a; simp
    | succ k ih =>
      intro a
      rw [List.replicate_succ, List.foldl_cons, ih, Array.append_assoc]
      congr 1
      apply Array.toList_inj.mp
      simp [List.replicate_succ]
  rw [h k #[]]; simp
theorem mul_blank {prog : Program} {w : World} {A : Around} {E : Value → Shared → Prop} {s : Shared} {n : Int} {t u : Tok} {Q : Value → Shared → Prop} (h1 : -1000 ≤ n) (h2 : n ≤ 1000)
    (h : ∀ t' k, s.toks ≤ k → Q (.str (blanks n) t') { s with toks := k }) : wpAny (model prog w) A (binaryOp .Mult (.str (Str.ofString " ") t) (.int n u)) Q E s := by
  have hl : (Str.ofString " ").length = 1 := by decide +kernel
  refine P.mul_str (by rw [decide_eq_false (by omega), decide_eq_false (by omega)]; rfl) (fun _ _ => ?_) (fun _ _ => ?_) ?_
  · rename_i hn _
    rw [hl]
    intro hc
    have : (1 : Int) * n ≤ 2 ^ 63 - 1 := by omega
    have := (Int.le_ediv_iff_mul_le (by omega : 0 < n)).mpr this
    omega
  · rw [hl]; unfold PySem.Builtin.Str.tooLong sizeLine; exact decide_eq_false (by omega)
  · by_cases hn : n < 1
    · rw [if_pos hn]; have := h s.toks (s.toks + 1) (by omega); rw [blanks_none hn] at this; exact ⟨by decide, this⟩
    · rw [if_neg hn]
      by_cases h3 : (n == 1 || (Str.ofString " ").length == 0) = true
      · rw [if_pos h3]
        have : n = 1 := by rw [hl] at h3; simpa using h3
        subst this
        have q := h t s.toks (Nat.le_refl _)
        have e : blanks 1 = Str.ofString " " := by decide +kernel
        rw [e] at q; exact q
      · rw [if_neg h3, rep32]
        have q := h s.toks (s.toks + 1) (by omega)
        exact ⟨by show (Array.replicate n.toNat 32).size ≤ sizeLine; rw [Array.size_replicate, sizeLine_eq]; omega, q⟩
theorem nl_len : (Str.ofString "\n").length = 1 := by decide +kernel
theorem add_nl {prog : Program} {w : World} {A : Around} {E : Value → Shared → Prop} {s : Shared} {n : Int} {t u : Tok} {Q : Value → Shared → Prop} (h2 : n ≤ 1000)
    (h : ∀ t' k, (t' = t ∨ t' = s.toks) → Q (.str (Str.ofString "\n" ++ blanks n) t') { s with toks := k }) : wpAny (model prog w) A (binaryOp .Add (.str (Str.ofString "\n") t) (.str (blanks n) u)) Q E s := by
  refine P.add_str ?_
  rw [if_neg (by rw [nl_len]; decide)]
  by_cases hn : ((blanks n).length == 0) = true
  · rw [if_pos hn]
    have q := h t s.toks (.inl rfl)
    rw [Str.append_right_empty hn] at q; exact q
  · rw [if_neg hn]
    exact ⟨by rw [Str.length_append, nl_len, blanks_len, sizeLine_eq]; omega, h _ _ (.inr rfl)⟩
theorem none_booked {w : World} {h₀ h : Heap} {L : Addr} {m : Str → Option Value} (X : (Mine.hd.heap_39 w.params).In h₀) (F : Fr h₀ L h m) : NoneBooked h := by
  have e : h.get? 2 = some { cls := Value.none, data := Data.dict #[] } := F.keep _ _ (X _ _ (by rfl))
  exact ⟨fun _ => none, ⟨_, #[], _, e, rfl, by intro e he; simp at he, fun _ => rfl⟩, rfl⟩
theorem reindent_claim (w : World) (mean : ExcName → Option Value) (mg mb : Str → Option Value) (news : List (Addr × Obj)) (x : Str) (tx : Tok) (n : Int) (tn : Tok) :
    CbClaim PySem.Challenge.pw_sn0119_01 w (Mine.hd.heap_39 w.params) hd.view_39 (looseW hd.view_39 []) mean mg mb 21 news [] (x.length ≤ 500000 ∧ -14 ≤ n ∧ n ≤ 14) [.str x tx, .int n tn] (fun t => .str (reind x n) t) := by
  dsimp only [CbClaim, CbLists, CbRet]; intros; rename_i hpre hdp hun hret
  have hp := PySem.Flt.Hid.mk hpre
  clear hpre
  refine wpAny_call ?_
  k_dflt cell_enter
  refine gen_toks rfl (fun T hT => ?_)
  k_steps
  replace hp := hp.out
  refine' mul_blank ?a ?b (fun t' k hk => ?_)
  case a => omega
  case b => omega
  dsimp only at hk ⊢
  refine' add_nl ?b (fun t'' k' ht => ?_)
  case b => omega
  k_steps
  have hT' : (T : Nat) ≠ t'' ∧ (t'' : Nat) ≠ 0 := by
    rcases ht with rfl | rfl
    · exact ⟨by show @Ne Nat _ _; simp, by show @Ne Nat _ _; simp⟩
    · exact ⟨by show @Ne Nat _ _; omega, by show @Ne Nat _ _; omega⟩
  refine SC.replaceA (Nat.ne_of_gt hT) hT'.2 hT'.1 ?_ (fun t₃ k₃ => ?_) (none_booked (by assumption) (by assumption))
  · rw [Str.length_append, nl_len, blanks_len]
    have h1 : (x.length + 1) * (1 + n.toNat) ≤ 500001 * 15 := Nat.mul_le_mul (by omega) (by omega)
    omega
  k_steps
  all_goals cb_end hret
theorem replaced_len {x y z : Str} (hb : x.length + (x.length + 1) * z.length ≤ 16777216) : (Txt.replace x y z).length ≤ x.length + (x.length + 1) * z.length := by
  unfold Txt.replace
  split
  · omega
  · have h1 := StrLaws.occ_length_le x y 0 x.length (x.length + 1)
    have hy : (Builtin.Str.glued y (Builtin.Str.partsBetween x (Builtin.Str.occurrences x y 0 x.length (x.length + 1)) y.length)).length = x.length := by rw [StrLaws.glued_between_self]
    rw [size_glued, length_partsBetween, Nat.add_sub_cancel] at hy
    rw [size_glued, length_partsBetween, Nat.add_sub_cancel]
    have h2 : (Builtin.Str.occurrences x y 0 x.length (x.length + 1)).length * z.length ≤ (x.length + 1) * z.length := Nat.mul_le_mul_right _ h1
    omega
theorem reindent_call {w : World} {mean : ExcName → Option Value} {mg mb : Str → Option Value} {news : List (Addr × Obj)} {x : Str} {tx : Tok} {n : Int} {tn : Tok}
    {dp un : Nat} {gd : Option (List Code)} {cn : Str} {cs : Scope} {a : Addr} {ccd : Value} {cl : List (Str × Addr)} {outer : List Env} {A₀ : Around} {base h₀ : Heap} {L : Addr} {m : Str → Option Value} {s : Shared} {Q E : Value → Shared → Prop}
    (B : Below A₀ base outer h₀) (F : Fr h₀ L s.heap m) (X : (Mine.hd.heap_39 w.params).In h₀) (N : News h₀ L s.heap news) (T : Top hd.view_39 (looseW hd.view_39 []) mean mg mb h₀) (hk : cs.kind = .function)
    (hx : x.length ≤ 500000) (hn : -14 ≤ n ∧ n ≤ 14) (hd : dp + 1 < recursionLimit) (hu : un + 8 < cLine)
    (h : ∀ (t : Tok) (h' : Heap) (tk' : Nat), Fr h₀ L h' m → News h₀ L h' news → (reind x n).length ≤ x.length + (x.length + 1) * 15 → Q (.str (reind x n) t) { s with heap := h', toks := tk' }) :
    wpAny (model PySem.Challenge.pw_sn0119_01 w) (ktrTop dp un gd cn cs L a ccd cl outer) (call (.ref 21) [.str x tx, .int n tn]) Q E s := by
  have hl : (reind x n).length ≤ x.length + (x.length + 1) * 15 := by
    have hz : (Str.ofString "\n" ++ blanks n).length ≤ 15 := by rw [Str.length_append, nl_len, blanks_len]; omega
    have h1 : (x.length + 1) * (Str.ofString "\n" ++ blanks n).length ≤ (x.length + 1) * 15 := Nat.mul_le_mul_left _ hz
    have h2 : (x.length + 1) * 15 ≤ 500001 * 15 := Nat.mul_le_mul_right _ (by omega)
    exact Nat.le_trans (replaced_len (by omega)) (by omega)
  exact reindent_claim w mean mg mb news x tx n tn dp un gd cn cs a ccd cl outer A₀ base h₀ L m s Q E B F X N T hk ⟨hx, hn⟩ hd hu fun t h' tk' F' N' => h t h' tk' F' N' hl
end Mine
end
section
open PySem PySem.W PyProof.Rows
set_option maxRecDepth 100000
set_option maxHeartbeats 8000000
namespace Mine
local macro_rules | `(tactic| walk_at "call ref") => `(tactic| (k_here; (with_unfolding_all refine' reindent_call ?k1 ?k2 ?k3 ?k4 ?k5 ?kK ?kx ?kn ?kd ?ku ?_); (case k1 => k_asm); (case k2 => k_asm); (case k3 => k_asm); (case k4 => k_asm); (case k5 => k_asm); (case kK => first | rfl | assumption); (case kx => omega); (case kn => omega); (case kd => ktr_room); (case ku => ktr_units); intro t9 h9 tk9 F9 N9 hl9; (try dsimp only); (try k_fold)))
def timerS (x y z : Str) : Str := Str.ofString "\ndef inner(_it, _timer" ++ x ++ Str.ofString "):\n    " ++ reind y 4 ++ Str.ofString "\n    _t0 = _timer()\n    for _i in _it:\n        " ++ reind z 8 ++ Str.ofString "\n        pass\n    _t1 = _timer()\n    return _t1 - _t0\n"
theorem timer_call {w : World} {mean : ExcName → Option Value} {mg mb : Str → Option Value} {news : List (Addr × Obj)} {x : Str} {tx : Tok} {y : Str} {ty : Tok} {z : Str} {tz : Tok}
    {dp un : Nat} {gd : Option (List Code)} {cn : Str} {cs : Scope} {a : Addr} {ccd : Value} {cl : List (Str × Addr)} {outer : List Env} {A₀ : Around} {base h₀ : Heap} {L : Addr} {m : Str → Option Value} {s : Shared} {Q E : Value → Shared → Prop}
    (B : Below A₀ base outer h₀) (F : Fr h₀ L s.heap m) (X : (Mine.hd.heap_39 w.params).In h₀) (N : News h₀ L s.heap news) (T : Top hd.view_39 (looseW hd.view_39 []) mean mg mb h₀) (hk : cs.kind = .function)
    (hx : x.length ≤ 1000) (hy : y.length ≤ 100000) (hz : z.length ≤ 100000) (hd : dp + 2 < recursionLimit) (hu : un + 16 < cLine)
    (h : ∀ (t : Tok) (h' : Heap) (tk' : Nat), Fr h₀ L h' m → News h₀ L h' news → Q (.str (timerS x y z) t) { s with heap := h', toks := tk' }) :
    wpAny (model PySem.Challenge.pw_sn0119_01 w) (ktrTop dp un gd cn cs L a ccd cl outer) (call (.ref 28) [.str x tx, .str y ty, .str z tz]) Q E s := by
  refine wpAny_call ?_
  k_dflt cell_enter
  k_steps
  exact h _ _ _ (by k_asm) (cb_drop (by assumption) (by kcj_all))
end Mine
end
section
open PySem PySem.W PyProof.Rows
namespace Mine
/-- a row: its blanks, its words -/
abbrev Rw := Int × Str
abbrev nl : Str := Str.ofString "\n"
def lineS (r : Rw) : Str := blanks r.1 ++ r.2
def textOf (rows : List Rw) : Str := Str.join nl (rows.map lineS)
def shift (k : Int) (r : Rw) : Rw := (r.1 + k, r.2)
def Free (rows : List Rw) : Prop := ∀ r ∈ rows, 10 ∉ r.2.cps.toList
/-- the rows, each behind a line feed -/
def tl (ls : List Str) : List Nat := (ls.map fun x => 10 :: x.cps.toList).flatten
theorem cons10 {a b : List Nat} (h : 10 :: a = 10 :: b) : a = b := (List.cons.inj h).2
theorem nl_eq : nl = ⟨#[10]⟩ := by decide +kernel
theorem app_toList (a b : Str) : (a ++ b).cps.toList = a.cps.toList ++ b.cps.toList := by rw [Str.cps_append, Array.toList_append]
theorem str_ext {a b : Str} (h : a.cps.toList = b.cps.toList) : a = b := by
  cases a; cases b; simp only [Str.mk.injEq]; exact Array.toList_inj.mp h
theorem join_tl : ∀ {ls : List Str}, ls ≠ [] → 10 :: (Str.join nl ls).cps.toList = tl ls
  | [], h => absurd rfl h
  | [x], _ => by simp [Str.join, tl]
  | x :: y :: r, _ => by
    have ih := join_tl (ls := y :: r) (by simp)
    show 10 :: (x ++ nl ++ Str.join nl (y :: r)).cps.toList = _
    rw [app_toList, app_toList, show nl.cps.toList = [10] from by rw [nl_eq], List.append_assoc, List.cons_append, List.nil_append, ih]
    simp [tl]
theorem tl_append (a b : List Str) : tl (a ++ b) = tl a ++ tl b := by simp [tl]
theorem tl_cons (x : Str) (b : List Str) : tl (x :: b) = 10 :: (x.cps.toList ++ tl b) := by simp [tl]
theorem tl_nil : tl [] = [] := rfl
theorem blanks_toList (n : Int) : (blanks n).cps.toList = List.replicate n.toNat 32 := by simp [blanks]
/-- what replace does to the signs -/
def sub (z : List Nat) (l : List Nat) : List Nat := (l.map fun a => if a = 10 then z else [a]).flatten
theorem sub_append (z a b : List Nat) : sub z (a ++ b) = sub z a ++ sub z b := by simp [sub]
theorem sub_free {z a : List Nat} (h : 10 ∉ a) : sub z a = a := by
  induction a with
  | nil => rfl
  | cons x r ih =>
    have h1 : x ≠ 10 := fun e => h (by simp [e])
    have h2 : 10 ∉ r := fun e => h (by simp [e])
    have := ih h2
    simp only [sub, List.map_cons, List.flatten_cons, if_neg h1] at this ⊢
    rw [this]; rfl
theorem sub_nl (z : List Nat) : sub z [10] = z := by simp [sub]
theorem sub_join (z : Str) : ∀ (parts : List Str), (∀ p ∈ parts, 10 ∉ p.cps.toList) → sub z.cps.toList (Str.join ⟨#[10]⟩ parts).cps.toList = (Str.join z parts).cps.toList
  | [], _ => by simp [Str.join, Str.empty, sub]
  | [x], h => by
    show sub _ x.cps.toList = x.cps.toList
    exact sub_free (h x (by simp))
  | x :: y :: r, h => by
    have ih := sub_join z (y :: r) (fun p hp => h p (List.mem_cons_of_mem _ hp))
    show sub _ (x ++ ⟨#[10]⟩ ++ Str.join ⟨#[10]⟩ (y :: r)).cps.toList = (x ++ z ++ Str.join z (y :: r)).cps.toList
    rw [app_toList, app_toList, app_toList, app_toList, sub_append, sub_append, ih, sub_free (h x (by simp))]
    rw [show ((⟨#[10]⟩ : Str)).cps.toList = [10] from rfl, sub_nl]
theorem reind_toList (x : Str) (n : Int) : (reind x n).cps.toList = sub (10 :: List.replicate n.toNat 32) x.cps.toList := by
  unfold reind
  rw [show Str.ofString "\n" = ⟨#[10]⟩ from nl_eq, StrLaws.replace_one, ← sub_join _ _ (StrLaws.split_free x 10), StrLaws.join_split]
  rw [app_toList, blanks_toList]; rfl
theorem line_free {r : Rw} (h : 10 ∉ r.2.cps.toList) : 10 ∉ (lineS r).cps.toList := by
  unfold lineS
  rw [app_toList, blanks_toList]
  simp [h]
theorem sub_tl (n : Int) : ∀ {rows : List Rw}, Free rows → sub (10 :: List.replicate n.toNat 32) (tl (rows.map lineS)) = tl ((rows.map lineS).map fun l => blanks n ++ l)
  | [], _ => rfl
  | r :: rs, h => by
    have ih := sub_tl n (rows := rs) (fun q hq => h q (List.mem_cons_of_mem _ hq))
    rw [List.map_cons, List.map_cons, tl_cons, tl_cons, ← ih, show (10 :: ((lineS r).cps.toList ++ tl (rs.map lineS))) = [10] ++ (lineS r).cps.toList ++ tl (rs.map lineS) from by simp,
      sub_append, sub_append, sub_nl, sub_free (line_free (h r (by simp))), app_toList, blanks_toList]
    simp
theorem reind_text {r : Rw} {rs : List Rw} (h : Free (r :: rs)) (n : Int) : reind (textOf (r :: rs)) n = Str.join nl (lineS r :: (rs.map lineS).map fun l => blanks n ++ l) := by
  apply str_ext
  have h1 := join_tl (ls := lineS r :: (rs.map lineS).map fun l => blanks n ++ l) (by simp)
  have h2 := join_tl (ls := lineS r :: rs.map lineS) (by simp)
  rw [tl_cons] at h1 h2
  rw [reind_toList]
  show sub _ (Str.join nl (lineS r :: rs.map lineS)).cps.toList = _
  rw [(List.cons.inj h2).2, (List.cons.inj h1).2, sub_append, sub_tl n (fun q hq => h q (List.mem_cons_of_mem _ hq)), sub_free (line_free (h r (by simp)))]
theorem line_shift {r : Rw} {k : Int} (h0 : 0 ≤ r.1) (hk : 0 ≤ k) : blanks k ++ lineS r = lineS (shift k r) := by
  apply str_ext
  unfold lineS shift
  simp only [app_toList, blanks_toList]
  rw [← List.append_assoc, List.replicate_append_replicate, show k.toNat + r.1.toNat = (r.1 + k).toNat from by omega]
/-- blanks ahead, the text set in: all rows deeper -/
theorem set_in {rows : List Rw} (hne : rows ≠ []) (h : Free rows) (hd : ∀ r ∈ rows, 0 ≤ r.1) {k : Int} (hk : 0 ≤ k) :
    10 :: (List.replicate k.toNat 32 ++ (reind (textOf rows) k).cps.toList) = tl ((rows.map (shift k)).map lineS) := by
  cases rows with
  | nil => exact absurd rfl hne
  | cons r rs =>
    rw [reind_text h k]
    have h1 := join_tl (ls := lineS r :: (rs.map lineS).map fun l => blanks k ++ l) (by simp)
    rw [tl_cons] at h1
    rw [(List.cons.inj h1).2, List.map_cons, List.map_cons, tl_cons, ← line_shift (hd r (by simp)) hk, app_toList, blanks_toList]
    have e : (rs.map lineS).map (fun l => blanks k ++ l) = (rs.map (shift k)).map lineS := by
      rw [List.map_map, List.map_map]
      refine List.map_congr_left fun q hq => ?_
      exact line_shift (hd q (List.mem_cons_of_mem _ hq)) hk
    rw [e]; simp
def headRows (x : Str) : List Rw := [(0, Str.ofString ""), (0, Str.ofString "def inner(_it, _timer" ++ x ++ Str.ofString "):")]
def midRows : List Rw := [(4, Str.ofString "_t0 = _timer()"), (4, Str.ofString "for _i in _it:")]
def lastRows : List Rw := [(8, Str.ofString "pass"), (4, Str.ofString "_t1 = _timer()"), (4, Str.ofString "return _t1 - _t0"), (0, Str.ofString "")]
def rowsOf (x : Str) (b w : List Rw) : List Rw := headRows x ++ b.map (shift 4) ++ midRows ++ w.map (shift 8) ++ lastRows
theorem timer_rows {x : Str} {b w : List Rw} (hb : b ≠ []) (hw : w ≠ []) (fb : Free b) (fw : Free w) (db : ∀ r ∈ b, 0 ≤ r.1) (dw : ∀ r ∈ w, 0 ≤ r.1) :
    timerS x (textOf b) (textOf w) = textOf (rowsOf x b w) := by
  apply str_ext
  have h1 := join_tl (ls := (rowsOf x b w).map lineS) (by simp [rowsOf, headRows])
  have hB := set_in hb fb db (k := 4) (by decide)
  have hW := set_in hw fw dw (k := 8) (by decide)
  refine cons10 (Eq.trans ?_ h1.symm)
  simp only [rowsOf, List.map_append, tl_append]
  rw [← hB, ← hW]
  unfold timerS
  simp only [app_toList]
  simp only [headRows, midRows, lastRows, List.map_cons, List.map_nil, tl_cons, tl_nil, lineS, app_toList, blanks_toList]
  have e1 : (Str.ofString "\ndef inner(_it, _timer").cps.toList = 10 :: (Str.ofString "def inner(_it, _timer").cps.toList := by decide +kernel
  have e2 : (Str.ofString "):\n    ").cps.toList = (Str.ofString "):").cps.toList ++ 10 :: List.replicate 4 32 := by decide +kernel
  have e3 : (Str.ofString "\n    _t0 = _timer()\n    for _i in _it:\n        ").cps.toList = 10 :: (List.replicate 4 32 ++ (Str.ofString "_t0 = _timer()").cps.toList) ++ 10 :: (List.replicate 4 32 ++ (Str.ofString "for _i in _it:").cps.toList) ++ 10 :: List.replicate 8 32 := by decide +kernel
  have e4 : (Str.ofString "\n        pass\n    _t1 = _timer()\n    return _t1 - _t0\n").cps.toList = 10 :: (List.replicate 8 32 ++ (Str.ofString "pass").cps.toList) ++ 10 :: (List.replicate 4 32 ++ (Str.ofString "_t1 = _timer()").cps.toList) ++ 10 :: (List.replicate 4 32 ++ (Str.ofString "return _t1 - _t0").cps.toList) ++ [10] := by decide +kernel
  have e0 : (Str.ofString "").cps.toList = [] := by decide +kernel
  rw [e1, e2, e3, e4, e0]
  simp
theorem text_append {a b : List Rw} (ha : a ≠ []) (hb : b ≠ []) : textOf (a ++ b) = textOf a ++ nl ++ textOf b := by
  apply str_ext
  have h1 := join_tl (ls := (a ++ b).map lineS) (by simp [ha])
  have h2 := join_tl (ls := a.map lineS) (by simp [ha])
  have h3 := join_tl (ls := b.map lineS) (by simp [hb])
  refine cons10 (h1.trans ?_)
  rw [app_toList, app_toList, List.map_append, tl_append, show nl.cps.toList = [10] from by rw [nl_eq]]
  show _ = 10 :: ((Str.join nl (a.map lineS)).cps.toList ++ [10] ++ (Str.join nl (b.map lineS)).cps.toList)
  rw [← h2, ← h3]; simp
theorem text_join : ∀ {st : List (List Rw)}, st ≠ [] → (∀ r ∈ st, r ≠ []) → Str.join nl (st.map textOf) = textOf st.flatten
  | [], h, _ => absurd rfl h
  | [a], _, _ => by simp [Str.join]
  | a :: b :: r, _, h => by
    have ih := text_join (st := b :: r) (by simp) (fun q hq => h q (List.mem_cons_of_mem _ hq))
    show textOf a ++ nl ++ Str.join nl ((b :: r).map textOf) = _
    rw [ih, List.flatten_cons (l := a), text_append (h a (by simp)) (by simp [h b (by simp)])]
end Mine
end
section
open PySem PySem.W PyProof.Rows PyProof.Rows.LCg PyProof.Rows.LCp
set_option maxRecDepth 100000
namespace Mine
abbrev Led := List (Addr × Obj)
def datRow (r : Rw) : Dat := .tuple [.int r.1, .str r.2]
/-- what is added lies above all that was known -/
def Above (add news : Led) : Prop := ∀ q ∈ add, ∀ p ∈ news, @LT.lt Nat _ p.1 q.1
theorem Above.nil {news : Led} : Above [] news := fun _ h => nomatch h
theorem Above.cons {p : Addr × Obj} {add news : Led} (h : ∀ q ∈ news, @LT.lt Nat _ q.1 p.1) (x : Above add news) : Above (p :: add) news := fun q hq r hr => by
  rcases List.mem_cons.mp hq with rfl | hq
  · exact h r hr
  · exact x q hq r hr
theorem dat_tup {news : Led} {v : Value} {r : Rw} (h : DatIn news v (datRow r)) : ∃ (a : Addr) (n : Nat) (t u : Tok), v = .ref a ∧ (a, ({ cls := .type "tuple", data := .seq #[.int r.1 t, .str r.2 u] n } : Obj)) ∈ news := by
  unfold datRow at h
  cases h with
  | tuple hm hr =>
    rename_i a vs n
    cases hr with
    | cons h1 hr =>
      cases hr with
      | cons h2 hr =>
        cases hr
        cases h1 with
        | int _ t =>
          cases h2 with
          | str _ u => exact ⟨a, n, t, u, rfl, hm⟩
section
variable {prog : Program} {w : World} {A : Around} {E : Value → Shared → Prop} {s : Shared} {h₀ : Heap} {L C : Addr} {m : Str → Option Value} {env : Env} {scope : Scope} {cl : List (Str × Addr)}
theorem elt_name {x : Str} {p : Pos} {v : Value} {m₂ : Str → Option Value} {Q : Value → Shared → Prop} (hx : scope.names.lookup x = some .local) (hkind : scope.kind = .function) (hn : s.heap.Ns C m₂) (hv : m₂ x = some v) (h : Q v s)
    (hd : (x == ("__debug__" : Str)) = false) : wpAny (model prog w) A (eval (.Name x p) (compEnvC scope cl C env)) Q E s :=
  wpAny_Name (wpAny_loadName_local (by simp [compEnvC, relabel, hkind]) (lookup_relabel_local hx) hn hv h) hd
/-- the turns of [(x + k, y) for x, y in src] -/
theorem shift_turns {x y : Str} {p1 p2 p3 p4 p5 : Pos} {kk n1 : Nat} {k : Int} (hx : scope.names.lookup x = some .local) (hy : scope.names.lookup y = some .local) (hkind : scope.kind = .function)
    (hdx : (x == ("__debug__" : Str)) = false) (hdy : (y == ("__debug__" : Str)) = false)
    {ax : Addr} {vs : List Value} {nn : Nat} {rows : List Rw} {news : Led} {Fin : List Value → Led → Prop}
    (hm : (ax, listOf vs.toArray nn) ∈ news) (hd : DatAll news vs (rows.map datRow))
    (fin : ∀ ys add, Above add news → DatAll add ys ((rows.map (shift k)).map datRow) → Fin ys (add ++ news)) :
    ∀ (j i : Nat) (ys : List Value) (add : Led), i + j = rows.length → Above add news → DatAll add ys (((rows.take i).map (shift k)).map datRow) →
      CompRestP prog w A h₀ L m env (.Tuple [.BinOp (.Name x p1) .Add (.Constant (.int k) n1 p2) p3, .Name y p4] kk p5) x y scope cl s (SrcAt h₀ ax vs.toArray) (fun i v => vs.toArray[i]? = some v) Fin j i ys (add ++ news)
  | 0, i, ys, add, hij, ha, hys => by
    refine CompRestP.zero ?_
    have hl : rows.take i = rows := List.take_of_length_le (by omega)
    rw [hl] at hys
    exact fin ys add ha hys
  | j + 1, i, ys, add, hij, ha, hys => by
    refine CompRestP.succ fun v hv => ?_
    have hi : i < rows.length := by omega
    obtain ⟨v', hv', hD⟩ := hd.get (k := i) (by simpa using hi)
    have hvv : v = v' := by
      have : vs[i]? = some v := by simpa using hv
      rw [hv'] at this; exact (Option.some.inj this).symm
    subst hvv
    simp only [List.getElem_map] at hD
    obtain ⟨a, n, t, u, rfl, hmt⟩ := dat_tup hD
    refine ⟨a, _, _, _, n, rfl, List.mem_append_right _ hmt, rfl, rfl, ?_⟩
    intro I oI C oC D m₂ h tk E' hNs h1 h2 F N off ne
    have hn : h.Ns C m₂ := hNs.ns (N _ (List.mem_cons_of_mem _ List.mem_cons_self)).1
    refine Tuple_ (spliced_more (wpAny_BinOp (elt_name hx hkind hn h1 (wpAny_Constant_int (add_int ?_)) hdx)))
    dsimp only
    refine spliced_more (elt_name hy hkind hn h2 (spliced_none ?_) hdy)
    refine newTuple_N F N (fun h' F' N' => ?_) (by simp [sizeLine])
    have hlt : ∀ p ∈ (I, oI) :: (C, oC) :: (D, lst ys) :: (add ++ news), @LT.lt Nat _ p.1 h.objs.size := fun p hp => Heap.lt_size (N p hp).1
    let e : Addr × Obj := (h.objs.size, { cls := .type "tuple", data := .seq [Value.int (rows[i].1 + k) (tk + 1), Value.str rows[i].2 u].toArray })
    have hAb : Above (e :: add) news := Above.cons (fun q hq => hlt q (by simp [hq])) ha
    have hsub : ∀ p ∈ add, p ∈ e :: add := fun p hp => List.mem_cons_of_mem _ hp
    refine CompEnd.intro F' N' (e :: (add ++ news)) ?_ ?_ ?_ ?_
    · intro p hp
      simp only [List.mem_cons, List.mem_append] at hp ⊢
      rcases hp with h | h | h | h | h | h <;> simp [h, e]
    · refine ⟨⟨?_, ?_, ?_⟩, off⟩
      · exact Ne.symm (Nat.ne_of_lt (hlt (I, oI) (by simp)))
      · exact Ne.symm (Nat.ne_of_lt (hlt (C, oC) (by simp)))
      · exact Ne.symm (Nat.ne_of_lt (hlt (D, lst ys) (by simp)))
    · exact .inr ⟨_, List.mem_cons_of_mem _ (List.mem_append_right _ hm), rfl, nn, rfl⟩
    · refine shift_turns hx hy hkind hdx hdy hm hd fin j (i + 1) (ys ++ [.ref h.objs.size]) (e :: add) (by omega) hAb ?_
      have ht : rows.take (i + 1) = rows.take i ++ [rows[i]] := by rw [List.take_add_one, List.getElem?_eq_getElem hi]; rfl
      rw [ht, List.map_append, List.map_append]
      refine DatAll.append (DatAll.mono hsub hys) (DatAll.one ?_)
      exact DatIn.tuple (n := 0) (List.mem_cons_self ..) (.cons (.int _ _) (.cons (.str _ _) .nil))
end
end Mine
end
section
open PySem PySem.W PyProof.Rows PyProof.Rows.LCg PyProof.Rows.LCp
set_option maxRecDepth 100000
namespace Mine
section
variable {prog : Program} {w : World} {A : Around} {E : Value → Shared → Prop} {s : Shared} {h₀ h h' : Heap} {L D D2 : Addr} {m : Str → Option Value} {news news' : Led} {o o' : Obj}
theorem news_set (N : News h₀ L h news) (hs : Heap.SameBut D h h') (hD : D ≠ L) (hD0 : h₀.get? D = none) (ho : h'.get? D = some o') (hsub : ∀ p ∈ news', p = (D, o') ∨ (p ∈ news ∧ p.1 ≠ D)) : News h₀ L h' news' := fun p hp => by
  rcases hsub p hp with rfl | ⟨h1, h2⟩
  · exact ⟨ho, hD, hD0⟩
  · exact ⟨hs.extBut _ _ h2 (N p h1).1, (N p h1).2⟩
theorem iadd_list {xs ys : List Value} {n k : Nat} {Q : Value → Shared → Prop} (F : Fr h₀ L s.heap m) (N : News h₀ L s.heap news) (hm : (D, listOf xs.toArray n) ∈ news) (hm2 : (D2, listOf ys.toArray k) ∈ news) (hsz : xs.length + ys.length ≤ sizeLine)
    (h : ∀ h' n', Fr h₀ L h' m → (∀ news', (∀ p ∈ news', p = (D, listOf (xs ++ ys).toArray n') ∨ (p ∈ news ∧ p.1 ≠ D)) → News h₀ L h' news') → Q (.ref D) { s with heap := h' }) :
    wpAny (model prog w) A (inplaceOp .Add (.ref D) (.ref D2)) Q E s := by
  have hD := N _ hm
  have hD2 := N _ hm2
  have hsz' : xs.toArray.size + ys.toArray.size ≤ sizeLine := by simpa using hsz
  unfold inplaceOp
  refine wpAny_holding ?_
  have hfi : fillsInplaceSlot (.type "list") "add" (Operator.Add == .Add) = pure false := by
    unfold fillsInplaceSlot
    show (typeLookup (.type "list") (dunderI "add") >>= fun fi => pure (fi.isSome && !isSeqSlot fi)) = pure false
    rw [PySem.F.slot_list_iadd.lookup]; rfl
  have hsi : seqSlot? (.type "list") (dunderI "add") = pure (some (.builtin "list.__iadd__")) := PySem.seqSlot_of PySem.F.slot_list_iadd.lookup (by decide +kernel)
  refine wpAny_bind (wpAny_typeOf ⟨_, hD.1, rfl⟩ (wpAny_bind (wpAny_of_eq hfi ?_)))
  show wpAny _ A (if false = true then _ else _) Q E s
  rw [if_neg Bool.false_ne_true]
  refine wpAny_bind (wpAny_binaryOp1_none (nm := "add") (T := "list") ⟨_, hD.1, rfl⟩ ⟨_, hD2.1, rfl⟩ noFill_list_add ?_)
  refine wpAny_bind (wpAny_of_eq hsi ?_)
  refine wpAny_bind (wpAny_rule ?_)
  refine call_meets PySem.F.slot_list_iadd ⟨_, hD.1, rfl⟩ PySem.F.entry_list_iadd (PySem.F.args_list_iadd_2 _ _) (AutoSeq1.list___iadd___list_list_0 D xs.toArray n D2 ys.toArray k (extend_door hsz') (Nat.le_trans (Nat.le_add_right _ _) hsz')) ⟨hD.1, hD2.1, ?_⟩
  have e : xs.toArray ++ ys.toArray = (xs ++ ys).toArray := by simp
  have ho' : (s.heap.update D (Obj.mapSeq fun x => x ++ ys.toArray)).get? D = some (listOf (xs ++ ys).toArray (if (xs.toArray ++ ys.toArray).size == xs.toArray.size then n else n + 1)) := by
    rw [Heap.get?_update_self _ hD.1 (by rw [mapSeq_app]; rfl), mapSeq_app, e]
  exact h _ _ (F.change (Heap.SameBut.update ..) hD.2.1 hD.2.2) fun news' hsub => news_set N (Heap.SameBut.update ..) hD.2.1 hD.2.2 ho' hsub
end
end Mine
end
section
open PySem PySem.W PyProof.Rows PyProof.Rows.LCg PyProof.Rows.LCp
set_option maxRecDepth 100000
namespace Mine
section
variable {prog : Program} {w : World} {A : Around} {E : Value → Shared → Prop} {s : Shared} {h₀ h h' : Heap} {L D D2 : Addr} {m : Str → Option Value} {env : Env} {scope : Scope} {cl : List (Str × Addr)} {news news' tail add : Led} {o o' : Obj}
/-- all known addresses lie below -/
def Low (news : Led) (a : Addr) : Prop := ∀ p ∈ news, @LT.lt Nat _ p.1 a
theorem newTuple_A {vs : List Value} {Q : Value → Shared → Prop} (F : Fr h₀ L s.heap m) (N : News h₀ L s.heap news)
    (h : ∀ a h', Fr h₀ L h' m → News h₀ L h' ((a, ({ cls := .type "tuple", data := .seq vs.toArray } : Obj)) :: news) → Low news a → Q (.ref a) { s with heap := h' }) (hsz : vs.length ≤ sizeLine) :
    wpAny (model prog w) A (newTuple vs) Q E s := newTuple_N F N (fun h' F' N' => h _ h' F' N' fun p hp => Heap.lt_size (N p hp).1) hsz
theorem newList_A {vs : List Value} {Q : Value → Shared → Prop} (F : Fr h₀ L s.heap m) (N : News h₀ L s.heap news)
    (h : ∀ a h', Fr h₀ L h' m → News h₀ L h' ((a, listOf vs.toArray 0) :: news) → Low news a → Q (.ref a) { s with heap := h' }) (hsz : vs.length ≤ sizeLine) :
    wpAny (model prog w) A (newList vs) Q E s := newList_N F N (fun h' F' N' => h _ h' F' N' fun p hp => Heap.lt_size (N p hp).1) hsz
theorem shift_src {x y : Str} {p1 p2 p3 p4 p5 : Pos} {kk n1 : Nat} {k : Int} {ax : Addr} {vs : List Value} {nn : Nat} {rows : List Rw} {Q : Value → Shared → Prop} (hh : A.handled = none) (F : Fr h₀ L s.heap m) (N : News h₀ L s.heap news)
    (hm : (ax, listOf vs.toArray nn) ∈ news) (hd : DatAll news vs (rows.map datRow)) (hsz : rows.length ≤ 100000)
    (hx : scope.names.lookup x = some .local) (hy : scope.names.lookup y = some .local) (hkind : scope.kind = .function)
    (hdx : (x == ("__debug__" : Str)) = false) (hdy : (y == ("__debug__" : Str)) = false)
    (fin : ∀ ys add D2 h tk, Above add news → DatAll add ys ((rows.map (shift k)).map datRow) → Fr h₀ L h m → News h₀ L h ((D2, listOf ys.toArray ys.length) :: (add ++ news)) → (∀ p ∈ add ++ news, p.1 ≠ D2) → Q (.ref D2) { s with heap := h, toks := tk }) :
    SrcLP prog w A h₀ L m env (.Tuple [.BinOp (.Name x p1) .Add (.Constant (.int k) n1 p2) p3, .Name y p4] kk p5) x y scope cl (fun s₂ => FinE h₀ L m s₂ Q) (.ref ax) s := by
  have hl : vs.length = rows.length := by have := hd.length; simpa using this
  refine SrcLP.ledger (k := nn) hh F N hm (by rw [List.size_toArray, hl, sizeLine_eq]; omega) fun g => ?_
  have hs : vs.toArray.size = rows.length := by rw [List.size_toArray, hl]
  rw [hs]
  refine shift_turns (news := news) (add := []) hx hy hkind hdx hdy hm hd (fun ys add ha hys => ?_) rows.length 0 [] (by omega) Above.nil ?_
  · intro D2 h tk F' N' o1
    refine fin ys add D2 h tk ha hys F' N' fun p hp => ?_
    have : ∀ {l : Led}, Off1 D2 l → ∀ p ∈ l, p.1 ≠ D2 := by
      intro l
      induction l with
      | nil => intro _ _ h; nomatch h
      | cons q r ih =>
        intro ho p hp
        rcases List.mem_cons.mp hp with rfl | hp
        · exact ho.1
        · exact ih ho.2 p hp
    exact this o1 p hp
  · simp only [List.take_zero, List.map_nil]; exact .nil
/-- told += made: the list's entry turned, what stands behind it kept -/
theorem told_iadd {xs ys : List Value} {n k : Nat} {Q : Value → Shared → Prop} (F : Fr h₀ L s.heap m) (N : News h₀ L s.heap ((D2, listOf ys.toArray k) :: (add ++ (D, listOf xs.toArray n) :: tail)))
    (hoff : ∀ p ∈ tail, p.1 ≠ D) (hadd : ∀ p ∈ add, p.1 ≠ D) (hsz : xs.length + ys.length ≤ sizeLine)
    (h : ∀ h' n', Fr h₀ L h' m → News h₀ L h' ((D, listOf (xs ++ ys).toArray n') :: (add ++ tail)) → (∀ p ∈ add ++ tail, p.1 ≠ D) → Q (.ref D) { s with heap := h' }) :
    wpAny (model prog w) A (inplaceOp .Add (.ref D) (.ref D2)) Q E s := by
  refine iadd_list (n := n) F N (List.mem_cons_of_mem _ (List.mem_append_right _ (List.mem_cons_self ..))) (List.mem_cons_self ..) hsz fun h' n' F' hN => ?_
  have ho : ∀ p ∈ add ++ tail, p.1 ≠ D := fun p hp => (List.mem_append.mp hp).elim (hadd p) (hoff p)
  refine h h' n' F' (hN _ fun p hp => ?_) ho
  rcases List.mem_cons.mp hp with rfl | hp
  · exact .inl rfl
  · refine .inr ⟨?_, ho p hp⟩
    rcases List.mem_append.mp hp with hp | hp
    · simp [hp]
    · simp [hp]
theorem Above.off {o : Obj} (ha : Above add ((D, o) :: tail)) : ∀ p ∈ add, p.1 ≠ D := fun p hp => Ne.symm (Nat.ne_of_lt (ha p hp (D, o) (List.mem_cons_self ..)))
theorem Above.mono {a b c : Led} (h : Above a c) (hs : ∀ p ∈ b, p ∈ c) : Above a b := fun q hq p hp => h q hq p (hs p hp)
theorem Above.append {a b c : Led} (h : Above a c) (h2 : Above b c) : Above (a ++ b) c := fun q hq p hp => (List.mem_append.mp hq).elim (fun x => h q x p hp) fun x => h2 q x p hp
theorem tup_dat {a : Addr} {d : Int} {x : Str} {t u : Tok} {n : Nat} (h : (a, ({ cls := .type "tuple", data := .seq #[.int d t, .str x u] n } : Obj)) ∈ news) : DatIn news (.ref a) (datRow (d, x)) :=
  DatIn.tuple h (.cons (.int _ _) (.cons (.str _ _) .nil))
theorem rows_iadd {cur ys : List Value} {n k : Nat} {add1 addN : Led} {R1 R2 : List Rw} {Q : Value → Shared → Prop} (F : Fr h₀ L s.heap m)
    (N : News h₀ L s.heap ((D2, listOf ys.toArray k) :: (addN ++ (D, listOf cur.toArray n) :: (add1 ++ news))))
    (hoff : ∀ p ∈ add1 ++ news, p.1 ≠ D) (hA : Above add1 news) (hN : Above addN ((D, listOf cur.toArray n) :: (add1 ++ news)))
    (hc : DatAll add1 cur (R1.map datRow)) (hy : DatAll addN ys (R2.map datRow)) (hsz : R1.length + R2.length ≤ 100000)
    (h : ∀ h' n' add2 cur2, Fr h₀ L h' m → News h₀ L h' ((D, listOf (List.toArray cur2) n') :: (add2 ++ news)) → (∀ p ∈ add2 ++ news, p.1 ≠ D) → Above add2 news → (∀ p ∈ add1, p ∈ add2) → DatAll add2 cur2 ((R1 ++ R2).map datRow) → Q (.ref D) { s with heap := h' }) :
    wpAny (model prog w) A (inplaceOp .Add (.ref D) (.ref D2)) Q E s := by
  have hl1 := hc.length
  have hl2 := hy.length
  simp only [List.length_map] at hl1 hl2
  refine told_iadd F N hoff hN.off (by rw [hl1, hl2, sizeLine_eq]; omega) fun h' n' F' N' ho => ?_
  have e : addN ++ (add1 ++ news) = (addN ++ add1) ++ news := by simp
  rw [e] at N' ho
  refine h h' n' (addN ++ add1) (cur ++ ys) F' N' ho (Above.append (hN.mono fun p hp => by simp [hp]) hA) (fun p hp => by simp [hp]) ?_
  rw [List.map_append]
  exact DatAll.append (DatAll.mono (fun p hp => List.mem_append_right _ hp) hc) (DatAll.mono (fun p hp => List.mem_append_left _ hp) hy)
end
end Mine
end
section
open PySem PySem.W PyProof.Rows PyProof.Rows.LCg PyProof.Rows.LCp
set_option maxRecDepth 100000
set_option maxHeartbeats 1000000
namespace Mine
local macro_rules | `(tactic| walk_at "newTuple") => `(tactic| (k_here; k_dflt (refine' newTuple_A ?F ?N ?_ ?z; (case F => k_asm); (case N => k_asm); (case z => exact Nat.le_of_ble_eq_true rfl)); intro a' h' F' N' l1))
local macro_rules | `(tactic| walk_at "newList") => `(tactic| (k_here; k_dflt (refine' newList_A ?F ?N ?_ ?z; (case F => k_asm); (case N => k_asm); (case z => exact Nat.le_of_ble_eq_true rfl)); intro a' h' F' N' l1))
local macro_rules | `(tactic| walk_at "eval ListComp") => `(tactic| (k_here; k_dflt (refine LCp.ListComp_P (F₀ := by k_asm) (by with_unfolding_all rfl) (by decide) (by rfl) (by decide) (by rfl) (by rfl) (by decide) ?_)))
theorem rows_call {w : World} {mean : ExcName → Option Value} {mg mb : Str → Option Value} {news : Led} {x : Str} {tx : Tok} {ab aw : Addr} {vb vw : List Value} {nb nw : Nat} {b c : List Rw}
    {dp un : Nat} {gd : Option (List Code)} {cn : Str} {cs : Scope} {a : Addr} {ccd : Value} {cl : List (Str × Addr)} {outer : List Env} {A₀ : Around} {base h₀ : Heap} {L : Addr} {m : Str → Option Value} {s : Shared} {Q E : Value → Shared → Prop}
    (B : Below A₀ base outer h₀) (F : Fr h₀ L s.heap m) (X : (Mine.hd.heap_39 w.params).In h₀) (N : News h₀ L s.heap news) (T : Top hd.view_39 (looseW hd.view_39 []) mean mg mb h₀) (hk : cs.kind = .function)
    (hx : x.length ≤ 1000) (hmb : (ab, listOf vb.toArray nb) ∈ news) (hmw : (aw, listOf vw.toArray nw) ∈ news) (hb : DatAll news vb (b.map datRow)) (hc : DatAll news vw (c.map datRow)) (hlb : b.length ≤ 1000) (hlc : c.length ≤ 1000) (hd : dp + 2 < recursionLimit) (hu : un + 16 < cLine)
    (h : ∀ (D : Addr) (vs : List Value) (n : Nat) (add : Led) (h' : Heap) (tk' : Nat), Fr h₀ L h' m → News h₀ L h' ((D, listOf vs.toArray n) :: (add ++ news)) → (∀ p ∈ news, @LT.lt Nat _ p.1 D) → (∀ p ∈ add, p.1 ≠ D) → Above add news →
      DatAll add vs ((rowsOf x b c).map datRow) → Q (.ref D) { s with heap := h', toks := tk' }) :
    wpAny (model PySem.Challenge.pw_sn0119_01 w) (ktrTop dp un gd cn cs L a ccd cl outer) (call (.ref 33) [.str x tx, .ref ab, .ref aw]) Q E s := by
  refine wpAny_call ?_
  k_dflt cell_enter
  k_steps
  refine' shift_src ?hh ?F ?N ?hm ?hd ?hz ?hx ?hy ?hk ?dx ?dy ?_
  case hh => rfl
  case F => k_asm
  case N => k_asm
  case hm => k_ownIn
  case hd => exact DatAll.mono (by kcj_all) hb
  case hz => omega
  case hx => rfl
  case hy => rfl
  case hk => rfl
  case dx => decide
  case dy => decide
  intro ys' add' D' h' tk' hAb' hDat' F' N' hOff'
  rename Low news _ => lt1
  rename Low (_ :: news) _ => lt2
  rename Low (_ :: _ :: news) _ => ltD
  refine rows_iadd (cur := [_, _]) (add1 := [_, _]) (R1 := headRows x) F' N' ?o ?A hAb' ?c hDat' ?z (fun h2 n2 ad2 cur2 F2 N2 o2 A2 s2 d2 => ?_)
  case o => exact fun p hp => Nat.ne_of_lt (ltD p hp)
  case A => exact Above.cons (fun q hq => lt2 q (List.mem_cons_of_mem _ hq)) (Above.cons lt1 Above.nil)
  case c => exact .cons (tup_dat (List.mem_cons_of_mem _ (List.mem_cons_self ..))) (.cons (tup_dat (List.mem_cons_self ..)) .nil)
  case z => simp [headRows]; omega
  clear lt1 lt2 N' F' hAb' hDat' hOff'
  k_steps
  rename Fr _ _ _ _ => F3
  rename News _ _ _ _ => N3
  rename Low ((_, listOf _ n2) :: _) _ => lt3
  rename Low (_ :: (_, listOf _ n2) :: _) _ => lt4
  refine rows_iadd (cur := cur2) (addN := [_, _]) (ys := [_, _]) (R2 := midRows) F3 N3 o2 A2 ?N d2 ?c ?z (fun h3 n3 ad3 cur3 F3 N3 o3 A3 s3 d3 => ?_)
  case N => exact Above.cons (fun q hq => lt4 q (List.mem_cons_of_mem _ hq)) (Above.cons lt3 Above.nil)
  case c => exact .cons (tup_dat (List.mem_cons_of_mem _ (List.mem_cons_self ..))) (.cons (tup_dat (List.mem_cons_self ..)) .nil)
  case z => simp [headRows, midRows]; omega
  clear lt3 lt4
  k_steps
  rename Fr _ _ _ _ => F4
  rename News _ _ _ _ => N4
  refine' shift_src ?hh F4 N4 ?hm ?hd ?hz ?hx ?hy ?hk ?dx ?dy ?_
  case hh => rfl
  case hm => exact List.mem_cons_of_mem _ (List.mem_append_right _ hmw)
  case hd => exact DatAll.mono (fun p hp => List.mem_cons_of_mem _ (List.mem_append_right _ hp)) hc
  case hz => omega
  case hx => rfl
  case hy => rfl
  case hk => rfl
  case dx => decide
  case dy => decide
  intro ys4 add4 D4 h4 tk4 hAb4 hDat4 F4' N4' hOff4
  refine rows_iadd (cur := cur3) F4' N4' o3 A3 hAb4 d3 hDat4 ?z (fun h4 n4 ad4 cur4 F4 N4 o4 A4 s4 d4 => ?_)
  case z => simp [headRows, midRows]; omega
  clear hAb4 hDat4 hOff4
  k_steps
  rename Fr _ _ _ _ => F5
  rename News _ _ _ _ => N5
  rename Low ((_, listOf _ n4) :: _) _ => lt1
  rename Low (_ :: (_, listOf _ n4) :: _) _ => lt2
  rename Low (_ :: _ :: (_, listOf _ n4) :: _) _ => lt3
  rename Low (_ :: _ :: _ :: (_, listOf _ n4) :: _) _ => lt4
  refine rows_iadd (cur := cur4) (addN := [_, _, _, _]) (ys := [_, _, _, _]) (R2 := lastRows) F5 N5 o4 A4 ?N d4 ?c ?z (fun h5 n5 ad5 cur5 F5 N5 o5 A5 s5 d5 => ?_)
  case N => exact Above.cons (fun q hq => lt4 q (List.mem_cons_of_mem _ (List.mem_cons_of_mem _ (List.mem_cons_of_mem _ hq)))) (Above.cons (fun q hq => lt3 q (List.mem_cons_of_mem _ (List.mem_cons_of_mem _ hq))) (Above.cons (fun q hq => lt2 q (List.mem_cons_of_mem _ hq)) (Above.cons lt1 Above.nil)))
  case c => exact .cons (tup_dat (List.mem_cons_of_mem _ (List.mem_cons_of_mem _ (List.mem_cons_of_mem _ (List.mem_cons_self ..))))) (.cons (tup_dat (List.mem_cons_of_mem _ (List.mem_cons_of_mem _ (List.mem_cons_self ..)))) (.cons (tup_dat (List.mem_cons_of_mem _ (List.mem_cons_self ..))) (.cons (tup_dat (List.mem_cons_self ..)) .nil)))
  case z => simp [headRows, midRows, lastRows]; omega
  clear lt1 lt2 lt3 lt4
  k_steps
  exact h _ _ _ _ _ _ (by k_asm) (by k_asm) (fun p hp => ltD p (List.mem_cons_of_mem _ (List.mem_cons_of_mem _ hp))) (fun p hp => o5 p (List.mem_append_left _ hp)) A5 d5
end Mine
end
section
open PySem PySem.W PyProof.Rows PyProof.Rows.LCg PyProof.Rows.LCp
set_option maxRecDepth 100000
namespace Mine
/-- what was added in a turn (add), upon what stood (Z), beside the two lists -/
structure St (aT aM : Addr) (Z add : Led) : Prop where
  ne : aT ≠ aM
  offT : ∀ p ∈ add ++ Z, p.1 ≠ aT
  offM : ∀ p ∈ add ++ Z, p.1 ≠ aM
  fresh : ∀ q ∈ add, ∀ p ∈ Z, p.1 ≠ q.1
abbrev tupO (vs : List Value) : Obj := { cls := .type "tuple", data := .seq vs.toArray }
section
variable {prog : Program} {w : World} {A : Around} {E : Value → Shared → Prop} {s : Shared} {h₀ h h' : Heap} {L aT aM : Addr} {m : Str → Option Value} {Z add : Led} {vt vm : List Value} {nt nm : Nat}
theorem St.start (hne : aT ≠ aM) (hT : ∀ p ∈ Z, p.1 ≠ aT) (hM : ∀ p ∈ Z, p.1 ≠ aM) : St aT aM Z [] := ⟨hne, hT, hM, fun _ h => nomatch h⟩
theorem St.more {news : Led} {more : Led} (S : St aT aM Z add) (hsub : ∀ p ∈ (aT, listOf vt.toArray nt) :: (aM, listOf vm.toArray nm) :: (add ++ Z), p ∈ news) (hA : Above more news) : St aT aM Z (more ++ add) := by
  have hl : ∀ q ∈ more, ∀ p ∈ (aT, listOf vt.toArray nt) :: (aM, listOf vm.toArray nm) :: (add ++ Z), p.1 ≠ q.1 := fun q hq p hp => Nat.ne_of_lt (hA q hq p (hsub p hp))
  refine ⟨S.ne, fun p hp => ?_, fun p hp => ?_, fun q hq p hp => ?_⟩
  · rw [List.append_assoc] at hp
    rcases List.mem_append.mp hp with hp | hp
    · exact Ne.symm (hl p hp (aT, _) (List.mem_cons_self ..))
    · exact S.offT p hp
  · rw [List.append_assoc] at hp
    rcases List.mem_append.mp hp with hp | hp
    · exact Ne.symm (hl p hp (aM, _) (List.mem_cons_of_mem _ (List.mem_cons_self ..)))
    · exact S.offM p hp
  · rcases List.mem_append.mp hq with hq | hq
    · exact hl q hq p (by simp [hp])
    · exact S.fresh q hq p hp
theorem St.one {a : Addr} {o : Obj} (S : St aT aM Z add) (hlt : Low ((aT, listOf vt.toArray nt) :: (aM, listOf vm.toArray nm) :: (add ++ Z)) a) : St aT aM Z ((a, o) :: add) :=
  St.more (more := [(a, o)]) S (fun p hp => hp) (Above.cons hlt Above.nil)
theorem reorder {p a b : Addr × Obj} {X : Led} (N : News h₀ L h (p :: a :: b :: X)) : News h₀ L h (a :: b :: (p :: X)) := fun q hq => N q (by
  simp only [List.mem_cons] at hq ⊢
  rcases hq with h | h | h | h <;> simp [h])
theorem newTuple_C {vs : List Value} {Q : Value → Shared → Prop} (F : Fr h₀ L s.heap m) (N : News h₀ L s.heap ((aT, listOf vt.toArray nt) :: (aM, listOf vm.toArray nm) :: (add ++ Z))) (S : St aT aM Z add)
    (h : ∀ a h', Fr h₀ L h' m → News h₀ L h' ((aT, listOf vt.toArray nt) :: (aM, listOf vm.toArray nm) :: (((a, tupO vs) :: add) ++ Z)) → St aT aM Z ((a, tupO vs) :: add) → Q (.ref a) { s with heap := h' }) (hsz : vs.length ≤ sizeLine) :
    wpAny (model prog w) A (newTuple vs) Q E s := newTuple_A F N (fun a h' F' N' hl => h a h' F' (reorder N') (S.one hl)) hsz
theorem newList_C {vs : List Value} {Q : Value → Shared → Prop} (F : Fr h₀ L s.heap m) (N : News h₀ L s.heap ((aT, listOf vt.toArray nt) :: (aM, listOf vm.toArray nm) :: (add ++ Z))) (S : St aT aM Z add)
    (h : ∀ a h', Fr h₀ L h' m → News h₀ L h' ((aT, listOf vt.toArray nt) :: (aM, listOf vm.toArray nm) :: (((a, listOf vs.toArray 0) :: add) ++ Z)) → St aT aM Z ((a, listOf vs.toArray 0) :: add) → Q (.ref a) { s with heap := h' }) (hsz : vs.length ≤ sizeLine) :
    wpAny (model prog w) A (newList vs) Q E s := newList_A F N (fun a h' F' N' hl => h a h' F' (reorder N') (S.one hl)) hsz
theorem divmod_C {a b : Int} {t u : Tok} {Q : Value → Shared → Prop} (F : Fr h₀ L s.heap m) (N : News h₀ L s.heap ((aT, listOf vt.toArray nt) :: (aM, listOf vm.toArray nm) :: (add ++ Z))) (S : St aT aM Z add) (hb : b ≠ 0)
    (hp : Builtin.divisionGoesByPylong a b = false ∨ PySem.PylongRoom (model prog w) A s)
    (h : ∀ (r : Addr) h' k, Fr h₀ L h' m → News h₀ L h' ((aT, listOf vt.toArray nt) :: (aM, listOf vm.toArray nm) :: (((r, tupO [.int (a.fdiv b) s.toks, .int (a.fmod b) (s.toks + 1)]) :: add) ++ Z)) → St aT aM Z ((r, tupO [.int (a.fdiv b) s.toks, .int (a.fmod b) (s.toks + 1)]) :: add) → Q (.ref r) { s with toks := k, heap := h' }) :
    wpAny (model prog w) A (call (.builtin "divmod") [.int a t, .int b u]) Q E s :=
  divmod_N F N hb (fun h' F' N' => h _ h' _ F' (reorder N') (S.one fun p hp => Heap.lt_size (N p hp).1)) hp
theorem append_T {v : Value} {Q : Value → Shared → Prop} (F : Fr h₀ L s.heap m) (N : News h₀ L s.heap ((aT, listOf vt.toArray nt) :: (aM, listOf vm.toArray nm) :: (add ++ Z))) (S : St aT aM Z add) (hsz : vt.length ≤ 1000)
    (h : ∀ h', Fr h₀ L h' m → News h₀ L h' ((aT, listOf (vt ++ [v]).toArray (nt + 1)) :: (aM, listOf vm.toArray nm) :: (add ++ Z)) → Q .none { s with heap := h' }) :
    wpAny (model prog w) A (call (.builtin "list.append") [.ref aT, v]) Q E s := by
  have hz := N _ (List.mem_cons_self ..)
  refine append_at (hsz := by rw [List.size_toArray, sizeLine_eq]; omega) hz.1 fun h' hs ho => h h' (F.change hs hz.2.1 hz.2.2) ?_
  rw [List.push_toArray] at ho
  refine news_set N hs hz.2.1 hz.2.2 ho fun p hp => ?_
  rcases List.mem_cons.mp hp with rfl | hp
  · exact .inl rfl
  · refine .inr ⟨List.mem_cons_of_mem _ hp, ?_⟩
    rcases List.mem_cons.mp hp with rfl | hp
    · exact Ne.symm S.ne
    · exact S.offT p hp
theorem append_M {v : Value} {Q : Value → Shared → Prop} (F : Fr h₀ L s.heap m) (N : News h₀ L s.heap ((aT, listOf vt.toArray nt) :: (aM, listOf vm.toArray nm) :: (add ++ Z))) (S : St aT aM Z add) (hsz : vm.length ≤ 1000)
    (h : ∀ h', Fr h₀ L h' m → News h₀ L h' ((aT, listOf vt.toArray nt) :: (aM, listOf (vm ++ [v]).toArray (nm + 1)) :: (add ++ Z)) → Q .none { s with heap := h' }) :
    wpAny (model prog w) A (call (.builtin "list.append") [.ref aM, v]) Q E s := by
  have hz := N _ (List.mem_cons_of_mem _ (List.mem_cons_self ..))
  refine append_at (hsz := by rw [List.size_toArray, sizeLine_eq]; omega) hz.1 fun h' hs ho => h h' (F.change hs hz.2.1 hz.2.2) ?_
  rw [List.push_toArray] at ho
  refine news_set N hs hz.2.1 hz.2.2 ho fun p hp => ?_
  rcases List.mem_cons.mp hp with rfl | hp
  · exact .inr ⟨List.mem_cons_self .., S.ne⟩
  · rcases List.mem_cons.mp hp with rfl | hp
    · exact .inl rfl
    · exact .inr ⟨List.mem_cons_of_mem _ (List.mem_cons_of_mem _ hp), S.offM p hp⟩
theorem pop_T {v : Value} {Q : Value → Shared → Prop} (F : Fr h₀ L s.heap m) (N : News h₀ L s.heap ((aT, listOf (vt ++ [v]).toArray nt) :: (aM, listOf vm.toArray nm) :: (add ++ Z))) (S : St aT aM Z add) (hsz : vt.length ≤ 1000)
    (h : ∀ h', Fr h₀ L h' m → News h₀ L h' ((aT, listOf vt.toArray (nt + 1)) :: (aM, listOf vm.toArray nm) :: (add ++ Z)) → Q v { s with heap := h' }) :
    wpAny (model prog w) A (call (.builtin "list.pop") [.ref aT]) Q E s := by
  refine kl_pop F N (p := vt) (y := v) (kpa_last v vt) (Upd.head fun p hp => ?_) (by simp [sizeLine]; omega) h
  rcases List.mem_cons.mp hp with rfl | hp
  · exact Ne.symm S.ne
  · exact S.offT p hp
theorem pop_M {v : Value} {Q : Value → Shared → Prop} (F : Fr h₀ L s.heap m) (N : News h₀ L s.heap ((aT, listOf vt.toArray nt) :: (aM, listOf (vm ++ [v]).toArray nm) :: (add ++ Z))) (S : St aT aM Z add) (hsz : vm.length ≤ 1000)
    (h : ∀ h', Fr h₀ L h' m → News h₀ L h' ((aT, listOf vt.toArray nt) :: (aM, listOf vm.toArray (nm + 1)) :: (add ++ Z)) → Q v { s with heap := h' }) :
    wpAny (model prog w) A (call (.builtin "list.pop") [.ref aM]) Q E s :=
  kl_pop F N (p := vm) (y := v) (kpa_last v vm) (Upd.tail S.ne (Upd.head S.offM)) (by simp [sizeLine]; omega) h
theorem len_M {Q : Value → Shared → Prop} (N : News h₀ L s.heap ((aT, listOf vt.toArray nt) :: (aM, listOf vm.toArray nm) :: (add ++ Z))) (hsz : vm.length ≤ 1000)
    (h : ∀ t k, Q (.int (vm.length : Int) t) { s with toks := k }) : wpAny (model prog w) A (call (.builtin "len") [.ref aM]) Q E s := by
  have hl : s.heap.IsList aM vm.toArray := ⟨_, (N _ (List.mem_cons_of_mem _ (List.mem_cons_self ..))).1, rfl, nm, rfl⟩
  have e : vm.toArray.size = vm.length := List.size_toArray ..
  exact len_list hl (by rw [e]; omega) (by rw [e]; exact h _ _)
theorem in_Z {p a b : Addr × Obj} (h : p ∈ Z) : p ∈ a :: b :: (add ++ Z) := List.mem_cons_of_mem _ (List.mem_cons_of_mem _ (List.mem_append_right _ h))
theorem cat_C {a b : Addr} {ra rb : Nat} {xs ys : List Value} {Q : Value → Shared → Prop} (F : Fr h₀ L s.heap m) (N : News h₀ L s.heap ((aT, listOf vt.toArray nt) :: (aM, listOf vm.toArray nm) :: (add ++ Z))) (S : St aT aM Z add)
    (ha : (a, listOf xs.toArray ra) ∈ Z) (hb : (b, listOf ys.toArray rb) ∈ Z) (hsz : xs.length + ys.length ≤ 100000)
    (h : ∀ c h', Fr h₀ L h' m → News h₀ L h' ((aT, listOf vt.toArray nt) :: (aM, listOf vm.toArray nm) :: (((c, listOf (xs ++ ys).toArray 0) :: add) ++ Z)) → St aT aM Z ((c, listOf (xs ++ ys).toArray 0) :: add) → Q (.ref c) { s with heap := h' }) :
    wpAny (model prog w) A (binaryOp .Add (.ref a) (.ref b)) Q E s := by
  have la : s.heap.IsList a xs.toArray := ⟨_, (N _ (in_Z ha)).1, rfl, ra, rfl⟩
  have lb : s.heap.IsList b ys.toArray := ⟨_, (N _ (in_Z hb)).1, rfl, rb, rfl⟩
  exact add_lists F N la lb (fun h' F' N' => h _ h' F' (reorder N') (S.one fun p hp => Heap.lt_size (N p hp).1)) (by rw [sizeLine_eq]; omega)
/-- a written table of texts, at a place within it -/
theorem item_C {value slice : PySem.Expr} {a : Addr} {n : Nat} {vs : List Value} {k : Int} {u : Tok} {P : Str → Prop} {Q : Value → Shared → Prop} (N : News h₀ L s.heap ((aT, listOf vt.toArray nt) :: (aM, listOf vm.toArray nm) :: (add ++ Z)))
    (hm : (a, ({ cls := .type "tuple", data := .seq vs.toArray n } : Obj)) ∈ Z) (hv : ∀ v ∈ vs, ∃ x t, v = .str x t ∧ P x) (K : Nat) (hK : vs.length = K) (h0 : 0 ≤ k) (h1 : k < K) (h63 : k < 2 ^ 63) (h : ∀ x t, P x → Q (.str x t) s)
    (hs : subscripted slice false (.ref a) (.int k u) = operate [.ref a, .int k u] (getItem (.ref a) (.int k u))) :
    wpAny (model prog w) A (subscriptTail value slice (.ref a) (.int k u)) Q E s := by
  subst hK
  have hk : k.toNat < vs.length := by omega
  obtain ⟨x, t, hx, hP⟩ := hv _ (List.getElem_mem hk)
  have ht : IsTup s.heap a vs.toArray := ⟨_, (N _ (in_Z hm)).1, rfl, n, rfl⟩
  refine item_tupleT ht (by omega) h63 (seqIndex_of h0 h1) (List.getElem?_eq_getElem hk) ?_ hs
  rw [hx]; exact h x t hP
end
end Mine
end
section
open PySem PySem.W PyProof.Rows PyProof.Rows.LCg PyProof.Rows.LCp
set_option maxRecDepth 100000
namespace Mine
def datBlk (r : List Rw) : Dat := .list (r.map datRow)
def datTxt (r : List Rw) : Dat := .str (textOf r)
def Ok (d : Int) (r : List Rw) : Prop := ∀ x ∈ r, 0 ≤ x.1 ∧ x.1 ≤ d ∧ x.2.length ≤ 64 ∧ 10 ∉ x.2.cps.toList
structure Inv (i : Nat) (X : Led) (vt vm : List Value) (st : List (List Rw)) : Prop where
  tx : DatAll [] vm (st.map datTxt)
  bk : DatAll X vt (st.map datBlk)
  ok : ∀ r ∈ st, r ≠ [] ∧ Ok (8 * i) r
  num : (st.map List.length).sum ≤ 4 + 8 * i
  len : st.length ≤ 2 + i
  ne : st ≠ []
def J (cst : Led) (aT aM : Addr) (m : Str → Option Value) (stored : List Str) (i : Nat) (m₁ : Str → Option Value) (nx : Led) : Prop :=
  (∀ z, stored.contains z = false → m₁ z = m z) ∧ ∃ X vt vm nt nm st, nx = (aT, listOf vt.toArray nt) :: (aM, listOf vm.toArray nm) :: X ∧ (∀ p ∈ cst, p ∈ X) ∧ (∀ p ∈ X, p.1 ≠ aT) ∧ (∀ p ∈ X, p.1 ≠ aM) ∧ Inv i X vt vm st
def TurnEnd (h₀ : Heap) (L : Addr) (aT aM : Addr) (m : Str → Option Value) (stored : List Str) (i : Nat) (X Z : Led) (s : Shared) (f : Flow) (s' : Shared) : Prop :=
  f = .next ∧ ∃ h' tk' m' add vt' vm' nt' nm' st', s' = { s with heap := h', toks := tk' } ∧ Fr h₀ L h' m' ∧ News h₀ L h' ((aT, listOf vt'.toArray nt') :: (aM, listOf vm'.toArray nm') :: (add ++ Z)) ∧ St aT aM Z add ∧ Inv (i + 1) (add ++ X) vt' vm' st' ∧ (∀ z, stored.contains z = false → m' z = m z)
section
variable {prog : Program} {w : World} {A : Around} {E : Value → Shared → Prop} {s : Shared} {h₀ h h' : Heap} {env : Env} {aT aM aD : Addr} {m : Str → Option Value} {x : Str} {body : List Stmt} {Q : Flow → Shared → Prop}
theorem law_loop {cst news : Led} {stored : List Str} {vs : List Value} {zs : List Int} {nn : Nat} (hh : A.handled = none) (hne : aT ≠ aM) (hx : stored.contains x = true) (hD : (aD, listOf vs.toArray nn) ∈ cst) (hz : IntsAre vs zs)
    (F : Fr h₀ env.locals s.heap m) (N : News h₀ env.locals s.heap news) (hj : J cst aT aM m stored 0 m news)
    (turn : ∀ (i : Nat) (z : Int) (t : Tok) (u : Str → Option Value) (h : Heap) (tk : Nat) (X Z : Led) (vt vm : List Value) (nt nm : Nat) (st : List (List Rw)), i < zs.length → (∀ p ∈ cst, p ∈ Z) → (∀ p ∈ X, p ∈ Z) → Inv i X vt vm st → St aT aM Z [] →
      Fr h₀ env.locals h (fun y => if y = x then some (.int z t) else if stored.contains y then u y else m y) → News h₀ env.locals h ((aT, listOf vt.toArray nt) :: (aM, listOf vm.toArray nm) :: ([] ++ Z)) →
      wpAny (model prog w) A (execs body env) (TurnEnd h₀ env.locals aT aM m stored i X Z s) E { s with heap := h, toks := tk })
    (done : ∀ (u : Str → Option Value) (h : Heap) (tk : Nat) (X : Led) (vt vm : List Value) (nt nm : Nat) (st : List (List Rw)), (∀ p ∈ cst, p ∈ X) → (∀ p ∈ X, p.1 ≠ aT) → (∀ p ∈ X, p.1 ≠ aM) → Inv zs.length X vt vm st →
      Fr h₀ env.locals h (fun y => if stored.contains y then u y else m y) → News h₀ env.locals h ((aT, listOf vt.toArray nt) :: (aM, listOf vm.toArray nm) :: X) → Q .next { s with heap := h, toks := tk }) :
    wpAny (model prog w) A (pyIter (.ref aD)) (fun it s₂ => LoopAtV prog w A h₀ env x body Q E it s₂) E s := by
  have hlen : vs.length = zs.length := hz.length
  have hmem : ∀ {i m₁ nx}, J cst aT aM m stored i m₁ nx → (aD, listOf vs.toArray nn) ∈ nx := by
    rintro i m₁ nx ⟨_, X, vt, vm, nt, nm, st, rfl, hc, _⟩
    exact List.mem_cons_of_mem _ (List.mem_cons_of_mem _ (hc _ hD))
  refine kdl_iter (J cst aT aM m stored) hh (hmem hj) F N hj ?_ ?_
  · rintro i v m₁ nx h tk own hv hoff _ ⟨hm, X, vt, vm, nt, nm, st, rfl, hc, hT, hM, hI⟩ F₁ N₁
    have hi : i < zs.length := by rw [← hlen]; exact (List.getElem?_eq_some_iff.mp hv).1
    obtain ⟨t, hx'⟩ := hz.get i (zs[i]'hi) (List.getElem?_eq_getElem hi)
    have ev : v = .int (zs[i]'hi) t := by rw [hx'] at hv; exact (Option.some.inj hv).symm
    subst ev
    have oT : ∀ p ∈ own, p.1 ≠ aT := fun p hp => hoff p hp aT (by simp)
    have oM : ∀ p ∈ own, p.1 ≠ aM := fun p hp => hoff p hp aM (by simp)
    have em : (fun y => if y = x then some (Value.int (zs[i]'hi) t) else m₁ y) = fun y => if y = x then some (Value.int (zs[i]'hi) t) else if stored.contains y then m₁ y else m y := by
      funext y
      by_cases h1 : y = x
      · simp [h1]
      · rw [if_neg h1, if_neg h1]
        cases h2 : stored.contains y with
        | true => simp
        | false => simp only [Bool.false_eq_true, if_false]; exact hm y h2
    rw [em] at F₁
    refine wpAny_mono (turn i (zs[i]'hi) t m₁ h tk X (X ++ own) vt vm nt nm st hi (fun p hp => List.mem_append_left _ (hc p hp)) (fun p hp => List.mem_append_left _ hp) hI (St.start hne (fun p hp => (List.mem_append.mp hp).elim (hT p) (oT p)) (fun p hp => (List.mem_append.mp hp).elim (hM p) (oM p))) F₁ N₁) (fun f s₂ hq => ?_) fun _ _ e => e
    obtain ⟨rfl, h', tk', m', add, vt', vm', nt', nm', st', rfl, F', N', S', hI', hm'⟩ := hq
    refine ⟨h', tk', m', _, (aT, listOf vt'.toArray nt') :: (aM, listOf vm'.toArray nm') :: (add ++ X), rfl, F', N', ?_, ?_, ?_, ?_, hm', add ++ X, vt', vm', nt', nm', st', rfl, fun p hp => List.mem_append_right _ (hc p hp), ?_, ?_, hI'⟩
    · intro p hp
      simp only [List.mem_cons, List.mem_append] at hp ⊢
      rcases hp with h | h | h | h <;> simp [h]
    · intro p hp; simp [hp]
    · intro p hp b hb
      simp only [List.map_cons, List.mem_cons, List.map_append, List.mem_append, List.mem_map] at hb
      rcases hb with rfl | rfl | ⟨q, hq, rfl⟩ | ⟨q, hq, rfl⟩
      · exact oT p hp
      · exact oM p hp
      · exact S'.fresh q hq p (List.mem_append_right _ hp)
      · exact hoff p hp q.1 (List.mem_map.mpr ⟨q, by simp [hq], rfl⟩)
    · exact List.mem_cons_of_mem _ (List.mem_cons_of_mem _ (List.mem_append_right _ (hc _ hD)))
    · intro p hp
      exact S'.offT p (by rw [← List.append_assoc]; exact List.mem_append_left _ hp)
    · intro p hp
      exact S'.offM p (by rw [← List.append_assoc]; exact List.mem_append_left _ hp)
  · rintro m₁ nx h tk ⟨hm, X, vt, vm, nt, nm, st, rfl, hc, hT, hM, hI⟩ F₁ N₁
    rw [hlen] at hI
    have em : m₁ = fun y => if stored.contains y then m₁ y else m y := by
      funext y
      cases h2 : stored.contains y with
      | true => simp
      | false => simp only [Bool.false_eq_true, if_false]; exact hm y h2
    rw [em] at F₁
    exact done m₁ h tk X vt vm nt nm st hc hT hM hI F₁ N₁
end
/-! the stack's moves -/
theorem Ok.mono {d e : Int} {r : List Rw} (h : Ok d r) (hde : d ≤ e) : Ok e r := fun x hx => by obtain ⟨a, b, c⟩ := h x hx; exact ⟨a, Int.le_trans b hde, c⟩
theorem Ok.free {d : Int} {r : List Rw} (h : Ok d r) : Free r := fun x hx => (h x hx).2.2.2
theorem Ok.nonneg {d : Int} {r : List Rw} (h : Ok d r) : ∀ x ∈ r, 0 ≤ x.1 := fun x hx => (h x hx).1
theorem Ok.append {d : Int} {a b : List Rw} (h : Ok d a) (k : Ok d b) : Ok d (a ++ b) := fun x hx => (List.mem_append.mp hx).elim (h x) (k x)
theorem Ok.shift {d k : Int} {r : List Rw} (h : Ok d r) (hk : 0 ≤ k) : Ok (d + k) (r.map (shift k)) := fun x hx => by
  obtain ⟨y, hy, rfl⟩ := List.mem_map.mp hx
  obtain ⟨a, b, c⟩ := h y hy
  exact ⟨by show 0 ≤ y.1 + k; omega, by show y.1 + k ≤ d + k; omega, c⟩
def XOk (x : Str) : Prop := x.length ≤ 30 ∧ 10 ∉ x.cps.toList
def RowOk (x : Str) : Prop := x.length ≤ 64 ∧ 10 ∉ x.cps.toList
theorem Ok.rowsOf {d : Int} {x : Str} {b c : List Rw} (hx : XOk x) (hd : 0 ≤ d) (hb : Ok d b) (hc : Ok d c) : Ok (d + 8) (rowsOf x b c) := by
  have e1 : (Str.ofString "def inner(_it, _timer").length = 21 ∧ 10 ∉ (Str.ofString "def inner(_it, _timer").cps.toList := by decide +kernel
  have e2 : (Str.ofString "):").length = 2 ∧ 10 ∉ (Str.ofString "):").cps.toList := by decide +kernel
  have e3 : RowOk (Str.ofString "") := by unfold RowOk; decide +kernel
  have e4 : RowOk (Str.ofString "_t0 = _timer()") := by unfold RowOk; decide +kernel
  have e5 : RowOk (Str.ofString "for _i in _it:") := by unfold RowOk; decide +kernel
  have e6 : RowOk (Str.ofString "pass") := by unfold RowOk; decide +kernel
  have e7 : RowOk (Str.ofString "_t1 = _timer()") := by unfold RowOk; decide +kernel
  have e8 : RowOk (Str.ofString "return _t1 - _t0") := by unfold RowOk; decide +kernel
  have eh : RowOk (Str.ofString "def inner(_it, _timer" ++ x ++ Str.ofString "):") := by
    obtain ⟨h1, h2⟩ := hx
    refine ⟨by rw [Str.length_append, Str.length_append, e1.1, e2.1]; omega, ?_⟩
    rw [app_toList, app_toList]
    simp only [List.mem_append, not_or]
    exact ⟨⟨e1.2, h2⟩, e2.2⟩
  have one : ∀ {k : Int} {y : Str}, 0 ≤ k → k ≤ 8 → RowOk y → ∀ r ∈ ([(k, y)] : List Rw), 0 ≤ r.1 ∧ r.1 ≤ d + 8 ∧ r.2.length ≤ 64 ∧ 10 ∉ r.2.cps.toList := by
    intro k y h0 h8 hy r hr
    rw [List.mem_singleton.mp hr]
    exact ⟨h0, by show k ≤ d + 8; omega, hy⟩
  unfold Mine.rowsOf
  refine Ok.append (Ok.append (Ok.append (Ok.append ?_ ?_) ?_) ?_) ?_
  · exact Ok.append (a := [(0, Str.ofString "")]) (one (by decide) (by decide) e3) (one (by decide) (by decide) eh)
  · exact (hb.shift (by decide)).mono (by omega)
  · exact Ok.append (a := [(4, _)]) (one (by decide) (by decide) e4) (one (by decide) (by decide) e5)
  · exact hc.shift (by decide)
  · exact Ok.append (a := [(8, _)]) (one (by decide) (by decide) e6) (Ok.append (a := [(4, _)]) (one (by decide) (by decide) e7) (Ok.append (a := [(4, _)]) (one (by decide) (by decide) e8) (one (by decide) (by decide) e3)))
theorem rowsOf_len (x : Str) (b c : List Rw) : (rowsOf x b c).length = b.length + c.length + 8 := by
  simp [rowsOf, headRows, midRows, lastRows]; omega
theorem rowsOf_ne (x : Str) (b c : List Rw) : rowsOf x b c ≠ [] := by simp [rowsOf, headRows]
theorem join_len : ∀ {ls : List Str} {B : Nat}, (∀ l ∈ ls, l.length ≤ B) → (Str.join nl ls).length ≤ ls.length * (B + 1)
  | [], _, _ => by simp [Str.join, Str.empty, Str.length]
  | [x], B, h => by
    have := h x (by simp)
    simp only [Str.join, List.length_singleton]; omega
  | x :: y :: r, B, h => by
    have ih := join_len (ls := y :: r) (B := B) fun l hl => h l (List.mem_cons_of_mem _ hl)
    have h1 := h x (by simp)
    show (x ++ nl ++ Str.join nl (y :: r)).length ≤ _
    rw [Str.length_append, Str.length_append, nl_len, List.length_cons, Nat.succ_mul]
    omega
theorem text_len {d : Nat} {r : List Rw} (h : Ok d r) : (textOf r).length ≤ r.length * (d + 65) := by
  have := join_len (ls := r.map lineS) (B := d + 64) fun l hl => by
    obtain ⟨x, hx, rfl⟩ := List.mem_map.mp hl
    obtain ⟨a, b, c, _⟩ := h x hx
    unfold lineS
    rw [Str.length_append, blanks_len]
    omega
  rw [List.length_map] at this
  exact this
theorem text_one (x : Str) : textOf [(0, x)] = x := by
  apply str_ext
  show (lineS (0, x)).cps.toList = _
  unfold lineS
  rw [app_toList, blanks_toList]; rfl
theorem dat_snoc {news : Led} {d : Dat} : ∀ {ds : List Dat} {vs : List Value}, DatAll news vs (ds ++ [d]) → ∃ vs0 v, vs = vs0 ++ [v] ∧ DatAll news vs0 ds ∧ DatIn news v d
  | [], _, h => by
    cases h with
    | cons h1 h2 => cases h2; exact ⟨[], _, rfl, .nil, h1⟩
  | e :: ds, _, h => by
    cases h with
    | cons h1 h2 =>
      obtain ⟨vs0, v, rfl, h3, h4⟩ := dat_snoc h2
      exact ⟨_ :: vs0, v, rfl, .cons h1 h3, h4⟩
theorem Inv.put {i : Nat} {X add : Led} {vt0 vm0 xs : List Value} {al : Addr} {n : Nat} {t : Tok} {pre : List (List Rw)} {r : List Rw}
    (htx : DatAll [] vm0 (pre.map datTxt)) (hbk : DatAll X vt0 (pre.map datBlk)) (hok : ∀ r ∈ pre, r ≠ [] ∧ Ok (8 * i) r) (hnum : (pre.map List.length).sum + r.length ≤ 4 + 8 * (i + 1)) (hlen : pre.length ≤ 2 + i)
    (hne : r ≠ []) (hr : Ok (8 * (i + 1 : Nat)) r) (hm : (al, listOf xs.toArray n) ∈ add ++ X) (hd : DatAll (add ++ X) xs (r.map datRow)) :
    Inv (i + 1) (add ++ X) (vt0 ++ [.ref al]) (vm0 ++ [.str (textOf r) t]) (pre ++ [r]) where
  tx := by rw [List.map_append]; exact DatAll.append htx (DatAll.one (.str _ _))
  bk := by rw [List.map_append]; exact DatAll.append (DatAll.mono (fun p hp => List.mem_append_right _ hp) hbk) (DatAll.one (.list hm hd))
  ok := fun q hq => by
    rcases List.mem_append.mp hq with hq | hq
    · exact ⟨(hok q hq).1, (hok q hq).2.mono (by omega)⟩
    · rw [List.mem_singleton.mp hq]; exact ⟨hne, hr⟩
  num := by simp; omega
  len := by simp; omega
  ne := by simp
/-- the two topmost of the stack, taken apart -/
theorem Inv.two {i : Nat} {X : Led} {vt vm : List Value} {pre : List (List Rw)} {r1 r2 : List Rw} (h : Inv i X vt vm (pre ++ [r1] ++ [r2])) :
    ∃ vt0 a1 n1 xs1 a2 n2 xs2 vm0 t1 t2, vt = vt0 ++ [.ref a1] ++ [.ref a2] ∧ vm = vm0 ++ [.str (textOf r1) t1] ++ [.str (textOf r2) t2] ∧ (a1, listOf (List.toArray xs1) n1) ∈ X ∧ (a2, listOf (List.toArray xs2) n2) ∈ X ∧
      DatAll X xs1 (r1.map datRow) ∧ DatAll X xs2 (r2.map datRow) ∧ DatAll [] vm0 (pre.map datTxt) ∧ DatAll X vt0 (pre.map datBlk) := by
  have g1 := h.bk
  have g2 := h.tx
  rw [List.map_append, List.map_append] at g1 g2
  obtain ⟨vt1, v2, rfl, g3, d2⟩ := dat_snoc g1
  obtain ⟨vt0, v1, rfl, g4, d1⟩ := dat_snoc g3
  obtain ⟨vm1, w2, rfl, g5, e2⟩ := dat_snoc g2
  obtain ⟨vm0, w1, rfl, g6, e1⟩ := dat_snoc g5
  cases d1 with
  | list m1 q1 =>
    cases d2 with
    | list m2 q2 =>
      cases e1 with
      | str _ t1 =>
        cases e2 with
        | str _ t2 => exact ⟨vt0, _, _, _, _, _, _, vm0, t1, t2, rfl, rfl, m1, m2, q1, q2, g6, g4⟩
theorem two_of {α : Type} {st : List α} (h : 2 ≤ st.length) : ∃ pre r1 r2, st = pre ++ [r1] ++ [r2] := by
  obtain ⟨a, r2, rfl⟩ : ∃ a b, st = a ++ [b] := ⟨st.dropLast, st.getLast (by intro e; simp [e] at h), (List.dropLast_concat_getLast _).symm⟩
  obtain ⟨pre, r1, rfl⟩ : ∃ p b, a = p ++ [b] := ⟨a.dropLast, a.getLast (by intro e; simp [e] at h), (List.dropLast_concat_getLast _).symm⟩
  exact ⟨pre, r1, r2, rfl⟩
end Mine
end
section
open PySem PySem.W PyProof.Rows PyProof.Rows.LCg PyProof.Rows.LCp
set_option maxRecDepth 100000
namespace Mine
def PairEnd (h₀ : Heap) (L D : Addr) (m : Str → Option Value) (xi xc : Str) (rest : Led) (zs : List Int) (s : Shared) (f : Flow) (s' : Shared) : Prop :=
  f = .next ∧ ∃ h' tk' vs'' zs'' k'' m₂, s' = { s with heap := h', toks := tk' } ∧ Fr h₀ L h' m₂ ∧ News h₀ L h' ((D, listOf (List.toArray vs'') k'') :: rest) ∧ IntsAre vs'' zs'' ∧ zs''.length = zs.length ∧ (∀ y, y ≠ xi → y ≠ xc → m₂ y = m y)
theorem pair_inv {prog : Program} {w : World} {A : Around} {E : Value → Shared → Prop} {h₀ : Heap} {L : Addr} {env : Env} {ns : List Int} {e : Addr} {s : Shared} {m : Str → Option Value} {D : Addr} {vs : List Value} {zs : List Int} {k : Nat} {rest : Led} {xi xc : Str} {body : List Stmt} {Q : Flow → Shared → Prop}
    (S : PairSrcL prog w A E h₀ L ItemKind.int ns (.ref e) s m ((D, listOf vs.toArray k) :: rest)) (hL : env.locals = L) (hi : IntsAre vs zs)
    (turn : ∀ (i : Nat) (n : Int) (ti tv : Tok) (vs' : List Value) (zs' : List Int) (k' : Nat) (h : Heap) (tk : Nat) (own : Led), i < ns.length → IntsAre vs' zs' → zs'.length = zs.length → (∀ p ∈ rest ++ own, p.1 ≠ D) →
      Fr h₀ env.locals h (fun y => if y = xc then some (.int n tv) else if y = xi then some (.int i ti) else m y) → News h₀ env.locals h ((D, listOf vs'.toArray k') :: (rest ++ own)) →
      wpAny (model prog w) A (execs body env) (PairEnd h₀ env.locals D m xi xc (rest ++ own) zs s) E { s with heap := h, toks := tk })
    (hoff : ∀ p ∈ rest, p.1 ≠ D)
    (done : ∀ (h : Heap) (tk : Nat) (vs' : List Value) (zs' : List Int) (k' : Nat) (u v : Option Value), IntsAre vs' zs' → zs'.length = zs.length → Fr h₀ env.locals h (fun y => if y = xc then v else if y = xi then u else m y) → News h₀ env.locals h ((D, listOf vs'.toArray k') :: rest) → Q .next { s with heap := h, toks := tk }) :
    wpAny (model prog w) A (pyIter (.ref e)) (fun it s₂ => PairAt3 prog w A h₀ env xi xc body Q E it s₂) E s := by
  refine S env hL xi xc body Q (fun _ m₁ nx => ∃ vs' zs' k', nx = (D, listOf vs'.toArray k') :: rest ∧ IntsAre vs' zs' ∧ zs'.length = zs.length ∧ ∀ y, y ≠ xi → y ≠ xc → m₁ y = m y) ⟨vs, zs, k, rfl, hi, rfl, fun _ _ _ => rfl⟩ ?_ ?_
  · rintro i a t v m₁ nx s₁ own ⟨h, tk, rfl⟩ ha hv ⟨vs', zs', k', rfl, hi', hl', hm⟩ _ hsep F N
    obtain ⟨tv, rfl⟩ := hv
    have hil : i < ns.length := (List.getElem?_eq_some_iff.mp ha).1
    have hoff' : ∀ p ∈ rest ++ own, p.1 ≠ D := fun p hp => by
      rcases List.mem_append.mp hp with hp | hp
      · exact hoff p hp
      · exact hsep p hp (D, listOf vs.toArray k) (List.mem_cons_self ..)
    have em : (fun y => if y = xc then some (Value.int a tv) else if y = xi then some (Value.int i t) else m₁ y) = fun y => if y = xc then some (Value.int a tv) else if y = xi then some (Value.int i t) else m y := by
      funext y
      by_cases h1 : y = xc
      · simp [h1]
      · by_cases h2 : y = xi
        · simp [h1, h2]
        · simp only [if_neg h1, if_neg h2]; exact hm y h2 h1
    rw [em] at F
    refine wpAny_mono (turn i a t tv vs' zs' k' h tk own hil hi' hl' hoff' F (fun p hp => N p ?_)) (fun f s₂ hq => ?_) fun _ _ x => x
    · simp only [List.mem_cons, List.mem_append] at hp ⊢
      rcases hp with h | h | h <;> simp [h]
    · obtain ⟨rfl, h', tk', vs'', zs'', k'', m₂, rfl, F', N', hi'', hl'', hm''⟩ := hq
      exact ⟨rfl, h', tk', m₂, (D, listOf vs''.toArray k'') :: rest, rfl, F', fun p hp => N' p (by simp only [List.mem_cons, List.mem_append] at hp ⊢; rcases hp with h | h | h <;> simp [h]), rfl, vs'', zs'', k'', rfl, hi'', hl'', hm''⟩
  · rintro h' tk m' news' F' N' _ ⟨vs', zs', k', rfl, hi', hl', hm⟩
    have em : m' = fun y => if y = xc then m' xc else if y = xi then m' xi else m y := by
      funext y
      by_cases h1 : y = xc
      · simp [h1]
      · by_cases h2 : y = xi
        · rw [if_neg h1, if_pos h2, h2]
        · simp only [if_neg h1, if_neg h2]; exact hm y h2 h1
    rw [em] at F'
    exact done h' tk vs' zs' k' _ _ hi' hl' F' N'
abbrev st0 : List (List Rw) := [[(0, Str.ofString "pass")], [(0, Str.ofString "x = 1"), (0, Str.ofString ""), (0, Str.ofString "y = 2")]]
theorem st0_ok : ∀ r ∈ st0, r ≠ [] ∧ Ok (8 * (0 : Nat)) r := by
  have h : ∀ {y : Str}, RowOk y → Ok (8 * (0 : Nat)) [(0, y)] := by
    intro y hy r hr
    rw [List.mem_singleton.mp hr]
    exact ⟨Int.le_refl _, Int.le_refl _, hy⟩
  intro r hr
  simp only [List.mem_cons, List.not_mem_nil, or_false] at hr
  rcases hr with rfl | rfl
  · exact ⟨by simp, h (by unfold RowOk; decide +kernel)⟩
  · exact ⟨by simp, Ok.append (a := [_]) (h (by unfold RowOk; decide +kernel)) (Ok.append (a := [_]) (h (by unfold RowOk; decide +kernel)) (h (by unfold RowOk; decide +kernel)))⟩
theorem law_loop' {prog : Program} {w : World} {A : Around} {E : Value → Shared → Prop} {s : Shared} {h₀ : Heap} {env : Env} {aT aM aD aE aP b1 b2 t1 t3 t4 t5 : Addr} {m : Str → Option Value} {x : Str} {body : List Stmt} {Q : Flow → Shared → Prop}
    {k1 k2 k3 k4 k5 k6 k7 k8 k9 k10 : Tok} {nt n1 n2 nm nn : Nat} {oE oP : Obj} {q1 q2 : Addr × Obj} {stored : List Str} {vs : List Value} {zs : List Int} (hh : A.handled = none) (hz : IntsAre vs zs) (F : Fr h₀ env.locals s.heap m)
    (N : News h₀ env.locals s.heap [(aT, listOf #[.ref b1, .ref b2] nt), (b2, listOf #[.ref t3, .ref t4, .ref t5] n2), (t5, { cls := .type "tuple", data := .seq #[.int 0 k1, .str (Str.ofString "y = 2") k2] }),
      (t4, { cls := .type "tuple", data := .seq #[.int 0 k3, .str (Str.ofString "") k4] }), (t3, { cls := .type "tuple", data := .seq #[.int 0 k5, .str (Str.ofString "x = 1") k6] }), (b1, listOf #[.ref t1] n1),
      (t1, { cls := .type "tuple", data := .seq #[.int 0 k7, .str (Str.ofString "pass") k8] }), (aM, listOf #[.str (Str.ofString "pass") k9, .str (Str.ofString "x = 1\n\ny = 2") k10] nm), (aE, oE), (aP, oP), (aD, listOf vs.toArray nn), q1, q2])
    (hx : stored.contains x = true)
    (hne : aT ≠ aM) (hoff : ∀ a ∈ [b2, t5, t4, t3, b1, t1, aE, aP, aD, q1.1, q2.1], a ≠ aT ∧ a ≠ aM)
    (turn : ∀ (i : Nat) (z : Int) (t : Tok) (u : Str → Option Value) (h : Heap) (tk : Nat) (X Z : Led) (vt vm : List Value) (nt nm : Nat) (st : List (List Rw)), i < zs.length → (∀ p ∈ [(aE, oE), (aP, oP), (aD, listOf vs.toArray nn), q2], p ∈ Z) → (∀ p ∈ X, p ∈ Z) → Inv i X vt vm st → St aT aM Z [] →
      Fr h₀ env.locals h (fun y => if y = x then some (.int z t) else if stored.contains y then u y else m y) → News h₀ env.locals h ((aT, listOf vt.toArray nt) :: (aM, listOf vm.toArray nm) :: ([] ++ Z)) →
      wpAny (model prog w) A (execs body env) (TurnEnd h₀ env.locals aT aM m stored i X Z s) E { s with heap := h, toks := tk })
    (done : ∀ (u : Str → Option Value) (h : Heap) (tk : Nat) (X : Led) (vt vm : List Value) (nt nm : Nat) (st : List (List Rw)), (∀ p ∈ [(aE, oE), (aP, oP), (aD, listOf vs.toArray nn), q2], p ∈ X) → (∀ p ∈ X, p.1 ≠ aT) → (∀ p ∈ X, p.1 ≠ aM) → Inv zs.length X vt vm st →
      Fr h₀ env.locals h (fun y => if stored.contains y then u y else m y) → News h₀ env.locals h ((aT, listOf vt.toArray nt) :: (aM, listOf vm.toArray nm) :: X) → Q .next { s with heap := h, toks := tk }) :
    wpAny (model prog w) A (pyIter (.ref aD)) (fun it s₂ => LoopAtV prog w A h₀ env x body Q E it s₂) E s := by
  refine law_loop (cst := [(aE, oE), (aP, oP), (aD, listOf vs.toArray nn), q2]) (stored := stored) (nn := nn)
    (news := (aT, listOf [Value.ref b1, Value.ref b2].toArray nt) :: (aM, listOf [Value.str (Str.ofString "pass") k9, Value.str (Str.ofString "x = 1\n\ny = 2") k10].toArray nm) :: [(b2, listOf [Value.ref t3, Value.ref t4, Value.ref t5].toArray n2), (t5, { cls := .type "tuple", data := .seq #[.int 0 k1, .str (Str.ofString "y = 2") k2] }),
      (t4, { cls := .type "tuple", data := .seq #[.int 0 k3, .str (Str.ofString "") k4] }), (t3, { cls := .type "tuple", data := .seq #[.int 0 k5, .str (Str.ofString "x = 1") k6] }), (b1, listOf [Value.ref t1].toArray n1),
      (t1, { cls := .type "tuple", data := .seq #[.int 0 k7, .str (Str.ofString "pass") k8] }), (aE, oE), (aP, oP), (aD, listOf vs.toArray nn), q1, q2])
    hh hne hx (by simp) hz F (fun p hp => N p ?_) ⟨fun _ _ => rfl, _, _, _, _, _, st0, rfl, ?_, ?_, ?_, ?_⟩ turn done
  · simp only [List.mem_cons, List.not_mem_nil, or_false] at hp ⊢
    rcases hp with h | h | h | h | h | h | h | h | h | h | h | h | h <;> simp [h]
  · intro p hp
    simp only [List.mem_cons, List.not_mem_nil, or_false] at hp ⊢
    rcases hp with h | h | h | h <;> simp [h]
  · intro p hp
    refine (hoff p.1 ?_).1
    simp only [List.mem_cons, List.not_mem_nil, or_false] at hp ⊢
    rcases hp with h | h | h | h | h | h | h | h | h | h | h <;> simp [h]
  · intro p hp
    refine (hoff p.1 ?_).2
    simp only [List.mem_cons, List.not_mem_nil, or_false] at hp ⊢
    rcases hp with h | h | h | h | h | h | h | h | h | h | h <;> simp [h]
  · refine { tx := ?_, bk := ?_, ok := st0_ok, num := by simp, len := by simp, ne := by simp }
    · have e1 : textOf [(0, Str.ofString "pass")] = Str.ofString "pass" := text_one _
      have e2 : textOf [(0, Str.ofString "x = 1"), (0, Str.ofString ""), (0, Str.ofString "y = 2")] = Str.ofString "x = 1\n\ny = 2" := by decide +kernel
      show DatAll [] _ [Dat.str (textOf _), Dat.str (textOf _)]
      rw [e1, e2]
      exact .cons (.str _ _) (.cons (.str _ _) .nil)
    · refine .cons (.list (n := n1) (vs := [Value.ref t1]) (by simp) ?_) (.cons (.list (n := n2) (vs := [Value.ref t3, Value.ref t4, Value.ref t5]) (by simp) ?_) .nil)
      · exact .cons (tup_dat (n := 0) (t := k7) (u := k8) (by simp)) .nil
      · exact .cons (tup_dat (n := 0) (t := k5) (u := k6) (by simp)) (.cons (tup_dat (n := 0) (t := k3) (u := k4) (by simp)) (.cons (tup_dat (n := 0) (t := k1) (u := k2) (by simp)) .nil))
abbrev storedL : List Str := [Str.ofString "number", Str.ofString "pick", Str.ofString "act", Str.ofString "row", Str.ofString "late", Str.ofString "later", Str.ofString "early", Str.ofString "earlier", Str.ofString "extra"]
theorem Inv.push {i : Nat} {X add : Led} {vt vm : List Value} {st : List (List Rw)} {al a : Addr} {n n2 : Nat} {x : Str} {t k1 k2 : Tok} (hI : Inv i X vt vm st) (hx : RowOk x) (hm : (al, listOf [Value.ref a].toArray n) ∈ add)
    (hm2 : (a, ({ cls := .type "tuple", data := .seq #[.int 0 k1, .str x k2] n2 } : Obj)) ∈ add) : Inv (i + 1) (add ++ X) (vt ++ [.ref al]) (vm ++ [.str x t]) (st ++ [[(0, x)]]) := by
  have h := Inv.put (i := i) (X := X) (add := add) (xs := [.ref a]) (al := al) (n := n) (t := t) (r := [(0, x)]) hI.tx hI.bk hI.ok (by have := hI.num; simp only [List.length_singleton]; omega) hI.len (by simp) ?_ (List.mem_append_left _ hm) (.cons (tup_dat (List.mem_append_left _ hm2)) .nil)
  · rw [text_one] at h; exact h
  · intro r hr
    rw [List.mem_singleton.mp hr]
    exact ⟨Int.le_refl _, by show (0 : Int) ≤ _; omega, hx⟩
theorem Inv.cat {i : Nat} {X add : Led} {vt0 vm0 xs ys vt vm : List Value} {pre : List (List Rw)} {r1 r2 : List Rw} {c : Addr} {n : Nat} {t : Tok} (hI : Inv i X vt vm (pre ++ [r1] ++ [r2])) (htx : DatAll [] vm0 (pre.map datTxt)) (hbk : DatAll X vt0 (pre.map datBlk))
    (hm : (c, listOf (xs ++ ys).toArray n) ∈ add) (d1 : DatAll X xs (r1.map datRow)) (d2 : DatAll X ys (r2.map datRow)) :
    Inv (i + 1) (add ++ X) (vt0 ++ [.ref c]) (vm0 ++ [.str (textOf r1 ++ Str.ofString "\n" ++ textOf r2) t]) (pre ++ [r1 ++ r2]) := by
  have k1 := hI.ok r1 (by simp)
  have k2 := hI.ok r2 (by simp)
  have hn := hI.num
  have hl := hI.len
  simp only [List.map_append, List.sum_append, List.map_cons, List.map_nil, List.sum_cons, List.sum_nil, List.length_append, List.length_singleton] at hn hl
  rw [← text_append k1.1 k2.1]
  refine Inv.put htx hbk (fun r hr => hI.ok r (by simp [hr])) (by rw [List.length_append]; omega) (by omega) (by simp [k1.1]) (Ok.append (k1.2.mono (by omega)) (k2.2.mono (by omega))) (List.mem_append_left _ hm) ?_
  rw [List.map_append]
  exact DatAll.append (DatAll.mono (fun p hp => List.mem_append_right _ hp) d1) (DatAll.mono (fun p hp => List.mem_append_right _ hp) d2)
theorem Inv.timer {i : Nat} {X add : Led} {vt0 vm0 xs vt vm : List Value} {pre : List (List Rw)} {r1 r2 a b : List Rw} {x : Str} {c : Addr} {n : Nat} {t : Tok} (hI : Inv i X vt vm (pre ++ [r1] ++ [r2])) (hab : (a = r1 ∧ b = r2) ∨ (a = r2 ∧ b = r1)) (hx : XOk x) (htx : DatAll [] vm0 (pre.map datTxt)) (hbk : DatAll X vt0 (pre.map datBlk))
    (hm : (c, listOf xs.toArray n) ∈ add) (d : DatAll add xs ((rowsOf x a b).map datRow)) :
    Inv (i + 1) (add ++ X) (vt0 ++ [.ref c]) (vm0 ++ [.str (timerS x (textOf a) (textOf b)) t]) (pre ++ [rowsOf x a b]) := by
  have k1 := hI.ok r1 (by simp)
  have k2 := hI.ok r2 (by simp)
  have hn := hI.num
  have hl := hI.len
  simp only [List.map_append, List.sum_append, List.map_cons, List.map_nil, List.sum_cons, List.sum_nil, List.length_append, List.length_singleton] at hn hl
  have ka : a ≠ [] ∧ Ok (8 * i) a := by rcases hab with ⟨rfl, _⟩ | ⟨rfl, _⟩ <;> assumption
  have kb : b ≠ [] ∧ Ok (8 * i) b := by rcases hab with ⟨_, rfl⟩ | ⟨_, rfl⟩ <;> assumption
  have hs : a.length + b.length = r1.length + r2.length := by rcases hab with ⟨rfl, rfl⟩ | ⟨rfl, rfl⟩ <;> omega
  rw [timer_rows ka.1 kb.1 ka.2.free kb.2.free ka.2.nonneg kb.2.nonneg]
  refine Inv.put htx hbk (fun r hr => hI.ok r (by simp [hr])) (by rw [rowsOf_len]; omega) (by omega) (rowsOf_ne _ _ _) ((Ok.rowsOf hx (by omega) ka.2 kb.2).mono (by omega)) (List.mem_append_left _ hm) (DatAll.mono (fun p hp => List.mem_append_left _ hp) d)
theorem stored_off {z : Str} (h : storedL.contains z = false) : z ≠ Str.ofString "number" ∧ z ≠ Str.ofString "pick" ∧ z ≠ Str.ofString "act" ∧ z ≠ Str.ofString "row" ∧ z ≠ Str.ofString "late" ∧ z ≠ Str.ofString "later" ∧ z ≠ Str.ofString "early" ∧ z ≠ Str.ofString "earlier" ∧ z ≠ Str.ofString "extra" := by
  simp only [storedL, List.contains_cons, List.contains_nil, Bool.or_false, Bool.or_eq_false_iff, beq_eq_false_iff_ne, ne_eq] at h
  exact h
/-- a place where the walk is to stop -/
def Hold (P : Prop) : Prop := P
theorem Hold.out {P : Prop} (h : Hold P) : P := h
end Mine
end
section
open PySem PySem.W PyProof.Rows PyProof.Rows.LCg PyProof.Rows.LCp
set_option maxRecDepth 100000
set_option maxHeartbeats 2000000
namespace Mine
theorem plain_ok {t1 t2 t3 t4 t5 t6 t7 t8 : Tok} : ∀ v ∈ [Value.str (Str.ofString "") t1, Value.str (Str.ofString "pass") t2, Value.str (Str.ofString "  y = 2 ") t3, Value.str (Str.ofString "_t0 = _timer()") t4,
    Value.str (Str.ofString "\tz = 3\r") t5, Value.str (Str.ofString "{stmt}") t6, Value.str (Str.ofString "é = '\u2028'") t7, Value.str (Str.ofString "def inner(_it, _timer):") t8], ∃ x t, v = Value.str x t ∧ RowOk x := by
  intro v hv
  simp only [List.mem_cons, List.not_mem_nil, or_false] at hv
  rcases hv with rfl | rfl | rfl | rfl | rfl | rfl | rfl | rfl <;> exact ⟨_, _, rfl, by unfold RowOk; decide +kernel⟩
theorem extras_ok {t1 t2 t3 t4 : Tok} : ∀ v ∈ [Value.str (Str.ofString "") t1, Value.str (Str.ofString ", _setup=_setup") t2, Value.str (Str.ofString ", _stmt=_stmt") t3, Value.str (Str.ofString ", _setup=_setup, _stmt=_stmt") t4], ∃ x t, v = Value.str x t ∧ XOk x := by
  intro v hv
  simp only [List.mem_cons, List.not_mem_nil, or_false] at hv
  rcases hv with rfl | rfl | rfl | rfl <;> exact ⟨_, _, rfl, by unfold XOk; decide +kernel⟩
theorem len_K {prog : Program} {w : World} {A : Around} {E : Value → Shared → Prop} {s : Shared} {h₀ : Heap} {L aT aM : Addr} {Z add : Led} {vt vm : List Value} {nt nm k : Nat} {Q : Value → Shared → Prop} (hk : vm.length = k) (N : News h₀ L s.heap ((aT, listOf vt.toArray nt) :: (aM, listOf vm.toArray nm) :: (add ++ Z))) (hsz : k ≤ 1000)
    (h : ∀ t kk, Q (.int (k : Int) t) { s with toks := kk }) : wpAny (model prog w) A (call (.builtin "len") [.ref aM]) Q E s := by
  subst hk
  exact len_M N hsz h
theorem timer_C {w : World} {mean : ExcName → Option Value} {mg mb : Str → Option Value} {news : Led} {x : Str} {tx : Tok} {y : Str} {ty : Tok} {z : Str} {tz : Tok}
    {dp un : Nat} {gd : Option (List Code)} {cn : Str} {cs : Scope} {a : Addr} {ccd : Value} {cl : List (Str × Addr)} {outer : List Env} {A₀ : Around} {base h₀ : Heap} {L : Addr} {m : Str → Option Value} {s : Shared} {Q E : Value → Shared → Prop}
    (B : Below A₀ base outer h₀) (F : Fr h₀ L s.heap m) (X : (Mine.hd.heap_39 w.params).In h₀) (N : News h₀ L s.heap news) (T : Top hd.view_39 (looseW hd.view_39 []) mean mg mb h₀) (hk : cs.kind = .function)
    (hx : XOk x) (hy : y.length ≤ 60000) (hz : z.length ≤ 60000) (hd : dp + 2 < recursionLimit) (hu : un + 16 < cLine)
    (h : ∀ (t : Tok) (h' : Heap) (tk' : Nat), Fr h₀ L h' m → News h₀ L h' news → Q (.str (timerS x y z) t) { s with heap := h', toks := tk' }) :
    wpAny (model PySem.Challenge.pw_sn0119_01 w) (ktrTop dp un gd cn cs L a ccd cl outer) (call (.ref 28) [.str x tx, .str y ty, .str z tz]) Q E s :=
  timer_call B F X N T hk (Nat.le_trans hx.1 (by decide)) (by omega) (by omega) hd hu h
theorem rows_C {w : World} {mean : ExcName → Option Value} {mg mb : Str → Option Value} {aT aM : Addr} {Z add : Led} {vt vm : List Value} {nt nm : Nat} {x : Str} {tx : Tok} {ab aw : Addr} {vb vw : List Value} {nb nw : Nat} {X : Led} {b c : List Rw}
    {dp un : Nat} {gd : Option (List Code)} {cn : Str} {cs : Scope} {a : Addr} {ccd : Value} {cl : List (Str × Addr)} {outer : List Env} {A₀ : Around} {base h₀ : Heap} {L : Addr} {m : Str → Option Value} {s : Shared} {Q E : Value → Shared → Prop}
    (B : Below A₀ base outer h₀) (F : Fr h₀ L s.heap m) (X₀ : (Mine.hd.heap_39 w.params).In h₀) (N : News h₀ L s.heap ((aT, listOf vt.toArray nt) :: (aM, listOf vm.toArray nm) :: (add ++ Z))) (S : St aT aM Z add) (T : Top hd.view_39 (looseW hd.view_39 []) mean mg mb h₀) (hk : cs.kind = .function)
    (hx : XOk x) (hXZ : ∀ p ∈ X, p ∈ Z) (hmb : (ab, listOf vb.toArray nb) ∈ X) (hmw : (aw, listOf vw.toArray nw) ∈ X) (hb : DatAll X vb (b.map datRow)) (hc : DatAll X vw (c.map datRow)) (hlb : b.length ≤ 1000) (hlc : c.length ≤ 1000) (hd : dp + 2 < recursionLimit) (hu : un + 16 < cLine)
    (h : ∀ (D : Addr) (vs : List Value) (n : Nat) (add2 : Led) (h' : Heap) (tk' : Nat), Fr h₀ L h' m → News h₀ L h' ((aT, listOf vt.toArray nt) :: (aM, listOf vm.toArray nm) :: (add2 ++ Z)) → St aT aM Z add2 → (D, listOf vs.toArray n) ∈ add2 →
      DatAll add2 vs ((rowsOf x b c).map datRow) → Q (.ref D) { s with heap := h', toks := tk' }) :
    wpAny (model PySem.Challenge.pw_sn0119_01 w) (ktrTop dp un gd cn cs L a ccd cl outer) (call (.ref 33) [.str x tx, .ref ab, .ref aw]) Q E s := by
  refine rows_call B F X₀ N T hk (Nat.le_trans hx.1 (by decide)) (in_Z (hXZ _ hmb)) (in_Z (hXZ _ hmw)) (DatAll.mono (fun p hp => in_Z (hXZ p hp)) hb) (DatAll.mono (fun p hp => in_Z (hXZ p hp)) hc) hlb hlc hd hu fun D vs n ad h' tk' F' N' hlow hoff hA hdat => ?_
  refine h D vs n (((D, listOf vs.toArray n) :: ad) ++ add) h' tk' F' (fun p hp => N' p ?_) (St.more S (fun p hp => hp) (Above.cons hlow hA)) (by simp) (DatAll.mono (fun p hp => by simp [hp]) hdat)
  simp only [List.mem_cons, List.mem_append] at hp ⊢
  rcases hp with g | g | ((g | g) | g) | g <;> simp [g]
end Mine
end
section
open PySem PySem.W PyProof.Rows PyProof.Rows.LCg PyProof.Rows.LCp
set_option maxRecDepth 100000
namespace Mine
/-- [ent for blk in tld for ent in blk] -/
abbrev flatE (blk ent tld : Str) (p0 p1 p2 p3 p4 : Pos) (scope : Scope) (pos : Pos) : PySem.Expr :=
  .ListComp (.Name ent p0) [⟨.Name blk p1, .Name tld p2, [], 0⟩, ⟨.Name ent p3, .Name blk p4, [], 0⟩] scope pos
section
variable {blk ent tld : Str} {p0 p1 p2 p3 p4 : Pos} {scope : Scope} {pos : Pos}
theorem flat_turn1 (it acc : Value) (env : Env) : compTurn (flatE blk ent tld p0 p1 p2 p3 p4 scope pos) 1 it acc env = (standAt p4 >>= fun _ => pyNext it >>= fun r => match r with
    | none => pure (.done .next)
    | some v => letOwnedTupleGo (.Name ent p3) it v >>= fun _ => assign (.Name ent p3) env v >>= fun _ =>
        (eval (.Name ent p0) env >>= fun x => call (.builtin "list.append") [acc, x] >>= fun _ => pure ()) >>= fun _ => again (.compLoop (flatE blk ent tld p0 p1 p2 p3 p4 scope pos) 1 it acc env)) := by rfl
theorem flat_turn0 (it acc : Value) (env : Env) : compTurn (flatE blk ent tld p0 p1 p2 p3 p4 scope pos) 0 it acc env = (standAt p2 >>= fun _ => pyNext it >>= fun r => match r with
    | none => pure (.done .next)
    | some v => letOwnedTupleGo (.Name blk p1) it v >>= fun _ => assign (.Name blk p1) env v >>= fun _ =>
        (eval (.Name blk p4) env >>= fun x => standAt p4 >>= fun _ => foldedSetIterable (.Name blk p4) env x >>= fun x => holding [x] (pyIter x) >>= fun it1 => runOwn (.compStart (flatE blk ent tld p0 p1 p2 p3 p4 scope pos) 1 it1 acc env) env >>= fun _ =>
          again (.compLoop (flatE blk ent tld p0 p1 p2 p3 p4 scope pos) 0 it acc env))) := by rfl
end
section
variable {prog : Program} {w : World} {A : Around} {E : Value → Shared → Prop} {R : Result → Shared → Prop} {s : Shared} {blk ent tld : Str} {p0 p1 p2 p3 p4 : Pos} {scope : Scope} {pos : Pos} {cenv : Env}
theorem flat_inner {I1 a1 D : Addr} {vs ys : List Value} {m : Str → Option Value} (hh : A.handled = none) (hent : cenv.kindOf ent = some .local) (hkd : cenv.scope.kind = .function) (hdb : (ent == ("__debug__" : Str)) = false)
    (hI : s.heap.IsListIter I1 a1 0) (hl : s.heap.IsList a1 vs.toArray) (hD : s.heap.get? D = some (lst ys)) (hn : s.heap.Ns cenv.locals m) (d1 : I1 ≠ D) (d2 : I1 ≠ cenv.locals) (d3 : a1 ≠ D) (d4 : a1 ≠ cenv.locals) (d5 : a1 ≠ I1) (d6 : D ≠ cenv.locals) (hsz : ys.length + vs.length ≤ 100000)
    (fin : ∀ h' tk m', h'.Ns cenv.locals m' → h'.get? D = some (lst (ys ++ vs)) → (∀ b o, b ≠ I1 → b ≠ D → b ≠ cenv.locals → s.heap.get? b = some o → h'.get? b = some o) → R (.ok .next) { s with heap := h', toks := tk }) :
    codeAny (model prog w) A (.compLoop (flatE blk ent tld p0 p1 p2 p3 p4 scope pos) 1 (.ref I1) (.ref D) cenv) R s := by
  refine codeAny_loop rfl (fun k s' => ∃ h' tk m' i, s' = { s with heap := h', toks := tk } ∧ i ≤ vs.length ∧ k = vs.length + 1 - i ∧ h'.IsListIter I1 a1 i ∧ h'.Ns cenv.locals m' ∧ h'.get? D = some (lst (ys ++ vs.take i)) ∧
      (∀ b o, b ≠ I1 → b ≠ D → b ≠ cenv.locals → s.heap.get? b = some o → h'.get? b = some o)) ?_ (vs.length + 1) ⟨s.heap, s.toks, m, 0, rfl, Nat.zero_le _, rfl, hI, hn, by simpa using hD, fun _ _ _ _ _ e => e⟩
  rintro k s' ⟨h', tk, m', i, rfl, hi, rfl, hI', hn', hD', hk⟩
  show wpAny _ A ((compTurn (flatE blk ent tld p0 p1 p2 p3 p4 scope pos) 1 (.ref I1) (.ref D) cenv).onRaise (fun x => do noteFrame x cenv; theTreesLotGoes x)) _ _ _
  refine wpAny_noted ?_
  rw [flat_turn1]
  refine wpAny_bind (wpAny_standAt (wpAny_bind ?_))
  have hl' : h'.IsList a1 vs.toArray := hl.at fun o e => hk a1 o d5 d3 d4 e
  by_cases hlt : i < vs.length
  · refine wpAny_pyNext_list_item hI' hl' (x := vs[i]) (by simp [hlt]) fun h2 hI2 hs2 => ?_
    have hn2 := hn'.at' fun o e => hs2.extBut _ o (Ne.symm d2) e
    refine wpAny_bind (wpAny_of_eq (by rfl) ?_)
    refine wpAny_bind (wpAny_assign_Name (wpAny_storeName_local hent hn2 (fun h3 hn3 hs3 => ?_) (by simp [hkd])))
    refine wpAny_bind (wpAny_bind (wpAny_Name (wpAny_loadName_local (v := vs[i]) hkd hent hn3 (by simp) ?_) hdb))
    have hD3 : h3.get? D = some (lst (ys ++ vs.take i)) := hs3.extBut D _ d6 (hs2.extBut D _ (Ne.symm d1) hD')
    refine wpAny_bind (append_at (hsz := by rw [List.size_toArray, List.length_append, List.length_take, sizeLine_eq]; omega) hD3 fun h4 hs4 hD4 => wpAny_pure (wpAny_pure ⟨rfl, ?_⟩))
    refine ⟨vs.length + 1 - (i + 1), by omega, h4, _, _, i + 1, rfl, hlt, rfl, ?_, hn3.sameBut hs4 (Ne.symm d6), ?_, fun b o b1 b2 b3 e => hs4.extBut b o b2 (hs3.extBut b o b3 (hs2.extBut b o b1 (hk b o b1 b2 b3 e)))⟩
    · exact (hI2.at fun o e => hs3.extBut _ o d2 e).at fun o e => hs4.extBut _ o d1 e
    · rw [hD4, lst_snoc, List.append_assoc]
      congr 3
      rw [List.take_add_one, List.getElem?_eq_getElem hlt]; rfl
  · have hin : i = vs.length := by omega
    subst hin
    rw [List.take_length] at hD'
    refine wpAny_pyNext_list_end (by simpa using hh) hI' hl' (by simp) fun h2 he2 => wpAny_pure ?_
    exact fin h2 _ m' (hn'.at' fun o e => he2 _ o (Ne.symm d2) e) (he2 D _ (Ne.symm d1) hD') fun b o b1 b2 b3 e => he2 b o b1 (hk b o b1 b2 b3 e)
theorem flat_start1 {I1 l1 D : Addr} (hit : s.heap.IsListIter I1 l1 0)
    (h0 : codeAny (model prog w) A (.compLoop (flatE blk ent tld p0 p1 p2 p3 p4 scope pos) 1 (.ref I1) (.ref D) cenv) R s) :
    codeAny (model prog w) A (.compStart (flatE blk ent tld p0 p1 p2 p3 p4 scope pos) 1 (.ref I1) (.ref D) cenv) R s := by
  refine codeAny_of_tree ?_
  show wpAny _ _ ((compStart (flatE blk ent tld p0 p1 p2 p3 p4 scope pos) 1 (.ref I1) (.ref D) cenv).onRaise (fun x => do noteFrame x cenv; standAt theWindowsPlace)) _ _ s
  refine wpAny_notedAt ?_
  unfold compStart
  show wpAny _ _ (ask >>= _) _ _ s
  refine wpAny_bind (wpAny_askSetting (wpAny_ite ?_))
  split
  · first
      | exact wpAny_bind (wpAny_pure (wpAny_pure (And.intro rfl h0)))
      | exact wpAny_pure (And.intro rfl h0)
  · refine wpAny_bind (wpAny_rule ?_)
    show wpAny _ _ (standAt p4 >>= _) _ _ s
    exact wpAny_bind (wpAny_standAt (wpAny_bind (wpAny_pyIter_listiter hit (wpAny_pure (And.intro rfl h0)))))
theorem flat_outer {I0 aT D : Addr} {vt : List Value} {bs : List (List Value)} {m : Str → Option Value} (hh : A.handled = none) (hent : cenv.kindOf ent = some .local) (hblk : cenv.kindOf blk = some .local) (hkd : cenv.scope.kind = .function) (hdb : (ent == ("__debug__" : Str)) = false) (hdb2 : (blk == ("__debug__" : Str)) = false)
    (hb : ∀ (i : Nat) (v : Value), vt[i]? = some v → ∃ (a : Addr) (xs : List Value), v = Value.ref a ∧ bs[i]? = some xs ∧ s.heap.IsList a (List.toArray xs) ∧ a ≠ I0 ∧ a ≠ D ∧ a ≠ cenv.locals) (hlen : bs.length = vt.length)
    (hI : s.heap.IsListIter I0 aT 0) (hl : s.heap.IsList aT vt.toArray) (hD : s.heap.get? D = some (lst [])) (hn : s.heap.Ns cenv.locals m) (d1 : I0 ≠ D) (d2 : I0 ≠ cenv.locals) (d3 : aT ≠ D) (d4 : aT ≠ cenv.locals) (d5 : aT ≠ I0) (d6 : D ≠ cenv.locals) (hsz : bs.flatten.length ≤ 100000)
    (fin : ∀ h' tk m', h'.Ns cenv.locals m' → h'.get? D = some (lst bs.flatten) → (∀ b o, b ≠ I0 → b ≠ D → b ≠ cenv.locals → s.heap.get? b = some o → h'.get? b = some o) → R (.ok .next) { s with heap := h', toks := tk }) :
    codeAny (model prog w) A (.compLoop (flatE blk ent tld p0 p1 p2 p3 p4 scope pos) 0 (.ref I0) (.ref D) cenv) R s := by
  refine codeAny_loop rfl (fun k s' => ∃ h' tk m' i, s' = { s with heap := h', toks := tk } ∧ i ≤ vt.length ∧ k = vt.length + 1 - i ∧ h'.IsListIter I0 aT i ∧ h'.Ns cenv.locals m' ∧ h'.get? D = some (lst (bs.take i).flatten) ∧
      (∀ b o, b ≠ I0 → b ≠ D → b ≠ cenv.locals → s.heap.get? b = some o → h'.get? b = some o)) ?_ (vt.length + 1) ⟨s.heap, s.toks, m, 0, rfl, Nat.zero_le _, rfl, hI, hn, by simpa using hD, fun _ _ _ _ _ e => e⟩
  rintro k s' ⟨h', tk, m', i, rfl, hi, rfl, hI', hn', hD', hk⟩
  show wpAny _ A ((compTurn (flatE blk ent tld p0 p1 p2 p3 p4 scope pos) 0 (.ref I0) (.ref D) cenv).onRaise (fun x => do noteFrame x cenv; theTreesLotGoes x)) _ _ _
  refine wpAny_noted ?_
  rw [flat_turn0]
  refine wpAny_bind (wpAny_standAt (wpAny_bind ?_))
  have hl' : h'.IsList aT vt.toArray := hl.at fun o e => hk aT o d5 d3 d4 e
  by_cases hlt : i < vt.length
  · obtain ⟨a, xs, hv, hx, hla, e1, e2, e3⟩ := hb i vt[i] (List.getElem?_eq_getElem hlt)
    refine wpAny_pyNext_list_item hI' hl' (x := vt[i]) (by simp [hlt]) fun h2 hI2 hs2 => ?_
    have hn2 := hn'.at' fun o e => hs2.extBut _ o (Ne.symm d2) e
    refine wpAny_bind (wpAny_of_eq (by rfl) ?_)
    refine wpAny_bind (wpAny_assign_Name (wpAny_storeName_local hblk hn2 (fun h3 hn3 hs3 => ?_) (by simp [hkd])))
    refine wpAny_bind (wpAny_Name (wpAny_loadName_local (v := vt[i]) hkd hblk hn3 (by simp) ?_) hdb2)
    have k3 : ∀ b o, b ≠ I0 → b ≠ D → b ≠ cenv.locals → s.heap.get? b = some o → h3.get? b = some o := fun b o b1 b2 b3 e => hs3.extBut b o b3 (hs2.extBut b o b1 (hk b o b1 b2 b3 e))
    have hla3 : h3.IsList a xs.toArray := hla.at fun o e => k3 a o e1 e2 e3 e
    have hI3 : h3.IsListIter I0 aT (i + 1) := hI2.at fun o e => hs3.extBut _ o d2 e
    have hD3 : h3.get? D = some (lst (bs.take i).flatten) := hs3.extBut D _ d6 (hs2.extBut D _ (Ne.symm d1) hD')
    refine wpAny_bind (wpAny_standAt (wpAny_bind (wpAny_of_eq (by rfl) ?_)))
    rw [hv]
    refine wpAny_bind (wpAny_holding (wpAny_pyIter_list hla3 ?_))
    refine wpAny_bind (wpAny_runOwn ?_)
    have up : ∀ b o, h3.get? b = some o → (h3.push { cls := .type "list_iterator", data := .fields #[.ref a, .int 0 0] }).get? b = some o := fun b o e => Heap.get?_push_of_some _ e
    have hlt3 : ∀ {b : Addr} {o : Obj}, h3.get? b = some o → b ≠ h3.objs.size := fun e => Nat.ne_of_lt (Heap.lt_size e)
    obtain ⟨oa, hoa, _⟩ := id hla3
    obtain ⟨oI, hoI, _⟩ := id hI3
    have hC3 : cenv.locals ≠ h3.objs.size := Nat.ne_of_lt hn3.lt
    have hit1 : (h3.push { cls := .type "list_iterator", data := .fields #[.ref a, .int 0 0] }).IsListIter h3.objs.size a 0 := ⟨_, Heap.get?_push_size _ rfl, rfl, rfl⟩
    have hfl : (bs.take (i + 1)).flatten = (bs.take i).flatten ++ xs := by rw [List.take_add_one, hx]; simp
    have hsz' : (bs.take i).flatten.length + xs.length ≤ 100000 := by
      have q : (bs.take (i + 1)).flatten.length ≤ bs.flatten.length := by
        conv => rhs; rw [← List.take_append_drop (i + 1) bs, List.flatten_append, List.length_append]
        omega
      rw [hfl, List.length_append] at q; omega
    refine flat_start1 hit1 (flat_inner (vs := xs) (ys := (bs.take i).flatten) hh hent hkd hdb hit1 (hla3.at fun o e => up _ o e) (up _ _ hD3) (hn3.at' fun o e => up _ o e) (Ne.symm (hlt3 hD3)) (Ne.symm hC3) e2 e3 (hlt3 hoa) d6 hsz' fun h5 tk5 m5 hn5 hD5 k5 => ?_)
    refine wpAny_pure ⟨rfl, vt.length + 1 - (i + 1), by omega, h5, tk5, m5, i + 1, rfl, hlt, rfl, ?_, hn5, by rw [hfl]; exact hD5, fun b o b1 b2 b3 e => ?_⟩
    · exact hI3.at fun o e => k5 _ o (hlt3 hoI) d1 d2 (up _ o e)
    · have q := k3 b o b1 b2 b3 e
      exact k5 b o (hlt3 q) b2 b3 (up b o q)
  · have hin : i = vt.length := by omega
    subst hin
    rw [← hlen, List.take_length] at hD'
    refine wpAny_pyNext_list_end (by simpa using hh) hI' hl' (by simp) fun h2 he2 => wpAny_pure ?_
    exact fin h2 _ m' (hn'.at' fun o e => he2 _ o (Ne.symm d2) e) (he2 D _ (Ne.symm d1) hD') fun b o b1 b2 b3 e => he2 b o b1 (hk b o b1 b2 b3 e)
theorem flat_comp {h₀ : Heap} {L aT : Addr} {m : Str → Option Value} {news : Led} {env : Env} {cl : List (Str × Addr)} {vt : List Value} {nt : Nat} {bs : List (List Value)} {Q : Value → Shared → Prop} (hh : A.handled = none) (F : Fr h₀ L s.heap m) (N : News h₀ L s.heap news)
    (hclos : closureFor scope env = pure cl) (hcell : ∀ y ∈ scope.names, y.2 ≠ .cell) (hkind : scope.kind = .function) (hnames : ∀ y ∈ scope.names, y.2 = .local → scope.names.lookup y.1 = some .local)
    (hblk : scope.names.lookup blk = some .local) (hent : scope.names.lookup ent = some .local) (hdb : (ent == ("__debug__" : Str)) = false) (hdb2 : (blk == ("__debug__" : Str)) = false)
    (hsrc : ∀ Q' : Value → Shared → Prop, Q' (.ref aT) s → wpAny (model prog w) A (eval (.Name tld p2) env) Q' E s)
    (hm : (aT, listOf vt.toArray nt) ∈ news) (hb : ∀ (i : Nat) (v : Value), vt[i]? = some v → ∃ (a : Addr) (xs : List Value) (n : Nat), v = Value.ref a ∧ bs[i]? = some xs ∧ (a, listOf (List.toArray xs) n) ∈ news) (hlen : bs.length = vt.length) (hsz : bs.flatten.length ≤ 100000)
    (h : ∀ D h' tk, Fr h₀ L h' m → News h₀ L h' ((D, lst bs.flatten) :: news) → Low news D → Q (.ref D) { s with heap := h', toks := tk }) :
    wpAny (model prog w) A (eval (flatE blk ent tld p0 p1 p2 p3 p4 scope pos) env) Q E s := by
  rw [eval_ListComp]
  refine wpAny_comprehension_free (use := none) rfl (fun _ => rfl) hclos hkind hnames (hsrc _ ?_)
  have hlT : s.heap.IsList aT vt.toArray := ⟨_, (N _ hm).1, rfl, nt, rfl⟩
  refine wpAny_pyIter_list hlT ?_
  refine wpAny_newObj_type (wpAny_newFunctionEnv hcell (by intro y hy; simp at hy) (fun h₁ hns₁ hsb₁ => ?_) hkind)
  dsimp only at hns₁ hsb₁ ⊢
  generalize hH1 : s.heap.push { cls := .type "list_iterator", data := .fields #[.ref aT, .int 0 0] } = H1 at hns₁ hsb₁ ⊢
  generalize hH2 : H1.push { cls := .type "list", dict := none, data := .seq ([] : List Value).toArray } = H2 at hns₁ hsb₁ ⊢
  have s1 : H1.objs.size = s.heap.objs.size + 1 := by rw [← hH1, Heap.size_push]
  have s2 : H2.objs.size = s.heap.objs.size + 1 + 1 := by rw [← hH2, Heap.size_push, s1]
  have up1 : ∀ b o, s.heap.get? b = some o → H1.get? b = some o := fun b o e => hH1 ▸ Heap.get?_push_of_some _ e
  have up2 : ∀ b o, H1.get? b = some o → H2.get? b = some o := fun b o e => hH2 ▸ Heap.get?_push_of_some _ e
  have upC : ∀ b o, b < H2.objs.size → H2.get? b = some o → h₁.get? b = some o := fun b o hb e => hsb₁.extBut b o (Nat.ne_of_lt hb) (Heap.get?_push_of_some _ e)
  have old : ∀ b o, s.heap.get? b = some o → h₁.get? b = some o := fun b o e => upC b o (by have := Heap.lt_size e; rw [s2]; exact Nat.lt_succ_of_lt (Nat.lt_succ_of_lt this)) (up2 b o (up1 b o e))
  have hIt : h₁.IsListIter s.heap.objs.size aT 0 := ⟨_, upC _ _ (by rw [s2]; exact Nat.lt_succ_of_lt (Nat.lt_succ_self _)) (up2 _ _ (hH1 ▸ Heap.get?_push_size _ rfl)), rfl, rfl⟩
  have hD : h₁.get? H1.objs.size = some (lst []) := upC _ _ (by rw [s1, s2]; exact Nat.lt_succ_self _) (hH2 ▸ Heap.get?_push_size _ rfl)
  have hI0 : @Ne Nat s.heap.objs.size H1.objs.size := by rw [s1]; exact Nat.ne_of_lt (Nat.lt_succ_self _)
  have hIC : @Ne Nat s.heap.objs.size H2.objs.size := by rw [s2]; exact Nat.ne_of_lt (Nat.lt_succ_of_lt (Nat.lt_succ_self _))
  have hDC : @Ne Nat H1.objs.size H2.objs.size := by rw [s1, s2]; exact Nat.ne_of_lt (Nat.lt_succ_self _)
  have off : ∀ {b : Addr} {o : Obj}, s.heap.get? b = some o → b ≠ s.heap.objs.size ∧ b ≠ H1.objs.size ∧ b ≠ H2.objs.size := fun e => by
    have := Heap.lt_size e
    refine ⟨Nat.ne_of_lt this, ?_, ?_⟩
    · rw [s1]; exact Nat.ne_of_lt (Nat.lt_succ_of_lt this)
    · rw [s2]; exact Nat.ne_of_lt (Nat.lt_succ_of_lt (Nat.lt_succ_of_lt this))
  have fresh₀ : ∀ a, s.heap.objs.size ≤ a → h₀.get? a = none := fun a ha => by
    cases e : h₀.get? a with
    | none => rfl
    | some o' => exact absurd (Heap.lt_size (F.keep a o' e)) (Nat.not_lt.mpr ha)
  have hLlt : L < s.heap.objs.size := F.ns.lt
  obtain ⟨oL, _, _, hoL, _⟩ := id F.ns
  have aTo := off (N _ hm).1
  have loop : ∀ s₃ : Shared, s₃ = { s with heap := h₁, toks := s.toks + ([] : List (Str × Value)).length } →
      codeAny (model prog w) A (.compLoop (flatE blk ent tld p0 p1 p2 p3 p4 scope pos) 0 (.ref s.heap.objs.size) (.ref H1.objs.size) (compEnvC scope cl H2.objs.size env)) (compPost (model prog w) A E none Q (.ref H1.objs.size) H2.objs.size) s₃ := by
    rintro s₃ rfl
    refine flat_outer (bs := bs) hh (lookup_relabel_local hent) (lookup_relabel_local hblk) (by simp [compEnvC, relabel, hkind]) hdb hdb2 (fun i v hv => ?_) hlen hIt (hlT.at fun o e => old _ o e) hD hns₁ hI0 hIC aTo.2.1 aTo.2.2 aTo.1 hDC hsz (fun h' tk m' hn' hD' hk' => ?_)
    · obtain ⟨a, xs, n, rfl, hx, hma⟩ := hb i v hv
      have ha := (N _ hma).1
      have := off ha
      exact ⟨a, xs, rfl, hx, ⟨_, old _ _ ha, rfl, n, rfl⟩, this.1, this.2.1, this.2.2⟩
    · refine ⟨m', hn', fun h'' hs'' => ?_⟩
      have up : ∀ b o, s.heap.get? b = some o → h''.get? b = some o := fun b o e => by
        have := off e
        exact hs''.extBut b o this.2.2 (hk' b o this.1 this.2.1 this.2.2 (old b o e))
      refine h _ h'' tk ⟨F.ns.at' fun o e => up _ o e, fun b o e => up b o (F.keep b o e), F.above⟩ (fun p hp => ?_) (fun p hp => ?_)
      · rcases List.mem_cons.mp hp with rfl | hp
        · exact ⟨hs''.extBut _ _ hDC hD', by show @Ne Nat H1.objs.size L; rw [s1]; exact Nat.ne_of_gt (Nat.lt_succ_of_lt hLlt), fresh₀ _ (by rw [s1]; exact Nat.le_succ _)⟩
        · exact ⟨up _ _ (N p hp).1, (N p hp).2⟩
      · show @LT.lt Nat _ p.1 H1.objs.size
        rw [s1]; exact Nat.lt_succ_of_lt (Heap.lt_size (N p hp).1)
  exact codeAny_compStart_list (loop _ rfl) (wpAny_pyIter_listiter hIt (loop _ rfl))
end
end Mine
end
section
open PySem PySem.W PyProof.Rows PyProof.Rows.LCg PyProof.Rows.LCp
set_option maxRecDepth 100000
namespace Mine
section
variable {prog : Program} {w : World} {A : Around} {E : Value → Shared → Prop} {s : Shared} {h₀ : Heap} {L C : Addr} {m : Str → Option Value} {env : Env} {scope : Scope} {cl : List (Str × Addr)} {news : Led}
theorem strs_of {nw : Led} : ∀ {xs : List Str} {vs : List Value}, DatAll nw vs (xs.map Dat.str) → ∃ l : List (Str × Tok), vs = strValues l ∧ l.map (·.1) = xs
  | [], _, h => by cases h; exact ⟨[], rfl, rfl⟩
  | x :: xs, _, h => by
    cases h with
    | cons h1 h2 =>
      cases h1 with
      | str _ t =>
        obtain ⟨l, rfl, e⟩ := strs_of h2
        exact ⟨(x, t) :: l, rfl, by rw [List.map_cons, e]⟩
theorem join_K {D : Addr} {n B : Nat} {x : Str} {t : Tok} {vs : List Value} {xs : List Str} {nw : Led} {Q : Value → Shared → Prop} (N : News h₀ L s.heap news) (hm : (D, listOf vs.toArray n) ∈ news) (hd : DatAll nw vs (xs.map Dat.str))
    (hb : ∀ y ∈ xs, y.length ≤ B) (hsz : xs.length * B + xs.length * x.length ≤ 16777216) (h : ∀ t' k, Q (.str (Str.join x xs) t') { s with toks := k }) :
    wpAny (model prog w) A (call (.builtin "str.join") [.str x t, .ref D]) Q E s := by
  obtain ⟨l, rfl, e⟩ := strs_of hd
  refine SC.join (texts := xs) (News.isList N hm) e ?_ fun t' k => ?_
  · unfold JoinOk
    rw [StrLaws.joinFits hb hsz]; rfl
  · have e2 : Txt.join x xs = Str.join x xs := StrLaws.glued_eq_join x xs
    rw [e2]; exact h t' k
theorem sum_K {l : Addr} {n : Nat} {vs : List Value} {ns : List Int} {Q : Value → Shared → Prop} (hh : A.handled = none) (F : Fr h₀ L s.heap m) (N : News h₀ L s.heap news) (hm : (l, listOf vs.toArray n) ∈ news) (hi : IntsAre vs ns)
    (h : ∀ h' tk t', Fr h₀ L h' m → News h₀ L h' news → Q (.int ns.sum t') { s with heap := h', toks := tk }) :
    wpAny (model prog w) A (call (.builtin "sum") [.ref l]) Q E s := sumK hh F N (News.isList N hm) hi h
theorem drop_K {value slice : PySem.Expr} {l : Addr} {n : Nat} {vs : List Value} {t : Tok} {Q : Value → Shared → Prop} (F : Fr h₀ L s.heap m) (N : News h₀ L s.heap news) (hm : (l, listOf vs.toArray n) ∈ news)
    (h : ∀ D h', Fr h₀ L h' m → News h₀ L h' ((D, listOf (vs.drop 1).toArray 0) :: news) → Low news D → Q (.ref D) { s with heap := h' })
    (hs : subscripted slice false (.ref l) (.ref s.heap.objs.size) = operate [.ref s.heap.objs.size, .ref l] (getItem (.ref l) (.ref s.heap.objs.size))) (ht : ∀ r, letTemporaryGo value (.ref l) r = pure ()) (hz : vs.length ≤ 1000) :
    wpAny (model prog w) A (subscriptTail value slice (.ref l) (.ref s.heap.objs.size)) Q E { s with heap := s.heap.push { cls := .type "slice", data := .fields #[.int 1 t, .none, .none] } } := by
  refine kmk_slice F N (News.isList N hm) (.int 1 t) .none (fun D h' F' N' hlt => h D h' F' ?_ hlt) hs ht (by rw [List.size_toArray, sizeLine_eq]; omega)
  have e : slicePick vs.toArray (some 1) none none = (vs.drop 1).toArray := by
    have e : sliceBounds (some 1) none none vs.toArray.size = (((min 1 vs.length : Nat) : Int), ((vs.length : Nat) : Int), 1) := by
      simp only [sliceBounds, Option.getD_none, show (1 : Int) > 0 by decide, if_true, List.size_toArray]
      congr 1
      simp
      omega
    rw [kmk_pick_nat _ e]
    show ((vs.drop (min 1 vs.length)).take (vs.length - min 1 vs.length)).toArray = _
    rw [kmk_drop_min, List.take_of_length_le (by rw [List.length_drop]; omega)]
  rw [e] at N'
  exact N'
theorem take_K {value slice : PySem.Expr} {l : Addr} {n : Nat} {vs : List Value} {t : Tok} {Q : Value → Shared → Prop} (F : Fr h₀ L s.heap m) (N : News h₀ L s.heap news) (hm : (l, listOf vs.toArray n) ∈ news)
    (h : ∀ D h', Fr h₀ L h' m → News h₀ L h' ((D, listOf (vs.take 1).toArray 0) :: news) → Low news D → Q (.ref D) { s with heap := h' })
    (hs : subscripted slice false (.ref l) (.ref s.heap.objs.size) = operate [.ref s.heap.objs.size, .ref l] (getItem (.ref l) (.ref s.heap.objs.size))) (ht : ∀ r, letTemporaryGo value (.ref l) r = pure ()) (hz : vs.length ≤ 1000) :
    wpAny (model prog w) A (subscriptTail value slice (.ref l) (.ref s.heap.objs.size)) Q E { s with heap := s.heap.push { cls := .type "slice", data := .fields #[.none, .int 1 t, .none] } } := by
  refine kmk_slice F N (News.isList N hm) .none (.int 1 t) (fun D h' F' N' hlt => h D h' F' ?_ hlt) hs ht (by rw [List.size_toArray, sizeLine_eq]; omega)
  have e : slicePick vs.toArray none (some 1) none = (vs.take 1).toArray := by
    have e : sliceBounds none (some 1) none vs.toArray.size = (((0 : Nat) : Int), ((min 1 vs.length : Nat) : Int), 1) := by
      simp only [sliceBounds, Option.getD_none, show (1 : Int) > 0 by decide, if_true, List.size_toArray]
      congr 1
      congr 1
      simp
      omega
    rw [kmk_pick_nat _ e]
    show ((vs.drop 0).take (min 1 vs.length - 0)).toArray = _
    rw [List.drop_zero, Nat.sub_zero, kmk_take_min]
  rw [e] at N'
  exact N'
theorem cat_K {a b : Addr} {ra rb : Nat} {xs ys : List Value} {Q : Value → Shared → Prop} (F : Fr h₀ L s.heap m) (N : News h₀ L s.heap news) (hx : (a, listOf xs.toArray ra) ∈ news) (hy : (b, listOf ys.toArray rb) ∈ news)
    (h : ∀ h', Fr h₀ L h' m → News h₀ L h' ((s.heap.objs.size, listOf (xs ++ ys).toArray 0) :: news) → Q (.ref s.heap.objs.size) { s with heap := h' }) (hz : xs.length + ys.length ≤ 1000000) :
    wpAny (model prog w) A (binaryOp .Add (.ref a) (.ref b)) Q E s :=
  add_lists F N (News.isList N hx) (News.isList N hy) (fun h' F' N' => h h' F' N') (by rw [sizeLine_eq]; omega)
/-- the turns of [' ' * x + y for x, y in src] -/
theorem line_turns {x y : Str} {p1 p2 p3 p4 p5 : Pos} {n1 : Nat} (hx : scope.names.lookup x = some .local) (hy : scope.names.lookup y = some .local) (hkind : scope.kind = .function)
    (hdx : (x == ("__debug__" : Str)) = false) (hdy : (y == ("__debug__" : Str)) = false)
    {ax : Addr} {vs : List Value} {nn : Nat} {rows : List Rw} {news : Led} {Fin : List Value → Led → Prop}
    (hm : (ax, listOf vs.toArray nn) ∈ news) (hd : DatAll news vs (rows.map datRow)) (hr : ∀ r ∈ rows, 0 ≤ r.1 ∧ r.1 ≤ 1000 ∧ r.2.length ≤ 1000)
    (fin : ∀ ys, DatAll [] ys ((rows.map lineS).map Dat.str) → Fin ys news) :
    ∀ (j i : Nat) (ys : List Value), i + j = rows.length → DatAll [] ys (((rows.take i).map lineS).map Dat.str) →
      CompRestP prog w A h₀ L m env (.BinOp (.BinOp (.Constant (.str (Str.ofString " ")) n1 p1) .Mult (.Name x p2) p3) .Add (.Name y p4) p5) x y scope cl s (SrcAt h₀ ax vs.toArray) (fun i v => vs.toArray[i]? = some v) Fin j i ys news
  | 0, i, ys, hij, hys => by
    refine CompRestP.zero ?_
    have hl : rows.take i = rows := List.take_of_length_le (by omega)
    rw [hl] at hys
    exact fin ys hys
  | j + 1, i, ys, hij, hys => by
    refine CompRestP.succ fun v hv => ?_
    have hi : i < rows.length := by omega
    obtain ⟨v', hv', hD⟩ := hd.get (k := i) (by simpa using hi)
    have hvv : v = v' := by
      have : vs[i]? = some v := by simpa using hv
      rw [hv'] at this; exact (Option.some.inj this).symm
    subst hvv
    simp only [List.getElem_map] at hD
    obtain ⟨a, n, t, u, rfl, hmt⟩ := dat_tup hD
    obtain ⟨k1, k2, k3⟩ := hr rows[i] (List.getElem_mem hi)
    refine ⟨a, _, _, _, n, rfl, hmt, rfl, rfl, ?_⟩
    intro I oI C oC D m₂ h tk E' hNs h1 h2 F N off ne
    have hn : h.Ns C m₂ := hNs.ns (N _ (List.mem_cons_of_mem _ List.mem_cons_self)).1
    refine wpAny_BinOp (wpAny_BinOp (wpAny_Constant_str (elt_name hx hkind hn h1 (mul_blank (by omega) k2 fun t' k hk => ?_) hdx)))
    refine elt_name hy hkind hn h2 (PyProof.Rows.add_str (fun t'' k'' => ?_) (by rw [blanks_len, sizeLine_eq]; omega)) hdy
    refine CompEnd.intro F N news (fun p hp => hp) off (.inr ⟨_, hm, rfl, nn, rfl⟩) ?_
    refine line_turns hx hy hkind hdx hdy hm hd hr fin j (i + 1) (ys ++ [.str (blanks rows[i].1 ++ rows[i].2) t'']) (by omega) ?_
    have ht : rows.take (i + 1) = rows.take i ++ [rows[i]] := by rw [List.take_add_one, List.getElem?_eq_getElem hi]; rfl
    rw [ht, List.map_append, List.map_append]
    exact DatAll.append hys (.cons (.str _ _) .nil)
theorem line_src {x y : Str} {p1 p2 p3 p4 p5 : Pos} {n1 : Nat} {ax : Addr} {vs : List Value} {nn : Nat} {rows : List Rw} {Fin : Shared → List Value → Led → Prop} (hh : A.handled = none) (F : Fr h₀ L s.heap m) (N : News h₀ L s.heap news)
    (hm : (ax, listOf vs.toArray nn) ∈ news) (hd : DatAll news vs (rows.map datRow)) (hsz : rows.length ≤ 100000) (hr : ∀ r ∈ rows, 0 ≤ r.1 ∧ r.1 ≤ 1000 ∧ r.2.length ≤ 1000)
    (hx : scope.names.lookup x = some .local) (hy : scope.names.lookup y = some .local) (hkind : scope.kind = .function)
    (hdx : (x == ("__debug__" : Str)) = false) (hdy : (y == ("__debug__" : Str)) = false)
    (fin : ∀ g ys, DatAll [] ys ((rows.map lineS).map Dat.str) → Fin { s with heap := g } ys news) :
    SrcLP prog w A h₀ L m env (.BinOp (.BinOp (.Constant (.str (Str.ofString " ")) n1 p1) .Mult (.Name x p2) p3) .Add (.Name y p4) p5) x y scope cl Fin (.ref ax) s := by
  have hl : vs.length = rows.length := by have := hd.length; simpa using this
  refine SrcLP.ledger (k := nn) hh F N hm (by rw [List.size_toArray, hl, sizeLine_eq]; omega) fun g => ?_
  have hs : vs.toArray.size = rows.length := by rw [List.size_toArray, hl]
  rw [hs]
  exact line_turns hx hy hkind hdx hdy hm hd hr (fin g) rows.length 0 [] (by omega) (by simp only [List.take_zero, List.map_nil]; exact .nil)
theorem off_of {D : Addr} : ∀ {l : Led}, Off1 D l → ∀ p ∈ l, p.1 ≠ D
  | [], _, _, h => nomatch h
  | _ :: _, ho, p, hp => by
    rcases List.mem_cons.mp hp with rfl | hp
    · exact ho.1
    · exact off_of ho.2 p hp
/-- the turns of [g + x for x in src], g of the block around -/
theorem gap_turns {g x : Str} {p1 p2 p3 : Pos} {c : Addr} {o : Obj} {gs : Str} {tg : Tok} (hx : scope.names.lookup x = some .local) (hkind : scope.kind = .function) (hdx : (x == ("__debug__" : Str)) = false) (hdg : (g == ("__debug__" : Str)) = false)
    (hdc : (g == ("__classdict__" : Str)) = false) (hfree : ∀ C, (compEnvC scope cl C env).kindOf g = some .cell) (hcl : cl.lookup g = some c) (ho : o.data = .cell (some (.str gs tg))) (hgl : gs.length ≤ 1000)
    {ax : Addr} {vs : List Value} {nn : Nat} {xs : List Str} {news : Led} {Fin : List Value → Led → Prop}
    (hm : (ax, listOf vs.toArray nn) ∈ news) (hc : (c, o) ∈ news) (hd : DatAll [] vs (xs.map Dat.str)) (hr : ∀ x ∈ xs, x.length ≤ 100000)
    (fin : ∀ ys, DatAll [] ys ((xs.map fun l => gs ++ l).map Dat.str) → Fin ys news) :
    ∀ (j i : Nat) (ys : List Value), i + j = xs.length → DatAll [] ys (((xs.take i).map fun l => gs ++ l).map Dat.str) →
      CompRest prog w A h₀ L m env (.BinOp (.Name g p1) .Add (.Name x p2) p3) x scope cl s (SrcAt h₀ ax vs.toArray) (fun i v => vs.toArray[i]? = some v) Fin j i ys news
  | 0, i, ys, hij, hys => by
    refine CompRest.zero ?_
    have hl : xs.take i = xs := List.take_of_length_le (by omega)
    rw [hl] at hys
    exact fin ys hys
  | j + 1, i, ys, hij, hys => by
    refine CompRest.succ fun v I oI C oC D m₂ h tk E' hv hNs h1 F N off ne => ?_
    have hi : i < xs.length := by omega
    obtain ⟨v', hv', hD⟩ := hd.get (k := i) (by simpa using hi)
    have hvv : v = v' := by
      have : vs[i]? = some v := by simpa using hv
      rw [hv'] at this; exact (Option.some.inj this).symm
    subst hvv
    simp only [List.getElem_map] at hD
    cases hD with
    | str _ u =>
    have hn : h.Ns C m₂ := hNs.ns (N _ (List.mem_cons_of_mem _ List.mem_cons_self)).1
    have k3 := hr xs[i] (List.getElem_mem hi)
    refine wpAny_BinOp (lcf_cell N hcl (List.mem_cons_of_mem _ (List.mem_cons_of_mem _ (List.mem_cons_of_mem _ hc))) ho ?_ (by simp [compEnvC, relabel, hkind]) (hfree C) hdg)
    refine elt_name hx hkind hn h1 (PyProof.Rows.add_str (fun t'' k'' => ?_) (by rw [sizeLine_eq]; omega)) hdx
    refine CompEnd.intro F N news (fun p hp => hp) off (.inr ⟨_, hm, rfl, nn, rfl⟩) ?_
    refine gap_turns hx hkind hdx hdg hdc hfree hcl ho hgl hm hc hd hr fin j (i + 1) (ys ++ [.str (gs ++ xs[i]) t'']) (by omega) ?_
    have ht : xs.take (i + 1) = xs.take i ++ [xs[i]] := by rw [List.take_add_one, List.getElem?_eq_getElem hi]; rfl
    rw [ht, List.map_append, List.map_append]
    exact DatAll.append hys (.cons (.str _ _) .nil)
theorem gap_src {g x : Str} {p1 p2 p3 : Pos} {c : Addr} {o : Obj} {gs : Str} {tg : Tok} {ax : Addr} {vs : List Value} {nn : Nat} {xs : List Str} {Fin : Shared → List Value → Led → Prop} (hh : A.handled = none) (F : Fr h₀ L s.heap m) (N : News h₀ L s.heap news)
    (hm : (ax, listOf vs.toArray nn) ∈ news) (hc : (c, o) ∈ news) (ho : o.data = .cell (some (.str gs tg))) (hgl : gs.length ≤ 1000) (hd : DatAll [] vs (xs.map Dat.str)) (hr : ∀ x ∈ xs, x.length ≤ 100000) (hsz : xs.length ≤ 100000)
    (hx : scope.names.lookup x = some .local) (hkind : scope.kind = .function) (hdx : (x == ("__debug__" : Str)) = false) (hdg : (g == ("__debug__" : Str)) = false)
    (hdc : (g == ("__classdict__" : Str)) = false) (hfree : ∀ C, (compEnvC scope cl C env).kindOf g = some .cell) (hcl : cl.lookup g = some c)
    (fin : ∀ g ys, DatAll [] ys ((xs.map fun l => gs ++ l).map Dat.str) → Fin { s with heap := g } ys news) :
    CompSrc prog w A h₀ L m env (.BinOp (.Name g p1) .Add (.Name x p2) p3) x scope cl Fin (.ref ax) s := by
  have hl : vs.length = xs.length := by have := hd.length; simpa using this
  refine CompSrc.ledger (k := nn) hh F N hm (by rw [List.size_toArray, hl, sizeLine_eq]; omega) fun g => ?_
  have hs : vs.toArray.size = xs.length := by rw [List.size_toArray, hl]
  rw [hs]
  exact gap_turns hx hkind hdx hdg hdc hfree hcl ho hgl hm hc hd hr (fin g) xs.length 0 [] (by omega) (by simp only [List.take_zero, List.map_nil]; exact .nil)
end
end Mine
end
section
open PySem PySem.W PyProof.Rows PyProof.Rows.LCg PyProof.Rows.LCp
set_option maxRecDepth 100000
set_option maxHeartbeats 2000000
namespace Mine
theorem le_total {α : Type} {r : List α} : ∀ {st : List (List α)}, r ∈ st → r.length ≤ (st.map List.length).sum
  | q :: st, h => by
    simp only [List.map_cons, List.sum_cons]
    rcases List.mem_cons.mp h with rfl | h
    · omega
    · have := le_total h; omega
theorem Inv.flat {i : Nat} {X : Led} {vt vm : List Value} {st : List (List Rw)} (hI : Inv i X vt vm st) (hi : i ≤ 14) : st.flatten ≠ [] ∧ Ok 112 st.flatten ∧ st.flatten.length ≤ 116 := by
  refine ⟨?_, fun x hx => ?_, ?_⟩
  · cases st with
    | nil => exact absurd rfl hI.ne
    | cons r st =>
      have := (hI.ok r (by simp)).1
      cases r with
      | nil => exact absurd rfl this
      | cons a r => simp
  · obtain ⟨r, hr, hx⟩ := List.mem_flatten.mp hx
    exact ((hI.ok r hr).2.mono (by omega)) x hx
  · have := hI.num
    rw [List.length_flatten]; omega
abbrev passR : List Rw := [(0, Str.ofString "pass")]
abbrev lawRows (st : List (List Rw)) : List Rw := rowsOf (Str.ofString "") st.flatten passR
theorem pass_ok : Ok 112 passR := by
  intro x hx
  rw [List.mem_singleton.mp hx]
  exact ⟨Int.le_refl _, by decide, by decide +kernel⟩
theorem none_ok : XOk (Str.ofString "") := by unfold XOk; decide +kernel
theorem Inv.rows {i : Nat} {X : Led} {vt vm : List Value} {st : List (List Rw)} (hI : Inv i X vt vm st) (hi : i ≤ 14) : lawRows st ≠ [] ∧ Ok 120 (lawRows st) ∧ (lawRows st).length ≤ 125 := by
  obtain ⟨h1, h2, h3⟩ := hI.flat hi
  refine ⟨rowsOf_ne _ _ _, Ok.rowsOf none_ok (by decide) h2 pass_ok, ?_⟩
  rw [rowsOf_len]; simp only [List.length_singleton]; omega
theorem text_flat {st : List (List Rw)} (h2 : Ok 112 st.flatten) (h3 : st.flatten.length ≤ 116) : (textOf st.flatten).length ≤ 60000 :=
  Nat.le_trans (text_len (d := 112) h2) (Nat.le_trans (Nat.mul_le_mul h3 (Nat.le_refl _)) (by decide))
theorem text_law {st : List (List Rw)} (h2 : Ok 120 (lawRows st)) (h3 : (lawRows st).length ≤ 125) : (textOf (lawRows st)).length ≤ 60000 :=
  Nat.le_trans (text_len (d := 120) h2) (Nat.le_trans (Nat.mul_le_mul h3 (Nat.le_refl _)) (by decide))
section
variable {w : World} {A : Around} {E : Value → Shared → Prop} {s : Shared} {h₀ : Heap} {L : Addr} {m : Str → Option Value} {env : Env} {news X : Led} {i nt nm : Nat} {aT aM : Addr} {vt vm : List Value} {st : List (List Rw)} {prog : Program}
theorem join_done {t : Tok} {Q : Value → Shared → Prop} (N : News h₀ L s.heap ((aT, listOf vt.toArray nt) :: (aM, listOf vm.toArray nm) :: X)) (hI : Inv i X vt vm st) (hi : i ≤ 14)
    (h : ∀ t' k, Q (.str (textOf st.flatten) t') { s with toks := k }) : wpAny (model prog w) A (call (.builtin "str.join") [.str (Str.ofString "\n") t, .ref aM]) Q E s := by
  have htx := hI.tx
  have e : st.map datTxt = (st.map textOf).map Dat.str := by rw [List.map_map]; rfl
  rw [e] at htx
  have hl := hI.len
  refine join_K (B := 60000) N (.tail _ (.head _)) htx (fun y hy => ?_) (by rw [List.length_map, nl_len]; omega) fun t' k => ?_
  · obtain ⟨r, hr, rfl⟩ := List.mem_map.mp hy
    have k1 := (hI.ok r hr).2.mono (by omega : (8 * (i : Int)) ≤ ((112 : Nat) : Int))
    have k2 := le_total hr
    have k3 := hI.num
    exact Nat.le_trans (text_len k1) (Nat.le_trans (Nat.mul_le_mul (by omega : r.length ≤ 116) (Nat.le_refl _)) (by decide))
  · have e2 := text_join hI.ne fun r hr => (hI.ok r hr).1
    have e3 : Str.join (Str.ofString "\n") (st.map textOf) = textOf st.flatten := e2
    rw [e3]; exact h t' k
theorem timer_done {mean : ExcName → Option Value} {mg mb : Str → Option Value} {tx ty tz : Tok}
    {dp un : Nat} {gd : Option (List Code)} {cn : Str} {cs : Scope} {a : Addr} {ccd : Value} {cl : List (Str × Addr)} {outer : List Env} {A₀ : Around} {base : Heap} {Q E : Value → Shared → Prop}
    (B : Below A₀ base outer h₀) (F : Fr h₀ L s.heap m) (X₀ : (Mine.hd.heap_39 w.params).In h₀) (N : News h₀ L s.heap ((aT, listOf vt.toArray nt) :: (aM, listOf vm.toArray nm) :: X)) (T : Top hd.view_39 (looseW hd.view_39 []) mean mg mb h₀) (hk : cs.kind = .function)
    (hI : Inv i X vt vm st) (hi : i ≤ 14) (hd : dp + 2 < recursionLimit) (hu : un + 16 < cLine)
    (h : ∀ (t : Tok) (h' : Heap) (tk' : Nat), Fr h₀ L h' m → News h₀ L h' ((aT, listOf vt.toArray nt) :: (aM, listOf vm.toArray nm) :: X) → Q (.str (textOf (lawRows st)) t) { s with heap := h', toks := tk' }) :
    wpAny (model PySem.Challenge.pw_sn0119_01 w) (ktrTop dp un gd cn cs L a ccd cl outer) (call (.ref 28) [.str (Str.ofString "") tx, .str (textOf st.flatten) ty, .str (Str.ofString "pass") tz]) Q E s := by
  obtain ⟨h1, h2, h3⟩ := hI.flat hi
  refine timer_C B F X₀ N T hk none_ok (text_flat h2 h3) (by decide +kernel) hd hu fun t h' tk' F' N' => ?_
  have e : Str.ofString "pass" = textOf passR := (text_one _).symm
  have e2 : timerS (Str.ofString "") (textOf st.flatten) (textOf passR) = textOf (lawRows st) := timer_rows h1 (by simp) h2.free pass_ok.free h2.nonneg pass_ok.nonneg
  rw [e, e2]
  exact h t h' tk' F' N'
theorem reind_done {mean : ExcName → Option Value} {mg mb : Str → Option Value} {tx tn : Tok} {n : Int}
    {dp un : Nat} {gd : Option (List Code)} {cn : Str} {cs : Scope} {a : Addr} {ccd : Value} {cl : List (Str × Addr)} {outer : List Env} {A₀ : Around} {base : Heap} {Q E : Value → Shared → Prop}
    (B : Below A₀ base outer h₀) (F : Fr h₀ L s.heap m) (X₀ : (Mine.hd.heap_39 w.params).In h₀) (N : News h₀ L s.heap ((aT, listOf vt.toArray nt) :: (aM, listOf vm.toArray nm) :: X)) (T : Top hd.view_39 (looseW hd.view_39 []) mean mg mb h₀) (hk : cs.kind = .function)
    (hI : Inv i X vt vm st) (hi : i ≤ 14) (hn : -14 ≤ n ∧ n ≤ 14) (hd : dp + 1 < recursionLimit) (hu : un + 8 < cLine)
    (h : ∀ (t : Tok) (h' : Heap) (tk' : Nat), Fr h₀ L h' m → News h₀ L h' ((aT, listOf vt.toArray nt) :: (aM, listOf vm.toArray nm) :: X) → Q (.str (reind (textOf (lawRows st)) n) t) { s with heap := h', toks := tk' }) :
    wpAny (model PySem.Challenge.pw_sn0119_01 w) (ktrTop dp un gd cn cs L a ccd cl outer) (call (.ref 21) [.str (textOf (lawRows st)) tx, .int n tn]) Q E s := by
  obtain ⟨h1, h2, h3⟩ := hI.rows hi
  exact reindent_call B F X₀ N T hk (by have := text_law h2 h3; omega) hn hd hu fun t h' tk' F' N' _ => h t h' tk' F' N'
/-- the blocks of a list of blocks -/
structure Blocks (X : Led) (vt : List Value) (bs : List (List Value)) (st : List (List Rw)) : Prop where
  at_ : ∀ (i : Nat) (v : Value), vt[i]? = some v → ∃ (a : Addr) (xs : List Value) (n : Nat), v = Value.ref a ∧ bs[i]? = some xs ∧ (a, listOf (List.toArray xs) n) ∈ X
  len : bs.length = vt.length
  dat : DatAll X bs.flatten (st.flatten.map datRow)
theorem blocks_of : ∀ {st : List (List Rw)} {vt : List Value}, DatAll X vt (st.map datBlk) → ∃ bs, Blocks X vt bs st
  | [], _, h => by cases h; exact ⟨[], ⟨fun i v h => by simp at h, rfl, .nil⟩⟩
  | r :: st, _, h => by
    cases h with
    | cons h1 h2 =>
      obtain ⟨bs, B⟩ := blocks_of h2
      unfold datBlk at h1
      cases h1 with
      | list hm hr =>
        rename_i vs a xs n
        refine ⟨xs :: bs, ⟨fun i v hv => ?_, by simp [B.len], ?_⟩⟩
        · cases i with
          | zero =>
            have := Option.some.inj hv
            exact ⟨_, _, _, this.symm, rfl, hm⟩
          | succ i => exact B.at_ i v hv
        · rw [List.flatten_cons, List.flatten_cons, List.map_append]
          exact DatAll.append hr B.dat
theorem flat_done {blk ent tld : Str} {p0 p1 p2 p3 p4 : Pos} {scope : Scope} {pos : Pos} {cl : List (Str × Addr)} {bs : List (List Value)} {Q : Value → Shared → Prop} (hh : A.handled = none) (F : Fr h₀ L s.heap m)
    (N : News h₀ L s.heap ((aT, listOf vt.toArray nt) :: (aM, listOf vm.toArray nm) :: X)) (hI : Inv i X vt vm st) (hi : i ≤ 14) (B : Blocks X vt bs st)
    (hclos : closureFor scope env = pure cl) (hcell : ∀ y ∈ scope.names, y.2 ≠ .cell) (hkind : scope.kind = .function) (hnames : ∀ y ∈ scope.names, y.2 = .local → scope.names.lookup y.1 = some .local)
    (hblk : scope.names.lookup blk = some .local) (hent : scope.names.lookup ent = some .local) (hdb : (ent == ("__debug__" : Str)) = false) (hdb2 : (blk == ("__debug__" : Str)) = false)
    (hsrc : ∀ Q' : Value → Shared → Prop, Q' (.ref aT) s → wpAny (model prog w) A (eval (.Name tld p2) env) Q' E s)
    (h : ∀ D h' tk, Fr h₀ L h' m → News h₀ L h' ((D, lst bs.flatten) :: (aT, listOf vt.toArray nt) :: (aM, listOf vm.toArray nm) :: X) → Q (.ref D) { s with heap := h', toks := tk }) :
    wpAny (model prog w) A (eval (flatE blk ent tld p0 p1 p2 p3 p4 scope pos) env) Q E s := by
  refine flat_comp hh F N hclos hcell hkind hnames hblk hent hdb hdb2 hsrc (.head _) (fun i v hv => ?_) B.len ?_ fun D h' tk F' N' _ => h D h' tk F' N'
  · obtain ⟨a, xs, n, h1, h2, h3⟩ := B.at_ i v hv
    exact ⟨a, xs, n, h1, h2, .tail _ (.tail _ h3)⟩
  · have := B.dat.length
    have h3 := (hI.flat hi).2.2
    rw [List.length_map] at this
    omega
theorem rows_done {mean : ExcName → Option Value} {mg mb : Str → Option Value} {bs : List (List Value)} {a1 a2 D : Addr} {n1 n2 n3 : Nat} {t1 t2 tx : Tok} {q1 q2 : Addr × Obj}
    {dp un : Nat} {gd : Option (List Code)} {cn : Str} {cs : Scope} {a : Addr} {ccd : Value} {cl : List (Str × Addr)} {outer : List Env} {A₀ : Around} {base : Heap} {Q E : Value → Shared → Prop}
    (B : Below A₀ base outer h₀) (F : Fr h₀ L s.heap m) (X₀ : (Mine.hd.heap_39 w.params).In h₀)
    (N : News h₀ L s.heap ((a2, listOf [Value.ref a1].toArray n2) :: (a1, ({ cls := .type "tuple", data := .seq #[.int 0 t1, .str (Str.ofString "pass") t2] n1 } : Obj)) :: (D, listOf bs.flatten.toArray n3) :: q1 :: q2 :: X)) (T : Top hd.view_39 (looseW hd.view_39 []) mean mg mb h₀) (hk : cs.kind = .function)
    (hI : Inv i X vt vm st) (hi : i ≤ 14) (Bl : Blocks X vt bs st) (hd : dp + 2 < recursionLimit) (hu : un + 16 < cLine)
    (h : ∀ (D : Addr) (vs : List Value) (n : Nat) (add : Led) (h' : Heap) (tk' : Nat), Fr h₀ L h' m → News h₀ L h' ((D, listOf vs.toArray n) :: (add ++ X)) → DatAll add vs ((lawRows st).map datRow) → Q (.ref D) { s with heap := h', toks := tk' }) :
    wpAny (model PySem.Challenge.pw_sn0119_01 w) (ktrTop dp un gd cn cs L a ccd cl outer) (call (.ref 33) [.str (Str.ofString "") tx, .ref D, .ref a2]) Q E s := by
  obtain ⟨h1, h2, h3⟩ := hI.flat hi
  refine rows_call B F X₀ N T hk (by decide +kernel) (.tail _ (.tail _ (.head _))) (.head _) (DatAll.mono (fun p hp => .tail _ (.tail _ (.tail _ (.tail _ (.tail _ hp))))) Bl.dat) (c := passR) (.cons (tup_dat (.tail _ (.head _))) .nil) (by omega) (by simp) hd hu
    fun D vs n add h' tk' F' N' _ _ _ hd => h D vs n add h' tk' F' (fun p hp => N' p ?_) hd
  rcases List.mem_cons.mp hp with rfl | hp
  · exact .head _
  · refine .tail _ ?_
    rcases List.mem_append.mp hp with hp | hp
    · exact List.mem_append_left _ hp
    · exact List.mem_append_right _ (.tail _ (.tail _ (.tail _ (.tail _ (.tail _ hp)))))
theorem newTuple_D {vs : List Value} {Q : Value → Shared → Prop} (_ : Inv i X vt vm st) (F : Fr h₀ L s.heap m) (N : News h₀ L s.heap news)
    (h : ∀ a h', Fr h₀ L h' m → News h₀ L h' ((a, ({ cls := .type "tuple", data := .seq vs.toArray } : Obj)) :: news) → Low news a → Q (.ref a) { s with heap := h' }) (hsz : vs.length ≤ sizeLine) :
    wpAny (model prog w) A (newTuple vs) Q E s := newTuple_A F N h hsz
theorem newList_D {vs : List Value} {Q : Value → Shared → Prop} (_ : Inv i X vt vm st) (F : Fr h₀ L s.heap m) (N : News h₀ L s.heap news)
    (h : ∀ a h', Fr h₀ L h' m → News h₀ L h' ((a, listOf vs.toArray 0) :: news) → Low news a → Q (.ref a) { s with heap := h' }) (hsz : vs.length ≤ sizeLine) :
    wpAny (model prog w) A (newList vs) Q E s := newList_A F N h hsz
end
end Mine
end
section
open PySem PySem.W PyProof.Rows PyProof.Rows.LCg PyProof.Rows.LCp
set_option maxRecDepth 100000
namespace Mine
theorem dat_split : ∀ {xs : List Str} {ys : List Value}, DatAll [] ys (xs.map Dat.str) → DatAll [] (ys.take 1) ((xs.take 1).map Dat.str) ∧ DatAll [] (ys.drop 1) ((xs.drop 1).map Dat.str)
  | [], _, h => by cases h; exact ⟨.nil, .nil⟩
  | x :: xs, _, h => by
    cases h with
    | cons h1 h2 => exact ⟨.cons h1 .nil, h2⟩
theorem blanks_max (d : Int) : blanks (if 0 > d then 0 else d) = blanks d := by
  by_cases h : 0 > d
  · rw [if_pos h]; unfold blanks; rw [show d.toNat = (0 : Int).toNat by omega]
  · rw [if_neg h]
theorem law_text {R : List Rw} (hne : R ≠ []) (hf : Free R) (d : Int) :
    Str.join nl ((R.map lineS).take 1 ++ ((R.map lineS).drop 1).map fun l => blanks (if 0 > d then 0 else d) ++ l) = reind (textOf R) d := by
  cases R with
  | nil => exact absurd rfl hne
  | cons r rs =>
    rw [reind_text hf d, blanks_max]
    rfl
theorem lines_le {R : List Rw} (w2 : Ok 120 R) : ∀ x ∈ R.map lineS, x.length ≤ 184 := by
  intro x hx
  obtain ⟨r, hr, rfl⟩ := List.mem_map.mp hx
  obtain ⟨e1, e2, e3⟩ := w2 r hr
  have := e3.1
  unfold lineS
  rw [Str.length_append, blanks_len]
  omega
section
variable {w : World} {A : Around} {E : Value → Shared → Prop} {s : Shared} {h₀ : Heap} {L : Addr} {m : Str → Option Value} {env : Env} {news X : Led} {prog : Program}
theorem join_last {R : List Rw} {D : Addr} {n : Nat} {d : Int} {t : Tok} {ys yg : List Value} {Q : Value → Shared → Prop} (N : News h₀ L s.heap news) (hm : (D, listOf (ys.take 1 ++ yg).toArray n) ∈ news) (hd : DatAll [] ys ((R.map lineS).map Dat.str))
    (hg : DatAll [] yg ((((R.map lineS).drop 1).map fun l => blanks (if 0 > d then 0 else d) ++ l).map Dat.str)) (w1 : R ≠ []) (w2 : Ok 120 R) (w3 : R.length ≤ 125) (hdeep : -14 ≤ d ∧ d ≤ 14)
    (h : ∀ t' k, Q (.str (reind (textOf R) d) t') { s with toks := k }) : wpAny (model prog w) A (call (.builtin "str.join") [.str (Str.ofString "\n") t, .ref D]) Q E s := by
  have hx := DatAll.append (dat_split hd).1 hg
  rw [← List.map_append] at hx
  have hlen : ((R.map lineS).take 1 ++ ((R.map lineS).drop 1).map fun l => blanks (if 0 > d then 0 else d) ++ l).length ≤ 200 := by
    simp only [List.length_append, List.length_take, List.length_map, List.length_drop]
    omega
  refine join_K (B := 300) N hm hx (fun y hy => ?_) (by rw [nl_len]; omega) fun t' k => ?_
  · rcases List.mem_append.mp hy with hy | hy
    · have := lines_le w2 y (List.mem_of_mem_take hy); omega
    · obtain ⟨z, hz, rfl⟩ := List.mem_map.mp hy
      have := lines_le w2 z (List.mem_of_mem_drop hz)
      rw [Str.length_append, blanks_max, blanks_len]
      omega
  · have e := law_text w1 w2.free d
    have e2 : Str.join (Str.ofString "\n") ((R.map lineS).take 1 ++ ((R.map lineS).drop 1).map fun l => blanks (if 0 > d then 0 else d) ++ l) = reind (textOf R) d := e
    rw [e2]
    exact h t' k
theorem gap_last {R : List Rw} {g x : Str} {p1 p2 p3 : Pos} {scope : Scope} {cl : List (Str × Addr)} {c : Addr} {o : Obj} {d : Int} {tg : Tok} {ax : Addr} {vs : List Value} {nn : Nat} {Fin : Shared → List Value → Led → Prop} (hh : A.handled = none) (F : Fr h₀ L s.heap m) (N : News h₀ L s.heap news)
    (hm : (ax, listOf (vs.drop 1).toArray nn) ∈ news) (hc : (c, o) ∈ news) (ho : o.data = .cell (some (.str (blanks (if 0 > d then 0 else d)) tg))) (hdeep : -14 ≤ d ∧ d ≤ 14) (hd : DatAll [] vs ((R.map lineS).map Dat.str)) (w2 : Ok 120 R) (w3 : R.length ≤ 125)
    (hx : scope.names.lookup x = some .local) (hkind : scope.kind = .function) (hdx : (x == ("__debug__" : Str)) = false) (hdg : (g == ("__debug__" : Str)) = false)
    (hdc : (g == ("__classdict__" : Str)) = false) (hfree : ∀ C, (compEnvC scope cl C env).kindOf g = some .cell) (hcl : cl.lookup g = some c)
    (fin : ∀ g ys, DatAll [] ys ((((R.map lineS).drop 1).map fun l => blanks (if 0 > d then 0 else d) ++ l).map Dat.str) → Fin { s with heap := g } ys news) :
    CompSrc prog w A h₀ L m env (.BinOp (.Name g p1) .Add (.Name x p2) p3) x scope cl Fin (.ref ax) s :=
  gap_src hh F N hm hc ho (by rw [blanks_max, blanks_len]; omega) (dat_split hd).2 (fun x hx => Nat.le_trans (lines_le w2 x (List.mem_of_mem_drop hx)) (by decide)) (by rw [List.length_drop, List.length_map]; omega) hx hkind hdx hdg hdc hfree hcl fin
end
end Mine
end
section
open PySem PySem.W PyProof.Rows PyProof.Rows.LCg PyProof.Rows.LCp
set_option maxRecDepth 100000
set_option maxHeartbeats 2000000
namespace Mine
local macro_rules | `(tactic| walk_at "exec For Name Name cons nil") => `(tactic| (k_here; (rename Fr _ _ _ _ => lF'); (with_unfolding_all refine' For_invVF lF' ?k1 ?k2 ?_; (case k1 => exact rfl); (case k2 => exact rfl); k_whole)))
local macro_rules | `(tactic| walk_at "pyIter ref") => `(tactic| ((with_reducible show wpAny _ _ (pyIter (Value.ref _)) (fun it s₂ => LoopAtV _ _ _ _ _ _ _ _ _ it s₂) _ _); refine Hold.out ?_))
local macro_rules | `(tactic| walk_at "getItem ref int") => `(tactic| (k_here; (with_reducible show wpAny _ _ (getItem (Value.ref _) (Value.int _ _)) _ _ _); k_dflt (refine' ksa_get ?k1 ?k2 ?k3 ?k4 ?k5 ?k6 ?_; (case k1 => k_asm); (case k2 => exact .head _); (case k3 => with_reducible assumption); (case k4 => assumption); (case k5 => assumption); (case k6 => assumption); k_whole); intro _))
local macro_rules | `(tactic| walk_at "setItem ref int") => `(tactic| (k_here; (with_reducible show wpAny _ _ (setItem (Value.ref _) (Value.int _ _) (Value.int _ _)) _ _ _); k_dflt (refine' ksa_set ?k1 ?k2 ?k3 ?k4 ?k5 ?k6 ?k7 ?_; (case k1 => k_asm); (case k2 => k_asm); (case k3 => exact Upd.head (by assumption)); (case k4 => with_reducible assumption); (case k5 => assumption); (case k6 => assumption); (case k7 => assumption); k_whole); intro h' F' N' hi' hl' hs'))
local macro_rules | `(tactic| walk_at "newTuple") => `(tactic| (k_here; k_dflt (refine' newTuple_D ?I ?F ?N ?_ ?z; (case I => assumption); (case F => k_asm); (case N => k_asm); (case z => exact Nat.le_of_ble_eq_true rfl)); intro a' h' F' N' l1))
local macro_rules | `(tactic| walk_at "newList") => `(tactic| (k_here; k_dflt (refine' newList_D ?I ?F ?N ?_ ?z; (case I => assumption); (case F => k_asm); (case N => k_asm); (case z => exact Nat.le_of_ble_eq_true rfl)); intro a' h' F' N' l1))
local macro_rules | `(tactic| walk_at "call builtin:sum") => `(tactic| (k_here; (with_reducible show wpAny _ _ (call (Value.builtin "sum") [Value.ref _]) _ _ _); k_dflt (refine' sum_K ?k0 ?F ?N ?m ?i ?_; (case k0 => with_unfolding_all rfl); (case F => k_asm); (case N => k_asm); (case m => exact List.mem_cons_of_mem _ (List.mem_cons_of_mem _ (by assumption))); (case i => assumption)); intro h' tk' t' F' N'))
local macro_rules | `(tactic| walk_at "call builtin:str.join") => `(tactic| ((with_reducible show wpAny _ _ (call (Value.builtin _) _) _ _ _); refine Hold.out ?_))
local macro_rules | `(tactic| walk_at "call builtin:str.join") => `(tactic| (k_here; (with_reducible show wpAny _ _ (call (Value.builtin "str.join") [Value.str _ _, Value.ref _]) _ _ _); k_dflt (refine' join_done ?N ?hI ?hi ?_; (case N => k_asm); (case hI => assumption); (case hi => assumption)); intro t' tk'))
local macro_rules | `(tactic| walk_at "call ref") => `(tactic| (k_here; k_dflt ((with_unfolding_all refine' timer_done ?k1 ?k2 ?k3 ?k4 ?k5 ?kK ?kI ?kj ?kd ?ku ?_); (case k1 => k_asm); (case k2 => k_asm); (case k3 => k_asm); (case k4 => k_asm); (case k5 => k_asm); (case kK => first | rfl | assumption); (case kI => assumption); (case kj => assumption); (case kd => ktr_room); (case ku => ktr_units)); intro t9 h9 tk9 F9 N9; (try dsimp only); (try k_fold)))
local macro_rules | `(tactic| walk_at "call ref") => `(tactic| (k_here; k_dflt ((with_unfolding_all refine' reind_done ?k1 ?k2 ?k3 ?k4 ?k5 ?kK ?kI ?kj ?kn ?kd ?ku ?_); (case k1 => k_asm); (case k2 => k_asm); (case k3 => k_asm); (case k4 => k_asm); (case k5 => k_asm); (case kK => first | rfl | assumption); (case kI => assumption); (case kj => assumption); (case kn => assumption); (case kd => ktr_room); (case ku => ktr_units)); intro t9 h9 tk9 F9 N9; (try dsimp only); (try k_fold)))
local macro_rules | `(tactic| walk_at "call ref") => `(tactic| (k_here; k_dflt ((with_unfolding_all refine' rows_done ?k1 ?k2 ?k3 ?k4 ?k5 ?kK ?kI ?kj ?kB ?kd ?ku ?_); (case k1 => k_asm); (case k2 => k_asm); (case k3 => k_asm); (case k4 => k_asm); (case k5 => k_asm); (case kK => first | rfl | assumption); (case kI => assumption); (case kj => assumption); (case kB => assumption); (case kd => ktr_room); (case ku => ktr_units)); intro D9 vs9 n9 ad9 h9 tk9 F9 N9 d9; (try dsimp only); (try k_fold)))
local macro_rules | `(tactic| walk_at "eval ListComp") => `(tactic| (k_here; k_dflt (refine' flat_done ?k0 ?F ?N ?hI ?hi ?hB ?c1 ?c2 ?c3 ?c4 ?c5 ?c6 ?c7 ?c8 ?sr ?_; (case F => k_asm); (case N => k_asm); (case hI => assumption); (case hi => assumption); (case hB => assumption); (case k0 => with_unfolding_all rfl); (case c1 => with_unfolding_all rfl); (case c2 => decide); (case c3 => rfl); (case c4 => decide); (case c5 => rfl); (case c6 => rfl); (case c7 => decide); (case c8 => decide); (case sr => (intro Q' hq; refine' nameX_L ?F' ?v' hq ?a' ?b'; (case F' => k_asm); (case a' => rfl); (case b' => rfl); (case v' => rfl)))); intro D' h' tk' F' N'))
local macro_rules | `(tactic| walk_at "exec Assign cons ListComp") => `(tactic| (refine Hold.out ?_))
local macro_rules | `(tactic| walk_at "newTuple") => `(tactic| (k_here; k_dflt (refine' newTuple_C ?F ?N ?S ?_ ?z; (case F => k_asm); (case N => k_asm); (case S => assumption); (case z => exact Nat.le_of_ble_eq_true rfl)); intro a' h' F' N' S'))
local macro_rules | `(tactic| walk_at "newList") => `(tactic| (k_here; k_dflt (refine' newList_C ?F ?N ?S ?_ ?z; (case F => k_asm); (case N => k_asm); (case S => assumption); (case z => exact Nat.le_of_ble_eq_true rfl)); intro a' h' F' N' S'))
local macro_rules | `(tactic| walk_at "call builtin:divmod") => `(tactic| (k_here; k_dflt (refine' divmod_C ?F ?N ?S ?b ?p ?_; (case F => k_asm); (case N => k_asm); (case S => assumption); (case b => decide); (case p => exact Or.inr (PySem.PylongRoom.of (PySem.Heap.NoLimit.keeps (PyProof.Rows.Top.nolimit (by assumption)) (PyProof.Rows.Fr.keep (by assumption))) (of_decide_eq_true (by with_unfolding_all rfl))))); intro a' h' tk' F' N' S'))
local macro_rules | `(tactic| walk_at "call builtin:len") => `(tactic| (k_here; (with_reducible show wpAny _ _ (call (Value.builtin "len") [Value.ref _]) _ _ _); k_dflt (refine' len_K ?k ?N ?z ?_; (case N => k_asm); (case k => assumption); (case z => omega)); intro t' tk'))
local macro_rules | `(tactic| walk_at "call builtin:list.append") => `(tactic| (k_here; (with_reducible show wpAny _ _ (call (Value.builtin _) [Value.ref _, _]) _ _ _); k_dflt (first
  | (refine' append_T ?F ?N ?S ?z ?_; (case F => k_asm); (case N => k_asm); (case S => assumption); (case z => first | omega | (simp only [List.length_append, List.length_singleton]; omega)))
  | (refine' append_M ?F ?N ?S ?z ?_; (case F => k_asm); (case N => k_asm); (case S => assumption); (case z => first | omega | (simp only [List.length_append, List.length_singleton]; omega)))); intro h' F' N'))
local macro_rules | `(tactic| walk_at "call builtin:list.pop") => `(tactic| (k_here; (with_reducible show wpAny _ _ (call (Value.builtin _) [Value.ref _]) _ _ _); k_dflt (first
  | (refine' pop_T ?F ?N ?S ?z ?_; (case F => k_asm); (case N => k_asm); (case S => assumption); (case z => first | omega | (simp only [List.length_append, List.length_singleton]; omega)))
  | (refine' pop_M ?F ?N ?S ?z ?_; (case F => k_asm); (case N => k_asm); (case S => assumption); (case z => first | omega | (simp only [List.length_append, List.length_singleton]; omega)))); intro h' F' N'))
local macro_rules | `(tactic| walk_at "binaryOp Add ref ref") => `(tactic| (k_here; (with_reducible show wpAny _ _ (binaryOp _ (Value.ref _) (Value.ref _)) _ _ _); k_dflt (refine' cat_C ?F ?N ?S ?a ?b ?z ?_; (case F => k_asm); (case N => k_asm); (case S => assumption); (case a => assumption); (case b => assumption); (case z => omega)); intro a' h' F' N' S'))
local macro_rules | `(tactic| walk_at "subscriptTail Name BinOp ref int") => `(tactic| (k_here; (with_reducible show wpAny _ _ (subscriptTail _ _ (Value.ref _) (Value.int _ _)) _ _ _); k_dflt (first
  | (refine' item_C (P := RowOk) ?N ?m ?v 8 ?k ?a ?b ?c ?_ ?s; (case N => k_asm); (case m => assumption); (case v => exact plain_ok); (case k => rfl); (case a => exact Int.fmod_nonneg_of_pos _ (by decide)); (case b => exact Int.fmod_lt_of_pos _ (by decide)); (case c => exact Int.lt_trans (Int.fmod_lt_of_pos _ (by decide)) (by decide)); (case s => with_unfolding_all rfl))
  | (refine' item_C (P := XOk) ?N ?m ?v 4 ?k ?a ?b ?c ?_ ?s; (case N => k_asm); (case m => assumption); (case v => exact extras_ok); (case k => rfl); (case a => exact Int.fmod_nonneg_of_pos _ (by decide)); (case b => exact Int.fmod_lt_of_pos _ (by decide)); (case c => exact Int.lt_trans (Int.fmod_lt_of_pos _ (by decide)) (by decide)); (case s => with_unfolding_all rfl))); intro x' t' hx'))
local macro_rules | `(tactic| walk_at "call ref") => `(tactic| (k_here; k_dflt ((with_unfolding_all refine' timer_C ?k1 ?k2 ?k3 ?k4 ?k5 ?kK ?kx ?ky ?kz ?kd ?ku ?_); (case k1 => k_asm); (case k2 => k_asm); (case k3 => k_asm); (case k4 => k_asm); (case k5 => k_asm); (case kK => first | rfl | assumption); (case kx => assumption); (case ky => assumption); (case kz => assumption); (case kd => ktr_room); (case ku => ktr_units)); intro t9 h9 tk9 F9 N9; (try dsimp only); (try k_fold)))
local macro_rules | `(tactic| walk_at "call ref") => `(tactic| (k_here; k_dflt ((with_unfolding_all refine' rows_C ?k1 ?k2 ?k3 ?k4 ?S ?k5 ?kK ?kx ?XZ ?m1 ?m2 ?d1 ?d2 ?l1 ?l2 ?kd ?ku ?_); (case k1 => k_asm); (case k2 => k_asm); (case k3 => k_asm); (case k4 => k_asm); (case S => assumption); (case k5 => k_asm); (case kK => first | rfl | assumption); (case kx => assumption); (case XZ => assumption); (case m1 => assumption); (case m2 => assumption); (case d1 => assumption); (case d2 => assumption); (case l1 => omega); (case l2 => omega); (case kd => ktr_room); (case ku => ktr_units)); intro D9 vs9 n9 ad9 h9 tk9 F9 N9 S9 m9 d9; (try dsimp only); (try k_fold)))
local macro_rules | `(tactic| walk_at "subscriptTail Name Slice ref ref") => `(tactic| (refine Hold.out ?_))
local macro_rules | `(tactic| walk_at "binaryOp Mult str int") => `(tactic| (k_here; k_dflt (refine' mul_blank ?h1 ?h2 ?_; (case h1 => omega); (case h2 => omega)); intro t' k' hk'))
theorem law_true : PySem.Challenge.rw_sn0119_01.Holds := hd (by
  k_go0; (all_goals try k_fold); k_steps
  rename PairSrcL _ _ _ _ _ _ _ _ _ _ _ _ => S1
  rename IntsAre (List.flatten _) _ => hi1
  refine pair_inv S1 rfl hi1 ?turn ?off ?done
  case off =>
    intro p hp
    simp only [List.mem_cons, List.not_mem_nil, or_false] at hp
    rcases hp with rfl | rfl
    · show @Ne Nat _ _; omega
    · show @Ne Nat _ _; omega
  case turn =>
    intro i n ti tv vs' zs' k' h tk own hil hi' hl' hoff F N
    have hc14 : (0 : Int) ≤ Int.fmod (i : Int) 14 ∧ Int.fmod (i : Int) 14 < (zs'.length : Int) := by
      rw [hl', List.length_flatten, List.map_replicate, List.sum_replicate_nat]
      have h1 := Int.fmod_nonneg_of_pos (i : Int) (by decide : (0 : Int) < 14)
      have h2 := Int.fmod_lt_of_pos (i : Int) (by decide : (0 : Int) < 14)
      have h3 : Int.fmod (i : Int) 14 ≤ (i : Int) := by rw [Int.fmod_eq_emod_of_nonneg _ (by decide)]; omega
      simp only [List.length_cons, List.length_nil]
      split <;> omega
    obtain ⟨hc1, hc2⟩ := hc14
    have hc3 : Int.fmod (i : Int) 14 < 2 ^ 63 := by
      have h2 := Int.fmod_lt_of_pos (i : Int) (by decide : (0 : Int) < 14)
      omega
    k_steps
    rename Fr _ _ _ _ => F9
    rename News _ _ _ _ => N9
    rename IntsAre _ _ => hi9
    rename List.length _ = _ => hl9
    exact ⟨rfl, _, _, _, _, _, _, rfl, F9, N9, hi9, hl9.trans hl', fun y h1 h2 => by simp only [if_neg h1, if_neg h2]⟩
  case done =>
    intro h1 tk1 vs1 zs1 k1 u1 u2 hi1 hl1 F1 N1
    k_steps
    show wpAny _ _ _ _ _ _
    rename Fr _ _ _ _ => F2
    rename News _ _ _ _ => N2
    refine law_loop' (stored := storedL) rfl hi1 F2 N2 rfl ?ne ?off ?turn ?done
    case ne => show @Ne Nat _ _; omega
    case off =>
      intro a ha
      simp only [List.mem_cons, List.not_mem_nil, or_false] at ha
      rcases ha with rfl | rfl | rfl | rfl | rfl | rfl | rfl | rfl | rfl | rfl | rfl <;> exact ⟨by show @Ne Nat _ _; omega, by show @Ne Nat _ _; omega⟩
    case turn =>
      intro i z t u h tk X Z vt vm nt nm st hi hc hXZ hI hS F N
      clear N2 F2
      have hP := hc _ (.tail _ (.head _))
      have hE := hc _ (.head _)
      have hzl : zs1.length ≤ 14 := by
        rw [hl1, List.length_flatten, List.map_replicate, List.sum_replicate_nat]
        simp only [List.length_cons, List.length_nil]
        split <;> omega
      have hnum := hI.num
      have hlen := hI.len
      have hvt := hI.bk.length
      have hvm := hI.tx.length
      rw [List.length_map] at hvt hvm
      by_cases hst : 2 ≤ st.length
      · obtain ⟨pre, r1, r2, rfl⟩ := two_of hst
        obtain ⟨vt0, a1, n1, xs1, a2, n2, xs2, vm0, t1, t2, rfl, rfl, m1, m2, d1, d2, e0, e3⟩ := hI.two
        have k1 := (hI.ok r1 (by simp)).2
        have k2 := (hI.ok r2 (by simp)).2
        simp only [List.map_append, List.sum_append, List.map_cons, List.map_nil, List.sum_cons, List.sum_nil, List.length_append, List.length_singleton] at hnum hlen hvt hvm hst
        have q1 := text_len (d := 8 * i) (by simpa using k1)
        have q2 := text_len (d := 8 * i) (by simpa using k2)
        have b1 : (textOf r1).length ≤ 60000 := Nat.le_trans q1 (Nat.le_trans (Nat.mul_le_mul (by omega : r1.length ≤ 116) (by omega : 8 * i + 65 ≤ 177)) (by decide))
        have b2 : (textOf r2).length ≤ 60000 := Nat.le_trans q2 (Nat.le_trans (Nat.mul_le_mul (by omega : r2.length ≤ 116) (by omega : 8 * i + 65 ≤ 177)) (by decide))
        have m1' := hXZ _ m1
        have m2' := hXZ _ m2
        have x1 := d1.length
        have x2 := d2.length
        rw [List.length_map] at x1 x2
        have hkk : (vm0 ++ [Value.str (textOf r1) t1] ++ [Value.str (textOf r2) t2]).length = pre.length + 1 + 1 := by simp only [List.length_append, List.length_singleton]; omega
        show wpAny _ _ _ _ _ _
        k_fold
        k_steps
        · rename Fr _ _ _ _ => F9
          rename News _ _ _ _ => N9
          rename St _ _ _ _ => S9
          rename RowOk _ => hx9
          refine ⟨rfl, _, _, _, _, _, _, _, _, _, rfl, F9, N9, S9, Inv.push hI hx9 (List.mem_cons_self ..) (List.mem_cons_of_mem _ (List.mem_cons_self ..)), fun y hy => ?_⟩
          obtain ⟨g1, g2, g3, g4, g5, g6, g7, g8, g9⟩ := stored_off hy
          simp only [hy, Bool.false_eq_true, if_false, if_neg g1, if_neg g2, if_neg g3, if_neg g4, if_neg g5, if_neg g6, if_neg g7, if_neg g8, if_neg g9]
        · rename Fr _ _ _ _ => F9
          rename News _ _ _ _ => N9
          rename St _ _ _ _ => S9
          refine ⟨rfl, _, _, _, _, _, _, _, _, _, rfl, F9, N9, S9, Inv.cat hI e0 e3 (List.mem_cons_self ..) d1 d2, fun y hy => ?_⟩
          obtain ⟨g1, g2, g3, g4, g5, g6, g7, g8, g9⟩ := stored_off hy
          simp only [hy, Bool.false_eq_true, if_false, if_neg g1, if_neg g2, if_neg g3, if_neg g4, if_neg g5, if_neg g6, if_neg g7, if_neg g8, if_neg g9]
        · rename Fr _ _ _ _ => F9
          rename News _ _ _ _ => N9
          rename St _ _ _ _ => S9
          rename XOk _ => hx9
          rename DatAll _ _ (List.map datRow (rowsOf _ _ _)) => d9
          refine ⟨rfl, _, _, _, _, _, _, _, _, _, rfl, F9, N9, S9, Inv.timer hI (.inl ⟨rfl, rfl⟩) hx9 e0 e3 (by assumption) d9, fun y hy => ?_⟩
          obtain ⟨g1, g2, g3, g4, g5, g6, g7, g8, g9⟩ := stored_off hy
          simp only [hy, Bool.false_eq_true, if_false, if_neg g1, if_neg g2, if_neg g3, if_neg g4, if_neg g5, if_neg g6, if_neg g7, if_neg g8, if_neg g9]
        · rename Fr _ _ _ _ => F9
          rename News _ _ _ _ => N9
          rename St _ _ _ _ => S9
          rename XOk _ => hx9
          rename DatAll _ _ (List.map datRow (rowsOf _ _ _)) => d9
          refine ⟨rfl, _, _, _, _, _, _, _, _, _, rfl, F9, N9, S9, Inv.timer hI (.inr ⟨rfl, rfl⟩) hx9 e0 e3 (by assumption) d9, fun y hy => ?_⟩
          obtain ⟨g1, g2, g3, g4, g5, g6, g7, g8, g9⟩ := stored_off hy
          simp only [hy, Bool.false_eq_true, if_false, if_neg g1, if_neg g2, if_neg g3, if_neg g4, if_neg g5, if_neg g6, if_neg g7, if_neg g8, if_neg g9]
      · have hkk : vm.length = st.length := hvm
        have hst2 : st.length < 2 := by omega
        show wpAny _ _ _ _ _ _
        k_fold
        k_steps
        all_goals (
          rename Fr _ _ _ _ => F9
          rename News _ _ _ _ => N9
          rename St _ _ _ _ => S9
          rename RowOk _ => hx9
          refine ⟨rfl, _, _, _, _, _, _, _, _, _, rfl, F9, N9, S9, Inv.push hI hx9 (List.mem_cons_self ..) (List.mem_cons_of_mem _ (List.mem_cons_self ..)), fun y hy => ?_⟩
          obtain ⟨g1, g2, g3, g4, g5, g6, g7, g8, g9⟩ := stored_off hy
          simp only [hy, Bool.false_eq_true, if_false, if_neg g1, if_neg g2, if_neg g3, if_neg g4, if_neg g5, if_neg g6, if_neg g7, if_neg g8, if_neg g9])
    case done =>
      intro u h tk X vt vm nt nm st hc hT hM hI F N
      show wpAny _ _ _ _ _ _
      clear N2 F2
      have hzl : zs1.length ≤ 14 := by
        rw [hl1, List.length_flatten, List.map_replicate, List.sum_replicate_nat]
        simp only [List.length_cons, List.length_nil]
        split <;> omega
      have hD := hc _ (.tail _ (.tail _ (.head _)))
      have hcell := hc _ (.tail _ (.tail _ (.tail _ (.head _))))
      obtain ⟨bs, hB⟩ := blocks_of hI.bk
      have hdeep : -14 ≤ Int.fmod (zs1.sum + 3) 12 - 3 ∧ Int.fmod (zs1.sum + 3) 12 - 3 ≤ 14 := by
        have g1 := Int.fmod_nonneg_of_pos (zs1.sum + 3) (by decide : (0 : Int) < 12)
        have g2 := Int.fmod_lt_of_pos (zs1.sum + 3) (by decide : (0 : Int) < 12)
        omega
      k_steps
      rename Fr _ _ _ _ => F5
      rename News _ _ _ _ => N5
      rename DatAll _ _ (List.map datRow (lawRows st)) => d5
      obtain ⟨w1, w2, w3⟩ := hI.rows hzl
      refine Hold.out ?_
      k_dflt (refine LCp.Assign_ListComp_P (F₀ := F5) (by rfl) (by with_unfolding_all rfl) (by with_unfolding_all rfl) (by decide) (by rfl) (by decide) (by rfl) (by rfl) (by decide) (by rfl) (by rfl) ?_)
      k_steps
      refine line_src rfl F5 N5 (.head _) (DatAll.mono (fun p hp => .tail _ (List.mem_append_left _ hp)) d5) (by omega) (fun r hr => ?_) (by rfl) (by rfl) (by rfl) (by decide) (by decide) fun g5 ys5 d6 => ?_
      · obtain ⟨e1, e2, e3⟩ := w2 r hr
        exact ⟨e1, by omega, by have := e3.1; omega⟩
      intro D6 h6 tk6 F6 N6' o6
      have hoff := off_of o6
      have hcm := hcell
      have hne6 := hoff _ (.tail _ (List.mem_append_right _ hcm))
      have N6 : News _ _ h6 [_, (D6, lst ys5)] := fun p hp => N6' p (by
        rcases List.mem_cons.mp hp with rfl | hp
        · exact .tail _ (.tail _ (List.mem_append_right _ hcm))
        · rw [List.mem_singleton.mp hp]; exact .head _)
      clear N6' N5 F5 N F
      have l6 : ys5.length ≤ 1000 := by
        have := d6.length
        simp only [List.length_map] at this
        omega
      dsimp only at hne6
      show wpAny _ _ _ _ _ _
      clear hc hT hM hD hcell hB hI hoff o6 d5
      k_steps
      rename Fr _ _ _ _ => F7
      rename News _ _ _ _ => N7
      rename _ = Data.cell _ => d7
      refine Hold.out ?_
      k_dflt (refine take_K (vs := ys5) F7 N7 (.tail _ (.head _)) (fun D7 h7 F8 N8 l8 => ?_) ?kxs ?kxt l6)
      case kxs => with_unfolding_all rfl
      case kxt => kmk_pure
      clear N7 F7
      dsimp only
      k_dflt (refine LCg.ListComp_U (F₀ := F8) (by with_unfolding_all rfl) (by decide) (by rfl) (by decide) (by rfl) ?_)
      k_steps
      refine Hold.out ?_
      k_dflt (refine drop_K (vs := ys5) F8 N8 (.tail _ (.tail _ (.head _))) (fun D9 h9 F9 N9 l9 => ?_) ?kxs ?kxt l6)
      case kxs => with_unfolding_all rfl
      case kxt => kmk_pure
      clear N8 F8
      dsimp only
      refine gap_last (R := lawRows st) (vs := ys5) rfl F9 N9 (.head _) (.tail _ (.tail _ (.head _))) d7 hdeep d6 w2 w3 (by rfl) (by rfl) (by decide) (by decide) (by decide) (fun _ => rfl) (by rfl) fun g10 yg d10 => ?_
      intro D11 h11 tk11 F11 N11 o11
      have lg : yg.length ≤ 200 := by
        have := d10.length
        simp only [List.length_map, List.length_drop] at this
        omega
      show wpAny _ _ (binaryOp _ _ _) _ _ _
      k_dflt (refine cat_K (xs := ys5.take 1) (ys := yg) F11 N11 (.tail _ (.tail _ (.head _))) (.head _) (fun h12 F12 N12 => ?_) (by rw [List.length_take]; omega))
      clear N11 F11 N9 F9 o11
      dsimp only
      k_steps
      refine Hold.out ?_
      k_dflt (refine join_last (R := lawRows st) (ys := ys5) (yg := yg) N12 (.head _) d6 d10 w1 w2 w3 hdeep (fun t13 k13 => ?_))
      dsimp only
      k_steps)
end Mine
end
theorem PySem.Challenge.cw_sn0119_01_holds : PySem.Challenge.rw_sn0119_01.Holds :=
  Mine.law_true
