import PyProof.Rows.All
import Wide.All
import OpenK.AllK
import Wide.FinOn
import PySem.Challenge.RW_tr0013_01
open PySem PySem.W PyProof.Rows
set_option Elab.async false
set_option rowWalk.seconds 0
set_option compiler.extract_closed false
section
open PySem PySem.W PyProof.Rows
set_option maxRecDepth 100000
set_option maxHeartbeats 8000000
namespace Mine
open_top hd for PySem.Challenge.rw_tr0013_01
end Mine
end
section
open PySem PySem.W PyProof.Rows PySem.Calls
set_option maxRecDepth 100000
set_option maxHeartbeats 8000000
namespace Mine
noncomputable abbrev VL := looseW hd.view_39 [Str.ofString "_twin_re_1", Str.ofString "_twin_re_2"]

/-- a call of a def of the text's, as its body's run -/
theorem enterM {prog : Program} {w : World} {A : Around} {E : Value → Shared → Prop} {Q : Value → Shared → Prop} {s : Shared} {K : Frag} {name qual : Str} {params : Arguments} {body : List Stmt} {scope : Scope} {dV kV doc pm cdv ct oc : Value} {an od : Option Addr} {osl : Array (Option Value)} {f : Addr} {args : List Value} (binds : List (Str × Value))
    (X : K.In s.heap) (hlim : s.heap.NoLimit)
    (ho : K.lookup f = some ⟨oc, od, .func (fnOf name qual params body scope dV kV doc pm an cdv ct), osl⟩) (hcd : codeIn K cdv qual = true) (hroom : A.depth < recursionLimit)
    (hbind : bindArgs (fnOf name qual params body scope dV kV doc pm an cdv ct) ⟨args, []⟩ = pure binds) (hloc : ∀ y ∈ binds, scope.names.lookup y.1 = some .local)
    (hcell : ∀ x ∈ scope.names, x.2 ≠ .cell)
    (h : ∀ h₁ L tk, Fr s.heap L h₁ (fun y => binds.reverse.lookup y) → News s.heap L h₁ [] → s.toks ≤ tk →
      wpAny (model prog w) (A.deeper (envOf qual scope L f cdv)) (execs body (envOf qual scope L f cdv))
        (fun fl s' => Q (match fl with | .ret v => v | _ => .none) s') (fun _ _ => False) { s with heap := h₁, toks := tk })
    (hco : scope.isCoroutine = false) (hgen : scope.isGenerator = false) (hk : scope.kind = .function) : wpAny (model prog w) A (call (.ref f) args) Q E s :=
  wpAny_call (codeAny_call_def (fd := fnOf name qual params body scope dV kV doc pm an cdv ct) (body := body) (binds := binds) hroom (X _ _ ho) rfl hlim (codeRec_of X hcd) rfl (BindsTo.of_eq hbind) hcell hloc
    (fun h₁ hns hk₁ => wpAny_mono (h h₁ s.heap.objs.size (s.toks + binds.length) ⟨hns, hk₁, Nat.le_refl _⟩ (fun _ hp => nomatch hp) (Nat.le_add_right _ _)) (fun _ _ x => x) (fun _ _ x => x.elim)) hco hgen hk)

/-- a text of the signs' numbers -/
noncomputable def S (l : List Nat) : Str := ⟨l.toArray⟩
theorem S_toList (x : Str) : S x.cps.toList = x := rfl
theorem S_size (l : List Nat) : (S l).cps.size = l.length := by simp [S]
theorem S_len (l : List Nat) : (S l).length = l.length := S_size l
theorem S_cps (l : List Nat) : (S l).cps.toList = l := by simp [S]
theorem S_inj {a b : List Nat} (h : S a = S b) : a = b := by rw [← S_cps a, h, S_cps]
theorem S_append (a b : List Nat) : S a ++ S b = S (a ++ b) := by
  rw [← S_toList (S a ++ S b), Str.cps_append, Array.toList_append, S_cps, S_cps]

/-- what a call that hands back a text may change -/
noncomputable abbrev RetS (s : Shared) (Q : Value → Shared → Prop) (r : List Nat) : Prop :=
  ∀ (t' : Tok) (h : Heap) (tk' : Nat), (∀ b o, s.heap.get? b = some o → h.get? b = some o) → 0 < tk' → Q (.str (S r) t') { s with heap := h, toks := tk' }
end Mine
end
theorem Mine.forgetEsc : True := by
  w_top off
  have h : True ∧ True := by
    try walk1
    all_goals (first | trivial | exact ⟨trivial, trivial⟩)
  exact h.1
section
open PySem PySem.W PyProof.Rows PySem.Calls
set_option maxRecDepth 100000
set_option maxHeartbeats 8000000
namespace Mine
noncomputable def sub1 (c : Nat) (z : List Nat) (l : List Nat) : List Nat := l.flatMap fun d => if d = c then z else [d]

theorem sub1_free {c : Nat} {z : List Nat} : ∀ {l : List Nat}, c ∉ l → sub1 c z l = l
  | [], _ => rfl
  | d :: r, h => by
    have h1 : d ≠ c := fun e => h (e ▸ List.mem_cons_self ..)
    have h2 : c ∉ r := fun m => h (List.mem_cons_of_mem _ m)
    have ih := sub1_free (z := z) h2
    unfold sub1 at ih ⊢
    rw [List.flatMap_cons, ih, if_neg h1]; rfl
theorem sub1_append (c : Nat) (z a b : List Nat) : sub1 c z (a ++ b) = sub1 c z a ++ sub1 c z b := by unfold sub1; exact List.flatMap_append
theorem sub1_join (c : Nat) (z : Str) : ∀ parts : List Str, (∀ p ∈ parts, c ∉ p.cps.toList) → sub1 c z.cps.toList (Str.join ⟨#[c]⟩ parts).cps.toList = (Str.join z parts).cps.toList
  | [], _ => rfl
  | [p], h => sub1_free (h p (List.mem_singleton.mpr rfl))
  | p :: q :: r, h => by
    have ih := sub1_join c z (q :: r) fun a ha => h a (List.mem_cons_of_mem _ ha)
    show sub1 c _ (p ++ ⟨#[c]⟩ ++ Str.join ⟨#[c]⟩ (q :: r)).cps.toList = (p ++ z ++ Str.join z (q :: r)).cps.toList
    simp only [Str.cps_append, Array.toList_append]
    rw [sub1_append, sub1_append, ih, sub1_free (h p (List.mem_cons_self ..))]
    show p.cps.toList ++ sub1 c z.cps.toList [c] ++ _ = _
    simp [sub1]
theorem replace_sub1 (x z : Str) (c : Nat) : (Txt.replace x ⟨#[c]⟩ z).cps.toList = sub1 c z.cps.toList x.cps.toList := by
  rw [StrLaws.replace_one, ← sub1_join c z _ (StrLaws.split_free x c), StrLaws.join_split]
theorem replace_S (l z : List Nat) (c : Nat) : Txt.replace (S l) ⟨#[c]⟩ (S z) = S (sub1 c z l) := by
  rw [← S_toList (Txt.replace _ _ _), replace_sub1]; rfl


theorem sub1_length_le (c : Nat) (z : List Nat) (k : Nat) (hz : z.length ≤ k + 1) : ∀ l : List Nat, (sub1 c z l).length ≤ (k + 1) * l.length
  | [] => Nat.le_refl _
  | d :: r => by
    have ih := sub1_length_le c z k hz r
    have e : sub1 c z (d :: r) = (if d = c then z else [d]) ++ sub1 c z r := by unfold sub1; rw [List.flatMap_cons]
    rw [e, List.length_append, List.length_cons, Nat.mul_add]
    split <;> simp <;> omega

theorem call_replace_S {prog : Program} {w : World} {A : Around} {E : Value → Shared → Prop} {Q : Value → Shared → Prop} {s : Shared} {l z : List Nat} {c : Nat} {y x z' : Str} {t u v : Tok}
    (ey : y = ⟨#[c]⟩) (ez : z' = S z) (ex : x = S l) (hu : u ≠ 0) (hv : v ≠ 0) (huv : u ≠ v) (hl : l.length ≤ 1000000) (hz : z.length ≤ 6) (hne : (y == z') = false) (ht : 0 < s.toks)
    (h : ∀ t' k, 0 < k → Q (.str (S (sub1 c z l)) t') { s with toks := k }) : wpAny (model prog w) A (call (.builtin "str.replace") [.str x t, .str y u, .str z' v]) Q E s := by
  subst ey ez ex
  refine wpAny_with_toks (n := s.toks) (Nat.le_refl _) (SC.replaceW hu hv huv hne (by show (S l).cps.size ≤ _; simp [S]; omega) (by show (S z).cps.size ≤ _; simp [S]; omega) fun t' k hk => ?_)
  rw [replace_S]
  exact h t' k (Nat.lt_of_lt_of_le ht hk)

local macro_rules | `(tactic| walk_at "execs cons") => `(tactic| (with_reducible refine wpAny_execs_cons ?_; try dsimp only))
local macro_rules | `(tactic| walk_at "execs nil") => `(tactic| (with_reducible refine wpAny_execs_nil ?_; try dsimp only))
local macro_rules | `(tactic| walk_at "call builtin:str.replace") => `(tactic| (
  refine call_replace_S (c := (_ : Nat)) (z := (_ : List Nat)) (by first | exact (show Str.ofString "&" = ⟨#[38]⟩ from by decide +kernel) | exact (show Str.ofString "<" = ⟨#[60]⟩ from by decide +kernel) | exact (show Str.ofString ">" = ⟨#[62]⟩ from by decide +kernel) | exact (show Str.ofString "\"" = ⟨#[34]⟩ from by decide +kernel))
    (by first | exact (show Str.ofString "&amp;" = S [38,97,109,112,59] from by decide +kernel) | exact (show Str.ofString "&lt;" = S [38,108,116,59] from by decide +kernel) | exact (show Str.ofString "&gt;" = S [38,103,116,59] from by decide +kernel) | exact (show Str.ofString "&quot;" = S [38,113,117,111,116,59] from by decide +kernel))
    rfl (by k_ne) (by k_ne) (by k_ne) (by omega) (by decide) (by decide +kernel) (by dsimp only; omega) ?_; intro t' k' hk'; try dsimp only))


theorem occ_free {l : List Nat} {y : Str} {c : Nat} (ey : y = ⟨#[c]⟩) (h : (Builtin.Str.occurrences (S l) y 0 (S l).length 1).isEmpty = true) : c ∉ l := by
  subst ey
  have := StrLaws.found_one (S l) c
  rw [h, S_cps] at this
  simpa using this.symm
theorem free_amp (m : List Nat) (h : (Builtin.Str.occurrences (S m) (Str.ofString "&") 0 (S m).length 1).isEmpty = true) : sub1 38 [38,97,109,112,59] m = m :=
  sub1_free (occ_free (show Str.ofString "&" = ⟨#[38]⟩ from by decide +kernel) h)
theorem free_lt (m : List Nat) (h : (Builtin.Str.occurrences (S m) (Str.ofString "<") 0 (S m).length 1).isEmpty = true) : sub1 60 [38,108,116,59] m = m :=
  sub1_free (occ_free (show Str.ofString "<" = ⟨#[60]⟩ from by decide +kernel) h)
theorem free_gt (m : List Nat) (h : (Builtin.Str.occurrences (S m) (Str.ofString ">") 0 (S m).length 1).isEmpty = true) : sub1 62 [38,103,116,59] m = m :=
  sub1_free (occ_free (show Str.ofString ">" = ⟨#[62]⟩ from by decide +kernel) h)
theorem free_qt (m : List Nat) (h : (Builtin.Str.occurrences (S m) (Str.ofString "\"") 0 (S m).length 1).isEmpty = true) : sub1 34 [38,113,117,111,116,59] m = m :=
  sub1_free (occ_free (show Str.ofString "\"" = ⟨#[34]⟩ from by decide +kernel) h)

noncomputable def escC (l : List Nat) : List Nat := sub1 62 [38,103,116,59] (sub1 60 [38,108,116,59] (sub1 38 [38,97,109,112,59] l))
noncomputable def escA (l : List Nat) : List Nat := sub1 34 [38,113,117,111,116,59] (sub1 62 [38,103,116,59] (sub1 38 [38,97,109,112,59] l))

theorem retEq {s : Shared} {Q : Value → Shared → Prop} {r r' : List Nat} (ret : RetS s Q r) (e : r' = r) {t' : Tok} {h : Heap} {tk' : Nat} (k : ∀ b o, s.heap.get? b = some o → h.get? b = some o) (hp : 1 ≤ ({ s with heap := h, toks := tk' } : Shared).toks) : Q (.str (S r') t') { s with heap := h, toks := tk' } := by
  subst e; exact ret t' h tk' k hp

section
variable {prog : Program} {w : World} {A : Around} {E : Value → Shared → Prop} {Q : Value → Shared → Prop} {s : Shared} {mean : ExcName → Option Value} {mg mb : Str → Option Value} {l : List Nat} {t : Tok}
theorem escC_call (X : (hd.heap_39 w.params).In s.heap) (T : Top hd.view_39 VL mean mg mb s.heap)
   (hh : A.handled = none) (hroom : A.depth < recursionLimit) (hx : l.length ≤ 20000) (ht : 0 < s.toks)
   (ret : RetS s Q (escC l)) : wpAny (model prog w) A (call (.ref 76) [.str (S l) t]) Q E s := by
  have e1 := sub1_length_le 38 [38,97,109,112,59] 4 (by decide) l
  have e2 := sub1_length_le 60 [38,108,116,59] 3 (by decide) l
  have e3 := sub1_length_le 60 [38,108,116,59] 3 (by decide) (sub1 38 [38,97,109,112,59] l)
  refine wpAny_with_toks (n := 1) ht ?_
  k_dflt (refine' enterM [(Str.ofString "text", .str (S l) t)] X T.nolimit ?k3 ?k4 hroom ?k6 ?k7 ?c5 ?_ ?c2 ?c3 ?c4; (case k3 => k_is); (case k4 => k_is); (case k6 => exact rfl); (case c5 => decide); (case k7 => exact locs rfl); (case c2 => exact rfl); (case c3 => exact rfl); (case c4 => exact rfl); k_whole)
  intro h₁ L tk F N htk
  replace htk : 0 < tk := Nat.lt_of_lt_of_le ht htk
  try dsimp only
  k_steps
  all_goals (
    (try dsimp only)
    rename Fr _ _ _ _ => F'
    refine retEq ret ?_ F'.keep (by assumption)
    unfold escC
    (try rw [free_amp _ (by assumption)])
    (try rw [free_lt _ (by assumption)])
    (try rw [free_gt _ (by assumption)])
    (try rfl))
theorem escA_call (X : (hd.heap_39 w.params).In s.heap) (T : Top hd.view_39 VL mean mg mb s.heap)
   (hh : A.handled = none) (hroom : A.depth < recursionLimit) (hx : l.length ≤ 20000) (ht : 0 < s.toks)
   (ret : RetS s Q (escA l)) : wpAny (model prog w) A (call (.ref 83) [.str (S l) t]) Q E s := by
  have e1 := sub1_length_le 38 [38,97,109,112,59] 4 (by decide) l
  have e2 := sub1_length_le 62 [38,103,116,59] 3 (by decide) l
  have e3 := sub1_length_le 62 [38,103,116,59] 3 (by decide) (sub1 38 [38,97,109,112,59] l)
  refine wpAny_with_toks (n := 1) ht ?_
  k_dflt (refine' enterM [(Str.ofString "text", .str (S l) t)] X T.nolimit ?k3 ?k4 hroom ?k6 ?k7 ?c5 ?_ ?c2 ?c3 ?c4; (case k3 => k_is); (case k4 => k_is); (case k6 => exact rfl); (case c5 => decide); (case k7 => exact locs rfl); (case c2 => exact rfl); (case c3 => exact rfl); (case c4 => exact rfl); k_whole)
  intro h₁ L tk F N htk
  replace htk : 0 < tk := Nat.lt_of_lt_of_le ht htk
  try dsimp only
  k_steps
  all_goals (
    (try dsimp only)
    rename Fr _ _ _ _ => F'
    refine retEq ret ?_ F'.keep (by assumption)
    unfold escA
    (try rw [free_amp _ (by assumption)])
    (try rw [free_gt _ (by assumption)])
    (try rw [free_qt _ (by assumption)])
    (try rfl))
end
end Mine
end
section
open PySem PySem.W PyProof.Rows PySem.Calls PySem.Sre
set_option maxRecDepth 100000
set_option maxHeartbeats 4000000
namespace Mine
noncomputable def code1 : Array Nat := #[14, 4, 0, 1, 1, 6, 1, 16, 46, 1]
noncomputable def code2 : Array Nat := #[14, 9, 4, 1, 2, 16, 10, 16, 13, 0, 7, 7, 16, 13, 16, 10, 15, 18, 5, 16, 10, 15, 13, 11, 16, 13, 5, 5, 0, 16, 10, 1, 15, 2, 0, 1]

/-- a machine's state, as our runs meet it -/
noncomputable def mk (code text : Array Nat) (ls : Nat) (st : Nat) (must : Bool) (pc pos hd : Nat) (om : Bool) (fs : List Sre.Frame) (wt : Nat) (ans : Option Bool) (seen : Sre.Seen) (out : Option Sre.Outcome) : M :=
  { code, text, lim := text.size, start := st, lastStart := ls, wholeText := false, mustAdvance := must, pc, pos, handed := hd, outermost := om, marks := #[], lastmark := -1, lastindex := -1, loops := #[], inner := none, frames := fs, weight := wt, answer := ans, seen := seen, outcome := out }

noncomputable def nsF (pc p : Nat) (first : Bool) : Sre.Frame := { wait := .nextStart, pc := pc, pos := p, outermost := first }

variable {text : Array Nat} {ls st hd wt p : Nat} {must om b first : Bool} {fs : List Sre.Frame} {seen : Sre.Seen}

theorem at1_yes (h : p = 0 ∨ text.getD (p - 1) 0 = 10) :
    (mk code1 text ls st must 5 p hd om fs wt none seen none).step = mk code1 text ls st must 7 p hd om fs wt none ((seen.add 6).add 44) none := by
  have e : (p == 0 || text.getD (p - 1) 0 == 10) = true := by rw [Bool.or_eq_true]; exact h.imp (fun e => beq_iff_eq.mpr e) fun e => beq_iff_eq.mpr e
  have q : (mk code1 text ls st must 5 p hd om fs wt none seen none).step = (match (Except.ok (p == 0 || text.getD (p - 1) 0 == 10) : Except String Bool) with
    | .error why => (mk code1 text ls st must 5 p hd om fs wt none (seen.add 6) none).stick why
    | .ok yes => if yes then mk code1 text ls st must 7 p hd om fs wt none ((seen.add 6).add 44) none else mk code1 text ls st must 5 p hd om fs wt (some false) ((seen.add 6).add 44) none) := rfl
  rw [q, e]; rfl
theorem at1_no (h0 : p ≠ 0) (h : text.getD (p - 1) 0 ≠ 10) :
    (mk code1 text ls st must 5 p hd om fs wt none seen none).step = mk code1 text ls st must 5 p hd om fs wt (some false) ((seen.add 6).add 44) none := by
  have e : (p == 0 || text.getD (p - 1) 0 == 10) = false := by rw [Bool.or_eq_false_iff]; exact ⟨beq_eq_false_iff_ne.mpr h0, beq_eq_false_iff_ne.mpr h⟩
  have q : (mk code1 text ls st must 5 p hd om fs wt none seen none).step = (match (Except.ok (p == 0 || text.getD (p - 1) 0 == 10) : Except String Bool) with
    | .error why => (mk code1 text ls st must 5 p hd om fs wt none (seen.add 6) none).stick why
    | .ok yes => if yes then mk code1 text ls st must 7 p hd om fs wt none ((seen.add 6).add 44) none else mk code1 text ls st must 5 p hd om fs wt (some false) ((seen.add 6).add 44) none) := rfl
  rw [q, e]; rfl
theorem lit1_yes (h0 : p < text.size) (h : text.getD p 0 = 46) :
    (mk code1 text ls st must 7 p hd om fs wt none seen none).step = mk code1 text ls st must 9 (p + 1) hd om fs wt none (seen.add 16) none := by
  show (if p ≥ text.size then _ else match (Except.ok (text.getD p 0 == 46, seen.add 16) : Except String (Bool × Sre.Seen)) with | .error why => _ | .ok (false, seen) => _ | .ok (true, seen) => _) = _
  rw [if_neg (Nat.not_le.mpr h0), beq_iff_eq.mpr h]; rfl
theorem lit1_no (h : p < text.size → text.getD p 0 ≠ 46) :
    (mk code1 text ls st must 7 p hd om fs wt none seen none).step = mk code1 text ls st must 7 p hd om fs wt (some false) (seen.add 16) none := by
  show (if p ≥ text.size then _ else match (Except.ok (text.getD p 0 == 46, seen.add 16) : Except String (Bool × Sre.Seen)) with | .error why => _ | .ok (false, seen) => _ | .ok (true, seen) => _) = _
  by_cases h0 : p ≥ text.size
  · rw [if_pos h0]; rfl
  · rw [if_neg h0, beq_eq_false_iff_ne.mpr (h (Nat.not_le.mp h0))]; rfl
theorem succ1 (hm : must = false) :
    (mk code1 text ls st must 9 p hd om fs wt none seen none).step = mk code1 text ls st must 9 p p om fs wt (some true) (seen.add 1) none := by
  subst hm
  show (if (om && ((false && p != text.size) || (false && p == st))) = true then _ else _) = _
  rw [show (om && ((false && p != text.size) || (false && p == st))) = false from by simp]; rfl
theorem top1 {code : Array Nat} {pc pc' : Nat} :
    (mk code text ls st must pc p hd om [nsF pc' st first] wt (some true) seen none).step = mk code text ls st must pc' st hd first [] (wt - 1) (some true) seen none := rfl
theorem end1 {code : Array Nat} {pc : Nat} :
    (mk code text ls st must pc p hd om [] wt (some b) seen none).step = mk code text ls st must pc p hd om [] wt (some b) seen (some (if b then .matched else .failed)) := rfl
theorem back1_end (h : ¬ st < ls) :
    (mk code1 text ls st must 7 p hd om [nsF 5 st first] wt (some false) seen none).step = mk code1 text ls st must 5 st hd first [] (wt - 1) (some false) seen none := by
  show (if false = true then _ else if st < ls then _ else _) = _
  rw [if_neg Bool.false_ne_true, if_neg h]; rfl
theorem back1_go (h : st < ls) :
    (mk code1 text ls st must 7 p hd om [nsF 5 st first] 1 (some false) seen none).step = mk code1 text ls (st + 1) false 5 (st + 1) (st + 1) false [nsF 5 (st + 1) false] 1 none seen none := by
  show (if false = true then _ else if st < ls then _ else _) = _
  rw [if_neg Bool.false_ne_true, if_pos h]; rfl
theorem back1_end5 (h : ¬ st < ls) :
    (mk code1 text ls st must 5 p hd om [nsF 5 st first] wt (some false) seen none).step = mk code1 text ls st must 5 st hd first [] (wt - 1) (some false) seen none := by
  show (if false = true then _ else if st < ls then _ else _) = _
  rw [if_neg Bool.false_ne_true, if_neg h]; rfl
theorem back1_go5 (h : st < ls) :
    (mk code1 text ls st must 5 p hd om [nsF 5 st first] 1 (some false) seen none).step = mk code1 text ls (st + 1) false 5 (st + 1) (st + 1) false [nsF 5 (st + 1) false] 1 none seen none := by
  show (if false = true then _ else if st < ls then _ else _) = _
  rw [if_neg Bool.false_ne_true, if_pos h]; rfl

noncomputable def Goes : Nat → M → M → Prop
  | 0, m, m' => m = m'
  | k + 1, m, m' => m.outcome = none ∧ Goes k m.step m'
theorem Goes.add : ∀ {j k : Nat} {a b c : M}, Goes j a b → Goes k b c → Goes (j + k) a c
  | 0, k, a, b, c, h, g => by cases h; rw [Nat.zero_add]; exact g
  | j + 1, k, a, b, c, h, g => by
    rw [Nat.add_right_comm]
    exact ⟨h.1, Goes.add h.2 g⟩
theorem Goes.one {a b : M} (h : a.outcome = none) (e : a.step = b) : Goes 1 a b := ⟨h, e⟩
theorem goes_runFor : ∀ {k n : Nat} {a b : M}, Goes k a b → b.outcome.isSome = true → k ≤ n → a.runFor n = b
  | 0, n, a, b, h, ho, _ => by
    cases h
    cases n with
    | zero => rfl
    | succ n => show (if a.outcome.isSome then a else _) = a; rw [if_pos ho]
  | k + 1, 0, _, _, _, _, hn => absurd hn (Nat.not_succ_le_zero _)
  | k + 1, n + 1, a, b, h, ho, hn => by
    show (if a.outcome.isSome then a else M.runFor n a.step) = b
    rw [h.1, if_neg (by simp)]
    exact goes_runFor h.2 ho (Nat.le_of_succ_le_succ hn)
theorem goes_split : ∀ {n k : Nat} {a b : M}, Goes (n + (k + 1)) a b → Goes (k + 1) (a.runFor n) b
  | 0, k, a, b, h => by rw [Nat.zero_add] at h; exact h
  | n + 1, k, a, b, h => by
    rw [Nat.add_right_comm] at h
    show Goes (k + 1) (if a.outcome.isSome then a else M.runFor n a.step) b
    rw [h.1, if_neg (by simp)]
    exact goes_split h.2

section
variable {prog : Program} {w : World} {A : Around} {E : Value → Shared → Prop} {s : Shared}
open PySem.Builtin.Re in
theorem drive {Q : M → Shared → Prop} : ∀ (T k : Nat) {a b : M}, Goes k a b → b.outcome.isSome = true → k ≤ 4 * T → 0 < T → Q b s → wpAny (model prog w) A (reDrive T a) Q E s
  | 0, _, _, _, _, _, _, h, _ => absurd h (Nat.lt_irrefl _)
  | T + 1, k, a, b, h, ho, hk, _, hq => by
    show wpAny _ _ (if (a.runFor 4).outcome.isSome then pure (a.runFor 4) else do rule "sre.turn"; reDrive T (a.runFor 4)) _ _ _
    by_cases h4 : k ≤ 4
    · rw [goes_runFor h ho h4, if_pos ho]; exact wpAny_pure hq
    · obtain ⟨j, rfl⟩ : ∃ j, k = 4 + (j + 1) := ⟨k - 5, by omega⟩
      have g := goes_split h
      rw [g.1, if_neg (by simp)]
      exact wpAny_bind (wpAny_rule (drive T (j + 1) g ho (by omega) (by omega) hq))

theorem rules_any {β : Type} {l : List β} {c : β → Bool} {tag : β → String} {Q : PUnit → Shared → Prop} (h : Q ⟨⟩ s) :
    wpAny (model prog w) A (forIn l PUnit.unit (fun i (_ : PUnit) =>
      if c i = true then do
        rule (tag i)
        pure (ForInStep.yield PUnit.unit)
      else pure (ForInStep.yield PUnit.unit))) Q E s := by
  induction l with
  | nil => exact wpAny_pure h
  | cons x l ih =>
    rw [List.forIn_cons]
    refine wpAny_bind ?_
    by_cases hc : c x = true
    · rw [if_pos hc]; exact wpAny_bind (wpAny_rule (wpAny_pure ih))
    · rw [if_neg hc]; exact wpAny_pure ih
open PySem.Builtin.Re in
theorem run_end {k : Nat} {a b : M} {Q : Option M → Shared → Prop} (h : Goes k a b) (hk : k ≤ 2 ^ 60)
    (hq : (b.outcome matches some .matched) = true ∧ Q (some b) s ∨ (b.outcome matches some .failed) = true ∧ Q none s) : wpAny (model prog w) A (reRunToEnd a) Q E s := by
  have ho : b.outcome.isSome = true := by
    rcases hq with ⟨hq, _⟩ | ⟨hq, _⟩ <;> (split at hq <;> first | (simp_all; done) | cases hq)
  unfold reRunToEnd
  refine wpAny_bind (drive _ k h ho (Nat.le_trans hk (by decide)) (by decide) (wpAny_bind (rules_any ?_)))
  rcases hq with ⟨ho, hq⟩ | ⟨ho, hq⟩
  · split at ho
    · rename_i e; rw [e]; exact wpAny_pure hq
    · cases ho
  · split at ho
    · rename_i e; rw [e]; exact wpAny_pure hq
    · cases ho
end
end Mine
end
section
open PySem PySem.W PyProof.Rows PySem.Calls PySem.Sre
set_option maxRecDepth 100000
set_option maxHeartbeats 4000000
namespace Mine
noncomputable def isDotAt (text : Array Nat) (p : Nat) : Prop := (p = 0 ∨ text.getD (p - 1) 0 = 10) ∧ p < text.size ∧ text.getD p 0 = 46

noncomputable def Found1 (text : Array Nat) (q : Nat) (mf : M) : Prop :=
  (∃ r, q ≤ r ∧ isDotAt text r ∧ (∀ j, q ≤ j → j < r → ¬ isDotAt text j) ∧ (mf.outcome matches some .matched) = true ∧ mf.start = r ∧ mf.handed = r + 1) ∨
  ((∀ j, q ≤ j → ¬ isDotAt text j) ∧ (mf.outcome matches some .failed) = true)

noncomputable abbrev at1 (text : Array Nat) (q : Nat) (first : Bool) (seen : Sre.Seen) : M := mk code1 text text.size q false 5 q q first [nsF 5 q first] 1 none seen none

theorem hit1 {text : Array Nat} {q : Nat} {first : Bool} {seen : Sre.Seen} (h : isDotAt text q) : ∃ mf, Goes 5 (at1 text q first seen) mf ∧ (mf.outcome matches some .matched) = true ∧ mf.start = q ∧ mf.handed = q + 1 := by
  obtain ⟨h1, h2, h3⟩ := h
  have g : Goes 5 (at1 text q first seen) (mk code1 text text.size q false 5 q (q + 1) first [] 0 (some true) ((((seen.add 6).add 44).add 16).add 1) (some .matched)) := by
    refine ⟨rfl, ?_⟩
    rw [at1_yes h1]
    refine ⟨rfl, ?_⟩
    rw [lit1_yes h2 h3]
    refine ⟨rfl, ?_⟩
    rw [succ1 rfl]
    refine ⟨rfl, ?_⟩
    rw [top1]
    refine ⟨rfl, ?_⟩
    rw [end1]
    exact rfl
  exact ⟨_, g, rfl, rfl, rfl⟩

theorem miss1 {text : Array Nat} {q : Nat} {first : Bool} {seen : Sre.Seen} (h : ¬ isDotAt text q) : ∃ k sn pc, k ≤ 2 ∧ (pc = 5 ∨ pc = 7) ∧ Goes k (at1 text q first seen) (mk code1 text text.size q false pc q q first [nsF 5 q first] 1 (some false) sn none) := by
  by_cases h1 : q = 0 ∨ text.getD (q - 1) 0 = 10
  · refine ⟨2, ((seen.add 6).add 44).add 16, 7, Nat.le_refl _, .inr rfl, rfl, ?_⟩
    rw [at1_yes h1]
    refine ⟨rfl, ?_⟩
    rw [lit1_no fun h2 h3 => h ⟨h1, h2, h3⟩]
    exact rfl
  · refine ⟨1, (seen.add 6).add 44, 5, by decide, .inl rfl, rfl, ?_⟩
    rw [at1_no (fun e => h1 (.inl e)) (fun e => h1 (.inr e))]
    exact rfl

theorem scan1 {text : Array Nat} : ∀ (d q : Nat) (first : Bool) (seen : Sre.Seen), q + d = text.size →
    ∃ k mf, k ≤ 8 * (d + 1) ∧ Goes k (at1 text q first seen) mf ∧ Found1 text q mf
  | d, q, first, seen, hd => by
    by_cases hq : isDotAt text q
    · obtain ⟨mf, g, h1, h2, h3⟩ := hit1 (first := first) (seen := seen) hq
      exact ⟨5, mf, by omega, g, .inl ⟨q, Nat.le_refl _, hq, fun j a b => absurd a (by omega), h1, h2, h3⟩⟩
    · obtain ⟨k, sn, pc, hk, hpc, g⟩ := miss1 (first := first) (seen := seen) hq
      cases d with
      | zero =>
        have hn : ¬ q < text.size := by omega
        refine ⟨k + 2, mk code1 text text.size q false 5 q q first [] 0 (some false) sn (some .failed), by omega, g.add ⟨rfl, ?_⟩, .inr ⟨fun j a b => ?_, rfl⟩⟩
        · rcases hpc with rfl | rfl
          · rw [back1_end5 hn]; refine ⟨rfl, ?_⟩; rw [end1]; exact rfl
          · rw [back1_end hn]; refine ⟨rfl, ?_⟩; rw [end1]; exact rfl
        · have := b.2.1; omega
      | succ d =>
        have hn : q < text.size := by omega
        obtain ⟨k', mf, hk', g', hf⟩ := scan1 (text := text) d (q + 1) false sn (by omega)
        refine ⟨k + (1 + k'), mf, by omega, g.add (Goes.add ⟨rfl, ?_⟩ g'), ?_⟩
        · rcases hpc with rfl | rfl
          · rw [back1_go5 hn]; exact rfl
          · rw [back1_go hn]; exact rfl
        · rcases hf with ⟨r, a, b, c, e⟩ | ⟨a, b⟩
          · refine .inl ⟨r, by omega, b, fun j h1 h2 => ?_, e⟩
            by_cases e1 : j = q
            · rw [e1]; exact hq
            · exact c j (by omega) h2
          · refine .inr ⟨fun j h1 => ?_, b⟩
            by_cases e1 : j = q
            · rw [e1]; exact hq
            · exact a j (by omega)

theorem search1 {text : Array Nat} {p : Nat} (hp : p ≤ text.size) : ∃ k mf, k ≤ 8 * (text.size + 2) ∧ Goes k (Sre.forSearch code1 text 0 p text.size false) mf ∧ Found1 text p mf := by
  by_cases h : p = text.size
  · subst h
    have e : ∃ st, Sre.forSearch code1 text 0 text.size text.size false = mk code1 text 0 st false 5 text.size text.size true [] 0 (some false) (({} : Sre.Seen).add 14) none := by
      refine ⟨text.size, ?_⟩
      show (if (decide (text.size > text.size) || decide (text.size - text.size < 1)) = true then _ else _) = _
      rw [if_pos (by simp)]
      exact rfl
    obtain ⟨st, e⟩ := e
    rw [e]
    exact ⟨1, _, by omega, ⟨rfl, end1⟩, .inr ⟨fun j a b => by have := b.2.1; omega, rfl⟩⟩
  · have e : Sre.forSearch code1 text 0 p text.size false = at1 text p true (({} : Sre.Seen).add 14) := by
      show (if (decide (p > text.size) || decide (text.size - p < 1)) = true then _ else _) = _
      rw [if_neg (by simp; omega)]
      exact rfl
    rw [e]
    obtain ⟨k, mf, h1, h2, h3⟩ := scan1 (text := text) (text.size - p) p true (({} : Sre.Seen).add 14) (by omega)
    exact ⟨k, mf, by omega, h2, h3⟩
end Mine
end
section
open PySem PySem.W PyProof.Rows PySem.Calls PySem.Sre
set_option maxRecDepth 100000
set_option maxHeartbeats 4000000
namespace Mine
section
variable {text : Array Nat} {ls st hd wt p : Nat} {must om b first : Bool} {fs : List Sre.Frame} {seen : Sre.Seen}
noncomputable def nbF (a p : Nat) (om : Bool) : Sre.Frame := { wait := .nextBranch, pc := a, pos := p, outermost := om }
noncomputable def lnF (p : Nat) (om : Bool) : Sre.Frame := { wait := .lookNot, pc := 26, pos := p, outermost := om }
theorem br2 : (mk code2 text ls st must 10 p hd om fs 1 none seen none).step = mk code2 text ls st must 12 p p om (nbF 11 p om :: fs) 2 none (seen.add 7) none := rfl
theorem lit2_12y (h0 : p < text.size) (h : text.getD p 0 = 13) :
    (mk code2 text ls st must 12 p hd om fs wt none seen none).step = mk code2 text ls st must 14 (p + 1) hd om fs wt none (seen.add 16) none := by
  show (if p ≥ text.size then _ else match (Except.ok (text.getD p 0 == 13, seen.add 16) : Except String (Bool × Sre.Seen)) with | .error why => _ | .ok (false, seen) => _ | .ok (true, seen) => _) = _
  rw [if_neg (Nat.not_le.mpr h0), beq_iff_eq.mpr h]; rfl
theorem lit2_12n (h : p < text.size → text.getD p 0 ≠ 13) :
    (mk code2 text ls st must 12 p hd om fs wt none seen none).step = mk code2 text ls st must 12 p hd om fs wt (some false) (seen.add 16) none := by
  show (if p ≥ text.size then _ else match (Except.ok (text.getD p 0 == 13, seen.add 16) : Except String (Bool × Sre.Seen)) with | .error why => _ | .ok (false, seen) => _ | .ok (true, seen) => _) = _
  by_cases h0 : p ≥ text.size
  · rw [if_pos h0]; rfl
  · rw [if_neg h0, beq_eq_false_iff_ne.mpr (h (Nat.not_le.mp h0))]; rfl
theorem lit2_14y (h0 : p < text.size) (h : text.getD p 0 = 10) :
    (mk code2 text ls st must 14 p hd om fs wt none seen none).step = mk code2 text ls st must 16 (p + 1) hd om fs wt none (seen.add 16) none := by
  show (if p ≥ text.size then _ else match (Except.ok (text.getD p 0 == 10, seen.add 16) : Except String (Bool × Sre.Seen)) with | .error why => _ | .ok (false, seen) => _ | .ok (true, seen) => _) = _
  rw [if_neg (Nat.not_le.mpr h0), beq_iff_eq.mpr h]; rfl
theorem lit2_14n (h : p < text.size → text.getD p 0 ≠ 10) :
    (mk code2 text ls st must 14 p hd om fs wt none seen none).step = mk code2 text ls st must 14 p hd om fs wt (some false) (seen.add 16) none := by
  show (if p ≥ text.size then _ else match (Except.ok (text.getD p 0 == 10, seen.add 16) : Except String (Bool × Sre.Seen)) with | .error why => _ | .ok (false, seen) => _ | .ok (true, seen) => _) = _
  by_cases h0 : p ≥ text.size
  · rw [if_pos h0]; rfl
  · rw [if_neg h0, beq_eq_false_iff_ne.mpr (h (Nat.not_le.mp h0))]; rfl
theorem lit2_19y (h0 : p < text.size) (h : text.getD p 0 = 10) :
    (mk code2 text ls st must 19 p hd om fs wt none seen none).step = mk code2 text ls st must 21 (p + 1) hd om fs wt none (seen.add 16) none := by
  show (if p ≥ text.size then _ else match (Except.ok (text.getD p 0 == 10, seen.add 16) : Except String (Bool × Sre.Seen)) with | .error why => _ | .ok (false, seen) => _ | .ok (true, seen) => _) = _
  rw [if_neg (Nat.not_le.mpr h0), beq_iff_eq.mpr h]; rfl
theorem lit2_19n (h : p < text.size → text.getD p 0 ≠ 10) :
    (mk code2 text ls st must 19 p hd om fs wt none seen none).step = mk code2 text ls st must 19 p hd om fs wt (some false) (seen.add 16) none := by
  show (if p ≥ text.size then _ else match (Except.ok (text.getD p 0 == 10, seen.add 16) : Except String (Bool × Sre.Seen)) with | .error why => _ | .ok (false, seen) => _ | .ok (true, seen) => _) = _
  by_cases h0 : p ≥ text.size
  · rw [if_pos h0]; rfl
  · rw [if_neg h0, beq_eq_false_iff_ne.mpr (h (Nat.not_le.mp h0))]; rfl
theorem lit2_24y (h0 : p < text.size) (h : text.getD p 0 = 13) :
    (mk code2 text ls st must 24 p hd om fs wt none seen none).step = mk code2 text ls st must 26 (p + 1) hd om fs wt none (seen.add 16) none := by
  show (if p ≥ text.size then _ else match (Except.ok (text.getD p 0 == 13, seen.add 16) : Except String (Bool × Sre.Seen)) with | .error why => _ | .ok (false, seen) => _ | .ok (true, seen) => _) = _
  rw [if_neg (Nat.not_le.mpr h0), beq_iff_eq.mpr h]; rfl
theorem lit2_24n (h : p < text.size → text.getD p 0 ≠ 13) :
    (mk code2 text ls st must 24 p hd om fs wt none seen none).step = mk code2 text ls st must 24 p hd om fs wt (some false) (seen.add 16) none := by
  show (if p ≥ text.size then _ else match (Except.ok (text.getD p 0 == 13, seen.add 16) : Except String (Bool × Sre.Seen)) with | .error why => _ | .ok (false, seen) => _ | .ok (true, seen) => _) = _
  by_cases h0 : p ≥ text.size
  · rw [if_pos h0]; rfl
  · rw [if_neg h0, beq_eq_false_iff_ne.mpr (h (Nat.not_le.mp h0))]; rfl
theorem lit2_29y (h0 : p < text.size) (h : text.getD p 0 = 10) :
    (mk code2 text ls st must 29 p hd om fs wt none seen none).step = mk code2 text ls st must 31 (p + 1) hd om fs wt none (seen.add 16) none := by
  show (if p ≥ text.size then _ else match (Except.ok (text.getD p 0 == 10, seen.add 16) : Except String (Bool × Sre.Seen)) with | .error why => _ | .ok (false, seen) => _ | .ok (true, seen) => _) = _
  rw [if_neg (Nat.not_le.mpr h0), beq_iff_eq.mpr h]; rfl
theorem lit2_29n (h : p < text.size → text.getD p 0 ≠ 10) :
    (mk code2 text ls st must 29 p hd om fs wt none seen none).step = mk code2 text ls st must 29 p hd om fs wt (some false) (seen.add 16) none := by
  show (if p ≥ text.size then _ else match (Except.ok (text.getD p 0 == 10, seen.add 16) : Except String (Bool × Sre.Seen)) with | .error why => _ | .ok (false, seen) => _ | .ok (true, seen) => _) = _
  by_cases h0 : p ≥ text.size
  · rw [if_pos h0]; rfl
  · rw [if_neg h0, beq_eq_false_iff_ne.mpr (h (Nat.not_le.mp h0))]; rfl
theorem jump2_16 : (mk code2 text ls st must 16 p hd om fs wt none seen none).step = mk code2 text ls st must 35 p hd om fs wt none (seen.add 15) none := rfl
theorem jump2_21 : (mk code2 text ls st must 21 p hd om fs wt none seen none).step = mk code2 text ls st must 35 p hd om fs wt none (seen.add 15) none := rfl
theorem jump2_32 : (mk code2 text ls st must 32 p hd om fs wt none seen none).step = mk code2 text ls st must 35 p hd om fs wt none (seen.add 15) none := rfl
theorem nb2_11 {pc q : Nat} {om' : Bool} : (mk code2 text ls st must pc p hd om (nbF 11 q om' :: fs) 2 (some false) seen none).step = mk code2 text ls st must 19 q q om' (nbF 18 q om' :: fs) 2 none seen none := rfl
theorem nb2_18 {pc q : Nat} {om' : Bool} : (mk code2 text ls st must pc p hd om (nbF 18 q om' :: fs) 2 (some false) seen none).step = mk code2 text ls st must 24 q q om' (nbF 23 q om' :: fs) 2 none seen none := rfl
theorem nb2_yes {pc a q : Nat} {om' : Bool} : (mk code2 text ls st must pc p hd om (nbF a q om' :: fs) 2 (some true) seen none).step = mk code2 text ls st must a q hd om' fs 1 (some true) seen none := rfl
theorem an2 : (mk code2 text ls st must 26 p hd om fs 2 none seen none).step = mk code2 text ls st must 29 p p false (lnF p om :: fs) 3 none (seen.add 5) none := rfl
theorem ln2 {pc q : Nat} {om' : Bool} : (mk code2 text ls st must pc p hd om (lnF q om' :: fs) 3 (some false) seen none).step = mk code2 text ls st must 32 q hd om' fs 2 none seen none := rfl
theorem succ2 : (mk code2 text ls st false 35 p hd om fs wt none seen none).step = mk code2 text ls st false 35 p p om fs wt (some true) (seen.add 1) none := by
  show (if (om && ((false && p != text.size) || (false && p == st))) = true then _ else _) = _
  rw [show (om && ((false && p != text.size) || (false && p == st))) = false from by simp]; rfl

noncomputable abbrev at2 (text : Array Nat) (q : Nat) (first : Bool) (seen : Sre.Seen) : M := mk code2 text text.size q false 10 q q first [nsF 10 q first] 1 none seen none

/-- a return and a feed -/
theorem hit2_rn {q : Nat} (h0 : q + 1 < text.size) (h1 : text.getD q 0 = 13) (h2 : text.getD (q + 1) 0 = 10) : ∃ mf, Goes 8 (at2 text q first seen) mf ∧ (mf.outcome matches some .matched) = true ∧ mf.start = q ∧ mf.handed = q + 2 := by
  have g : Goes 8 (at2 text q first seen) (mk code2 text text.size q false 10 q (q + 2) first [] 0 (some true) (((((seen.add 7).add 16).add 16).add 15).add 1) (some .matched)) := by
    refine ⟨rfl, ?_⟩
    rw [br2]
    refine ⟨rfl, ?_⟩
    rw [lit2_12y (by omega) h1]
    refine ⟨rfl, ?_⟩
    rw [lit2_14y h0 h2]
    refine ⟨rfl, ?_⟩
    rw [jump2_16]
    refine ⟨rfl, ?_⟩
    rw [succ2]
    refine ⟨rfl, ?_⟩
    rw [nb2_yes]
    refine ⟨rfl, ?_⟩
    rw [top1]
    refine ⟨rfl, ?_⟩
    rw [end1]
    exact rfl
  exact ⟨_, g, rfl, rfl, rfl⟩
/-- a return alone -/
theorem hit2_r {q : Nat} (h0 : q < text.size) (h1 : text.getD q 0 = 13) (h2 : q + 1 < text.size → text.getD (q + 1) 0 ≠ 10) : ∃ mf, Goes 15 (at2 text q first seen) mf ∧ (mf.outcome matches some .matched) = true ∧ mf.start = q ∧ mf.handed = q + 1 := by
  have g : Goes 15 (at2 text q first seen) (mk code2 text text.size q false 10 q (q + 1) first [] 0 (some true) ((((((((((seen.add 7).add 16).add 16).add 16).add 16).add 5).add 16).add 15).add 1)) (some .matched)) := by
    refine ⟨rfl, ?_⟩
    rw [br2]
    refine ⟨rfl, ?_⟩
    rw [lit2_12y h0 h1]
    refine ⟨rfl, ?_⟩
    rw [lit2_14n h2]
    refine ⟨rfl, ?_⟩
    rw [nb2_11]
    refine ⟨rfl, ?_⟩
    rw [lit2_19n (fun _ e => by rw [h1] at e; exact absurd e (by decide))]
    refine ⟨rfl, ?_⟩
    rw [nb2_18]
    refine ⟨rfl, ?_⟩
    rw [lit2_24y h0 h1]
    refine ⟨rfl, ?_⟩
    rw [an2]
    refine ⟨rfl, ?_⟩
    rw [lit2_29n h2]
    refine ⟨rfl, ?_⟩
    rw [ln2]
    refine ⟨rfl, ?_⟩
    rw [jump2_32]
    refine ⟨rfl, ?_⟩
    rw [succ2]
    refine ⟨rfl, ?_⟩
    rw [nb2_yes]
    refine ⟨rfl, ?_⟩
    rw [top1]
    refine ⟨rfl, ?_⟩
    rw [end1]
    exact rfl
  exact ⟨_, g, rfl, rfl, rfl⟩
/-- a feed -/
theorem hit2_n {q : Nat} (h0 : q < text.size) (h1 : text.getD q 0 = 10) : ∃ mf, Goes 9 (at2 text q first seen) mf ∧ (mf.outcome matches some .matched) = true ∧ mf.start = q ∧ mf.handed = q + 1 := by
  have g : Goes 9 (at2 text q first seen) (mk code2 text text.size q false 10 q (q + 1) first [] 0 (some true) (((((seen.add 7).add 16).add 16).add 15).add 1) (some .matched)) := by
    refine ⟨rfl, ?_⟩
    rw [br2]
    refine ⟨rfl, ?_⟩
    rw [lit2_12n (fun _ e => by rw [h1] at e; exact absurd e (by decide))]
    refine ⟨rfl, ?_⟩
    rw [nb2_11]
    refine ⟨rfl, ?_⟩
    rw [lit2_19y h0 h1]
    refine ⟨rfl, ?_⟩
    rw [jump2_21]
    refine ⟨rfl, ?_⟩
    rw [succ2]
    refine ⟨rfl, ?_⟩
    rw [nb2_yes]
    refine ⟨rfl, ?_⟩
    rw [top1]
    refine ⟨rfl, ?_⟩
    rw [end1]
    exact rfl
  exact ⟨_, g, rfl, rfl, rfl⟩
end

noncomputable def isEnd (text : Array Nat) (p : Nat) : Prop := p < text.size ∧ (text.getD p 0 = 10 ∨ text.getD p 0 = 13)
noncomputable def width (text : Array Nat) (p : Nat) : Nat := if text.getD p 0 = 13 ∧ p + 1 < text.size ∧ text.getD (p + 1) 0 = 10 then 2 else 1
theorem hit2 {text : Array Nat} {q : Nat} {first : Bool} {seen : Sre.Seen} (h : isEnd text q) : ∃ k mf, k ≤ 16 ∧ Goes k (at2 text q first seen) mf ∧ (mf.outcome matches some .matched) = true ∧ mf.start = q ∧ mf.handed = q + width text q := by
  obtain ⟨h0, h | h⟩ := h
  · obtain ⟨mf, a, b, c, d⟩ := hit2_n (first := first) (seen := seen) h0 h
    refine ⟨9, mf, by decide, a, b, c, ?_⟩
    rw [d]; unfold width; rw [if_neg (by rw [h]; exact fun e => absurd e.1 (by decide))]
  · by_cases h2 : q + 1 < text.size ∧ text.getD (q + 1) 0 = 10
    · obtain ⟨mf, a, b, c, d⟩ := hit2_rn (first := first) (seen := seen) h2.1 h h2.2
      refine ⟨8, mf, by decide, a, b, c, ?_⟩
      rw [d]; unfold width; rw [if_pos ⟨h, h2⟩]
    · obtain ⟨mf, a, b, c, d⟩ := hit2_r (first := first) (seen := seen) h0 h (fun a b => h2 ⟨a, b⟩)
      refine ⟨15, mf, by decide, a, b, c, ?_⟩
      rw [d]; unfold width; rw [if_neg (fun e => h2 e.2)]

theorem inSet2 (c : Nat) (seen : Sre.Seen) : ∃ sn, Sre.inSet code2 c code2.size 5 true seen = .ok (c == 10 || c == 13, sn) := by
  by_cases h : c = 10
  · subst h; exact ⟨_, rfl⟩
  · by_cases h' : c = 13
    · subst h'; exact ⟨_, rfl⟩
    · have e1 : (c == 10) = false := beq_eq_false_iff_ne.mpr h
      have e2 : (c == 13) = false := beq_eq_false_iff_ne.mpr h'
      rw [e1, e2]
      refine ⟨((seen.add 16).add 16).add 0, ?_⟩
      show (if (c == 10) = true then _ else if (c == 13) = true then _ else _) = _
      rw [e1, e2]; rfl

theorem admitted2 {m : M} (hc : m.code = code2) (hl : m.lim = m.text.size) : ∀ (d s : Nat) (seen : Sre.Seen), s + d = m.text.size →
    (∃ r sn, s ≤ r ∧ isEnd m.text r ∧ (∀ j, s ≤ j → j < r → ¬ isEnd m.text j) ∧ M.admitted m (d + 1) s seen = .ok (some r, sn)) ∨
    ((∀ j, s ≤ j → ¬ isEnd m.text j) ∧ ∃ sn, M.admitted m (d + 1) s seen = .ok (none, sn))
  | d, s, seen, hd => by
    have e : M.admitted m (d + 1) s seen = if s ≥ m.lim then .ok (none, seen) else match Sre.inSet m.code (m.text.getD s 0) m.code.size 5 true seen with
        | .ok (true, seen) => .ok (some s, seen)
        | .ok (false, seen) => M.admitted m d (s + 1) seen
        | .error why => .error why := rfl
    by_cases hs : s ≥ m.text.size
    · rw [e, if_pos (by rw [hl]; exact hs)]
      exact .inr ⟨fun j a b => by have := b.1; omega, _, rfl⟩
    · rw [e, if_neg (by rw [hl]; exact hs), hc]
      obtain ⟨sn, q⟩ := inSet2 (m.text.getD s 0) seen
      rw [q]
      by_cases hE : m.text.getD s 0 = 10 ∨ m.text.getD s 0 = 13
      · have : (m.text.getD s 0 == 10 || m.text.getD s 0 == 13) = true := by rw [Bool.or_eq_true]; exact hE.imp (fun e => beq_iff_eq.mpr e) fun e => beq_iff_eq.mpr e
        rw [this]
        exact .inl ⟨s, sn, Nat.le_refl _, ⟨by omega, hE⟩, fun j a b => absurd a (by omega), rfl⟩
      · have : (m.text.getD s 0 == 10 || m.text.getD s 0 == 13) = false := by
          rw [Bool.or_eq_false_iff]; exact ⟨beq_eq_false_iff_ne.mpr fun e => hE (.inl e), beq_eq_false_iff_ne.mpr fun e => hE (.inr e)⟩
        rw [this]
        cases d with
        | zero => omega
        | succ d =>
          rcases admitted2 hc hl d (s + 1) sn (by omega) with ⟨r, sn', a, b, c, e⟩ | ⟨a, sn', e⟩
          · refine .inl ⟨r, sn', by omega, b, fun j h1 h2 => ?_, e⟩
            by_cases ej : j = s
            · rw [ej]; exact fun z => hE z.2
            · exact c j (by omega) h2
          · refine .inr ⟨fun j h1 => ?_, sn', e⟩
            by_cases ej : j = s
            · rw [ej]; exact fun z => hE z.2
            · exact a j (by omega)

noncomputable def Found2 (text : Array Nat) (q : Nat) (mf : M) : Prop :=
  (∃ r, q ≤ r ∧ isEnd text r ∧ (∀ j, q ≤ j → j < r → ¬ isEnd text j) ∧ (mf.outcome matches some .matched) = true ∧ mf.start = r ∧ mf.handed = r + width text r) ∨
  ((∀ j, q ≤ j → ¬ isEnd text j) ∧ (mf.outcome matches some .failed) = true)

theorem search2 {text : Array Nat} {p : Nat} (hp : p ≤ text.size) : ∃ k mf, k ≤ 16 ∧ Goes k (Sre.forSearch code2 text 0 p text.size false) mf ∧ Found2 text p mf := by
  by_cases h : p = text.size
  · subst h
    have e : ∃ st, Sre.forSearch code2 text 0 text.size text.size false = mk code2 text 0 st false 10 text.size text.size true [] 0 (some false) (({} : Sre.Seen).add 14) none := by
      refine ⟨text.size, ?_⟩
      show (if (decide (text.size > text.size) || decide (text.size - text.size < 1)) = true then _ else _) = _
      rw [if_pos (by simp)]
      exact rfl
    obtain ⟨st, e⟩ := e
    rw [e]
    exact ⟨1, _, by omega, ⟨rfl, end1⟩, .inr ⟨fun j a b => by have := b.1; omega, rfl⟩⟩
  · let m0 : M := mk code2 text text.size p false 10 p p true [] 0 none (({} : Sre.Seen).add 14) none
    have e : Sre.forSearch code2 text 0 p text.size false = match M.admitted m0 (m0.lim + 1 - p) p m0.seen with
        | .ok (some s, seen) => ({ m0 with mustAdvance := false, seen } : M).attemptAt s true
        | .ok (none, seen) => ({ m0 with seen } : M).say false
        | .error why => m0.stick why := by
      show (if (decide (p > text.size) || decide (text.size - p < 1)) = true then _ else _) = _
      rw [if_neg (by simp; omega)]
      exact rfl
    have hf : m0.lim + 1 - p = (text.size - p) + 1 := by show text.size + 1 - p = _; omega
    rw [e, hf]
    rcases admitted2 (m := m0) rfl rfl (text.size - p) p m0.seen (by show p + (text.size - p) = text.size; omega) with ⟨r, sn, a, b, c, q⟩ | ⟨a, sn, q⟩
    · rw [q]
      obtain ⟨k, mf, h1, h2, h3⟩ := hit2 (first := true) (seen := sn) b
      exact ⟨k, mf, h1, h2, .inl ⟨r, a, b, c, h3⟩⟩
    · rw [q]
      exact ⟨1, mk code2 text text.size p false 10 p p true [] 0 (some false) sn (some .failed), by omega, ⟨rfl, rfl⟩, .inr ⟨a, rfl⟩⟩
end Mine
end
section
open PySem PySem.W PyProof.Rows PySem.Calls
set_option maxRecDepth 100000
set_option maxHeartbeats 8000000
namespace Mine
open PySem.Builtin.Re
theorem plainAttrs_pat : PlainAttrs "re.Pattern" :=
  ⟨⟨"object.__getattribute__", by rw [typeLookup_type, builtinLookup_eq_fast]; kernel_rfl, PySem.F.canon_object_ga⟩, by rw [typeLookup_type, builtinLookup_eq_fast]; kernel_rfl⟩
theorem slot_sub : Slot "re.Pattern" "sub" "re.Pattern.sub" :=
  .of (owner := "re.Pattern") (n := "sub") (by rw [typeLookup_type, builtinLookup_eq_fast]; kernel_rfl) (by decide +kernel) (by decide +kernel) (by decide +kernel)
    (by first | exact .inl (by decide +kernel) | exact .inr (by decide +kernel)) (by rw [isSubtype_type]; kernel_rfl)
theorem type_sub : typeOf (.builtin "re.Pattern.sub") = pure (.type "method_descriptor") := by show builtinType _ = _; rw [builtinType_eq_fast]; kernel_rfl
theorem entry_sub : entryFor table "re.Pattern.sub" = some Builtin.«re.Pattern.sub» := entryFor_of_tree (by kernel_rfl)
theorem entry_subloop : entryFor table "re.Pattern.sub.loop" = some Builtin.«re.Pattern.sub.loop» := entryFor_of_tree (by kernel_rfl)
theorem plain_subloop : plainId "re.Pattern.sub.loop" = true := by decide +kernel
theorem plain_sub : plainId "re.Pattern.sub" = true := by decide +kernel
theorem noCall_str : typeLookup (.type "str") "__call__" = pure none := by rw [typeLookup_type, builtinLookup_eq_fast]; kernel_rfl
theorem owner_pat : Manifest.owners.lookup (String.ofList ['n', 'r', 'e', 't', 't', 'a', 'P', '.', 'e', 'r'].reverse) = some Manifest.sig_re_Pattern := by kernel_rfl
theorem args_sub (a b c : Value) : argsOk "re.Pattern.sub" ⟨[a, b, c], []⟩ := by
  unfold argsOk; rw [signature?_of (id := "re.Pattern.sub") (n := ['b', 'u', 's']) (o := ['n', 'r', 'e', 't', 't', 'a', 'P', '.', 'e', 'r']) (by kernel_rfl) owner_pat]; kernel_rfl
end Mine
end
section
open PySem PySem.W PyProof.Rows PySem.Calls
set_option maxRecDepth 100000
set_option maxHeartbeats 8000000
namespace Mine
open PySem.Builtin.Re
noncomputable def PatAt (h : Heap) (pa : Addr) (code : Array Nat) : Prop :=
  ∃ o ca oc a0 a1 a3 a4 its n, h.get? pa = some o ∧ o.cls = .type "re.Pattern" ∧ o.dict = none ∧ o.data = .fields #[a0, a1, .int 0 0, a3, a4, .ref ca, .int 0 0] ∧ h.get? ca = some oc ∧ oc.cls = .type "tuple" ∧ oc.data = .seq its n ∧ (its.map reRawOf).map Int.toNat = code
theorem PatAt.sameBut {h h' : Heap} {pa P : Addr} {code : Array Nat} {its : Array Value} {n : Nat} (x : PatAt h pa code) (hP : h.get? P = some { cls := .type "list", data := .seq its n }) (k : ∀ b o, b ≠ P → h.get? b = some o → h'.get? b = some o) : PatAt h' pa code := by
  obtain ⟨o, ca, oc, a0, a1, a3, a4, its, n, ho, hc, hd, hf, hoc, htc, hdc, e⟩ := x
  refine ⟨o, ca, oc, a0, a1, a3, a4, its, n, k _ _ (fun q => ?_) ho, hc, hd, hf, k _ _ (fun q => ?_) hoc, htc, hdc, e⟩
  · rw [q, hP] at ho; cases ho; injection hc with e; exact absurd e (by decide)
  · rw [q, hP] at hoc; cases hoc; injection htc with e; exact absurd e (by decide)
theorem PatAt.keeps {h h' : Heap} {pa : Addr} {code : Array Nat} (x : PatAt h pa code) (k : ∀ b o, h.get? b = some o → h'.get? b = some o) : PatAt h' pa code := by
  obtain ⟨o, ca, oc, a0, a1, a3, a4, its, n, ho, hc, hd, hf, hoc, htc, hdc, e⟩ := x
  exact ⟨o, ca, oc, a0, a1, a3, a4, its, n, k _ _ ho, hc, hd, hf, k _ _ hoc, htc, hdc, e⟩

theorem strsAre_snoc : ∀ {vs : List Value} {ys : List Str}, StrsAre vs ys → ∀ (x : Str) (t : Tok), StrsAre (vs ++ [.str x t]) (ys ++ [x])
  | _, _, .nil, x, t => .cons x t .nil
  | _, _, .cons y u r, x, t => .cons y u (strsAre_snoc r x t)
theorem strsAre_length : ∀ {vs : List Value} {ys : List Str}, StrsAre vs ys → vs.length = ys.length
  | _, _, .nil => rfl
  | _, _, .cons _ _ r => congrArg (· + 1) (strsAre_length r)
theorem join_S : ∀ ps : List (List Nat), Txt.join (S []) (ps.map S) = S ps.flatten := by
  intro ps
  have e : ∀ ps : List (List Nat), Str.join (S []) (ps.map S) = S ps.flatten := by
    intro ps
    induction ps with
    | nil => rfl
    | cons p r ih =>
      cases r with
      | nil => show S p = S (p ++ []); rw [List.append_nil]
      | cons q r =>
        show S p ++ S [] ++ Str.join (S []) ((q :: r).map S) = _
        rw [ih, S_append, S_append, List.append_nil]; rfl
  rw [← e]
  exact StrLaws.glued_eq_join _ _
theorem sum_S (ps : List (List Nat)) : ((ps.map S).map (·.length)).sum = ps.flatten.length := by
  induction ps with
  | nil => rfl
  | cons p r ih => rw [List.map_cons, List.map_cons, List.sum_cons, ih, List.flatten_cons, List.length_append, S_len]
theorem ext_S (l : List Nat) (a b : Nat) : (⟨l.toArray.extract a b⟩ : Str) = S ((l.drop a).take (b - a)) := by
  rw [List.extract_toArray]; rfl

section
variable {prog : Program} {w : World} {A : Around} {E : Value → Shared → Prop} {s : Shared} {pa : Addr} {code : Array Nat} {x : Str} {t : Tok}
theorem push_at {D : Addr} {vs : List Value} {n : Nat} {v : Value} {Q : Unit → Shared → Prop} (ho : s.heap.get? D = some { cls := .type "list", data := .seq vs.toArray n })
    (h : ∀ h', Heap.SameBut D s.heap h' → h'.get? D = some { cls := .type "list", data := .seq (vs ++ [v]).toArray (n + 1) } → Q () { s with heap := h' })
    (hsz : vs.length ≤ sizeLine) : wpAny (model prog w) A (updateSeq D (·.push v)) Q E s := by
  have hsz' : vs.toArray.size ≤ sizeLine := by rw [List.size_toArray]; exact hsz
  refine wpAny_updateSeq ho rfl (h _ (Heap.SameBut.update ..) ?_)
  rw [Heap.get?_update_self _ ho (by rw [mapSeq_push]; rfl), mapSeq_push, List.push_toArray]

noncomputable abbrev tgt (pa : Addr) (x : Str) (t : Tok) (code : Array Nat) : ReTarget := { pattern := .ref pa, string := .str x t, code := code, text := x.cps, kind := 0, groups := 0, pos := 0, lim := x.cps.size }
theorem whole_target {Q : ReTarget → Shared → Prop} (hp : PatAt s.heap pa code) (h : Q (tgt pa x t code) s) : wpAny (model prog w) A (reWholeTarget (.ref pa) (.str x t)) Q E s := by
  obtain ⟨o, ca, oc, a0, a1, a3, a4, its, n, ho, hc, hd, hf, hoc, htc, hdc, rfl⟩ := hp
  unfold reWholeTarget
  refine wpAny_bind (wpAny_fieldsOf ho hf ?_)
  refine wpAny_bind (m := reTextOf _) (wpAny_of_eq (a := (x.cps, 0)) rfl ?_)
  dsimp only
  show wpAny _ _ (reNoCollectionInside (.str x t) 0 >>= _) _ _ _
  refine wpAny_bind (wpAny_of_eq (a := ()) rfl ?_)
  refine wpAny_bind (wpAny_bind (wpAny_seqItems hoc hdc (wpAny_pure ?_)))
  exact wpAny_pure h

theorem sizeLine_of {n : Nat} (h : n ≤ 16777216) : n ≤ sizeLine := by rw [sizeLine_eq]; exact h

theorem subloop {l repl : List Nat} {tl tr : Tok} {out : Nat → List Nat} {R : Result → Shared → Prop} {P : Addr}
    (step : ∀ q, q ≤ l.length → ∃ k mf, k ≤ 2 ^ 60 ∧ Goes k (Sre.forSearch code l.toArray 0 q l.toArray.size false) mf ∧
      ((∃ a b, q ≤ a ∧ a < b ∧ b ≤ l.length ∧ (mf.outcome matches some .matched) = true ∧ mf.start = a ∧ mf.handed = b ∧ out q = (l.drop q).take (a - q) ++ repl ++ out b) ∨
       ((mf.outcome matches some .failed) = true ∧ out q = l.drop q)))
    (hl : l.length ≤ 100000) (hout : (out 0).length ≤ 1000000)
    (hR : ∀ t' h tk, (∀ b o, b ≠ P → s.heap.get? b = some o → h.get? b = some o) → R (.ok (.ret (.str (S (out 0)) t'))) { s with heap := h, toks := tk }) :
    ∀ (d q : Nat) (cnt : Int) (vs : List Value) (ps : List (List Nat)) (ep : Nat) (h : Heap) (tk : Nat), q + d = l.length →
      h.get? P = some { cls := .type "list", data := .seq vs.toArray ep } → StrsAre vs (ps.map S) → ps.flatten ++ out q = out 0 → vs.length ≤ 2 * q → PatAt h pa code → (∀ b o, b ≠ P → s.heap.get? b = some o → h.get? b = some o) →
      codeAny (model prog w) A (.builtin "re.Pattern.sub.loop" ⟨[.ref pa, .str (S l) tl, .str (S repl) tr, rawInt 0, rawInt 0, rawInt cnt, rawInt q, rawInt q, .bool false, .ref P, .bool false], []⟩) R { s with heap := h, toks := tk } := by
  intro d
  induction d using Nat.strongRecOn with
  | ind d ih =>
    intro q cnt vs ps ep h tk hd hP hvs hj hn hpat hk
    refine codeAny_builtin entry_subloop ?_
    rw [Around.under_plainId plain_subloop _]
    unfold Builtin.«re.Pattern.sub.loop»
    refine wpAny_bind (whole_target hpat ?_)
    show wpAny _ _ (reLiteralCannotBeTurned (.str (S repl) tr) >>= _) _ _ _
    refine wpAny_bind (wpAny_of_eq (a := ()) rfl ?_)
    show wpAny _ _ (reRunToEnd (Sre.forSearch code l.toArray 0 q l.toArray.size false) >>= _) _ _ _
    obtain ⟨k, mf, hk1, hg, hcase⟩ := step q (by omega)
    rcases hcase with ⟨a, b, h1, h2, h3, hm, hst, hha, hout'⟩ | ⟨hm, hout'⟩
    · refine wpAny_bind (run_end hg hk1 (.inl ⟨hm, ?_⟩))
      dsimp only
      have rest : ∀ (vs' : List Value) (ps' : List (List Nat)) (ep' : Nat) (h' : Heap) (tk' : Nat), h'.get? P = some { cls := .type "list", data := .seq vs'.toArray ep' } → StrsAre vs' (ps'.map S) →
          ps'.flatten = ps.flatten ++ (l.drop q).take (a - q) → vs'.length ≤ 2 * q + 1 → PatAt h' pa code → (∀ b o, b ≠ P → s.heap.get? b = some o → h'.get? b = some o) →
          wpAny (model prog w) A.in1 (do
            updateSeq P (·.push (.str (S repl) tr))
            again (.builtin "re.Pattern.sub.loop" ⟨[.ref pa, .str (S l) tl, .str (S repl) tr, rawInt 0, rawInt 0, rawInt (cnt + 1), rawInt mf.handed, rawInt mf.handed, .bool (mf.handed == mf.start), .ref P, .bool false], []⟩))
            (fun fin s' => match fin with | .done f => R (.ok f) s' | .again c' => c'.quiet = true ∧ codeAny (model prog w) A c' R s') (fun e s' => R (.error e) s') { s with heap := h', toks := tk' } := by
        intro vs' ps' ep' h' tk' hP' hvs' hj' hn' hpat' hk'
        refine wpAny_bind (push_at hP' (fun h2' hsb hP2 => ?_) (sizeLine_of (by omega)))
        have hmust : (mf.handed == mf.start) = false := by rw [hst, hha]; exact beq_eq_false_iff_ne.mpr (by omega)
        rw [hmust, hha]
        refine wpAny_pure ⟨plainId_quiet plain_subloop _, ?_⟩
        refine ih (l.length - b) (by omega) b (cnt + 1) (vs' ++ [.str (S repl) tr]) (ps' ++ [repl]) (ep' + 1) h2' tk' (by omega) hP2 ?_ ?_ ?_ ?_ ?_
        · rw [List.map_append]; exact strsAre_snoc hvs' _ _
        · rw [← hj, hout', List.flatten_append, hj']; simp
        · rw [List.length_append, List.length_singleton]; omega
        · exact hpat'.sameBut hP' fun b o hb e => (hsb.2 b hb).trans e
        · exact fun b o hb e => (hsb.2 b hb).trans (hk' b o hb e)
      by_cases hqa : q < a
      · rw [if_pos (by show (q : Int).toNat < mf.start; rw [hst]; simpa using hqa)]
        show wpAny _ _ (reSlice l.toArray 0 (q : Int).toNat mf.start >>= _) _ _ _
        rw [hst, Int.toNat_natCast]
        show wpAny _ _ (mkStr ⟨l.toArray.extract q a⟩ >>= _) _ _ _
        rw [ext_S]
        refine wpAny_bind (wpAny_mkStr ?_ (sizeLine_of (by rw [S_len, List.length_take, List.length_drop]; omega)))
        refine wpAny_bind (push_at hP (fun h2' hsb hP2 => ?_) (sizeLine_of (by omega)))
        rw [← hst]
        refine rest (vs ++ [.str (S ((l.drop q).take (a - q))) tk]) (ps ++ [(l.drop q).take (a - q)]) (ep + 1) h2' _ hP2 ?_ ?_ ?_ ?_ ?_
        · rw [List.map_append]; exact strsAre_snoc hvs _ _
        · rw [List.flatten_append]; simp
        · rw [List.length_append, List.length_singleton]; omega
        · exact hpat.sameBut hP fun b o hb e => (hsb.2 b hb).trans e
        · exact fun b o hb e => (hsb.2 b hb).trans (hk b o hb e)
      · rw [if_neg (by show ¬ (q : Int).toNat < mf.start; rw [hst]; simpa using hqa)]
        have ea : a - q = 0 := by omega
        exact rest vs ps ep h tk hP hvs (by rw [ea]; simp) (by omega) hpat hk
    · refine wpAny_bind (run_end hg hk1 (.inr ⟨hm, ?_⟩))
      dsimp only
      have rest : ∀ (vs' : List Value) (ps' : List (List Nat)) (ep' : Nat) (h' : Heap) (tk' : Nat), h'.get? P = some { cls := .type "list", data := .seq vs'.toArray ep' } → StrsAre vs' (ps'.map S) →
          ps'.flatten = out 0 → (∀ b o, b ≠ P → s.heap.get? b = some o → h'.get? b = some o) →
          wpAny (model prog w) A.in1 (do
            let joiner ← reSlice l.toArray 0 0 0
            let text ← if ((← seqItems? (.ref P)).getD #[]).isEmpty then pure joiner else call (.builtin "str.join") [joiner, .ref P]
            ret text)
            (fun fin s' => match fin with | .done f => R (.ok f) s' | .again c' => c'.quiet = true ∧ codeAny (model prog w) A c' R s') (fun e s' => R (.error e) s') { s with heap := h', toks := tk' } := by
        intro vs' ps' ep' h' tk' hP' hvs' hj' hk'
        show wpAny _ _ (mkStr ⟨l.toArray.extract 0 0⟩ >>= _) _ _ _
        rw [show (⟨l.toArray.extract 0 0⟩ : Str) = S [] from by rw [ext_S]; simp]
        refine wpAny_bind (wpAny_mkStr ?_ (sizeLine_of (by rw [S_len]; simp)))
        refine wpAny_bind (wpAny_seqItems hP' rfl ?_)
        dsimp only [Option.getD_some]
        by_cases he : vs'.toArray.isEmpty = true
        · rw [if_pos he]
          have e0 : vs' = [] := by simpa using he
          subst e0
          have e1 : ps' = [] := by
            have := strsAre_length hvs'
            cases ps' with
            | nil => rfl
            | cons _ _ => simp at this
          subst e1
          refine wpAny_pure ?_
          show R (.ok (.ret (.str (S []) tk'))) _
          have e2 : S [] = S (out 0) := by rw [← hj']; rfl
          rw [e2]
          exact hR tk' h' _ hk'
        · rw [if_neg he]
          refine wpAny_bind (join_list (ys := ps'.map S) ⟨_, hP', rfl, ep', rfl⟩ hvs' ?_ fun t' k => ?_)
          · rw [sum_S, hj', S_len]; simp; omega
          · rw [join_S, hj']
            exact wpAny_pure (hR t' h' _ hk')
      by_cases hqa : q < l.length
      · rw [if_pos (by show (q : Int).toNat < (S l).cps.size; rw [S_size]; simpa using hqa)]
        show wpAny _ _ (reSlice l.toArray 0 (q : Int).toNat (S l).cps.size >>= _) _ _ _
        rw [S_size, Int.toNat_natCast]
        show wpAny _ _ (mkStr ⟨l.toArray.extract q l.length⟩ >>= _) _ _ _
        rw [ext_S]
        refine wpAny_bind (wpAny_mkStr ?_ (sizeLine_of (by rw [S_len, List.length_take, List.length_drop]; omega)))
        refine wpAny_bind (push_at hP (fun h2' hsb hP2 => ?_) (sizeLine_of (by omega)))
        refine rest (vs ++ [.str (S ((l.drop q).take (l.length - q))) tk]) (ps ++ [(l.drop q).take (l.length - q)]) (ep + 1) h2' _ hP2 ?_ ?_ ?_
        · rw [List.map_append]; exact strsAre_snoc hvs _ _
        · rw [← hj, hout', List.flatten_append, List.take_of_length_le (by rw [List.length_drop]; omega)]; simp
        · exact fun b o hb e => (hsb.2 b hb).trans (hk b o hb e)
      · rw [if_neg (by show ¬ (q : Int).toNat < (S l).cps.size; rw [S_size]; simpa using hqa)]
        refine rest vs ps ep h tk hP hvs ?_ hk
        rw [← hj, hout', List.drop_of_length_le (by omega), List.append_nil]

theorem named_sub (a b : Value) : reNamed "re.Pattern.sub" "sub" ["repl", "string", "count"] 2 [a, b] [] = pure [some a, some b, none] := rfl

theorem call_sub {l repl : List Nat} {tl tr : Tok} {out : Nat → List Nat} {Q : Value → Shared → Prop}
    (hp : PatAt s.heap pa code) (hlit : (!(S repl).cps.contains 92) = true)
    (step : ∀ q, q ≤ l.length → ∃ k mf, k ≤ 2 ^ 60 ∧ Goes k (Sre.forSearch code l.toArray 0 q l.toArray.size false) mf ∧
      ((∃ a b, q ≤ a ∧ a < b ∧ b ≤ l.length ∧ (mf.outcome matches some .matched) = true ∧ mf.start = a ∧ mf.handed = b ∧ out q = (l.drop q).take (a - q) ++ repl ++ out b) ∨
       ((mf.outcome matches some .failed) = true ∧ out q = l.drop q)))
    (hl : l.length ≤ 100000) (hout : (out 0).length ≤ 1000000)
    (hq : ∀ t' h tk, (∀ b o, s.heap.get? b = some o → h.get? b = some o) → Q (.str (S (out 0)) t') { s with heap := h, toks := tk }) :
    wpAny (model prog w) A (call (.builtin "re.Pattern.sub") [.ref pa, .str (S repl) tr, .str (S l) tl]) Q E s := by
  have hT : s.TypeIs (.ref pa) "re.Pattern" := by
    obtain ⟨o, ca, oc, a0, a1, a3, a4, its, n, ho, hc, _⟩ := hp
    exact ⟨o, ho, hc⟩
  refine wpAny_call (codeAny_call_builtin slot_sub.plain entry_sub (slot_sub.check _ _ _ _ _ _ _ _ hT (args_sub _ _ _) ?_))
  unfold Builtin.«re.Pattern.sub» reSubstitute
  dsimp only
  refine wpAny_bind (wpAny_of_eq (named_sub _ _) ?_)
  dsimp only
  refine wpAny_bind (wpAny_pure ?_)
  refine wpAny_bind (m := specialOf _ _) (wpAny_specialOf (typeIs_str _ _ _) noCall_str ?_)
  dsimp only [Option.isSome_none]
  rw [if_neg Bool.false_ne_true]
  refine wpAny_bind (m := asStr? _) (wpAny_of_eq (a := some (S repl)) rfl ?_)
  dsimp only
  refine wpAny_bind (wpAny_pure ?_)
  rw [if_neg Bool.false_ne_true, if_pos hlit]
  refine wpAny_bind (wpAny_pure ?_)
  refine wpAny_bind (wpAny_holding (whole_target hp ?_))
  dsimp only
  rw [if_neg (by decide)]
  refine wpAny_bind (wpAny_newList ?_)
  refine wpAny_pure ⟨plainId_quiet plain_subloop _, ?_⟩
  have hP : (s.heap.push { cls := .type "list", data := .seq ([] : List Value).toArray }).get? s.heap.objs.size = some { cls := .type "list", data := .seq ([] : List Value).toArray } := Heap.get?_push_size _ rfl
  have old : ∀ b o, s.heap.get? b = some o → (s.heap.push { cls := .type "list", data := .seq ([] : List Value).toArray }).get? b = some o := fun b o e => Heap.get?_push_of_some _ e
  refine subloop (s := { s with heap := s.heap.push { cls := .type "list", data := .seq ([] : List Value).toArray } }) (P := s.heap.objs.size) step hl hout (fun t' h tk hk => ?_) l.length 0 0 [] [] 0 _ s.toks (Nat.zero_add _) hP .nil rfl (Nat.zero_le _) (hp.keeps old) (fun _ _ _ e => e)
  exact hq t' h tk fun b o e => hk b o (Nat.ne_of_lt (Heap.lt_size e)) (old b o e)
end
end Mine
end
section
open PySem PySem.W PyProof.Rows PySem.Calls
set_option maxRecDepth 100000
set_option maxHeartbeats 8000000
namespace Mine
noncomputable def crlfB : Bool → List Nat → List Nat
  | _, [] => []
  | b, c :: r => if c = 13 then 13 :: 10 :: crlfB true r else if c = 10 then (if b then crlfB false r else 13 :: 10 :: crlfB false r) else c :: crlfB false r
noncomputable def dots : Bool → List Nat → List Nat
  | _, [] => []
  | b, c :: r => if b = true ∧ c = 46 then 46 :: 46 :: dots false r else c :: dots (c == 10) r
noncomputable def quoteL (l : List Nat) : List Nat := dots true (crlfB false l)

theorem getD_arr (l : List Nat) (p : Nat) : l.toArray.getD p 0 = l.getD p 0 := by
  rw [Array.getD_eq_getD_getElem?, List.getElem?_toArray, List.getD_eq_getElem?_getD]
theorem drop_cons {l : List Nat} {q : Nat} (h : q < l.length) : l.drop q = l.getD q 0 :: l.drop (q + 1) := by
  rw [List.drop_eq_getElem_cons h]; congr 1; simp [List.getD, h]
theorem take_drop_succ {l : List Nat} {q a : Nat} (h : q < l.length) (h2 : q < a) : (l.drop q).take (a - q) = l.getD q 0 :: (l.drop (q + 1)).take (a - (q + 1)) := by
  rw [drop_cons h, show a - q = (a - (q + 1)) + 1 from by omega, List.take_succ_cons]

theorem crlf_skip {l : List Nat} {a : Nat} (ha : a ≤ l.length) : ∀ (d q : Nat), q + d = a → (∀ j, q ≤ j → j < a → ¬ isEnd l.toArray j) →
    crlfB false (l.drop q) = (l.drop q).take (a - q) ++ crlfB false (l.drop a)
  | 0, q, h, _ => by
    have : q = a := by omega
    subst this; simp
  | d + 1, q, h, hn => by
    have hq : q < l.length := by omega
    have ih := crlf_skip ha d (q + 1) (by omega) fun j h1 h2 => hn j (by omega) h2
    have h0 := hn q (Nat.le_refl _) (by omega)
    rw [take_drop_succ hq (by omega)]
    conv => lhs; rw [drop_cons hq]
    have hne : ¬ l.getD q 0 = 13 ∧ ¬ l.getD q 0 = 10 := by
      unfold isEnd at h0
      rw [getD_arr, List.size_toArray] at h0
      exact ⟨fun e => h0 ⟨hq, .inr e⟩, fun e => h0 ⟨hq, .inl e⟩⟩
    rw [crlfB, if_neg hne.1, if_neg hne.2, ih]; rfl
theorem crlf_none {l : List Nat} : ∀ (d q : Nat), q + d = l.length → (∀ j, q ≤ j → ¬ isEnd l.toArray j) → crlfB false (l.drop q) = l.drop q := fun d q h hn => by
  have := crlf_skip (l := l) (a := l.length) (Nat.le_refl _) d q h fun j h1 _ => hn j h1
  rw [this, List.drop_length, List.take_of_length_le (by rw [List.length_drop]; omega), crlfB, List.append_nil]
theorem crlf_true {l : List Nat} (h : l.headD 0 ≠ 10) : crlfB true l = crlfB false l := by
  cases l with
  | nil => rfl
  | cons c r =>
    have h' : ¬ c = 10 := h
    rw [crlfB, crlfB, if_neg h', if_neg h']
theorem crlf_hit {l : List Nat} {q : Nat} (h : isEnd l.toArray q) : crlfB false (l.drop q) = [13, 10] ++ crlfB false (l.drop (q + width l.toArray q)) := by
  obtain ⟨h0, h1⟩ := h
  rw [List.size_toArray] at h0
  rw [getD_arr] at h1
  unfold width
  simp only [getD_arr, List.size_toArray]
  rw [drop_cons h0]
  by_cases h13 : l.getD q 0 = 13
  · rw [crlfB, if_pos h13]
    by_cases h2 : q + 1 < l.length ∧ l.getD (q + 1) 0 = 10
    · rw [if_pos ⟨h13, h2⟩, drop_cons h2.1, h2.2]; rfl
    · rw [if_neg fun e => h2 e.2]
      have : (l.drop (q + 1)).headD 0 ≠ 10 := by
        by_cases h3 : q + 1 < l.length
        · rw [drop_cons h3]; exact fun e => h2 ⟨h3, e⟩
        · rw [List.drop_of_length_le (by omega)]; decide
      rw [crlf_true this]; rfl
  · have h10 : l.getD q 0 = 10 := h1.resolve_right h13
    rw [crlfB, if_neg h13, if_pos h10, if_neg Bool.false_ne_true, if_neg (fun e => h13 e.1)]; rfl

theorem step2 (l : List Nat) (hl : l.length ≤ 100000) : ∀ q, q ≤ l.length → ∃ k mf, k ≤ 2 ^ 60 ∧ Goes k (Sre.forSearch code2 l.toArray 0 q l.toArray.size false) mf ∧
      ((∃ a b, q ≤ a ∧ a < b ∧ b ≤ l.length ∧ (mf.outcome matches some .matched) = true ∧ mf.start = a ∧ mf.handed = b ∧ crlfB false (l.drop q) = (l.drop q).take (a - q) ++ [13, 10] ++ crlfB false (l.drop b)) ∨
       ((mf.outcome matches some .failed) = true ∧ crlfB false (l.drop q) = l.drop q)) := fun q hq => by
  obtain ⟨k, mf, h1, h2, h3⟩ := search2 (text := l.toArray) (p := q) (by simpa using hq)
  refine ⟨k, mf, by omega, h2, ?_⟩
  rcases h3 with ⟨r, a, b, c, d, e, f⟩ | ⟨a, b⟩
  · have hr : r < l.length := by have := b.1; simpa using this
    have hw : 1 ≤ width l.toArray r ∧ r + width l.toArray r ≤ l.length := by
      unfold width
      split
      · rename_i z; have := z.2.1; rw [List.size_toArray] at this; omega
      · omega
    refine .inl ⟨r, r + width l.toArray r, a, by omega, hw.2, d, e, f, ?_⟩
    rw [crlf_skip (by omega) (r - q) q (by omega) c, crlf_hit b, List.append_assoc]
  · exact .inr ⟨b, crlf_none (l.length - q) q (by omega) a⟩

noncomputable def flagAt (l : List Nat) (q : Nat) : Bool := q == 0 || l.getD (q - 1) 0 == 10
theorem dot_iff {l : List Nat} {q : Nat} (h : q < l.length) : isDotAt l.toArray q ↔ flagAt l q = true ∧ l.getD q 0 = 46 := by
  unfold isDotAt flagAt
  rw [getD_arr, getD_arr, List.size_toArray, Bool.or_eq_true, beq_iff_eq, beq_iff_eq]
  exact ⟨fun x => ⟨x.1, x.2.2⟩, fun x => ⟨x.1, h, x.2⟩⟩
theorem flag_succ (l : List Nat) (q : Nat) : flagAt l (q + 1) = (l.getD q 0 == 10) := by simp [flagAt]
theorem dots_skip {l : List Nat} {a : Nat} (ha : a ≤ l.length) : ∀ (d q : Nat), q + d = a → (∀ j, q ≤ j → j < a → ¬ isDotAt l.toArray j) →
    dots (flagAt l q) (l.drop q) = (l.drop q).take (a - q) ++ dots (flagAt l a) (l.drop a)
  | 0, q, h, _ => by
    have : q = a := by omega
    subst this; simp
  | d + 1, q, h, hn => by
    have hq : q < l.length := by omega
    have ih := dots_skip ha d (q + 1) (by omega) fun j h1 h2 => hn j (by omega) h2
    have h0 := hn q (Nat.le_refl _) (by omega)
    rw [dot_iff hq] at h0
    rw [take_drop_succ hq (by omega)]
    conv => lhs; rw [drop_cons hq]
    rw [dots, if_neg h0, ← flag_succ, ih]; rfl
theorem dots_none {l : List Nat} (q : Nat) (hq : q ≤ l.length) (hn : ∀ j, q ≤ j → ¬ isDotAt l.toArray j) : dots (flagAt l q) (l.drop q) = l.drop q := by
  have := dots_skip (l := l) (a := l.length) (Nat.le_refl _) (l.length - q) q (by omega) fun j h1 _ => hn j h1
  rw [this, List.drop_length, List.take_of_length_le (by rw [List.length_drop]; omega)]
  simp [dots]
theorem dots_hit {l : List Nat} {q : Nat} (h : isDotAt l.toArray q) : dots (flagAt l q) (l.drop q) = [46, 46] ++ dots (flagAt l (q + 1)) (l.drop (q + 1)) := by
  have hq : q < l.length := by have := h.2.1; simpa using this
  have h0 := (dot_iff hq).mp h
  rw [drop_cons hq, dots, if_pos h0, flag_succ, h0.2]; rfl
theorem step1 (l : List Nat) (hl : l.length ≤ 100000) : ∀ q, q ≤ l.length → ∃ k mf, k ≤ 2 ^ 60 ∧ Goes k (Sre.forSearch code1 l.toArray 0 q l.toArray.size false) mf ∧
      ((∃ a b, q ≤ a ∧ a < b ∧ b ≤ l.length ∧ (mf.outcome matches some .matched) = true ∧ mf.start = a ∧ mf.handed = b ∧ dots (flagAt l q) (l.drop q) = (l.drop q).take (a - q) ++ [46, 46] ++ dots (flagAt l b) (l.drop b)) ∨
       ((mf.outcome matches some .failed) = true ∧ dots (flagAt l q) (l.drop q) = l.drop q)) := fun q hq => by
  obtain ⟨k, mf, h1, h2, h3⟩ := search1 (text := l.toArray) (p := q) (by simpa using hq)
  rw [List.size_toArray] at h1
  refine ⟨k, mf, by omega, h2, ?_⟩
  rcases h3 with ⟨r, a, b, c, d, e, f⟩ | ⟨a, b⟩
  · have hr : r < l.length := by have := b.2.1; simpa using this
    refine .inl ⟨r, r + 1, a, by omega, hr, d, e, f, ?_⟩
    rw [dots_skip (by omega) (r - q) q (by omega) c, dots_hit b, List.append_assoc]
  · exact .inr ⟨b, dots_none q hq a⟩
theorem crlf_length : ∀ (b : Bool) (l : List Nat), (crlfB b l).length ≤ 2 * l.length
  | _, [] => Nat.le_refl _
  | b, c :: r => by
    have h1 := crlf_length true r
    have h2 := crlf_length false r
    rw [crlfB]
    split
    · simp only [List.length_cons]; omega
    · split
      · split
        · simp only [List.length_cons]; omega
        · simp only [List.length_cons]; omega
      · simp only [List.length_cons]; omega
theorem dots_length : ∀ (b : Bool) (l : List Nat), (dots b l).length ≤ 2 * l.length
  | _, [] => Nat.le_refl _
  | b, c :: r => by
    have h1 := dots_length (c == 10) r
    have h2 := dots_length false r
    rw [dots]
    split <;> (simp only [List.length_cons]; omega)
end Mine
end
theorem Mine.forgetQuote2 : True := by
  w_top off
  have h : True ∧ True := by
    try walk1
    all_goals (first | trivial | exact ⟨trivial, trivial⟩)
  exact h.1
section
open PySem PySem.W PyProof.Rows PySem.Calls
set_option maxRecDepth 100000
set_option maxHeartbeats 8000000
namespace Mine
theorem pat1 {P : Params} {h : Heap} (X : (hd.heap_39 P).In h) : PatAt h 36 code1 :=
  ⟨_, 35, _, _, _, _, _, _, _, X 36 _ rfl, rfl, rfl, rfl, X 35 _ rfl, rfl, rfl, by decide +kernel⟩
theorem pat2 {P : Params} {h : Heap} (X : (hd.heap_39 P).In h) : PatAt h 41 code2 :=
  ⟨_, 40, _, _, _, _, _, _, _, X 41 _ rfl, rfl, rfl, rfl, X 40 _ rfl, rfl, rfl, by decide +kernel⟩
section
variable {prog : Program} {w : World} {A : Around} {E : Value → Shared → Prop} {Q : Value → Shared → Prop} {s : Shared} {mean : ExcName → Option Value} {mg mb : Str → Option Value} {l : List Nat} {t : Tok}
theorem getMethod_sub {pa : Addr} {code : Array Nat} {pl : Sem Bool} {Q : Value × List Value → Shared → Prop} (hp : PatAt s.heap pa code) (h : Q (.builtin "re.Pattern.sub", [.ref pa]) s) : wpAny (model prog w) A (getMethod (.ref pa) "sub" pl) Q E s := by
  obtain ⟨o, ca, oc, a0, a1, a3, a4, its, n, ho, hc, hd, _⟩ := hp
  exact getMethod_builtin ⟨o, ho, hc⟩ plainAttrs_pat slot_sub type_sub (fun a e => by cases e; exact ⟨o, ho, hd⟩) h
theorem sub1_call {x : Str} {tr tl : Tok} (X : (hd.heap_39 w.params).In s.heap) (hx : x = S l) (hl : l.length ≤ 100000)
    (hq : ∀ t' h tk, (∀ b o, s.heap.get? b = some o → h.get? b = some o) → Q (.str (S (dots true l)) t') { s with heap := h, toks := tk }) :
    wpAny (model prog w) A (call (.builtin "re.Pattern.sub") [.ref 36, .str (Str.ofString "..") tr, .str x tl]) Q E s := by
  subst hx
  rw [show Str.ofString ".." = S [46, 46] from by decide +kernel]
  exact call_sub (out := fun q => dots (flagAt l q) (l.drop q)) (pat1 X) (by decide +kernel) (step1 l hl) hl (by have := dots_length true l; show (dots true l).length ≤ _; omega) hq
theorem sub2_call {tr tl : Tok} (X : (hd.heap_39 w.params).In s.heap) (hl : l.length ≤ 50000)
    (hq : ∀ t' h tk, (∀ b o, s.heap.get? b = some o → h.get? b = some o) → Q (.str (S (crlfB false l)) t') { s with heap := h, toks := tk }) :
    wpAny (model prog w) A (call (.builtin "re.Pattern.sub") [.ref 41, .str (Str.ofString "\x0d\n") tr, .str (S l) tl]) Q E s := by
  rw [show Str.ofString "\x0d\n" = S [13, 10] from by decide +kernel]
  exact call_sub (out := fun q => crlfB false (l.drop q)) (pat2 X) (by decide +kernel) (step2 l (by omega)) (by omega) (by have := crlf_length false l; show (crlfB false l).length ≤ _; omega) hq

local macro_rules | `(tactic| walk_at "getMethod ref") => `(tactic| first | (refine getMethod_sub (pat1 (by k_in)) ?_; try dsimp only) | (refine getMethod_sub (pat2 (by k_in)) ?_; try dsimp only))

theorem quote_call (X : (hd.heap_39 w.params).In s.heap) (T : Top hd.view_39 VL mean mg mb s.heap)
   (hh : A.handled = none) (hroom : A.depth < recursionLimit) (hx : l.length ≤ 50000) (ht : 0 < s.toks)
   (ret : RetS s Q (quoteL l)) : wpAny (model prog w) A (call (.ref 48) [.str (S l) t]) Q E s := by
  refine wpAny_with_toks (n := 1) ht ?_
  k_dflt (refine' enterM [(Str.ofString "data", .str (S l) t)] X T.nolimit ?k3 ?k4 hroom ?k6 ?k7 ?c5 ?_ ?c2 ?c3 ?c4; (case k3 => k_is); (case k4 => k_is); (case k6 => exact rfl); (case c5 => decide); (case k7 => exact locs rfl); (case c2 => exact rfl); (case c3 => exact rfl); (case c4 => exact rfl); k_whole)
  intro h₁ L tk F N htk
  try dsimp only
  k_steps
  refine sub2_call (by k_in) hx fun t2 h2 tk2 hk2 => ?_
  have F2 := F.keeps hk2
  have N2 : News s.heap L h2 [] := News.nil
  clear F N
  (try dsimp only)
  k_steps
  have e1 := crlf_length false l
  refine sub1_call (by k_in) rfl (by omega) fun t3 h3 tk3 hk3 => ?_
  (try dsimp only)
  intro hp
  exact ret t3 h3 tk3 (F2.keeps hk3).keep hp
end
end Mine
end
section
open PySem PySem.W PyProof.Rows PySem.Calls
set_option maxRecDepth 100000
set_option maxHeartbeats 8000000
namespace Mine
section
variable {prog : Program} {w : World} {A : Around} {R : GenEnd} {Y : Protocol} {n : Nat} {s₀ : Shared} {fs : List Frame} {s : Shared} {env : Env}

noncomputable abbrev forK (target : Expr) (it : Value) (body orelse : List Stmt) (env : Env) : Flow → Sem PySem.Fin := fun f => match f with
  | .next | .cont => .pure (.again (.forLoop target it body orelse env))
  | .brk => .pure (.done .next)
  | .ret v => .pure (.done (.ret v))
noncomputable abbrev forH (env : Env) : Value → Sem PySem.Fin := fun e => (do noteFrame e env; theTreesLotGoes e : Sem Unit).wrap (fun _ => .raise e) .raise id id

theorem seg_forLoop {target : Expr} {it : Value} {body orelse : List Stmt}
    (h : wpAny (model prog w) (A.over (.forLoop target it body orelse env) fs) (pyNext it) (fun r s₁ => match r with
      | none => Seg (model prog w) A R Y n s₀ (.block orelse env) ((model prog w).den (.block orelse env)) fs s₁
      | some v => wpAny (model prog w) (A.over (.forLoop target it body orelse env) fs) (letOwnedTupleGo target it v) (fun _ s₂ => wpAny (model prog w) (A.over (.forLoop target it body orelse env) fs) (assign target env v) (fun _ s₃ =>
          Seg (model prog w) A R Y n s₀ (.forLoop target it body orelse env) ((execs body env).wrap (forK target it body orelse env) (forH env) id id) fs s₃) (fun _ _ => False) s₂) (fun _ _ => False) s₁) (fun _ _ => False) s) :
    Seg (model prog w) A R Y n s₀ (.forLoop target it body orelse env) ((model prog w).den (.forLoop target it body orelse env)) fs s := by
  show Seg _ A R Y n s₀ _ ((forTurn target it body orelse env).onRaise (fun x => do noteFrame x env; theTreesLotGoes x)) fs s
  unfold forTurn
  rw [Sem.onRaise_eq_wrap, Sem.bind_eq_wrap', Sem.wrap_wrap]
  refine seg_wrap (wpAny_standAt ?_)
  rw [Sem.bind_eq_wrap', Sem.wrap_wrap]
  refine seg_wrap (wpAny_onRaise (wpAny_mono h (fun r s₁ h₁ => ?_) fun _ _ z => z.elim))
  cases r with
  | none => exact seg_again rfl h₁
  | some v =>
    dsimp only
    rw [Sem.bind_eq_wrap', Sem.wrap_wrap]
    refine seg_wrap (wpAny_mono h₁ (fun _ s₂ h₂ => ?_) fun _ _ z => z.elim)
    rw [Sem.bind_eq_wrap', Sem.wrap_wrap]
    refine seg_wrap (wpAny_mono h₂ (fun _ s₃ h₃ => ?_) fun _ _ z => z.elim)
    rw [Sem.bind_eq_wrap', Sem.wrap_wrap]
    rw [Sem.wrap_congr (execs body env) _ _ (K' := forK target it body orelse env) (H' := forH env) (fun f => by cases f <;> rfl) (fun e => by show (do noteFrame e env; theTreesLotGoes e : Sem Unit).bind (fun _ => .raise e) = _; rw [Sem.bind_eq_wrap])]
    exact h₃

theorem seg_If {test : Expr} {body orelse : List Stmt} {pos : Pos} {c : Code} {K : Flow → Sem PySem.Fin} {H : Value → Sem PySem.Fin} {gd : Bool → Bool} {lv : List Value → List Value}
    (h : wpAny (model prog w) (A.over c fs) (isTrue test env (eval test env)) (fun b s₁ => if b = true then Seg (model prog w) A R Y n s₀ c ((execs body env).wrap K H gd lv) fs s₁ else Seg (model prog w) A R Y n s₀ c ((execs orelse env).wrap K H gd lv) fs s₁) (fun _ _ => False) s) :
    Seg (model prog w) A R Y n s₀ c ((exec (.If test body orelse pos) env).wrap K H gd lv) fs s := by
  rw [exec_If, Sem.bind_eq_wrap', Sem.wrap_wrap]
  refine seg_wrap (wpAny_standAt ?_)
  rw [Sem.bind_eq_wrap', Sem.wrap_wrap]
  refine seg_wrap (wpAny_mono h (fun b s₁ h₁ => ?_) fun _ _ z => z.elim)
  cases b with
  | true => exact h₁
  | false => exact h₁
theorem seg_plain {st : Stmt} {c : Code} {K : Flow → Sem PySem.Fin} {H : Value → Sem PySem.Fin} {gd : Bool → Bool} {lv : List Value → List Value}
    (h : wpAny (model prog w) (A.over c fs) (exec st env) (fun f s₁ => Seg (model prog w) A R Y n s₀ c (K f) fs s₁) (fun _ _ => False) s) :
    Seg (model prog w) A R Y n s₀ c ((exec st env).wrap K H gd lv) fs s :=
  seg_wrap (wpAny_mono h (fun _ _ z => z) fun _ _ z => z.elim)
theorem seg_For {target iter : Expr} {body orelse : List Stmt} {pos : Pos} {c : Code} {K : Flow → Sem PySem.Fin} {H : Value → Sem PySem.Fin} {gd : Bool → Bool} {lv : List Value → List Value}
    (h : wpAny (model prog w) (A.over c fs) (eval iter env) (fun v s₁ => wpAny (model prog w) (A.over c fs) (foldedSetIterable iter env v) (fun x s₂ => wpAny (model prog w) (A.over c fs) (pyIter x) (fun it s₃ =>
       ∀ k : Result → Sem PySem.Fin, (∀ f, k (.ok f) = K f) → ∀ lv' p, Seg (model prog w) A R Y n s₀ (.forLoop target it body orelse env) ((model prog w).den (.forLoop target it body orelse env)) (.ret k none (gd false) lv' c p [] :: fs) s₃) (fun _ _ => False) s₂) (fun _ _ => False) s₁) (fun _ _ => False) s) :
    Seg (model prog w) A R Y n s₀ c ((exec (.For target iter body orelse pos) env).wrap K H gd lv) fs s := by
  rw [exec_For, Sem.bind_eq_wrap', Sem.wrap_wrap]
  refine seg_wrap (wpAny_standAt ?_)
  rw [Sem.bind_eq_wrap', Sem.wrap_wrap]
  refine seg_wrap (wpAny_mono h (fun v s₁ h₁ => ?_) fun _ _ z => z.elim)
  rw [Sem.bind_eq_wrap', Sem.wrap_wrap]
  refine seg_wrap (wpAny_mono h₁ (fun x s₂ h₂ => ?_) fun _ _ z => z.elim)
  rw [Sem.bind_eq_wrap', Sem.wrap_wrap]
  refine seg_wrap (wpAny_standAt ?_)
  rw [Sem.bind_eq_wrap', Sem.wrap_wrap]
  refine seg_wrap (wpAny_holding (wpAny_mono h₂ (fun it s₃ h₃ => ?_) fun _ _ z => z.elim))
  refine seg_call (k := fun r => Sem.wrap K H gd lv ((match r with | .ok f => (.pure f : Sem Flow) | .error e => .raise e).onRaise fun x => do
        if (← field x 1) == Value.none then unsupported "frame.own-activation:exception-without-traceback"
        setFlight x env.frame)) fun p => ?_
  exact h₃ _ (fun f => rfl) _ p
end
end Mine
end
section
open PySem PySem.W PyProof.Rows PySem.Calls
set_option maxRecDepth 100000
set_option maxHeartbeats 8000000
namespace Mine
section
variable {prog : Program} {w : World} {A : Around} {E : Value → Shared → Prop} {s : Shared}
theorem add_S {a b : List Nat} {t u : Tok} {Q : Value → Shared → Prop} (hl : a.length + b.length ≤ 10000000) (h : ∀ t' k, Q (.str (S (a ++ b)) t') { s with toks := k }) :
    wpAny (model prog w) A (binaryOp .Add (.str (S a) t) (.str (S b) u)) Q E s := by
  refine add_str (fun t' k => ?_) (by rw [S_len, S_len]; exact sizeLine_of (by omega))
  rw [S_append]; exact h t' k
theorem eqS_iff (a b : List Nat) : (S a == S b) = decide (a = b) := by
  rw [Bool.eq_iff_iff]
  simp only [beq_iff_eq, decide_eq_true_eq]
  exact ⟨S_inj, fun h => by rw [h]⟩
theorem eq_S {a b : List Nat} {t u : Tok} {Q : Value → Shared → Prop} (h : Q (.bool (decide (a = b))) s) :
    wpAny (model prog w) A (compareOp .Eq (.str (S a) t) (.str (S b) u)) Q E s := by
  refine eq_str ?_
  rw [eqS_iff]; exact h
end

/-- what the escaping generator yields -/
noncomputable def ylds : Bool → Nat → List Nat → List (Nat × List Nat)
  | esc, i, [] => if esc then [(i - 1, [92])] else []
  | esc, i, c :: r => if esc then (i, [92, c]) :: ylds false (i + 1) r else if c = 92 then ylds true (i + 1) r else (i, [c]) :: ylds false (i + 1) r

structure GEnv (env : Env) : Prop where
  kind : env.scope.kind = .function
  pos : env.kindOf "pos" = some .local
  ch : env.kindOf "ch" = some .local
  esc : env.kindOf "escape" = some .local
  hp : (env.scope.kind == .class || (env.scope.kind == .module && env.locals != env.globals)) = false
  co : env.scope.isCoroutine = false
  int : interactive env = false

structure GP (env : Env) (e it : Addr) (St : Nat → Heap → Prop) (i : Nat) (flag : Bool) (h : Heap) : Prop where
  ns : ∃ m tk, h.Ns env.locals m ∧ m "escape" = some (.bool flag) ∧ m "pos" = some (.int ((i - 1 : Nat) : Int) tk)
  en : ∃ old, IsEnum h e it i old
  st : St i h

/-- what stood below N, but the generator's frame, is as it was -/
noncomputable def Own3 (L N : Addr) (s₀ s₁ : Shared) : Prop :=
  ∃ h tk, s₁ = { s₀ with heap := h, toks := tk } ∧ ∀ b, b < N → b ≠ L → ∀ o, s₀.heap.get? b = some o → h.get? b = some o
theorem Own3.refl {L N : Addr} {s : Shared} : Own3 L N s s := ⟨s.heap, s.toks, rfl, fun _ _ _ _ x => x⟩
theorem Own3.then {L N : Addr} {s₀ s₁ : Shared} {h : Heap} {tk : Nat} (x : Own3 L N s₀ s₁) (k : ∀ b, b < N → b ≠ L → ∀ o, s₁.heap.get? b = some o → h.get? b = some o) : Own3 L N s₀ { s₁ with heap := h, toks := tk } := by
  obtain ⟨h₁, t₁, rfl, k₁⟩ := x
  exact ⟨h, tk, rfl, fun b a c o y => k b a c o (k₁ b a c o y)⟩
noncomputable def Keep3 (L e it : Addr) (h h' : Heap) : Prop := ∀ b, b = L ∨ b = e ∨ b = it → ∀ o, h.get? b = some o → h'.get? b = some o

noncomputable def YItem (h : Heap) (v : Value) (y : Nat × List Nat) : Prop :=
  ∃ a tp tc, v = .ref a ∧ h.get? a = some { cls := .type "tuple", data := .seq #[.int (y.1 : Int) tp, .str (S y.2) tc] }

noncomputable abbrev gY (L N : Addr) (Ys : List (Nat × List Nat)) : Protocol := fun n s₀ v s₁ kap =>
  (∃ pre y post, Ys = pre ++ y :: post ∧ post.length = n ∧ YItem s₁.heap v y) ∧ Own3 L N s₀ s₁ ∧
    ∃ e it, (e = L ∨ @LE.le Nat _ N e) ∧ (it = L ∨ @LE.le Nat _ N it) ∧ ((∃ o, s₁.heap.get? L = some o) ∧ (∃ o, s₁.heap.get? e = some o) ∧ ∃ o, s₁.heap.get? it = some o) ∧ ∀ s'', Keep3 L e it s₁.heap s''.heap → kap (.send .none) s''
noncomputable abbrev gR (L N : Addr) : GenEnd := fun n s₀ r s₁ => r = .ok (.ret .none) ∧ (n = 0 ∧ Own3 L N s₀ s₁)

section
variable {prog : Program} {w : World} {A : Around} {s : Shared} {env : Env} {e it : Addr} {St : Nat → Heap → Prop} {l : List Nat} {Ys : List (Nat × List Nat)}

theorem ld_local {x : Str} {p : Pos} {m : Str → Option Value} {v : Value} {Q : Value → Shared → Prop} {E : Value → Shared → Prop} (hk : env.scope.kind = .function) (hl : env.kindOf x = some .local) (hn : s.heap.Ns env.locals m) (hv : m x = some v) (h : Q v s) (hd : (x == ("__debug__" : Str)) = false := by decide) : wpAny (model prog w) A (eval (.Name x p) env) Q E s :=
  wpAny_Name (wpAny_loadName_local hk hl hn hv h) hd

theorem tuple_yield {p1 p2 : Pos} {k : Nat} {x : Expr} {m : Str → Option Value} {i : Int} {tk : Tok} {c : List Nat} {Q : Value → Shared → Prop} {E : Value → Shared → Prop} (G : GEnv env) (hn : s.heap.Ns env.locals m) (hpos : m "pos" = some (.int i tk))
    (hb : backTo p2 (starEach [.Name "pos" p1, x] env) = [(false, eval (.Name "pos" p1) env), (false, eval x env)])
    (hx : ∀ Q' : Value → Shared → Prop, (∀ t' k', Q' (.str (S c) t') { s with toks := k' }) → wpAny (model prog w) A (eval x env) Q' E s)
    (h : ∀ a t' h' k', h'.get? a = some { cls := .type "tuple", data := .seq #[.int i tk, .str (S c) t'] } → (∀ b o, s.heap.get? b = some o → h'.get? b = some o) → Q (.ref a) { s with heap := h', toks := k' }) :
    wpAny (model prog w) A (eval (.Tuple [.Name "pos" p1, x] k p2) env) Q E s := by
  refine Tuple_ ?_
  rw [hb]
  refine Calls.spliced_cons (ld_local G.kind G.pos hn hpos (Calls.spliced_cons (hx _ fun t' k' => Calls.spliced_nil (wpAny_newTuple ?_))))
  exact h _ t' _ k' (Heap.get?_push_size _ rfl) fun b o z => Heap.get?_push_of_some _ z

variable {L N : Addr}
/-- the loop of the generator, from one of its turns on -/
theorem gen_loop {p1 p2 p3 p4 p5 p6 p7 p8 p9 p10 p11 p12 p13 p14 p15 p16 p17 p18 p19 p20 p21 p22 p23 p24 p25 p26 p27 : Pos} {k0 k1 k2 k3 k4 k5 k6 : Nat} {c : Code} {lv' : List Value} {pp : Pos} {kk : Result → Sem PySem.Fin} (G : GEnv env)
    (hD : ∀ A : Around, A.handled = none → Draws prog w A it [it] l.length (fun i v => ∃ c u, l[i]? = some c ∧ v = .str (S [c]) u) St) (hA : A.handled = none)
    (hNe : @LE.le Nat _ N e) (hNi : @LE.le Nat _ N it) (hei : e ≠ it) (hLe : env.locals ≠ e) (hLi : env.locals ≠ it)
    (hl : l.length ≤ 100000)
    (hend : ∀ s₀ s₁ flag, (∃ m tk, s₁.heap.Ns env.locals m ∧ m "escape" = some (.bool flag) ∧ m "pos" = some (.int ((l.length - 1 : Nat) : Int) tk)) → Own3 env.locals N s₀ s₁ → (∃ pre, Ys = pre ++ ylds flag l.length []) →
      Seg (model prog w) A (gR env.locals N) (gY env.locals N Ys) (ylds flag l.length []).length s₀ c (kk (.ok .next)) [] s₁) :
    ∀ (d i : Nat) (flag : Bool) (s₀ s : Shared), i + d = l.length → GP env e it St i flag s.heap → Own3 env.locals N s₀ s → (∃ pre, Ys = pre ++ ylds flag i (l.drop i)) →
      Seg (model prog w) A (gR env.locals N) (gY env.locals N Ys) (ylds flag i (l.drop i)).length s₀
        (.forLoop (.Tuple [.Name "pos" p1, .Name "ch" p2] k0 p3) (.ref e)
          [.If (.Name "escape" p4) [.Expr (.Yield (some (.Tuple [.Name "pos" p5, .BinOp (.Constant (.str "\\") k1 p6) .Add (.Name "ch" p7) p8] k2 p9)) p10) p11, .Assign [.Name "escape" p12] (.Constant (.bool false) k3 p13) p14]
            [.If (.Compare (.Name "ch" p15) [.Eq] [.Constant (.str "\\") k4 p16] p17) [.Assign [.Name "escape" p18] (.Constant (.bool true) k5 p19) p20]
              [.Expr (.Yield (some (.Tuple [.Name "pos" p21, .Name "ch" p22] k6 p23)) p24) p25] p26] p27] [] env)
        ((model prog w).den (.forLoop (.Tuple [.Name "pos" p1, .Name "ch" p2] k0 p3) (.ref e)
          [.If (.Name "escape" p4) [.Expr (.Yield (some (.Tuple [.Name "pos" p5, .BinOp (.Constant (.str "\\") k1 p6) .Add (.Name "ch" p7) p8] k2 p9)) p10) p11, .Assign [.Name "escape" p12] (.Constant (.bool false) k3 p13) p14]
            [.If (.Compare (.Name "ch" p15) [.Eq] [.Constant (.str "\\") k4 p16] p17) [.Assign [.Name "escape" p18] (.Constant (.bool true) k5 p19) p20]
              [.Expr (.Yield (some (.Tuple [.Name "pos" p21, .Name "ch" p22] k6 p23)) p24) p25] p26] p27] [] env))
        [.ret kk none false lv' c pp []] s
  | d, i, flag, s₀, s, hd, hg, ho, ⟨pre, hsuf⟩ => by
    refine seg_forLoop ?_
    have hh : (A.over (.forLoop (.Tuple [.Name "pos" p1, .Name "ch" p2] k0 p3) (.ref e)
          [.If (.Name "escape" p4) [.Expr (.Yield (some (.Tuple [.Name "pos" p5, .BinOp (.Constant (.str "\\") k1 p6) .Add (.Name "ch" p7) p8] k2 p9)) p10) p11, .Assign [.Name "escape" p12] (.Constant (.bool false) k3 p13) p14]
            [.If (.Compare (.Name "ch" p15) [.Eq] [.Constant (.str "\\") k4 p16] p17) [.Assign [.Name "escape" p18] (.Constant (.bool true) k5 p19) p20]
              [.Expr (.Yield (some (.Tuple [.Name "pos" p21, .Name "ch" p22] k6 p23)) p24) p25] p26] p27] [] env) [.ret kk none false lv' c pp []]).handled = none := hA
    generalize hB : (A.over _ _) = B at hh ⊢
    have W := WalksT.enumerateD (hD B.in1 hh) e hei (by simpa using hei) (by simp)
    obtain ⟨⟨m, tk, hn, hesc, hpos⟩, hen, hst⟩ := hg
    cases d with
    | zero =>
      have hi : i = l.length := by omega
      subst hi
      refine W.done s _ _ ⟨hen, hst⟩ fun h' tk' hk => ?_
      rw [List.drop_length] at hsuf ⊢
      show Seg _ _ _ _ _ _ _ (leafOf (.ok .next)) _ _
      have hk' : ∀ b, b ≠ e → b ≠ it → ∀ o, s.heap.get? b = some o → h'.get? b = some o := fun b h1 h2 o z => hk b o (by simp [h1, h2]) z
      refine seg_leaf (.ok .next) (hend s₀ _ flag ⟨m, tk, hn.at' fun o z => hk' _ hLe hLi o z, hesc, hpos⟩ (ho.then fun b hb _ o z => hk' b (Nat.ne_of_lt (Nat.lt_of_lt_of_le hb hNe)) (Nat.ne_of_lt (Nat.lt_of_lt_of_le hb hNi)) o z) ⟨pre, hsuf⟩)
    | succ d =>
      have hi : i < l.length := by omega
      refine W.item i s _ _ hi ⟨hen, hst⟩ fun T vals h' tk' hP hT htup hM hk => ?_
      obtain ⟨ti, x, ⟨ch, u, hc, rfl⟩, rfl⟩ := hP
      have hdrop : l.drop i = ch :: l.drop (i + 1) := by
        rw [List.drop_eq_getElem_cons hi]; congr 1
        have := List.getElem?_eq_getElem hi
        rw [hc] at this; exact (Option.some.inj this).symm
      have hk' : ∀ b, b ≠ e → b ≠ it → ∀ o, s.heap.get? b = some o → h'.get? b = some o := fun b h1 h2 o z => hk b o (by simp [h1, h2]) z
      have hTe : T ≠ e ∧ T ≠ it := by
        have := W.apart _ _ _ hM
        simpa using this
      refine W.go _ _ _ i T _ _ _ hM fun h₂ hst₂ hk₂ => ?_
      replace hk₂ : ∀ b, b ≠ e → b ≠ it → ∀ o, h'.get? b = some o → h₂.get? b = some o := fun b h1 h2 o z => hk₂ b o (by simp [h1, h2]) z
      have htup₂ : h₂.IsTuple T #[.int i ti, .str (S [ch]) u] := by
        obtain ⟨o, a1, a2⟩ := htup
        exact ⟨o, hk₂ T hTe.1 hTe.2 _ a1, a2⟩
      refine wpAny_assign_Tuple hh htup₂ rfl rfl fun h₃ hx₃ => ?_
      replace hx₃ : Heap.ExtBut h₂.objs.size h₂ h₃ := hx₃
      have old₃ : ∀ b o, h₂.get? b = some o → h₃.get? b = some o := fun b o z => hx₃ b o (Nat.ne_of_lt (Heap.lt_size z)) z
      have hn₃ : h₃.Ns env.locals m := ((hn.at' fun o z => hk' _ hLe hLi o z).at' fun o z => hk₂ _ hLe hLi o z).at' fun o z => old₃ _ o z
      show wpAny _ B (do holding [.str (S [ch]) u] (assign (.Name "pos" p1) env (.int i ti)); do holding [] (assign (.Name "ch" p2) env (.str (S [ch]) u)); pure ()) _ _ _
      refine wpAny_bind (wpAny_holding (wpAny_assign_Name (wpAny_storeName_local G.pos hn₃ (fun h₄ hn₄ hs₄ => ?_) G.hp)))
      replace hs₄ : Heap.SameBut env.locals h₃ h₄ := hs₄
      refine wpAny_bind (wpAny_holding (wpAny_assign_Name (wpAny_storeName_local G.ch hn₄ (fun h₅ hn₅ hs₅ => wpAny_pure ?_) G.hp)))
      replace hs₅ : Heap.SameBut env.locals h₄ h₅ := hs₅
      subst hB
      have up : ∀ b, b ≠ env.locals → ∀ o, h₂.get? b = some o → h₅.get? b = some o := fun b hb o z => hs₅.extBut b o hb (hs₄.extBut b o hb (old₃ b o z))
      obtain ⟨⟨old₂, hen₂⟩, hst₂⟩ := hst₂
      have gp : ∀ (fl : Bool) (h : Heap) (m' : Str → Option Value), h.Ns env.locals m' → m' "escape" = some (.bool fl) → m' "pos" = some (.int (i : Int) ti) → (∀ b, b = e ∨ b = it → ∀ o, h₂.get? b = some o → h.get? b = some o) → GP env e it St (i + 1) fl h :=
        fun fl h m' a1 a2 a3 a4 => ⟨⟨m', ti, a1, a2, a3⟩, ⟨old₂, a4 _ (.inl rfl) _ hen₂⟩, (hD A hA).frame _ _ _ hst₂ fun b hb o z => a4 b (.inr (List.mem_singleton.mp hb)) o z⟩
      have own₅ : ∀ tk', Own3 env.locals N s₀ { s with heap := h₅, toks := tk' } := fun tk' =>
        ho.then fun b hb h1 o z => have h2 := Nat.ne_of_lt (Nat.lt_of_lt_of_le hb hNe); have h3 := Nat.ne_of_lt (Nat.lt_of_lt_of_le hb hNi); up b h1 o (hk₂ b h2 h3 o (hk' b h2 h3 o z))
      have cont : ∀ (fl : Bool) (s₀' s' : Shared) (c' : Code), GP env e it St (i + 1) fl s'.heap → Own3 env.locals N s₀' s' → (∃ pre, Ys = pre ++ ylds fl (i + 1) (l.drop (i + 1))) → _ :=
        fun fl s₀' s' c' a1 a2 a3 => seg_again (M := model prog w) (c := c') rfl (gen_loop (p1 := p1) (p2 := p2) (p3 := p3) (p4 := p4) (p5 := p5) (p6 := p6) (p7 := p7) (p8 := p8) (p9 := p9) (p10 := p10) (p11 := p11) (p12 := p12) (p13 := p13) (p14 := p14) (p15 := p15) (p16 := p16) (p17 := p17) (p18 := p18) (p19 := p19) (p20 := p20) (p21 := p21) (p22 := p22) (p23 := p23) (p24 := p24) (p25 := p25) (p26 := p26) (p27 := p27)
          (k0 := k0) (k1 := k1) (k2 := k2) (k3 := k3) (k4 := k4) (k5 := k5) (k6 := k6) (lv' := lv') (pp := pp) G hD hA hNe hNi hei hLe hLi hl hend d (i + 1) fl s₀' s' (by omega) a1 a2 a3)
      have hne : e ≠ env.locals := Ne.symm hLe
      have hni : it ≠ env.locals := Ne.symm hLi
      have live₆ : ∀ {h₆ : Heap}, (∀ b o, h₅.get? b = some o → h₆.get? b = some o) → (∃ o, h₆.get? env.locals = some o) ∧ (∃ o, h₆.get? e = some o) ∧ ∃ o, h₆.get? it = some o := fun hk₆ => by
        obtain ⟨oL, _, _, hoL, _⟩ := hn₅
        obtain ⟨oi, hoi⟩ := (hD A hA).live _ _ hst₂
        exact ⟨⟨_, hk₆ _ _ hoL⟩, ⟨_, hk₆ _ _ (up _ hne _ hen₂)⟩, ⟨_, hk₆ _ _ (up _ hni _ hoi)⟩⟩
      rw [hdrop] at hsuf ⊢
      refine seg_execs_cons (seg_If ?_)
      cases flag with
      | true =>
        refine wpAny_isTrue_value (ld_local G.kind G.esc hn₅ (by (try dsimp only); rw [if_neg (by decide), if_neg (by decide)]; exact hesc) (wpAny_truthy_bool ?_))
        rw [if_pos rfl]
        refine seg_execs_cons (seg_Expr_Yield (n := (ylds false (i + 1) (l.drop (i + 1))).length) rfl rfl rfl ?_ G.co G.int)
        refine tuple_yield (c := [92, ch]) G hn₅ (by (try dsimp only); rw [if_neg (by decide), if_pos rfl]) rfl (fun Q' hQ' => ?_) fun a t' h₆ k₆ htup₆ hk₆ => ?_
        · refine wpAny_BinOp (wpAny_Constant_str (ld_local G.kind G.ch hn₅ (by (try dsimp only); rw [if_pos rfl]) ?_))
          exact add_S (a := [92]) (b := [ch]) (by simp) hQ'
        · intro kap hkap
          refine ⟨⟨pre, (i, [92, ch]), _, hsuf, rfl, ⟨a, _, _, rfl, htup₆⟩⟩, (own₅ _).then fun b _ _ o z => hk₆ b o z, e, it, .inr hNe, .inr hNi, live₆ hk₆, fun s'' hlat => hkap .none s'' ?_⟩
          have hn₆ := (hn₅.keeps hk₆).at' fun o z => hlat _ (.inl rfl) o z
          refine seg_execs_cons (seg_plain (wpAny_Assign_Name (wpAny_Constant_bool (wpAny_storeName_local G.esc hn₆ (fun h₈ hn₈ hs₈ => ?_) G.hp))))
          replace hs₈ : Heap.SameBut env.locals s''.heap h₈ := hs₈
          refine cont false s'' { s'' with heap := h₈, toks := s''.toks + 1 } _ (gp false _ _ hn₈ (by (try dsimp only); rw [if_pos rfl]) (by (try dsimp only); rw [if_neg (by decide), if_neg (by decide), if_pos rfl]) ?_) (Own3.refl.then fun b _ h1 o z => hs₈.extBut b o h1 z) ⟨pre ++ [(i, [92, ch])], by rw [hsuf, ylds]; simp⟩
          rintro b (rfl | rfl) o z
          · exact hs₈.extBut _ o hne (hlat _ (.inr (.inl rfl)) o (hk₆ _ _ (up _ hne o z)))
          · exact hs₈.extBut _ o hni (hlat _ (.inr (.inr rfl)) o (hk₆ _ _ (up _ hni o z)))
      | false =>
        refine wpAny_isTrue_value (ld_local G.kind G.esc hn₅ (by (try dsimp only); rw [if_neg (by decide), if_neg (by decide)]; exact hesc) (wpAny_truthy_bool ?_))
        rw [if_neg Bool.false_ne_true]
        refine seg_execs_cons (seg_If ?_)
        refine wpAny_isTrue_Compare1 (ld_local G.kind G.ch hn₅ (by (try dsimp only); rw [if_pos rfl]) (wpAny_Constant_str (eq_S (a := [ch]) (b := [92]) (wpAny_truthy_bool ?_))))
        by_cases hb : ch = 92
        · have e1 : decide ([ch] = [92]) = true := by rw [hb]; rfl
          rw [e1, if_pos rfl]
          subst hb
          have ey : ylds false i (92 :: l.drop (i + 1)) = ylds true (i + 1) (l.drop (i + 1)) := by rw [ylds]; rfl
          rw [ey] at hsuf ⊢
          refine seg_execs_cons (seg_plain (wpAny_Assign_Name (wpAny_Constant_bool (wpAny_storeName_local G.esc hn₅ (fun h₈ hn₈ hs₈ => ?_) G.hp))))
          replace hs₈ : Heap.SameBut env.locals h₅ h₈ := hs₈
          refine cont true s₀ _ _ (gp true _ _ hn₈ (by (try dsimp only); rw [if_pos rfl]) (by (try dsimp only); rw [if_neg (by decide), if_neg (by decide), if_pos rfl]) ?_) ((own₅ _).then fun b _ h1 o z => hs₈.extBut b o h1 z) ⟨pre, hsuf⟩
          rintro b (rfl | rfl) o z
          · exact hs₈.extBut _ o hne (up _ hne o z)
          · exact hs₈.extBut _ o hni (up _ hni o z)
        · have e1 : decide ([ch] = [92]) = false := by simpa using hb
          rw [e1, if_neg Bool.false_ne_true]
          have ey : ylds false i (ch :: l.drop (i + 1)) = (i, [ch]) :: ylds false (i + 1) (l.drop (i + 1)) := by rw [ylds, if_neg Bool.false_ne_true, if_neg hb]
          rw [ey] at hsuf ⊢
          refine seg_execs_cons (seg_Expr_Yield (n := (ylds false (i + 1) (l.drop (i + 1))).length) rfl rfl rfl ?_ G.co G.int)
          refine tuple_yield (c := [ch]) G hn₅ (by (try dsimp only); rw [if_neg (by decide), if_pos rfl]) rfl (fun Q' hQ' => ?_) fun a t' h₆ k₆ htup₆ hk₆ => ?_
          · exact ld_local G.kind G.ch hn₅ (by (try dsimp only); rw [if_pos rfl]) (hQ' _ _)
          · intro kap hkap
            refine ⟨⟨pre, (i, [ch]), _, hsuf, rfl, ⟨a, _, _, rfl, htup₆⟩⟩, (own₅ _).then fun b _ _ o z => hk₆ b o z, e, it, .inr hNe, .inr hNi, live₆ hk₆, fun s'' hlat => hkap .none s'' ?_⟩
            have hn₆ := (hn₅.keeps hk₆).at' fun o z => hlat _ (.inl rfl) o z
            refine cont false s'' s'' _ (gp false _ _ hn₆ (by (try dsimp only); rw [if_neg (by decide), if_neg (by decide)]; exact hesc) (by (try dsimp only); rw [if_neg (by decide), if_pos rfl]) ?_) Own3.refl ⟨pre ++ [(i, [ch])], by rw [hsuf]; simp⟩
            rintro b (rfl | rfl) o z
            · exact hlat _ (.inr (.inl rfl)) o (hk₆ _ _ (up _ hne o z))
            · exact hlat _ (.inr (.inr rfl)) o (hk₆ _ _ (up _ hni o z))
end
end Mine
end
section
open PySem PySem.W PyProof.Rows PySem.Calls
set_option maxRecDepth 100000
set_option maxHeartbeats 8000000
namespace Mine
section
variable {prog : Program} {w : World} {A : Around} {s : Shared} {env : Env} {l : List Nat} {N : Addr}

theorem strDraws (A : Around) (hA : A.handled = none) (it : Addr) (l : List Nat) (t : Tok) : Draws prog w A it [it] l.length (fun i v => ∃ c u, l[i]? = some c ∧ v = .str (S [c]) u) (fun i h => h.IsStrIter it (strIterType (S l)) (S l) t i) := by
  have e : (fun (i : Nat) (v : Value) => ∃ c u, (S l).cps[i]? = some c ∧ v = .str ⟨#[c]⟩ u) = (fun i v => ∃ c u, l[i]? = some c ∧ v = .str (S [c]) u) := by
    funext i v
    simp [S]
  have z := S_size l
  cases ha : (S l).cps.all (· < 128)
  · have D := Draws.strWide (prog := prog) (w := w) hA it (S l) t
    rw [e, z] at D
    have : strIterType (S l) = "str_iterator" := by simp [strIterType, ha]
    rw [this]; exact D
  · have D := Draws.strAscii (prog := prog) (w := w) hA it (S l) t
    rw [e, z] at D
    have : strIterType (S l) = "str_ascii_iterator" := by simp [strIterType, ha]
    rw [this]; exact D

theorem gen_func {p1 p2 p3 p4 p5 p6 p7 p8 p9 p10 p11 p12 p13 p14 p15 p16 p17 p18 p19 p20 p21 p22 p23 p24 p25 p26 p27 : Pos} {k0 k1 k2 k3 k4 k5 k6 : Nat}
    {q1 q2 q3 q4 q5 q6 q7 q8 q9 q10 q11 q12 q13 q14 q15 q16 q17 : Pos} {j1 j2 j3 j4 : Nat} {m mg mb : Str → Option Value} {t : Tok} (G : GEnv env)
    (hka : env.kindOf "addr" = some .local) (hke : env.kindOf "enumerate" = some .globalImplicit) (hgl : env.globals = mainGlobals) (hbu : env.builtins = builtinsNs)
    (hn : s.heap.Ns env.locals m) (hm : m "addr" = some (.str (S l) t)) (hg : s.heap.Ns mainGlobals mg) (hmg : mg "enumerate" = none) (hb : s.heap.Ns builtinsNs mb) (hmb : mb "enumerate" = some (.type "enumerate"))
    (hLg : env.locals ≠ mainGlobals) (hLb : env.locals ≠ builtinsNs) (hA : A.handled = none) (hLN : env.locals < N) (hN : N ≤ s.heap.objs.size) (hl : l.length ≤ 100000) :
    Seg (model prog w) A (gR env.locals N) (gY env.locals N (ylds false 0 l)) (ylds false 0 l).length s
      (.func [.Assign [.Name "pos" q1] (.Constant (.int 0) j1 q2) q3, .Assign [.Name "escape" q4] (.Constant (.bool false) j2 q5) q6,
        .For (.Tuple [.Name "pos" p1, .Name "ch" p2] k0 p3) (.Call (.Name "enumerate" q7) [.Name "addr" q8] [] q9)
          [.If (.Name "escape" p4) [.Expr (.Yield (some (.Tuple [.Name "pos" p5, .BinOp (.Constant (.str "\\") k1 p6) .Add (.Name "ch" p7) p8] k2 p9)) p10) p11, .Assign [.Name "escape" p12] (.Constant (.bool false) k3 p13) p14]
            [.If (.Compare (.Name "ch" p15) [.Eq] [.Constant (.str "\\") k4 p16] p17) [.Assign [.Name "escape" p18] (.Constant (.bool true) k5 p19) p20]
              [.Expr (.Yield (some (.Tuple [.Name "pos" p21, .Name "ch" p22] k6 p23)) p24) p25] p26] p27] [] q10,
        .If (.Name "escape" q11) [.Expr (.Yield (some (.Tuple [.Name "pos" q12, .Constant (.str "\\") j3 q13] j4 q14)) q15) q16] [] q17] env)
      ((model prog w).den (.func [.Assign [.Name "pos" q1] (.Constant (.int 0) j1 q2) q3, .Assign [.Name "escape" q4] (.Constant (.bool false) j2 q5) q6,
        .For (.Tuple [.Name "pos" p1, .Name "ch" p2] k0 p3) (.Call (.Name "enumerate" q7) [.Name "addr" q8] [] q9)
          [.If (.Name "escape" p4) [.Expr (.Yield (some (.Tuple [.Name "pos" p5, .BinOp (.Constant (.str "\\") k1 p6) .Add (.Name "ch" p7) p8] k2 p9)) p10) p11, .Assign [.Name "escape" p12] (.Constant (.bool false) k3 p13) p14]
            [.If (.Compare (.Name "ch" p15) [.Eq] [.Constant (.str "\\") k4 p16] p17) [.Assign [.Name "escape" p18] (.Constant (.bool true) k5 p19) p20]
              [.Expr (.Yield (some (.Tuple [.Name "pos" p21, .Name "ch" p22] k6 p23)) p24) p25] p26] p27] [] q10,
        .If (.Name "escape" q11) [.Expr (.Yield (some (.Tuple [.Name "pos" q12, .Constant (.str "\\") j3 q13] j4 q14)) q15) q16] [] q17] env)) [] s := by
  refine seg_func ?_
  refine seg_execs_cons (seg_plain (wpAny_Assign_Name (wpAny_Constant_int (wpAny_storeName_local G.pos hn (fun h₁ hn₁ hs₁ => ?_) G.hp))))
  replace hs₁ : Heap.SameBut env.locals s.heap h₁ := hs₁
  refine seg_execs_cons (seg_plain (wpAny_Assign_Name (wpAny_Constant_bool (wpAny_storeName_local G.esc hn₁ (fun h₂ hn₂ hs₂ => ?_) G.hp))))
  replace hs₂ : Heap.SameBut env.locals h₁ h₂ := hs₂
  have up₂ : ∀ b, b ≠ env.locals → ∀ o, s.heap.get? b = some o → h₂.get? b = some o := fun b hb o z => hs₂.extBut b o hb (hs₁.extBut b o hb z)
  have hsz₂ : h₂.objs.size = s.heap.objs.size := hs₂.1.trans hs₁.1
  refine seg_execs_cons (seg_For ?_)
  refine PyProof.Rows.Call_ (Name_function_global G.kind hke (loadGlobal_builtin (hgl ▸ hg.at' fun o z => up₂ _ (Ne.symm hLg) o z) hmg (hbu ▸ hb.at' fun o z => up₂ _ (Ne.symm hLb) o z) hmb ?_))
  refine PyProof.Rows.callWith_type1 (Calls.spliced_cons (ld_local G.kind hka hn₂ (by (try dsimp only); rw [if_neg (by decide), if_neg (by decide)]; exact hm) (Calls.spliced_nil ?_)))
  refine call_enumerate_str fun h₃ hen hit hsz₃ hk₃ => ?_
  replace hk₃ : ∀ b o, h₂.get? b = some o → h₃.get? b = some o := hk₃
  replace hsz₃ : h₃.objs.size = h₂.objs.size + 2 := hsz₃
  refine wpAny_pure (wpAny_pyIter_enum hen ?_)
  intro kk hkk lv' pp
  have hLs : env.locals < s.heap.objs.size := Nat.lt_of_lt_of_le hLN hN
  have hLs₂ : env.locals < h₂.objs.size := by rw [hsz₂]; exact hLs
  have hN₂ : N ≤ h₂.objs.size := by rw [hsz₂]; exact hN
  refine gen_loop (kk := kk) (St := fun i h => h.IsStrIter h₂.objs.size (strIterType (S l)) (S l) t i) (Ys := ylds false 0 l) G (fun A hA => strDraws A hA _ l t) hA (Nat.le_succ_of_le hN₂) hN₂ (Nat.succ_ne_self _) (Nat.ne_of_lt (Nat.lt_succ_of_lt hLs₂)) (Nat.ne_of_lt hLs₂) hl ?_ l.length 0 false s _ (Nat.zero_add _)
    ⟨⟨_, _, hn₂.keeps hk₃, by (try dsimp only); rw [if_pos rfl], by (try dsimp only); rw [if_neg (by decide), if_pos rfl]; rfl⟩, ⟨_, hen⟩, hit⟩ (Own3.refl.then fun b _ h1 o z => hk₃ b o (up₂ b h1 o z)) ⟨[], rfl⟩
  rintro s₀ s₁ flag ⟨m', tk', hn', hesc, hpos⟩ hown ⟨pre, hsuf⟩
  rw [hkk]
  refine seg_execs_cons (seg_If ?_)
  refine wpAny_isTrue_value (ld_local G.kind G.esc hn' hesc (wpAny_truthy_bool ?_))
  cases flag with
  | false =>
    rw [if_neg Bool.false_ne_true]
    exact seg_end (.ok (.ret .none)) ⟨rfl, rfl, hown⟩
  | true =>
    rw [if_pos rfl]
    refine seg_execs_cons (seg_Expr_Yield (n := 0) rfl rfl rfl ?_ G.co G.int)
    refine tuple_yield (c := [92]) G hn' hpos rfl (fun Q' hQ' => wpAny_Constant_str (hQ' _ _)) fun a t' h₆ k₆ htup₆ hk₆ => ?_
    intro kap hkap
    refine ⟨⟨pre, (l.length - 1, [92]), [], by rw [hsuf]; rfl, rfl, ⟨a, _, _, rfl, htup₆⟩⟩, hown.then fun b _ _ o z => hk₆ b o z, env.locals, env.locals, .inl rfl, .inl rfl, ?_, fun s'' hlat => hkap .none s'' ?_⟩
    · obtain ⟨oL, _, _, hoL, _⟩ := hn'
      exact ⟨⟨_, hk₆ _ _ hoL⟩, ⟨_, hk₆ _ _ hoL⟩, ⟨_, hk₆ _ _ hoL⟩⟩
    exact seg_end (.ok (.ret .none)) ⟨rfl, rfl, Own3.refl⟩
end
end Mine
end
section
open PySem PySem.W PyProof.Rows PySem.Calls
set_option maxRecDepth 100000
set_option maxHeartbeats 8000000
namespace Mine
section
variable {prog : Program} {w : World} {A : Around} {E : Value → Shared → Prop} {Q : Value → Shared → Prop} {s : Shared} {mean : ExcName → Option Value} {mg mb : Str → Option Value} {l : List Nat} {t : Tok}

theorem gen_call (X : (hd.heap_39 w.params).In s.heap) (T : Top hd.view_39 VL mean mg mb s.heap) (hroom : A.depth < recursionLimit) (hl : l.length ≤ 100000)
    (h : ∀ (h' : Heap) (tk' : Nat) (gs : GenState), h'.IsGen (s.heap.objs.size + 1) s.gens.size → h'.objs.size = s.heap.objs.size + 2 → (∀ b o, s.heap.get? b = some o → h'.get? b = some o) → (∃ o, h'.get? s.heap.objs.size = some o) →
      (∀ (A' : Around) (N : Addr) (s'' : Shared), A'.handled = none → @LT.lt Nat _ s.heap.objs.size N → N ≤ s''.heap.objs.size → (∀ o, h'.get? s.heap.objs.size = some o → s''.heap.get? s.heap.objs.size = some o) → (∀ o, h'.get? mainGlobals = some o → s''.heap.get? mainGlobals = some o) → (∀ o, h'.get? builtinsNs = some o → s''.heap.get? builtinsNs = some o) →
        gs.Goes (model prog w) A' (gR s.heap.objs.size N) (gY s.heap.objs.size N (ylds false 0 l)) (ylds false 0 l).length (.send .none) s'') →
      Q (.ref (s.heap.objs.size + 1)) { s with heap := h', toks := tk', gens := s.gens.push gs }) :
    wpAny (model prog w) A (call (.ref 55) [.str (S l) t]) Q E s := by
  refine wpAny_call (codeAny_call_generator hroom (X 55 _ rfl) rfl rfl rfl rfl (codeRec_of X rfl) ?_)
  refine wpAny_of_eq (a := [(Str.ofString "addr", .str (S l) t)]) rfl ?_
  refine wpAny_newFunctionEnv (by decide +kernel) (locs rfl) (fun h₁ hns hsb => ?_) rfl
  replace hns : h₁.Ns s.heap.objs.size (fun x => [(Str.ofString "addr", Value.str (S l) t)].reverse.lookup x) := hns
  replace hsb : Heap.SameBut s.heap.objs.size (s.heap.push { cls := .type "frame", data := .dict #[] }) h₁ := hsb
  have old₁ : ∀ b o, s.heap.get? b = some o → h₁.get? b = some o := fun b o e => hsb.extBut b o (Nat.ne_of_lt (Heap.lt_size e)) (Heap.get?_push_of_some _ e)
  have hsz₁ : h₁.objs.size = s.heap.objs.size + 1 := by rw [hsb.1, Heap.size_push]
  refine ⟨T.nolimit.fresh _ hsb, ?_⟩
  dsimp only
  rw [hsz₁]
  refine h _ _ _ ?_ (by rw [Heap.size_push, hsz₁]) (fun b o e => Heap.get?_push_of_some _ (old₁ b o e)) (by obtain ⟨o, _, _, ho, _⟩ := hns; exact ⟨o, Heap.get?_push_of_some _ ho⟩) ?_
  · rw [← hsz₁]
    exact ⟨_, _, _, Heap.get?_push_size _ rfl, rfl, rfl, rfl⟩
  · intro A' N s'' hA' hLN hN hkL hkg hkb
    refine ⟨rfl, ?_⟩
    have hne : ∀ {c : Addr} {m : Str → Option Value}, s.heap.Ns c m → s.heap.objs.size ≠ c := fun hn e => absurd hn.lt (by rw [← e]; exact Nat.lt_irrefl _)
    refine' gen_func (env := newEnv _ s.heap.objs.size 3 [] _ (some 55) (.ref 54) none 0) (m := fun x => [(Str.ofString "addr", Value.str (S l) t)].reverse.lookup x) (mg := mg) (mb := mb) (t := t) ?G ?ka ?ke ?gl ?bu ?hn ?hm ?hg ?hmg ?hb ?hmb ?lg ?lb hA' ?ln hN hl
    case G => exact ⟨rfl, rfl, rfl, rfl, rfl, rfl, rfl⟩
    case ka => exact rfl
    case ke => exact rfl
    case gl => exact rfl
    case bu => exact rfl
    case hn => exact (hns.push _).at' fun o e => hkL o e
    case hm => exact rfl
    case hg => exact (T.g.at' fun o e => Heap.get?_push_of_some _ (old₁ _ o e)).at' fun o e => hkg o e
    case hmg => exact mg_none_of X T.g rfl
    case hb => exact (T.b.at' fun o e => Heap.get?_push_of_some _ (old₁ _ o e)).at' fun o e => hkb o e
    case hmb => exact (T.builtins _ (by decide)).trans PyProof.Rows.Boot.«enumerate»
    case lg => exact hne T.g
    case lb => exact hne T.b
    case ln => exact hLN
end
end Mine
end
section
open PySem PySem.W PyProof.Rows PySem.Calls
set_option maxRecDepth 100000
set_option maxHeartbeats 8000000
namespace Mine
open Builtin.Str in
theorem idx_clip (a b len : Nat) : strSliceIndices (some (a : Int)) (some (b : Int)) 1 len = strSliceIndices (some ((min a len : Nat) : Int)) (some ((min b len : Nat) : Int)) 1 len := by
  have h1 : ¬ ((a : Int) < 0) := by omega
  have h2 : ¬ ((b : Int) < 0) := by omega
  have h3 : ¬ (((min a len : Nat) : Int) < 0) := by omega
  have h4 : ¬ (((min b len : Nat) : Int) < 0) := by omega
  have e1 : max (0 : Int) (min (a : Int) (len : Int)) = (min a len : Nat) := by omega
  have e2 : max (0 : Int) (min (b : Int) (len : Int)) = (min b len : Nat) := by omega
  have e3 : max (0 : Int) (min ((min a len : Nat) : Int) (len : Int)) = (min a len : Nat) := by omega
  have e4 : max (0 : Int) (min ((min b len : Nat) : Int) (len : Int)) = (min b len : Nat) := by omega
  simp only [strSliceIndices, h1, h2, h3, h4, if_false, e1, e2, e3, e4, show ((1 : Int) > 0) = True from by simp, if_true]
theorem slice_S (l : List Nat) (a b : Nat) : Txt.slice (S l) (some (a : Int)) (some (b : Int)) = S ((l.drop a).take (b - a)) := by
  have hc : Txt.slice (S l) (some (a : Int)) (some (b : Int)) = Txt.slice (S l) (some ((min a l.length : Nat) : Int)) (some ((min b l.length : Nat) : Int)) := by
    unfold Txt.slice
    rw [S_len, idx_clip]
  rw [hc]
  by_cases hab : min a l.length ≤ min b l.length
  · have := slice_closes (x := S l) (i := ((min a l.length : Nat) : Int)) (j := ((min b l.length : Nat) : Int)) (by rw [S_cps]; omega)
    rw [beq_iff_eq, S_cps] at this
    rw [this]
    show S _ = S _
    congr 1
    have e1 : (((min a l.length : Nat) : Int)).toNat = min a l.length := by omega
    have e2 : (((min b l.length : Nat) : Int) - ((min a l.length : Nat) : Int)).toNat = min b l.length - min a l.length := by omega
    rw [e1, e2]
    by_cases ha : a ≤ l.length
    · rw [Nat.min_eq_left ha]
      by_cases hb : b ≤ l.length
      · rw [Nat.min_eq_left hb]
      · rw [Nat.min_eq_right (by omega), List.take_of_length_le (by simp), List.take_of_length_le (by simp; omega)]
    · rw [Nat.min_eq_right (by omega), List.drop_of_length_le (by omega), List.drop_of_length_le (by omega)]; simp
  · have hz : Builtin.Str.strSliceIndices (some ((min a l.length : Nat) : Int)) (some ((min b l.length : Nat) : Int)) 1 l.length = [] := by
      have h3 : ¬ (((min a l.length : Nat) : Int) < 0) := by omega
      have h4 : ¬ (((min b l.length : Nat) : Int) < 0) := by omega
      have e3 : max (0 : Int) (min ((min a l.length : Nat) : Int) (l.length : Int)) = (min a l.length : Nat) := by omega
      have e4 : max (0 : Int) (min ((min b l.length : Nat) : Int) (l.length : Int)) = (min b l.length : Nat) := by omega
      have h5 : ¬ (((min a l.length : Nat) : Int) < ((min b l.length : Nat) : Int)) := by omega
      simp only [Builtin.Str.strSliceIndices, sliceRange, h3, h4, if_false, e3, e4, h5, show ((1 : Int) > 0) = True from by simp, if_true]
      simp
    unfold Txt.slice
    rw [S_len, hz]
    have : b - a = 0 := by omega
    rw [this]
    split
    · rename_i h
      have h' : 0 = l.length := by simpa using h
      rw [List.length_eq_zero_iff.mp h'.symm]; rfl
    · rfl
theorem slice_S_from (l : List Nat) (a : Nat) : Txt.slice (S l) (some (a : Int)) none = S (l.drop a) := by
  have : Txt.slice (S l) (some (a : Int)) none = Txt.slice (S l) (some (a : Int)) (some (l.length : Int)) := by
    unfold Txt.slice
    rw [StrLaws.sliceIdx_none_hi, S_len]
  rw [this, slice_S, List.take_of_length_le (by simp)]
section
variable {prog : Program} {w : World} {A : Around} {E : Value → Shared → Prop} {s : Shared} {value slice : Expr} {t : Tok} {h₀ : Heap} {L : Addr} {m : Str → Option Value} {news : List (Addr × Obj)} {Q : Value → Shared → Prop} {l : List Nat}
theorem slice_ss_S {a b : Nat} {ui uj : Tok} (hl : l.length ≤ 50000) (hF : Fr h₀ L s.heap m) (hN : News h₀ L s.heap news) (h : ∀ h' t' k, Fr h₀ L h' m → News h₀ L h' news → Q (.str (S ((l.drop a).take (b - a))) t') { s with heap := h', toks := k })
    (hs : subscripted slice false (.str (S l) t) (.ref s.heap.objs.size) = operate [.ref s.heap.objs.size, .str (S l) t] (getItem (.str (S l) t) (.ref s.heap.objs.size)) := by with_unfolding_all rfl)
    (ht : ∀ r, letTemporaryGo value (.str (S l) t) r = pure () := by intro _; with_unfolding_all rfl) :
    wpAny (model prog w) A (subscriptTail value slice (.str (S l) t) (.ref s.heap.objs.size)) Q E { s with heap := s.heap.push { cls := .type "slice", data := .fields #[.int (a : Int) ui, .int (b : Int) uj, .none] } } := by
  refine slice_strN_ss hF hN (fun h' t' k a b => ?_) hs ht (by rw [S_len]; exact sizeLine_of (by omega))
  rw [slice_S]; exact h h' t' k a b
theorem slice_sn_S {a : Nat} {ui : Tok} (hl : l.length ≤ 50000) (hF : Fr h₀ L s.heap m) (hN : News h₀ L s.heap news) (h : ∀ h' t' k, Fr h₀ L h' m → News h₀ L h' news → Q (.str (S (l.drop a)) t') { s with heap := h', toks := k })
    (hs : subscripted slice false (.str (S l) t) (.ref s.heap.objs.size) = operate [.ref s.heap.objs.size, .str (S l) t] (getItem (.str (S l) t) (.ref s.heap.objs.size)) := by with_unfolding_all rfl)
    (ht : ∀ r, letTemporaryGo value (.str (S l) t) r = pure () := by intro _; with_unfolding_all rfl) :
    wpAny (model prog w) A (subscriptTail value slice (.str (S l) t) (.ref s.heap.objs.size)) Q E { s with heap := s.heap.push { cls := .type "slice", data := .fields #[.int (a : Int) ui, .none, .none] } } := by
  refine slice_strN_sn hF hN (fun h' t' k a b => ?_) hs ht (by rw [S_len]; exact sizeLine_of (by omega))
  rw [slice_S_from]; exact h h' t' k a b
end
end Mine
end
section
open PySem PySem.W PyProof.Rows PySem.Calls
set_option maxRecDepth 100000
set_option maxHeartbeats 800000
namespace Mine
noncomputable abbrev SSt := Nat × Option Nat × List (List Nat)
noncomputable def stp (l : List Nat) (st : SSt) (y : Nat × List Nat) : SSt :=
  if y.2 = [34] then match st.2.1 with
    | none => (st.1, some y.1, st.2.2)
    | some o => (y.1 + 1, none, if st.1 = o then st.2.2 else st.2.2 ++ [(l.drop st.1).take (o - st.1)])
  else st
noncomputable def stripF (l : List Nat) : List Nat := let st := (ylds false 0 l).foldl (stp l) (0, none, []); st.2.2.flatten ++ l.drop st.1

noncomputable def stripR (e : Bool) (p : Option (List Nat)) : List Nat → List Nat
 | [] => p.getD []
 | c :: r => match p with
   | none => if e = false ∧ c = 34 then stripR false (some [34]) r else c :: stripR (!e && c == 92) none r
   | some q => if e = false ∧ c = 34 then stripR false none r else stripR (!e && c == 92) (some (q ++ [c])) r

theorem stripR_length : ∀ (l : List Nat) (e : Bool) (p : Option (List Nat)), (stripR e p l).length ≤ (p.getD []).length + l.length
  | [], e, p => by rw [stripR]; simp
  | c :: r, e, none => by
    have h1 := stripR_length r false (some [34])
    have h2 := stripR_length r (!e && c == 92) none
    rw [stripR]
    split
    · simp at h1 ⊢; omega
    · simp at h2 ⊢; omega
  | c :: r, e, some q => by
    have h1 := stripR_length r false none
    have h2 := stripR_length r (!e && c == 92) (some (q ++ [c]))
    rw [stripR]
    split
    · simp at h1 ⊢; omega
    · simp at h2 ⊢; omega

noncomputable def seg (l : List Nat) (a b : Nat) : List Nat := (l.drop a).take (b - a)
theorem seg_snoc {l r : List Nat} {a i c : Nat} (h : l.drop i = c :: r) (ha : a ≤ i) : seg l a (i + 1) = seg l a i ++ [c] := by
  unfold seg
  have e : i + 1 - a = (i - a) + 1 := by omega
  have hc : (l.drop a)[i - a]? = some c := by
    rw [List.getElem?_drop, show a + (i - a) = i from by omega]
    have : (l.drop i)[0]? = some c := by rw [h]; rfl
    rwa [List.getElem?_drop] at this
  rw [e, List.take_add_one, hc]; rfl
theorem seg_self (l : List Nat) (a : Nat) : seg l a a = [] := by unfold seg; simp
theorem seg_end {l : List Nat} {a i : Nat} (h : l.drop i = []) (ha : a ≤ i) : seg l a i = l.drop a := by
  unfold seg
  rw [List.drop_eq_nil_iff] at h
  exact List.take_of_length_le (by rw [List.length_drop]; omega)
theorem seg_cat {l : List Nat} {a b i : Nat} (h1 : a ≤ b) (h2 : b ≤ i) : seg l a b ++ seg l b i = seg l a i := by
  unfold seg
  have e : i - a = (b - a) + (i - b) := by omega
  rw [e, List.take_add, List.drop_drop, show a + (b - a) = b from by omega]

noncomputable def outF (l : List Nat) (st : SSt) : List Nat := st.2.2.flatten ++ l.drop st.1
theorem drop_succ {l r : List Nat} {i c : Nat} (h : l.drop i = c :: r) : l.drop (i + 1) = r := by
  rw [← List.drop_drop, h]; rfl
theorem strip_run (l : List Nat) : ∀ (r : List Nat) (i : Nat) (e : Bool) (s1 : Nat) (s2 : Option Nat) (s3 : List (List Nat)), l.drop i = r →
    (match s2 with
      | none => s1 ≤ i → outF l ((ylds e i r).foldl (stp l) (s1, none, s3)) = s3.flatten ++ seg l s1 i ++ stripR e none r
      | some o => s1 ≤ o → o < i → outF l ((ylds e i r).foldl (stp l) (s1, some o, s3)) = s3.flatten ++ seg l s1 o ++ stripR e (some (seg l o i)) r)
  | [], i, e, s1, s2, s3, h => by
    have hno : ∀ st : SSt, (ylds e i []).foldl (stp l) st = st := by
      intro st
      cases e with
      | true => rfl
      | false => rfl
    cases s2 with
    | none =>
      intro h1
      rw [hno, stripR]; unfold outF; rw [seg_end h h1]; simp
    | some o =>
      intro h1 h2
      rw [hno, stripR]; unfold outF
      show s3.flatten ++ l.drop s1 = s3.flatten ++ seg l s1 o ++ seg l o i
      rw [List.append_assoc, seg_cat h1 (by omega), seg_end h (by omega)]
  | c :: r, i, e, s1, s2, s3, h => by
    have hd := drop_succ h
    have step : ∀ (s2' : Option Nat) (s3' : List (List Nat)) (s1' : Nat), (e = false ∧ c = 34 → False) →
        (ylds e i (c :: r)).foldl (stp l) (s1', s2', s3') = (ylds (!e && c == 92) (i + 1) r).foldl (stp l) (s1', s2', s3') := by
      intro s2' s3' s1' hn
      cases e with
      | true =>
        rw [ylds, if_pos rfl, List.foldl_cons]
        rfl
      | false =>
        rw [ylds, if_neg Bool.false_ne_true]
        by_cases hc : c = 92
        · rw [if_pos hc, hc]; rfl
        · rw [if_neg hc, List.foldl_cons]
          have e1 : stp l (s1', s2', s3') (i, [c]) = (s1', s2', s3') := by
            unfold stp; rw [if_neg]; intro e2; exact hn ⟨rfl, by simpa using e2⟩
          have e3 : (!false && c == 92) = false := by simpa using hc
          rw [e1, e3]
    have quote : e = false ∧ c = 34 → ylds e i (c :: r) = (i, [34]) :: ylds false (i + 1) r := by
      rintro ⟨rfl, rfl⟩
      rw [ylds, if_neg Bool.false_ne_true, if_neg (by decide)]
    cases s2 with
    | none =>
      intro h1
      by_cases hq : e = false ∧ c = 34
      · rw [quote hq, List.foldl_cons, stripR]
        rw [if_pos hq]
        have e1 : stp l (s1, none, s3) (i, [34]) = (s1, some i, s3) := rfl
        rw [e1]
        have := strip_run l r (i + 1) false s1 (some i) s3 hd h1 (Nat.lt_succ_self _)
        rw [this, seg_snoc h (Nat.le_refl _), seg_self, hq.2]; rfl
      · rw [step _ _ _ hq, stripR]
        rw [if_neg hq]
        have := strip_run l r (i + 1) (!e && c == 92) s1 none s3 hd (by omega)
        rw [this, seg_snoc h h1]; simp
    | some o =>
      intro h1 h2
      by_cases hq : e = false ∧ c = 34
      · rw [quote hq, List.foldl_cons, stripR]
        rw [if_pos hq]
        have e1 : stp l (s1, some o, s3) (i, [34]) = (i + 1, none, if s1 = o then s3 else s3 ++ [seg l s1 o]) := rfl
        rw [e1]
        have := strip_run l r (i + 1) false (i + 1) none (if s1 = o then s3 else s3 ++ [seg l s1 o]) hd (Nat.le_refl _)
        rw [this, seg_self]
        split
        · rename_i e2; rw [e2, seg_self]
        · simp
      · rw [step _ _ _ hq, stripR]
        rw [if_neg hq]
        have := strip_run l r (i + 1) (!e && c == 92) s1 (some o) s3 hd h1 (by omega)
        rw [this, seg_snoc h (by omega)]
theorem stripF_eq (l : List Nat) : stripF l = stripR false none l := by
  have := strip_run l l 0 false 0 none [] rfl (Nat.le_refl _)
  rw [seg_self] at this
  exact this
theorem stripF_length (l : List Nat) : (stripF l).length ≤ l.length := by
  rw [stripF_eq]; simpa using stripR_length l false none
end Mine
end
theorem Mine.forgetStrip : True := by
  w_top off
  have h : True ∧ True := by
    try walk1
    all_goals (first | trivial | exact ⟨trivial, trivial⟩)
  exact h.1
section
open PySem PySem.W PyProof.Rows PySem.Calls
set_option maxRecDepth 100000
set_option maxHeartbeats 8000000
namespace Mine
local macro_rules | `(tactic| walk_at "call builtin:len") => `(tactic| ((with_reducible show wpAny _ _ (call (Value.builtin "len") [Value.str _ _]) _ _ _); refine SBL.len (by rw [S_len]; omega) ?_))
local macro_rules | `(tactic| walk_at "call builtin:str.join") => `(tactic| (refine join_Sl (News.isList (by assumption) (.head _)) (by first | assumption | exact (by assumption : ∀ t : Tok, StrsAre _ _) _) (by assumption) ?_; intro _ _))
local macro_rules | `(tactic| walk_at "call builtin:list.append") => `(tactic| (k_here; (with_reducible show wpAny _ _ (call (Value.builtin _) [Value.ref _, _]) _ _ _); k_dflt (refine' append_K ?k1 ?k2 ?k3 ?_ ?z; (case k1 => k_asm); (case k2 => k_asm); (case k3 => k_upd); (case z => assumption); k_whole); intro h' F' N'; (try k_sweep)))
local macro_rules | `(tactic| walk_at "subscriptTail Name Slice str ref") => `(tactic| ((with_reducible show wpAny _ _ (subscriptTail _ (Expr.Slice (some _) none none _) _ _) _ _ _); (with_reducible rename Fr _ _ _ _ => F'); (with_reducible rename News _ _ _ _ => N'); refine slice_sn_S (s := ⟨_, _, _, _, _⟩) (by assumption) F' N' ?_; intro _ _ _ _ _))
local macro_rules | `(tactic| walk_at "subscriptTail Name Slice str ref") => `(tactic| ((with_reducible show wpAny _ _ (subscriptTail _ (Expr.Slice (some _) (some _) none _) _ _) _ _ _); (with_reducible rename Fr _ _ _ _ => F'); (with_reducible rename News _ _ _ _ => N'); refine slice_ss_S (s := ⟨_, _, _, _, _⟩) (by assumption) F' N' ?_; intro _ _ _ _ _))

section
variable {prog : Program} {w : World} {A : Around} {E : Value → Shared → Prop} {Q : Value → Shared → Prop} {s : Shared} {mean : ExcName → Option Value} {mg mb : Str → Option Value} {l : List Nat} {t : Tok}

theorem ylds_length : ∀ (l : List Nat) (e : Bool) (i : Nat), (ylds e i l).length ≤ l.length + (if e = true then 1 else 0)
  | [], e, i => by cases e <;> simp [ylds]
  | c :: r, e, i => by
    have h0 := ylds_length r false (i + 1)
    have h1 := ylds_length r true (i + 1)
    rw [if_neg Bool.false_ne_true] at h0
    rw [if_pos rfl] at h1
    cases e with
    | true => simp [ylds]; omega
    | false =>
      by_cases hc : c = 92
      · simp [ylds, hc]; omega
      · simp [ylds, hc]; omega
theorem qt_S : Str.ofString "\"" = S [34] := by decide +kernel
theorem is_qt {x : List Nat} (h : (S x == Str.ofString "\"") = true) : x = [34] := by
  rw [qt_S, eqS_iff] at h; exact of_decide_eq_true h
theorem isnt_qt {x : List Nat} (h : (S x == Str.ofString "\"") = false) : ¬ x = [34] := by
  rw [qt_S, eqS_iff] at h; exact of_decide_eq_false h
local macro_rules | `(tactic| walk_at "own lk") => `(tactic| ((try dsimp only); repeat (first | rfl | rw [if_pos rfl] | rw [if_neg (by decide)])))
theorem ylds_free : ∀ (l : List Nat) (e : Bool) (i : Nat), 34 ∉ l → ∀ y ∈ ylds e i l, y.2 ≠ [34]
  | [], e, i, _, y, hy => by
    cases e with
    | true => rw [ylds, if_pos rfl, List.mem_singleton] at hy; subst hy; simp
    | false => rw [ylds, if_neg Bool.false_ne_true] at hy; cases hy
  | c :: r, e, i, h, y, hy => by
    have h1 : c ≠ 34 := fun e => h (by rw [e]; exact .head _)
    have h2 : 34 ∉ r := fun m => h (.tail _ m)
    cases e with
    | true =>
      rw [ylds, if_pos rfl] at hy
      rcases List.mem_cons.mp hy with rfl | hy
      · simp
      · exact ylds_free r false (i + 1) h2 y hy
    | false =>
      rw [ylds, if_neg Bool.false_ne_true] at hy
      by_cases hc : c = 92
      · rw [if_pos hc] at hy; exact ylds_free r true (i + 1) h2 y hy
      · rw [if_neg hc] at hy
        rcases List.mem_cons.mp hy with rfl | hy
        · simpa using h1
        · exact ylds_free r false (i + 1) h2 y hy
theorem stp_free (l : List Nat) : ∀ (R : List (Nat × List Nat)) (st : SSt), (∀ y ∈ R, y.2 ≠ [34]) → R.foldl (stp l) st = st
  | [], st, _ => rfl
  | y :: R, st, h => by
    have e : stp l st y = st := by unfold stp; rw [if_neg (h y (.head _))]
    rw [List.foldl_cons, e]; exact stp_free l R st fun z hz => h z (.tail _ hz)
theorem strip_free {l : List Nat} (h : 34 ∉ l) : stripF l = l := by
  unfold stripF
  rw [stp_free l _ _ (ylds_free l false 0 h)]; rfl
theorem join_Sl {D : Addr} {vs : Array Value} {ps : List (List Nat)} {e : Str} {te : Tok} {Q : Value → Shared → Prop} (hl : s.heap.IsList D vs) (hi : StrsAre vs.toList (ps.map S)) (hb : ps.flatten.length ≤ 50000)
    (h : ∀ t' k, Q (.str (S ps.flatten) t') { s with toks := k }) (he : e = S [] := by decide +kernel) : wpAny (model prog w) A (call (.builtin "str.join") [.str e te, .ref D]) Q E s := by
  subst he
  refine join_list hl hi (by rw [sum_S, S_len, List.length_nil]; omega) fun t' k => ?_
  rw [join_S]; exact h t' k
theorem post_gen {M : Model} {t : Sem Flow} {Q : Flow → Shared → Prop} (P : Shared → Prop) (hP : ∀ s, P s → Q .next s) (h : ∀ Q' : Flow → Shared → Prop, (∀ s, P s → Q' .next s) → wpAny M A t Q' E s) : wpAny M A t Q E s := h Q hP
theorem letGo_gen {tgt : List Expr} {k : Nat} {p : Pos} {Ga : Addr} {g : Nat} {v : Value} {Q : Unit → Shared → Prop} (hg : s.heap.IsGen Ga g) (h : Q () s) : wpAny (model prog w) A (letOwnedTupleGo (.Tuple tgt k p) (.ref Ga) v) Q E s := by
  obtain ⟨o, nm, qn, ho, hc, hd, hs⟩ := hg
  unfold letOwnedTupleGo
  cases v with
  | ref a =>
    refine wpAny_bind (wpAny_load ho ?_)
    rw [hc, hd]
    show wpAny _ A (if (["enumerate", "zip", "dict_itemiterator", "dict_reverseitemiterator", "odict_iterator", "itertools.zip_longest", "itertools.pairwise"].contains "generator" && _) = true then _ else _) Q E s
    rw [if_neg (by simp)]
    exact wpAny_pure h
  | _ => exact wpAny_pure h

noncomputable def opV : Option Nat → Tok → Value
  | none, _ => .none
  | some o, t => .int (o : Int) t

/-- the gens with the generator's place written anew -/
theorem push_set (a : Array GenState) (x y : GenState) : (a.push x).setIfInBounds a.size y = a.push y := by
  apply Array.ext'
  simp

structure SInv (s : Shared) (w : World) (prog : Program) (A : Around) (l : List Nat) (L Ra Lg : Addr) (k : Nat) (s' : Shared) : Prop where
  out : ∃ (h : Heap) (tk : Nat) (gs : GenState) (m : Str → Option Value) (R : List (Nat × List Nat)) (done : List (Nat × List Nat)) (st : SSt) (vs : List Value) (ep t1 t2 t3 : Nat) (a1 a2 : Addr) (oG oL o1 o2 : Obj) (nm qn : Value),
    s' = { s with heap := h, toks := tk, gens := s.gens.push gs } ∧ k = R.length + 1 ∧ ylds false 0 l = done ++ R ∧ st = done.foldl (stp l) (0, none, []) ∧
    Fr s.heap L h m ∧ News s.heap L h [(Ra, listOf vs.toArray ep), (Lg + 1, oG), (Lg, oL), (a1, o1), (a2, o2)] ∧ m "start" = some (.int (st.1 : Int) t1) ∧ m "open_pos" = some (opV st.2.1 t2) ∧ m "result" = some (.ref Ra) ∧ m "addr" = some (.str (S l) t3) ∧
    StrsAre vs (st.2.2.map S) ∧ vs.length ≤ done.length ∧ (oG.cls = .type "generator" ∧ oG.data = .fields #[.int s.gens.size 0, nm, qn] ∧ oG.slots = #[]) ∧ @LE.le Nat _ Lg a1 ∧ @LE.le Nat _ Lg a2 ∧
    ∀ s'' : Shared, (∀ b o, s.heap.get? b = some o → s''.heap.get? b = some o) → s''.heap.get? Lg = some oL → s''.heap.get? a1 = some o1 → s''.heap.get? a2 = some o2 → @LE.le Nat _ (Lg + 2) s''.heap.objs.size →
      gs.Goes (model prog w) A (gR Lg (Lg + 2)) (gY Lg (Lg + 2) (ylds false 0 l)) R.length (.send .none) s''

theorem frame_map {h₀ h : Heap} {L : Addr} {m : Str → Option Value} {a b c d e f : Value} (F : Fr h₀ L h (fun z => if z = Str.ofString "ch" then some a else if z = Str.ofString "pos" then some b else m z))
    (m1 : m "start" = some c) (m2 : m "open_pos" = some d) (m3 : m "result" = some e) (m4 : m "addr" = some f) :
    Fr h₀ L h (fun z => if z = Str.ofString "ch" then some a else if z = Str.ofString "pos" then some b else if z = Str.ofString "start" then some c else if z = Str.ofString "open_pos" then some d else if z = Str.ofString "result" then some e else if z = Str.ofString "addr" then some f else m z) := by
  have q : (fun z => if z = Str.ofString "ch" then some a else if z = Str.ofString "pos" then some b else if z = Str.ofString "start" then some c else if z = Str.ofString "open_pos" then some d else if z = Str.ofString "result" then some e else if z = Str.ofString "addr" then some f else m z) = (fun z => if z = Str.ofString "ch" then some a else if z = Str.ofString "pos" then some b else m z) := by
    funext z
    by_cases h1 : z = Str.ofString "ch"
    · rw [if_pos h1, if_pos h1]
    · rw [if_neg h1, if_neg h1]
      by_cases h2 : z = Str.ofString "pos"
      · rw [if_pos h2, if_pos h2]
      · rw [if_neg h2, if_neg h2]
        split
        · rename_i h; rw [h]; exact m1.symm
        · split
          · rename_i h; rw [h]; exact m2.symm
          · split
            · rename_i h; rw [h]; exact m3.symm
            · split
              · rename_i h; rw [h]; exact m4.symm
              · rfl
  rw [q]; exact F

theorem frame_map2 {h₀ h : Heap} {L : Addr} {m : Str → Option Value} {c e f : Value} (F : Fr h₀ L h m)
    (m1 : m "start" = some c) (m3 : m "result" = some e) (m4 : m "addr" = some f) :
    Fr h₀ L h (fun z => if z = Str.ofString "start" then some c else if z = Str.ofString "result" then some e else if z = Str.ofString "addr" then some f else m z) := by
  have q : (fun z => if z = Str.ofString "start" then some c else if z = Str.ofString "result" then some e else if z = Str.ofString "addr" then some f else m z) = m := by
    funext z
    split
    · rename_i h; rw [h]; exact m1.symm
    · split
      · rename_i h; rw [h]; exact m3.symm
      · split
        · rename_i h; rw [h]; exact m4.symm
        · rfl
  rw [q]; exact F
theorem strip_call (X : (hd.heap_39 w.params).In s.heap) (T : Top hd.view_39 VL mean mg mb s.heap)
   (hh : A.handled = none) (hroom : A.depth + 1 < recursionLimit) (hx : l.length ≤ 50000) (ht : 0 < s.toks)
   (ret : ∀ (t' : Tok) (h : Heap) (tk' : Nat) (gs : Array GenState), (∀ b o, s.heap.get? b = some o → h.get? b = some o) → 0 < tk' → ((∀ x ∈ s.gens, GenState.bare x = true) → ∀ x ∈ gs, GenState.bare x = true) → Q (.str (S (stripF l)) t') { s with heap := h, toks := tk', gens := gs }) :
   wpAny (model prog w) A (call (.ref 62) [.str (S l) t]) Q E s := by
  refine wpAny_with_toks (n := 1) ht ?_
  k_dflt (refine' enterM [(Str.ofString "addr", .str (S l) t)] X T.nolimit ?k3 ?k4 ?kr ?k6 ?k7 ?c5 ?_ ?c2 ?c3 ?c4; (case kr => omega); (case k3 => k_is); (case k4 => k_is); (case k6 => exact rfl); (case c5 => decide); (case k7 => exact locs rfl); (case c2 => exact rfl); (case c3 => exact rfl); (case c4 => exact rfl); k_whole)
  intro h₁ L tk F N htk
  try dsimp only
  k_steps
  · rename Fr _ _ _ _ => F2
    rename _ = true => hq
    rw [strip_free (occ_free (show Str.ofString "\"" = ⟨#[34]⟩ from by decide +kernel) hq)] at ret
    exact ret _ _ _ _ F2.keep (by assumption) (fun z => z)
  · rename Fr _ _ _ _ => F2
    rename News _ _ _ _ => N2
    rename_i hno _ _ _ Ra _ _ h2
    try clear N
    try clear F
    refine wpAny_For ?_
    k_steps
    have X2 := X.keeps F2.keep
    refine gen_call X2 (T.keeps F2.keep) (by show A.depth + 1 < recursionLimit; omega) (by omega) fun hG tkG gs hgen hszG hkG hlG hgo => ?_
    dsimp only
    dsimp only at hgen hszG hkG hgo hlG
    generalize hB : A.deeper _ = B
    have hBh : B.handled = none := by rw [← hB]; exact hh
    have hBd : B.depth < recursionLimit := by rw [← hB]; exact hroom
    clear hB
    refine wpAny_pyIter_gen hgen ?_
    have hLs : @LT.lt Nat _ L h2.objs.size := F2.ns.lt
    have hRas : @LT.lt Nat _ Ra h2.objs.size := Heap.lt_size (N2 _ (.head _)).1
    have hs2 : @LT.lt Nat _ s.heap.objs.size h2.objs.size := Nat.lt_of_le_of_lt F2.above hLs
    generalize hLg : h2.objs.size = Lg at *
    have fresh : ∀ b, @LE.le Nat _ Lg b → b ≠ L ∧ s.heap.get? b = none := fun b hb => ⟨Nat.ne_of_gt (Nat.lt_of_lt_of_le hLs hb), Heap.get?_none_of_le (Nat.le_trans (Nat.le_of_lt hs2) hb)⟩
    refine codeAny_forLoop_any (SInv s w prog B.in1 l L Ra Lg) ?_ ((ylds false 0 l).length + 1) ?_
    · rintro k s' ⟨h, tk, gs', m, R, done, st, vs, ep, t1, t2, t3, a1, a2, oG, oL, o1, o2, nm, qn, rfl, rfl, hY, hst, F', N', m1, m2, m3, m4, hvs, hvl, hoG, hla1, hla2, hgo'⟩
      have hgs : (s.gens.push gs')[s.gens.size]? = some gs' := by simp
      have X' := X.keeps F'.keep
      have hGa : h.get? (Lg + 1) = some oG := (N' _ (.tail _ (.head _))).1
      have hLo : h.get? Lg = some oL := (N' _ (.tail _ (.tail _ (.head _)))).1
      have hgen' : h.IsGen (Lg + 1) s.gens.size := ⟨oG, nm, qn, hGa, hoG⟩
      refine wpAny_pyNext_gen (n := R.length) (P := fun n s₀ s₁ => n = 0 ∧ Own3 Lg (Lg + 2) s₀ s₁) hBh ((T.nolimit).keeps F'.keep) hBd hgen' hgs
        (hgo' _ F'.keep hLo (N' _ (.tail _ (.tail _ (.tail _ (.head _))))).1 (N' _ (.tail _ (.tail _ (.tail _ (.tail _ (.head _)))))).1 (Heap.lt_size hGa)) ?_ ?_
      · rintro v s₁ gs₁ ⟨⟨pre, y, post, e1, e2, a, tp, tc, rfl, hit⟩, ⟨h1, tk1, rfl, hk1⟩, e, it, he, hi, ⟨⟨oL', hoL'⟩, ⟨oe, hoe⟩, ⟨oi, hoi⟩⟩, hlat⟩
        cases R with
        | nil => exact (hlat _ (fun _ _ _ z => z)).elim
        | cons y' R' =>
          obtain ⟨rfl, e3⟩ := List.append_inj' (hY.symm.trans e1) (by simp [e2])
          obtain ⟨rfl, rfl⟩ := List.cons.inj e3
          have eg : (({ s with heap := h, toks := tk, gens := s.gens.push gs' } : Shared).setGen s.gens.size .running) = { s with heap := h, toks := tk, gens := s.gens.push .running } := by
            unfold Shared.setGen; rw [push_set]
          have eg2 : ∀ x, (({ s with heap := h1, toks := tk1, gens := s.gens.push .running } : Shared).setGen s.gens.size x) = { s with heap := h1, toks := tk1, gens := s.gens.push x } := fun x => by
            unfold Shared.setGen; rw [push_set]
          rw [eg] at hk1 hlat ⊢
          dsimp only at hk1 hlat ⊢
          rw [eg2]
          replace hk1 : ∀ b, @LT.lt Nat _ b (Lg + 2) → b ≠ Lg → ∀ o, h.get? b = some o → h1.get? b = some o := hk1
          replace hit : h1.get? a = some { cls := .type "tuple", data := .seq #[.int (y'.1 : Int) tp, .str (S y'.2) tc] } := hit
          replace hoL' : h1.get? Lg = some oL' := hoL'
          replace hoe : h1.get? e = some oe := hoe
          replace hoi : h1.get? it = some oi := hoi
          have he' : @LE.le Nat _ Lg e := by rcases he with rfl | he; exact Nat.le_refl _; exact Nat.le_trans (Nat.le_add_right _ _) he
          have hi' : @LE.le Nat _ Lg it := by rcases hi with rfl | hi; exact Nat.le_refl _; exact Nat.le_trans (Nat.le_add_right _ _) hi
          have F1 : Fr s.heap L h1 m := ⟨F'.ns.at' fun o z => hk1 L (Nat.lt_add_right 2 hLs) (Nat.ne_of_lt hLs) o z, fun b o z => (have hb : @LT.lt Nat _ b Lg := Nat.lt_trans (Nat.lt_of_lt_of_le (Heap.lt_size z) F'.above) hLs; hk1 b (Nat.lt_add_right 2 hb) (Nat.ne_of_lt hb) o (F'.keep b o z)), F'.above⟩
          have N1 : News s.heap L h1 [(Ra, listOf vs.toArray ep), (Lg + 1, oG), (Lg, oL'), (e, oe), (it, oi)] := by
            intro p hp
            rcases List.mem_cons.mp hp with rfl | hp
            · exact ⟨hk1 Ra (Nat.lt_add_right 2 hRas) (Nat.ne_of_lt hRas) _ (N' _ (.head _)).1, (N' _ (.head _)).2⟩
            rcases List.mem_cons.mp hp with rfl | hp
            · exact ⟨hk1 (Lg + 1) (Nat.lt_succ_self _) (Nat.succ_ne_self _) _ hGa, fresh _ (Nat.le_succ _)⟩
            rcases List.mem_cons.mp hp with rfl | hp
            · exact ⟨hoL', fresh _ (Nat.le_refl _)⟩
            rcases List.mem_cons.mp hp with rfl | hp
            · exact ⟨hoe, fresh _ he'⟩
            rw [List.mem_singleton] at hp; subst hp
            exact ⟨hoi, fresh _ hi'⟩
          have hgen1 : h1.IsGen (Lg + 1) s.gens.size := ⟨oG, nm, qn, (N1 _ (.tail _ (.head _))).1, hoG⟩
          refine letGo_gen hgen1 ?_
          refine wpAny_assign_Tuple (items := #[.int (y'.1 : Int) tp, .str (S y'.2) tc]) hBh ⟨_, hit, rfl, _, rfl⟩ rfl rfl fun h3 hx3 => ?_
          replace hx3 : Heap.ExtBut h1.objs.size h1 h3 := hx3
          have old3 : ∀ b o, h1.get? b = some o → h3.get? b = some o := fun b o z => hx3 b o (Nat.ne_of_lt (Heap.lt_size z)) z
          have F3 := F1.keeps old3
          have N3 : News s.heap L h3 [(Ra, listOf vs.toArray ep), (Lg + 1, oG), (Lg, oL'), (e, oe), (it, oi)] := fun p hp => ⟨old3 _ _ (N1 p hp).1, (N1 p hp).2⟩
          show wpAny _ B (do holding [.str (S y'.2) tc] (assign (.Name "pos" _) _ (.int (y'.1 : Int) tp)); do holding [] (assign (.Name "ch" _) _ (.str (S y'.2) tc)); pure ()) _ _ _
          refine wpAny_bind (wpAny_holding (wpAny_assign_Name (stN F3 N3 fun h4 F4 N4 => ?_)))
          refine wpAny_bind (wpAny_holding (wpAny_assign_Name (stN F4 N4 fun h5 F5 N5 => wpAny_pure ?_)))
          clear F4 N4 F3 N3 F1 N1 hx3 old3 F' N' hgen1
          refine post_gen (fun s₃ => ∃ m', m' < (y' :: R').length + 1 ∧ SInv s w prog B.in1 l L Ra Lg m' s₃) (fun _ z => z) fun POST hPOST => ?_
          have fin : ∀ (h6 : Heap) (tk6 : Nat) (m6 : Str → Option Value) (st' : SSt) (vs' : List Value) (ep' t1' t2' t3' : Nat), st' = stp l st y' → Fr s.heap L h6 m6 → News s.heap L h6 [(Ra, listOf vs'.toArray ep'), (Lg + 1, oG), (Lg, oL'), (e, oe), (it, oi)] →
              m6 "start" = some (.int (st'.1 : Int) t1') → m6 "open_pos" = some (opV st'.2.1 t2') → m6 "result" = some (.ref Ra) → m6 "addr" = some (.str (S l) t3') → StrsAre vs' (st'.2.2.map S) → vs'.length ≤ vs.length + 1 →
              POST .next { s with heap := h6, toks := tk6, gens := s.gens.push gs₁ } := by
            intro h6 tk6 m6 st' vs' ep' t1' t2' t3' hst' F6 N6 q1 q2 q3 q4 hvs' hvl'
            refine hPOST _ ⟨R'.length + 1, by simp, ⟨h6, tk6, gs₁, m6, R', done ++ [y'], st', vs', ep', t1', t2', t3', e, it, oG, oL', oe, oi, nm, qn, rfl, rfl, by rw [hY]; simp, by rw [List.foldl_append, ← hst]; exact hst', F6, N6, q1, q2, q3, q4, hvs', by rw [List.length_append, List.length_singleton]; omega, hoG, he', hi', fun s'' hk0 hkL hke hki hsz => hlat s'' ?_⟩⟩
            rintro b (rfl | rfl | rfl) o z
            · rw [hoL'] at z; cases z; exact hkL
            · rw [hoe] at z; cases z; exact hke
            · rw [hoi] at z; cases z; exact hki
          obtain ⟨st1, st2, st3⟩ := st
          dsimp only at m1 m2 hvs fin
          have F6 := frame_map F5 m1 m2 m3 m4
          clear F5 hlat hgo' hgo hst m1 m2 m3 m4
          have hyl := ylds_length l false 0
          rw [hY, List.length_append] at hyl
          have hvz : vs.toArray.size ≤ sizeLine := by
            rw [List.size_toArray]; exact sizeLine_of (by have : (if false = true then 1 else 0) = 0 := rfl; omega)
          cases st2 with
          | none =>
            dsimp only [opV] at F6
            k_steps
            · rename (S y'.2 == Str.ofString "\"") = true => hq
              rename Fr _ _ _ _ => F7
              rename News _ _ _ _ => N7
              have hq' := is_qt hq
              refine fin _ _ _ (st1, some y'.1, st3) vs _ _ _ _ (by unfold stp; rw [if_pos hq']) F7 N7 (by walk_at "own lk") (by walk_at "own lk") (by walk_at "own lk") (by walk_at "own lk") hvs (by omega)
            · rename (S y'.2 == Str.ofString "\"") = false => hq
              have hq' := isnt_qt hq
              exact fin _ _ _ (st1, none, st3) vs _ _ 0 _ (by unfold stp; rw [if_neg hq']) F6 N5 (by walk_at "own lk") (by walk_at "own lk") (by walk_at "own lk") (by walk_at "own lk") hvs (by omega)
          | some o =>
            dsimp only [opV] at F6
            k_steps
            · rename (S y'.2 == Str.ofString "\"") = true => hq
              rename Fr _ _ _ _ => F7
              rename News _ _ _ _ => N7
              rename (st1 : Int) ≠ (o : Int) => hne
              have hq' := is_qt hq
              rw [List.push_toArray] at N7
              refine fin _ _ _ (y'.1 + 1, none, st3 ++ [(l.drop st1).take (o - st1)]) _ _ _ 0 _ (by unfold stp; rw [if_pos hq']; dsimp only; rw [if_neg (fun e => hne (by rw [e]))]) F7 N7 (by walk_at "own lk") (by walk_at "own lk") (by walk_at "own lk") (by walk_at "own lk") ?_ ?_
              · rw [List.map_append]; exact strsAre_snoc hvs _ _
              · rw [List.length_append]; exact Nat.le_refl _
            · rename (S y'.2 == Str.ofString "\"") = true => hq
              rename Fr _ _ _ _ => F7
              rename News _ _ _ _ => N7
              rename (st1 : Int) = (o : Int) => hne
              have hq' := is_qt hq
              refine fin _ _ _ (y'.1 + 1, none, st3) vs _ _ 0 _ (by unfold stp; rw [if_pos hq']; dsimp only; rw [if_pos (by omega)]) F7 N7 (by walk_at "own lk") (by walk_at "own lk") (by walk_at "own lk") (by walk_at "own lk") hvs (by omega)
            · rename (S y'.2 == Str.ofString "\"") = false => hq
              have hq' := isnt_qt hq
              exact fin _ _ _ (st1, some o, st3) vs _ _ _ _ (by unfold stp; rw [if_neg hq']) F6 N5 (by walk_at "own lk") (by walk_at "own lk") (by walk_at "own lk") (by walk_at "own lk") hvs (by omega)
      · rintro s₁ ⟨hn0, hown⟩ h' hk'
        have hR : R = [] := List.length_eq_zero_iff.mp hn0
        subst hR
        obtain ⟨h1, tk1, rfl, hk1⟩ := hown
        have eg : (({ s with heap := h, toks := tk, gens := s.gens.push gs' } : Shared).setGen s.gens.size .running) = { s with heap := h, toks := tk, gens := s.gens.push .running } := by
          unfold Shared.setGen; rw [push_set]
        have eg2 : (({ s with heap := h1, toks := tk1, gens := s.gens.push .running } : Shared).setGen s.gens.size .finished) = { s with heap := h1, toks := tk1, gens := s.gens.push .finished } := by
          unfold Shared.setGen; rw [push_set]
        rw [eg] at hk1 hk' ⊢
        dsimp only at hk1 hk' ⊢
        rw [eg2]
        replace hk1 : ∀ b, @LT.lt Nat _ b (Lg + 2) → b ≠ Lg → ∀ o, h.get? b = some o → h'.get? b = some o := fun b x y o z => hk' b o (hk1 b x y o z)
        have F1 : Fr s.heap L h' m := ⟨F'.ns.at' fun o z => hk1 L (Nat.lt_add_right 2 hLs) (Nat.ne_of_lt hLs) o z, fun b o z => (have hb : @LT.lt Nat _ b Lg := Nat.lt_trans (Nat.lt_of_lt_of_le (Heap.lt_size z) F'.above) hLs; hk1 b (Nat.lt_add_right 2 hb) (Nat.ne_of_lt hb) o (F'.keep b o z)), F'.above⟩
        have N1 : News s.heap L h' [(Ra, listOf vs.toArray ep)] := by
          intro p hp
          rw [List.mem_singleton] at hp; subst hp
          exact ⟨hk1 Ra (Nat.lt_add_right 2 hRas) (Nat.ne_of_lt hRas) _ (N' _ (.head _)).1, (N' _ (.head _)).2⟩
        rw [List.append_nil] at hY
        have hfin : stripF l = st.2.2.flatten ++ l.drop st.1 := by unfold stripF; rw [hY, ← hst]
        rw [hfin] at ret
        have hyl := ylds_length l false 0
        rw [hY] at hyl
        have hvz : vs.toArray.size ≤ sizeLine := by
          rw [List.size_toArray]; exact sizeLine_of (by have : (if false = true then 1 else 0) = 0 := rfl; omega)
        obtain ⟨st1, st2, st3⟩ := st
        dsimp only at m1 m2 hvs ret
        have F6 := frame_map2 F1 m1 m3 m4
        clear F1 F' N' hgo' hgo hst m1 m2 m3 m4 eg eg2 hk' hk1 X' hGa hLo hgen' hgs hla1 hla2
        have hfl : st3.flatten.length ≤ 50000 := by
          have h3 := stripF_length l
          rw [hfin, List.length_append] at h3
          dsimp only at h3; omega
        have hfl2 : (st3 ++ [l.drop st1]).flatten.length ≤ 50000 := by
          have h3 := stripF_length l
          rw [hfin] at h3
          rw [List.flatten_append]; simpa using Nat.le_trans h3 hx
        have hvs2 : ∀ (t : Tok), StrsAre (vs.toArray.push (.str (S (l.drop st1)) t)).toList ((st3 ++ [l.drop st1]).map S) := fun t => by
          rw [List.map_append, Array.toList_push]; exact strsAre_snoc hvs _ _
        clear hfin
        have hbare : (∀ x ∈ s.gens, GenState.bare x = true) → ∀ x ∈ s.gens.push GenState.finished, GenState.bare x = true := fun hb x hx => by
          rcases Array.mem_push.mp hx with hx | rfl
          · exact hb x hx
          · rfl
        k_steps
        · rename Fr _ _ _ _ => F7
          rename News _ _ _ _ => N7
          refine join_Sl (News.isList N7 (.head _)) (hvs2 _) hfl2 (fun t' k hk => ?_)
          rw [List.flatten_append, show [l.drop st1].flatten = l.drop st1 from by simp]
          exact ret t' _ k _ F7.keep hk hbare
        · rename ¬ _ => hlt
          have hd : l.drop st1 = [] := List.drop_of_length_le (by rw [S_len] at hlt; omega)
          refine join_Sl (News.isList N1 (.head _)) (by simpa using hvs) hfl (fun t' k hk => ?_)
          rw [hd, List.append_nil] at ret
          exact ret t' _ k _ F6.keep hk hbare
    · obtain ⟨oL, hoL⟩ := hlG
      obtain ⟨oG, nm, qn, hoG, hcd⟩ := hgen
      refine ⟨hG, tkG, gs, _, ylds false 0 l, [], (0, none, []), [], 0, _, 0, t, Lg, Lg, oG, oL, oL, oL, nm, qn, rfl, rfl, rfl, rfl, F2.keeps hkG, ?_, by walk_at "own lk", by walk_at "own lk", by walk_at "own lk", by walk_at "own lk", .nil, Nat.le_refl _, hcd, Nat.le_refl _, Nat.le_refl _, fun s'' hk0 hkL _ _ hsz => hgo B.in1 (Lg + 2) s'' hBh (Nat.lt_add_of_pos_right (by decide)) hsz (fun o z => ?_) (fun o z => ?_) (fun o z => ?_)⟩
      · intro p hp
        rcases List.mem_cons.mp hp with rfl | hp
        · exact ⟨hkG _ _ (N2 _ (.head _)).1, (N2 _ (.head _)).2⟩
        rcases List.mem_cons.mp hp with rfl | hp
        · exact ⟨hoG, fresh _ (Nat.le_succ _)⟩
        have hp' : p = (Lg, oL) := by simpa using hp
        subst hp'
        exact ⟨hoL, fresh _ (Nat.le_refl _)⟩
      · rw [hoL] at z; cases z; exact hkL
      · obtain ⟨o', _, _, e, _⟩ := T.g
        have e2 := hkG _ _ (F2.keep _ _ e)
        rw [e2] at z; cases z; exact hk0 _ _ e
      · obtain ⟨o', _, _, e, _⟩ := T.b
        have e2 := hkG _ _ (F2.keep _ _ e)
        rw [e2] at z; cases z; exact hk0 _ _ e
end
end Mine
end
theorem Mine.forgetDone : True := by
  w_top off
  have h : True ∧ True := by
    try walk1
    all_goals (first | trivial | exact ⟨trivial, trivial⟩)
  exact h.1
section
open PySem PySem.W PyProof.Rows PySem.Calls
set_option maxRecDepth 100000
set_option maxHeartbeats 400000
namespace Mine
local macro_rules | `(tactic| walk_at "execs cons") => `(tactic| (with_reducible refine wpAny_execs_cons ?_; try dsimp only))
local macro_rules | `(tactic| walk_at "execs nil") => `(tactic| (with_reducible refine wpAny_execs_nil ?_; try dsimp only))
theorem is_S {x : List Nat} {c : Nat} {y : Str} (ey : y = S [c]) (h : (S x == y) = true) : x = [c] := by
  rw [ey, eqS_iff] at h; exact of_decide_eq_true h
theorem isnt_S {x : List Nat} {c : Nat} {y : Str} (ey : y = S [c]) (h : (S x == y) = false) : ¬ x = [c] := by
  rw [ey, eqS_iff] at h; exact of_decide_eq_false h
noncomputable def doneL (marks : Bool) (c : Nat) (l : List Nat) : List Nat := if c = 114 then stripF l else if c = 115 then quoteL l else if marks then escA l else escC l
/-- what a call that hands back a text, and may use generators, may change -/
noncomputable abbrev RetG (s : Shared) (Q : Value → Shared → Prop) (r : List Nat) : Prop :=
  ∀ (t' : Tok) (h : Heap) (tk' : Nat) (gs : Array GenState), (∀ b o, s.heap.get? b = some o → h.get? b = some o) → 0 < tk' → ((∀ x ∈ s.gens, GenState.bare x = true) → ∀ x ∈ gs, GenState.bare x = true) → Q (.str (S r) t') { s with heap := h, toks := tk', gens := gs }
section
variable {prog : Program} {w : World} {A : Around} {E : Value → Shared → Prop} {Q : Value → Shared → Prop} {s : Shared} {mean : ExcName → Option Value} {mg mb : Str → Option Value} {l : List Nat} {t u : Tok}
theorem done_call {c : Nat} {marks : Bool} (X : (hd.heap_39 w.params).In s.heap) (T : Top hd.view_39 VL mean mg mb s.heap)
   (hh : A.handled = none) (hroom : A.depth + 2 < recursionLimit) (hx : l.length ≤ 20000) (ht : 0 < s.toks)
   (ret : RetG s Q (doneL marks c l)) : wpAny (model prog w) A (call (.ref 95) [.str (S [c]) u, .str (S l) t, .bool marks]) Q E s := by
  refine wpAny_with_toks (n := 1) ht ?_
  k_dflt (refine' enterM [(Str.ofString "hand", .str (S [c]) u), (Str.ofString "text", .str (S l) t), (Str.ofString "marks", .bool marks)] X T.nolimit ?k3 ?k4 ?kr ?k6 ?k7 ?c5 ?_ ?c2 ?c3 ?c4; (case kr => omega); (case k3 => k_is); (case k4 => k_is); (case k6 => exact rfl); (case c5 => decide); (case k7 => exact locs rfl); (case c2 => exact rfl); (case c3 => exact rfl); (case c4 => exact rfl); k_whole)
  intro h₁ L tk F N htk
  replace htk : 0 < tk := Nat.lt_of_lt_of_le ht htk
  try dsimp only
  k_steps
  · rename (S [c] == Str.ofString "r") = true => e1
    have e1 : c = 114 := by simpa using is_S (by decide +kernel) e1
    subst e1
    refine strip_call (X.keeps F.keep) (T.keeps F.keep) hh (by show A.depth + 1 + 1 < _; omega) (by omega) (by dsimp only; omega) fun t' h tk' gs k p g => ?_
    exact fun p' => ret t' h tk' gs (fun b o z => k b o (F.keep b o z)) p g
  · rename (S [c] == Str.ofString "r") = false => e1
    rename (S [c] == Str.ofString "s") = true => e2
    have e1 : ¬ c = 114 := by simpa using isnt_S (by decide +kernel) e1
    have e2 : c = 115 := by simpa using is_S (by decide +kernel) e2
    rw [doneL, if_neg e1, if_pos e2] at ret
    refine quote_call (X.keeps F.keep) (T.keeps F.keep) hh (by show A.depth + 1 < _; omega) (by omega) (by dsimp only; omega) fun t' h tk' k p => ?_
    exact fun p' => ret t' h tk' _ (fun b o z => k b o (F.keep b o z)) p (fun z => z)
  · rename (S [c] == Str.ofString "r") = false => e1
    rename (S [c] == Str.ofString "s") = false => e2
    have e1 : ¬ c = 114 := by simpa using isnt_S (by decide +kernel) e1
    have e2 : ¬ c = 115 := by simpa using isnt_S (by decide +kernel) e2
    rename marks = true => e3
    rw [doneL, if_neg e1, if_neg e2, if_pos e3] at ret
    refine escA_call (X.keeps F.keep) (T.keeps F.keep) hh (by show A.depth + 1 < _; omega) (by omega) (by dsimp only; omega) fun t' h tk' k p => ?_
    exact fun p' => ret t' h tk' _ (fun b o z => k b o (F.keep b o z)) p (fun z => z)
  · rename (S [c] == Str.ofString "r") = false => e1
    rename (S [c] == Str.ofString "s") = false => e2
    have e1 : ¬ c = 114 := by simpa using isnt_S (by decide +kernel) e1
    have e2 : ¬ c = 115 := by simpa using isnt_S (by decide +kernel) e2
    rename marks = false => e3
    rw [doneL, if_neg e1, if_neg e2, if_neg (by rw [e3]; decide)] at ret
    refine escC_call (X.keeps F.keep) (T.keeps F.keep) hh (by show A.depth + 1 < _; omega) (by omega) (by dsimp only; omega) fun t' h tk' k p => ?_
    exact fun p' => ret t' h tk' _ (fun b o z => k b o (F.keep b o z)) p (fun z => z)
end
end Mine
end
section
open PySem PySem.W PyProof.Rows PySem.Calls
set_option maxRecDepth 100000
set_option maxHeartbeats 800000
namespace Mine
/-- s' is s with more objects: nothing old is changed -/
noncomputable def Grow (nt : Nat) (s s' : Shared) : Prop :=
  ∃ h tk gs, s' = { s with heap := h, toks := tk, gens := gs } ∧ (∀ b o, s.heap.get? b = some o → h.get? b = some o) ∧ nt ≤ tk ∧ ((∀ x ∈ s.gens, GenState.bare x = true) → ∀ x ∈ gs, GenState.bare x = true)
theorem Grow.keep {nt : Nat} {s s' : Shared} (g : Grow nt s s') : ∀ b o, s.heap.get? b = some o → s'.heap.get? b = some o := by obtain ⟨h, tk, gs, rfl, k, _⟩ := g; exact k
theorem Grow.pos {nt : Nat} {s s' : Shared} (g : Grow nt s s') : nt ≤ s'.toks := by obtain ⟨h, tk, gs, rfl, k, p, _⟩ := g; exact p
theorem Grow.trans {nt : Nat} {a b c : Shared} (x : Grow nt a b) (y : Grow nt b c) : Grow nt a c := by
  obtain ⟨h, tk, gs, rfl, k, p, q⟩ := x
  obtain ⟨h', tk', gs', rfl, k', p', q'⟩ := y
  exact ⟨h', tk', gs', rfl, fun b o e => k' b o (k b o e), p', fun z => q' (q z)⟩
theorem Grow.refl {nt : Nat} {s : Shared} (p : nt ≤ s.toks) : Grow nt s s := ⟨_, _, _, rfl, fun _ _ e => e, p, fun z => z⟩
/-- a step that changes places that s does not hold -/
theorem Grow.but {nt : Nat} {s s' : Shared} {h : Heap} {tk : Nat} (g : Grow nt s s') (k : ∀ b o, @LT.lt Nat _ b s.heap.objs.size → s'.heap.get? b = some o → h.get? b = some o) (p : nt ≤ tk) : Grow nt s { s' with heap := h, toks := tk } := by
  obtain ⟨h', tk', gs, rfl, k', p', q'⟩ := g
  exact ⟨h, tk, gs, rfl, fun b o e => k b o (Heap.lt_size e) (k' b o e), p, q'⟩

section
variable {nt : Nat} {prog : Program} {w : World} {A : Around} {E : Value → Shared → Prop} {R : Result → Shared → Prop} {s : Shared} {env : Env}

theorem compTurn_nest0 (elt t0 i0 t1 i1 : Expr) (scope : Scope) (pos : Pos) (it acc : Value) (env : Env) :
    compTurn (.ListComp elt [⟨t0, i0, [], 0⟩, ⟨t1, i1, [], 0⟩] scope pos) 0 it acc env = (standAt i0.pos >>= fun _ => pyNext it >>= fun r => match r with
      | none => pure (.done .next)
      | some v => letOwnedTupleGo t0 it v >>= fun _ => assign t0 env v >>= fun _ =>
        eval i1 env >>= fun x => standAt i1.pos >>= fun _ => foldedSetIterable i1 env x >>= fun x => holding [x] (pyIter x) >>= fun it1 =>
          runOwn (.compStart (.ListComp elt [⟨t0, i0, [], 0⟩, ⟨t1, i1, [], 0⟩] scope pos) 1 it1 acc env) env >>= fun _ =>
          again (.compLoop (.ListComp elt [⟨t0, i0, [], 0⟩, ⟨t1, i1, [], 0⟩] scope pos) 0 it acc env)) := by rfl
theorem compTurn_nest1 (elt t0 i0 t1 i1 : Expr) (scope : Scope) (pos : Pos) (it acc : Value) (env : Env) :
    compTurn (.ListComp elt [⟨t0, i0, [], 0⟩, ⟨t1, i1, [], 0⟩] scope pos) 1 it acc env = (standAt i1.pos >>= fun _ => pyNext it >>= fun r => match r with
      | none => pure (.done .next)
      | some v => letOwnedTupleGo t1 it v >>= fun _ => assign t1 env v >>= fun _ =>
        (eval elt env >>= fun x => call (.builtin "list.append") [acc, x] >>= fun _ => pure ()) >>= fun _ =>
          again (.compLoop (.ListComp elt [⟨t0, i0, [], 0⟩, ⟨t1, i1, [], 0⟩] scope pos) 1 it acc env)) := by rfl

/-- the outer of two clauses -/
theorem compLoop_nest0 {elt t0 i0 t1 i1 : Expr} {scope : Scope} {pos : Pos} {it acc : Value} {env : Env} (I : Nat → Shared → Prop)
    (turn : ∀ n s, I n s → wpAny (model prog w) A (pyNext it) (fun r s₁ => match r with
      | none => R (.ok .next) s₁
      | some v => wpAny (model prog w) A (letOwnedTupleGo t0 it v) (fun _ s₁' => wpAny (model prog w) A (assign t0 env v) (fun _ s₂ =>
          wpAny (model prog w) A (eval i1 env) (fun x s₃ => foldedSetIterable i1 env x = pure x ∧ wpAny (model prog w) A (pyIter x) (fun it1 s₄ =>
            codeAny (model prog w) A (.compStart (.ListComp elt [⟨t0, i0, [], 0⟩, ⟨t1, i1, [], 0⟩] scope pos) 1 it1 acc env) (fun r s₅ => r = .ok .next ∧ ∃ m, m < n ∧ I m s₅) s₄) (fun _ _ => False) s₃) (fun _ _ => False) s₂)
          (fun _ _ => False) s₁') (fun _ _ => False) s₁) (fun _ _ => False) s)
    (n : Nat) (h : I n s) : codeAny (model prog w) A (.compLoop (.ListComp elt [⟨t0, i0, [], 0⟩, ⟨t1, i1, [], 0⟩] scope pos) 0 it acc env) R s := by
  refine codeAny_loop rfl I (fun n s hI => ?_) n h
  show wpAny _ A ((compTurn (.ListComp elt [⟨t0, i0, [], 0⟩, ⟨t1, i1, [], 0⟩] scope pos) 0 it acc env).onRaise (fun x => do noteFrame x env; theTreesLotGoes x)) _ _ s
  refine wpAny_noted ?_
  rw [compTurn_nest0]
  refine wpAny_bind (wpAny_standAt (wpAny_bind (wpAny_mono (turn n s hI) (fun r s₁ h₁ => ?_) fun _ _ h' => h'.elim)))
  cases r with
  | none => exact wpAny_pure h₁
  | some v =>
    refine wpAny_bind (wpAny_mono h₁ (fun _ s₁' h₁' => ?_) fun _ _ h' => h'.elim)
    refine wpAny_bind (wpAny_mono h₁' (fun _ s₂ h₂ => ?_) fun _ _ h' => h'.elim)
    refine wpAny_bind (wpAny_mono h₂ (fun x s₃ h₃ => ?_) fun _ _ h' => h'.elim)
    obtain ⟨hf, h₃⟩ := h₃
    refine wpAny_bind (wpAny_standAt (wpAny_bind (wpAny_of_eq hf (wpAny_bind (wpAny_holding (wpAny_mono h₃ (fun it1 s₄ h₄ => ?_) fun _ _ h' => h'.elim))))))
    refine wpAny_bind (wpAny_runOwn (codeAny_mono h₄ fun r s₅ h₅ => ?_) (fun e => by cases e))
    obtain ⟨rfl, h₅⟩ := h₅
    exact wpAny_pure ⟨rfl, h₅⟩

theorem compLoop_nest1 {elt t0 i0 t1 i1 : Expr} {scope : Scope} {pos : Pos} {it acc : Value} {env : Env} (I : Nat → Shared → Prop)
    (turn : ∀ n s, I n s → wpAny (model prog w) A (pyNext it) (fun r s₁ => match r with
      | none => R (.ok .next) s₁
      | some v => wpAny (model prog w) A (letOwnedTupleGo t1 it v) (fun _ s₁' => wpAny (model prog w) A (assign t1 env v) (fun _ s₂ =>
          wpAny (model prog w) A (eval elt env) (fun x s₄ =>
              wpAny (model prog w) A (call (.builtin "list.append") [acc, x]) (fun _ s₅ => ∃ m, m < n ∧ I m s₅) (fun _ _ => False) s₄) (fun _ _ => False) s₂)
          (fun _ _ => False) s₁') (fun _ _ => False) s₁) (fun _ _ => False) s)
    (n : Nat) (h : I n s) : codeAny (model prog w) A (.compLoop (.ListComp elt [⟨t0, i0, [], 0⟩, ⟨t1, i1, [], 0⟩] scope pos) 1 it acc env) R s := by
  refine codeAny_loop rfl I (fun n s hI => ?_) n h
  show wpAny _ A ((compTurn (.ListComp elt [⟨t0, i0, [], 0⟩, ⟨t1, i1, [], 0⟩] scope pos) 1 it acc env).onRaise (fun x => do noteFrame x env; theTreesLotGoes x)) _ _ s
  refine wpAny_noted ?_
  rw [compTurn_nest1]
  refine wpAny_bind (wpAny_standAt (wpAny_bind (wpAny_mono (turn n s hI) (fun r s₁ h₁ => ?_) fun _ _ h' => h'.elim)))
  cases r with
  | none => exact wpAny_pure h₁
  | some v =>
    refine wpAny_bind (wpAny_mono h₁ (fun _ s₁' h₁' => ?_) fun _ _ h' => h'.elim)
    refine wpAny_bind (wpAny_mono h₁' (fun _ s₂ h₂ => ?_) fun _ _ h' => h'.elim)
    exact wpAny_bind (wpAny_bind (wpAny_mono h₂ (fun x s₄ h₄ => wpAny_bind (wpAny_mono h₄ (fun _ s₅ h₅ => wpAny_pure (wpAny_pure ⟨rfl, h₅⟩)) fun _ _ h' => h'.elim)) fun _ _ h' => h'.elim))

theorem compStart_nest1 {elt t0 i0 t1 i1 : Expr} {scope : Scope} {pos : Pos} {it acc : Value} {env : Env}
    (h0 : codeAny (model prog w) A (.compLoop (.ListComp elt [⟨t0, i0, [], 0⟩, ⟨t1, i1, [], 0⟩] scope pos) 1 it acc env) R s)
    (h : wpAny (model prog w) A (pyIter it) (fun it' s' => codeAny (model prog w) A (.compLoop (.ListComp elt [⟨t0, i0, [], 0⟩, ⟨t1, i1, [], 0⟩] scope pos) 1 it' acc env) R s')
      (fun _ _ => False) s) :
    codeAny (model prog w) A (.compStart (.ListComp elt [⟨t0, i0, [], 0⟩, ⟨t1, i1, [], 0⟩] scope pos) 1 it acc env) R s := by
  refine codeAny_of_tree ?_
  show wpAny _ _ ((compStart (.ListComp elt [⟨t0, i0, [], 0⟩, ⟨t1, i1, [], 0⟩] scope pos) 1 it acc env).onRaise (fun x => do noteFrame x env; standAt theWindowsPlace)) _ _ s
  refine wpAny_notedAt ?_
  unfold compStart
  show wpAny _ _ (ask >>= _) _ _ s
  refine wpAny_bind (wpAny_askSetting (wpAny_ite ?_))
  split
  · first
      | exact wpAny_bind (wpAny_pure (wpAny_pure (And.intro rfl h0)))
      | exact wpAny_pure (And.intro rfl h0)
  · refine wpAny_bind (wpAny_rule ?_)
    show wpAny _ _ (standAt i1.pos >>= _) _ _ s
    exact wpAny_bind (wpAny_standAt (wpAny_bind (wpAny_mono h (fun it' s' h' => wpAny_pure (And.intro rfl h')) fun _ _ x => x.elim)))

/-- the opening of a list comprehension: its list D and its frame C -/
theorem comp_open {elt target iter : Expr} {ifs : List Expr} {rest : List Comprehension} {scope : Scope} {cl : List (Str × Addr)} {pos : Pos} {I : Addr} {RR : Value → Addr → Result → Shared → Prop}
    (hcell : ∀ y ∈ scope.names, y.2 ≠ .cell) (hkind : scope.kind = .function)
    (self : ∀ (s' : Shared) (Q : Value → Shared → Prop) (E : Value → Shared → Prop), (∀ b o, s.heap.get? b = some o → s'.heap.get? b = some o) → Q (.ref I) s' → wpAny (model prog w) A (pyIter (.ref I)) Q E s')
    (hp : nt ≤ s.toks)
    (loop : ∀ h₁ m0 tk, (∀ b o, s.heap.get? b = some o → h₁.get? b = some o) → h₁.get? s.heap.objs.size = some (LCg.lst []) → h₁.Ns (s.heap.objs.size + 1) m0 → h₁.objs.size = s.heap.objs.size + 2 → nt ≤ tk →
      codeAny (model prog w) A (.compLoop (.ListComp elt (⟨target, iter, ifs, 0⟩ :: rest) scope pos) 0 (.ref I) (.ref s.heap.objs.size) (compEnvC scope cl (s.heap.objs.size + 1) env)) (RR (.ref s.heap.objs.size) (s.heap.objs.size + 1)) { s with heap := h₁, toks := tk }) :
    wpAny (model prog w) A (newList []) (fun acc s₃ => wpAny (model prog w) A (newFunctionEnv scope env.globals cl [] env.qual none .none (some env)) (fun cenv s₄ =>
      codeAny (model prog w) A (.compStart (.ListComp elt (⟨target, iter, ifs, 0⟩ :: rest) scope pos) 0 (.ref I) acc { cenv with scope := relabel scope env }) (RR acc cenv.locals) s₄) E s₃) E s := by
  refine wpAny_newObj_type (wpAny_newFunctionEnv hcell (by intro y hy; simp at hy) (fun h₁ hns₁ hsb₁ => ?_) hkind)
  dsimp only at hns₁ hsb₁ ⊢
  generalize hH2 : s.heap.push { cls := .type "list", dict := none, data := .seq ([] : List Value).toArray } = H2 at hns₁ hsb₁ ⊢
  have hC : H2.objs.size = s.heap.objs.size + 1 := by rw [← hH2, Heap.size_push]
  rw [hC] at hns₁ hsb₁ ⊢
  have old : ∀ b o, s.heap.get? b = some o → h₁.get? b = some o := fun b o e => hsb₁.extBut b o (Nat.ne_of_lt (Nat.lt_succ_of_lt (Heap.lt_size e))) (Heap.get?_push_of_some _ (hH2 ▸ Heap.get?_push_of_some _ e))
  have hacc : h₁.get? s.heap.objs.size = some (LCg.lst []) := hsb₁.extBut _ _ (Nat.ne_of_lt (Nat.lt_succ_self _)) (Heap.get?_push_of_some _ (hH2 ▸ Heap.get?_push_size _ rfl))
  have hsz : h₁.objs.size = s.heap.objs.size + 2 := by rw [hsb₁.1, Heap.size_push, hC]
  have L := loop h₁ _ (s.toks + ([] : List (Str × Value)).length) old hacc hns₁ hsz (Nat.le_trans hp (Nat.le_add_right _ _))
  exact codeAny_compStart_list L (self _ _ _ old L)
end
end Mine
end
section
open PySem PySem.W PyProof.Rows PySem.Calls
set_option maxRecDepth 100000
set_option maxHeartbeats 800000
namespace Mine
/-- no tuple is changed -/
noncomputable def TupK (h h' : Heap) : Prop := ∀ b o its n, h.get? b = some o → o.cls = .type "tuple" → o.data = .seq its n → h'.get? b = some o
theorem TupK.refl {h : Heap} : TupK h h := fun _ _ _ _ e _ _ => e
theorem TupK.trans {a b c : Heap} (x : TupK a b) (y : TupK b c) : TupK a c := fun p o its n e ec ed => y p o its n (x p o its n e ec ed) ec ed
theorem TupK.of_keep {h h' : Heap} (k : ∀ b o, h.get? b = some o → h'.get? b = some o) : TupK h h' := fun b o _ _ e _ _ => k b o e
theorem TupK.but {h h' : Heap} {I : Addr} {oI : Obj} (k : ∀ b o, b ≠ I → h.get? b = some o → h'.get? b = some o) (e : h.get? I = some oI) (ne : oI.cls ≠ .type "tuple" ∨ ∀ its n, oI.data ≠ .seq its n) : TupK h h' := by
  intro b o its n eb ec ed
  by_cases hb : b = I
  · subst hb
    rw [e] at eb; cases eb
    rcases ne with ne | ne
    · exact (ne ec).elim
    · exact (ne _ _ ed).elim
  · exact k b o hb eb
theorem TupK.ns {h h' : Heap} {C : Addr} {m : Str → Option Value} (hn : h.Ns C m) (k : Heap.SameBut C h h') : TupK h h' := by
  obtain ⟨o, es, ep, e, hd, _⟩ := hn
  exact TupK.but (fun b o hb z => k.extBut b o hb z) e (.inr fun its n z => by rw [hd] at z; cases z)

section
variable {δ : Type}
/-- what holds of a comprehension's list and frame between two steps; I is its iterator's place -/
structure CInv (nt : Nat) (O : Heap → δ → Value → Prop) (s : Shared) (done : List δ) (ys : List Value) (s' : Shared) : Prop where
  grow : Grow nt s s'
  lst : s'.heap.get? (s.heap.objs.size + 1) = some (LCg.lst ys)
  ns : ∃ m, s'.heap.Ns (s.heap.objs.size + 2) m
  out : Paired (O s'.heap) done ys
variable {nt : Nat} {O : Heap → δ → Value → Prop}
theorem CInv.step {s s' : Shared} {done : List δ} {ys : List Value} {h : Heap} {tk : Nat} (hO : ∀ h h' d y, TupK h h' → O h d y → O h' d y) (x : CInv nt O s done ys s') (k : ∀ b o, @LT.lt Nat _ b s.heap.objs.size → s'.heap.get? b = some o → h.get? b = some o)
    (kl : h.get? (s.heap.objs.size + 1) = some (LCg.lst ys)) (kn : ∃ m, h.Ns (s.heap.objs.size + 2) m) (kt : TupK s'.heap h) (p : nt ≤ tk) : CInv nt O s done ys { s' with heap := h, toks := tk } :=
  ⟨x.grow.but k p, kl, kn, paired_mono (fun d y => hO _ _ d y kt) x.out⟩
where
  paired_mono {α β : Type} {F G : α → β → Prop} (h : ∀ a b, F a b → G a b) : ∀ {l : List α} {l' : List β}, Paired F l l' → Paired G l l'
  | _, _, .nil => .nil
  | _, _, .cons x r => .cons (h _ _ x) (paired_mono h r)
theorem CInv.grows {s s' s'' : Shared} {done : List δ} {ys : List Value} (hO : ∀ h h' d y, TupK h h' → O h d y → O h' d y) (x : CInv nt O s done ys s') (g : Grow nt s' s'') : CInv nt O s done ys s'' :=
  ⟨x.grow.trans g, g.keep _ _ x.lst, let ⟨m, hn⟩ := x.ns; ⟨m, hn.at' fun o e => g.keep _ o e⟩, CInv.step.paired_mono (fun d y => hO _ _ d y (TupK.of_keep g.keep)) x.out⟩
variable {prog : Program} {w : World} {A : Around} {E : Value → Shared → Prop} {R : Result → Shared → Prop} {s : Shared} {env : Env}
theorem CInv.emit {s' : Shared} {done : List δ} {ys : List Value} {d : δ} {y : Value} {Q : Value → Shared → Prop} (hO : ∀ h h' d y, TupK h h' → O h d y → O h' d y) (x : CInv nt O s done ys s') (hy : O s'.heap d y) (hsz : ys.length ≤ 100000)
    (h : ∀ h₅ tk, CInv nt O s (done ++ [d]) (ys ++ [y]) { s' with heap := h₅, toks := tk } → (∀ b o, b ≠ s.heap.objs.size + 1 → s'.heap.get? b = some o → h₅.get? b = some o) → Q .none { s' with heap := h₅, toks := tk }) :
    wpAny (model prog w) A (call (.builtin "list.append") [.ref (s.heap.objs.size + 1), y]) Q E s' := by
  refine append_at x.lst (fun h₅ hs₅ ho₅ => ?_) (by rw [List.size_toArray]; exact sizeLine_of (by omega))
  have kt : TupK s'.heap h₅ := TupK.but (fun b o hb z => hs₅.extBut b o hb z) x.lst (.inl (by simp))
  have hne : s.heap.objs.size + 2 ≠ s.heap.objs.size + 1 := by omega
  refine h h₅ s'.toks ⟨x.grow.but (fun b o hb z => hs₅.extBut b o (Nat.ne_of_lt (Nat.lt_succ_of_lt hb)) z) x.grow.pos, ?_, let ⟨m, hn⟩ := x.ns; ⟨m, hn.at' fun o e => hs₅.extBut _ o hne e⟩, Paired.snoc (CInv.step.paired_mono (fun d y => hO _ _ d y kt) x.out) (hO _ _ _ _ kt hy)⟩ fun b o hb z => hs₅.extBut b o hb z
  rw [ho₅]; exact congrArg some (LCg.lst_snoc ys y)

theorem getElem?_lt {α : Type} {l : List α} {i : Nat} (h : i < l.length) : ∃ x, l[i]? = some x := ⟨l[i], by simp [h]⟩
theorem take_snoc {α : Type} {l : List α} {i : Nat} {x : α} (h : l[i]? = some x) : l.take (i + 1) = l.take i ++ [x] := by rw [List.take_add_one, h]; rfl

/-- one clause, over a list of pairs -/
theorem comp_pairs {elt iter : Expr} {x1 x2 : Str} {p1 p2 tp : Pos} {tkk : Nat} {scope : Scope} {cl : List (Str × Addr)} {pos : Pos} {ax : Addr} {vs : List Value} {ds : List δ} {RR : Value → Addr → Result → Shared → Prop}
    (hO : ∀ h h' d y, TupK h h' → O h d y → O h' d y) (hh : A.handled = none) (hl : s.heap.IsList ax vs.toArray) (hlen : ds.length = vs.length) (hsz : vs.length ≤ 100000) (hp : nt ≤ s.toks)
    (hcell : ∀ y ∈ scope.names, y.2 ≠ .cell) (hkind : scope.kind = .function) (hx1 : scope.names.lookup x1 = some .local) (hx2 : scope.names.lookup x2 = some .local) (hxx : x1 ≠ x2)
    (helt : ∀ (i : Nat) v d, vs[i]? = some v → ds[i]? = some d → ∃ p v1 v2, v = .ref p ∧ IsTup s.heap p #[v1, v2] ∧ ∀ (s' : Shared) m' (E' : Value → Shared → Prop), Grow nt s s' → s'.heap.Ns (s.heap.objs.size + 2) m' → m' x1 = some v1 → m' x2 = some v2 →
      wpAny (model prog w) A (eval elt (compEnvC scope cl (s.heap.objs.size + 2) env)) (fun y s'' => Grow nt s' s'' ∧ O s''.heap d y) E' s')
    (hRR : ∀ s' ys m', CInv nt O s ds ys s' → s'.heap.Ns (s.heap.objs.size + 2) m' → RR (.ref (s.heap.objs.size + 1)) (s.heap.objs.size + 2) (.ok .next) s') :
    wpAny (model prog w) A (pyIter (.ref ax)) (fun it s₂ => wpAny (model prog w) A (newList []) (fun acc s₃ => wpAny (model prog w) A (newFunctionEnv scope env.globals cl [] env.qual none .none (some env)) (fun cenv s₄ =>
      codeAny (model prog w) A (.compStart (.ListComp elt [⟨.Tuple [.Name x1 p1, .Name x2 p2] tkk tp, iter, [], 0⟩] scope pos) 0 it acc { cenv with scope := relabel scope env }) (RR acc cenv.locals) s₄) E s₃) E s₂) E s := by
  refine wpAny_pyIter_list hl ?_
  have hax : ax < s.heap.objs.size := by obtain ⟨_, e, _⟩ := hl; exact Heap.lt_size e
  have up : ∀ b o, s.heap.get? b = some o → (s.heap.push { cls := .type "list_iterator", data := .fields #[.ref ax, .int 0 0] }).get? b = some o := fun b o e => Heap.get?_push_of_some _ e
  have W := Walks.list (prog := prog) (w := w) hh s.heap.objs.size ax (Nat.ne_of_lt hax) vs.toArray
  have hst0 : (s.heap.push { cls := .type "list_iterator", data := .fields #[.ref ax, .int 0 0] }).IsListIter s.heap.objs.size ax 0 := ⟨_, Heap.get?_push_size _ rfl, rfl, rfl⟩
  have hsz2 : (s.heap.push { cls := .type "list_iterator", data := .fields #[.ref ax, .int 0 0] }).objs.size = s.heap.objs.size + 1 := Heap.size_push ..
  have CO := comp_open (prog := prog) (w := w) (A := A) (E := E) (env := env) (elt := elt) (target := .Tuple [.Name x1 p1, .Name x2 p2] tkk tp) (iter := iter) (ifs := []) (rest := []) (pos := pos) (I := s.heap.objs.size) (RR := RR) (cl := cl)
    (s := { s with heap := s.heap.push { cls := .type "list_iterator", data := .fields #[.ref ax, .int 0 0] } }) hcell hkind (fun s' Q' E' k hQ => wpAny_pyIter_listiter (hst0.at fun o e => k _ o e) hQ) hp
  dsimp only at CO
  rw [hsz2] at CO
  refine CO fun h₁ m0 tk hk hD hC hsz₁ htk => ?_
  refine LCp.codeAny_compLoop_pair
    (fun k s' => ∃ i ys, k = vs.length + 1 - i ∧ i ≤ vs.length ∧ ys.length = i ∧ CInv nt O s (ds.take i) ys s' ∧ s'.heap.IsListIter s.heap.objs.size ax i) ?_ (vs.length + 1)
    ⟨0, [], rfl, Nat.zero_le _, rfl, ⟨⟨h₁, tk, _, rfl, fun b o e => hk b o (up b o e), htk, fun z => z⟩, hD, ⟨m0, hC⟩, .nil⟩, hst0.at fun o e => hk _ o e⟩
  rintro k s' ⟨i, ys, rfl, hi, hyl, hinv, hit⟩
  have hl' : s'.heap.IsList ax vs.toArray := by obtain ⟨o, e, r⟩ := hl; exact ⟨o, hinv.grow.keep _ _ e, r⟩
  have hneD : s.heap.objs.size + 1 ≠ s.heap.objs.size := by omega
  have hneC : s.heap.objs.size + 2 ≠ s.heap.objs.size := by omega
  have stepI : ∀ h' tk', (∀ b o, b ∉ [s.heap.objs.size] → s'.heap.get? b = some o → h'.get? b = some o) → nt ≤ tk' → CInv nt O s (ds.take i) ys { s' with heap := h', toks := tk' } := fun h' tk' k p => by
    obtain ⟨o, e, hc, hd⟩ := hit
    refine hinv.step hO (fun b o hb z => k b o (by simpa using Nat.ne_of_lt hb) z) (k _ _ (by simp) hinv.lst) (let ⟨m, hn⟩ := hinv.ns; ⟨m, hn.at' fun o e => k _ o (by simp) e⟩) (TupK.but (fun b o hb z => k b o (by simpa using hb) z) e (.inl (by rw [hc]; simp))) p
  by_cases hlt : i < vs.length
  · refine wpAny_with_toks (n := nt) hinv.grow.pos (W.item i s' _ _ (by simpa using hlt) ⟨hit, hl'⟩ fun v h₂ tk₂ hPv hst₂ hk₂ p₂ => ?_)
    have hv : vs[i]? = some v := by simpa using hPv
    obtain ⟨d, hd⟩ := getElem?_lt (l := ds) (i := i) (by omega)
    obtain ⟨p, v1, v2, rfl, htup, helt'⟩ := helt i v d hv hd
    have hinv₂ := stepI h₂ tk₂ hk₂ p₂
    dsimp only
    refine wpAny_letOwnedTupleGo_listiter hst₂.1 ?_
    refine assign_Tuple_tuple hh (htup.keeps hinv₂.grow.keep) rfl rfl fun h₅ he => ?_
    have he' : ∀ b o, h₂.get? b = some o → h₅.get? b = some o := fun b o e => he b o (Nat.ne_of_lt (Heap.lt_size e)) e
    have hinv₅ := hinv₂.step (h := h₅) (tk := tk₂) hO (fun b o _ z => he' b o z) (he' _ _ hinv₂.lst) (let ⟨m, hn⟩ := hinv₂.ns; ⟨m, hn.at' fun o e => he' _ o e⟩) (TupK.of_keep he') p₂
    obtain ⟨m₅, hn₅⟩ := hinv₅.ns
    refine assignInOrder_cons (wpAny_assign_Name (wpAny_storeName_local (lookup_relabel_local hx1) hn₅ (fun h₆ hn₆ hs₆ => ?_) (by simp [compEnvC, relabel, hkind])))
    refine assignInOrder_cons (wpAny_assign_Name (wpAny_storeName_local (lookup_relabel_local hx2) hn₆ (fun h₇ hn₇ hs₇ => ?_) (by simp [compEnvC, relabel, hkind])))
    refine assignInOrder_nil ?_
    have hs₆' : Heap.SameBut (s.heap.objs.size + 2) h₅ h₆ := hs₆
    have hs₇' : Heap.SameBut (s.heap.objs.size + 2) h₆ h₇ := hs₇
    have k57 : ∀ b o, b ≠ s.heap.objs.size + 2 → h₅.get? b = some o → h₇.get? b = some o := fun b o hb z => hs₇'.extBut b o hb (hs₆'.extBut b o hb z)
    have hn₇' : h₇.Ns (s.heap.objs.size + 2) _ := hn₇
    have hinv₇ := fun tk' (p' : nt ≤ tk') => hinv₅.step (h := h₇) (tk := tk') hO (fun b o hb z => k57 b o (Nat.ne_of_lt (Nat.lt_succ_of_lt (Nat.lt_succ_of_lt hb))) z) (k57 _ _ (by omega) hinv₅.lst) ⟨_, hn₇'⟩ ((TupK.ns hn₅ hs₆').trans (TupK.ns hn₆ hs₇')) p'
    have hit₇ : h₇.IsListIter s.heap.objs.size ax (i + 1) := hst₂.1.at fun o e => k57 _ o (by omega) (he' _ o e)
    refine wpAny_mono (helt' _ _ _ (hinv₇ _ (Nat.le_add_right_of_le (Nat.le_add_right_of_le p₂))).grow hn₇' ?_ ?_) (fun y s₈ hy => ?_) fun _ _ z => z
    · rw [if_neg hxx, if_pos rfl]
    · rw [if_pos rfl]
    · obtain ⟨g₈, hy⟩ := hy
      have hinv₈ := (hinv₇ _ (Nat.le_add_right_of_le (Nat.le_add_right_of_le p₂))).grows hO g₈
      refine hinv₈.emit hO hy (by omega) fun h₉ tk₉ hinv₉ k₉ => ⟨vs.length + 1 - (i + 1), by omega, i + 1, ys ++ [y], rfl, hlt, by simp [hyl], ?_, ?_⟩
      · rw [take_snoc hd]; exact hinv₉
      · exact (hit₇.at fun o e => g₈.keep _ o e).at fun o e => k₉ _ o (by omega) e
  · have hi' : i = vs.length := by omega
    subst hi'
    refine wpAny_with_toks (n := nt) hinv.grow.pos (W.done s' _ _ ⟨by simpa using hit, hl'⟩ fun h₂ tk₂ hk₂ p₂ => ?_)
    have hinv₂ := stepI h₂ tk₂ hk₂ p₂
    rw [← hlen, List.take_length] at hinv₂
    obtain ⟨m₂, hn₂⟩ := hinv₂.ns
    exact hRR _ ys m₂ hinv₂ hn₂
end
end Mine
end
section
open PySem PySem.W PyProof.Rows PySem.Calls
set_option maxRecDepth 100000
set_option maxHeartbeats 800000
namespace Mine
section
variable {prog : Program} {w : World} {A : Around} {E : Value → Shared → Prop} {R : Result → Shared → Prop} {s : Shared} {env : Env}
theorem strWalks (hA : A.handled = none) (it : Addr) (l : List Nat) (t : Tok) : Walks prog w A it [it] [it] l.length (fun i v => ∃ c u, l[i]? = some c ∧ v = .str (S [c]) u) (fun i h => h.IsStrIter it (strIterType (S l)) (S l) t i) := by
  have e : SignAt (S l) = (fun i v => ∃ c u, l[i]? = some c ∧ v = .str (S [c]) u) := by
    funext i v
    simp [S, SignAt]
  have z := S_size l
  cases ha : (S l).cps.all (· < 128)
  · have D := Walks.strWide (prog := prog) (w := w) hA it (S l) t
    rw [e, z] at D
    have : strIterType (S l) = "str_iterator" := by simp [strIterType, ha]
    rw [this]; exact D
  · have D := Walks.strAscii (prog := prog) (w := w) hA it (S l) t
    rw [e, z] at D
    have : strIterType (S l) = "str_ascii_iterator" := by simp [strIterType, ha]
    rw [this]; exact D
theorem strIterType_ne (x : Str) : Value.type (strIterType x) ≠ Value.type "tuple" := by
  unfold strIterType
  split <;> simp

variable {δ : Type} {nt : Nat} {O : Heap → δ → Value → Prop}
/-- the inner clause, over a text -/
theorem comp_inner {elt t0 i0 i1 : Expr} {x1 x2 x3 : Str} {p3 : Pos} {scope : Scope} {cl : List (Str × Addr)} {pos : Pos} {ax : Addr} {i : Nat} {cs : List Nat} {t : Tok} {dl done : List δ} {v1 v2 : Value} {s' : Shared} {ys : List Value} {m : Str → Option Value}
    (hO : ∀ h h' d y, TupK h h' → O h d y → O h' d y) (hh : A.handled = none) (hlen : dl.length = cs.length) (hyl : ys.length = done.length) (hsz : done.length + dl.length ≤ 100000)
    (hkind : scope.kind = .function) (hx3 : scope.names.lookup x3 = some .local) (h13 : x1 ≠ x3) (h23 : x2 ≠ x3)
    (hinv : CInv nt O s done ys s') (hit : s'.heap.IsListIter s.heap.objs.size ax i) (hn : s'.heap.Ns (s.heap.objs.size + 2) m) (hm1 : m x1 = some v1) (hm2 : m x2 = some v2)
    (helt : ∀ (j : Nat) c d, cs[j]? = some c → dl[j]? = some d → ∀ (s' : Shared) m' (E' : Value → Shared → Prop) u, Grow nt s s' → s'.heap.Ns (s.heap.objs.size + 2) m' → m' x1 = some v1 → m' x2 = some v2 → m' x3 = some (.str (S [c]) u) →
      wpAny (model prog w) A (eval elt (compEnvC scope cl (s.heap.objs.size + 2) env)) (fun y s'' => Grow nt s' s'' ∧ O s''.heap d y) E' s')
    (hR : ∀ s'' ys', CInv nt O s (done ++ dl) ys' s'' → ys'.length = (done ++ dl).length → s''.heap.IsListIter s.heap.objs.size ax i → R (.ok .next) s'') :
    wpAny (model prog w) A (pyIter (.str (S cs) t)) (fun it1 s₄ =>
      codeAny (model prog w) A (.compStart (.ListComp elt [⟨t0, i0, [], 0⟩, ⟨.Name x3 p3, i1, [], 0⟩] scope pos) 1 it1 (.ref (s.heap.objs.size + 1)) (compEnvC scope cl (s.heap.objs.size + 2) env)) R s₄) E s' := by
  refine wpAny_pyIter_strU ?_
  have hC : @LT.lt Nat _ (s.heap.objs.size + 2) s'.heap.objs.size := by obtain ⟨o, _, _, e, _⟩ := hn; exact Heap.lt_size e
  generalize hJ : s'.heap.objs.size = J at hC ⊢
  have up : ∀ b o, s'.heap.get? b = some o → (s'.heap.push { cls := .type (strIterType (S cs)), data := .fields #[.str (S cs) t, .int 0 0] }).get? b = some o := fun b o e => Heap.get?_push_of_some _ e
  have hst0 : (s'.heap.push { cls := .type (strIterType (S cs)), data := .fields #[.str (S cs) t, .int 0 0] }).IsStrIter J (strIterType (S cs)) (S cs) t 0 := ⟨_, hJ ▸ Heap.get?_push_size _ rfl, rfl, rfl⟩
  have W := strWalks (prog := prog) (w := w) hh J cs t
  have nJ : s.heap.objs.size ≠ J ∧ s.heap.objs.size + 1 ≠ J ∧ s.heap.objs.size + 2 ≠ J := by omega
  have main : codeAny (model prog w) A (.compLoop (.ListComp elt [⟨t0, i0, [], 0⟩, ⟨.Name x3 p3, i1, [], 0⟩] scope pos) 1 (.ref J) (.ref (s.heap.objs.size + 1)) (compEnvC scope cl (s.heap.objs.size + 2) env)) R
      { s' with heap := s'.heap.push { cls := .type (strIterType (S cs)), data := .fields #[.str (S cs) t, .int 0 0] } } := by
    refine compLoop_nest1
      (fun k s₁ => ∃ j ys' m', k = cs.length + 1 - j ∧ j ≤ cs.length ∧ ys'.length = done.length + j ∧ CInv nt O s (done ++ dl.take j) ys' s₁ ∧ s₁.heap.IsListIter s.heap.objs.size ax i ∧ s₁.heap.IsStrIter J (strIterType (S cs)) (S cs) t j ∧ s₁.heap.Ns (s.heap.objs.size + 2) m' ∧ m' x1 = some v1 ∧ m' x2 = some v2) ?_ (cs.length + 1)
      ⟨0, ys, m, rfl, Nat.zero_le _, hyl, by rw [List.take_zero, List.append_nil]; exact hinv.step (tk := s'.toks) hO (fun b o _ z => up b o z) (up _ _ hinv.lst) ⟨m, hn.at' fun o e => up _ o e⟩ (TupK.of_keep up) hinv.grow.pos, hit.at fun o e => up _ o e, hst0, hn.at' fun o e => up _ o e, hm1, hm2⟩
    rintro k s₁ ⟨j, ys', m', rfl, hj, hyl', hinv', hit', hst', hn', hm1', hm2'⟩
    have stepJ : ∀ h' tk', (∀ b o, b ∉ [J] → s₁.heap.get? b = some o → h'.get? b = some o) → nt ≤ tk' → CInv nt O s (done ++ dl.take j) ys' { s₁ with heap := h', toks := tk' } := fun h' tk' k p => by
      obtain ⟨o, e, hc, hd⟩ := hst'
      refine hinv'.step hO (fun b o hb z => k b o (by simpa using Nat.ne_of_lt (Nat.lt_trans hb (Nat.lt_trans (by omega : @LT.lt Nat _ s.heap.objs.size (s.heap.objs.size + 2)) hC))) z) (k _ _ (by simpa using nJ.2.1) hinv'.lst) ⟨m', hn'.at' fun o e => k _ o (by simpa using nJ.2.2) e⟩ (TupK.but (fun b o hb z => k b o (by simpa using hb) z) e (.inl (by rw [hc]; exact strIterType_ne _))) p
    by_cases hlt : j < cs.length
    · refine wpAny_with_toks (n := nt) hinv'.grow.pos (W.item j s₁ _ _ hlt hst' fun v h₂ tk₂ hPv hst₂ hk₂ p₂ => ?_)
      obtain ⟨c, u, hc, rfl⟩ := hPv
      obtain ⟨d, hd⟩ := getElem?_lt (l := dl) (i := j) (by omega)
      have hinv₂ := stepJ h₂ tk₂ hk₂ p₂
      have hn₂ : h₂.Ns (s.heap.objs.size + 2) m' := hn'.at' fun o e => hk₂ _ o (by simpa using nJ.2.2) e
      have hit₂ : h₂.IsListIter s.heap.objs.size ax i := hit'.at fun o e => hk₂ _ o (by simpa using nJ.1) e
      dsimp only
      refine wpAny_pure ?_
      refine wpAny_assign_Name (wpAny_storeName_local (lookup_relabel_local hx3) hn₂ (fun h₃ hn₃ hs₃ => ?_) (by simp [compEnvC, relabel, hkind]))
      have hs₃' : Heap.SameBut (s.heap.objs.size + 2) h₂ h₃ := hs₃
      have hn₃' : h₃.Ns (s.heap.objs.size + 2) _ := hn₃
      have hinv₃ := fun tk' (p' : nt ≤ tk') => hinv₂.step (h := h₃) (tk := tk') hO (fun b o hb z => hs₃'.extBut b o (Nat.ne_of_lt (Nat.lt_succ_of_lt (Nat.lt_succ_of_lt hb))) z) (hs₃'.extBut _ _ (show s.heap.objs.size + 1 ≠ s.heap.objs.size + 2 from by omega) hinv₂.lst) ⟨_, hn₃'⟩ (TupK.ns hn₂ hs₃') p'
      refine wpAny_mono (helt j c d hc hd _ _ _ u (hinv₃ _ (Nat.le_add_right_of_le p₂)).grow hn₃' ?_ ?_ ?_) (fun y s₈ hy => ?_) fun _ _ z => z
      · rw [if_neg h13]; exact hm1'
      · rw [if_neg h23]; exact hm2'
      · rw [if_pos rfl]
      · obtain ⟨g₈, hy⟩ := hy
        have hinv₈ := (hinv₃ _ (Nat.le_add_right_of_le p₂)).grows hO g₈
        have hdl : (dl.take j).length ≤ dl.length := by rw [List.length_take]; exact Nat.min_le_right _ _
        refine hinv₈.emit hO hy (by rw [hyl']; omega) fun h₉ tk₉ hinv₉ k₉ => ⟨cs.length + 1 - (j + 1), by omega, j + 1, ys' ++ [y], _, rfl, hlt, by rw [List.length_append, hyl', List.length_singleton]; omega, ?_, ?_, ?_, ((hn₃'.at' fun o e => g₈.keep _ o e).at' fun o e => k₉ _ o (show s.heap.objs.size + 2 ≠ s.heap.objs.size + 1 from by omega) e), ?_, ?_⟩
        · rw [take_snoc hd, ← List.append_assoc]; exact hinv₉
        · exact ((hit₂.at fun o e => hs₃'.extBut _ o (show s.heap.objs.size ≠ s.heap.objs.size + 2 from by omega) e).at fun o e => g₈.keep _ o e).at fun o e => k₉ _ o (show s.heap.objs.size ≠ s.heap.objs.size + 1 from by omega) e
        · obtain ⟨o, e, r⟩ := hst₂
          exact ⟨o, k₉ _ o (Ne.symm nJ.2.1) (g₈.keep _ o (hs₃'.extBut _ o (Ne.symm nJ.2.2) e)), r⟩
        · rw [if_neg h13]; exact hm1'
        · rw [if_neg h23]; exact hm2'
    · have hj' : j = cs.length := by omega
      subst hj'
      refine wpAny_with_toks (n := nt) hinv'.grow.pos (W.done s₁ _ _ hst' fun h₂ tk₂ hk₂ p₂ => ?_)
      have hinv₂ := stepJ h₂ tk₂ hk₂ p₂
      rw [← hlen, List.take_length] at hinv₂
      exact hR _ ys' hinv₂ (by rw [hyl', List.length_append, hlen]) (hit'.at fun o e => hk₂ _ o (by simpa using nJ.1) e)
  exact compStart_nest1 main (W.self 0 _ _ _ hst0 main)

/-- two clauses: a list of pairs, then a text -/
theorem comp_nest {elt iter i1 : Expr} {x1 x2 x3 : Str} {p1 p2 p3 tp : Pos} {tkk : Nat} {scope : Scope} {cl : List (Str × Addr)} {pos : Pos} {ax : Addr} {vs : List Value} {dss : List (List δ)} {RR : Value → Addr → Result → Shared → Prop}
    (hO : ∀ h h' d y, TupK h h' → O h d y → O h' d y) (hh : A.handled = none) (hl : s.heap.IsList ax vs.toArray) (hlen : dss.length = vs.length) (hsz : dss.flatten.length ≤ 100000) (hp : nt ≤ s.toks)
    (hcell : ∀ y ∈ scope.names, y.2 ≠ .cell) (hkind : scope.kind = .function) (hx1 : scope.names.lookup x1 = some .local) (hx2 : scope.names.lookup x2 = some .local) (hx3 : scope.names.lookup x3 = some .local) (hxx : x1 ≠ x2) (h13 : x1 ≠ x3) (h23 : x2 ≠ x3)
    (hs : ∀ x, foldedSetIterable i1 (compEnvC scope cl (s.heap.objs.size + 2) env) x = pure x)
    (helt : ∀ (i : Nat) v dl, vs[i]? = some v → dss[i]? = some dl → ∃ p v1 v2, v = .ref p ∧ IsTup s.heap p #[v1, v2] ∧ ∃ cs : List Nat, dl.length = cs.length ∧
      (∀ (s' : Shared) m' (E' : Value → Shared → Prop) (Q : Value → Shared → Prop), Grow nt s s' → s'.heap.Ns (s.heap.objs.size + 2) m' → m' x1 = some v1 → m' x2 = some v2 → (∀ t s'', Grow nt s' s'' → Q (.str (S cs) t) s'') →
        wpAny (model prog w) A (eval i1 (compEnvC scope cl (s.heap.objs.size + 2) env)) Q E' s') ∧
      ∀ (j : Nat) c d, cs[j]? = some c → dl[j]? = some d → ∀ (s' : Shared) m' (E' : Value → Shared → Prop) u, Grow nt s s' → s'.heap.Ns (s.heap.objs.size + 2) m' → m' x1 = some v1 → m' x2 = some v2 → m' x3 = some (.str (S [c]) u) →
      wpAny (model prog w) A (eval elt (compEnvC scope cl (s.heap.objs.size + 2) env)) (fun y s'' => Grow nt s' s'' ∧ O s''.heap d y) E' s')
    (hRR : ∀ s' ys m', CInv nt O s dss.flatten ys s' → s'.heap.Ns (s.heap.objs.size + 2) m' → RR (.ref (s.heap.objs.size + 1)) (s.heap.objs.size + 2) (.ok .next) s') :
    wpAny (model prog w) A (pyIter (.ref ax)) (fun it s₂ => wpAny (model prog w) A (newList []) (fun acc s₃ => wpAny (model prog w) A (newFunctionEnv scope env.globals cl [] env.qual none .none (some env)) (fun cenv s₄ =>
      codeAny (model prog w) A (.compStart (.ListComp elt [⟨.Tuple [.Name x1 p1, .Name x2 p2] tkk tp, iter, [], 0⟩, ⟨.Name x3 p3, i1, [], 0⟩] scope pos) 0 it acc { cenv with scope := relabel scope env }) (RR acc cenv.locals) s₄) E s₃) E s₂) E s := by
  refine wpAny_pyIter_list hl ?_
  have hax : ax < s.heap.objs.size := by obtain ⟨_, e, _⟩ := hl; exact Heap.lt_size e
  have up : ∀ b o, s.heap.get? b = some o → (s.heap.push { cls := .type "list_iterator", data := .fields #[.ref ax, .int 0 0] }).get? b = some o := fun b o e => Heap.get?_push_of_some _ e
  have W := Walks.list (prog := prog) (w := w) hh s.heap.objs.size ax (Nat.ne_of_lt hax) vs.toArray
  have hst0 : (s.heap.push { cls := .type "list_iterator", data := .fields #[.ref ax, .int 0 0] }).IsListIter s.heap.objs.size ax 0 := ⟨_, Heap.get?_push_size _ rfl, rfl, rfl⟩
  have hsz2 : (s.heap.push { cls := .type "list_iterator", data := .fields #[.ref ax, .int 0 0] }).objs.size = s.heap.objs.size + 1 := Heap.size_push ..
  have CO := comp_open (prog := prog) (w := w) (A := A) (E := E) (env := env) (elt := elt) (target := .Tuple [.Name x1 p1, .Name x2 p2] tkk tp) (iter := iter) (ifs := []) (rest := [⟨.Name x3 p3, i1, [], 0⟩]) (pos := pos) (I := s.heap.objs.size) (RR := RR) (cl := cl)
    (s := { s with heap := s.heap.push { cls := .type "list_iterator", data := .fields #[.ref ax, .int 0 0] } }) hcell hkind (fun s' Q' E' k hQ => wpAny_pyIter_listiter (hst0.at fun o e => k _ o e) hQ) hp
  dsimp only at CO
  rw [hsz2] at CO
  refine CO fun h₁ m0 tk hk hD hC hsz₁ htk => ?_
  refine compLoop_nest0
    (fun k s' => ∃ i ys, k = vs.length + 1 - i ∧ i ≤ vs.length ∧ ys.length = (dss.take i).flatten.length ∧ CInv nt O s (dss.take i).flatten ys s' ∧ s'.heap.IsListIter s.heap.objs.size ax i) ?_ (vs.length + 1)
    ⟨0, [], rfl, Nat.zero_le _, rfl, ⟨⟨h₁, tk, _, rfl, fun b o e => hk b o (up b o e), htk, fun z => z⟩, hD, ⟨m0, hC⟩, .nil⟩, hst0.at fun o e => hk _ o e⟩
  rintro k s' ⟨i, ys, rfl, hi, hyl, hinv, hit⟩
  have hl' : s'.heap.IsList ax vs.toArray := by obtain ⟨o, e, r⟩ := hl; exact ⟨o, hinv.grow.keep _ _ e, r⟩
  have stepI : ∀ h' tk', (∀ b o, b ∉ [s.heap.objs.size] → s'.heap.get? b = some o → h'.get? b = some o) → nt ≤ tk' → CInv nt O s (dss.take i).flatten ys { s' with heap := h', toks := tk' } := fun h' tk' k p => by
    obtain ⟨o, e, hc, hd⟩ := hit
    refine hinv.step hO (fun b o hb z => k b o (by simpa using Nat.ne_of_lt hb) z) (k _ _ (by simp) hinv.lst) (let ⟨m, hn⟩ := hinv.ns; ⟨m, hn.at' fun o e => k _ o (by simp) e⟩) (TupK.but (fun b o hb z => k b o (by simpa using hb) z) e (.inl (by rw [hc]; simp))) p
  by_cases hlt : i < vs.length
  · refine wpAny_with_toks (n := nt) hinv.grow.pos (W.item i s' _ _ (by simpa using hlt) ⟨hit, hl'⟩ fun v h₂ tk₂ hPv hst₂ hk₂ p₂ => ?_)
    have hv : vs[i]? = some v := by simpa using hPv
    obtain ⟨dl, hd⟩ := getElem?_lt (l := dss) (i := i) (by omega)
    obtain ⟨p, v1, v2, rfl, htup, cs, hcs, hiter, helt'⟩ := helt i v dl hv hd
    have hinv₂ := stepI h₂ tk₂ hk₂ p₂
    dsimp only
    refine wpAny_letOwnedTupleGo_listiter hst₂.1 ?_
    refine assign_Tuple_tuple hh (htup.keeps hinv₂.grow.keep) rfl rfl fun h₅ he => ?_
    have he' : ∀ b o, h₂.get? b = some o → h₅.get? b = some o := fun b o e => he b o (Nat.ne_of_lt (Heap.lt_size e)) e
    have hinv₅ := hinv₂.step (h := h₅) (tk := tk₂) hO (fun b o _ z => he' b o z) (he' _ _ hinv₂.lst) (let ⟨m, hn⟩ := hinv₂.ns; ⟨m, hn.at' fun o e => he' _ o e⟩) (TupK.of_keep he') p₂
    obtain ⟨m₅, hn₅⟩ := hinv₅.ns
    refine assignInOrder_cons (wpAny_assign_Name (wpAny_storeName_local (lookup_relabel_local hx1) hn₅ (fun h₆ hn₆ hs₆ => ?_) (by simp [compEnvC, relabel, hkind])))
    refine assignInOrder_cons (wpAny_assign_Name (wpAny_storeName_local (lookup_relabel_local hx2) hn₆ (fun h₇ hn₇ hs₇ => ?_) (by simp [compEnvC, relabel, hkind])))
    refine assignInOrder_nil ?_
    have hs₆' : Heap.SameBut (s.heap.objs.size + 2) h₅ h₆ := hs₆
    have hs₇' : Heap.SameBut (s.heap.objs.size + 2) h₆ h₇ := hs₇
    have k57 : ∀ b o, b ≠ s.heap.objs.size + 2 → h₅.get? b = some o → h₇.get? b = some o := fun b o hb z => hs₇'.extBut b o hb (hs₆'.extBut b o hb z)
    have hn₇' : h₇.Ns (s.heap.objs.size + 2) _ := hn₇
    have hinv₇ := fun tk' (p' : nt ≤ tk') => hinv₅.step (h := h₇) (tk := tk') hO (fun b o hb z => k57 b o (Nat.ne_of_lt (Nat.lt_succ_of_lt (Nat.lt_succ_of_lt hb))) z) (k57 _ _ (by omega) hinv₅.lst) ⟨_, hn₇'⟩ ((TupK.ns hn₅ hs₆').trans (TupK.ns hn₆ hs₇')) p'
    have hit₇ : h₇.IsListIter s.heap.objs.size ax (i + 1) := hst₂.1.at fun o e => k57 _ o (by omega) (he' _ o e)
    refine hiter _ _ _ _ (hinv₇ _ (Nat.le_add_right_of_le (Nat.le_add_right_of_le p₂))).grow hn₇' ?_ ?_ fun t s₈ g₈ => ⟨hs _, ?_⟩
    · rw [if_neg hxx, if_pos rfl]
    · rw [if_pos rfl]
    · have hinv₈ := (hinv₇ _ (Nat.le_add_right_of_le (Nat.le_add_right_of_le p₂))).grows hO g₈
      have hfl : (dss.take i).flatten.length + dl.length ≤ 100000 := by
        have e1 : dss = dss.take i ++ dl :: dss.drop (i + 1) := by
          have hi2 : i < dss.length := by omega
          have e2 : dss[i] = dl := by rw [List.getElem?_eq_getElem hi2] at hd; exact Option.some.inj hd
          rw [← e2, ← List.drop_eq_getElem_cons hi2, List.take_append_drop]
        have e3 := hsz
        rw [e1, List.flatten_append, List.flatten_cons, List.length_append, List.length_append] at e3
        omega
      have IN := comp_inner (prog := prog) (w := w) (A := A) (env := env) (elt := elt) (t0 := .Tuple [.Name x1 p1, .Name x2 p2] tkk tp) (i0 := iter) (i1 := i1) (p3 := p3) (scope := scope) (cl := cl) (pos := pos) (ax := ax) (i := i + 1) (cs := cs) (t := t) (dl := dl) (E := fun _ _ => False)
        (R := fun r s₅ => r = .ok .next ∧ ∃ m, m < vs.length + 1 - i ∧ ∃ i ys, m = vs.length + 1 - i ∧ i ≤ vs.length ∧ ys.length = (dss.take i).flatten.length ∧ CInv nt O s (dss.take i).flatten ys s₅ ∧ s₅.heap.IsListIter s.heap.objs.size ax i)
        hO hh hcs hyl hfl hkind hx3 h13 h23 hinv₈ (hit₇.at fun o e => g₈.keep _ o e) (hn₇'.at' fun o e => g₈.keep _ o e) (by rw [if_neg hxx, if_pos rfl]) (by rw [if_pos rfl]) helt'
      refine (IN fun s₉ ys₉ hinv₉ hyl₉ hit₉ => ⟨rfl, vs.length + 1 - (i + 1), by omega, i + 1, ys₉, rfl, hlt, ?_, ?_, hit₉⟩)
      · rw [take_snoc hd, List.flatten_append]; simpa using hyl₉
      · rw [take_snoc hd, List.flatten_append]; simpa using hinv₉
  · have hi' : i = vs.length := by omega
    subst hi'
    refine wpAny_with_toks (n := nt) hinv.grow.pos (W.done s' _ _ ⟨by simpa using hit, hl'⟩ fun h₂ tk₂ hk₂ p₂ => ?_)
    have hinv₂ := stepI h₂ tk₂ hk₂ p₂
    rw [← hlen, List.take_length] at hinv₂
    obtain ⟨m₂, hn₂⟩ := hinv₂.ns
    exact hRR _ ys m₂ hinv₂ hn₂
end
end Mine
end
section
open PySem PySem.W PyProof.Rows PySem.Calls
set_option maxRecDepth 100000
set_option maxHeartbeats 1000000
namespace Mine
section
variable {prog : Program} {w : World} {A : Around} {E : Value → Shared → Prop} {s : Shared}
theorem tooLong_not {a b : Nat} (h : a + b ≤ 1000000) : ¬(Builtin.List.listTooLong (a + b)) = true := by
  unfold Builtin.List.listTooLong
  first
    | (rw [decide_eq_true_eq]; have := sizeLine_eq; omega)
    | (simp [sizeLine_eq]; omega)
theorem iadd_at {l b : Addr} {its its2 : Array Value} {n n2 : Nat} {Q : Value → Shared → Prop} (ho : s.heap.get? l = some (W.listOf its n)) (hb : s.heap.get? b = some (W.listOf its2 n2)) (hz : its.size + its2.size ≤ 1000000)
    (h : ∀ h' n', Heap.SameBut l s.heap h' → h'.get? l = some (W.listOf (its ++ its2) n') → Q (.ref l) { s with heap := h' }) :
    wpAny (model prog w) A (inplaceOp .Add (.ref l) (.ref b)) Q E s := by
  have ha : s.TypeIs (.ref l) "list" := ⟨_, ho, rfl⟩
  have hb' : s.TypeIs (.ref b) "list" := ⟨_, hb, rfl⟩
  have hl : typeLookup (.type "list") (dunderI "add") = pure (some (.builtin "list.__iadd__")) := F.slot_list_iadd.lookup
  have hq : isSeqSlot (some (.builtin "list.__iadd__")) = true := by decide +kernel
  unfold inplaceOp
  refine wpAny_holding ?_
  have hfi : fillsInplaceSlot (.type "list") "add" (Operator.Add == .Add) = pure false := by
    unfold fillsInplaceSlot
    show (typeLookup (.type "list") (dunderI "add") >>= fun fi => pure (fi.isSome && !isSeqSlot fi)) = pure false
    rw [hl, pure_bind, hq]; rfl
  have hsi : seqSlot? (.type "list") (dunderI "add") = pure (some (.builtin "list.__iadd__")) := PyProof.Rows.seqSlot_of hl hq
  refine wpAny_bind (wpAny_typeOf ha (wpAny_bind (wpAny_of_eq hfi ?_)))
  show wpAny _ A (if false = true then _ else _) Q E s
  rw [if_neg Bool.false_ne_true]
  refine wpAny_bind (wpAny_binaryOp1_none (nm := "add") ha hb' noFill_list_add ?_)
  refine wpAny_bind (wpAny_of_eq hsi ?_)
  refine wpAny_bind (wpAny_rule ?_)
  have sz1 : its.size ≤ sizeLine := sizeLine_of (by omega)
  refine call_meets F.slot_list_iadd ha F.entry_list_iadd (F.args_list_iadd_2 _ _) (AutoSeq1.list___iadd___list_list_0 l its n b its2 n2 (fun e => tooLong_not hz (Bool.and_eq_true_iff.mp e).2) sz1 (by have := sizeLine_of (n := its.size + its2.size) (by omega); omega)) ⟨ho, hb, ?_⟩
  have hu := Heap.get?_update_self (Obj.mapSeq fun x => x ++ its2) ho rfl
  exact h _ _ (Heap.SameBut.update ..) (hu.trans (by simp only [Obj.mapSeq, W.listOf]; rfl))
theorem extend_at {l b : Addr} {its its2 : Array Value} {n n2 : Nat} {Q : Value → Shared → Prop} (ho : s.heap.get? l = some (W.listOf its n)) (hb : s.heap.get? b = some (W.listOf its2 n2)) (hz : its.size + its2.size ≤ 1000000)
    (h : ∀ h' n', Heap.SameBut l s.heap h' → h'.get? l = some (W.listOf (its ++ its2) n') → Q .none { s with heap := h' }) :
    wpAny (model prog w) A (call (.builtin "list.extend") [.ref l, .ref b]) Q E s := by
  have ha : s.TypeIs (.ref l) "list" := ⟨_, ho, rfl⟩
  have sz1 : its.size ≤ sizeLine := sizeLine_of (by omega)
  refine call_meets F.slot_list_extend ha F.entry_list_extend (F.args_list_extend_2 _ _) (AutoSeq1.list_extend_list_list_0 l its n b its2 n2 (fun e => tooLong_not hz (Bool.and_eq_true_iff.mp e).2) sz1 (by have := sizeLine_of (n := its.size + its2.size) (by omega); omega)) ⟨ho, hb, ?_⟩
  have hu := Heap.get?_update_self (Obj.mapSeq fun x => x ++ its2) ho rfl
  exact h _ _ (Heap.SameBut.update ..) (hu.trans (by simp only [Obj.mapSeq, W.listOf]; rfl))
end
end Mine
end
theorem Mine.forgetSigns : True := by
  w_top off
  have h : True ∧ True := by
    try walk1
    all_goals (first | trivial | exact ⟨trivial, trivial⟩)
  exact h.1
section
open PySem PySem.W PyProof.Rows PySem.Calls
set_option maxRecDepth 100000
set_option maxHeartbeats 1000000
namespace Mine
/-- a tuple of a text and a truth value -/
noncomputable def PairO (h : Heap) (d : List Nat × Bool) (y : Value) : Prop := ∃ p n u, y = .ref p ∧ h.get? p = some { cls := .type "tuple", data := .seq #[.str (S d.1) u, .bool d.2] n }
theorem PairO.tupK : ∀ h h' d y, TupK h h' → PairO h d y → PairO h' d y := fun h h' d y k ⟨p, n, u, e, o⟩ => ⟨p, n, u, e, k _ _ _ _ o rfl rfl⟩
noncomputable def aloneL : List (List Nat) := [[46], [10], [13], [38], [60], [62], [97], [92, 34]]
noncomputable def betweenL : List (List Nat) := [[], [46], [10], [13, 46], [38], [97]]
noncomputable def pieceOf (x : Nat) : List Nat × Bool := if x % 10 < 8 then (aloneL.getD (x % 10) [], false) else ([34] ++ betweenL.getD (x / 10 % 6) [] ++ [34], true)
noncomputable def tailL : List (List Nat × Bool) := [([38, 10], false), ([34, 60, 34], true), ([46, 13], false), ([34, 46, 34], true), ([10, 46], false)]
noncomputable def spread (ps : List (List Nat × Bool)) : List (List (List Nat × Bool)) := ps.map fun p => p.1.map fun c => ([c], p.2)
noncomputable def signsL (xs : List Nat) : List (List Nat × Bool) := (spread (xs.map pieceOf ++ tailL)).flatten
theorem alone_strs {t0 t1 t2 t3 t4 t5 t6 t7 : Tok} : StrsAre [.str (Str.ofString ".") t0, .str (Str.ofString "\n") t1, .str (Str.ofString "\r") t2, .str (Str.ofString "&") t3, .str (Str.ofString "<") t4, .str (Str.ofString ">") t5, .str (Str.ofString "a") t6, .str (Str.ofString "\\\"") t7] (aloneL.map S) := by
  have : aloneL.map S = [Str.ofString ".", Str.ofString "\n", Str.ofString "\r", Str.ofString "&", Str.ofString "<", Str.ofString ">", Str.ofString "a", Str.ofString "\\\""] := by decide +kernel
  rw [this]; repeat constructor
theorem between_strs {t0 t1 t2 t3 t4 t5 : Tok} : StrsAre [.str (Str.ofString "") t0, .str (Str.ofString ".") t1, .str (Str.ofString "\n") t2, .str (Str.ofString "\r.") t3, .str (Str.ofString "&") t4, .str (Str.ofString "a") t5] (betweenL.map S) := by
  have : betweenL.map S = [Str.ofString "", Str.ofString ".", Str.ofString "\n", Str.ofString "\r.", Str.ofString "&", Str.ofString "a"] := by decide +kernel
  rw [this]; repeat constructor
theorem tables {h₀ h : Heap} {L P a b : Addr} {m : Str → Option Value} {t0 t1 t2 t3 t4 t5 t6 t7 u0 u1 u2 u3 u4 u5 : Tok}
   (F : Fr h₀ L h m)
   (N : News h₀ L h [(P, W.listOf #[] 0), (b, W.listOf #[.str (Str.ofString "") u0, .str (Str.ofString ".") u1, .str (Str.ofString "\n") u2, .str (Str.ofString "\r.") u3, .str (Str.ofString "&") u4, .str (Str.ofString "a") u5] 0),
     (a, W.listOf #[.str (Str.ofString ".") t0, .str (Str.ofString "\n") t1, .str (Str.ofString "\r") t2, .str (Str.ofString "&") t3, .str (Str.ofString "<") t4, .str (Str.ofString ">") t5, .str (Str.ofString "a") t6, .str (Str.ofString "\\\"") t7] 0)]) :
   ∃ vA vB : List Value, StrsAre vA (aloneL.map S) ∧ StrsAre vB (betweenL.map S) ∧ News h₀ L h [(P, W.listOf ([] : List Value).toArray 0), (b, W.listOf vB.toArray 0), (a, W.listOf vA.toArray 0)] :=
  ⟨_, _, alone_strs, between_strs, N⟩
local macro_rules | `(tactic| walk_at "own lk") => `(tactic| ((try dsimp only); repeat (first | rfl | rw [if_pos rfl] | rw [if_neg (by decide)])))
theorem expose {h₀ h : Heap} {L : Addr} {m : Str → Option Value} {x : Str} {v : Value} (F : Fr h₀ L h m) (e : m x = some v) : Fr h₀ L h (fun z => if z = x then some v else m z) := by
  have q : (fun z => if z = x then some v else m z) = m := by
    funext z
    split
    · rename_i h; rw [h]; exact e.symm
    · rfl
  rw [q]; exact F
section
variable {prog : Program} {w : World} {A : Around} {E : Value → Shared → Prop} {Q : Value → Shared → Prop} {s : Shared} {mean : ExcName → Option Value} {mg mb : Str → Option Value} {l : List Nat} {t u : Tok}
theorem fmod_n (x k : Nat) (h : 0 < k) : (x : Int).fmod (k : Int) = ((x % k : Nat) : Int) := by
  rw [Int.fmod_eq_emod_of_nonneg _ (by omega)]; rfl
theorem fdiv_n (x k : Nat) (h : 0 < k) : (x : Int).fdiv (k : Int) = ((x / k : Nat) : Int) := by
  rw [Int.fdiv_eq_ediv_of_nonneg _ (by omega)]; rfl
theorem fmod10 (x : Nat) : (x : Int).fmod 10 = ((x % 10 : Nat) : Int) := fmod_n x 10 (by decide)
theorem fdm (x : Nat) : ((x : Int).fdiv 10).fmod 6 = ((x / 10 % 6 : Nat) : Int) := by rw [fdiv_n x 10 (by decide) |> fun h => (show (x : Int).fdiv 10 = _ from h)]; exact fmod_n _ 6 (by decide)
theorem sub_tab {h₀ : Heap} {L : Addr} {news : List (Addr × Obj)} {a : Addr} {n : Nat} {vs : List Value} {tab : List (List Nat)} {k : Int} {j : Nat} {u : Tok} {value slice : Expr} (N : News h₀ L s.heap news) (hm : (a, W.listOf vs.toArray n) ∈ news) (hv : StrsAre vs (tab.map S))
    (hk : k = (j : Int)) (hj : j < tab.length) (hj2 : j < 1000000) (h : ∀ t', Q (.str (S (tab.getD j [])) t') s)
    (hs : subscripted slice false (.ref a) (.int k u) = operate [.ref a, .int k u] (getItem (.ref a) (.int k u)) := by with_unfolding_all rfl) (hg : ∀ r, letTemporaryGo value (.ref a) r = pure () := by intro _; with_unfolding_all rfl) :
    wpAny (model prog w) A (subscriptTail value slice (.ref a) (.int k u)) Q E s := by
  subst hk
  refine item_strsA (News.isList N hm) hv (by omega) (by rw [List.length_map]; omega) (by omega) (fun t' => ?_) hs hg
  have e : (tab.map S).getD ((j : Int)).toNat Str.empty = S (tab.getD j []) := by
    rw [Int.toNat_natCast, List.getD_eq_getElem?_getD, List.getD_eq_getElem?_getD, List.getElem?_map, List.getElem?_eq_getElem hj]; rfl
  rw [e]; exact h t'
local macro_rules | `(tactic| walk_at "subscriptTail Name BinOp ref int") => `(tactic| (k_here; (with_reducible rename News _ _ _ _ => N'); (first
   | (refine sub_tab N' (.tail _ (.tail _ (.tail _ (.head _)))) (by assumption : StrsAre _ (aloneL.map S)) (fmod10 _) (by rw [fmod10] at *; show _ < 8; omega) (by omega) ?_)
   | (refine sub_tab N' (.tail _ (.tail _ (.head _))) (by assumption : StrsAre _ (betweenL.map S)) (fdm _) (by show _ < 6; omega) (by omega) ?_)); intro _))
noncomputable def PairN (own : List (Addr × Obj)) (d : List Nat × Bool) (y : Value) : Prop := ∃ p n u, y = .ref p ∧ (p, ({ cls := .type "tuple", data := .seq #[.str (S d.1) u, .bool d.2] n } : Obj)) ∈ own
theorem PairN.tail {own : List (Addr × Obj)} {q} {d : List Nat × Bool} {y : Value} (x : PairN own d y) : PairN (q :: own) d y := let ⟨p, n, u, e, m⟩ := x; ⟨p, n, u, e, .tail _ m⟩
theorem PairN.at {h₀ h : Heap} {L : Addr} {own : List (Addr × Obj)} {d : List Nat × Bool} {y : Value} (N : News h₀ L h own) (x : PairN own d y) : PairO h d y := let ⟨p, n, u, e, m⟩ := x; ⟨p, n, u, e, (N _ m).1⟩
theorem news_rot {h₀ h : Heap} {L : Addr} {a b c d e : Addr × Obj} {own : List (Addr × Obj)} (N : News h₀ L h (a :: b :: c :: d :: e :: own)) : News h₀ L h (b :: c :: d :: e :: a :: own) := by
  intro p hp
  refine N p ?_
  simp only [List.mem_cons] at hp ⊢
  rcases hp with h | h | h | h | h | h
  · exact .inr (.inl h)
  · exact .inr (.inr (.inl h))
  · exact .inr (.inr (.inr (.inl h)))
  · exact .inr (.inr (.inr (.inr (.inl h))))
  · exact .inl h
  · exact .inr (.inr (.inr (.inr (.inr h))))
theorem betw_len (j : Nat) : (betweenL.getD j []).length ≤ 10 := by
  rw [List.getD_eq_getElem?_getD]
  cases h : betweenL[j]? with
  | none => simp
  | some v =>
    have hm := List.mem_of_getElem? h
    have : ∀ v ∈ betweenL, v.length ≤ 10 := by decide
    exact this v hm
theorem add_xy {x y : Str} {a b : List Nat} {t u : Tok} (ex : x = S a) (ey : y = S b) (hl : a.length + b.length ≤ 10000000) (h : ∀ t' k, Q (.str (S (a ++ b)) t') { s with toks := k }) :
    wpAny (model prog w) A (binaryOp .Add (.str x t) (.str y u)) Q E s := by
  subst ex ey; exact add_S hl h
noncomputable def SgI (s : Shared) (L P Ab Aa It Dd : Addr) (vA vB vs : List Value) (xs : List Nat) (k : Nat) (s' : Shared) : Prop :=
  ∃ i ys n m' h tk own oI, s' = { s with heap := h, toks := tk } ∧ k = vs.length + 1 - i ∧ i ≤ vs.length ∧ Fr s.heap L h m' ∧ News s.heap L h ((P, W.listOf ys n) :: (It, oI) :: (Ab, W.listOf vB.toArray 0) :: (Aa, W.listOf vA.toArray 0) :: own) ∧
    (oI.cls = .type "list_iterator" ∧ oI.data = .fields #[.ref Dd, .int i 0]) ∧ m' "pieces" = some (.ref P) ∧ m' "alone" = some (.ref Aa) ∧ m' "between" = some (.ref Ab) ∧ Paired (PairN own) ((xs.take i).map pieceOf) ys.toList ∧
    (∀ p ∈ (It, oI) :: (Ab, W.listOf vB.toArray 0) :: (Aa, W.listOf vA.toArray 0) :: own, p.1 ≠ P) ∧ (∀ p ∈ (Ab, W.listOf vB.toArray 0) :: (Aa, W.listOf vA.toArray 0) :: own, p.1 ≠ It)
local macro_rules | `(tactic| walk_at "binaryOp Add str str") => `(tactic| (refine add_xy (by first | exact qt_S | rfl) (by first | exact qt_S | rfl) (by simp only [List.length_append, List.length_cons, List.length_nil]; omega) ?_; intro _ _))
local macro_rules | `(tactic| walk_at "call builtin:list.append") => `(tactic| (k_here; (rename _ ∧ _ ∧ _ ∧ _ ∧ AllLt _ _ => l1); k_dflt (refine' append_K ?k1 ?k2 ?k3 ?_ ?z; (case k1 => k_asm); (case k2 => k_asm); (case k3 => exact Upd.tail (Nat.ne_of_lt l1.1).symm (Upd.head (by assumption))); (case z => assumption); k_whole); intro h' F' N'))
noncomputable abbrev tupO (x : Str) (u : Tok) (b : Bool) : Obj := { cls := .type "tuple", data := .seq #[.str x u, .bool b] }
theorem plus_tail {h₀ h : Heap} {L Lt D1 D2 D3 D4 D5 P : Addr} {m : Str → Option Value} {t1 t2 t3 t4 t5 : Tok} {ys : Array Value} {n : Nat} {own : List (Addr × Obj)} {pcs : List (List Nat × Bool)} {E : Value → Shared → Prop} {Q : Value → Shared → Prop} {s' : Shared} (e : s'.heap = h)
    (F : Fr h₀ L h m) (N : News h₀ L h ((Lt, W.listOf #[.ref D1, .ref D2, .ref D3, .ref D4, .ref D5] 0) :: (D5, tupO (Str.ofString "\n.") t5 false) :: (D4, tupO (Str.ofString "\".\"") t4 true) :: (D3, tupO (Str.ofString ".\r") t3 false) :: (D2, tupO (Str.ofString "\"<\"") t2 true) :: (D1, tupO (Str.ofString "&\n") t1 false) :: (P, W.listOf ys n) :: own))
    (dP : ∀ p ∈ own, p.1 ≠ P) (hLt : P < Lt) (hP : Paired (PairN own) pcs ys.toList) (hz : ys.size ≤ 10000)
    (go : ∀ (h7 : Heap) (n' : Nat) (own' : List (Addr × Obj)) (ys' : Array Value), Fr h₀ L h7 m → News h₀ L h7 ((P, W.listOf ys' n') :: own') → Paired (PairN own') (pcs ++ tailL) ys'.toList → Q (.ref P) { s' with heap := h7 }) :
    wpAny (model prog w) A (inplaceOp .Add (.ref P) (.ref Lt)) Q E s' := by
  subst e
  have aP := (N _ (.tail _ (.tail _ (.tail _ (.tail _ (.tail _ (.tail _ (.head _)))))))).1
  refine iadd_at aP (N _ (.head _)).1 (by simp; omega) fun h7 n7 hs7 ho7 => ?_
  have ne : ∀ {a : Addr} {x u b}, s'.heap.get? a = some (tupO x u b) → a ≠ P := fun ha e => by
    rw [e] at ha
    have h1 := congrArg Obj.cls (Option.some.inj (aP.symm.trans ha))
    exact absurd h1 (by simp)
  have iP := (N _ (.tail _ (.tail _ (.tail _ (.tail _ (.tail _ (.tail _ (.head _)))))))).2
  refine go h7 n7 ((D5, tupO (Str.ofString "\n.") t5 false) :: (D4, tupO (Str.ofString "\".\"") t4 true) :: (D3, tupO (Str.ofString ".\r") t3 false) :: (D2, tupO (Str.ofString "\"<\"") t2 true) :: (D1, tupO (Str.ofString "&\n") t1 false) :: own) (ys ++ #[.ref D1, .ref D2, .ref D3, .ref D4, .ref D5]) (F.change hs7 iP.1 iP.2) ?_ ?_
  · intro p hp
    simp only [List.mem_cons] at hp
    rcases hp with rfl | rfl | rfl | rfl | rfl | rfl | hp
    · exact ⟨ho7, iP⟩
    · have z := N _ (.tail _ (.head _)); exact ⟨hs7.extBut _ _ (ne z.1) z.1, z.2⟩
    · have z := N _ (.tail _ (.tail _ (.head _))); exact ⟨hs7.extBut _ _ (ne z.1) z.1, z.2⟩
    · have z := N _ (.tail _ (.tail _ (.tail _ (.head _)))); exact ⟨hs7.extBut _ _ (ne z.1) z.1, z.2⟩
    · have z := N _ (.tail _ (.tail _ (.tail _ (.tail _ (.head _))))); exact ⟨hs7.extBut _ _ (ne z.1) z.1, z.2⟩
    · have z := N _ (.tail _ (.tail _ (.tail _ (.tail _ (.tail _ (.head _)))))); exact ⟨hs7.extBut _ _ (ne z.1) z.1, z.2⟩
    · have z := N p (.tail _ (.tail _ (.tail _ (.tail _ (.tail _ (.tail _ (.tail _ hp))))))); exact ⟨hs7.extBut _ _ (dP p hp) z.1, z.2⟩
  · have e1 : Str.ofString "&\n" = S [38, 10] := by decide +kernel
    have e2 : Str.ofString "\"<\"" = S [34, 60, 34] := by decide +kernel
    have e3 : Str.ofString ".\r" = S [46, 13] := by decide +kernel
    have e4 : Str.ofString "\".\"" = S [34, 46, 34] := by decide +kernel
    have e5 : Str.ofString "\n." = S [10, 46] := by decide +kernel
    rw [e1, e2, e3, e4, e5, Array.toList_append]
    have up : ∀ d y, PairN own d y → PairN _ d y := fun d y z => ((((z.tail (q := (D1, tupO (S [38, 10]) t1 false))).tail (q := (D2, tupO (S [34, 60, 34]) t2 true))).tail (q := (D3, tupO (S [46, 13]) t3 false))).tail (q := (D4, tupO (S [34, 46, 34]) t4 true))).tail (q := (D5, tupO (S [10, 46]) t5 false))
    have a1 := (CInv.step.paired_mono up hP).snoc (a := ([38, 10], false)) ⟨D1, _, t1, rfl, .tail _ (.tail _ (.tail _ (.tail _ (.head _))))⟩
    have a2 := a1.snoc (a := ([34, 60, 34], true)) ⟨D2, _, t2, rfl, .tail _ (.tail _ (.tail _ (.head _)))⟩
    have a3 := a2.snoc (a := ([46, 13], false)) ⟨D3, _, t3, rfl, .tail _ (.tail _ (.head _))⟩
    have a4 := a3.snoc (a := ([34, 46, 34], true)) ⟨D4, _, t4, rfl, .tail _ (.head _)⟩
    have a5 := a4.snoc (a := ([10, 46], false)) ⟨D5, _, t5, rfl, .head _⟩
    simpa [tailL] using a5
theorem Paired.get {α β : Type} {F : α → β → Prop} : ∀ {l : List α} {l' : List β}, Paired F l l' → ∀ {i : Nat} {a : α} {b : β}, l[i]? = some a → l'[i]? = some b → F a b
  | _, _, .nil, i, a, b, h, _ => by simp at h
  | _, _, .cons x r, 0, a, b, h, h' => by simp at h h'; subst h h'; exact x
  | _, _, .cons x r, i + 1, a, b, h, h' => Paired.get r (by simpa using h) (by simpa using h')
/-- a tuple that s₀ does not hold -/
noncomputable def PairF (h₀ h : Heap) (d : List Nat × Bool) (y : Value) : Prop := ∃ p n u, y = .ref p ∧ h.get? p = some { cls := .type "tuple", data := .seq #[.str (S d.1) u, .bool d.2] n } ∧ h₀.get? p = none
theorem PairF.tupK {h₀ : Heap} : ∀ h h' d y, TupK h h' → PairF h₀ h d y → PairF h₀ h' d y := fun h h' d y k ⟨p, n, u, e, o, f⟩ => ⟨p, n, u, e, k _ _ _ _ o rfl rfl, f⟩
theorem PairF.own {h₀ h : Heap} : ∀ {ds : List (List Nat × Bool)} {ys : List Value}, Paired (PairF h₀ h) ds ys → ∃ own, Paired (PairN own) ds ys ∧ ∀ p ∈ own, h.get? p.1 = some p.2 ∧ h₀.get? p.1 = none
  | _, _, .nil => ⟨[], .nil, fun _ h => (nomatch h)⟩
  | _, _, .cons (a := d) (b := y) ⟨p, n, u, e, o, f⟩ r => by
    obtain ⟨own, hP, hown⟩ := PairF.own r
    refine ⟨(p, _) :: own, .cons ⟨p, n, u, e, .head _⟩ (CInv.step.paired_mono (fun _ _ z => z.tail) hP), fun q hq => ?_⟩
    rcases List.mem_cons.mp hq with rfl | hq
    · exact ⟨o, f⟩
    · exact hown q hq
theorem spread_len : ∀ (ps : List (List Nat × Bool)), (∀ p ∈ ps, p.1.length ≤ 30) → (spread ps).flatten.length ≤ 30 * ps.length
  | [], _ => Nat.le_refl _
  | p :: r, h => by
    have h1 := h p (.head _)
    have h2 := spread_len r fun q hq => h q (.tail _ hq)
    unfold spread at h2 ⊢
    rw [List.map_cons, List.flatten_cons, List.length_append, List.length_map, List.length_cons]; omega
theorem piece_len (x : Nat) : (pieceOf x).1.length ≤ 30 := by
  unfold pieceOf
  split
  · show (aloneL.getD (x % 10) []).length ≤ 30
    rw [List.getD_eq_getElem?_getD]
    cases h : aloneL[x % 10]? with
    | none => simp
    | some v =>
      have hm := List.mem_of_getElem? h
      have : ∀ v ∈ aloneL, v.length ≤ 30 := by decide
      exact this v hm
  · have := betw_len (x / 10 % 6)
    show ([34] ++ betweenL.getD (x / 10 % 6) [] ++ [34]).length ≤ 30
    rw [List.length_append, List.length_append, List.length_singleton]; omega
theorem pieces_len (xs : List Nat) : ∀ p ∈ xs.map pieceOf ++ tailL, p.1.length ≤ 30 := by
  intro p hp
  rcases List.mem_append.mp hp with hp | hp
  · obtain ⟨x, _, rfl⟩ := List.mem_map.mp hp; exact piece_len x
  · have : ∀ v ∈ tailL, v.1.length ≤ 30 := by decide
    exact this p hp
theorem signs_call {Dd : Addr} {vs : List Value} {xs : List Nat} (X : (hd.heap_39 w.params).In s.heap) (T : Top hd.view_39 VL mean mg mb s.heap)
   (hh : A.handled = none) (hroom : A.depth + 1 < recursionLimit) (ht : 0 < s.toks) (hl : s.heap.IsList Dd vs.toArray) (hxs : xs.length = 4) (hvx : vs.length = 4) (hv : ∀ (i : Nat) v x, vs[i]? = some v → xs[i]? = some x → ∃ t, v = .int (x : Int) t) (hb : ∀ x ∈ xs, x < 1000000)
   (ret : ∀ (D : Addr) (h : Heap) (tk : Nat) (gs : Array GenState) (ys : List Value) (own : List (Addr × Obj)), (∀ b o, s.heap.get? b = some o → h.get? b = some o) → 0 < tk → ((∀ x ∈ s.gens, GenState.bare x = true) → ∀ x ∈ gs, GenState.bare x = true) →
     h.get? D = some (LCg.lst ys) → s.heap.get? D = none → Paired (PairN own) (signsL xs) ys → (∀ p ∈ own, h.get? p.1 = some p.2 ∧ s.heap.get? p.1 = none) → Q (.ref D) { s with heap := h, toks := tk, gens := gs }) : wpAny (model prog w) A (call (.ref 88) [.ref Dd]) Q E s := by
  refine wpAny_with_toks (n := 1) ht ?_
  k_dflt (refine' enterM [(Str.ofString "draws", .ref Dd)] X T.nolimit ?k3 ?k4 ?kr ?k6 ?k7 ?c5 ?_ ?c2 ?c3 ?c4; (case kr => omega); (case k3 => k_is); (case k4 => k_is); (case k6 => exact rfl); (case c5 => decide); (case k7 => exact locs rfl); (case c2 => exact rfl); (case c3 => exact rfl); (case c4 => exact rfl); k_whole)
  intro h₁ L tk F N htk
  try dsimp only
  k_steps
  rename Fr _ _ _ _ => F2
  rename News _ _ _ _ => N2
  obtain ⟨vA, vB, hvA, hvB, N2⟩ := tables F2 N2
  rename_i Aa _ _ _ _ Ab _ _ _ P _ _ h₂ tk₂
  refine wpAny_For ?_
  k_steps
  have hl2 : h₂.IsList Dd vs.toArray := by obtain ⟨o, e, r⟩ := hl; exact ⟨o, F2.keep _ _ e, r⟩
  refine wpAny_pyIter_list hl2 ?_
  generalize hIt : h₂.objs.size = It
  refine codeAny_forLoop_any (SgI s L P Ab Aa It Dd vA vB vs xs) ?_ (vs.length + 1) ?_
  · rintro k s' ⟨i, ys, n, m', h, tk, own, oI, rfl, rfl, hi, F3, N3, hoI, q1, q2, q3, hP, dP, dI⟩
    have hit : h.IsListIter It Dd i := ⟨oI, (N3 _ (.tail _ (.head _))).1, hoI⟩
    have hl3 : h.IsList Dd vs.toArray := by obtain ⟨o, e, r⟩ := hl; exact ⟨o, F3.keep _ _ e, r⟩
    by_cases hlt : i < vs.length
    · obtain ⟨v, hvi⟩ := getElem?_lt hlt
      obtain ⟨x, hxi⟩ := getElem?_lt (l := xs) (i := i) (by omega)
      obtain ⟨tx, rfl⟩ := hv i v x hvi hxi
      refine wpAny_pyNext_list_item hit hl3 (x := .int (x : Int) tx) (by simpa using hvi) fun h4 hit4 hs4 => ?_
      dsimp only
      refine wpAny_pure ?_
      have hxb : x < 1000000 := hb x (List.mem_of_getElem? hxi)
      obtain ⟨oI4, e4, r4⟩ := hit4
      have N4 : News s.heap L h4 ((P, W.listOf ys n) :: (It, oI4) :: (Ab, W.listOf vB.toArray 0) :: (Aa, W.listOf vA.toArray 0) :: own) := by
        intro p hp
        rcases List.mem_cons.mp hp with rfl | hp
        · exact ⟨hs4.extBut _ _ (Ne.symm (dP (It, oI) (.head _))) (N3 _ (.head _)).1, (N3 _ (.head _)).2⟩
        rcases List.mem_cons.mp hp with rfl | hp
        · exact ⟨e4, (N3 _ (.tail _ (.head _))).2⟩
        exact ⟨hs4.extBut _ _ (dI _ hp) (N3 _ (.tail _ (.tail _ hp))).1, (N3 _ (.tail _ (.tail _ hp))).2⟩
      have F4 : Fr s.heap L h4 m' := F3.change hs4 (N3 _ (.tail _ (.head _))).2.1 (N3 _ (.tail _ (.head _))).2.2
      have dP4 : ∀ p ∈ (It, oI4) :: (Ab, W.listOf vB.toArray 0) :: (Aa, W.listOf vA.toArray 0) :: own, p.1 ≠ P := by
        intro p hp
        rcases List.mem_cons.mp hp with rfl | hp
        · exact dP (It, oI) (.head _)
        · exact dP p (.tail _ hp)
      have hyl : ys.toList.length = i := by rw [← hP.length, List.length_map, List.length_take]; omega
      have hvz : ys.size ≤ sizeLine := by rw [← Array.length_toList]; exact sizeLine_of (by omega)
      have hbl := betw_len (x / 10 % 6)
      clear hit hl3 hs4 F3 N3
      refine wpAny_assign_Name (stN F4 N4 fun h5 F5 N5 => ?_)
      clear F4 N4
      have F6 := expose (x := "between") (v := .ref Ab) (expose (x := "alone") (v := .ref Aa) (expose (x := "pieces") (v := .ref P) F5 (by (try dsimp only); rw [if_neg (by decide)]; exact q1)) (by (try dsimp only); rw [if_neg (by decide), if_neg (by decide)]; exact q2)) (by (try dsimp only); rw [if_neg (by decide), if_neg (by decide), if_neg (by decide)]; exact q3)
      clear F5
      refine post_gen (fun s₃ => ∃ m, m < vs.length + 1 - i ∧ SgI s L P Ab Aa It Dd vA vB vs xs m s₃) (fun _ z => z) fun POST hPOST => ?_
      have leaf : ∀ (T : Addr) (u : Tok) (nn : Nat) (h7 : Heap) (tk7 : Nat) (m7 : Str → Option Value), Fr s.heap L h7 m7 → m7 "pieces" = some (.ref P) → m7 "alone" = some (.ref Aa) → m7 "between" = some (.ref Ab) → P < T ∧ It < T ∧ Ab < T ∧ Aa < T ∧ AllLt T own →
          News s.heap L h7 ((T, { cls := .type "tuple", data := .seq #[.str (S (pieceOf x).1) u, .bool (pieceOf x).2] nn }) :: (P, W.listOf (ys.push (.ref T)) (n + 1)) :: (It, oI4) :: (Ab, W.listOf vB.toArray 0) :: (Aa, W.listOf vA.toArray 0) :: own) →
          POST .next { s with heap := h7, toks := tk7 } := by
        intro T u nn h7 tk7 m7 F7 e1 e2 e3 hT N7
        refine hPOST _ ⟨vs.length + 1 - (i + 1), by omega, i + 1, ys.push (.ref T), n + 1, m7, h7, tk7, _, oI4, rfl, rfl, hlt, F7, news_rot N7, r4, e1, e2, e3, ?_, ?_, ?_⟩
        · rw [take_snoc hxi, List.map_append, Array.toList_push]
          exact (CInv.step.paired_mono (fun d y z => z.tail) hP).snoc ⟨T, nn, u, rfl, .head _⟩
        · intro p hp
          simp only [List.mem_cons] at hp
          rcases hp with rfl | rfl | rfl | rfl | hp
          · exact dP4 _ (.head _)
          · exact dP4 _ (.tail _ (.head _))
          · exact dP4 _ (.tail _ (.tail _ (.head _)))
          · exact (Nat.ne_of_lt hT.1).symm
          · exact dP4 _ (.tail _ (.tail _ (.tail _ hp)))
        · intro p hp
          simp only [List.mem_cons] at hp
          rcases hp with rfl | rfl | rfl | hp
          · exact dI _ (.head _)
          · exact dI _ (.tail _ (.head _))
          · exact (Nat.ne_of_lt hT.2.1).symm
          · exact dI _ (.tail _ (.tail _ hp))
      clear hPOST
      k_steps
      · rename (x : Int).fmod 10 < 8 => hc
        rw [fmod10] at hc
        rename Fr _ _ _ _ => F7
        rename News _ _ _ _ => N7
        rename _ ∧ _ ∧ _ ∧ _ ∧ AllLt _ _ => l1
        have e : pieceOf x = (aloneL.getD (x % 10) [], false) := by unfold pieceOf; rw [if_pos (by omega)]
        rw [e] at leaf
        exact leaf _ _ _ _ _ _ F7 (by walk_at "own lk") (by walk_at "own lk") (by walk_at "own lk") l1 N7
      · rename ¬ (x : Int).fmod 10 < 8 => hc
        rw [fmod10] at hc
        rename Fr _ _ _ _ => F7
        rename News _ _ _ _ => N7
        rename _ ∧ _ ∧ _ ∧ _ ∧ AllLt _ _ => l1
        have e : pieceOf x = ([34] ++ betweenL.getD (x / 10 % 6) [] ++ [34], true) := by unfold pieceOf; rw [if_neg (by omega)]
        rw [e] at leaf
        exact leaf _ _ _ _ _ _ F7 (by walk_at "own lk") (by walk_at "own lk") (by walk_at "own lk") l1 N7
    · have hi' : i = vs.length := by omega
      subst hi'
      refine wpAny_pyNext_list_end hh hit hl3 (by simp) fun h4 hs4 => ?_
      have N4 : News s.heap L h4 ((P, W.listOf ys n) :: own) := by
        intro p hp
        rcases List.mem_cons.mp hp with rfl | hp
        · exact ⟨hs4 _ _ (Ne.symm (dP (It, oI) (.head _))) (N3 _ (.head _)).1, (N3 _ (.head _)).2⟩
        have hp' := List.Mem.tail (It, oI) (List.Mem.tail (Ab, W.listOf vB.toArray 0) (List.Mem.tail (Aa, W.listOf vA.toArray 0) hp))
        exact ⟨hs4 _ _ (dI _ (.tail _ (.tail _ hp))) (N3 _ (.tail _ hp')).1, (N3 _ (.tail _ hp')).2⟩
      have F4 : Fr s.heap L h4 m' := ⟨F3.ns.at' fun o e => hs4 _ o (Ne.symm (N3 _ (.tail _ (.head _))).2.1) e, fun b o e => hs4 b o (fun q => by rw [q, (N3 _ (.tail _ (.head _))).2.2] at e; cases e) (F3.keep b o e), F3.above⟩
      have dP4 : ∀ p ∈ own, p.1 ≠ P := fun p hp => dP p (.tail _ (.tail _ (.tail _ hp)))
      have hyl : ys.toList.length = 4 := by rw [← hP.length, List.length_map, List.length_take]; omega
      have hvz : ys.size ≤ sizeLine := by rw [← Array.length_toList]; exact sizeLine_of (by omega)
      have F6 := expose (x := "pieces") (v := .ref P) F4 q1
      clear F4 F3 N3 hit hl3 dI F2 N2 hs4 dP q1 q2 q3
      k_steps
      rename Fr _ _ _ _ => F7
      rename News _ _ _ _ => N7
      rename _ < _ ∧ _ < _ ∧ _ < _ ∧ _ < _ ∧ _ < _ ∧ _ < _ ∧ AllLt _ _ => l1
      refine plus_tail rfl F7 N7 dP4 l1.2.2.2.2.2.1 hP (by rw [← Array.length_toList]; omega) fun h8 n8 own8 ys8 F8 N8 hP8 => ?_
      clear F7 N7
      try clear F6
      try clear N4
      dsimp only
      k_steps
      rename Fr _ _ _ _ => F9
      rename News _ _ _ _ => N9
      have hx4 : xs.take vs.length = xs := by rw [hvx, ← hxs, List.take_length]
      rw [hx4] at hP8
      have hlen8 : ys8.toList.length = (xs.map pieceOf ++ tailL).length := hP8.length.symm
      rw [eval_ListComp]
      refine wpAny_comprehension_free (use := none) rfl (fun _ => rfl) (cl := []) (by with_unfolding_all rfl) rfl (by decide) ?_
      refine ld_local rfl rfl F9.ns (by walk_at "own lk") ?_
      refine comp_nest (nt := 0) (O := PairF s.heap) (vs := ys8.toList) (dss := spread (xs.map pieceOf ++ tailL)) PairF.tupK hh (by simpa using News.isList N9 (.head _)) (by unfold spread; rw [List.length_map, hlen8]) (Nat.le_trans (spread_len _ (pieces_len xs)) (by rw [List.length_append, List.length_map, hxs]; decide)) (Nat.zero_le _)
        (by decide) rfl (by rfl) (by rfl) (by rfl) (by decide) (by decide) (by decide) (fun _ => rfl) ?_ ?_
      · intro i v dl hvi hdl
        obtain ⟨⟨cs, q⟩, hd, rfl⟩ : ∃ d, (xs.map pieceOf ++ tailL)[i]? = some d ∧ d.1.map (fun c => ([c], d.2)) = dl := by
          unfold spread at hdl
          rw [List.getElem?_map] at hdl
          cases he : (xs.map pieceOf ++ tailL)[i]? with
          | none => rw [he] at hdl; cases hdl
          | some d => rw [he] at hdl; exact ⟨d, rfl, Option.some.inj hdl⟩
        obtain ⟨p, n', u', rfl, hm⟩ := Paired.get hP8 hd hvi
        refine ⟨p, .str (S cs) u', .bool q, rfl, ⟨_, (N9 _ (.tail _ hm)).1, rfl, n', rfl⟩, cs, by rw [List.length_map], ?_, ?_⟩
        · intro s' m'' E' Q' g hn hm1 hm2 hQ
          exact ld_local rfl rfl hn hm1 (hQ _ _ (Grow.refl (Nat.zero_le _)))
        · intro j c d hc hd' s' m'' E' u g hn hm1 hm2 hm3
          rw [List.getElem?_map, hc] at hd'
          cases hd'
          refine Tuple_ ?_
          refine Calls.spliced_cons (ld_local rfl rfl hn hm3 (Calls.spliced_cons (ld_local rfl rfl hn hm2 (Calls.spliced_nil (wpAny_newTuple ?_)))))
          refine ⟨⟨_, _, _, rfl, fun b o e => Heap.get?_push_of_some _ e, Nat.zero_le _, fun z => z⟩, ⟨_, _, u, rfl, Heap.get?_push_size _ rfl, ?_⟩⟩
          cases e : s.heap.get? s'.heap.objs.size with
          | none => rfl
          | some o => exact absurd (Heap.lt_size (g.keep _ _ (F9.keep _ _ e))) (Nat.lt_irrefl _)
      · intro s' ys' m'' hinv hn
        refine ⟨m'', hn, fun h' hs' => ?_⟩
        obtain ⟨hg, hl', _, hP'⟩ := hinv
        obtain ⟨hh', tk', gs', rfl, hk', _, hg'⟩ := hg
        dsimp only at hl' hn hP' hs' ⊢
        have hP2 := CInv.step.paired_mono (fun d y => PairF.tupK _ _ d y (TupK.ns hn hs')) hP'
        obtain ⟨own, hO, hown⟩ := PairF.own hP2
        intro hpos
        have hk2 : ∀ b o, s.heap.get? b = some o → h'.get? b = some o := fun b o e => hs'.extBut b o (Nat.ne_of_lt (Nat.lt_add_right 2 (Heap.lt_size (F9.keep b o e)))) (hk' b o (F9.keep b o e))
        refine ret _ h' tk' gs' ys' own hk2 hpos hg' (hs'.extBut _ _ (Nat.ne_of_lt (Nat.lt_succ_self _)) hl') ?_ hO hown
        exact Heap.get?_none_of_le (Nat.le_trans (Nat.le_of_lt (Nat.lt_of_le_of_lt F9.above F9.ns.lt)) (Nat.le_succ _))
  · rename _ < _ ∧ _ < _ => lP
    have hPl : P < h₂.objs.size := Heap.lt_size (N2 _ (.head _)).1
    have up : ∀ b o, h₂.get? b = some o → (h₂.push { cls := .type "list_iterator", data := .fields #[.ref Dd, .int 0 0] }).get? b = some o := fun _ _ e => Heap.get?_push_of_some _ e
    refine ⟨0, #[], 0, _, _, _, [], { cls := .type "list_iterator", data := .fields #[.ref Dd, .int 0 0] }, rfl, rfl, Nat.zero_le _, F2.keeps up, ?_, ⟨rfl, rfl⟩, by walk_at "own lk", by walk_at "own lk", by walk_at "own lk", .nil, ?_, ?_⟩
    · intro p hp
      simp only [List.mem_cons, List.not_mem_nil, or_false] at hp
      rcases hp with rfl | rfl | rfl | rfl
      · exact ⟨up _ _ (N2 _ (.head _)).1, (N2 _ (.head _)).2⟩
      · exact ⟨by rw [← hIt]; exact Heap.get?_push_size _ rfl, by rw [← hIt]; exact (Nat.ne_of_lt F2.ns.lt).symm, by rw [← hIt]; exact next_is_new F2⟩
      · exact ⟨up _ _ (N2 _ (.tail _ (.head _))).1, (N2 _ (.tail _ (.head _))).2⟩
      · exact ⟨up _ _ (N2 _ (.tail _ (.tail _ (.head _)))).1, (N2 _ (.tail _ (.tail _ (.head _)))).2⟩
    · intro p hp
      simp only [List.mem_cons, List.not_mem_nil, or_false] at hp
      rcases hp with rfl | rfl | rfl
      · rw [← hIt]; exact (Nat.ne_of_lt hPl).symm
      · exact Nat.ne_of_lt lP.1
      · exact Nat.ne_of_lt lP.2
    · intro p hp
      simp only [List.mem_cons, List.not_mem_nil, or_false] at hp
      rcases hp with rfl | rfl
      · rw [← hIt]; exact Nat.ne_of_lt (Nat.lt_trans lP.1 hPl)
      · rw [← hIt]; exact Nat.ne_of_lt (Nat.lt_trans lP.2 hPl)
end
end Mine
end
theorem Mine.forgetNormal : True := by
  w_top off
  have h : True ∧ True := by
    try walk1
    all_goals (first | trivial | exact ⟨trivial, trivial⟩)
  exact h.1
section
open PySem PySem.W PyProof.Rows PySem.Calls
set_option maxRecDepth 100000
set_option maxHeartbeats 1000000
namespace Mine
theorem count_bound (x y : Str) : 0 ≤ Txt.count x y ∧ Txt.count x y ≤ x.length + 1 := by
  have := StrLaws.occ_length_le x y 0 x.length (x.length + 1)
  unfold Txt.count; omega
/-- the place of the hand 'r', where no 'w' that writes marks stands ahead of it -/
noncomputable def placeL (x : Str) (marks : Bool) : Int :=
  if 0 ≤ Txt.find x (Str.ofString "r") ∧ marks = true ∧ (Builtin.Str.occurrences (Txt.slice x none (some (Txt.find x (Str.ofString "r")))) (Str.ofString "w") 0 (Txt.slice x none (some (Txt.find x (Str.ofString "r")))).length 1).isEmpty = false then -1 else Txt.find x (Str.ofString "r")
noncomputable def aheadL (x : Str) (marks : Bool) : Int := if 0 ≤ placeL x marks then Txt.count (Txt.slice x none (some (placeL x marks))) (Str.ofString "s") else Txt.count x (Str.ofString "s")
noncomputable def normalL (x : Str) (marks : Bool) : Str :=
  Txt.mul (Str.ofString "s") (aheadL x marks) ++ (if 0 ≤ placeL x marks then Str.ofString "r" else Str.ofString "") ++ Txt.mul (Str.ofString "s") (Txt.count x (Str.ofString "s") - aheadL x marks) ++ Txt.mul (Str.ofString "w") (Txt.count x (Str.ofString "w"))
theorem place_find {x : Str} {marks : Bool} (h : ¬ 0 ≤ Txt.find x (Str.ofString "r") ∨ marks = false ∨ (Builtin.Str.occurrences (Txt.slice x none (some (Txt.find x (Str.ofString "r")))) (Str.ofString "w") 0 (Txt.slice x none (some (Txt.find x (Str.ofString "r")))).length 1).isEmpty = true) : placeL x marks = Txt.find x (Str.ofString "r") := by
  unfold placeL
  rw [if_neg]
  rintro ⟨a, b, c⟩
  rcases h with h | h | h
  · exact h a
  · rw [b] at h; cases h
  · rw [c] at h; cases h
theorem place_none {x : Str} {marks : Bool} (a : 0 ≤ Txt.find x (Str.ofString "r")) (b : marks = true) (c : (Builtin.Str.occurrences (Txt.slice x none (some (Txt.find x (Str.ofString "r")))) (Str.ofString "w") 0 (Txt.slice x none (some (Txt.find x (Str.ofString "r")))).length 1).isEmpty = false) : placeL x marks = -1 := by
  unfold placeL; rw [if_pos ⟨a, b, c⟩]
theorem normal_pos {x : Str} {marks : Bool} {p : Int} (h : placeL x marks = p) (h0 : 0 ≤ p) : normalL x marks = Txt.mul (Str.ofString "s") (Txt.count (Txt.slice x none (some p)) (Str.ofString "s")) ++ Str.ofString "r" ++ Txt.mul (Str.ofString "s") (Txt.count x (Str.ofString "s") - Txt.count (Txt.slice x none (some p)) (Str.ofString "s")) ++ Txt.mul (Str.ofString "w") (Txt.count x (Str.ofString "w")) := by
  unfold normalL aheadL; rw [h, if_pos h0, if_pos h0]
theorem normal_neg {x : Str} {marks : Bool} {p : Int} (h : placeL x marks = p) (h0 : ¬ 0 ≤ p) : normalL x marks = Txt.mul (Str.ofString "s") (Txt.count x (Str.ofString "s")) ++ Str.ofString "" ++ Txt.mul (Str.ofString "s") (Txt.count x (Str.ofString "s") - Txt.count x (Str.ofString "s")) ++ Txt.mul (Str.ofString "w") (Txt.count x (Str.ofString "w")) := by
  unfold normalL aheadL; rw [h, if_neg h0, if_neg h0]
local macro_rules | `(tactic| walk_at "binaryOp Mult str int") => `(tactic| (refine SB.mul (mulOk_of 1 100 (by decide +kernel) (by omega) (by omega) (by decide) (by decide)) ?_; intro _ _))
local macro_rules | `(tactic| walk_at "binaryOp Add str str") => `(tactic| (refine PyProof.Rows.add_str ?_ (by simp only [StrLaws.length_append]; exact sizeLine_of (by omega)); intro _ _))
section
variable {prog : Program} {w : World} {A : Around} {E : Value → Shared → Prop} {Q : Value → Shared → Prop} {s : Shared} {mean : ExcName → Option Value} {mg mb : Str → Option Value} {l : List Nat} {t u : Tok}
theorem normal_call {x : Str} {marks : Bool} (X : (hd.heap_39 w.params).In s.heap) (T : Top hd.view_39 VL mean mg mb s.heap)
   (hh : A.handled = none) (hroom : A.depth < recursionLimit) (ht : 0 < s.toks) (hx : x.length ≤ 10)
   (ret : ∀ (t' : Tok) (h : Heap) (tk' : Nat), (∀ b o, s.heap.get? b = some o → h.get? b = some o) → 0 < tk' → Q (.str (normalL x marks) t') { s with heap := h, toks := tk' }) :
   wpAny (model prog w) A (call (.ref 102) [.str x t, .bool marks]) Q E s := by
  have c1 := count_bound x (Str.ofString "s")
  have c2 := count_bound x (Str.ofString "w")
  have c3 := count_bound (Txt.slice x none (some (Txt.find x (Str.ofString "r")))) (Str.ofString "s")
  have c4 := PyProof.Txt.length_slice_le x none (some (Txt.find x (Str.ofString "r")))
  have m1 := len_mul_one (N := 12) (show Str.ofString "s" = ⟨#[115]⟩ from by decide +kernel) (n := Txt.count x (Str.ofString "s")) (by omega)
  have m2 := len_mul_one (N := 12) (show Str.ofString "w" = ⟨#[119]⟩ from by decide +kernel) (n := Txt.count x (Str.ofString "w")) (by omega)
  have m3 := len_mul_one (N := 12) (show Str.ofString "s" = ⟨#[115]⟩ from by decide +kernel) (n := Txt.count (Txt.slice x none (some (Txt.find x (Str.ofString "r")))) (Str.ofString "s")) (by omega)
  have m4 := len_mul_one (N := 12) (show Str.ofString "s" = ⟨#[115]⟩ from by decide +kernel) (n := Txt.count x (Str.ofString "s") - Txt.count (Txt.slice x none (some (Txt.find x (Str.ofString "r")))) (Str.ofString "s")) (by omega)
  have m5 := len_mul_one (N := 12) (show Str.ofString "s" = ⟨#[115]⟩ from by decide +kernel) (n := Txt.count x (Str.ofString "s") - Txt.count x (Str.ofString "s")) (by omega)
  have r1 : (Str.ofString "r").length = 1 := by decide +kernel
  have r0 : (Str.ofString "").length = 0 := by decide +kernel
  refine wpAny_with_toks (n := 1) ht ?_
  k_dflt (refine' enterM [(Str.ofString "run", .str x t), (Str.ofString "marks", .bool marks)] X T.nolimit ?k3 ?k4 ?kr ?k6 ?k7 ?c5 ?_ ?c2 ?c3 ?c4; (case kr => omega); (case k3 => k_is); (case k4 => k_is); (case k6 => exact rfl); (case c5 => decide); (case k7 => exact locs rfl); (case c2 => exact rfl); (case c3 => exact rfl); (case c4 => exact rfl); k_whole)
  intro h₁ L tk F N htk
  try dsimp only
  k_steps
  all_goals (
    rename Fr _ _ _ _ => F'
    rename _ ≤ Shared.toks _ => hpos
    (first
      | (rename (Builtin.Str.occurrences _ _ _ _ _).isEmpty = true => he
         rename (0 : Int) ≤ Txt.find _ _ => h0
         rw [show normalL x marks = _ from normal_pos (place_find (.inr (.inr he))) h0] at ret
         exact ret _ _ _ F'.keep hpos)
      | (rename (Builtin.Str.occurrences _ _ _ _ _).isEmpty = false => he
         rename (0 : Int) ≤ Txt.find _ _ => h0
         rename marks = true => hm
         rw [show normalL x marks = _ from normal_neg (place_none h0 hm he) (by decide)] at ret
         exact ret _ _ _ F'.keep hpos)
      | (rename marks = false => hm
         rename (0 : Int) ≤ Txt.find _ _ => h0
         rw [show normalL x marks = _ from normal_pos (place_find (.inr (.inl hm))) h0] at ret
         exact ret _ _ _ F'.keep hpos)
      | (rename ¬ (0 : Int) ≤ Txt.find _ _ => h0
         rw [show normalL x marks = _ from normal_neg (place_find (.inl h0)) h0] at ret
         exact ret _ _ _ F'.keep hpos)))
end
end Mine
end
section
open PySem PySem.W PyProof.Rows PySem.Calls
set_option maxRecDepth 100000
set_option maxHeartbeats 1000000
namespace Mine
/-- a call of a def of the text's that keeps cells, as its body's run -/
theorem enterC {prog : Program} {w : World} {A : Around} {E : Value → Shared → Prop} {Q : Value → Shared → Prop} {s : Shared} {K : Frag} {name qual : Str} {params : Arguments} {body : List Stmt} {scope : Scope} {dV kV doc pm cdv ct oc : Value} {an od : Option Addr} {osl : Array (Option Value)} {f : Addr} {args : List Value} (binds : List (Str × Value))
    (X : K.In s.heap) (hlim : s.heap.NoLimit)
    (ho : K.lookup f = some ⟨oc, od, .func (fnOf name qual params body scope dV kV doc pm an cdv ct), osl⟩) (hcd : codeIn K cdv qual = true) (hroom : A.depth < recursionLimit)
    (hbind : bindArgs (fnOf name qual params body scope dV kV doc pm an cdv ct) ⟨args, []⟩ = pure binds) (hkind : (binds.all fun y => scope.names.lookup y.1 == some .local || scope.names.lookup y.1 == some .cell) = true)
    (hnd : ((cellsFrom 0 scope.names []).map (·.1)).Nodup)
    (h : ∀ h₁ L tk cells, Fr s.heap L h₁ (bindL (envOfC qual scope L f cdv).kindOf binds fun _ => none) → News s.heap L h₁ cells → CellsAre (bindC (envOfC qual scope L f cdv).kindOf binds fun _ => none) (cellsFrom (L + 1) scope.names []) cells →
      wpAny (model prog w) (A.deeper (envOfC qual scope L f cdv)) (execs body (envOfC qual scope L f cdv))
        (fun fl s' => Q (match fl with | .ret v => v | _ => .none) s') (fun _ _ => False) { s with heap := h₁, toks := tk })
    (hco : scope.isCoroutine = false) (hgen : scope.isGenerator = false) (hk : scope.kind = .function) : wpAny (model prog w) A (call (.ref f) args) Q E s := by
  refine wpAny_call ?_
  refine codeAny_call_function hroom (X _ _ ho) rfl hco hgen rfl (codeRec_of X hcd) ?_
  rw [hbind]
  refine wpAny_pure (wpAny_newFunctionEnv_cells hk (kindsX hkind _) fun env' he s' x => ?_)
  subst he
  refine ⟨hlim.keeps x.toInCall.keep, codeAny_func ?_⟩
  obtain ⟨h₁, tk, rfl, _⟩ := x.done
  have hk₁ := x.toInCall.keep
  obtain ⟨cells, NC, Y⟩ := Cl.news (h₀ := s.heap) (Nat.le_refl _) fun n c hm => ⟨x.cell n c (lookup_of_mem_nodup (cellsFrom_names scope.names 0 (s.heap.objs.size + 1) [] [] rfl ▸ hnd) hm), x.above n c hm⟩
  exact wpAny_mono (h h₁ s.heap.objs.size tk cells ⟨x.toInCall.ns, hk₁, Nat.le_refl _⟩ NC Y) (fun fl s' hl => hl) fun _ _ y => y.elim
end Mine
end
section
open PySem PySem.W PyProof.Rows PySem.Calls
set_option maxRecDepth 100000
set_option maxHeartbeats 800000
namespace Mine
theorem execs_mid {M : Model} {A : Around} {st : Stmt} {rest : List Stmt} {env : Env} {Q : Flow → Shared → Prop} {E : Value → Shared → Prop} {s : Shared} (mid : Shared → Prop) (h1 : wpAny M A (exec st env) (fun f s' => f = .next ∧ mid s') E s)
    (h2 : ∀ s', mid s' → wpAny M A (execs rest env) Q E s') : wpAny M A (execs (st :: rest) env) Q E s := by
  refine wpAny_execs_cons (wpAny_mono h1 (fun f s' h => ?_) fun _ _ e => e)
  obtain ⟨rfl, hm⟩ := h
  exact h2 _ hm
noncomputable def IntO (_ : Heap) (d : Nat) (y : Value) : Prop := ∃ t, y = .int (d : Int) t
theorem IntO.tupK : ∀ h h' d y, TupK h h' → IntO h d y → IntO h' d y := fun _ _ _ _ _ z => z
section
variable {nt : Nat} {prog : Program} {w : World} {A : Around} {E : Value → Shared → Prop} {R : Result → Shared → Prop} {s : Shared} {env : Env}
/-- one clause with a test, over a range, of the numbers themselves -/
theorem comp_filter {iter test : Expr} {x1 : Str} {p1 p2 : Pos} {scope : Scope} {cl : List (Str × Addr)} {pos : Pos} {r : Addr} {n : Nat} {b : Int} {t u v : Tok} {p : Nat → Bool} {RR : Value → Addr → Result → Shared → Prop}
    (hh : A.handled = none) (hr : IsRange s.heap r 0 b 1 t u v) (hsm : Builtin.Range.small 0 b 1 = true) (hn : Builtin.Range.rangeSize 0 b 1 = ((n : Nat) : Int)) (hsz : n ≤ 100000) (hp : nt ≤ s.toks)
    (hcell : ∀ y ∈ scope.names, y.2 ≠ .cell) (hkind : scope.kind = .function) (hx1 : scope.names.lookup x1 = some .local) (hdb : (x1 == ("__debug__" : Str)) = false)
    (htest : ∀ (i : Nat), i < n → ∀ (s' : Shared) m' t' (E' : Value → Shared → Prop), Grow nt s s' → s'.heap.Ns (s.heap.objs.size + 2) m' → m' x1 = some (.int (i : Int) t') →
      wpAny (model prog w) A (isTrue test (compEnvC scope cl (s.heap.objs.size + 2) env) (eval test (compEnvC scope cl (s.heap.objs.size + 2) env))) (fun ok s'' => ok = p i ∧ Grow nt s' s'') E' s')
    (hRR : ∀ s' ys m', CInv nt IntO s ((List.range n).filter p) ys s' → s'.heap.Ns (s.heap.objs.size + 2) m' → RR (.ref (s.heap.objs.size + 1)) (s.heap.objs.size + 2) (.ok .next) s') :
    wpAny (model prog w) A (pyIter (.ref r)) (fun it s₂ => wpAny (model prog w) A (newList []) (fun acc s₃ => wpAny (model prog w) A (newFunctionEnv scope env.globals cl [] env.qual none .none (some env)) (fun cenv s₄ =>
      codeAny (model prog w) A (.compStart (.ListComp (.Name x1 p2) [⟨.Name x1 p1, iter, [test], 0⟩] scope pos) 0 it acc { cenv with scope := relabel scope env }) (RR acc cenv.locals) s₄) E s₃) E s₂) E s := by
  refine wpAny_pyIter_range hr hsm ?_
  rw [hn]
  have up : ∀ b' o, s.heap.get? b' = some o → (s.heap.push { cls := .type "range_iterator", data := .fields #[rawInt 0, rawInt ((n : Nat) : Int), rawInt 1] }).get? b' = some o := fun b o e => Heap.get?_push_of_some _ e
  have W := LCg.range_walks (prog := prog) (w := w) (I := s.heap.objs.size) hh 0 n
  have hst0 : IsRangeIter (s.heap.push { cls := .type "range_iterator", data := .fields #[rawInt 0, rawInt ((n : Nat) : Int), rawInt 1] }) s.heap.objs.size (0 + ((0 : Nat) : Int) * 1) ((n : Int) - ((0 : Nat) : Int)) 1 := by
    simpa using Heap.get?_push_size _ rfl
  have hsz2 : (s.heap.push { cls := .type "range_iterator", data := .fields #[rawInt 0, rawInt ((n : Nat) : Int), rawInt 1] }).objs.size = s.heap.objs.size + 1 := Heap.size_push ..
  have CO := comp_open (nt := nt) (prog := prog) (w := w) (A := A) (E := E) (env := env) (elt := .Name x1 p2) (target := .Name x1 p1) (iter := iter) (ifs := [test]) (rest := []) (pos := pos) (I := s.heap.objs.size) (RR := RR) (cl := cl)
    (s := { s with heap := s.heap.push { cls := .type "range_iterator", data := .fields #[rawInt 0, rawInt ((n : Nat) : Int), rawInt 1] } }) hcell hkind (fun s' Q' E' k hQ => wpAny_pyIter_rangeiter (k _ _ hst0) hQ) hp
  dsimp only at CO
  rw [hsz2] at CO
  refine CO fun h₁ m0 tk hk hD hC hsz₁ htk => ?_
  refine codeAny_compLoop_tests
    (fun k s' => ∃ i ys, k = n + 1 - i ∧ i ≤ n ∧ ys.length ≤ i ∧ CInv nt IntO s ((List.range i).filter p) ys s' ∧ IsRangeIter s'.heap s.heap.objs.size (0 + ((i : Nat) : Int) * 1) ((n : Int) - ((i : Nat) : Int)) 1) ?_ (n + 1)
    ⟨0, [], rfl, Nat.zero_le _, Nat.le_refl _, ⟨⟨h₁, tk, _, rfl, fun b o e => hk b o (up b o e), htk, fun z => z⟩, hD, ⟨m0, hC⟩, .nil⟩, hk _ _ hst0⟩
  rintro k s' ⟨i, ys, rfl, hi, hyl, hinv, hit⟩
  have stepI : ∀ h' tk', (∀ b o, b ∉ [s.heap.objs.size] → s'.heap.get? b = some o → h'.get? b = some o) → nt ≤ tk' → CInv nt IntO s ((List.range i).filter p) ys { s' with heap := h', toks := tk' } := fun h' tk' k pp => by
    refine hinv.step IntO.tupK (fun b o hb z => k b o (by simpa using Nat.ne_of_lt hb) z) (k _ _ (by simp) hinv.lst) (let ⟨m, hn⟩ := hinv.ns; ⟨m, hn.at' fun o e => k _ o (by simp) e⟩) (TupK.but (fun b o hb z => k b o (by simpa using hb) z) hit (.inl (by simp))) pp
  by_cases hlt : i < n
  · refine wpAny_with_toks (n := nt) hinv.grow.pos (W.item i s' _ _ hlt hit fun v' h₂ tk₂ hPv hst₂ hk₂ p₂ => ?_)
    obtain ⟨ti, hv'⟩ := hPv
    rw [Int.zero_add] at hv'
    subst hv'
    have hinv₂ := stepI h₂ tk₂ hk₂ p₂
    dsimp only
    obtain ⟨m₅, hn₅⟩ := hinv₂.ns
    refine wpAny_assign_Name (wpAny_storeName_local (lookup_relabel_local hx1) hn₅ (fun h₆ hn₆ hs₆ => ?_) (by simp [compEnvC, relabel, hkind]))
    have hs₆' : Heap.SameBut (s.heap.objs.size + 2) h₂ h₆ := hs₆
    have hn₆' : h₆.Ns (s.heap.objs.size + 2) _ := hn₆
    have hinv₆ := fun tk' (p' : nt ≤ tk') => hinv₂.step (h := h₆) (tk := tk') IntO.tupK (fun b o hb z => hs₆'.extBut b o (Nat.ne_of_lt (Nat.lt_succ_of_lt (Nat.lt_succ_of_lt hb))) z) (hs₆'.extBut _ _ (show s.heap.objs.size + 1 ≠ s.heap.objs.size + 2 from by omega) hinv₂.lst) ⟨_, hn₆'⟩ (TupK.ns hn₅ hs₆') p'
    have hit₆ : IsRangeIter h₆ s.heap.objs.size (0 + ((i + 1 : Nat) : Int) * 1) ((n : Int) - ((i + 1 : Nat) : Int)) 1 := hs₆'.extBut _ _ (show s.heap.objs.size ≠ s.heap.objs.size + 2 from by omega) hst₂
    have inv6 := hinv₆ _ (Nat.le_add_right_of_le (k := 1) p₂)
    refine wpAny_tests_one (wpAny_mono (htest i hlt _ _ ti _ inv6.grow hn₆' (by rw [if_pos rfl])) (fun ok s₇ hok => ?_) fun _ _ z => z)
    obtain ⟨rfl, g₇⟩ := hok
    have inv7 := inv6.grows IntO.tupK g₇
    have hit₇ := g₇.keep _ _ hit₆
    have hn₇ := hn₆'.at' fun o e => g₇.keep _ o e
    have er : List.range (i + 1) = List.range i ++ [i] := List.range_succ
    cases hpi : p i with
    | true =>
      rw [if_pos rfl]
      refine ld_local (by exact hkind) (lookup_relabel_local hx1) hn₇ (by rw [if_pos rfl]) ?_ hdb
      refine inv7.emit (d := i) IntO.tupK ⟨_, rfl⟩ (by omega) fun h₉ tk₉ hinv₉ k₉ => ⟨n + 1 - (i + 1), by omega, i + 1, ys ++ [.int (i : Int) ti], rfl, hlt, by rw [List.length_append, List.length_singleton]; omega, ?_, k₉ _ _ (show s.heap.objs.size ≠ s.heap.objs.size + 1 from by omega) hit₇⟩
      rw [er, List.filter_append, List.filter_cons_of_pos hpi, List.filter_nil]; exact hinv₉
    | false =>
      rw [if_neg Bool.false_ne_true]
      refine ⟨n + 1 - (i + 1), by omega, i + 1, ys, rfl, hlt, by omega, ?_, hit₇⟩
      rw [er, List.filter_append, List.filter_cons_of_neg (by rw [hpi]; exact Bool.false_ne_true), List.filter_nil, List.append_nil]; exact inv7
  · have hi' : i = n := by omega
    subst hi'
    refine wpAny_with_toks (n := nt) hinv.grow.pos (W.done s' _ _ hit fun h₂ tk₂ hk₂ p₂ => ?_)
    have hinv₂ := stepI h₂ tk₂ hk₂ p₂
    obtain ⟨m₂, hn₂⟩ := hinv₂.ns
    exact hRR _ ys m₂ hinv₂ hn₂
end
end Mine
end
section
open PySem PySem.W PyProof.Rows PySem.Calls
set_option maxRecDepth 100000
set_option maxHeartbeats 1000000
namespace Mine
noncomputable def nameL (marks : Bool) (c : Nat) : Option (List Nat) :=
  if c = 38 then some [97, 109, 112, 59] else if c = 62 then some [103, 116, 59] else if marks = true then (if c = 34 then some [113, 117, 111, 116, 59] else none) else (if c = 60 then some [108, 116, 59] else none)
noncomputable def nlB (c : Nat) : Bool := c == 13 || c == 10
noncomputable def emit (marks : Bool) (a b w : Nat) (prev : Option Nat) (before c : Nat) : List Nat :=
  if c = 46 then [46] ++ (if (prev.all nlB) = true then List.replicate a 46 else []) ++ (if nlB before = true then List.replicate b 46 else [])
  else if nlB c = true ∧ 0 < a + b then
    (if c = 10 ∧ (if 0 < a then prev.getD before else before) = 13 then [] else [13, 10])
  else match nameL marks c with
    | some nm => if 0 < w then [38] ++ (List.replicate (w - 1) [97, 109, 112, 59]).flatten ++ nm else [c]
    | none => [c]
noncomputable def leftL (rr : Bool) (sg : List (Nat × Bool)) : List Nat := (List.range sg.length).filter fun i => !(rr && (sg.getD i (0, false)).2)
noncomputable def cAt (sg : List (Nat × Bool)) (i : Nat) : Nat := (sg.getD i (0, false)).1
noncomputable def toldE (marks : Bool) (a b w : Nat) (sg : List (Nat × Bool)) (l : List Nat) (k : Nat) : List Nat :=
  emit marks a b w (if l.getD k 0 = 0 then none else some (cAt sg (l.getD k 0 - 1))) (if k = 0 then 10 else cAt sg (l.getD (k - 1) 0)) (cAt sg (l.getD k 0))
noncomputable def toldX (rr marks : Bool) (a b w : Nat) (sg : List (Nat × Bool)) : List Nat := (List.range (leftL rr sg).length).flatMap (toldE marks a b w sg (leftL rr sg))
/-- the texts of the two dicts -/
noncomputable def NameTab (marks : Bool) (kvs : List (Str × Value)) : Prop := ∀ c, match nameL marks c with | some nm => ∃ t, valueAt kvs (S [c]) = some (.str (S nm) t) | none => valueAt kvs (S [c]) = none
theorem three_tab {x y z : Nat} {u v w : Value} (c : Nat) : valueAt [(S [x], u), (S [y], v), (S [z], w)] (S [c]) = if x = c then some u else if y = c then some v else if z = c then some w else none := by
  have e : ∀ a b : Nat, (S [a] = S [b]) = (a = b) := fun a b => propext ⟨fun h => by simpa using S_inj h, fun h => by rw [h]⟩
  unfold valueAt
  by_cases h1 : x = c
  · rw [if_pos h1]; simp [List.find?, h1]
  · rw [if_neg h1]
    by_cases h2 : y = c
    · rw [if_pos h2]; simp [List.find?, e, h1, h2]
    · rw [if_neg h2]
      by_cases h3 : z = c
      · rw [if_pos h3]; simp [List.find?, e, h1, h2, h3]
      · rw [if_neg h3]; simp [List.find?, e, h1, h2, h3]
theorem tab_marks {t1 t2 t3 u1 u2 u3 : Tok} : NameTab true (strPairs [(.str (Str.ofString "&") t1, .str (Str.ofString "amp;") u1), (.str (Str.ofString ">") t2, .str (Str.ofString "gt;") u2), (.str (Str.ofString "\"") t3, .str (Str.ofString "quot;") u3)]) := by
  have e1 : Str.ofString "&" = S [38] := by decide +kernel
  have e2 : Str.ofString ">" = S [62] := by decide +kernel
  have e3 : Str.ofString "\"" = S [34] := by decide +kernel
  have f1 : Str.ofString "amp;" = S [97, 109, 112, 59] := by decide +kernel
  have f2 : Str.ofString "gt;" = S [103, 116, 59] := by decide +kernel
  have f3 : Str.ofString "quot;" = S [113, 117, 111, 116, 59] := by decide +kernel
  rw [e1, e2, e3, f1, f2, f3]
  intro c
  show match nameL true c with | some nm => ∃ t, valueAt [(S [38], _), (S [62], _), (S [34], _)] (S [c]) = some (.str (S nm) t) | none => valueAt [(S [38], _), (S [62], _), (S [34], _)] (S [c]) = none
  rw [three_tab]
  unfold nameL
  by_cases h1 : c = 38
  · rw [if_pos h1, if_pos h1.symm]; exact ⟨_, rfl⟩
  · rw [if_neg h1, if_neg (Ne.symm h1)]
    by_cases h2 : c = 62
    · rw [if_pos h2, if_pos h2.symm]; exact ⟨_, rfl⟩
    · rw [if_neg h2, if_neg (Ne.symm h2), if_pos rfl]
      by_cases h3 : c = 34
      · rw [if_pos h3, if_pos h3.symm]; exact ⟨_, rfl⟩
      · rw [if_neg h3, if_neg (Ne.symm h3)]
theorem tab_plain {t1 t2 t3 u1 u2 u3 : Tok} : NameTab false (strPairs [(.str (Str.ofString "&") t1, .str (Str.ofString "amp;") u1), (.str (Str.ofString "<") t2, .str (Str.ofString "lt;") u2), (.str (Str.ofString ">") t3, .str (Str.ofString "gt;") u3)]) := by
  have e1 : Str.ofString "&" = S [38] := by decide +kernel
  have e2 : Str.ofString "<" = S [60] := by decide +kernel
  have e3 : Str.ofString ">" = S [62] := by decide +kernel
  have f1 : Str.ofString "amp;" = S [97, 109, 112, 59] := by decide +kernel
  have f2 : Str.ofString "lt;" = S [108, 116, 59] := by decide +kernel
  have f3 : Str.ofString "gt;" = S [103, 116, 59] := by decide +kernel
  rw [e1, e2, e3, f1, f2, f3]
  intro c
  show match nameL false c with | some nm => ∃ t, valueAt [(S [38], _), (S [60], _), (S [62], _)] (S [c]) = some (.str (S nm) t) | none => valueAt [(S [38], _), (S [60], _), (S [62], _)] (S [c]) = none
  rw [three_tab]
  unfold nameL
  by_cases h1 : c = 38
  · rw [if_pos h1, if_pos h1.symm]; exact ⟨_, rfl⟩
  · rw [if_neg h1, if_neg (Ne.symm h1)]
    by_cases h2 : c = 62
    · rw [if_pos h2, if_neg (by omega), if_pos h2.symm]; exact ⟨_, rfl⟩
    · rw [if_neg h2, if_neg Bool.false_ne_true]
      by_cases h3 : c = 60
      · rw [if_pos h3, if_pos h3.symm]; exact ⟨_, rfl⟩
      · rw [if_neg h3, if_neg (Ne.symm h3), if_neg (Ne.symm h2)]
end Mine
end
section
open PySem PySem.W PyProof.Rows PySem.Calls
set_option maxRecDepth 100000
set_option maxHeartbeats 1000000
namespace Mine
section
variable {prog : Program} {w : World} {A : Around} {E : Value → Shared → Prop} {Q : Value → Shared → Prop} {s : Shared} {t u : Tok}
theorem foldl_reps (p : Array Nat) : ∀ (k : Nat) (acc : Array Nat), ((List.replicate k p).foldl (· ++ ·) acc).toList = acc.toList ++ (List.replicate k p.toList).flatten
  | 0, acc => by simp
  | k + 1, acc => by
    rw [List.replicate_succ, List.foldl_cons, foldl_reps p k]
    simp [List.replicate_succ]
theorem mul_S (p : List Nat) (n : Int) : Txt.mul (S p) n = S (List.replicate n.toNat p).flatten := by
  unfold Txt.mul
  by_cases h1 : n < 1
  · rw [if_pos h1]
    have e : n.toNat = 0 := by omega
    rw [e]; rfl
  · rw [if_neg h1]
    by_cases h2 : n = 1
    · subst h2
      rw [if_pos (by simp)]
      show S p = S (List.replicate 1 p).flatten
      simp
    · by_cases h3 : p = []
      · subst h3
        rw [if_pos (by simp [S_len])]
        have : ∀ k : Nat, (List.replicate k ([] : List Nat)).flatten = [] := fun k => by simp
        rw [this]
      · have e : (n == 1 || (S p).length == 0) = false := by
          have a1 : (n == 1) = false := by simpa using h2
          have a2 : ((S p).length == 0) = false := by rw [S_len]; simpa using h3
          rw [a1, a2]; rfl
        rw [e, if_neg Bool.false_ne_true]
        have z := foldl_reps p.toArray n.toNat #[]
        show (⟨(List.replicate n.toNat p.toArray).foldl (· ++ ·) #[]⟩ : Str) = ⟨((List.replicate n.toNat p).flatten).toArray⟩
        congr 1
        rw [← Array.toList_inj, z]; simp
theorem reps_len (p : List Nat) (n : Nat) : (List.replicate n p).flatten.length = n * p.length := by
  simp
theorem add_r {x y : Str} {a b : List Nat} {na nb : Nat} (ex : x = S a) (ey : y = S b) (ha : a.length ≤ na) (hb : b.length ≤ nb) (hn : na + nb ≤ 10000000)
    (h : ∀ r t' k, r = a ++ b → r.length ≤ na + nb → Q (.str (S r) t') { s with toks := k }) : wpAny (model prog w) A (binaryOp .Add (.str x t) (.str y u)) Q E s := by
  subst ex ey
  refine add_S (by omega) fun t' k => h _ _ _ rfl (by rw [List.length_append]; omega)
theorem iadd_r {x y : Str} {a b : List Nat} (ex : x = S a) (ey : y = S b) (ha : a.length ≤ 300000) (hb : b.length ≤ 100)
    (h : ∀ r t' k, r = a ++ b → r.length ≤ a.length + 100 → Q (.str (S r) t') { s with toks := k }) : wpAny (model prog w) A (inplaceOp .Add (.str x t) (.str y u)) Q E s := by
  subst ex ey
  refine iadd_str (fun t' k => ?_) (by rw [S_len, S_len]; exact sizeLine_of (by omega))
  rw [S_append]; exact h _ _ _ rfl (by rw [List.length_append]; omega)
theorem mul_r {x : Str} {p : List Nat} {k : Int} (ex : x = S p) (hp : p.length ≤ 4) (hk : k ≤ 10) (hk0 : -10 ≤ k)
    (h : ∀ r t' j, r = (List.replicate k.toNat p).flatten → r.length ≤ 40 → Q (.str (S r) t') { s with toks := j }) : wpAny (model prog w) A (binaryOp .Mult (.str x t) (.int k u)) Q E s := by
  subst ex
  refine SB.mul (mulOk_of 4 10 (by rw [S_len]; exact hp) (by omega) (by omega) (by decide) (by decide)) fun t' j => ?_
  rw [mul_S]
  refine h _ _ _ rfl ?_
  rw [reps_len]
  have : k.toNat ≤ 10 := by omega
  calc k.toNat * p.length ≤ 10 * 4 := Nat.mul_le_mul this hp
    _ = 40 := rfl
theorem in_nl {c : Nat} {y : Str} (ey : y = S [13, 10]) (h : Q (.bool (nlB c)) s) : wpAny (model prog w) A (compareOp .In (.str (S [c]) t) (.str y u)) Q E s := by
  subst ey
  refine in_str ?_
  have e : (!(Builtin.Str.occurrences (S [13, 10]) (S [c]) 0 (S [13, 10]).length 1).isEmpty) = nlB c := by
    have z := PySem.StrLaws.found_one (S [13, 10]) c
    rw [S_cps] at z
    refine z.trans ?_
    unfold nlB
    simp [Bool.decide_or]
    by_cases h1 : c = 13 <;> by_cases h2 : c = 10 <;> simp [h1, h2]
  rw [e]; exact h
theorem eq_c {c d : Nat} {y : Str} (ey : y = S [d]) (h : Q (.bool (c == d)) s) : wpAny (model prog w) A (compareOp .Eq (.str (S [c]) t) (.str y u)) Q E s := by
  subst ey
  refine eq_S ?_
  have e : decide ([c] = [d]) = (c == d) := by
    by_cases h : c = d
    · subst h; simp
    · simp [h]
  rw [e]; exact h
theorem in_tab {h₀ : Heap} {L d : Addr} {news : List (Addr × Obj)} {o : Obj} {kvs : List (Str × Value)} {marks : Bool} {c : Nat} (N : News h₀ L s.heap news) (hp : (d, o) ∈ news) (hd : o.IsDictOf (PySem.strKind prog w) kvs) (lo : (d == sysModules) = false) (hT : NameTab marks kvs)
    (h : ∀ k, Q (.bool (nameL marks c).isSome) { s with toks := k }) : wpAny (model prog w) A (compareOp .In (.str (S [c]) t) (.ref d)) Q E s := by
  refine kda_in (knd := PySem.strKind _ _) N hp hd lo (strKind_is _ _ _ _) _ ?_ (h _)
  have z := hT c
  cases e : nameL marks c with
  | none => rw [e] at z; rw [z]; rfl
  | some nm => rw [e] at z; obtain ⟨t', z⟩ := z; rw [z]; rfl
theorem name_len {marks : Bool} {c : Nat} {nm : List Nat} (h : nameL marks c = some nm) : nm.length ≤ 5 := by
  unfold nameL at h
  repeat' split at h
  all_goals first | (cases h; done) | (cases h; exact Nat.le_of_ble_eq_true rfl)
theorem get_tab {h₀ : Heap} {L d : Addr} {news : List (Addr × Obj)} {o : Obj} {kvs : List (Str × Value)} {marks : Bool} {c : Nat} {value slice : Expr} (N : News h₀ L s.heap news) (hp : (d, o) ∈ news) (hd : o.IsDictOf (PySem.strKind prog w) kvs) (hT : NameTab marks kvs) (hs : (nameL marks c).isSome = true)
    (h : ∀ nm t' k, nameL marks c = some nm → nm.length ≤ 5 → Q (.str (S nm) t') { s with toks := k })
    (hs' : subscripted slice false (.ref d) (.str (S [c]) t) = operate [.ref d, .str (S [c]) t] (getItem (.ref d) (.str (S [c]) t)) := by with_unfolding_all rfl) (hg : ∀ r, letTemporaryGo value (.ref d) r = pure () := by intro _; with_unfolding_all rfl) :
    wpAny (model prog w) A (subscriptTail value slice (.ref d) (.str (S [c]) t)) Q E s := by
  obtain ⟨nm, e⟩ := Option.isSome_iff_exists.mp hs
  have z := hT c
  rw [e] at z
  obtain ⟨t', z⟩ := z
  exact kda_item (knd := PySem.strKind _ _) N hp hd (strKind_is _ _ _ _) z (h _ _ _ e (name_len e)) hs' hg
theorem flatMap_len {f : Nat → List Nat} {k : Nat} (hf : ∀ x, (f x).length ≤ k) : ∀ l : List Nat, (l.flatMap f).length ≤ l.length * k
  | [] => by simp
  | x :: l => by
    rw [List.flatMap_cons, List.length_append, List.length_cons, Nat.succ_mul]
    have := hf x
    have := flatMap_len hf l
    omega
theorem emit_len {marks : Bool} {a b wr : Nat} {pv : Option Nat} {bf c : Nat} (ha : a ≤ 10) (hb : b ≤ 10) (hw : wr ≤ 10) : (emit marks a b wr pv bf c).length ≤ 60 := by
  have e1 : ∀ (p : Prop) [Decidable p] (n : Nat), n ≤ 10 → (if p then List.replicate n 46 else []).length ≤ 10 := by
    intro p _ n hn
    split <;> simp [hn]
  have hr : (List.replicate (wr - 1) [97, 109, 112, 59]).flatten.length = (wr - 1) * 4 := reps_len _ _
  have e2 : ∀ (p : Prop) [Decidable p], (if p then ([] : List Nat) else [13, 10]).length ≤ 60 := by
    intro p _
    split
    · exact Nat.zero_le _
    · exact Nat.le_of_ble_eq_true rfl
  have e3 : ∀ nm : List Nat, nm.length ≤ 5 → (if 0 < wr then [38] ++ (List.replicate (wr - 1) [97, 109, 112, 59]).flatten ++ nm else [c]).length ≤ 60 := by
    intro nm hn
    split
    · rw [List.length_append, List.length_append, hr]
      have : ([38] : List Nat).length = 1 := rfl
      omega
    · exact Nat.le_of_ble_eq_true rfl
  unfold emit
  by_cases h1 : c = 46
  · rw [if_pos h1]
    simp only [List.length_append]
    have := e1 (pv.all nlB = true) a ha
    have := e1 (nlB bf = true) b hb
    have : [46].length = 1 := rfl
    omega
  · rw [if_neg h1]
    by_cases h2 : nlB c = true ∧ 0 < a + b
    · rw [if_pos h2]; exact e2 _
    · rw [if_neg h2]
      cases e : nameL marks c with
      | none => exact Nat.le_of_ble_eq_true rfl
      | some nm => exact e3 nm (name_len e)
/-- the leaves -/
theorem emit_dot {marks : Bool} {a b wr : Nat} {pv : Option Nat} {bf c : Nat} (hc : (c == 46) = true) : emit marks a b wr pv bf c = [46] ++ (if (pv.all nlB) = true then List.replicate a 46 else []) ++ (if nlB bf = true then List.replicate b 46 else []) := by
  unfold emit; rw [if_pos (by simpa using hc)]
theorem emit_nl {marks : Bool} {a b wr : Nat} {pv : Option Nat} {bf c : Nat} (hc : (c == 46) = false) (hn : nlB c = true) (hab : 0 < a + b) : emit marks a b wr pv bf c = (if c = 10 ∧ (if 0 < a then pv.getD bf else bf) = 13 then [] else [13, 10]) := by
  unfold emit; rw [if_neg (by simpa using hc), if_pos ⟨hn, hab⟩]
theorem emit_name {marks : Bool} {a b wr : Nat} {pv : Option Nat} {bf c : Nat} {nm : List Nat} (hc : (c == 46) = false) (hn : nlB c = false ∨ ¬ 0 < a + b) (hm : nameL marks c = some nm) (hw : 0 < wr) : emit marks a b wr pv bf c = [38] ++ (List.replicate (wr - 1) [97, 109, 112, 59]).flatten ++ nm := by
  unfold emit
  rw [if_neg (by simpa using hc), if_neg (fun ⟨h1, h2⟩ => by rcases hn with h | h; · { rw [h1] at h; cases h }; · { exact h h2 }), hm]
  dsimp only
  rw [if_pos hw]
theorem emit_else {marks : Bool} {a b wr : Nat} {pv : Option Nat} {bf c : Nat} (hc : (c == 46) = false) (hn : nlB c = false ∨ ¬ 0 < a + b) (hm : (nameL marks c).isSome = false ∨ ¬ 0 < wr) : emit marks a b wr pv bf c = [c] := by
  unfold emit
  rw [if_neg (by simpa using hc), if_neg (fun ⟨h1, h2⟩ => by rcases hn with h | h; · { rw [h1] at h; cases h }; · { exact h h2 })]
  cases e : nameL marks c with
  | none => rfl
  | some nm =>
    dsimp only
    rcases hm with h | h
    · rw [e] at h; cases h
    · rw [if_neg h]
noncomputable abbrev pvAt (sg : List (Nat × Bool)) (j : Nat) : Option Nat := if j = 0 then none else some (cAt sg (j - 1))
theorem pv_zero {sg : List (Nat × Bool)} {j : Nat} (h : (j : Int) = 0) : (pvAt sg j).all nlB = true := by
  unfold pvAt; rw [if_pos (by omega)]; rfl
theorem pv_some {sg : List (Nat × Bool)} {j : Nat} {q : Bool} (h : (j : Int) ≠ 0) (hq : nlB (cAt sg ((j : Int) - 1).toNat) = q) : (pvAt sg j).all nlB = q := by
  unfold pvAt; rw [if_neg (by omega)]
  have e : ((j : Int) - 1).toNat = j - 1 := by omega
  rw [e] at hq
  exact hq
theorem near_some {sg : List (Nat × Bool)} {j a bf : Nat} (h : 0 < (a : Int)) (hj : 0 < (j : Int)) : (if 0 < a then (pvAt sg j).getD bf else bf) = cAt sg ((j : Int) - 1).toNat := by
  have e : ((j : Int) - 1).toNat = j - 1 := by omega
  unfold pvAt; rw [if_pos (by omega), if_neg (by omega), e]; rfl
theorem near_zero {sg : List (Nat × Bool)} {j a bf : Nat} (hj : ¬ 0 < (j : Int)) : (if 0 < a then (pvAt sg j).getD bf else bf) = bf := by
  unfold pvAt; rw [if_pos (show j = 0 by omega)]
  split <;> rfl
theorem near_none {sg : List (Nat × Bool)} {j a bf : Nat} (h : ¬ 0 < (a : Int)) : (if 0 < a then (pvAt sg j).getD bf else bf) = bf := by
  rw [if_neg (by omega)]
theorem nl_a {marks : Bool} {a b wr : Nat} {pv : Option Nat} {bf c : Nat} (hc : (c == 46) = false) (hn : nlB c = true) (hab : 0 < (a : Int) + (b : Int)) (h : (c == 10) = false) : emit marks a b wr pv bf c = [13, 10] := by
  rw [emit_nl hc hn (by omega), if_neg (fun x => by rw [x.1] at h; cases h)]
theorem nl_b {marks : Bool} {a b wr : Nat} {pv : Option Nat} {bf c near : Nat} (hc : (c == 46) = false) (hn : nlB c = true) (hab : 0 < (a : Int) + (b : Int)) (hr : (if 0 < a then pv.getD bf else bf) = near) (h : (c == 10) = true) (h2 : (near == 13) = true) : emit marks a b wr pv bf c = [] := by
  rw [emit_nl hc hn (by omega), if_pos ⟨eq_of_beq h, by rw [hr]; exact eq_of_beq h2⟩]
theorem nl_c {marks : Bool} {a b wr : Nat} {pv : Option Nat} {bf c near : Nat} (hc : (c == 46) = false) (hn : nlB c = true) (hab : 0 < (a : Int) + (b : Int)) (hr : (if 0 < a then pv.getD bf else bf) = near) (h2 : (near == 13) = false) : emit marks a b wr pv bf c = [13, 10] := by
  rw [emit_nl hc hn (by omega), if_neg (fun x => by have z := x.2; rw [hr] at z; rw [z] at h2; cases h2)]
theorem s_crlf : (Str.ofString "\r\n").cps.toList = [13, 10] := by decide +kernel
theorem s_none : (Str.ofString "").cps.toList = [] := by decide +kernel
theorem s_amp : (Str.ofString "&").cps.toList = [38] := by decide +kernel
theorem s_ampn : (Str.ofString "amp;").cps.toList = [97, 109, 112, 59] := by decide +kernel
end
end Mine
end
theorem Mine.forgetTold : True := by
  w_top off
  have h : True ∧ True := by
    try walk1
    all_goals (first | trivial | exact ⟨trivial, trivial⟩)
  exact h.1
section
open PySem PySem.W PyProof.Rows PySem.Calls
set_option maxRecDepth 100000
set_option maxHeartbeats 8000000
namespace Mine
noncomputable def tR (x : Str) : Bool := !(Builtin.Str.occurrences x (Str.ofString "r") 0 x.length 1).isEmpty
noncomputable def tA (x : Str) : Int := if tR x = true then Txt.find x (Str.ofString "r") else Txt.count x (Str.ofString "s")
local macro_rules | `(tactic| walk_at "own lk") => `(tactic| ((try dsimp only); repeat (first | rfl | rw [if_pos rfl] | rw [if_neg (by decide)])))
section
variable {prog : Program} {w : World} {A : Around} {E : Value → Shared → Prop} {Q : Value → Shared → Prop} {s : Shared} {mean : ExcName → Option Value} {mg mb : Str → Option Value} {l : List Nat} {t u : Tok}
theorem base_len {Ds : Addr} {ys : List Value} {n : Nat} {h₀ : Heap} {L : Addr} {m : Str → Option Value} (F : Fr h₀ L s.heap m) (hD : h₀.get? Ds = some (LCg.lst ys)) (hn : ys.length = n) (hz : n ≤ 1000) (h : ∀ t k, Q (.int (n : Int) t) { s with toks := k }) : wpAny (model prog w) A (call (.builtin "len") [.ref Ds]) Q E s := by
  subst hn
  refine len_list ⟨_, F.keep _ _ hD, rfl, _, rfl⟩ (by rw [List.size_toArray]; omega) ?_
  rw [List.size_toArray]; exact h _ _
theorem own_len {D : Addr} {ys : List Value} {n : Nat} {h₀ : Heap} {L : Addr} {own : List (Addr × Obj)} (N : News h₀ L s.heap ((D, LCg.lst ys) :: own)) (hn : ys.length = n) (hz : n ≤ 1000) (h : ∀ t k, Q (.int (n : Int) t) { s with toks := k }) : wpAny (model prog w) A (call (.builtin "len") [.ref D]) Q E s := by
  subst hn
  refine len_list ⟨_, (N _ (.head _)).1, rfl, _, rfl⟩ (by rw [List.size_toArray]; omega) ?_
  rw [List.size_toArray]; exact h _ _
local macro_rules | `(tactic| walk_at "call builtin:len") => `(tactic| (k_here; (with_reducible show wpAny _ _ (call (Value.builtin "len") [Value.ref _]) _ _ _); (with_reducible rename Fr _ _ _ _ => F'); (with_reducible rename News _ _ _ _ => N'); (first | refine base_len F' (by assumption) (by assumption) (by assumption) ?_ | refine own_len N' (by assumption) (by assumption) ?_); intro _ _))
theorem fitsLong {i : Int} (h0 : 0 ≤ i) (h1 : i ≤ 1000) : Builtin.Range.rangeFitsLong i = true := by
  unfold Builtin.Range.rangeFitsLong
  rw [Bool.and_eq_true_iff, decide_eq_true_eq, decide_eq_true_eq]
  constructor <;> omega
theorem range_size (n : Nat) : Builtin.Range.rangeSize 0 (n : Int) 1 = ((n : Nat) : Int) := by
  unfold Builtin.Range.rangeSize
  simp
  omega
theorem range_small {n : Nat} (h : n ≤ 1000) : Builtin.Range.small 0 (n : Int) 1 = true := by
  unfold Builtin.Range.small
  rw [fitsLong (i := 0) (by omega) (by omega), fitsLong (i := (n : Int)) (by omega) (by omega), fitsLong (i := 1) (by omega) (by omega), range_size, fitsLong (i := (n : Int)) (by omega) (by omega)]
  simp [fitsLong (i := (n : Int)) (by omega) (by omega)]
theorem news_comp {h₀ h h7 : Heap} {L : Addr} {m : Str → Option Value} {k : Nat} {oC : Obj} {news : List (Addr × Obj)} (F : Fr h₀ L h m) (e : h7.get? (h.objs.size + k) = some oC) (N : News h₀ L h7 news) : News h₀ L h7 ((h.objs.size + k, oC) :: news) := fun p hp => by
  rcases List.mem_cons.mp hp with rfl | hp
  · exact ⟨e, Nat.ne_of_gt (Nat.lt_of_lt_of_le F.ns.lt (Nat.le_add_right _ k)), Heap.get?_none_of_le (Nat.le_trans (Nat.le_trans F.above (Nat.le_of_lt F.ns.lt)) (Nat.le_add_right _ k))⟩
  · exact N p hp
theorem postB {M : Model} {A : Around} {m : Sem Bool} {E : Value → Shared → Prop} {s : Shared} (b : Bool) (P : Shared → Prop) (h : ∀ Q : Bool → Shared → Prop, (∀ s, P s → Q b s) → wpAny M A m Q E s) : wpAny M A m (fun ok s => ok = b ∧ P s) E s := h _ fun s hs => ⟨rfl, hs⟩
noncomputable abbrev tupS (c : Nat) (q : Bool) (u : Tok) (n : Nat) : Obj := { cls := .type "tuple", data := .seq #[.str (S [c]) u, .bool q] n }
theorem sub_sign {h₀ : Heap} {L Ds : Addr} {m : Str → Option Value} {ys : List Value} {sg : List (Nat × Bool)} {k : Int} {i : Nat} {u : Tok} {value slice : Expr} (F : Fr h₀ L s.heap m) (hD : h₀.get? Ds = some (LCg.lst ys)) (hP : Paired (PairO h₀) (sg.map fun p => ([p.1], p.2)) ys) (hyl : ys.length = sg.length) (hsg : sg.length ≤ 1000)
    (hk : k = (i : Int)) (hi : i < sg.length) (h : ∀ p n u, h₀.get? p = some (tupS (cAt sg i) (sg.getD i (0, false)).2 u n) → Q (.ref p) s)
    (hs : subscripted slice false (.ref Ds) (.int k u) = operate [.ref Ds, .int k u] (getItem (.ref Ds) (.int k u)) := by with_unfolding_all rfl) (hg : ∀ r, letTemporaryGo value (.ref Ds) r = pure () := by intro _; with_unfolding_all rfl) :
    wpAny (model prog w) A (subscriptTail value slice (.ref Ds) (.int k u)) Q E s := by
  subst hk
  obtain ⟨y, hy⟩ := getElem?_lt (l := ys) (i := i) (by omega)
  have hd : (sg.map fun p => ([p.1], p.2))[i]? = some ([cAt sg i], (sg.getD i (0, false)).2) := by
    rw [List.getElem?_map]
    unfold cAt
    rw [List.getD_eq_getElem?_getD, List.getElem?_eq_getElem hi]; rfl
  obtain ⟨p, n, u', rfl, hp⟩ := Paired.get hP hd hy
  exact item_list (items := ys.toArray) ⟨_, F.keep _ _ hD, rfl, _, rfl⟩ (by omega) (by omega) (by simpa using hy) (h p n u' hp) hs hg
theorem sub_tup0 {h₀ : Heap} {L p : Addr} {m : Str → Option Value} {c : Nat} {q : Bool} {u u' : Tok} {n : Nat} {value slice : Expr} (F : Fr h₀ L s.heap m) (hp : h₀.get? p = some (tupS c q u n)) (h : Q (.str (S [c]) u) s)
    (hs : subscripted slice false (.ref p) (.int 0 u') = operate [.ref p, .int 0 u'] (getItem (.ref p) (.int 0 u')) := by with_unfolding_all rfl) (hg : ∀ r, letTemporaryGo value (.ref p) r = pure () := by intro _; with_unfolding_all rfl) :
    wpAny (model prog w) A (subscriptTail value slice (.ref p) (.int 0 u')) Q E s :=
  item_tuple (items := #[.str (S [c]) u, .bool q]) ⟨_, F.keep _ _ hp, rfl, n, rfl⟩ (by decide) (by decide) (j := 0) rfl rfl h hs hg
theorem sub_tup1 {h₀ : Heap} {L p : Addr} {m : Str → Option Value} {c : Nat} {q : Bool} {u u' : Tok} {n : Nat} {value slice : Expr} (F : Fr h₀ L s.heap m) (hp : h₀.get? p = some (tupS c q u n)) (h : Q (.bool q) s)
    (hs : subscripted slice false (.ref p) (.int 1 u') = operate [.ref p, .int 1 u'] (getItem (.ref p) (.int 1 u')) := by with_unfolding_all rfl) (hg : ∀ r, letTemporaryGo value (.ref p) r = pure () := by intro _; with_unfolding_all rfl) :
    wpAny (model prog w) A (subscriptTail value slice (.ref p) (.int 1 u')) Q E s :=
  item_tuple (items := #[.str (S [c]) u, .bool q]) ⟨_, F.keep _ _ hp, rfl, n, rfl⟩ (by decide) (by decide) (j := 1) rfl rfl h hs hg
theorem stAny {env : Env} {x : Str} {v : Value} {h₀ : Heap} {m : Str → Option Value} {news : List (Addr × Obj)} {Q : Unit → Shared → Prop} {L : Addr} (hL : env.locals = L) (hl : env.kindOf x = some .local) (hp : (env.scope.kind == .class || (env.scope.kind == .module && env.locals != env.globals)) = false) (F : Fr h₀ L s.heap m) (N : News h₀ L s.heap news)
    (h : ∀ h', Fr h₀ L h' (fun y => if y = x then some v else m y) → News h₀ L h' news → Q () { s with heap := h', toks := s.toks + 1 }) : wpAny (model prog w) A (storeName env x v) Q E s := by
  subst hL
  refine wpAny_storeName_local hl F.ns (fun h₂ hn₂ hs₂ => ?_) hp
  have hL₀ : h₀.get? env.locals = none := Heap.get?_none_of_le F.above
  refine h h₂ ⟨hn₂, fun b o e => hs₂.extBut b o (fun q => by rw [q, hL₀] at e; cases e) (F.keep b o e), F.above⟩ fun p hp => ⟨hs₂.extBut _ _ (N p hp).2.1 (N p hp).1, (N p hp).2⟩
theorem sub_signI {h₀ : Heap} {L Ds : Addr} {m : Str → Option Value} {ys : List Value} {sg : List (Nat × Bool)} {k : Int} {u : Tok} {value slice : Expr} (F : Fr h₀ L s.heap m) (hD : h₀.get? Ds = some (LCg.lst ys)) (hP : Paired (PairO h₀) (sg.map fun p => ([p.1], p.2)) ys) (hyl : ys.length = sg.length) (hsg : sg.length ≤ 1000)
    (h0 : 0 ≤ k) (h1 : k < sg.length) (h : ∀ p n u, h₀.get? p = some (tupS (cAt sg k.toNat) (sg.getD k.toNat (0, false)).2 u n) → Q (.ref p) s)
    (hs : subscripted slice false (.ref Ds) (.int k u) = operate [.ref Ds, .int k u] (getItem (.ref Ds) (.int k u)) := by with_unfolding_all rfl) (hg : ∀ r, letTemporaryGo value (.ref Ds) r = pure () := by intro _; with_unfolding_all rfl) :
    wpAny (model prog w) A (subscriptTail value slice (.ref Ds) (.int k u)) Q E s :=
  sub_sign F hD hP hyl hsg (i := k.toNat) (by omega) (by omega) h hs hg
theorem sub_leftI {h₀ h5 : Heap} {L Dl : Addr} {vl : List Value} {l : List Nat} {k : Int} {u : Tok} {news : List (Addr × Obj)} {value slice : Expr} (N : News h₀ L s.heap news) (hm : (Dl, LCg.lst vl) ∈ news) (hP : Paired (IntO h5) l vl)
    (h0 : 0 ≤ k) (h1 : k < l.length) (h2 : k < 100000) (h : ∀ t, Q (.int ((l.getD k.toNat 0 : Nat) : Int) t) s)
    (hs : subscripted slice false (.ref Dl) (.int k u) = operate [.ref Dl, .int k u] (getItem (.ref Dl) (.int k u)) := by with_unfolding_all rfl) (hg : ∀ r, letTemporaryGo value (.ref Dl) r = pure () := by intro _; with_unfolding_all rfl) :
    wpAny (model prog w) A (subscriptTail value slice (.ref Dl) (.int k u)) Q E s := by
  have hlen := hP.length
  obtain ⟨y, hy⟩ := getElem?_lt (l := vl) (i := k.toNat) (by omega)
  have hd : l[k.toNat]? = some (l.getD k.toNat 0) := by
    rw [List.getD_eq_getElem?_getD, List.getElem?_eq_getElem (by omega)]; rfl
  obtain ⟨t, rfl⟩ := Paired.get hP hd hy
  exact item_list (items := vl.toArray) ⟨_, (N _ hm).1, rfl, _, rfl⟩ h0 (by omega) (by simpa using hy) (h t) hs hg
noncomputable def ToldI (s : Shared) (L Dl Nd It Ds : Addr) (x : Str) (vl : List Value) (oN o1 o2 : Obj) (marks : Bool) (a b wr : Nat) (sg : List (Nat × Bool)) (l : List Nat) (k : Nat) (s' : Shared) : Prop :=
  ∃ i h tk gs m' t0 t1 t2 t3, s' = { s with heap := h, toks := tk, gens := gs } ∧ ((∀ x ∈ s.gens, GenState.bare x = true) → ∀ x ∈ gs, GenState.bare x = true) ∧ k = l.length + 1 - i ∧ i ≤ l.length ∧ Fr s.heap L h m' ∧
    News s.heap L h [(It, { cls := .type "range_iterator", data := .fields #[rawInt (0 + (i : Nat) * 1), rawInt ((l.length : Int) - (i : Nat)), rawInt 1] }), (Dl, LCg.lst vl), (Nd, oN), (L + 1 + 1, o1), (L + 1, o2)] ∧
    m' "told" = some (.str (S ((List.range i).flatMap (toldE marks a b wr sg l))) t0) ∧ m' "left" = some (.ref Dl) ∧ m' "written" = some (.int (wr : Int) t1) ∧ m' "behind" = some (.int (b : Int) t2) ∧ m' "ahead" = some (.int (a : Int) t3) ∧ m' "names" = some (.ref Nd)
theorem push_setup {h₀ h : Heap} {L : Addr} {m : Str → Option Value} {news : List (Addr × Obj)} {P : Addr → Heap → Prop} (o : Obj) (nf : o.isFreed = false) (F : Fr h₀ L h m) (N : News h₀ L h news)
    (go : ∀ (It : Addr) (h' : Heap), Fr h₀ L h' m → News h₀ L h' ((It, o) :: news) → L ≠ It → h₀.get? It = none → (∀ p ∈ news, p.1 ≠ It) → P It h') : P h.objs.size (h.push o) := by
  have up : ∀ b o', h.get? b = some o' → (h.push o).get? b = some o' := fun b o' e => Heap.get?_push_of_some _ e
  refine go _ _ (F.keeps up) (fun p hp => ?_) (Nat.ne_of_lt F.ns.lt) (next_is_new F) fun p hp => Nat.ne_of_lt (Heap.lt_size (N p hp).1)
  rcases List.mem_cons.mp hp with rfl | hp
  · exact ⟨Heap.get?_push_size _ nf, (Nat.ne_of_lt F.ns.lt).symm, next_is_new F⟩
  · exact ⟨up _ _ (N p hp).1, (N p hp).2⟩
local macro_rules | `(tactic| walk_at "subscriptTail Name Name ref int") => `(tactic| (k_here; (with_reducible rename Fr _ _ _ _ => F'); (first | (refine sub_sign F' (by assumption) (by assumption) (by assumption) (by assumption) rfl (by first | assumption | omega) ?_; intro _ _ _ _) | ((with_reducible rename News _ _ _ _ => N'); refine sub_leftI N' (.tail _ (.head _)) (by assumption) (by omega) (by omega) (by omega) ?_; intro _))))
local macro_rules | `(tactic| walk_at "subscriptTail Name BinOp ref int") => `(tactic| (k_here; (with_reducible rename Fr _ _ _ _ => F'); (first | (refine sub_signI F' (by assumption) (by assumption) (by assumption) (by assumption) (by omega) (by omega) ?_; intro _ _ _ _) | ((with_reducible rename News _ _ _ _ => N'); refine sub_leftI N' (.tail _ (.head _)) (by assumption) (by omega) (by omega) (by omega) ?_; intro _))))
local macro_rules | `(tactic| walk_at "subscriptTail Name Constant ref int") => `(tactic| (k_here; (with_reducible rename Fr _ _ _ _ => F'); (first | refine sub_tup0 F' (by assumption) ?_ | refine sub_tup1 F' (by assumption) ?_)))
local macro_rules | `(tactic| walk_at "subscriptTail Name Subscript ref int") => `(tactic| (k_here; (with_reducible rename Fr _ _ _ _ => F'); (refine sub_signI F' (by assumption) (by assumption) (by assumption) (by assumption) (by omega) (by omega) ?_; intro _ _ _ _)))
theorem stmt_mid {M : Model} {A : Around} {st : Stmt} {env : Env} {Q : Flow → Shared → Prop} {E : Value → Shared → Prop} {s : Shared} (mid : Shared → Prop) (h1 : wpAny M A (exec st env) (fun f s' => f = .next ∧ mid s') E s)
    (h2 : ∀ s', mid s' → Q .next s') : wpAny M A (exec st env) Q E s :=
  wpAny_mono h1 (fun f s' h => by obtain ⟨rfl, hm⟩ := h; exact h2 _ hm) fun _ _ e => e
local macro_rules | `(tactic| walk_at "own ex") => `(tactic| first | with_reducible rfl | exact (S_toList _).symm)
local macro_rules | `(tactic| walk_at "own ln") => `(tactic| first | omega | decide +kernel | (simp; done) | (simp; omega))
local macro_rules | `(tactic| walk_at "compareOp In str str") => `(tactic| (k_here; refine in_nl (by decide +kernel) ?_))
local macro_rules | `(tactic| walk_at "compareOp Eq str str") => `(tactic| (k_here; first | refine eq_c (d := 46) (by decide +kernel) ?_ | refine eq_c (d := 10) (by decide +kernel) ?_ | refine eq_c (d := 13) (by decide +kernel) ?_))
local macro_rules | `(tactic| walk_at "compareOp In str ref") => `(tactic| (k_here; (with_reducible rename News _ _ _ _ => N'); refine in_tab N' (.tail _ (.tail _ (.head _))) (by assumption) (by assumption) (by assumption) ?_; intro _))
local macro_rules | `(tactic| walk_at "subscriptTail Name Name ref str") => `(tactic| (k_here; (with_reducible rename News _ _ _ _ => N'); refine get_tab N' (.tail _ (.tail _ (.head _))) (by assumption) (by assumption) (by assumption) ?_; intro _ _ _ _ _))
local macro_rules | `(tactic| walk_at "inplaceOp Add str str") => `(tactic| (k_here; refine iadd_r (by walk_at "own ex") (by walk_at "own ex") (by walk_at "own ln") (by walk_at "own ln") ?_; intro _ _ _ _ _))
local macro_rules | `(tactic| walk_at "binaryOp Mult str int") => `(tactic| (k_here; refine mul_r (by walk_at "own ex") (by walk_at "own ln") (by omega) (by omega) ?_; intro _ _ _ _ _))
local macro_rules | `(tactic| walk_at "binaryOp Add str str") => `(tactic| (k_here; first | (refine add_r (na := 10) (nb := 50) (by walk_at "own ex") (by walk_at "own ex") (by walk_at "own ln") (by walk_at "own ln") (by decide) ?_; intro _ _ _ _ _) | (refine add_r (na := 60) (nb := 10) (by walk_at "own ex") (by walk_at "own ex") (by walk_at "own ln") (by walk_at "own ln") (by decide) ?_; intro _ _ _ _ _)))
local macro_rules | `(tactic| walk_at "own nl") => `(tactic| first | assumption | (left; assumption) | (right; omega))
local macro_rules | `(tactic| walk_at "own near") => `(tactic| first | exact near_some (by assumption) (by assumption) | exact near_zero (by assumption) | exact near_none (by assumption))
local macro_rules | `(tactic| walk_at "own leaf") => `(tactic| (first
  | ((with_reducible rename (_ == 46) = true => hc); subst_vars; rw [emit_dot hc, eq_of_beq hc]; (first | rw [pv_zero (by assumption)] | rw [pv_some (q := true) (by assumption) (by assumption)] | rw [pv_some (q := false) (by assumption) (by assumption)]); (first | rw [show nlB _ = true by assumption] | rw [show nlB _ = false by assumption]); simp)
  | ((with_reducible rename (_ == 46) = false => hc); first
    | (rw [nl_a hc (by assumption) (by assumption) (by assumption)]; subst_vars; rw [s_crlf])
    | (rw [nl_b hc (by assumption) (by assumption) (by walk_at "own near") (by assumption) (by assumption)]; subst_vars; rw [s_none])
    | (rw [nl_c hc (by assumption) (by assumption) (by walk_at "own near") (by assumption)]; subst_vars; rw [s_crlf])
    | (rw [emit_name hc (by walk_at "own nl") (by assumption) (by omega)]; subst_vars; rw [s_amp, s_ampn]; simp; done)
    | (rw [emit_name hc (by walk_at "own nl") (by assumption) (by omega)]; subst_vars; rw [s_amp, s_ampn]; simp; congr 2; omega)
    | (rw [emit_else hc (by walk_at "own nl") (by walk_at "own nl")]; subst_vars; rfl))))
theorem told_call {Ds : Addr} {ys : List Value} {sg : List (Nat × Bool)} {x : Str} {marks : Bool} {a b wr : Nat} (X : (hd.heap_39 w.params).In s.heap) (T : Top hd.view_39 VL mean mg mb s.heap)
   (hh : A.handled = none) (hroom : A.depth < recursionLimit) (ht : 0 < s.toks) (hx : x.length ≤ 10)
   (hD : s.heap.get? Ds = some (LCg.lst ys)) (hP : Paired (PairO s.heap) (sg.map fun p => ([p.1], p.2)) ys) (hsg : sg.length ≤ 1000)
   (ha : tA x = (a : Int)) (hb : Txt.count x (Str.ofString "s") - a = (b : Int)) (hw : Txt.count x (Str.ofString "w") = (wr : Int)) (ha10 : a ≤ 10) (hb10 : b ≤ 10) (hw10 : wr ≤ 10)
   (ret : RetG s Q (toldX (tR x) marks a b wr sg)) :
   wpAny (model prog w) A (call (.ref 107) [.ref Ds, .str x t, .bool marks]) Q E s := by
  have hyl : ys.length = sg.length := by rw [← hP.length, List.length_map]
  refine wpAny_with_toks (n := 1) ht ?_
  k_dflt (refine' enterC [(Str.ofString "signs", .ref Ds), (Str.ofString "normal", .str x t), (Str.ofString "marks", .bool marks)] X T.nolimit ?k3 ?k4 ?kr ?k6 ?k7 ?c5 ?_ ?c2 ?c3 ?c4; (case kr => omega); (case k3 => k_is); (case k4 => k_is); (case k6 => exact rfl); (case k7 => exact rfl); (case c5 => decide); (case c2 => exact rfl); (case c3 => exact rfl); (case c4 => exact rfl); k_whole)
  intro h₁ L tk cells F N Y
  have hY := CellsAre.two Y
  clear Y
  obtain ⟨o1, o2, hE, d1, d2⟩ := hY
  replace d1 : o1.data = .cell (some (.str x t)) := d1
  replace d2 : o2.data = .cell (some (.ref Ds)) := d2
  replace F : Fr s.heap L h₁ (fun y => if y = "marks" then some (.bool marks) else none) := F
  refine execs_mid (fun s' => ∃ h tk Nd oN kvN, s' = { s with heap := h, toks := tk } ∧ Fr s.heap L h (fun y => if y = "names" then some (.ref Nd) else if y = "marks" then some (.bool marks) else none) ∧ News s.heap L h ((Nd, oN) :: cells) ∧ (Nd == sysModules) = false ∧ oN.IsDictOf (PySem.strKind prog w) kvN ∧ NameTab marks kvN) ?_ ?_
  · subst hE
    refine post_gen _ (fun s h => ⟨rfl, h⟩) fun POST hPOST => ?_
    k_steps
    · rename marks = true => hm
      subst hm
      rename Fr _ _ _ _ => F2
      rename News _ _ _ _ => N2
      exact hPOST _ ⟨_, _, _, _, _, rfl, F2, N2, by assumption, by assumption, tab_marks⟩
    · rename marks = false => hm
      subst hm
      rename Fr _ _ _ _ => F2
      rename News _ _ _ _ => N2
      exact hPOST _ ⟨_, _, _, _, _, rfl, F2, N2, by assumption, by assumption, tab_plain⟩
  · rintro s' ⟨h2, tk2, Nd, oN, kvN, rfl, F2, N2, lo, hN, hT⟩
    refine execs_mid (fun s' => ∃ h tk t1, s' = { s with heap := h, toks := tk } ∧ Fr s.heap L h (fun y => if y = "ahead" then some (.int (a : Int) t1) else if y = "names" then some (.ref Nd) else if y = "marks" then some (.bool marks) else none) ∧ News s.heap L h ((Nd, oN) :: cells)) ?_ ?_
    · subst hE
      refine post_gen _ (fun s h => ⟨rfl, h⟩) fun POST hPOST => ?_
      k_steps
      · rename (Builtin.Str.occurrences _ _ _ _ _).isEmpty = _ => hc
        rename Fr _ _ _ _ => F3
        rename News _ _ _ _ => N3
        have e : Txt.count x (Str.ofString "s") = (a : Int) := by have z := ha; unfold tA tR at z; rw [hc] at z; exact z
        rw [e] at F3
        exact hPOST _ ⟨_, _, _, rfl, F3, N3⟩
      · rename (Builtin.Str.occurrences _ _ _ _ _).isEmpty = _ => hc
        rename Fr _ _ _ _ => F3
        rename News _ _ _ _ => N3
        have e : Txt.find x (Str.ofString "r") = (a : Int) := by have z := ha; unfold tA tR at z; rw [hc] at z; exact z
        rw [e] at F3
        exact hPOST _ ⟨_, _, _, rfl, F3, N3⟩
    · rintro s' ⟨h3, tk3, t1, rfl, F3, N3⟩
      subst hE
      try clear F2
      try clear N2
      k_steps
      rename Fr _ _ _ _ => F4
      rename News _ _ _ _ => N4
      rw [hb, hw] at F4
      refine stmt_mid (fun s' => ∃ h tk gs Dl vl, s' = { s with heap := h, toks := tk, gens := gs } ∧ ((∀ x ∈ s.gens, GenState.bare x = true) → ∀ x ∈ gs, GenState.bare x = true) ∧ (∃ t1 t2 t3, Fr s.heap L h (fun y => if y = "left" then some (.ref Dl) else if y = "written" then some (.int (wr : Int) t1) else if y = "behind" then some (.int (b : Int) t2) else if y = "ahead" then some (.int (a : Int) t3) else if y = "names" then some (.ref Nd) else if y = "marks" then some (.bool marks) else none)) ∧ News s.heap L h [(Dl, LCg.lst vl), (Nd, oN), (L + 1 + 1, o1), (L + 1, o2)] ∧ Paired (IntO h) (leftL (tR x) sg) vl) ?_ ?_
      · rw [exec_Assign_Name_used _ _ _ _ (by with_unfolding_all rfl)]
        refine wpAny_bind (wpAny_standAt (wpAny_bind ?_))
        show wpAny _ _ (do let _ ← comprehension _ _ _ _ (newList []) false _ (some _)) _ _ _
        refine wpAny_bind (wpAny_mono (wpAny_comprehension_free (use := some _) (cl := [(Str.ofString "signs", L + 1), (Str.ofString "normal", L + 1 + 1)]) (Q := fun _ s' => _) rfl (fun _ => rfl) (by with_unfolding_all rfl) rfl (by decide) ?_) (fun _ s' hq => wpAny_pure (wpAny_pure ⟨rfl, hq⟩)) fun _ _ e => e)
        show wpAny _ _ (eval (.Call _ _ _ _) _) _ _ _
        k_steps
        rename IsRange _ _ _ _ _ _ _ _ => hr
        rename News _ _ _ _ => N6
        rename Fr _ _ _ _ => F6
        have hLs := F6.ns.lt
        refine comp_filter (nt := 0) (p := fun i => !(tR x && (sg.getD i (0, false)).2)) (n := sg.length) hh hr (range_small hsg) (range_size _) (by omega) (Nat.zero_le _) (by decide) rfl (by rfl) (by decide) ?_ ?_
        · intro i hi s' m' t' E' g hn hm
          obtain ⟨h7, tk7, gs7, rfl, k7, _, _⟩ := g
          obtain ⟨oC, eC, hC⟩ := LCg.ns_obj hn
          have F7 := F6.keeps k7
          have N7 := N6.grown k7
          dsimp only at F7 N7 eC hn ⊢
          have N8 := news_comp F6 eC N7
          clear N7 N6 hn eC
          refine postB _ _ fun POST hPOST => ?_
          have leaf : ∀ tk, POST (!(tR x && (sg.getD i (0, false)).2)) { s with heap := h7, toks := tk, gens := gs7 } := fun tk => hPOST _ ⟨_, _, _, rfl, fun _ _ e => e, Nat.zero_le _, fun z => z⟩
          clear hPOST
          k_steps
          · rename (Builtin.Str.occurrences _ _ _ _ _).isEmpty = _ => hc
            have e : tR x = false := by unfold tR; rw [hc]; rfl
            rw [e] at leaf
            exact leaf _
          · rename (Builtin.Str.occurrences _ _ _ _ _).isEmpty = _ => hc
            rename (List.getD sg i (0, false)).2 = _ => hq
            have e : tR x = true := by unfold tR; rw [hc]; rfl
            rw [e, hq] at leaf
            exact leaf _
          · rename (Builtin.Str.occurrences _ _ _ _ _).isEmpty = _ => hc
            rename (List.getD sg i (0, false)).2 = _ => hq
            have e : tR x = true := by unfold tR; rw [hc]; rfl
            rw [e, hq] at leaf
            exact leaf _
        · intro s' vl m' hinv hn
          obtain ⟨hg, hl', _, hP'⟩ := hinv
          obtain ⟨h7, tk7, gs7, rfl, k7, _, hg7⟩ := hg
          have F7 := F6.keeps k7
          have N7 := N6.grown k7
          have N8 := news_comp (k := 1) F6 hl' N7
          obtain ⟨oC, eC, hC⟩ := LCg.ns_obj hn
          have N9 := news_comp (k := 2) F6 eC N8
          dsimp only at F7 N9 hn ⊢
          have lt6 := fun (p : Addr × Obj) hp => Heap.lt_size (N6 p hp).1
          show wpAny _ _ (assign _ _ _) _ _ _
          refine wpAny_assign_Name (stAny rfl rfl rfl F7 N9 fun h8 F8 N8' => ?_)
          refine ⟨m', hC.ns (N8' _ (.head _)).1, fun h9 hs9 => ?_⟩
          refine ⟨h9, _, gs7, _, vl, rfl, hg7, ⟨_, _, _, F8.change hs9 (N8' _ (.head _)).2.1 (N8' _ (.head _)).2.2⟩, fun p hp => ?_, hP'⟩
          have z := N8' p (.tail _ hp)
          refine ⟨hs9.extBut _ _ ?_ z.1, z.2⟩
          rcases List.mem_cons.mp hp with rfl | hp
          · exact Nat.ne_of_lt (Nat.lt_succ_self _)
          · exact Nat.ne_of_lt (Nat.lt_add_right 2 (lt6 p hp))
      · rintro s' ⟨h5, tk5, gs5, Dl, vl, rfl, hg5, ⟨t1, t2, t3, F5⟩, N5, hP5⟩
        try clear F4
        try clear N4
        try clear F3
        try clear N3
        refine execs_mid (fun s' => ∃ h tk t0, s' = { s with heap := h, toks := tk, gens := gs5 } ∧ Fr s.heap L h (fun y => if y = "told" then some (.str (S []) t0) else if y = "left" then some (.ref Dl) else if y = "written" then some (.int (wr : Int) t1) else if y = "behind" then some (.int (b : Int) t2) else if y = "ahead" then some (.int (a : Int) t3) else if y = "names" then some (.ref Nd) else if y = "marks" then some (.bool marks) else none) ∧ News s.heap L h [(Dl, LCg.lst vl), (Nd, oN), (L + 1 + 1, o1), (L + 1, o2)]) ?_ ?_
        · refine post_gen _ (fun s h => ⟨rfl, h⟩) fun POST hPOST => ?_
          k_steps
          rename Fr _ _ _ _ => F6
          rename News _ _ _ _ => N6
          rw [show Str.ofString "" = S [] from by decide +kernel] at F6
          exact hPOST _ ⟨_, _, _, rfl, F6, N6⟩
        · rintro s' ⟨h6, tk6, t0, rfl, F6, N6⟩
          try clear F5
          try clear N5
          have hll : (leftL (tR x) sg).length ≤ sg.length := by unfold leftL; exact Nat.le_trans (List.length_filter_le _ _) (by rw [List.length_range]; exact Nat.le_refl _)
          have hvl : vl.length = (leftL (tR x) sg).length := hP5.length.symm
          have hlm : ∀ i ∈ leftL (tR x) sg, i < sg.length := fun i hi => List.mem_range.mp (List.mem_filter.mp hi).1
          generalize hl : leftL (tR x) sg = l at hll hvl hP5 hlm
          have hl1000 : l.length ≤ 1000 := by omega
          refine wpAny_execs_cons ?_
          refine wpAny_For ?_
          show wpAny _ _ (eval (.Call _ _ _ _) _) _ _ _
          k_steps
          rename IsRange _ _ _ _ _ _ _ _ => hr
          rename News _ _ _ _ => N7
          rename Fr _ _ _ _ => F7
          refine wpAny_pyIter_range hr (range_small hl1000) ?_
          rw [range_size]
          refine push_setup (P := fun It h' => codeAny _ _ (.forLoop _ (.ref It) _ _ _) _ { s with heap := h', toks := _, gens := gs5 }) { cls := .type "range_iterator", data := .fields #[rawInt 0, rawInt ((l.length : Nat) : Int), rawInt 1] } rfl F7 N7 fun It h8 F8 N8 hLIt hIt0 hdI => ?_
          refine codeAny_forLoop_any (ToldI s L Dl Nd It Ds x vl oN o1 o2 marks a b wr sg l) ?_ (l.length + 1) ?_
          · rintro k s' ⟨i, h, tk, gs, m', t0', t1', t2', t3', rfl, hg, rfl, hi, F9, N9, q1, q2, q3, q4, q5, q6⟩
            have hit : IsRangeIter h It (0 + (i : Nat) * 1) ((l.length : Int) - (i : Nat)) 1 := (N9 _ (.head _)).1
            by_cases hlt : i < l.length
            · refine (LCg.range_walks (I := It) (by exact hh) 0 l.length).item i { s with heap := h, toks := tk, gens := gs } _ _ hlt hit fun v h10 tk10 hPv hst10 hk10 => ?_
              obtain ⟨tn, hv⟩ := hPv
              rw [Int.zero_add] at hv
              subst hv
              dsimp only
              refine wpAny_pure ?_
              have F10 := LCg.fr_but F9 hk10 hLIt hIt0
              have N10 : News s.heap L h10 [(It, { cls := .type "range_iterator", data := .fields #[rawInt (0 + ((i + 1 : Nat) : Int) * 1), rawInt ((l.length : Int) - ((i + 1 : Nat) : Int)), rawInt 1] }), (Dl, LCg.lst vl), (Nd, oN), (L + 1 + 1, o1), (L + 1, o2)] := by
                intro p hp
                rcases List.mem_cons.mp hp with rfl | hp
                · exact ⟨hst10, (N9 _ (.head _)).2⟩
                · have z := N9 p (.tail _ hp)
                  exact ⟨hk10 _ _ (by simpa using hdI p hp) z.1, z.2⟩
              refine wpAny_assign_Name (stAny rfl rfl rfl F10 N10 fun h11 F11 N11 => ?_)
              have F12 := expose (x := "names") (v := .ref Nd) (expose (x := "ahead") (v := .int (a : Int) t3') (expose (x := "behind") (v := .int (b : Int) t2') (expose (x := "written") (v := .int (wr : Int) t1') (expose (x := "left") (v := .ref Dl) (expose (x := "told") (v := .str (S ((List.range i).flatMap (toldE marks a b wr sg l))) t0') F11 (by (try dsimp only); rw [if_neg (by decide)]; exact q1)) (by (try dsimp only); rw [if_neg (by decide), if_neg (by decide)]; exact q2)) (by (try dsimp only); rw [if_neg (by decide), if_neg (by decide), if_neg (by decide)]; exact q3)) (by (try dsimp only); rw [if_neg (by decide), if_neg (by decide), if_neg (by decide), if_neg (by decide)]; exact q4)) (by (try dsimp only); rw [if_neg (by decide), if_neg (by decide), if_neg (by decide), if_neg (by decide), if_neg (by decide)]; exact q5)) (by (try dsimp only); rw [if_neg (by decide), if_neg (by decide), if_neg (by decide), if_neg (by decide), if_neg (by decide), if_neg (by decide)]; exact q6)
              generalize hacc : (List.range i).flatMap (toldE marks a b wr sg l) = acc at F12
              clear F11 N10 F10 F9 N9 hit q1 q2 q3 q4 q5 q6 F8 N8 F7 N7
              refine post_gen (fun s₃ => ∃ m, m < l.length + 1 - i ∧ ToldI s L Dl Nd It Ds x vl oN o1 o2 marks a b wr sg l m s₃) (fun _ z => z) fun POST hPOST => ?_
              have hA : l.getD ((i : Int)).toNat 0 < sg.length := by
                rw [Int.toNat_natCast]
                refine hlm _ ?_
                rw [List.getD_eq_getElem?_getD, List.getElem?_eq_getElem hlt]; exact List.getElem_mem hlt
              have hB : l.getD ((i : Int) - 1).toNat 0 < sg.length := by
                have e : ((i : Int) - 1).toNat = i - 1 := by omega
                have e2 : i - 1 < l.length := by omega
                rw [e]
                refine hlm _ ?_
                rw [List.getD_eq_getElem?_getD, List.getElem?_eq_getElem e2]; exact List.getElem_mem e2
              have ei : ((i : Int)).toNat = i := Int.toNat_natCast i
              have ei1 : ((i : Int) - 1).toNat = i - 1 := by omega
              refine execs_mid (fun s' => ∃ h tk ti, s' = { s with heap := h, toks := tk, gens := gs } ∧ Fr s.heap L h (fun y => if y = "i" then some (.int ((l.getD i 0 : Nat) : Int) ti) else if y = "names" then some (.ref Nd) else if y = "ahead" then some (.int (a : Int) t3') else if y = "behind" then some (.int (b : Int) t2') else if y = "written" then some (.int (wr : Int) t1') else if y = "left" then some (.ref Dl) else if y = "told" then some (.str (S acc) t0') else if y = "n" then some (.int (i : Int) tn) else m' y) ∧ News s.heap L h [(It, { cls := .type "range_iterator", data := .fields #[rawInt (0 + ((i + 1 : Nat) : Int) * 1), rawInt ((l.length : Int) - ((i + 1 : Nat) : Int)), rawInt 1] }), (Dl, LCg.lst vl), (Nd, oN), (L + 1 + 1, o1), (L + 1, o2)]) ?_ ?_
              · refine post_gen _ (fun s h => ⟨rfl, h⟩) fun POST1 hPOST1 => ?_
                clear hPOST
                k_steps
                rename Fr _ _ _ _ => F13
                rename News _ _ _ _ => N13
                rw [ei] at F13
                exact hPOST1 _ ⟨_, _, _, rfl, F13, N13⟩
              · rintro s' ⟨h13, tk13, ti, rfl, F13, N13⟩
                rw [ei] at hA
                rw [ei1] at hB
                clear F12 N11
                refine execs_mid (fun s' => ∃ h tk us, s' = { s with heap := h, toks := tk, gens := gs } ∧ Fr s.heap L h (fun y => if y = "sign" then some (.str (S [cAt sg (l.getD i 0)]) us) else if y = "i" then some (.int ((l.getD i 0 : Nat) : Int) ti) else if y = "names" then some (.ref Nd) else if y = "ahead" then some (.int (a : Int) t3') else if y = "behind" then some (.int (b : Int) t2') else if y = "written" then some (.int (wr : Int) t1') else if y = "left" then some (.ref Dl) else if y = "told" then some (.str (S acc) t0') else if y = "n" then some (.int (i : Int) tn) else m' y) ∧ News s.heap L h [(It, { cls := .type "range_iterator", data := .fields #[rawInt (0 + ((i + 1 : Nat) : Int) * 1), rawInt ((l.length : Int) - ((i + 1 : Nat) : Int)), rawInt 1] }), (Dl, LCg.lst vl), (Nd, oN), (L + 1 + 1, o1), (L + 1, o2)]) ?_ ?_
                · refine post_gen _ (fun s h => ⟨rfl, h⟩) fun POST1 hPOST1 => ?_
                  clear hPOST
                  k_steps
                  rename Fr _ _ _ _ => F14
                  rename News _ _ _ _ => N14
                  exact hPOST1 _ ⟨_, _, _, rfl, F14, N14⟩
                · rintro s' ⟨h14, tk14, us, rfl, F14, N14⟩
                  clear F13 N13
                  refine execs_mid (fun s' => ∃ h tk tb, s' = { s with heap := h, toks := tk, gens := gs } ∧ Fr s.heap L h (fun y => if y = "before" then some (.str (S [if i = 0 then 10 else cAt sg (l.getD (i - 1) 0)]) tb) else if y = "sign" then some (.str (S [cAt sg (l.getD i 0)]) us) else if y = "i" then some (.int ((l.getD i 0 : Nat) : Int) ti) else if y = "names" then some (.ref Nd) else if y = "ahead" then some (.int (a : Int) t3') else if y = "behind" then some (.int (b : Int) t2') else if y = "written" then some (.int (wr : Int) t1') else if y = "left" then some (.ref Dl) else if y = "told" then some (.str (S acc) t0') else if y = "n" then some (.int (i : Int) tn) else m' y) ∧ News s.heap L h [(It, { cls := .type "range_iterator", data := .fields #[rawInt (0 + ((i + 1 : Nat) : Int) * 1), rawInt ((l.length : Int) - ((i + 1 : Nat) : Int)), rawInt 1] }), (Dl, LCg.lst vl), (Nd, oN), (L + 1 + 1, o1), (L + 1, o2)]) ?_ ?_
                  · refine post_gen _ (fun s h => ⟨rfl, h⟩) fun POST1 hPOST1 => ?_
                    have hB0 : l.getD ((i : Int) - 1).toNat 0 < sg.length := by rw [ei1]; exact hB
                    clear hPOST
                    k_steps
                    · rename (i : Int) > 0 => hi0
                      rename Fr _ _ _ _ => F15
                      rename News _ _ _ _ => N15
                      rw [Int.toNat_natCast, ei1] at F15
                      rw [if_neg (by omega)] at hPOST1
                      exact hPOST1 _ ⟨_, _, _, rfl, F15, N15⟩
                    · rename ¬ (i : Int) > 0 => hi0
                      rename Fr _ _ _ _ => F15
                      rename News _ _ _ _ => N15
                      rw [show Str.ofString "\n" = S [10] from by decide +kernel] at F15
                      rw [if_pos (by omega)] at hPOST1
                      exact hPOST1 _ ⟨_, _, _, rfl, F15, N15⟩
                  · rintro s' ⟨h15, tk15, tb, rfl, F15, N15⟩
                    clear F14 N14
                    have hal : acc.length ≤ 100000 := by
                      rw [← hacc]
                      refine Nat.le_trans (flatMap_len (k := 60) (fun _ => emit_len ha10 hb10 hw10) _) ?_
                      rw [List.length_range]; omega
                    have eE : toldE marks a b wr sg l i = emit marks a b wr (if l.getD i 0 = 0 then none else some (cAt sg (l.getD i 0 - 1))) (if i = 0 then 10 else cAt sg (l.getD (i - 1) 0)) (cAt sg (l.getD i 0)) := rfl
                    have leaf : ∀ h tk m₂ r u, Fr s.heap L h m₂ → News s.heap L h [(It, { cls := .type "range_iterator", data := .fields #[rawInt (0 + ((i + 1 : Nat) : Int) * 1), rawInt ((l.length : Int) - ((i + 1 : Nat) : Int)), rawInt 1] }), (Dl, LCg.lst vl), (Nd, oN), (L + 1 + 1, o1), (L + 1, o2)] → m₂ "told" = some (.str (S r) u) → r = acc ++ toldE marks a b wr sg l i → m₂ "left" = some (.ref Dl) → m₂ "written" = some (.int (wr : Int) t1') → m₂ "behind" = some (.int (b : Int) t2') → m₂ "ahead" = some (.int (a : Int) t3') → m₂ "names" = some (.ref Nd) → POST .next { s with heap := h, toks := tk, gens := gs } := by
                      intro h tk m₂ r u F N q0 er q1 q2 q3 q4 q5
                      refine hPOST _ ⟨_, ?_, i + 1, h, tk, gs, m₂, u, t1', t2', t3', rfl, hg, rfl, hlt, F, N, ?_, q1, q2, q3, q4, q5⟩
                      · omega
                      · rw [q0, er, ← hacc, List.range_succ, List.flatMap_append, List.flatMap_singleton]
                    clear hPOST hacc
                    rw [eE] at leaf
                    clear eE
                    generalize l.getD i 0 = j at *
                    generalize (if i = 0 then 10 else cAt sg (l.getD (i - 1) 0)) = bf at *
                    have ej1 : ((j : Int) - 1).toNat = j - 1 := by omega
                    generalize hcc : cAt sg j = c at *
                    clear hcc
                    k_steps
                    all_goals (rename Fr _ _ _ _ => F'; rename News _ _ _ _ => N'; refine leaf _ _ _ _ _ F' N' (by walk_at "own lk") ?_ (by walk_at "own lk") (by walk_at "own lk") (by walk_at "own lk") (by walk_at "own lk") (by walk_at "own lk"); clear leaf F' N'; walk_at "own leaf")
            · obtain rfl : i = l.length := by omega
              refine (LCg.range_walks (I := It) (by exact hh) 0 l.length).done { s with heap := h, toks := tk, gens := gs } _ _ hit fun h₂ tk₂ hk₂ => ?_
              have F10 := expose (x := "told") (v := .str (S ((List.range l.length).flatMap (toldE marks a b wr sg l))) t0') (LCg.fr_but F9 hk₂ hLIt hIt0) q1
              have eX : (List.range l.length).flatMap (toldE marks a b wr sg l) = toldX (tR x) marks a b wr sg := by unfold toldX; rw [hl]
              rw [eX] at F10
              clear F9 N9 hit q1 q2 q3 q4 q5 q6 F8 N8 F7 N7 eX
              k_steps
              rename Fr _ _ _ _ => F11
              refine ret _ _ _ _ F11.keep ?_ hg
              assumption
          · refine ⟨0, h8, _, gs5, _, t0, t1, t2, t3, rfl, hg5, rfl, Nat.zero_le _, F8, ?_, by walk_at "own lk", by walk_at "own lk", by walk_at "own lk", by walk_at "own lk", by walk_at "own lk", by walk_at "own lk"⟩
            have e0 : (l.length : Int) - ((0 : Nat) : Int) = (l.length : Int) := by omega
            rw [e0]
            exact N8
end
end Mine
end
section
open PySem PySem.W PyProof.Rows PySem.Calls
set_option maxRecDepth 100000
set_option maxHeartbeats 800000
namespace Mine
noncomputable def toldR (rr marks : Bool) (a b w : Nat) (prev : Option Nat) (before : Nat) : List (Nat × Bool) → List Nat
  | [] => []
  | p :: r => if (rr && p.2) = true then toldR rr marks a b w (some p.1) before r else emit marks a b w prev before p.1 ++ toldR rr marks a b w (some p.1) p.1 r
noncomputable def goL (f : Nat → Nat → List Nat) (g : Nat → Nat) (b0 : Nat) : List Nat → List Nat
  | [] => []
  | i :: r => f b0 i ++ goL f g (g i) r
theorem fm_congr {α β : Type} {f g : α → List β} : ∀ (l : List α), (∀ x ∈ l, f x = g x) → l.flatMap f = l.flatMap g
  | [], _ => rfl
  | x :: r, h => by rw [List.flatMap_cons, List.flatMap_cons, h x (.head _), fm_congr r fun y hy => h y (.tail _ hy)]
theorem goL_eq (f : Nat → Nat → List Nat) (g : Nat → Nat) : ∀ (l : List Nat) (b0 : Nat), (List.range l.length).flatMap (fun k => f (if k = 0 then b0 else g (l.getD (k - 1) 0)) (l.getD k 0)) = goL f g b0 l
  | [], _ => rfl
  | i :: r, b0 => by
    rw [List.length_cons, List.range_succ_eq_map, List.flatMap_cons, List.flatMap_map, goL, ← goL_eq f g r (g i)]
    congr 1
    refine fm_congr _ fun k _ => ?_
    rw [if_neg (Nat.succ_ne_zero k), List.getD_cons_succ]
    congr 1
    cases k with
    | zero => rfl
    | succ k => rw [if_neg (Nat.succ_ne_zero k)]; rfl
theorem goL_run (rr marks : Bool) (a b w : Nat) (sg : List (Nat × Bool)) : ∀ (suf : List (Nat × Bool)) (i before : Nat), sg.drop i = suf →
    goL (fun bf j => emit marks a b w (if j = 0 then none else some (cAt sg (j - 1))) bf (cAt sg j)) (cAt sg) before ((List.range' i suf.length).filter fun j => !(rr && (sg.getD j (0, false)).2)) =
      toldR rr marks a b w (if i = 0 then none else some (cAt sg (i - 1))) before suf
  | [], _, _, _ => rfl
  | p :: r, i, before, h => by
    have hi : i < sg.length := by
      have := congrArg List.length h
      rw [List.length_drop, List.length_cons] at this; omega
    have hp : sg.getD i (0, false) = p := by
      rw [List.getD_eq_getElem?_getD]
      have h0 : (sg.drop i)[0]? = some p := by rw [h]; rfl
      rw [List.getElem?_drop] at h0
      rw [show i + 0 = i from rfl] at h0
      rw [h0]; rfl
    have hr : sg.drop (i + 1) = r := by rw [← List.drop_drop, h]; rfl
    have hc : cAt sg i = p.1 := by unfold cAt; rw [hp]
    have ih := fun bf => goL_run rr marks a b w sg r (i + 1) bf hr
    rw [if_neg (Nat.succ_ne_zero i), Nat.add_sub_cancel, hc] at ih
    rw [List.length_cons, List.range'_succ, toldR]
    cases hq : (rr && p.2) with
    | true =>
      rw [List.filter_cons_of_neg (by rw [hp, hq]; decide), if_pos rfl]
      exact ih before
    | false =>
      rw [List.filter_cons_of_pos (by rw [hp, hq]; rfl), if_neg Bool.false_ne_true, goL, hc, ih]
theorem toldX_eq (rr marks : Bool) (a b w : Nat) (sg : List (Nat × Bool)) : toldX rr marks a b w sg = toldR rr marks a b w none 10 sg := by
  have h1 := goL_eq (fun bf j => emit marks a b w (if j = 0 then none else some (cAt sg (j - 1))) bf (cAt sg j)) (cAt sg) (leftL rr sg) 10
  have h2 := goL_run rr marks a b w sg sg 0 10 rfl
  have e : (List.range' 0 sg.length).filter (fun j => !(rr && (sg.getD j (0, false)).2)) = leftL rr sg := by unfold leftL; rw [List.range_eq_range']
  rw [e] at h2
  exact h1.trans h2
end Mine
end
section
open PySem PySem.W PyProof.Rows PySem.Calls
set_option maxRecDepth 100000
set_option maxHeartbeats 800000
namespace Mine
noncomputable def escM (marks : Bool) (l : List Nat) : List Nat := if marks = true then escA l else escC l
theorem escM_append (marks : Bool) (x y : List Nat) : escM marks (x ++ y) = escM marks x ++ escM marks y := by
  unfold escM escA escC
  cases marks
  · rw [if_neg Bool.false_ne_true, if_neg Bool.false_ne_true, if_neg Bool.false_ne_true, sub1_append, sub1_append, sub1_append]
  · rw [if_pos rfl, if_pos rfl, if_pos rfl, sub1_append, sub1_append, sub1_append]
/-- the signs that writing leaves -/
noncomputable def calm (marks : Bool) (c : Nat) : Bool := c != 38 && c != 62 && (if marks then c != 34 else c != 60)
theorem escM_calm {marks : Bool} {l : List Nat} (h : ∀ c ∈ l, calm marks c = true) : escM marks l = l := by
  have h1 : 38 ∉ l := fun m => absurd (h 38 m) (by cases marks <;> decide)
  have h2 : 62 ∉ l := fun m => absurd (h 62 m) (by cases marks <;> decide)
  unfold escM
  cases marks
  · have h3 : 60 ∉ l := fun m => absurd (h 60 m) (by decide)
    rw [if_neg Bool.false_ne_true]
    unfold escC
    rw [sub1_free h1, sub1_free h3, sub1_free h2]
  · have h3 : 34 ∉ l := fun m => absurd (h 34 m) (by decide)
    rw [if_pos rfl]
    unfold escA
    rw [sub1_free h1, sub1_free h2, sub1_free h3]
theorem calm_46 (marks : Bool) : calm marks 46 = true := by cases marks <;> decide
theorem calm_dots (marks : Bool) (n : Nat) : ∀ c ∈ List.replicate n 46, calm marks c = true := fun c hc => by rw [List.eq_of_mem_replicate hc]; exact calm_46 marks
theorem calm_app {marks : Bool} {x y : List Nat} (h : ∀ c ∈ x, calm marks c = true) (k : ∀ c ∈ y, calm marks c = true) : ∀ c ∈ x ++ y, calm marks c = true := fun c hc => (List.mem_append.mp hc).elim (h c) (k c)
theorem name_calm {marks : Bool} {c : Nat} {nm : List Nat} (h : nameL marks c = some nm) : (∀ d ∈ nm, calm marks d = true) ∧ escM marks [c] = [38] ++ nm := by
  unfold nameL at h
  by_cases h1 : c = 38
  · rw [if_pos h1] at h; cases h; subst h1; cases marks <;> decide
  · rw [if_neg h1] at h
    by_cases h2 : c = 62
    · rw [if_pos h2] at h; cases h; subst h2; cases marks <;> decide
    · rw [if_neg h2] at h
      cases marks
      · rw [if_neg Bool.false_ne_true] at h
        by_cases h3 : c = 60
        · rw [if_pos h3] at h; cases h; subst h3; decide
        · rw [if_neg h3] at h; cases h
      · rw [if_pos rfl] at h
        by_cases h3 : c = 34
        · rw [if_pos h3] at h; cases h; subst h3; decide
        · rw [if_neg h3] at h; cases h
theorem noname_calm {marks : Bool} {c : Nat} (h : nameL marks c = none) : calm marks c = true := by
  unfold nameL at h
  unfold calm
  by_cases h1 : c = 38
  · rw [if_pos h1] at h; cases h
  · rw [if_neg h1] at h
    by_cases h2 : c = 62
    · rw [if_pos h2] at h; cases h
    · rw [if_neg h2] at h
      cases marks
      · rw [if_neg Bool.false_ne_true] at h
        by_cases h3 : c = 60
        · rw [if_pos h3] at h; cases h
        · simp [h1, h2, h3]
      · rw [if_pos rfl] at h
        by_cases h3 : c = 34
        · rw [if_pos h3] at h; cases h
        · simp [h1, h2, h3]
theorem calm_amps (marks : Bool) : ∀ n : Nat, ∀ c ∈ (List.replicate n [97, 109, 112, 59]).flatten, calm marks c = true := fun n c hc => by
  obtain ⟨x, hx, hc⟩ := List.mem_flatten.mp hc
  rw [List.eq_of_mem_replicate hx] at hc
  have : ∀ c ∈ [97, 109, 112, 59], calm marks c = true := by cases marks <;> decide
  exact this c hc
theorem escM_amp (marks : Bool) : escM marks [38] = [38, 97, 109, 112, 59] := by cases marks <;> decide
theorem calm_nl (marks : Bool) (q : Prop) [Decidable q] : ∀ d ∈ (if q then [] else [13, 10]), calm marks d = true := by
  have h : ∀ d ∈ [13, 10], calm marks d = true := by cases marks <;> decide
  split
  · intro d hd; cases hd
  · exact h
theorem escM_emit (marks : Bool) (a b w : Nat) (prev : Option Nat) (before c : Nat) : escM marks (emit marks a b w prev before c) = emit marks a b (w + 1) prev before c := by
  unfold emit
  by_cases h1 : c = 46
  · rw [if_pos h1, if_pos h1]
    refine escM_calm (calm_app (calm_app ?_ ?_) ?_)
    · intro d hd; rw [List.mem_singleton.mp hd]; exact calm_46 marks
    · split
      · exact calm_dots marks a
      · intro d hd; cases hd
    · split
      · exact calm_dots marks b
      · intro d hd; cases hd
  · rw [if_neg h1, if_neg h1]
    by_cases h2 : nlB c = true ∧ 0 < a + b
    · rw [if_pos h2, if_pos h2]
      exact escM_calm (calm_nl marks _)
    · rw [if_neg h2, if_neg h2]
      cases hn : nameL marks c with
      | none => exact escM_calm fun d hd => by rw [List.mem_singleton.mp hd]; exact noname_calm hn
      | some nm =>
        obtain ⟨hc, he⟩ := name_calm hn
        dsimp only
        rw [if_pos (Nat.succ_pos w), Nat.add_sub_cancel]
        cases w with
        | zero => rw [if_neg (Nat.lt_irrefl 0), he]; rfl
        | succ w =>
          rw [if_pos (Nat.succ_pos w), Nat.add_sub_cancel, escM_append, escM_append, escM_amp, escM_calm (calm_amps marks w), escM_calm hc, List.replicate_succ, List.flatten_cons]
          rfl
theorem escM_told (rr marks : Bool) (a b w : Nat) : ∀ (sg : List (Nat × Bool)) (prev : Option Nat) (before : Nat), escM marks (toldR rr marks a b w prev before sg) = toldR rr marks a b (w + 1) prev before sg
  | [], _, _ => by cases marks <;> rfl
  | p :: r, prev, before => by
    rw [toldR, toldR]
    split
    · exact escM_told rr marks a b w r _ _
    · rw [escM_append, escM_emit, escM_told rr marks a b w r]
end Mine
end
section
open PySem PySem.W PyProof.Rows PySem.Calls
set_option maxRecDepth 100000
set_option maxHeartbeats 800000
namespace Mine
/-- quoting from a state on: the last sign was CR; a line begins -/
noncomputable def Qt (cr ls : Bool) (l : List Nat) : List Nat := dots ls (crlfB cr l)
theorem Qt_nil (cr ls : Bool) : Qt cr ls [] = [] := by unfold Qt; rw [crlfB, dots]
theorem Qt_one {cr ls : Bool} {c : Nat} {y : List Nat} (h1 : c ≠ 13) (h2 : c ≠ 10) (h3 : c ≠ 46) : Qt cr ls (c :: y) = c :: Qt false false y := by
  unfold Qt
  rw [crlfB, if_neg h1, if_neg h2, dots, if_neg (fun h => h3 h.2), show (c == 10) = false from by simpa using h2]
theorem Qt_plain {x y : List Nat} : ∀ {cr ls : Bool}, (∀ c ∈ x, c ≠ 13 ∧ c ≠ 10 ∧ c ≠ 46) → x ≠ [] → Qt cr ls (x ++ y) = x ++ Qt false false y := by
  induction x with
  | nil => intro cr ls h hn; exact absurd rfl hn
  | cons c r ih =>
    intro cr ls h hn
    obtain ⟨h1, h2, h3⟩ := h c (.head _)
    rw [List.cons_append, Qt_one h1 h2 h3]
    cases r with
    | nil => rfl
    | cons d r' => rw [ih (fun e he => h e (.tail _ he)) (by simp)]; rfl
theorem Qt_dot (cr ls : Bool) (y : List Nat) : Qt cr ls (46 :: y) = (if ls = true then [46, 46] else [46]) ++ Qt false false y := by
  unfold Qt
  rw [crlfB, if_neg (by decide), if_neg (by decide), dots]
  cases ls
  · rw [if_neg (fun h => Bool.false_ne_true h.1), if_neg Bool.false_ne_true]; rfl
  · rw [if_pos ⟨rfl, rfl⟩, if_pos rfl]; rfl
theorem Qt_dots (y : List Nat) : ∀ (n : Nat) (cr : Bool), Qt cr false (List.replicate n 46 ++ y) = if n = 0 then Qt cr false y else List.replicate n 46 ++ Qt false false y
  | 0, _ => rfl
  | n + 1, cr => by
    rw [List.replicate_succ, List.cons_append, Qt_dot, if_neg Bool.false_ne_true, Qt_dots y n false, if_neg (Nat.succ_ne_zero n)]
    split
    · rename_i h; subst h; rfl
    · rfl
theorem Qt_run (cr ls : Bool) (n : Nat) (y : List Nat) : Qt cr ls (46 :: (List.replicate n 46 ++ y)) = [46] ++ List.replicate n 46 ++ (if ls = true then [46] else []) ++ Qt false false y := by
  rw [Qt_dot, Qt_dots]
  have e : (if n = 0 then Qt false false y else List.replicate n 46 ++ Qt false false y) = List.replicate n 46 ++ Qt false false y := by
    split
    · rename_i h; subst h; rfl
    · rfl
  rw [e]
  cases ls
  · simp
  · rw [if_pos rfl, if_pos rfl]
    have c : ∀ n : Nat, [46] ++ List.replicate n 46 = List.replicate n 46 ++ [46] := fun n => by
      rw [← List.replicate_succ', List.replicate_succ]; rfl
    show [46] ++ ([46] ++ (List.replicate n 46 ++ Qt false false y)) = [46] ++ List.replicate n 46 ++ [46] ++ Qt false false y
    rw [List.append_assoc, List.append_assoc, ← List.append_assoc [46] (List.replicate n 46), c n]; simp
theorem Qt_crlf (cr ls : Bool) (y : List Nat) : Qt cr ls (13 :: 10 :: y) = [13, 10] ++ Qt false true y := by
  unfold Qt
  rw [crlfB, if_pos rfl, crlfB, if_neg (by decide), if_pos rfl, if_pos rfl, dots, if_neg (fun h => absurd h.2 (by decide)), dots, if_neg (fun h => absurd h.2 (by decide))]; rfl
theorem Qt_cr (cr ls : Bool) (y : List Nat) : Qt cr ls (13 :: y) = [13, 10] ++ Qt true true y := by
  unfold Qt
  rw [crlfB, if_pos rfl, dots, if_neg (fun h => absurd h.2 (by decide)), dots, if_neg (fun h => absurd h.2 (by decide))]; rfl
theorem Qt_lf (cr ls : Bool) (y : List Nat) : Qt cr ls (10 :: y) = if cr = true then Qt false ls y else [13, 10] ++ Qt false true y := by
  unfold Qt
  rw [crlfB, if_neg (by decide), if_pos rfl]
  cases cr
  · rw [if_neg Bool.false_ne_true, if_neg Bool.false_ne_true, dots, if_neg (fun h => absurd h.2 (by decide)), dots, if_neg (fun h => absurd h.2 (by decide))]; rfl
  · rw [if_pos rfl, if_pos rfl]
end Mine
end
section
open PySem PySem.W PyProof.Rows PySem.Calls
set_option maxRecDepth 100000
set_option maxHeartbeats 800000
namespace Mine
theorem name_plain {marks : Bool} {c : Nat} {nm : List Nat} (h : nameL marks c = some nm) : (∀ d ∈ nm, d ≠ 13 ∧ d ≠ 10 ∧ d ≠ 46) := by
  unfold nameL at h
  by_cases h1 : c = 38
  · rw [if_pos h1] at h; cases h; decide
  · rw [if_neg h1] at h
    by_cases h2 : c = 62
    · rw [if_pos h2] at h; cases h; decide
    · rw [if_neg h2] at h
      cases marks
      · rw [if_neg Bool.false_ne_true] at h
        by_cases h3 : c = 60
        · rw [if_pos h3] at h; cases h; decide
        · rw [if_neg h3] at h; cases h
      · rw [if_pos rfl] at h
        by_cases h3 : c = 34
        · rw [if_pos h3] at h; cases h; decide
        · rw [if_neg h3] at h; cases h
theorem name_nl (marks : Bool) {c : Nat} (h : nlB c = true) : nameL marks c = none := by
  have : c = 13 ∨ c = 10 := by unfold nlB at h; simpa using h
  rcases this with rfl | rfl <;> cases marks <;> rfl
/-- a sign that is neither dot nor line end -/
noncomputable def lit (marks : Bool) (w c : Nat) : List Nat := match nameL marks c with
    | some nm => if 0 < w then [38] ++ (List.replicate (w - 1) [97, 109, 112, 59]).flatten ++ nm else [c]
    | none => [c]
theorem lit_plain {marks : Bool} {w c : Nat} (h1 : c ≠ 46) (h2 : nlB c = false) : (∀ d ∈ lit marks w c, d ≠ 13 ∧ d ≠ 10 ∧ d ≠ 46) ∧ lit marks w c ≠ [] := by
  have hc : c ≠ 13 ∧ c ≠ 10 ∧ c ≠ 46 := by
    unfold nlB at h2
    refine ⟨?_, ?_, h1⟩ <;> rintro rfl <;> simp at h2
  have one : ∀ d ∈ [c], d ≠ 13 ∧ d ≠ 10 ∧ d ≠ 46 := fun d hd => by rw [List.mem_singleton.mp hd]; exact hc
  unfold lit
  cases hn : nameL marks c with
  | none => exact ⟨one, by simp⟩
  | some nm =>
    dsimp only
    split
    · refine ⟨fun d hd => ?_, by simp⟩
      rcases List.mem_append.mp hd with hd | hd
      · rcases List.mem_append.mp hd with hd | hd
        · rw [List.mem_singleton.mp hd]; decide
        · obtain ⟨x, hx, hd⟩ := List.mem_flatten.mp hd
          rw [List.eq_of_mem_replicate hx] at hd
          have : ∀ d ∈ [97, 109, 112, 59], d ≠ 13 ∧ d ≠ 10 ∧ d ≠ 46 := by decide
          exact this d hd
      · exact name_plain hn d hd
    · exact ⟨one, by simp⟩
theorem emit_lit {marks : Bool} {a b w : Nat} {prev : Option Nat} {before c : Nat} (h1 : c ≠ 46) (h2 : nlB c = false) : emit marks a b w prev before c = lit marks w c := by
  unfold emit lit
  rw [if_neg h1, if_neg (fun h => by rw [h2] at h; exact Bool.false_ne_true h.1)]
  all_goals (cases nameL marks c <;> rfl)
noncomputable def adj : Option (Nat × Bool) → List (Nat × Bool) → Prop
  | _, [] => True
  | o, p :: r => (∀ q, o = some q → q.2 = true → p.2 = false → q.1 = 34) ∧ adj (some p) r
theorem Qt_true (marks : Bool) (a b w : Nat) : ∀ (sg : List (Nat × Bool)) (o : Option (Nat × Bool)) (before : Nat), adj o sg → (o = none → before = 10) → (∀ q, o = some q → q.2 = false → q.1 = before) →
    Qt (decide (a + b = 0) && before == 13) (nlB before) (toldR true marks a b w (o.map (·.1)) before sg) = toldR true marks a (b + 1) w (o.map (·.1)) before sg
  | [], _, _, _, _, _ => by rw [toldR, toldR, Qt_nil]
  | p :: r, o, before, hadj, hi0, hi1 => by
    obtain ⟨ha, hr⟩ := hadj
    rw [toldR, toldR]
    cases hq : p.2 with
    | true =>
      rw [if_pos (show (true && true) = true from rfl), if_pos (show (true && true) = true from rfl)]
      exact Qt_true marks a b w r (some p) before hr (fun h => nomatch h) (fun q h h' => by cases h; rw [hq] at h'; cases h')
    | false =>
      rw [if_neg (by decide), if_neg (by decide)]
      have ih := Qt_true marks a b w r (some p) p.1 hr (fun h => nomatch h) (fun q h _ => by cases h; rfl)
      simp only [Option.map_some] at ih
      generalize toldR true marks a b w (some p.1) p.1 r = y at ih ⊢
      generalize hz : toldR true marks a (b + 1) w (some p.1) p.1 r = z at ih ⊢
      generalize hc : p.1 = c at ih
      by_cases h1 : c = 46
      · subst h1
        have e0 : (decide (a + b = 0) && (46 : Nat) == 13) = false := by simp
        rw [e0, show nlB 46 = false from rfl] at ih
        unfold emit
        rw [if_pos rfl, if_pos rfl]
        have hA : ∃ n, (if (Option.map (·.1) o).all nlB = true then List.replicate a 46 else []) = List.replicate n 46 := by split; exact ⟨a, rfl⟩; exact ⟨0, rfl⟩
        have hB : ∃ n, (if nlB before = true then List.replicate b 46 else []) = List.replicate n 46 := by split; exact ⟨b, rfl⟩; exact ⟨0, rfl⟩
        obtain ⟨n1, e1⟩ := hA
        obtain ⟨n2, e2⟩ := hB
        rw [e1, e2]
        have e3 : (if nlB before = true then List.replicate (b + 1) 46 else []) = List.replicate n2 46 ++ (if nlB before = true then [46] else []) := by
          rw [← e2]
          split
          · rw [List.replicate_succ']
          · rfl
        rw [e3]
        have g1 : ([46] ++ List.replicate n1 46 ++ List.replicate n2 46) ++ y = 46 :: (List.replicate (n1 + n2) 46 ++ y) := by rw [← List.replicate_append_replicate]; simp
        have g2 : ([46] ++ List.replicate n1 46 ++ (List.replicate n2 46 ++ (if nlB before = true then [46] else []))) ++ z = [46] ++ List.replicate (n1 + n2) 46 ++ (if nlB before = true then [46] else []) ++ z := by rw [← List.replicate_append_replicate]; simp only [List.append_assoc]
        rw [g1, g2, Qt_run, ih]
      · cases h2 : nlB c with
        | false =>
          rw [emit_lit h1 h2, emit_lit h1 h2]
          obtain ⟨hp, hne⟩ := lit_plain (marks := marks) (w := w) h1 h2
          have e0 : (decide (a + b = 0) && c == 13) = false := by
            have : c ≠ 13 := by rintro rfl; cases h2
            simp [this]
          rw [e0, h2] at ih
          rw [Qt_plain hp hne, ih]
        | true =>
          rw [h2] at ih
          have h3 : c = 13 ∨ c = 10 := by unfold nlB at h2; simpa using h2
          unfold emit
          rw [if_neg h1, if_neg h1, if_pos (show nlB c = true ∧ 0 < a + (b + 1) from ⟨h2, by omega⟩)]
          by_cases hab : a + b = 0
          · have ea : a = 0 := by omega
            have eb : b = 0 := by omega
            subst ea eb
            rw [if_neg (show ¬ (nlB c = true ∧ 0 < 0 + 0) from fun h => absurd h.2 (by decide)), name_nl marks h2]
            dsimp only
            rw [if_neg (Nat.lt_irrefl 0)]
            rcases h3 with rfl | rfl
            · rw [if_neg (fun h => absurd h.1 (by decide)), List.singleton_append, Qt_cr]
              exact congrArg _ ih
            · rw [List.singleton_append, Qt_lf]
              by_cases hb : before = 13
              · subst hb
                rw [if_pos (show (decide (0 + 0 = 0) && (13 : Nat) == 13) = true from rfl), if_pos ⟨rfl, rfl⟩]
                exact ih
              · rw [if_neg (by simpa using hb), if_neg (fun h => hb h.2)]
                exact congrArg _ ih
          · have hd : decide (a + b = 0) = false := by simpa using hab
            rw [hd, Bool.false_and] at ih ⊢
            rw [if_pos (show nlB c = true ∧ 0 < a + b from ⟨h2, by omega⟩)]
            by_cases hE : c = 10 ∧ (if 0 < a then (Option.map (fun x => x.1) o).getD before else before) = 13
            · rw [if_pos hE, List.nil_append, List.nil_append]
              have hbn : nlB before = true := by
                have hn := hE.2
                split at hn
                · cases o with
                  | none => exact (show before = 13 from hn) ▸ rfl
                  | some q =>
                    have hq1 : q.1 = 13 := hn
                    cases hq2 : q.2 with
                    | true => exact absurd ((ha q rfl hq2 hq).symm.trans hq1) (by decide)
                    | false => rw [← hi1 q rfl hq2, hq1]; rfl
                · rw [hn]; rfl
              rw [hbn]; exact ih
            · rw [if_neg hE]
              show Qt false (nlB before) (13 :: 10 :: y) = _
              rw [Qt_crlf, ih]
end Mine
end
section
open PySem PySem.W PyProof.Rows PySem.Calls
set_option maxRecDepth 100000
set_option maxHeartbeats 800000
namespace Mine
/-- quoting a text that was not yet read -/
theorem Qt_false (marks : Bool) (a w : Nat) : ∀ (sg : List (Nat × Bool)) (prev : Option Nat) (before : Nat), before = prev.getD 10 →
    Qt (decide (a = 0) && before == 13) (nlB before) (toldR false marks a 0 w prev before sg) = toldR false marks (a + 1) 0 w prev before sg
  | [], _, _, _ => by rw [toldR, toldR, Qt_nil]
  | p :: r, prev, before, hb => by
    rw [toldR, toldR]
    rw [if_neg (by simp), if_neg (by simp)]
    have ih := Qt_false marks a w r (some p.1) p.1 rfl
    generalize toldR false marks a 0 w (some p.1) p.1 r = y at ih ⊢
    generalize toldR false marks (a + 1) 0 w (some p.1) p.1 r = z at ih ⊢
    generalize p.1 = c at ih ⊢
    have hall : prev.all nlB = nlB before := by
      rw [hb]
      cases prev <;> rfl
    by_cases h1 : c = 46
    · subst h1
      have e0 : (decide (a = 0) && (46 : Nat) == 13) = false := by simp
      rw [e0, show nlB 46 = false from rfl] at ih
      unfold emit
      rw [if_pos rfl, if_pos rfl, hall]
      have hB : ∀ n : Nat, (if nlB before = true then List.replicate 0 46 else []) = ([] : List Nat) := fun _ => by split <;> rfl
      rw [hB 0, List.append_nil, List.append_nil]
      cases hl : nlB before with
      | false =>
        rw [if_neg Bool.false_ne_true, if_neg Bool.false_ne_true, List.append_nil, List.singleton_append, Qt_dot, if_neg Bool.false_ne_true, ih]
      | true =>
        rw [if_pos rfl, if_pos rfl]
        show Qt _ true (46 :: (List.replicate a 46 ++ y)) = _
        rw [Qt_run, if_pos rfl, ih, List.replicate_succ']
        simp only [List.append_assoc]
    · cases h2 : nlB c with
      | false =>
        rw [emit_lit h1 h2, emit_lit h1 h2]
        obtain ⟨hp, hne⟩ := lit_plain (marks := marks) (w := w) h1 h2
        have e0 : (decide (a = 0) && c == 13) = false := by
          have : c ≠ 13 := by rintro rfl; cases h2
          simp [this]
        rw [e0, h2] at ih
        rw [Qt_plain hp hne, ih]
      | true =>
        rw [h2] at ih
        have h3 : c = 13 ∨ c = 10 := by unfold nlB at h2; simpa using h2
        unfold emit
        rw [if_neg h1, if_neg h1, if_pos (show nlB c = true ∧ 0 < a + 1 + 0 from ⟨h2, by omega⟩), if_pos (show 0 < a + 1 from Nat.succ_pos a)]
        have hn : prev.getD before = before := by
          rw [hb]; cases prev <;> rfl
        rw [hn]
        by_cases ha : a = 0
        · subst ha
          rw [if_neg (show ¬ (nlB c = true ∧ 0 < 0 + 0) from fun h => absurd h.2 (by decide)), name_nl marks h2]
          dsimp only
          rcases h3 with rfl | rfl
          · rw [if_neg (fun h => absurd h.1 (by decide)), List.singleton_append, Qt_cr]
            exact congrArg _ ih
          · rw [List.singleton_append, Qt_lf]
            by_cases hb' : before = 13
            · rw [hb'] at *
              rw [if_pos (show (decide (0 = 0) && (13 : Nat) == 13) = true from rfl), if_pos ⟨rfl, rfl⟩]
              exact ih
            · rw [if_neg (by simpa using hb'), if_neg (fun h => hb' h.2)]
              exact congrArg _ ih
        · have hd : decide (a = 0) = false := by simpa using ha
          rw [hd, Bool.false_and] at ih ⊢
          rw [if_pos (show nlB c = true ∧ 0 < a + 0 from ⟨h2, by omega⟩), if_pos (show 0 < a from by omega)]
          by_cases hE : c = 10 ∧ before = 13
          · rw [if_pos hE, List.nil_append, List.nil_append, show nlB before = true from by rw [hE.2]; rfl]
            exact ih
          · rw [if_neg hE]
            show Qt false (nlB before) (13 :: 10 :: y) = _
            rw [Qt_crlf, ih]
theorem quote_false (marks : Bool) (a w : Nat) (sg : List (Nat × Bool)) : quoteL (toldR false marks a 0 w none 10 sg) = toldR false marks (a + 1) 0 w none 10 sg := by
  have h := Qt_false marks a w sg none 10 rfl
  have e : (decide (a = 0) && (10 : Nat) == 13) = false := by simp
  rw [e] at h
  exact h
theorem quote_true (marks : Bool) (a b w : Nat) (sg : List (Nat × Bool)) (h : adj none sg) : quoteL (toldR true marks a b w none 10 sg) = toldR true marks a (b + 1) w none 10 sg := by
  have h := Qt_true marks a b w sg none 10 h (fun _ => rfl) (fun q h => nomatch h)
  have e : (decide (a + b = 0) && (10 : Nat) == 13) = false := by simp
  rw [e] at h
  exact h
end Mine
end
section
open PySem PySem.W PyProof.Rows PySem.Calls
set_option maxRecDepth 100000
set_option maxHeartbeats 800000
namespace Mine
theorem strip_calm : ∀ (e : List Nat), (∀ d ∈ e, d ≠ 34 ∧ d ≠ 92) → ∀ y, stripR false none (e ++ y) = e ++ stripR false none y
  | [], _, _ => rfl
  | c :: r, h, y => by
    obtain ⟨h1, h2⟩ := h c (.head _)
    rw [List.cons_append, stripR]
    rw [if_neg (fun z => h1 z.2), show (!false && c == 92) = false from by simpa using h2, strip_calm r (fun d hd => h d (.tail _ hd)) y]; rfl
theorem strip_in : ∀ (e : List Nat), (∀ d ∈ e, d ≠ 34 ∧ d ≠ 92) → ∀ q y, stripR false (some q) (e ++ y) = stripR false (some (q ++ e)) y
  | [], _, q, _ => by rw [List.nil_append, List.append_nil]
  | c :: r, h, q, y => by
    obtain ⟨h1, h2⟩ := h c (.head _)
    rw [List.cons_append, stripR]
    rw [if_neg (fun z => h1 z.2), show (!false && c == 92) = false from by simpa using h2, strip_in r (fun d hd => h d (.tail _ hd)) (q ++ [c]) y, List.append_assoc]; rfl
theorem strip_quoted (e : List Nat) (h : ∀ d ∈ e, d ≠ 34 ∧ d ≠ 92) (y : List Nat) : stripR false none (34 :: (e ++ 34 :: y)) = stripR false none y := by
  rw [stripR, if_pos ⟨rfl, rfl⟩, strip_in e h, stripR, if_pos ⟨rfl, rfl⟩]
theorem strip_esc (y : List Nat) : stripR false none (92 :: 34 :: y) = 92 :: 34 :: stripR false none y := by
  rw [stripR, if_neg (fun z => absurd z.2 (by decide)), show (!false && (92 : Nat) == 92) = true from rfl, stripR, if_neg (fun z => absurd z.1 (by decide))]; rfl
/-- where the telling stands after a list -/
noncomputable def ep (prev : Option Nat) (x : List (Nat × Bool)) : Option Nat := x.foldl (fun _ p => some p.1) prev
noncomputable def eb (rr : Bool) (before : Nat) (x : List (Nat × Bool)) : Nat := x.foldl (fun b p => if (rr && p.2) = true then b else p.1) before
theorem toldR_append (rr marks : Bool) (a b w : Nat) : ∀ (x y : List (Nat × Bool)) (prev : Option Nat) (before : Nat), toldR rr marks a b w prev before (x ++ y) = toldR rr marks a b w prev before x ++ toldR rr marks a b w (ep prev x) (eb rr before x) y
  | [], _, _, _ => rfl
  | p :: r, y, prev, before => by
    rw [List.cons_append, toldR, toldR, toldR_append rr marks a b w r y, toldR_append rr marks a b w r y]
    unfold ep eb
    rw [List.foldl_cons, List.foldl_cons]
    split
    · rfl
    · rw [List.append_assoc]
end Mine
end
section
open PySem PySem.W PyProof.Rows PySem.Calls
set_option maxRecDepth 100000
set_option maxHeartbeats 800000
namespace Mine
noncomputable abbrev NoQ (l : List Nat) : Prop := ∀ d ∈ l, d ≠ 34 ∧ d ≠ 92
theorem noQ_app {x y : List Nat} (h : NoQ x) (k : NoQ y) : NoQ (x ++ y) := fun c hc => (List.mem_append.mp hc).elim (h c) (k c)
theorem noQ_rep (n : Nat) : NoQ (List.replicate n 46) := fun d hd => by rw [List.eq_of_mem_replicate hd]; decide
theorem noQ_nil : NoQ [] := fun d hd => nomatch hd
theorem noQ_one {c : Nat} (h1 : c ≠ 34) (h2 : c ≠ 92) : NoQ [c] := fun d hd => by rw [List.mem_singleton.mp hd]; exact ⟨h1, h2⟩
theorem noQ_name {marks : Bool} {c : Nat} {nm : List Nat} (h : nameL marks c = some nm) : NoQ nm := by
  unfold nameL at h
  by_cases h1 : c = 38
  · rw [if_pos h1] at h; cases h; unfold NoQ; decide
  · rw [if_neg h1] at h
    by_cases h2 : c = 62
    · rw [if_pos h2] at h; cases h; unfold NoQ; decide
    · rw [if_neg h2] at h
      cases marks
      · rw [if_neg Bool.false_ne_true] at h
        by_cases h3 : c = 60
        · rw [if_pos h3] at h; cases h; unfold NoQ; decide
        · rw [if_neg h3] at h; cases h
      · rw [if_pos rfl] at h
        by_cases h3 : c = 34
        · rw [if_pos h3] at h; cases h; unfold NoQ; decide
        · rw [if_neg h3] at h; cases h
theorem noQ_nl (q : Prop) [Decidable q] : NoQ (if q then [] else [13, 10]) := by
  split
  · exact noQ_nil
  · unfold NoQ; decide
theorem noQ_named {w : Nat} {nm : List Nat} (h : NoQ nm) : NoQ ([38] ++ (List.replicate (w - 1) [97, 109, 112, 59]).flatten ++ nm) := by
  refine noQ_app (noQ_app (by unfold NoQ; decide) fun d hd => ?_) h
  obtain ⟨x, hx, hd⟩ := List.mem_flatten.mp hd
  rw [List.eq_of_mem_replicate hx] at hd
  have : NoQ [97, 109, 112, 59] := by unfold NoQ; decide
  exact this d hd
theorem noQ_emit {marks : Bool} {a b w : Nat} {prev : Option Nat} {before c : Nat} (h1 : c ≠ 34) (h2 : c ≠ 92) : NoQ (emit marks a b w prev before c) := by
  unfold emit
  by_cases e1 : c = 46
  · rw [if_pos e1]
    refine noQ_app (noQ_app (by unfold NoQ; decide) ?_) ?_
    · split
      · exact noQ_rep a
      · exact noQ_nil
    · split
      · exact noQ_rep b
      · exact noQ_nil
  · rw [if_neg e1]
    by_cases e2 : nlB c = true ∧ 0 < a + b
    · rw [if_pos e2]; exact noQ_nl _
    · rw [if_neg e2]
      cases hn : nameL marks c with
      | none => exact noQ_one h1 h2
      | some nm =>
        dsimp only
        split
        · exact noQ_named (noQ_name hn)
        · exact noQ_one h1 h2
theorem emit_92 (marks : Bool) (a b w : Nat) (prev : Option Nat) (before : Nat) : emit marks a b w prev before 92 = [92] := by
  rw [emit_lit (by decide) rfl]; cases marks <;> rfl
theorem emit_34 {marks : Bool} (a b : Nat) {w : Nat} (prev : Option Nat) (before : Nat) (h : ¬ (marks = true ∧ 0 < w)) : emit marks a b w prev before 34 = [34] := by
  rw [emit_lit (by decide) rfl]
  cases marks with
  | false => rfl
  | true =>
    unfold lit
    show (if 0 < w then _ else [34]) = [34]
    rw [if_neg fun z => h ⟨rfl, z⟩]
/-- where nothing is read behind, the sign before counts only at the start -/
theorem emit_b0 {marks : Bool} {a w : Nat} {prev : Option Nat} {x y c : Nat} (h : prev = none → x = y) : emit marks a 0 w prev x c = emit marks a 0 w prev y c := by
  unfold emit
  have e1 : ∀ z : Nat, (if nlB z = true then List.replicate 0 46 else ([] : List Nat)) = [] := fun z => by split <;> rfl
  rw [e1, e1]
  cases prev with
  | none => rw [h rfl]
  | some v =>
    by_cases ha : 0 < a
    · rw [if_pos ha, if_pos ha]; rfl
    · rw [if_neg (show ¬ (nlB c = true ∧ 0 < a + 0) from fun z => ha z.2), if_neg (show ¬ (nlB c = true ∧ 0 < a + 0) from fun z => ha z.2)]
end Mine
end
section
open PySem PySem.W PyProof.Rows PySem.Calls
set_option maxRecDepth 100000
set_option maxHeartbeats 800000
namespace Mine
/-- the signs of a piece -/
noncomputable def pc (p : List Nat × Bool) : List (Nat × Bool) := p.1.map fun c => (c, p.2)
noncomputable def Piece (p : List Nat × Bool) : Prop := (p.2 = false ∧ (NoQ p.1 ∨ p.1 = [92, 34])) ∨ (p.2 = true ∧ ∃ i, p.1 = [34] ++ i ++ [34] ∧ NoQ i)
theorem told_noQ {marks : Bool} {a w : Nat} {q : Bool} : ∀ (i : List Nat) (prev : Option Nat) (before : Nat), NoQ i → NoQ (toldR false marks a 0 w prev before (i.map fun c => (c, q)))
  | [], _, _, _ => noQ_nil
  | c :: r, prev, before, h => by
    rw [List.map_cons, toldR, if_neg (by simp)]
    exact noQ_app (noQ_emit (h c (.head _)).1 (h c (.head _)).2) (told_noQ r _ _ fun d hd => h d (.tail _ hd))
theorem told_skip {marks : Bool} {a w : Nat} : ∀ (i : List Nat) (prev : Option Nat) (before : Nat), toldR true marks a 0 w prev before (i.map fun c => (c, true)) = []
  | [], _, _ => rfl
  | c :: r, prev, before => by rw [List.map_cons, toldR, if_pos (show (true && true) = true from rfl)]; exact told_skip r _ _
theorem eb_skip : ∀ (i : List Nat) (before : Nat), eb true before (i.map fun c => (c, true)) = before
  | [], _ => rfl
  | c :: r, before => by
    unfold eb
    rw [List.map_cons, List.foldl_cons, if_pos (show (true && true) = true from rfl)]
    exact eb_skip r before
/-- unquoted signs are told alike, read or not -/
theorem told_same {marks : Bool} {a w : Nat} : ∀ (i : List Nat) (prev : Option Nat) (x y : Nat), (prev = none → x = y) → toldR true marks a 0 w prev y (i.map fun c => (c, false)) = toldR false marks a 0 w prev x (i.map fun c => (c, false))
  | [], _, _, _, _ => rfl
  | c :: r, prev, x, y, h => by
    rw [List.map_cons, toldR, toldR, if_neg (by simp), if_neg (by simp), emit_b0 h, told_same r (some c) c c (fun z => nomatch z)]
theorem ep_cons {prev : Option Nat} {p : Nat × Bool} {r : List (Nat × Bool)} : ep prev (p :: r) ≠ none := by
  unfold ep
  rw [List.foldl_cons]
  generalize hs : some p.1 = s
  have : s ≠ none := by rw [← hs]; simp
  clear hs
  induction r generalizing s with
  | nil => exact this
  | cons q r ih => rw [List.foldl_cons]; exact ih (some q.1) (by simp)
/-- reading a text that was told unread -/
theorem read_told {marks : Bool} {a w : Nat} (hw : ¬ (marks = true ∧ 0 < w)) : ∀ (ps : List (List Nat × Bool)) (prev : Option Nat) (x y : Nat), (∀ p ∈ ps, Piece p) → (prev = none → x = y) →
    stripR false none (toldR false marks a 0 w prev x (ps.flatMap pc)) = toldR true marks a 0 w prev y (ps.flatMap pc)
  | [], _, _, _, _, _ => rfl
  | p :: r, prev, x, y, hp, h => by
    obtain ⟨l, q⟩ := p
    have ih := fun prev x y h => read_told (a := a) hw r prev x y (fun p m => hp p (.tail _ m)) h
    rw [List.flatMap_cons, toldR_append, toldR_append]
    rcases hp (l, q) (.head _) with ⟨hq, hl⟩ | ⟨hq, i, hl, hi⟩
    · have hq' : q = false := hq
      subst hq'
      have e2 : toldR true marks a 0 w prev y (pc (l, false)) = toldR false marks a 0 w prev x (pc (l, false)) := told_same l prev x y h
      rw [e2]
      have hnx : ep prev (pc (l, false)) = none → eb false x (pc (l, false)) = eb true y (pc (l, false)) := by
        cases l with
        | nil => intro hn; exact h hn
        | cons c r => intro hn; exact absurd hn ep_cons
      rcases hl with hl | hl
      · have hno : NoQ (toldR false marks a 0 w prev x (pc (l, false))) := told_noQ l prev x hl
        rw [strip_calm _ hno, ih _ _ _ hnx]
      · have hl' : l = [92, 34] := hl
        subst hl'
        have e3 : toldR false marks a 0 w prev x (pc ([92, 34], false)) = [92, 34] := by
          show toldR false marks a 0 w prev x [(92, false), (34, false)] = _
          rw [toldR, if_neg (by simp), toldR, if_neg (by simp), toldR]
          show emit marks a 0 w prev x 92 ++ (emit marks a 0 w (some 92) 92 34 ++ []) = _
          rw [emit_92, emit_34 _ _ _ _ hw]; rfl
        rw [e3]
        rw [List.cons_append, List.cons_append, List.nil_append, strip_esc, ih _ _ _ hnx]; rfl
    · have hq' : q = true := hq
      subst hq'
      have hl' : l = [34] ++ i ++ [34] := hl
      subst hl'
      have e2 : toldR true marks a 0 w prev y (pc ([34] ++ i ++ [34], true)) = [] := told_skip _ prev y
      have hnx : ep prev (pc ([34] ++ i ++ [34], true)) = none → eb false x (pc ([34] ++ i ++ [34], true)) = eb true y (pc ([34] ++ i ++ [34], true)) := fun hn => absurd hn ep_cons
      have e3 : toldR false marks a 0 w prev x (pc ([34] ++ i ++ [34], true)) = [34] ++ toldR false marks a 0 w (some 34) 34 (i.map fun c => (c, true)) ++ [34] := by
        show toldR false marks a 0 w prev x ((34, true) :: ((i ++ [34]).map fun c => (c, true))) = _
        rw [toldR, if_neg (by simp), List.map_append, toldR_append, emit_34 _ _ _ _ hw]
        show [34] ++ (_ ++ toldR false marks a 0 w _ _ [(34, true)]) = _
        rw [toldR, if_neg (by simp), emit_34 _ _ _ _ hw]; simp [toldR]
      rw [e2, e3, List.nil_append, ← ih _ _ _ hnx]
      have := strip_quoted _ (told_noQ (marks := marks) (a := a) (w := w) (q := true) i (some 34) 34 hi) (toldR false marks a 0 w (ep prev (pc ([34] ++ i ++ [34], true))) (eb false x (pc ([34] ++ i ++ [34], true))) (r.flatMap pc))
      simpa [List.append_assoc] using this
end Mine
end
section
open PySem PySem.W PyProof.Rows PySem.Calls
set_option maxRecDepth 100000
set_option maxHeartbeats 800000
namespace Mine
theorem emit_0 (marks : Bool) (prev : Option Nat) (before c : Nat) : emit marks 0 0 0 prev before c = [c] := by
  have e1 : ∀ (q : Bool), (if q = true then List.replicate 0 46 else ([] : List Nat)) = [] := fun z => by split <;> rfl
  unfold emit
  by_cases h1 : c = 46
  · rw [if_pos h1, e1, e1, h1]; rfl
  · rw [if_neg h1, if_neg (show ¬ (nlB c = true ∧ 0 < 0 + 0) from fun z => absurd z.2 (by decide))]
    cases nameL marks c with
    | none => rfl
    | some nm => exact if_neg (Nat.lt_irrefl 0)
theorem told_0 (marks : Bool) : ∀ (sg : List (Nat × Bool)) (prev : Option Nat) (before : Nat), toldR false marks 0 0 0 prev before sg = sg.map (·.1)
  | [], _, _ => rfl
  | p :: r, prev, before => by
    rw [toldR, if_neg (by simp), emit_0, told_0 marks r]; rfl
theorem told_noQ2 {rr marks : Bool} {a b w : Nat} : ∀ (i : List Nat) (prev : Option Nat) (before : Nat), NoQ i → NoQ (toldR rr marks a b w prev before (i.map fun c => (c, false)))
  | [], _, _, _ => noQ_nil
  | c :: r, prev, before, h => by
    rw [List.map_cons, toldR, if_neg (by simp)]
    exact noQ_app (noQ_emit (h c (.head _)).1 (h c (.head _)).2) (told_noQ2 r _ _ fun d hd => h d (.tail _ hd))
theorem told_skip2 {marks : Bool} {a b w : Nat} : ∀ (i : List Nat) (prev : Option Nat) (before : Nat), toldR true marks a b w prev before (i.map fun c => (c, true)) = []
  | [], _, _ => rfl
  | c :: r, prev, before => by rw [List.map_cons, toldR, if_pos (show (true && true) = true from rfl)]; exact told_skip2 r _ _
/-- reading a text that was read already -/
theorem read_again {marks : Bool} {a b w : Nat} (hw : ¬ (marks = true ∧ 0 < w)) : ∀ (ps : List (List Nat × Bool)) (prev : Option Nat) (y : Nat), (∀ p ∈ ps, Piece p) →
    stripR false none (toldR true marks a b w prev y (ps.flatMap pc)) = toldR true marks a b w prev y (ps.flatMap pc)
  | [], _, _, _ => rfl
  | p :: r, prev, y, hp => by
    obtain ⟨l, q⟩ := p
    have ih := fun prev y => read_again (a := a) (b := b) hw r prev y (fun p m => hp p (.tail _ m))
    rw [List.flatMap_cons, toldR_append]
    rcases hp (l, q) (.head _) with ⟨hq, hl⟩ | ⟨hq, i, hl, hi⟩
    · have hq' : q = false := hq
      subst hq'
      rcases hl with hl | hl
      · have hno : NoQ (toldR true marks a b w prev y (pc (l, false))) := told_noQ2 l prev y hl
        rw [strip_calm _ hno, ih]
      · have hl' : l = [92, 34] := hl
        subst hl'
        have e3 : toldR true marks a b w prev y (pc ([92, 34], false)) = [92, 34] := by
          show toldR true marks a b w prev y [(92, false), (34, false)] = _
          rw [toldR, if_neg (by simp), toldR, if_neg (by simp), toldR]
          show emit marks a b w prev y 92 ++ (emit marks a b w (some 92) 92 34 ++ []) = _
          rw [emit_92, emit_34 _ _ _ _ hw]; rfl
        rw [e3]
        rw [List.cons_append, List.cons_append, List.nil_append, strip_esc, ih]
    · have hq' : q = true := hq
      subst hq'
      have e2 : toldR true marks a b w prev y (pc (l, true)) = [] := told_skip2 _ prev y
      rw [e2, List.nil_append, ih]
end Mine
end
section
open PySem PySem.W PyProof.Rows PySem.Calls
set_option maxRecDepth 100000
set_option maxHeartbeats 800000
namespace Mine
/-- where marks are written no quote is left -/
theorem no34_emit {a b w : Nat} {prev : Option Nat} {before c : Nat} (hw : 0 < w) : 34 ∉ emit true a b w prev before c := by
  by_cases hc : c = 34
  · subst hc
    rw [emit_lit (by decide) rfl]
    unfold lit
    show 34 ∉ (if 0 < w then [38] ++ (List.replicate (w - 1) [97, 109, 112, 59]).flatten ++ [113, 117, 111, 116, 59] else [34])
    rw [if_pos hw]
    intro h
    have h2 : NoQ [113, 117, 111, 116, 59] := by unfold NoQ; decide
    exact (noQ_named (w := w) h2 34 h).1 rfl
  · by_cases hc2 : c = 92
    · subst hc2
      rw [emit_92]; decide
    · exact fun h => (noQ_emit hc hc2 34 h).1 rfl
theorem no34_told {rr : Bool} {a b w : Nat} (hw : 0 < w) : ∀ (sg : List (Nat × Bool)) (prev : Option Nat) (before : Nat), 34 ∉ toldR rr true a b w prev before sg
  | [], _, _ => fun h => nomatch h
  | p :: r, prev, before => by
    rw [toldR]
    split
    · exact no34_told hw r _ _
    · intro h
      rcases List.mem_append.mp h with h | h
      · exact no34_emit hw h
      · exact no34_told hw r _ _ h
theorem read_marks {rr : Bool} {a b w : Nat} (hw : 0 < w) (sg : List (Nat × Bool)) : stripF (toldR rr true a b w none 10 sg) = toldR rr true a b w none 10 sg := strip_free (no34_told hw sg none 10)
end Mine
end
section
open PySem PySem.W PyProof.Rows PySem.Calls
set_option maxRecDepth 100000
set_option maxHeartbeats 800000
namespace Mine
theorem piece_alone : ∀ l ∈ aloneL, NoQ l ∨ l = [92, 34] := by unfold NoQ; decide
theorem noQ_between : ∀ l ∈ betweenL, NoQ l := by unfold NoQ; decide
theorem piece_of (x : Nat) : Piece (pieceOf x) := by
  unfold pieceOf
  split
  · refine .inl ⟨rfl, ?_⟩
    show NoQ (aloneL.getD (x % 10) []) ∨ aloneL.getD (x % 10) [] = [92, 34]
    rw [List.getD_eq_getElem?_getD]
    cases h : aloneL[x % 10]? with
    | none => exact .inl noQ_nil
    | some v => exact piece_alone v (List.mem_of_getElem? h)
  · refine .inr ⟨rfl, betweenL.getD (x / 10 % 6) [], rfl, ?_⟩
    rw [List.getD_eq_getElem?_getD]
    cases h : betweenL[x / 10 % 6]? with
    | none => exact noQ_nil
    | some v => exact noQ_between v (List.mem_of_getElem? h)
theorem piece_tail : ∀ p ∈ tailL, Piece p := by
  intro p hp
  unfold tailL at hp
  simp only [List.mem_cons, List.not_mem_nil, or_false] at hp
  rcases hp with rfl | rfl | rfl | rfl | rfl
  · exact .inl ⟨rfl, .inl (by unfold NoQ; decide)⟩
  · exact .inr ⟨rfl, [60], rfl, by unfold NoQ; decide⟩
  · exact .inl ⟨rfl, .inl (by unfold NoQ; decide)⟩
  · exact .inr ⟨rfl, [46], rfl, by unfold NoQ; decide⟩
  · exact .inl ⟨rfl, .inl (by unfold NoQ; decide)⟩
noncomputable def piecesL (xs : List Nat) : List (List Nat × Bool) := xs.map pieceOf ++ tailL
noncomputable def sgL (xs : List Nat) : List (Nat × Bool) := (piecesL xs).flatMap pc
theorem pieces_all (xs : List Nat) : ∀ p ∈ piecesL xs, Piece p := by
  intro p hp
  rcases List.mem_append.mp hp with hp | hp
  · obtain ⟨x, _, rfl⟩ := List.mem_map.mp hp; exact piece_of x
  · exact piece_tail p hp
theorem spread_eq : ∀ ps : List (List Nat × Bool), (spread ps).flatten = (ps.flatMap pc).map fun p => ([p.1], p.2)
  | [] => rfl
  | p :: r => by
    have ih := spread_eq r
    unfold spread at ih ⊢
    rw [List.map_cons, List.flatten_cons, ih, List.flatMap_cons, List.map_append]
    unfold pc
    rw [List.map_map]; rfl
theorem signsL_eq (xs : List Nat) : signsL xs = (sgL xs).map fun p => ([p.1], p.2) := spread_eq _
end Mine
end
section
open PySem PySem.W PyProof.Rows PySem.Calls
set_option maxRecDepth 100000
set_option maxHeartbeats 800000
namespace Mine
/-- the last sign is unquoted, or a quote -/
noncomputable def okO (o : Option (Nat × Bool)) : Prop := ∀ q, o = some q → q.2 = true → q.1 = 34
theorem adj_false : ∀ (l : List Nat) (o : Option (Nat × Bool)) (y : List (Nat × Bool)), okO o → (∀ o', okO o' → adj o' y) → adj o ((l.map fun c => (c, false)) ++ y)
  | [], o, y, ho, hy => hy o ho
  | c :: r, o, y, ho, hy => ⟨fun q h1 h2 _ => ho q h1 h2, adj_false r (some (c, false)) y (fun q h1 h2 => by cases h1; cases h2) hy⟩
theorem adj_true : ∀ (l : List Nat) (o : Option (Nat × Bool)) (y : List (Nat × Bool)), (∀ o', okO o' → adj o' y) → adj o (((l ++ [34]).map fun c => (c, true)) ++ y)
  | [], o, y, hy => ⟨fun _ _ _ h => (by cases h), hy _ (fun q h _ => by cases h; rfl)⟩
  | c :: r, o, y, hy => ⟨fun _ _ _ h => (by cases h), adj_true r (some (c, true)) y hy⟩
theorem adj_pieces : ∀ (ps : List (List Nat × Bool)), (∀ p ∈ ps, Piece p) → ∀ o, okO o → adj o (ps.flatMap pc)
  | [], _, _, _ => trivial
  | p :: r, hp, o, ho => by
    obtain ⟨l, q⟩ := p
    have ih := adj_pieces r fun p m => hp p (.tail _ m)
    rw [List.flatMap_cons]
    rcases hp (l, q) (.head _) with ⟨hq, _⟩ | ⟨hq, i, hl, _⟩
    · have hq' : q = false := hq
      subst hq'
      exact adj_false l o _ ho ih
    · have hq' : q = true := hq
      subst hq'
      have hl' : l = [34] ++ i ++ [34] := hl
      subst hl'
      exact adj_true ([34] ++ i) o _ ih
theorem adj_sgL (xs : List Nat) : adj none (sgL xs) := adj_pieces _ (pieces_all xs) none fun q h => nomatch h
end Mine
end
section
open PySem PySem.W PyProof.Rows PySem.Calls
set_option maxRecDepth 100000
set_option maxHeartbeats 800000
namespace Mine
/-- a normal form: read?, quotings ahead, quotings behind, writings -/
structure NF where
  rr : Bool
  a : Nat
  b : Nat
  w : Nat
deriving DecidableEq
noncomputable def NF.ok (n : NF) : Prop := n.rr = false → n.b = 0
noncomputable def NF.told (n : NF) (marks : Bool) (sg : List (Nat × Bool)) : List Nat := toldR n.rr marks n.a n.b n.w none 10 sg
/-- one hand more -/
noncomputable def NF.step (marks : Bool) (n : NF) (h : Nat) : NF :=
  if h = 114 then (if marks = true ∧ 0 < n.w then n else { n with rr := true })
  else if h = 115 then (if n.rr = true then { n with b := n.b + 1 } else { n with a := n.a + 1 })
  else { n with w := n.w + 1 }
theorem step_ok {marks : Bool} {n : NF} {h : Nat} (o : n.ok) : (n.step marks h).ok := by
  obtain ⟨rr, a, b, w⟩ := n
  unfold NF.ok NF.step at *
  dsimp only at *
  split
  · split
    · exact o
    · intro e; cases e
  · split
    · split
      · rename_i e; intro e2; rw [e] at e2; cases e2
      · intro e; exact o e
    · exact o
theorem step_told (xs : List Nat) (marks : Bool) (n : NF) (h : Nat) (o : n.ok) : doneL marks h (n.told marks (sgL xs)) = (n.step marks h).told marks (sgL xs) := by
  obtain ⟨rr, a, b, w⟩ := n
  unfold NF.ok at o
  dsimp only at o
  unfold doneL NF.told NF.step
  dsimp only
  by_cases h1 : h = 114
  · rw [if_pos h1, if_pos h1]
    by_cases hm : marks = true ∧ 0 < w
    · rw [if_pos hm]
      obtain ⟨rfl, hw⟩ := hm
      exact read_marks hw _
    · rw [if_neg hm]
      dsimp only
      rw [stripF_eq]
      cases rr with
      | true => exact read_again hm _ _ _ (pieces_all xs)
      | false =>
        rw [o rfl]
        exact read_told hm _ _ _ _ (pieces_all xs) fun _ => rfl
  · rw [if_neg h1, if_neg h1]
    by_cases h2 : h = 115
    · rw [if_pos h2, if_pos h2]
      cases rr with
      | true => exact quote_true marks a b w _ (adj_sgL xs)
      | false =>
        rw [o rfl, if_neg Bool.false_ne_true]
        exact quote_false marks a w _
    · rw [if_neg h2, if_neg h2]
      exact escM_told rr marks a b w _ _ _
/-- the words of hands -/
theorem word_told (xs : List Nat) (marks : Bool) : ∀ (hs : List Nat) (n : NF), n.ok → hs.foldl (fun t h => doneL marks h t) (n.told marks (sgL xs)) = (hs.foldl (NF.step marks) n).told marks (sgL xs)
  | [], _, _ => rfl
  | h :: r, n, o => by
    rw [List.foldl_cons, List.foldl_cons, step_told xs marks n h o]
    exact word_told xs marks r _ (step_ok o)
end Mine
end
section
open PySem PySem.W PyProof.Rows PySem.Calls
set_option maxRecDepth 100000
set_option maxHeartbeats 800000
namespace Mine
noncomputable def tailN : List (Nat × Bool) := tailL.flatMap pc
noncomputable def handsL : List Nat := [114, 115, 119]
noncomputable def wordsL : List (List Nat) := [[]] ++ handsL.map (fun h => [h]) ++ (handsL.flatMap fun g => handsL.map fun h => [g, h]) ++ (handsL.flatMap fun f => handsL.flatMap fun g => handsL.map fun h => [f, g, h])
noncomputable def nfOf (marks : Bool) (w : List Nat) : NF := w.foldl (NF.step marks) ⟨false, 0, 0, 0⟩
theorem tail_told (rr marks : Bool) (a b w : Nat) (prev : Option Nat) (before : Nat) : toldR rr marks a b w prev before tailN = toldR rr marks a b w none 10 tailN := by
  show toldR rr marks a b w prev before ((38, false) :: _) = toldR rr marks a b w none 10 ((38, false) :: _)
  rw [toldR, toldR, if_neg (by simp), if_neg (by simp), emit_lit (by decide) rfl, emit_lit (by decide) rfl]
theorem tails_apart : ∀ marks : Bool, ∀ v ∈ wordsL, ∀ u ∈ wordsL, nfOf marks v ≠ nfOf marks u → ¬ ((nfOf marks v).told marks tailN <:+ (nfOf marks u).told marks tailN) := by decide +kernel
theorem sfx {x y t u : List Nat} (h : x ++ t = y ++ u) : t <:+ u ∨ u <:+ t := List.suffix_or_suffix_of_suffix ⟨x, rfl⟩ ⟨y, h.symm⟩
theorem told_apart (xs : List Nat) (marks : Bool) {v u : List Nat} (hv : v ∈ wordsL) (hu : u ∈ wordsL) (h : (nfOf marks v).told marks (sgL xs) = (nfOf marks u).told marks (sgL xs)) : nfOf marks v = nfOf marks u := by
  apply Classical.byContradiction
  intro hne
  have e : sgL xs = (xs.map pieceOf).flatMap pc ++ tailN := by unfold sgL piecesL tailN; rw [List.flatMap_append]
  unfold NF.told at h
  rw [e, toldR_append, toldR_append, tail_told, tail_told (nfOf marks u).rr] at h
  rcases sfx h with h3 | h3
  · exact tails_apart marks v hv u hu hne h3
  · exact tails_apart marks u hu v hv (Ne.symm hne) h3
end Mine
end
section
open PySem PySem.W PyProof.Rows PySem.Calls
set_option maxRecDepth 100000
set_option maxHeartbeats 800000
namespace Mine
theorem normal_nf : ∀ marks : Bool, ∀ v ∈ wordsL, (!(Builtin.Str.occurrences (normalL (S v) marks) (Str.ofString "r") 0 (normalL (S v) marks).length 1).isEmpty) = (nfOf marks v).rr ∧
    (if (!(Builtin.Str.occurrences (normalL (S v) marks) (Str.ofString "r") 0 (normalL (S v) marks).length 1).isEmpty) = true then Txt.find (normalL (S v) marks) (Str.ofString "r") else Txt.count (normalL (S v) marks) (Str.ofString "s")) = ((nfOf marks v).a : Int) ∧
    Txt.count (normalL (S v) marks) (Str.ofString "s") - ((nfOf marks v).a : Int) = ((nfOf marks v).b : Int) ∧ Txt.count (normalL (S v) marks) (Str.ofString "w") = ((nfOf marks v).w : Int) ∧ (normalL (S v) marks).length ≤ 10 ∧
    (nfOf marks v).a ≤ 10 ∧ (nfOf marks v).b ≤ 10 ∧ (nfOf marks v).w ≤ 10 := by decide +kernel
theorem words_40 : wordsL.length = 40 := by decide +kernel
theorem nf_20 : ∀ marks : Bool, (wordsL.map (nfOf marks)).eraseDups.length = 20 := by decide +kernel
end Mine
end
section
open PySem PySem.W PyProof.Rows PySem.Calls
set_option maxRecDepth 100000
set_option maxHeartbeats 1000000
namespace Mine
noncomputable def drawF (xs0 : List Int) (k' : Int) : Int := if k' < (xs0.length : Int) then (xs0.getD k'.toNat 0).fmod 1000000 else [17, 5, 28, 4].getD k'.toNat 0
theorem draw_bounds (xs0 : List Int) (k : Int) : 0 ≤ drawF xs0 k ∧ drawF xs0 k < 1000000 := by
  unfold drawF
  split
  · exact ⟨Int.fmod_nonneg_of_pos _ (by decide), Int.fmod_lt_of_pos _ (by decide)⟩
  · match k.toNat with
    | 0 => decide
    | 1 => decide
    | 2 => decide
    | 3 => decide
    | n + 4 => exact ⟨Int.le_refl _, (by decide : (0 : Int) < 1000000)⟩
theorem draws_nat {xs0 : List Int} {ys : List Value} {vi : List Int} (hv : (rangeKs 0 ((4 : Int) - 0).toNat).map (drawF xs0) = vi) (h : IntsAre ys vi) :
    ∃ xs : List Nat, xs.length = 4 ∧ ys.length = 4 ∧ (∀ (i : Nat) v x, ys[i]? = some v → xs[i]? = some x → ∃ t, v = .int (x : Int) t) ∧ ∀ x ∈ xs, x < 1000000 := by
  have hl : vi.length = 4 := by rw [← hv, List.length_map]; rfl
  have hb : ∀ v ∈ vi, 0 ≤ v ∧ v < 1000000 := fun v hm => by
    rw [← hv] at hm
    obtain ⟨k, _, rfl⟩ := List.mem_map.mp hm
    exact draw_bounds xs0 k
  refine ⟨vi.map Int.toNat, by rw [List.length_map, hl], by rw [← h.length] at hl; exact hl, fun i v x hy hx => ?_, fun x hx => ?_⟩
  · obtain ⟨n, t, rfl, e⟩ := IntsAre.at h i v hy
    rw [List.getElem?_map, e] at hx
    cases hx
    have := hb n (List.mem_of_getElem? e)
    exact ⟨t, by rw [Int.toNat_of_nonneg this.1]⟩
  · obtain ⟨v, hm, rfl⟩ := List.mem_map.mp hx
    have := hb v hm
    omega
/-- levels -/
noncomputable def stepD (marks : Bool) (lv : List (List Nat × List Nat)) : List (List Nat × List Nat) := lv.flatMap fun p => handsL.map fun c => (p.1 ++ [c], doneL marks c p.2)
noncomputable def levelD (marks : Bool) (t0 : List Nat) : Nat → List (List Nat × List Nat)
  | 0 => [([], t0)]
  | k + 1 => stepD marks (levelD marks t0 k)
noncomputable def runsD (marks : Bool) (t0 : List Nat) : Nat → List (List Nat × List Nat)
  | 0 => [([], t0)]
  | k + 1 => runsD marks t0 k ++ levelD marks t0 (k + 1)
noncomputable def wl : Nat → List (List Nat)
  | 0 => [[]]
  | k + 1 => (wl k).flatMap fun r => handsL.map fun c => r ++ [c]
noncomputable def wr : Nat → List (List Nat)
  | 0 => [[]]
  | k + 1 => wr k ++ wl (k + 1)
theorem level_fst (marks : Bool) (t0 : List Nat) : ∀ k, (levelD marks t0 k).map (·.1) = wl k
  | 0 => rfl
  | k + 1 => by
    rw [levelD, wl, ← level_fst marks t0 k, stepD, List.map_flatMap, List.flatMap_map]
    congr 1
theorem runs_fst (marks : Bool) (t0 : List Nat) : ∀ k, (runsD marks t0 k).map (·.1) = wr k
  | 0 => rfl
  | k + 1 => by rw [runsD, wr, List.map_append, runs_fst marks t0 k, level_fst]
theorem words_eq : wr 3 = wordsL := by decide +kernel
theorem level_snd (marks : Bool) (t0 : List Nat) : ∀ k, ∀ p ∈ levelD marks t0 k, p.2 = p.1.foldl (fun t h => doneL marks h t) t0
  | 0, p, h => by
    rcases List.mem_singleton.mp h with rfl
    rfl
  | k + 1, p, h => by
    rw [levelD, stepD] at h
    obtain ⟨q, hq, h⟩ := List.mem_flatMap.mp h
    obtain ⟨c, _, rfl⟩ := List.mem_map.mp h
    rw [List.foldl_append, ← level_snd marks t0 k q hq]; rfl
theorem runs_snd (marks : Bool) (t0 : List Nat) : ∀ k, ∀ p ∈ runsD marks t0 k, p.2 = p.1.foldl (fun t h => doneL marks h t) t0
  | 0, p, h => level_snd marks t0 0 p h
  | k + 1, p, h => by
    rw [runsD] at h
    rcases List.mem_append.mp h with h | h
    · exact runs_snd marks t0 k p h
    · exact level_snd marks t0 (k + 1) p h
theorem runs_told (marks : Bool) (xs : List Nat) {p : List Nat × List Nat} (h : p ∈ runsD marks ((sgL xs).map (·.1)) 3) : p.1 ∈ wordsL ∧ p.2 = (nfOf marks p.1).told marks (sgL xs) := by
  refine ⟨?_, ?_⟩
  · rw [← words_eq, ← runs_fst marks ((sgL xs).map (·.1)) 3]
    exact List.mem_map.mpr ⟨p, h, rfl⟩
  · rw [runs_snd marks _ 3 p h]
    have z := word_told xs marks p.1 ⟨false, 0, 0, 0⟩ (fun _ => rfl)
    have e : (⟨false, 0, 0, 0⟩ : NF).told marks (sgL xs) = (sgL xs).map (·.1) := told_0 marks (sgL xs) none 10
    rw [e] at z
    exact z
theorem level_len (marks : Bool) (t0 : List Nat) : ∀ k, (levelD marks t0 k).length = 3 ^ k
  | 0 => rfl
  | k + 1 => by
    rw [levelD, stepD]
    have : ∀ l : List (List Nat × List Nat), (l.flatMap fun p => handsL.map fun c => (p.1 ++ [c], doneL marks c p.2)).length = 3 * l.length := by
      intro l
      induction l with
      | nil => rfl
      | cons a l ih =>
        rw [List.flatMap_cons, List.length_append, ih, List.length_map, List.length_cons]
        show 3 + 3 * l.length = 3 * (l.length + 1)
        omega
    rw [this, level_len marks t0 k, Nat.pow_succ, Nat.mul_comm]
theorem sub1_one (c d : Nat) (z : List Nat) : sub1 c z [d] = if d = c then z else [d] := by
  unfold sub1; simp
theorem esc_one (x y : Nat) (zx zy : List Nat) (hx : zx.length ≤ 6) (hy : zy.length ≤ 6) (hxy : y ≠ 38) (hxx : x ≠ 38) (nx : sub1 x zx [38, 97, 109, 112, 59] = [38, 97, 109, 112, 59]) (ny : sub1 y zy [38, 97, 109, 112, 59] = [38, 97, 109, 112, 59]) (ny2 : sub1 y zy zx = zx) (d : Nat) :
    (sub1 y zy (sub1 x zx (sub1 38 [38, 97, 109, 112, 59] [d]))).length ≤ 6 := by
  rw [sub1_one]
  by_cases h1 : d = 38
  · rw [if_pos h1, nx, ny]; exact Nat.le_of_ble_eq_true rfl
  · rw [if_neg h1, sub1_one]
    by_cases h2 : d = x
    · rw [if_pos h2, ny2]; exact hx
    · rw [if_neg h2, sub1_one]
      split
      · exact hy
      · exact Nat.le_of_ble_eq_true rfl
theorem escA_len : ∀ l : List Nat, (escA l).length ≤ 6 * l.length
  | [] => Nat.le_refl _
  | d :: r => by
    have ih := escA_len r
    have e : escA (d :: r) = escA [d] ++ escA r := by
      show escA ([d] ++ r) = _
      unfold escA
      rw [sub1_append, sub1_append, sub1_append]
    have z : (escA [d]).length ≤ 6 := esc_one 62 34 _ _ (by decide) (by decide) (by decide) (by decide) (by decide) (by decide) (by decide) d
    rw [e, List.length_append, List.length_cons]
    omega
theorem escC_len : ∀ l : List Nat, (escC l).length ≤ 6 * l.length
  | [] => Nat.le_refl _
  | d :: r => by
    have ih := escC_len r
    have e : escC (d :: r) = escC [d] ++ escC r := by
      show escC ([d] ++ r) = _
      unfold escC
      rw [sub1_append, sub1_append, sub1_append]
    have z : (escC [d]).length ≤ 6 := esc_one 60 62 _ _ (by decide) (by decide) (by decide) (by decide) (by decide) (by decide) (by decide) d
    rw [e, List.length_append, List.length_cons]
    omega
theorem done_len (marks : Bool) (c : Nat) (l : List Nat) : (doneL marks c l).length ≤ 6 * l.length := by
  unfold doneL
  split
  · have := stripF_length l; omega
  · split
    · have := dots_length true (crlfB false l)
      have := crlf_length false l
      unfold quoteL
      omega
    · split
      · exact escA_len l
      · exact escC_len l
theorem level_text (marks : Bool) (t0 : List Nat) (h0 : t0.length ≤ 300) : ∀ k, ∀ p ∈ levelD marks t0 k, p.2.length ≤ 300 * 6 ^ k ∧ p.1.length = k
  | 0, p, h => by
    rcases List.mem_singleton.mp h with rfl
    exact ⟨by simpa using h0, rfl⟩
  | k + 1, p, h => by
    rw [levelD, stepD] at h
    obtain ⟨q, hq, h⟩ := List.mem_flatMap.mp h
    obtain ⟨c, _, rfl⟩ := List.mem_map.mp h
    have z := level_text marks t0 h0 k q hq
    have d := done_len marks c q.2
    refine ⟨?_, by rw [List.length_append, z.2]; rfl⟩
    show (doneL marks c q.2).length ≤ _
    rw [Nat.pow_succ]
    omega
/-- the set -/
noncomputable def addNew {K : Type} [BEq K] (σ : List K) (v : K) : List K := if σ.any (· == v) = true then σ else σ ++ [v]
theorem any_map_inj {α β : Type} [BEq α] [LawfulBEq α] [BEq β] [LawfulBEq β] {g : α → β} {u : α} : ∀ σ : List α, (∀ a ∈ σ, g a = g u → a = u) → (σ.map g).any (· == g u) = σ.any (· == u)
  | [], _ => rfl
  | a :: σ, h => by
    rw [List.map_cons, List.any_cons, List.any_cons, any_map_inj σ fun b hb => h b (.tail _ hb)]
    congr 1
    by_cases e : a = u
    · subst e; simp
    · have e2 : ¬ g a = g u := fun q => e (h a (.head _) q)
      rw [beq_eq_false_iff_ne.mpr e, beq_eq_false_iff_ne.mpr e2]
theorem fold_map_inj {α β : Type} [BEq α] [LawfulBEq α] [BEq β] [LawfulBEq β] {g : α → β} {all : List α} (hg : ∀ a ∈ all, ∀ u ∈ all, g a = g u → a = u) : ∀ (l σ : List α), (∀ a ∈ l, a ∈ all) → (∀ a ∈ σ, a ∈ all) → (l.map g).foldl addNew (σ.map g) = (l.foldl addNew σ).map g
  | [], σ, _, _ => rfl
  | u :: l, σ, hl, hs => by
    have hu := hl u (.head _)
    have e : addNew (σ.map g) (g u) = (addNew σ u).map g := by
      unfold addNew
      rw [any_map_inj σ fun a ha => hg a (hs a ha) u hu]
      split
      · rfl
      · rw [List.map_append]; rfl
    rw [List.map_cons, List.foldl_cons, List.foldl_cons, e]
    refine fold_map_inj hg l _ (fun a ha => hl a (.tail _ ha)) fun a ha => ?_
    unfold addNew at ha
    split at ha
    · exact hs a ha
    · rcases List.mem_append.mp ha with ha | ha
      · exact hs a ha
      · rcases List.mem_singleton.mp ha with rfl
        exact hu
theorem nf_fold : ∀ marks : Bool, ((wordsL.map (nfOf marks)).foldl addNew []).length = 20 := by decide +kernel
theorem texts_20 (marks : Bool) (xs : List Nat) : (((runsD marks ((sgL xs).map (·.1)) 3).map fun p => S p.2).foldl addNew []).length = 20 := by
  have e : (runsD marks ((sgL xs).map (·.1)) 3).map (fun p => S p.2) = (wordsL.map (nfOf marks)).map fun n => S (n.told marks (sgL xs)) := by
    rw [← words_eq, ← runs_fst marks ((sgL xs).map (·.1)) 3, List.map_map, List.map_map]
    refine List.map_congr_left fun p hp => ?_
    show S p.2 = S ((nfOf marks p.1).told marks (sgL xs))
    rw [(runs_told marks xs hp).2]
  have z := fold_map_inj (g := fun n : NF => S (n.told marks (sgL xs))) (all := wordsL.map (nfOf marks)) ?_ (wordsL.map (nfOf marks)) [] (fun _ h => h) (fun _ h => by cases h)
  · rw [e]
    have z' : ((wordsL.map (nfOf marks)).map fun n => S (n.told marks (sgL xs))).foldl addNew [] = _ := z
    rw [z', List.length_map, nf_fold]
  · intro a ha u hu h
    obtain ⟨v1, h1, rfl⟩ := List.mem_map.mp ha
    obtain ⟨v2, h2, rfl⟩ := List.mem_map.mp hu
    exact told_apart xs marks h1 h2 (S_inj h)
end Mine
end
section
open PySem PySem.W PyProof.Rows PySem.Calls
set_option maxRecDepth 100000
set_option maxHeartbeats 3200000
namespace Mine
theorem add_any {K : Type} [DecidableEq K] [BEq K] [LawfulBEq K] (σ : List K) (v k : K) : (addNew σ v).any (· == k) = (σ.any (· == k) || decide (k = v)) := by
  unfold addNew
  by_cases e : k = v
  · subst e
    by_cases h : σ.any (· == k) = true
    · rw [if_pos h, h]; rfl
    · rw [if_neg h, List.any_append]; simp
  · have hb : (v == k) = false := beq_eq_false_iff_ne.mpr fun q => e q.symm
    split
    · rw [decide_eq_false e, Bool.or_false]
    · rw [List.any_append, List.any_cons, List.any_nil, hb, decide_eq_false e]; rfl
theorem add_len {K : Type} [BEq K] (σ : List K) (v : K) : (addNew σ v).length = if σ.any (· == v) = true then σ.length else σ.length + 1 := by
  unfold addNew; split <;> simp
theorem fold_len {K : Type} [BEq K] : ∀ (l σ : List K), (l.foldl addNew σ).length ≤ σ.length + l.length
  | [], σ => Nat.le_refl _
  | u :: l, σ => by
    have h := fold_len l (addNew σ u)
    have h2 := add_len σ u
    rw [List.foldl_cons, List.length_cons]
    split at h2 <;> omega
section
variable {prog : Program} {w : World} {A : Around} {R : Result → Shared → Prop} {I : Addr} {fp wr : List Addr} {G : Array GenState → Array GenState → Prop} {n : Nat} {P : Nat → Value → Prop} {St : Nat → Shared → Prop}
/-- the loop that fills a set, over texts -/
theorem set_turns (W : WalksS prog w A.in1 I fp wr G n P St) (D : Addr) (hD : D ∉ fp) (xs : List Str) (hn : xs.length = n) (hval : ∀ i v, P i v → ∃ x t, xs[i]? = some x ∧ v = .str x t) (hb : n + 1 < scanBound) :
    ∀ (k i : Nat) (s : Shared), i + k = n → St i s →
      s.heap.SetOf (strKind prog w) D (fun q => ((xs.take i).foldl addNew []).any (· == q)) ((xs.take i).foldl addNew []).length →
      (∀ s', Moved (D :: wr) G s s' → s'.heap.SetOf (strKind prog w) D (fun q => (xs.foldl addNew []).any (· == q)) (xs.foldl addNew []).length → R (.ok (.ret .none)) s') →
      codeAny (model prog w) A (.builtin "set.update.loop" ⟨[.ref D, .ref I], []⟩) R s := by
  have hDw : D ∉ wr := fun h => hD (W.sub _ h)
  have up : ∀ b ∈ wr, b ∈ D :: wr := fun b hb => List.mem_cons_of_mem _ hb
  intro k
  induction k with
  | zero =>
    intro i s hk hst hS hR
    obtain rfl : i = n := by omega
    rw [← hn, List.take_length] at hS
    refine codeAny_builtin F.entry_set_update_loop ?_
    rw [Around.under_plainId F.plain_set_update_loop _]
    show wpAny _ A.in1 (pyNext (.ref I) >>= _) _ _ s
    refine wpAny_bind (W.done s _ _ hst fun s' hm => ?_)
    show wpAny _ A.in1 (ret Value.none) _ _ s'
    obtain ⟨o, es, ep, t, ho, rest⟩ := hS
    exact wpAny_pure (hR s' (hm.mono up) ⟨o, es, ep, t, hm.heap D _ hDw ho, rest⟩)
  | succ k ih =>
    intro i s hk hst hS hR
    have hlt : i < n := by omega
    refine codeAny_builtin F.entry_set_update_loop ?_
    rw [Around.under_plainId F.plain_set_update_loop _]
    show wpAny _ A.in1 (pyNext (.ref I) >>= _) _ _ s
    refine wpAny_bind (W.item i s _ _ hlt hst fun v s' hP hst' hm => ?_)
    obtain ⟨x, t, hx, rfl⟩ := hval i v hP
    have hS' : s'.heap.SetOf (strKind prog w) D (fun q => ((xs.take i).foldl addNew []).any (· == q)) ((xs.take i).foldl addNew []).length := by
      obtain ⟨o, es, ep, tb, ho, rest⟩ := hS
      exact ⟨o, es, ep, tb, hm.heap D _ hDw ho, rest⟩
    have et : xs.take (i + 1) = xs.take i ++ [x] := take_snoc hx
    show wpAny _ A.in1 (holding [Value.str x t] (setAdd D (.str x t)) >>= _) _ _ s'
    refine wpAny_bind (wpAny_holding ?_)
    unfold setAdd
    refine wpAny_holding ?_
    refine wpAny_bind ((strKind prog w).pyHash (k := x) (strKind_is _ _ _ _) ?_)
    have hroom : ((xs.take i).foldl addNew []).length + 1 < scanBound := by
      have h1 := fold_len (xs.take i) []
      have h2 : (xs.take i).length ≤ i := List.length_take_le _ _
      have h3 : ([] : List Str).length = 0 := rfl
      omega
    refine wpAny_setAddHashed_of (knd := strKind prog w) (s := { s' with toks := s'.toks + 1 }) (strKind_is _ _ _ _) rfl hS' hroom fun h' hsb hS2 => ?_
    have hSi : h'.SetOf (strKind prog w) D (fun q => ((xs.take (i + 1)).foldl addNew []).any (· == q)) ((xs.take (i + 1)).foldl addNew []).length :=
      SetOf_congr hS2 (fun q => by rw [et, List.foldl_append, List.foldl_cons, List.foldl_nil, add_any]) (by rw [et, List.foldl_append, List.foldl_cons, List.foldl_nil, add_len])
    refine wpAny_pure ⟨plainId_quiet F.plain_set_update_loop _, ih (i + 1) _ (by omega) (W.frame _ s' _ _ hst' (Nat.le_succ _) fun b hb o e => ?_) hSi fun s'' hm'' hS'' => ?_⟩
    · rw [hsb.2 b (fun h : b = D => hD (by rw [← h]; exact hb))]; exact e
    · refine hR s'' (Moved.trans W.gtrans ((hm.mono up).then_heap (Nat.le_succ _) fun b o hb e => ?_) hm'') hS''
      rw [hsb.2 b (fun h : b = D => hb (by rw [h]; exact List.mem_cons_self))]; exact e
end
section
variable {prog : Program} {w : World} {A : Around} {E : Value → Shared → Prop} {s : Shared}
noncomputable abbrev emptySet (led : Bool) : Obj := { cls := .type "set", dict := none, data := .set #[] 0 (.fresh 0 0 led) }
local macro_rules | `(tactic| walk_at "own step") => `(tactic| first
  | with_reducible (first | refine wpAny_pure ?_ | refine wpAny_bind ?_ | refine wpAny_holding ?_ | refine wpAny_standAt ?_ | refine wpAny_point ?_ | refine wpAny_rule ?_ | refine wpAny_of_eq (by assumption) ?_ | refine wpAny_typeOf (by assumption) ?_ | refine wpAny_specialOf_val (by assumption) (by assumption) ?_ | refine wpAny_specialOf (by assumption) (by assumption) ?_ | refine wpAny_isInstance_val (by assumption) (by assumption) ?_ | refine wpAny_isInstance (by assumption) (by assumption) ?_ | refine wpAny_call ?_ | refine wpAny_runValue ?_)
  | wp_delta
  | wp_step)
theorem set_strs {l : Addr} {vs : List Value} {xs : List Str} {Q : Value → Shared → Prop} (hh : A.handled = none) (hl : s.heap.IsList l vs.toArray) (hi : StrsAre vs xs) (hb : xs.length ≤ 1000)
    (h : ∀ (h' : Heap) (tk : Nat), h'.SetOf (strKind prog w) s.heap.objs.size (fun q => (xs.foldl addNew []).any (· == q)) (xs.foldl addNew []).length →
      (∀ b o, s.heap.get? b = some o → h'.get? b = some o) → Q (.ref s.heap.objs.size) { s with heap := h', toks := tk }) :
    wpAny (model prog w) A (call (.type "set") [.ref l]) Q E s := by
  have hvx : vs.length = xs.length := StrsAre.length hi
  have hsz : vs.toArray.size = xs.length := by rw [List.size_toArray, hvx]
  obtain ⟨c, tl, hmro⟩ := F.called_set.mro
  have hmade := F.called_set.made
  have hsub := F.called_set.sub
  refine wpAny_call (codeAny_of_tree ?_)
  show wpAny _ _ (callAny (.type "set") _) _ _ _
  refine wpAny_pure ⟨Code.quiet_builtin _ (by decide +kernel), codeAny_builtin F.entry_type_call ?_⟩
  rw [Around.under_plain (weight_type_call_type "set" [.ref l] []) rfl]
  have h1 := F.called_set.notType
  have h2 := F.called_set.canCreate
  have hct := F.typeCall_set_1 (.ref l)
  repeat (first | with_reducible assumption | walk_at "own step" | assumption)
  refine codeAny_mono (code_set_new_1 (.ref l) (E := E) (Q₁ := fun obj s₁ => ∃ led : Bool, obj = .ref s.heap.objs.size ∧ s₁ = { s with heap := s.heap.push (emptySet led) }) fun led => ⟨led, rfl, rfl⟩) fun r s₁ hr => ?_
  cases r with
  | error e => exact hr
  | ok fl =>
    cases fl with
    | ret obj =>
      obtain ⟨led, rfl, rfl⟩ := hr
      have hS : (s.heap.push (emptySet led)).get? s.heap.objs.size = some (emptySet led) := Heap.get?_push_size _ rfl
      have hT : Shared.TypeIs { s with heap := s.heap.push (emptySet led) } (.ref s.heap.objs.size) "set" := ⟨_, hS, rfl⟩
      have hli := F.called_set.init.lookup
      have hbi := F.called_set.init.bind (.ref s.heap.objs.size)
      repeat (first | with_reducible assumption | walk_at "own step" | assumption)
      refine codeAny_mono (codeAny_call_builtin (R := wants (fun r s₂ => r = .none ∧ ∃ h' tk, s₂ = { s with heap := h', toks := tk } ∧
          h'.SetOf (strKind prog w) s.heap.objs.size (fun q => (xs.foldl addNew []).any (· == q)) (xs.foldl addNew []).length ∧
          (∀ b o, s.heap.get? b = some o → h'.get? b = some o)) E) F.called_set.init.plain F.entry_set_init (check_set_init_1 hT ?_)) fun r₂ s₂ hr₂ => ?_
      · have hl1 : (s.heap.push (emptySet led)).IsList l vs.toArray := hl.push _
        have hol := hl
        obtain ⟨ol, hol, hcl, nl, hdl⟩ := hol
        obtain ⟨ocls, odict, odata, oslots⟩ := ol
        dsimp only at hcl hdl
        subst hcl hdl
        have hol' : (s.heap.push (emptySet led)).get? l = some { cls := .type "list", dict := odict, data := .seq vs.toArray nl, slots := oslots } := Heap.get?_push_of_some _ hol
        have hsls := F.sub_list_set
        have hslf := F.sub_list_frozenset
        have hne : (Value.type "list" == Value.type "dict") = false := by decide
        unfold Builtin.«set.__init__» noKeywords Builtin.Frozenset.updateFrom
        generalize hPI : pyIter = PI
        repeat walk_at "own step"
        subst hPI
        refine wpAny_pyIter_list hl1 ?_
        refine wpAny_bind (wpAny_runValue ?_)
        have hlS : @LT.lt Nat _ l s.heap.objs.size := Heap.lt_size hol
        have hh3 : A.in1.in1.in1.handled = none := by simp [hh]
        have eI : (s.heap.push (emptySet led)).objs.size = s.heap.objs.size + 1 := Heap.size_push _ _
        have hneI : l ≠ (s.heap.push (emptySet led)).objs.size := by
          rw [eI]; exact Nat.ne_of_lt (Nat.lt_succ_of_lt hlS)
        have hD : s.heap.objs.size ∉ [(s.heap.push (emptySet led)).objs.size, l] := by
          rw [eI]; simp only [List.mem_cons, List.not_mem_nil, or_false, not_or]
          exact ⟨Nat.ne_of_lt (Nat.lt_succ_self _), Nat.ne_of_gt hlS⟩
        have hval : ∀ (i : Nat) (v : Value), vs.toArray[i]? = some v → ∃ x t, xs[i]? = some x ∧ v = .str x t := fun i v hv => by
          obtain ⟨y, t, e, hy⟩ := StrsAre.item hi i v (by simpa using hv)
          exact ⟨y, t, hy, e⟩
        refine set_turns ((Walks.list hh3 _ l hneI vs.toArray).toS) s.heap.objs.size hD xs hsz.symm hval (by rw [hsz]; unfold scanBound; omega) vs.toArray.size 0 _ (Nat.zero_add _)
          ⟨⟨_, Heap.get?_push_size _ rfl, rfl, rfl⟩, (hl1.push _)⟩ ?hS0 ?hR
        case hS0 =>
          have hget : ((s.heap.push (emptySet led)).push { cls := .type "list_iterator", data := .fields #[.ref l, .int 0 0] }).get? s.heap.objs.size = some (emptySet led) := Heap.get?_push_of_some _ hS
          exact SetOf_congr ((setObjOf_fresh (knd := strKind prog w) led).setOf hget (by unfold scanBound; omega)) (fun _ => rfl) rfl
        case hR =>
          intro s' hm hS'
          obtain ⟨h', g', d', tk', os'⟩ := s'
          obtain rfl : g' = s.gens := hm.gens
          obtain rfl : d' = s.drawn := hm.drawn
          obtain rfl : os' = s.os := hm.os
          show wpAny _ _ _ _ _ _
          refine wpAny_pure ?_
          show wpAny _ _ (ret Value.none) _ _ _
          refine wpAny_pure ⟨rfl, h', tk', rfl, hS', fun b o e => ?_⟩
          have hb := Heap.lt_size e
          have hb1 : b ≠ s.heap.objs.size := Nat.ne_of_lt hb
          have hb2 : b ≠ (s.heap.push (emptySet led)).objs.size := by
            rw [eI]; exact Nat.ne_of_lt (Nat.lt_succ_of_lt hb)
          exact hm.heap b o (by simp only [List.mem_cons, List.not_mem_nil, or_false, not_or]; exact ⟨hb1, hb2⟩) (Heap.get?_push_of_some _ (Heap.get?_push_of_some _ e))
      · cases r₂ with
        | error e => exact hr₂
        | ok fl₂ =>
          cases fl₂ with
          | ret r =>
            obtain ⟨rfl, h', tk, rfl, hS', hk'⟩ := hr₂
            repeat (first | with_reducible assumption | walk_at "own step" | assumption)
            exact h _ _ hS' hk'
          | _ => exact hr₂.elim
    | _ => exact hr.elim
theorem len_set {D : Addr} {S : Str → Bool} {n : Nat} {Q : Value → Shared → Prop} (hS : s.heap.SetOf (strKind prog w) D S n) (hn : n ≤ 1000) (h : ∀ t k, Q (.int (n : Int) t) { s with toks := k }) : wpAny (model prog w) A (call (.builtin "len") [.ref D]) Q E s := by
  obtain ⟨o, ho, hso⟩ := hS.objOf
  obtain ⟨hex, es, ep, t, hd, _, _, hsz, hf⟩ := hso
  subst hsz
  exact call_len_set ho hex hd hf (by omega) (h _ _)
end
end Mine
end
section
open PySem PySem.W PyProof.Rows PySem.Calls
set_option maxRecDepth 100000
set_option maxHeartbeats 1000000
namespace Mine
theorem fresh_news {h₀ h h' : Heap} {L : Addr} {m : Str → Option Value} {p : Addr × Obj} (F : Fr h₀ L h m) (hp : h'.get? p.1 = some p.2 ∧ h.get? p.1 = none) : h'.get? p.1 = some p.2 ∧ p.1 ≠ L ∧ h₀.get? p.1 = none := by
  refine ⟨hp.1, fun q => ?_, ?_⟩
  · obtain ⟨o, _, _, e, _⟩ := F.ns
    rw [q, e] at hp; cases hp.2
  · cases e : h₀.get? p.1 with
    | none => rfl
    | some o => rw [F.keep _ _ e] at hp; cases hp.2
theorem news_cons {h₀ h h' : Heap} {L : Addr} {m : Str → Option Value} {p : Addr × Obj} {news : List (Addr × Obj)} (F : Fr h₀ L h m) (N : News h₀ L h news) (k : ∀ b o, h.get? b = some o → h'.get? b = some o) (hp : h'.get? p.1 = some p.2 ∧ h.get? p.1 = none) : News h₀ L h' (p :: news) := by
  intro q hq
  rcases List.mem_cons.mp hq with rfl | hq
  · exact fresh_news F hp
  · exact (N.grown k) q hq
theorem news_own {h₀ h h' : Heap} {L : Addr} {m : Str → Option Value} {own news : List (Addr × Obj)} (F : Fr h₀ L h m) (N : News h₀ L h' news) (hp : ∀ p ∈ own, h'.get? p.1 = some p.2 ∧ h.get? p.1 = none) : News h₀ L h' (news ++ own) := by
  intro q hq
  rcases List.mem_append.mp hq with hq | hq
  · exact N q hq
  · exact fresh_news F (hp q hq)
theorem news_sub {h₀ h : Heap} {L : Addr} {a b : List (Addr × Obj)} (N : News h₀ L h a) (hs : ∀ p ∈ b, p ∈ a) : News h₀ L h b := fun p hp => N p (hs p hp)
/-- texts one by one -/
noncomputable def StrO (_ : Heap) (d : List Nat) (y : Value) : Prop := ∃ t, y = .str (S d) t
theorem StrO.strs {h : Heap} : ∀ {ds : List (List Nat)} {ys : List Value}, Paired (StrO h) ds ys → StrsAre ys (ds.map S)
  | _, _, .nil => .nil
  | _, _, .cons ⟨t, e⟩ r => by subst e; exact .cons _ _ (StrO.strs r)
noncomputable abbrev tupT (d : List Nat × List Nat) (u v : Tok) (n : Nat) : Obj := { cls := .type "tuple", data := .seq #[.str (S d.1) u, .str (S d.2) v] n }
noncomputable def PairT (h : Heap) (d : List Nat × List Nat) (y : Value) : Prop := ∃ p n u v, y = .ref p ∧ h.get? p = some (tupT d u v n)
noncomputable def PairTN (own : List (Addr × Obj)) (d : List Nat × List Nat) (y : Value) : Prop := ∃ p n u v, y = .ref p ∧ (p, tupT d u v n) ∈ own
noncomputable def PairTF (h₀ h : Heap) (d : List Nat × List Nat) (y : Value) : Prop := ∃ p n u v, y = .ref p ∧ h.get? p = some (tupT d u v n) ∧ h₀.get? p = none
theorem PairTF.tupK {h₀ : Heap} : ∀ h h' d y, TupK h h' → PairTF h₀ h d y → PairTF h₀ h' d y := fun h h' d y k ⟨p, n, u, v, e, o, f⟩ => ⟨p, n, u, v, e, k _ _ _ _ o rfl rfl, f⟩
theorem PairTN.mono {own own' : List (Addr × Obj)} (hs : ∀ p ∈ own, p ∈ own') : ∀ {ds : List (List Nat × List Nat)} {ys : List Value}, Paired (PairTN own) ds ys → Paired (PairTN own') ds ys :=
  fun h => CInv.step.paired_mono (fun _ _ ⟨p, n, u, v, e, m⟩ => ⟨p, n, u, v, e, hs _ m⟩) h
theorem PairN.mono {own own' : List (Addr × Obj)} (hs : ∀ p ∈ own, p ∈ own') : ∀ {ds : List (List Nat × Bool)} {ys : List Value}, Paired (PairN own) ds ys → Paired (PairN own') ds ys :=
  fun h => CInv.step.paired_mono (fun _ _ ⟨p, n, u, e, m⟩ => ⟨p, n, u, e, hs _ m⟩) h
theorem PairTF.own {h₀ h : Heap} : ∀ {ds : List (List Nat × List Nat)} {ys : List Value}, Paired (PairTF h₀ h) ds ys → ∃ own, Paired (PairTN own) ds ys ∧ ∀ p ∈ own, h.get? p.1 = some p.2 ∧ h₀.get? p.1 = none
  | _, _, .nil => ⟨[], .nil, fun p hp => by cases hp⟩
  | _, _, .cons ⟨p, n, u, v, e, o, f⟩ r => by
    obtain ⟨own, hP, hO⟩ := PairTF.own r
    refine ⟨(p, _) :: own, .cons ⟨p, n, u, v, e, .head _⟩ (PairTN.mono (fun q hq => .tail _ hq) hP), fun q hq => ?_⟩
    rcases List.mem_cons.mp hq with rfl | hq
    · exact ⟨o, f⟩
    · exact hO q hq
theorem Paired.append {α β : Type} {F : α → β → Prop} : ∀ {l : List α} {l' : List β} {k : List α} {k' : List β}, Paired F l l' → Paired F k k' → Paired F (l ++ k) (l' ++ k')
  | _, _, _, _, .nil, q => q
  | _, _, _, _, .cons x r, q => .cons x (Paired.append r q)
theorem PairN.pairO {h : Heap} {own : List (Addr × Obj)} (k : ∀ p ∈ own, h.get? p.1 = some p.2) {ds : List (List Nat × Bool)} {ys : List Value} (hP : Paired (PairN own) ds ys) : Paired (PairO h) ds ys :=
  CInv.step.paired_mono (fun _ _ ⟨p, n, u, e, m⟩ => ⟨p, n, u, e, k _ m⟩) hP
theorem sgL_len {xs : List Nat} (hx : xs.length = 4) : (sgL xs).length ≤ 300 := by
  have h1 : (signsL xs).length = (sgL xs).length := by rw [signsL_eq, List.length_map]
  have h2 := spread_len (xs.map pieceOf ++ tailL) (pieces_len xs)
  have h3 : (xs.map pieceOf ++ tailL).length = 9 := by rw [List.length_append, List.length_map, hx]; rfl
  rw [h3] at h2
  rw [← h1]
  unfold signsL
  omega
theorem sg_flat (sg : List (Nat × Bool)) : (sg.map fun p => [p.1]).flatten = sg.map (·.1) := by
  induction sg with
  | nil => rfl
  | cons a l ih => rw [List.map_cons, List.flatten_cons, ih]; rfl
theorem sg_get {sg : List (Nat × Bool)} {i : Nat} {d : List Nat} (h : (sg.map fun p => [p.1])[i]? = some d) : ∃ q, (sg.map fun p => ([p.1], p.2))[i]? = some (d, q) := by
  rw [List.getElem?_map] at h ⊢
  cases e : sg[i]? with
  | none => rw [e] at h; cases h
  | some p => rw [e] at h; cases h; exact ⟨p.2, rfl⟩
noncomputable def HOLD (p : Prop) : Prop := p
theorem hold {p : Prop} (h : HOLD p) : p := h
theorem unhold {p : Prop} (h : p) : HOLD p := h
noncomputable def Stop (_ : Nat) : Prop := True
theorem stop (n : Nat) : Stop n := trivial
end Mine
end
section
open PySem PySem.W PyProof.Rows PySem.Calls
set_option maxRecDepth 100000
set_option maxHeartbeats 1000000
namespace Mine
theorem news_ne {h₀ h : Heap} {L : Addr} {news : List (Addr × Obj)} {p q : Addr × Obj} (N : News h₀ L h news) (hp : p ∈ news) (hq : q ∈ news) (hne : p.2.data ≠ q.2.data) : p.1 ≠ q.1 := fun e => by
  have a := (N p hp).1
  rw [e, (N q hq).1] at a
  exact hne (congrArg Obj.data (Option.some.inj a)).symm
theorem PairTN.tf {h₀ h : Heap} {own : List (Addr × Obj)} (N : ∀ p ∈ own, h.get? p.1 = some p.2 ∧ h₀.get? p.1 = none) {ds : List (List Nat × List Nat)} {ys : List Value} (P : Paired (PairTN own) ds ys) : Paired (PairTF h₀ h) ds ys :=
  CInv.step.paired_mono (fun _ _ ⟨p, n, u, v, e, m⟩ => ⟨p, n, u, v, e, (N _ m).1, (N _ m).2⟩) P
theorem PairN.f {h₀ h : Heap} {own : List (Addr × Obj)} (N : ∀ p ∈ own, h.get? p.1 = some p.2 ∧ h₀.get? p.1 = none) {ds : List (List Nat × Bool)} {ys : List Value} (P : Paired (PairN own) ds ys) : Paired (PairF h₀ h) ds ys :=
  CInv.step.paired_mono (fun _ _ ⟨p, n, u, e, m⟩ => ⟨p, n, u, e, (N _ m).1, (N _ m).2⟩) P
theorem tf_k {h₀ h h' : Heap} (k : TupK h h') {ds : List (List Nat × List Nat)} {ys : List Value} (P : Paired (PairTF h₀ h) ds ys) : Paired (PairTF h₀ h') ds ys :=
  CInv.step.paired_mono (fun d y => PairTF.tupK _ _ d y k) P
theorem f_k {h₀ h h' : Heap} (k : TupK h h') {ds : List (List Nat × Bool)} {ys : List Value} (P : Paired (PairF h₀ h) ds ys) : Paired (PairF h₀ h') ds ys :=
  CInv.step.paired_mono (fun d y => PairF.tupK _ _ d y k) P
theorem stAnyT {prog : Program} {w : World} {A : Around} {E : Value → Shared → Prop} {s : Shared} {env : Env} {x : Str} {v : Value} {h₀ : Heap} {m : Str → Option Value} {news : List (Addr × Obj)} {Q : Unit → Shared → Prop} {L : Addr} (hL : env.locals = L) (hl : env.kindOf x = some .local) (hp : (env.scope.kind == .class || (env.scope.kind == .module && env.locals != env.globals)) = false) (F : Fr h₀ L s.heap m) (N : News h₀ L s.heap news)
    (h : ∀ h', Fr h₀ L h' (fun y => if y = x then some v else m y) → News h₀ L h' news → TupK s.heap h' → Q () { s with heap := h', toks := s.toks + 1 }) : wpAny (model prog w) A (storeName env x v) Q E s := by
  subst hL
  refine wpAny_storeName_local hl F.ns (fun h₂ hn₂ hs₂ => ?_) hp
  have hL₀ : h₀.get? env.locals = none := Heap.get?_none_of_le F.above
  refine h h₂ ⟨hn₂, fun b o e => hs₂.extBut b o (fun q => by rw [q, hL₀] at e; cases e) (F.keep b o e), F.above⟩ (fun p hp => ⟨hs₂.extBut _ _ (N p hp).2.1 (N p hp).1, (N p hp).2⟩) (TupK.ns F.ns hs₂)
noncomputable abbrev rngIt (i n : Nat) : Obj := { cls := .type "range_iterator", data := .fields #[rawInt (0 + (i : Nat) * 1), rawInt ((n : Int) - (i : Nat)), rawInt 1] }
noncomputable def LevI (s₁ : Shared) (L It Sg Mk : Addr) (ys : List Value) (oM : Obj) (marks : Bool) (xs : List Nat) (k : Nat) (s' : Shared) : Prop :=
  ∃ i h tk gs m' Lv lv n Rn rv n', s' = { s₁ with heap := h, toks := tk, gens := gs } ∧ 0 < tk ∧ (∀ x ∈ gs, GenState.bare x = true) ∧ k = 3 + 1 - i ∧ i ≤ 3 ∧ Fr s₁.heap L h m' ∧ m' "runs" = some (.ref Rn) ∧ m' "level" = some (.ref Lv) ∧ m' "signs" = some (.ref Sg) ∧
    News s₁.heap L h [(It, rngIt i 3), (Rn, W.listOf rv.toArray n'), (Lv, W.listOf lv.toArray n), (Sg, LCg.lst ys), (Mk, oM)] ∧
    Paired (PairTF s₁.heap h) (levelD marks ((sgL xs).map (·.1)) i) lv ∧ Paired (PairTF s₁.heap h) (runsD marks ((sgL xs).map (·.1)) i) rv ∧ Paired (PairF s₁.heap h) (signsL xs) ys ∧ Rn ≠ Sg
theorem runs_len (marks : Bool) (t0 : List Nat) : ∀ k, k ≤ 3 → (runsD marks t0 k).length ≤ 40
  | 0, _ => by show 1 ≤ 40; decide
  | k + 1, h => by
    have e := runs_fst marks t0 (k + 1)
    have : (runsD marks t0 (k + 1)).length = (wr (k + 1)).length := by rw [← e, List.length_map]
    rw [this]
    match k, h with
    | 0, _ => decide
    | 1, _ => decide
    | 2, _ => decide
theorem PairTF.own2 {h₀ h : Heap} : ∀ {ds : List (List Nat × List Nat)} {ys : List Value}, Paired (PairTF h₀ h) ds ys → ∃ own, Paired (PairTN own) ds ys ∧ ∀ p ∈ own, h.get? p.1 = some p.2 ∧ h₀.get? p.1 = none ∧ ∃ its n, p.2.data = .seq its n
  | _, _, .nil => ⟨[], .nil, fun p hp => by cases hp⟩
  | _, _, .cons ⟨p, n, u, v, e, o, f⟩ r => by
    obtain ⟨own, hP, hO⟩ := PairTF.own2 r
    refine ⟨(p, _) :: own, .cons ⟨p, n, u, v, e, .head _⟩ (PairTN.mono (fun q hq => .tail _ hq) hP), fun q hq => ?_⟩
    rcases List.mem_cons.mp hq with rfl | hq
    · exact ⟨o, f, _, _, rfl⟩
    · exact hO q hq
theorem PairF.own2 {h₀ h : Heap} : ∀ {ds : List (List Nat × Bool)} {ys : List Value}, Paired (PairF h₀ h) ds ys → ∃ own, Paired (PairN own) ds ys ∧ ∀ p ∈ own, h.get? p.1 = some p.2 ∧ h₀.get? p.1 = none ∧ ∃ its n, p.2.data = .seq its n
  | _, _, .nil => ⟨[], .nil, fun p hp => by cases hp⟩
  | _, _, .cons ⟨p, n, u, e, o, f⟩ r => by
    obtain ⟨own, hP, hO⟩ := PairF.own2 r
    refine ⟨(p, _) :: own, .cons ⟨p, n, u, e, .head _⟩ (PairN.mono (fun q hq => .tail _ hq) hP), fun q hq => ?_⟩
    rcases List.mem_cons.mp hq with rfl | hq
    · exact ⟨o, f, _, _, rfl⟩
    · exact hO q hq
theorem seq_ne {h₀ h : Heap} {L p : Addr} {m : Str → Option Value} {o : Obj} {its : Array Value} {n : Nat} (F : Fr h₀ L h m) (e : h.get? p = some o) (d : o.data = .seq its n) : p ≠ L := fun q => by
  obtain ⟨o', es, ep, e', hd, _⟩ := F.ns
  rw [q, e'] at e
  cases e
  rw [hd] at d; cases d
theorem own_news {h₀ h : Heap} {L : Addr} {m : Str → Option Value} {own news : List (Addr × Obj)} (F : Fr h₀ L h m) (N : News h₀ L h news) (hO : ∀ p ∈ own, h.get? p.1 = some p.2 ∧ h₀.get? p.1 = none ∧ ∃ its n, p.2.data = .seq its n) : News h₀ L h (news ++ own) := by
  intro p hp
  rcases List.mem_append.mp hp with hp | hp
  · exact N p hp
  · obtain ⟨a, b, its, n, d⟩ := hO p hp
    exact ⟨a, seq_ne F a d, b⟩
end Mine
end
section
open PySem PySem.W PyProof.Rows PySem.Calls
set_option maxRecDepth 100000
set_option maxHeartbeats 1000000
namespace Mine
theorem stored_none {K : Type} [DecidableEq K] {kvs : List (K × Value)} {k : K} {v : Value} (h : valueAt kvs k = none) : stored kvs k v = kvs ++ [(k, v)] := by
  have e := valueAt_isSome_eq_any kvs k
  rw [h] at e
  unfold stored
  rw [← e]; rfl
theorem value_snoc {K : Type} [DecidableEq K] {kvs : List (K × Value)} {k q : K} {v : Value} (h : valueAt kvs k = none) : valueAt (kvs ++ [(k, v)]) q = if q = k then some v else valueAt kvs q := by
  unfold valueAt at h ⊢
  rw [List.find?_append]
  by_cases e : q = k
  · subst e
    rw [if_pos rfl]
    cases hf : kvs.find? (fun kv => decide (kv.1 = q)) with
    | some x => rw [hf] at h; cases h
    | none => simp [List.find?]
  · rw [if_neg e]
    have e2 : ¬ k = q := fun z => e z.symm
    cases hf : kvs.find? (fun kv => decide (kv.1 = q)) with
    | some x => rfl
    | none => simp [List.find?, e2]
noncomputable def dueX (marks : Bool) (sg : List (Nat × Bool)) (x : Str) : List Nat := toldX (tR x) marks (tA x).toNat (Txt.count x (Str.ofString "s") - tA x).toNat (Txt.count x (Str.ofString "w")).toNat sg
theorem words_short : ∀ v ∈ wordsL, v.length ≤ 3 := by decide
/-- what _law_told is asked, of the normal run of a word of hands -/
theorem normal_facts (marks : Bool) {v : List Nat} (hv : v ∈ wordsL) : ∃ a b wr : Nat, tA (normalL (S v) marks) = (a : Int) ∧ Txt.count (normalL (S v) marks) (Str.ofString "s") - a = (b : Int) ∧ Txt.count (normalL (S v) marks) (Str.ofString "w") = (wr : Int) ∧ (normalL (S v) marks).length ≤ 10 ∧ a ≤ 10 ∧ b ≤ 10 ∧ wr ≤ 10 ∧
    ∀ sg, toldX (tR (normalL (S v) marks)) marks a b wr sg = (nfOf marks v).told marks sg := by
  obtain ⟨h1, h2, h3, h4, h5, h6, h7, h8⟩ := normal_nf marks v hv
  refine ⟨_, _, _, h2, h3, h4, h5, h6, h7, h8, fun sg => ?_⟩
  rw [toldX_eq]
  have e : tR (normalL (S v) marks) = (nfOf marks v).rr := h1
  rw [e]; rfl
theorem due_told {marks : Bool} {x : Str} {a b wr : Nat} {sg : List (Nat × Bool)} (ha : tA x = (a : Int)) (hb : Txt.count x (Str.ofString "s") - a = (b : Int)) (hw : Txt.count x (Str.ofString "w") = (wr : Int)) : dueX marks sg x = toldX (tR x) marks a b wr sg := by
  unfold dueX
  rw [ha, hb, hw]; rfl
theorem due_set {prog : Program} {w : World} {A : Around} {E : Value → Shared → Prop} {s : Shared} {h₀ : Heap} {L d : Addr} {m : Str → Option Value} {rest : List (Addr × Obj)} {o : Obj} {p₀ : Addr × Obj} {kvs : List (Str × Value)} {k : Str} {u : Tok} {v : Value} {Q : Unit → Shared → Prop} (F : Fr h₀ L s.heap m) (N : News h₀ L s.heap (p₀ :: (d, o) :: rest)) (hne : p₀.1 ≠ d) (hr : ∀ p ∈ rest, p.1 ≠ d)
    (hd : o.IsDictOf (PySem.strKind prog w) kvs) (hsz : kvs.length ≤ 1000)
    (h : ∀ h' o', Fr h₀ L h' m → News h₀ L h' (p₀ :: (d, o') :: rest) → o'.IsDictOf (PySem.strKind prog w) (stored kvs k v) → Q () { s with heap := h', toks := s.toks + 1 }) : wpAny (model prog w) A (setItem (.ref d) (.str k u) v) Q E s := by
  have hm := N (d, o) (.tail _ (.head _))
  refine wpAny_setItem_pairs (knd := PySem.strKind prog w) (hsz := sizeLine_of (by omega)) (strKind_is _ _ _ _) (Heap.dictOf_iff.mpr ⟨o, hm.1, hd⟩) fun h' hmm hs => ?_
  obtain ⟨o', ho', hd'⟩ := Heap.dictOf_iff.mp hmm
  refine h h' o' (F.change hs hm.2.1 hm.2.2) (fun p hp => ?_) hd'
  rcases List.mem_cons.mp hp with rfl | hp
  · exact ⟨hs.extBut _ _ hne (N _ (.head _)).1, (N _ (.head _)).2⟩
  rcases List.mem_cons.mp hp with rfl | hp
  · exact ⟨ho', hm.2⟩
  · exact ⟨hs.extBut _ _ (hr p hp) (N p (.tail _ (.tail _ hp))).1, (N p (.tail _ (.tail _ hp))).2⟩
theorem allLt_mem {d : Addr} (l : List (Addr × Obj)) (h : AllLt d l) : ∀ p ∈ l, @LT.lt Nat _ p.1 d := by
  induction l with
  | nil => intro p hp; cases hp
  | cons a r ih =>
    obtain ⟨h1, h2⟩ := h
    intro p hp
    rcases List.mem_cons.mp hp with hp | hp
    · rw [hp]; exact h1
    · exact ih h2 p hp
noncomputable def DueI (prog : Program) (w : World) (s₁ : Shared) (L It Du Rn Sg Mk : Addr) (ys rv : List Value) (n8 : Nat) (oM : Obj) (own : List (Addr × Obj)) (marks : Bool) (xs : List Nat) (k : Nat) (s' : Shared) : Prop :=
  ∃ i h tk gs m' oD oI kvs, s' = { s₁ with heap := h, toks := tk, gens := gs } ∧ 0 < tk ∧ (∀ x ∈ gs, GenState.bare x = true) ∧ k = rv.length + 1 - i ∧ i ≤ rv.length ∧ Fr s₁.heap L h m' ∧ m' "due" = some (.ref Du) ∧ m' "signs" = some (.ref Sg) ∧
    News s₁.heap L h ((It, oI) :: (Du, oD) :: (Rn, W.listOf rv.toArray n8) :: (Sg, LCg.lst ys) :: (Mk, oM) :: own) ∧ (oI.cls = .type "list_iterator" ∧ oI.data = .fields #[.ref Rn, .int i 0]) ∧
    oD.IsDictOf (PySem.strKind prog w) kvs ∧ kvs.length ≤ i ∧ ∀ q v, valueAt kvs q = some v → ∃ t, v = .str (S (dueX marks (sgL xs) q)) t
end Mine
end
theorem Mine.forgetLawD : True := by
  w_top off
  have h : True ∧ True := by
    try walk1
    all_goals (first | trivial | exact ⟨trivial, trivial⟩)
  exact h.1
section
open PySem PySem.W PyProof.Rows PySem.Calls
set_option maxRecDepth 100000
set_option maxHeartbeats 8000000
namespace Mine
local macro_rules | `(tactic| walk_at "eval ListComp") => `(tactic| ((with_reducible rename Stop 2 => hstop); clear hstop; refine hold ?_))
local macro_rules | `(tactic| walk_at "pyIter ref") => `(tactic| ((with_reducible rename Stop 2 => hstop); clear hstop; refine hold ?_))
local macro_rules | `(tactic| walk_at "call ref") => `(tactic| ((with_reducible rename Stop 5 => hstop); clear hstop; refine hold ?_))
local macro_rules | `(tactic| walk_at "call type:set") => `(tactic| ((with_reducible rename Stop 7 => hstop); clear hstop; refine hold ?_))
local macro_rules | `(tactic| walk_at "call builtin:len") => `(tactic| ((with_reducible rename Stop 8 => hstop); clear hstop; refine hold ?_))
local macro_rules | `(tactic| walk_at "compareOp NotIn str ref") => `(tactic| ((with_reducible rename Stop 9 => hstop); clear hstop; refine hold ?_))
local macro_rules | `(tactic| walk_at "setItem ref str") => `(tactic| ((with_reducible rename Stop 10 => hstop); clear hstop; refine hold ?_))
local macro_rules | `(tactic| walk_at "subscriptTail Name Name ref str") => `(tactic| ((with_reducible rename Stop 11 => hstop); clear hstop; refine hold ?_))
local macro_rules | `(tactic| walk_at "execs cons") => `(tactic| ((with_reducible rename Stop 12 => hstop); clear hstop; refine hold ?_))
local macro_rules | `(tactic| walk_at "call builtin:list.extend") => `(tactic| ((with_reducible rename Stop 6 => hstop); clear hstop; refine hold ?_))
local macro_rules | `(tactic| walk_at "call builtin:str.join") => `(tactic| (refine join_Sl (News.isList (by assumption) (.head _)) (by assumption) (by assumption) ?_; intro _ _))
local macro_rules | `(tactic| walk_at "own lk") => `(tactic| ((try dsimp only); repeat (first | rfl | rw [if_pos rfl] | rw [if_neg (by decide)])))
theorem law_x : PySem.Challenge.rw_tr0013_01.Holds := hd (by
  k_fill
  intro w s₀ s₁ mg mb G Y fa o pm cd doc dV kV ho hdat hcd hD hmg hg args vals as hpre hlay hrd hwl hlo
  have KX := kIn_of Y
  have X := (Ground.X G).1
  have V := (Ground.X G).2
  try w_nolog (have GL := glob_more (Ground.glob G (by decide +kernel) (by decide +kernel)) V)
  refine Ground.open G ?_
  intro T B D TE TW
  try (refine guard_noD D (by decide +kernel) ?_; clear D)
  obtain ⟨_, _, M⟩ := bmod_of_top T
  have TA := at_of_top T
  try (obtain ⟨_, _, he, B0⟩ := based_of_top T rfl hmg ho hdat; have he' : cd = _ := he; subst he'; clear he)
  clear hmg
  wrow_args hpre hlay hrd hwl hlo
  refine enter_call ?_
  w_top on
  have K0 := below_caller (Top.heap T)
  w_call any ho hdat hcd hD T F
  clear hdat TA
  k_drop
  (all_goals try k_fold)
  repeat (with_reducible rename (kHook _ _ _).says _ _ => Y; clear Y)
  try dsimp only at *
  rename_i a12 a11 a10 a9 xs0 hs hlay hL1 hr1 hl2 a7 a6 Ds vs0 a3 hL ra w1 r0 hI hr hc1 hc2 h₁ tk₁ oM oO oS cM cO cS N0 X0
  have hQK : ∀ h tk gs, (∀ b o, s₁.heap.get? b = some o → h.get? b = some o) → (∀ x ∈ gs, GenState.bare x = true) → qk (.ret (.bool true)) { s₁ with heap := h, toks := tk, gens := gs } := by
    intro h tk gs hk hb
    exact ⟨.inl ⟨_, _, [], rfl, fun _ => rfl, ReadsW.bool true, by first | rfl | wrow_post, fun _ => ⟨List.nodup_nil, fun _ hm => (nomatch hm)⟩⟩, .of_keep hk, rfl, hb⟩
  replace cM : oM.data = .cell none := cM
  replace cO : oO.data = .cell none := cO
  replace cS : oS.data = .cell (some (.ref Ds)) := cS
  clear_value qk ek
  replace F : Fr s₁.heap s₁.heap.objs.size h₁ (fun _ => none) := F
  clear X0 hD
  generalize hL0 : s₁.heap.objs.size = L at *
  refine execs_mid (fun s' => ∃ h tk lo oO2 t1 t2 t3 t4, s' = { s₁ with heap := h, toks := tk } ∧ 0 < tk ∧ Fr s₁.heap L h (fun _ => none) ∧ News s₁.heap L h [(lo, W.listOf #[.int 17 t1, .int 5 t2, .int 28 t3, .int 4 t4] 0), (L + 1 + 1 + 1, oM), (L + 1 + 1, oO2), (L + 1, oS)] ∧ oO2.data = .cell (some (.ref lo))) ?_ ?_
  · refine post_gen _ (fun s h => ⟨rfl, h⟩) fun POST hPOST => ?_
    k_steps
    rename Fr _ _ _ _ => F'
    rename News _ _ _ _ => N'
    exact hPOST _ ⟨_, _, _, _, _, _, _, _, rfl, Nat.succ_pos _, F', N', by assumption⟩
  · rintro s' ⟨h2, tk2, lo, oO2, u1, u2, u3, u4, rfl, ht2, F2, N2, dO⟩
    clear F N0 cO
    refine execs_mid (fun s' => ∃ h tk D ys, s' = { s₁ with heap := h, toks := tk } ∧ 0 < tk ∧ Fr s₁.heap L h (fun y => if y = "draws" then some (.ref D) else none) ∧ News s₁.heap L h [(D, LCg.lst ys), (L + 1 + 1 + 1, oM)] ∧ IntsAre ys ((rangeKs 0 ((4 : Int) - 0).toNat).map (drawF xs0))) ?_ ?_
    · refine wpAny_with_toks (n := 1) ht2 ?_
      refine post_gen (fun s => 1 ≤ s.toks → _) (fun s h p => ⟨rfl, h p⟩) fun POST hPOST => ?_
      k_steps
      rename IntsAre _ (List.map _ (rangeKs 0 _)) => hvi
      rename Fr _ _ _ _ => F'
      rename News _ _ _ _ => N'
      refine hPOST _ fun hp => ⟨_, _, _, _, rfl, hp, F', fun p hp => ?_, hvi⟩
      rcases List.mem_cons.mp hp with rfl | hp
      · exact N' _ (.head _)
      · rcases List.mem_singleton.mp hp with rfl
        exact N' _ (.tail _ (.tail _ (.head _)))
    · rintro s' ⟨h3, tk3, D, vd, rfl, ht3, F3, N3, hvi⟩
      clear F2 N2 dO cS
      refine execs_mid (fun s' => ∃ h tk oM marks, s' = { s₁ with heap := h, toks := tk } ∧ 0 < tk ∧ Fr s₁.heap L h (fun y => if y = "draws" then some (.ref D) else none) ∧ News s₁.heap L h [(D, LCg.lst vd), (L + 1 + 1 + 1, oM)] ∧ oM.data = .cell (some (.bool marks))) ?_ ?_
      · refine wpAny_with_toks (n := 1) ht3 ?_
        refine post_gen (fun s => 1 ≤ s.toks → _) (fun s h p => ⟨rfl, h p⟩) fun POST hPOST => ?_
        k_steps
        rename Fr _ _ _ _ => F'
        rename News _ _ _ _ => N'
        exact hPOST _ fun hp => ⟨_, _, _, _, rfl, hp, F', N', by assumption⟩
      · rintro s' ⟨h4, tk4, oM2, marks, rfl, ht4, F4, N4, dM⟩
        clear F3 N3 cM
        obtain ⟨xs, hxs, hvx, hv, hb⟩ := draws_nat rfl hvi
        clear hvi
        refine execs_mid (fun s' => ∃ h tk gs Sg ys own, s' = { s₁ with heap := h, toks := tk, gens := gs } ∧ 0 < tk ∧ (∀ x ∈ gs, GenState.bare x = true) ∧ Fr s₁.heap L h (fun y => if y = "signs" then some (.ref Sg) else if y = "draws" then some (.ref D) else none) ∧ News s₁.heap L h ((Sg, LCg.lst ys) :: (L + 1 + 1 + 1, oM2) :: own) ∧ Paired (PairN own) (signsL xs) ys) ?_ ?_
        · refine wpAny_with_toks (n := 1) ht4 ?_
          refine post_gen (fun s => 1 ≤ s.toks → _) (fun s h p => ⟨rfl, h p⟩) fun POST hPOST => ?_
          have hst := stop 5
          k_steps
          refine unhold ?_
          refine signs_call (KX.keeps F4.keep) (T.keeps F4.keep) rfl (Nat.le_of_ble_eq_true (by with_unfolding_all rfl)) (by omega) (by simpa using News.isList N4 (.head _)) hxs hvx hv hb fun Sg h5 tk5 gs ys own hk5 hp5 hg5 hS hSn hP hown => ?_
          have F5 := F4.keeps hk5
          have N5 : News s₁.heap L h5 ((Sg, LCg.lst ys) :: (L + 1 + 1 + 1, oM2) :: own) := by
            intro p hp
            rcases List.mem_cons.mp hp with rfl | hp
            · exact fresh_news F4 ⟨hS, hSn⟩
            rcases List.mem_cons.mp hp with rfl | hp
            · exact ⟨hk5 _ _ (N4 _ (.tail _ (.head _))).1, (N4 _ (.tail _ (.head _))).2⟩
            · exact fresh_news F4 (hown p hp)
          have hbare : ∀ x ∈ gs, GenState.bare x = true := hg5 (by dsimp only; rw [hg]; intro x hx; simp at hx)
          clear F4 N4
          k_steps
          rename Fr _ _ _ _ => F'
          rename News _ _ _ _ => N'
          exact hPOST _ fun hp => ⟨_, _, _, _, _, _, rfl, hp, hbare, F', N', hP⟩
        · rintro s' ⟨h5, tk5, gs, Sg, ys, own, rfl, ht5, hbare, F5, N5, hP⟩
          clear F4 N4
          have hsl := sgL_len hxs
          have hyl : ys.length = (sgL xs).length := by rw [← hP.length, signsL_eq, List.length_map]
          refine execs_mid (fun s' => ∃ h tk gs Lv lv n own', s' = { s₁ with heap := h, toks := tk, gens := gs } ∧ 0 < tk ∧ (∀ x ∈ gs, GenState.bare x = true) ∧ Fr s₁.heap L h (fun y => if y = "level" then some (.ref Lv) else if y = "signs" then some (.ref Sg) else if y = "draws" then some (.ref D) else none) ∧ News s₁.heap L h ((Lv, W.listOf lv.toArray n) :: (Sg, LCg.lst ys) :: (L + 1 + 1 + 1, oM2) :: own') ∧ Paired (PairTN own') (levelD marks ((sgL xs).map (·.1)) 0) lv ∧ Paired (PairN own') (signsL xs) ys) ?_ ?_
          · refine wpAny_with_toks (n := 1) ht5 ?_
            refine post_gen (fun s => 1 ≤ s.toks → _) (fun s h p => ⟨rfl, h p⟩) fun POST hPOST => ?_
            have hst := stop 2
            k_steps
            refine unhold ?_
            rw [eval_ListComp]
            refine wpAny_comprehension_free (use := none) rfl (fun _ => rfl) (cl := []) (by with_unfolding_all rfl) rfl (by decide) ?_
            refine ld_local rfl rfl F5.ns (by walk_at "own lk") ?_
            refine comp_pairs (nt := 0) (O := StrO) (vs := ys) (ds := (sgL xs).map fun p => [p.1]) (fun _ _ _ _ _ z => z) rfl (by simpa using News.isList N5 (.head _)) (by rw [List.length_map, hyl]) (by omega) (Nat.zero_le _) (by decide) rfl (by rfl) (by rfl) (by decide) ?_ ?_
            · intro i v d hvi hdl
              obtain ⟨q, hq⟩ := sg_get hdl
              rw [← signsL_eq] at hq
              obtain ⟨p, n', u', rfl, hm⟩ := Paired.get hP hq hvi
              refine ⟨p, .str (S d) u', .bool q, rfl, ⟨_, (N5 _ (.tail _ (.tail _ hm))).1, rfl, n', rfl⟩, ?_⟩
              intro s' m'' E' g hn hm1 hm2
              exact ld_local rfl rfl hn hm1 ⟨Grow.refl (Nat.zero_le _), u', rfl⟩
            · intro s' js m'' hinv hn
              refine ⟨m'', hn, fun h' hs' => ?_⟩
              obtain ⟨hg', hl', _, hP'⟩ := hinv
              obtain ⟨hh', tk', gs', rfl, hk', _, hg''⟩ := hg'
              dsimp only at hl' hn hP' hs' hk' hg'' ⊢
              have k7 : ∀ b o, h5.get? b = some o → h'.get? b = some o := fun b o e => hs'.extBut b o (Nat.ne_of_lt (Nat.lt_add_right 2 (Heap.lt_size e))) (hk' b o e)
              have hbare' := hg'' hbare
              have F6 := F5.keeps k7
              have N6 : News s₁.heap L h' ((h5.objs.size + 1, LCg.lst js) :: (Sg, LCg.lst ys) :: (L + 1 + 1 + 1, oM2) :: own) := news_cons F5 N5 k7 ⟨hs'.extBut _ _ (Nat.ne_of_lt (Nat.lt_succ_self _)) hl', Heap.get?_none_of_le (Nat.le_succ _)⟩
              have hstr : StrsAre js.toArray.toList (((sgL xs).map fun p => [p.1]).map S) := StrO.strs hP'
              have hfl : ((sgL xs).map fun p => [p.1]).flatten.length ≤ 50000 := by rw [sg_flat, List.length_map]; omega
              clear F5 N5 hn hs' hl' hP' hk' hg'' k7
              k_steps
              rename Fr _ _ _ _ => F'
              rename News _ _ _ _ => N'
              rename_i t1 k1 T hx1 l1 Lv hx2 l2 hx3
              rw [sg_flat, show Str.ofString "" = S [] from by decide +kernel] at N'
              refine hPOST _ fun hp => ⟨_, _, gs', Lv, [.ref T], 0, (T, tupT ([], (sgL xs).map (·.1)) tk5 t1 0) :: own, rfl, hp, hbare', F', news_sub N' fun p hp => ?_, .cons ⟨T, 0, _, _, rfl, .head _⟩ .nil, PairN.mono (fun p hp => .tail _ hp) hP⟩
              simp only [List.mem_cons] at hp
              rcases hp with rfl | rfl | rfl | rfl | hp
              · exact .head _
              · exact .tail _ (.tail _ (.tail _ (.head _)))
              · exact .tail _ (.tail _ (.tail _ (.tail _ (.head _))))
              · exact .tail _ (.head _)
              · exact .tail _ (.tail _ (.tail _ (.tail _ (.tail _ hp))))
          · rintro s' ⟨h6, tk6, gs6, Lv0, lv0, n0, own6, rfl, ht6, hbare6, F6, N6, hP6, hPs6⟩
            clear F5 N5 hbare hP
            refine execs_mid (fun s' => ∃ h tk Rn n', s' = { s₁ with heap := h, toks := tk, gens := gs6 } ∧ 0 < tk ∧ Fr s₁.heap L h (fun y => if y = "runs" then some (.ref Rn) else if y = "level" then some (.ref Lv0) else if y = "signs" then some (.ref Sg) else if y = "draws" then some (.ref D) else none) ∧ News s₁.heap L h ((Rn, W.listOf lv0.toArray n') :: (Lv0, W.listOf lv0.toArray n0) :: (Sg, LCg.lst ys) :: (L + 1 + 1 + 1, oM2) :: own6) ∧ Rn ≠ Sg) ?_ ?_
            · refine wpAny_with_toks (n := 1) ht6 ?_
              refine post_gen (fun s => 1 ≤ s.toks → _) (fun s h p => ⟨rfl, h p⟩) fun POST hPOST => ?_
              have hl0 : lv0.length = 1 := hP6.length.symm
              k_steps
              rename Fr _ _ _ _ => G6
              rename News _ _ _ _ => M6
              rename _ < _ ∧ _ < _ ∧ _ < _ ∧ AllLt _ _ => l1
              exact hPOST _ fun hp => ⟨_, _, _, _, rfl, hp, G6, M6, (Nat.ne_of_lt l1.2.1).symm⟩
            · rintro s' ⟨h7, tk7, Rn, n7, rfl, ht7, F7, N7, hRS7⟩
              clear F6 N6
              refine execs_mid (fun s' => ∃ h tk gs m' Rn rv n', s' = { s₁ with heap := h, toks := tk, gens := gs } ∧ 0 < tk ∧ (∀ x ∈ gs, GenState.bare x = true) ∧ Fr s₁.heap L h m' ∧ m' "runs" = some (.ref Rn) ∧ m' "signs" = some (.ref Sg) ∧ News s₁.heap L h [(Rn, W.listOf rv.toArray n'), (Sg, LCg.lst ys), (L + 1 + 1 + 1, oM2)] ∧ Paired (PairTF s₁.heap h) (runsD marks ((sgL xs).map (·.1)) 3) rv ∧ Paired (PairF s₁.heap h) (signsL xs) ys) ?_ ?_
              · refine wpAny_with_toks (n := 1) ht7 ?_
                refine post_gen (fun s => 1 ≤ s.toks → _) (fun s h p => ⟨rfl, h p⟩) fun POST hPOST => ?_
                refine wpAny_For ?_
                show wpAny _ _ (eval (.Call _ _ _ _) _) _ _ _
                refine wpAny_with_toks (n := 1) ht7 ?_
                have hst := stop 2
                k_steps
                refine unhold ?_
                rename IsRange _ _ _ _ _ _ _ _ => hri
                rename _ ≤ Shared.toks _ => hpos
                rename News _ _ _ _ => N8
                rename Fr _ _ _ _ => F8
                refine wpAny_pyIter_range hri (range_small (n := 3) (by decide)) ?_
                rw [show Builtin.Range.rangeSize 0 3 1 = ((3 : Nat) : Int) from range_size 3]
                refine push_setup (P := fun It h' => codeAny _ _ (.forLoop _ (.ref It) _ _ _) _ { s₁ with heap := h', toks := _, gens := gs6 }) { cls := .type "range_iterator", data := .fields #[rawInt 0, rawInt ((3 : Nat) : Int), rawInt 1] } rfl F8 N8 fun It h9 F9 N9 hLIt hIt0 hdI => ?_
                clear F8 N8 hri
                refine codeAny_forLoop_any (LevI s₁ L It Sg (L + 1 + 1 + 1) ys oM2 marks xs) ?_ (3 + 1) ?_
                · rintro k s' ⟨i, h, tk, gs, m', Lv, lv, n, Rn, rv, n', rfl, htk, hbare, rfl, hi, F, q1, q2, q3, N, hPl, hPr, hPs, hRS⟩
                  have hit : IsRangeIter h It (0 + (i : Nat) * 1) (((3 : Nat) : Int) - (i : Nat)) 1 := (N _ (.head _)).1
                  by_cases hlt : i < 3
                  · refine wpAny_with_toks (n := 1) htk ((LCg.range_walks (I := It) rfl 0 3).item i { s₁ with heap := h, toks := tk, gens := gs } _ _ hlt hit fun v h10 tk10 hPv hst10 hk10 p10 => ?_)
                    dsimp only
                    refine wpAny_pure ?_
                    have F10 := LCg.fr_but F hk10 hLIt hIt0
                    have N10 : News s₁.heap L h10 [(It, rngIt (i + 1) 3), (Rn, W.listOf rv.toArray n'), (Lv, W.listOf lv.toArray n), (Sg, LCg.lst ys), (L + 1 + 1 + 1, oM2)] := by
                      intro p hp
                      rcases List.mem_cons.mp hp with rfl | hp
                      · exact ⟨hst10, (N _ (.head _)).2⟩
                      · have z := N p (.tail _ hp)
                        refine ⟨hk10 _ _ ?_ z.1, z.2⟩
                        have zz : p.1 ≠ It := by
                          refine news_ne N (.tail _ hp) (.head _) ?_
                          simp only [List.mem_cons, List.not_mem_nil, or_false] at hp
                          rcases hp with rfl | rfl | rfl | rfl
                          · intro q; cases q
                          · intro q; cases q
                          · intro q; cases q
                          · intro q; rw [dM] at q; cases q
                        simpa using zz
                    have k10 : TupK h h10 := TupK.but (fun b o hb z => hk10 b o (by simpa using hb) z) hit (.inl (by simp))
                    refine wpAny_assign_Name (stAnyT (L := L) rfl rfl rfl F10 N10 fun h11 F11 N11 k11 => ?_)
                    have hPl := tf_k (k10.trans k11) hPl
                    have hPr := tf_k (k10.trans k11) hPr
                    have hPs := f_k (k10.trans k11) hPs
                    refine post_gen (fun s₃ => ∃ m, m < 3 + 1 - i ∧ LevI s₁ L It Sg (L + 1 + 1 + 1) ys oM2 marks xs m s₃) (fun _ z => z) fun POST1 hPOST1 => ?_
                    clear hPOST N10 F10 N F hit N9 F9
                    refine execs_mid (fun s' => ∃ h tk gs m' Lv lv, s' = { s₁ with heap := h, toks := tk, gens := gs } ∧ 0 < tk ∧ (∀ x ∈ gs, GenState.bare x = true) ∧ Fr s₁.heap L h m' ∧ m' "runs" = some (.ref Rn) ∧ m' "level" = some (.ref Lv) ∧ m' "signs" = some (.ref Sg) ∧
                      News s₁.heap L h [(Lv, LCg.lst lv), (It, rngIt (i + 1) 3), (Rn, W.listOf rv.toArray n'), (Sg, LCg.lst ys), (L + 1 + 1 + 1, oM2)] ∧ Rn ≠ Lv ∧
                      Paired (PairTF s₁.heap h) (levelD marks ((sgL xs).map (·.1)) (i + 1)) lv ∧ Paired (PairTF s₁.heap h) (runsD marks ((sgL xs).map (·.1)) i) rv ∧ Paired (PairF s₁.heap h) (signsL xs) ys) ?_ ?_
                    · rw [exec_Assign_Name_used _ _ _ _ (by with_unfolding_all rfl)]
                      refine wpAny_bind (wpAny_standAt (wpAny_bind ?_))
                      show wpAny _ _ (do let _ ← comprehension _ _ _ _ (newList []) false _ (some _)) _ _ _
                      refine wpAny_bind (wpAny_mono (wpAny_comprehension_free (use := some _) (cl := [(Str.ofString "marks", L + 1 + 1 + 1)]) (Q := fun _ s' => _) rfl (fun _ => rfl) (by with_unfolding_all rfl) rfl (by decide) ?_) (fun _ s' hq => wpAny_pure (wpAny_pure ⟨rfl, hq⟩)) fun _ _ e => e)
                      refine ld_local rfl rfl F11.ns (by (try dsimp only); rw [if_neg (by decide)]; exact q2) ?_
                      have hLs := F11.ns.lt
                      have hlen1 : (levelD marks ((sgL xs).map (·.1)) i).length = lv.length := hPl.length
                      have e1 : ((levelD marks ((sgL xs).map (·.1)) i).map fun p => handsL.map fun c => (p.1 ++ [c], doneL marks c p.2)).flatten = levelD marks ((sgL xs).map (·.1)) (i + 1) := by
                        rw [levelD, stepD, List.flatMap_def]
                      have hl3 : (levelD marks ((sgL xs).map (·.1)) (i + 1)).length ≤ 100000 := by
                        rw [level_len]
                        match i, hlt with
                        | 0, _ => decide
                        | 1, _ => decide
                        | 2, _ => decide
                      refine comp_nest (nt := 1) (O := PairTF s₁.heap) (vs := lv) (dss := (levelD marks ((sgL xs).map (·.1)) i).map fun p => handsL.map fun c => (p.1 ++ [c], doneL marks c p.2)) PairTF.tupK rfl ⟨_, (N11 _ (.tail _ (.tail _ (.head _)))).1, rfl, n, rfl⟩ (by rw [List.length_map, hlen1]) (by rw [e1]; exact hl3) (by show 1 ≤ tk10 + 1; omega)
                        (by decide) rfl (by rfl) (by rfl) (by rfl) (by decide) (by decide) (by decide) (fun _ => rfl) ?_ ?_
                      · intro j v' dl hvj hdl
                        obtain ⟨d, hd, rfl⟩ : ∃ d, (levelD marks ((sgL xs).map (·.1)) i)[j]? = some d ∧ handsL.map (fun c => (d.1 ++ [c], doneL marks c d.2)) = dl := by
                          rw [List.getElem?_map] at hdl
                          cases he : (levelD marks ((sgL xs).map (·.1)) i)[j]? with
                          | none => rw [he] at hdl; cases hdl
                          | some d => rw [he] at hdl; exact ⟨d, rfl, Option.some.inj hdl⟩
                        obtain ⟨p, n1, ud, vd', rfl, hgp, hfp⟩ := Paired.get hPl hd hvj
                        have hdm := List.mem_of_getElem? hd
                        have hdt := level_text marks ((sgL xs).map (·.1)) (by rw [List.length_map]; exact hsl) i d hdm
                        have h6 : 300 * 6 ^ i ≤ 20000 := by
                          match i, hlt with
                          | 0, _ => decide
                          | 1, _ => decide
                          | 2, _ => decide
                        refine ⟨p, .str (S d.1) ud, .str (S d.2) vd', rfl, ⟨_, hgp, rfl, n1, rfl⟩, handsL, by rw [List.length_map], ?_, ?_⟩
                        · intro s' m'' E' Q' g hn hm1 hm2 hQ
                          refine Constant_str ?_
                          rw [show Str.ofString "rsw" = S handsL from by decide +kernel]
                          exact hQ _ _ ⟨_, _, _, rfl, fun _ _ e => e, Nat.le_succ_of_le g.pos, fun z => z⟩
                        · intro j' c d' hc hd' s' m'' E' u' g hn hm1 hm2 hm3
                          rw [List.getElem?_map, hc] at hd'
                          cases hd'
                          have g0 := g
                          obtain ⟨h12, tk12, gs12, rfl, k12, p12, b12⟩ := g
                          dsimp only at hn hm1 hm2 hm3 k12 b12 ⊢
                          have F12 := F11.keeps k12
                          have N12 := N11.grown k12
                          obtain ⟨oC, eC, hC⟩ := LCg.ns_obj hn
                          have N13 := news_comp F11 eC N12
                          refine Tuple_ ?_
                          refine Calls.spliced_cons (wpAny_BinOp (ld_local rfl rfl hn hm1 (ld_local rfl rfl hn hm3 ?_)))
                          refine wpAny_with_toks (n := 1) p12 (add_S (by rw [hdt.2]; show i + 1 ≤ _; omega) fun t' k hk => ?_)
                          refine Calls.spliced_cons ?_
                          show wpAny _ _ (eval (.Call _ _ _ _) _) _ _ _
                          clear hn eC N12 F11 N11 hPOST1 hPl hPr hPs
                          have hst := stop 5
                          k_steps
                          refine unhold ?_
                          refine done_call (KX.keeps F12.keep) (T.keeps F12.keep) rfl (Nat.le_of_ble_eq_true (by with_unfolding_all rfl)) (by have := hdt.1; omega) (by first | exact hk | (dsimp only at hk ⊢; omega)) fun t2 h13 tk13 gs13 k13 p13 b13 => ?_
                          have FF := F12.keeps k13
                          exact Calls.spliced_nil (wpAny_newTuple ⟨⟨_, tk13, gs13, rfl, fun b o e => Heap.get?_push_of_some _ (k13 b o e), p13, fun z => b13 z⟩, ⟨_, _, _, _, rfl, Heap.get?_push_size _ rfl, next_is_new FF⟩⟩)
                      · intro s' js m'' hinv hn
                        obtain ⟨hg', hl', _, hP'⟩ := hinv
                        obtain ⟨h12, tk12, gs12, rfl, k12, p12, b12⟩ := hg'
                        dsimp only at hl' hn hP' k12 b12
                        have F12 := F11.keeps k12
                        have N12 := news_comp (k := 1) F11 hl' (N11.grown k12)
                        obtain ⟨oC, eC, hC⟩ := LCg.ns_obj hn
                        have N13 := news_comp (k := 2) F11 eC N12
                        dsimp only at F12 N13 hn ⊢
                        have lt11 := fun (p : Addr × Obj) hp => Heap.lt_size (N11 p hp).1
                        show wpAny _ _ (assign _ _ _) _ _ _
                        refine wpAny_assign_Name (stAnyT (L := L) rfl rfl rfl F12 N13 fun h14 F14 N14 k14 => ?_)
                        refine ⟨m'', hC.ns (N14 _ (.head _)).1, fun h15 hs15 => ?_⟩
                        have k15 := (TupK.of_keep k12).trans (k14.trans (TupK.ns (hC.ns (N14 _ (.head _)).1) hs15))
                        refine ⟨h15, _, gs12, _, _, js, rfl, Nat.succ_pos _, b12 hbare, F14.change hs15 (N14 _ (.head _)).2.1 (N14 _ (.head _)).2.2, ?_, if_pos rfl, ?_, fun p hp => ?_, ?_, ?_, tf_k k15 hPr, f_k k15 hPs⟩
                        · (try dsimp only); rw [if_neg (by decide), if_neg (by decide)]; exact q1
                        · (try dsimp only); rw [if_neg (by decide), if_neg (by decide)]; exact q3
                        · have z := N14 p (by
                            simp only [List.mem_cons, List.not_mem_nil, or_false] at hp
                            rcases hp with rfl | rfl | rfl | rfl | rfl
                            · exact .tail _ (.head _)
                            · exact .tail _ (.tail _ (.head _))
                            · exact .tail _ (.tail _ (.tail _ (.head _)))
                            · exact .tail _ (.tail _ (.tail _ (.tail _ (.tail _ (.head _)))))
                            · exact .tail _ (.tail _ (.tail _ (.tail _ (.tail _ (.tail _ (.head _)))))))
                          refine ⟨hs15.extBut _ _ ?_ z.1, z.2⟩
                          rcases List.mem_cons.mp hp with rfl | hp
                          · exact Nat.ne_of_lt (Nat.lt_succ_self _)
                          · refine Nat.ne_of_lt (Nat.lt_add_right 2 (lt11 p ?_))
                            simp only [List.mem_cons, List.not_mem_nil, or_false] at hp ⊢
                            rcases hp with rfl | rfl | rfl | rfl <;> simp
                        · exact Nat.ne_of_lt (Nat.lt_add_right 1 (lt11 (Rn, W.listOf rv.toArray n') (.tail _ (.head _))))
                        · rw [← e1]; exact tf_k (k14.trans (TupK.ns (hC.ns (N14 _ (.head _)).1) hs15)) hP'
                    · rintro s' ⟨h12, tk12, gs12, m12, Lv2, lv2, rfl, ht12, hbare12, F12, r1, r2, r3, N12, hRL, hPl2, hPr2, hPs2⟩
                      have F13 := expose (x := "runs") (v := .ref Rn) (expose (x := "level") (v := .ref Lv2) F12 r2) (by (try dsimp only); rw [if_neg (by decide)]; exact r1)
                      refine wpAny_with_toks (n := 1) ht12 ?_
                      refine post_gen (fun s => 1 ≤ s.toks → ∃ m, m < 3 + 1 - i ∧ LevI s₁ L It Sg (L + 1 + 1 + 1) ys oM2 marks xs m s) (fun s h p => hPOST1 s (h p)) fun POST2 hPOST2 => ?_
                      clear hPOST1 F11 N11 F12
                      have hst := stop 6
                      k_steps
                      refine unhold ?_
                      have hlr : (runsD marks ((sgL xs).map (·.1)) i).length = rv.length := hPr2.length
                      have hll : (levelD marks ((sgL xs).map (·.1)) (i + 1)).length = lv2.length := hPl2.length
                      have hrl := runs_len marks ((sgL xs).map (·.1)) i (by omega)
                      have hl3 : (levelD marks ((sgL xs).map (·.1)) (i + 1)).length ≤ 100000 := by
                        rw [level_len]
                        match i, hlt with
                        | 0, _ => decide
                        | 1, _ => decide
                        | 2, _ => decide
                      refine extend_at (its := rv.toArray) (its2 := lv2.toArray) (N12 _ (.tail _ (.tail _ (.head _)))).1 (N12 _ (.head _)).1 (by rw [List.size_toArray, List.size_toArray]; omega) fun h13 n13 hs13 ho13 => ?_
                      have k13 : TupK h12 h13 := TupK.but (fun b o hb z => hs13.extBut b o hb z) (N12 _ (.tail _ (.tail _ (.head _)))).1 (.inl (by simp))
                      have F14 := F13.change hs13 (N12 _ (.tail _ (.tail _ (.head _)))).2.1 (N12 _ (.tail _ (.tail _ (.head _)))).2.2
                      refine wpAny_execs_nil ?_
                      refine hPOST2 _ fun hp => ⟨3 + 1 - (i + 1), by omega, i + 1, h13, _, gs12, _, Lv2, lv2, lv2.length, Rn, rv ++ lv2, n13, rfl, hp, hbare12, rfl, hlt, F14, by walk_at "own lk", by walk_at "own lk", ?_, fun p hp => ?_, tf_k k13 hPl2, Paired.append (tf_k k13 hPr2) (tf_k k13 hPl2), f_k k13 hPs2, hRS⟩
                      · (try dsimp only); rw [if_neg (by decide), if_neg (by decide)]; exact r3
                      · have go : ∀ q ∈ [(Lv2, LCg.lst lv2), (It, rngIt (i + 1) 3), (Rn, W.listOf rv.toArray n'), (Sg, LCg.lst ys), (L + 1 + 1 + 1, oM2)], q.1 ≠ Rn → h13.get? q.1 = some q.2 ∧ q.1 ≠ L ∧ s₁.heap.get? q.1 = none := fun q hq hne => ⟨hs13.extBut _ _ hne (N12 q hq).1, (N12 q hq).2⟩
                        simp only [List.mem_cons, List.not_mem_nil, or_false] at hp
                        rcases hp with rfl | rfl | rfl | rfl | rfl
                        · exact go _ (.tail _ (.head _)) (news_ne N12 (.tail _ (.head _)) (.tail _ (.tail _ (.head _))) (by intro q; cases q))
                        · refine ⟨?_, (N12 _ (.tail _ (.tail _ (.head _)))).2⟩
                          rw [ho13, List.append_toArray]
                        · exact go _ (.head _) hRL.symm
                        · exact go _ (.tail _ (.tail _ (.tail _ (.head _)))) hRS.symm
                        · exact go _ (.tail _ (.tail _ (.tail _ (.tail _ (.head _))))) (news_ne N12 (.tail _ (.tail _ (.tail _ (.tail _ (.head _))))) (.tail _ (.tail _ (.head _))) (by intro q; rw [dM] at q; cases q))
                  · obtain rfl : i = 3 := by omega
                    refine wpAny_with_toks (n := 1) htk ((LCg.range_walks (I := It) rfl 0 3).done { s₁ with heap := h, toks := tk, gens := gs } _ _ hit fun h10 tk10 hk10 p10 => ?_)
                    have k10 : TupK h h10 := TupK.but (fun b o hb z => hk10 b o (by simpa using hb) z) hit (.inl (by simp))
                    dsimp only
                    refine wpAny_execs_nil ?_
                    refine hPOST _ fun _ => ⟨h10, tk10, gs, m', Rn, rv, n', rfl, p10, hbare, LCg.fr_but F hk10 hLIt hIt0, q1, q3, fun p hp => ?_, tf_k k10 hPr, f_k k10 hPs⟩
                    have hp2 : p ∈ [(It, rngIt 3 3), (Rn, W.listOf rv.toArray n'), (Lv, W.listOf lv.toArray n), (Sg, LCg.lst ys), (L + 1 + 1 + 1, oM2)] := by
                      simp only [List.mem_cons, List.not_mem_nil, or_false] at hp
                      rcases hp with rfl | rfl | rfl
                      · exact .tail _ (.head _)
                      · exact .tail _ (.tail _ (.tail _ (.head _)))
                      · exact .tail _ (.tail _ (.tail _ (.tail _ (.head _))))
                    have z := N p hp2
                    refine ⟨hk10 _ _ ?_ z.1, z.2⟩
                    have zz : p.1 ≠ It := by
                      refine news_ne N hp2 (.head _) ?_
                      simp only [List.mem_cons, List.not_mem_nil, or_false] at hp
                      rcases hp with rfl | rfl | rfl
                      · intro q; cases q
                      · intro q; cases q
                      · intro q; rw [dM] at q; cases q
                    simpa using zz
                · refine ⟨0, h9, _, gs6, _, Lv0, lv0, n0, Rn, lv0, n7, rfl, hpos, hbare6, rfl, Nat.zero_le _, F9, by walk_at "own lk", by walk_at "own lk", by walk_at "own lk", news_sub N9 fun p hp => ?_, PairTN.tf (fun p hp => ⟨(N9 p (.tail _ (.tail _ (.tail _ (.tail _ (.tail _ hp)))))).1, (N9 p (.tail _ (.tail _ (.tail _ (.tail _ (.tail _ hp)))))).2.2⟩) hP6, PairTN.tf (fun p hp => ⟨(N9 p (.tail _ (.tail _ (.tail _ (.tail _ (.tail _ hp)))))).1, (N9 p (.tail _ (.tail _ (.tail _ (.tail _ (.tail _ hp)))))).2.2⟩) hP6, PairN.f (fun p hp => ⟨(N9 p (.tail _ (.tail _ (.tail _ (.tail _ (.tail _ hp)))))).1, (N9 p (.tail _ (.tail _ (.tail _ (.tail _ (.tail _ hp)))))).2.2⟩) hPs6, hRS7⟩
                  simp only [List.mem_cons, List.not_mem_nil, or_false] at hp
                  rcases hp with rfl | rfl | rfl | rfl | rfl
                  · exact .head _
                  · exact .tail _ (.head _)
                  · exact .tail _ (.tail _ (.head _))
                  · exact .tail _ (.tail _ (.tail _ (.head _)))
                  · exact .tail _ (.tail _ (.tail _ (.tail _ (.head _))))
              · rintro s' ⟨h8, tk8, gs8, m8, Rn, rv, n8, rfl, ht8, hbare8, F8, q81, q82, N8, hPr8, hPs8⟩
                obtain ⟨ownR, hR, hOR⟩ := PairTF.own2 hPr8
                obtain ⟨ownS, hS, hOS⟩ := PairF.own2 hPs8
                have hown : ∀ p ∈ ownR ++ ownS, h8.get? p.1 = some p.2 ∧ s₁.heap.get? p.1 = none ∧ ∃ its n, p.2.data = .seq its n := fun p hp => (List.mem_append.mp hp).elim (hOR p) (hOS p)
                replace hR := PairTN.mono (own' := ownR ++ ownS) (fun p hp => List.mem_append_left _ hp) hR
                replace hS := PairN.mono (own' := ownR ++ ownS) (fun p hp => List.mem_append_right _ hp) hS
                clear hOR hOS hPr8 hPs8 F7 N7
                generalize ownR ++ ownS = own at hR hS hown
                have N80 : News s₁.heap L h8 ((Rn, W.listOf rv.toArray n8) :: (Sg, LCg.lst ys) :: (L + 1 + 1 + 1, oM2) :: own) := own_news F8 N8 hown
                have hseq : ∀ p ∈ own, ∃ its n, p.2.data = .seq its n := fun p hp => (hown p hp).2.2
                clear N8 hown
                have hrl := runs_len marks ((sgL xs).map (·.1)) 3 (by decide)
                have hrv : (runsD marks ((sgL xs).map (·.1)) 3).length = rv.length := hR.length
                refine execs_mid (fun s' => ∃ h tk gs, s' = { s₁ with heap := h, toks := tk, gens := gs } ∧ 0 < tk ∧ (∀ x ∈ gs, GenState.bare x = true) ∧ Fr s₁.heap L h m8 ∧ News s₁.heap L h ((Rn, W.listOf rv.toArray n8) :: (Sg, LCg.lst ys) :: (L + 1 + 1 + 1, oM2) :: own)) ?_ ?_
                · refine wpAny_with_toks (n := 1) ht8 ?_
                  refine post_gen (fun s => 1 ≤ s.toks → _) (fun s h p => ⟨rfl, h p⟩) fun POST hPOST => ?_
                  have hst := stop 2
                  k_steps
                  refine unhold ?_
                  rw [eval_ListComp]
                  refine wpAny_comprehension_free (use := none) rfl (fun _ => rfl) (cl := []) (by with_unfolding_all rfl) rfl (by decide) ?_
                  refine ld_local rfl rfl F8.ns q81 ?_
                  refine comp_pairs (nt := 0) (O := StrO) (vs := rv) (ds := (runsD marks ((sgL xs).map (·.1)) 3).map (·.2)) (fun _ _ _ _ _ z => z) rfl ⟨_, (N80 _ (.head _)).1, rfl, n8, rfl⟩ (by rw [List.length_map]; exact hrv) (by omega) (Nat.zero_le _) (by decide) rfl (by rfl) (by rfl) (by decide) ?_ ?_
                  · intro i v d hvi hdl
                    obtain ⟨dd, hd, rfl⟩ : ∃ dd, (runsD marks ((sgL xs).map (·.1)) 3)[i]? = some dd ∧ dd.2 = d := by
                      rw [List.getElem?_map] at hdl
                      cases he : (runsD marks ((sgL xs).map (·.1)) 3)[i]? with
                      | none => rw [he] at hdl; cases hdl
                      | some d => rw [he] at hdl; exact ⟨d, rfl, Option.some.inj hdl⟩
                    obtain ⟨p, n', u, v', rfl, hm⟩ := Paired.get hR hd hvi
                    refine ⟨p, .str (S dd.1) u, .str (S dd.2) v', rfl, ⟨_, (N80 _ (.tail _ (.tail _ (.tail _ hm)))).1, rfl, n', rfl⟩, ?_⟩
                    intro s' m'' E' g hn hm1 hm2
                    exact ld_local rfl rfl hn hm2 ⟨Grow.refl (Nat.zero_le _), v', rfl⟩
                  · intro s' js m'' hinv hn
                    refine ⟨m'', hn, fun h' hs' => ?_⟩
                    obtain ⟨hg', hl', _, hP'⟩ := hinv
                    obtain ⟨hh', tk', gs', rfl, hk', _, hg''⟩ := hg'
                    dsimp only at hl' hn hP' hs' hk' hg'' ⊢
                    have k7 : ∀ b o, h8.get? b = some o → h'.get? b = some o := fun b o e => hs'.extBut b o (Nat.ne_of_lt (Nat.lt_add_right 2 (Heap.lt_size e))) (hk' b o e)
                    have hbare' := hg'' hbare8
                    have F9 := F8.keeps k7
                    have N9 : News s₁.heap L h' ((h8.objs.size + 1, LCg.lst js) :: (Rn, W.listOf rv.toArray n8) :: (Sg, LCg.lst ys) :: (L + 1 + 1 + 1, oM2) :: own) := news_cons F8 N80 k7 ⟨hs'.extBut _ _ (Nat.ne_of_lt (Nat.lt_succ_self _)) hl', Heap.get?_none_of_le (Nat.le_succ _)⟩
                    have hstr : StrsAre js ((runsD marks ((sgL xs).map (·.1)) 3).map fun p => S p.2) := by
                      have z := StrO.strs hP'
                      rw [List.map_map] at z
                      exact z
                    clear F8 N80 hn hs' hl' hP' hk' hg'' k7
                    have hst := stop 7
                    k_steps
                    refine unhold ?_
                    refine set_strs rfl ⟨_, (N9 _ (.head _)).1, rfl, _, rfl⟩ hstr (by rw [List.length_map]; omega) fun h10 tk10 hS10 hk10 => ?_
                    have F10 := F9.keeps hk10
                    have N10 := N9.grown hk10
                    clear F9 N9 hk10
                    dsimp only at hS10 F10 N10 ⊢
                    have hst := stop 8
                    k_steps
                    refine unhold ?_
                    refine len_set hS10 (by rw [texts_20]; decide) fun t k => ?_
                    rw [texts_20]
                    dsimp only
                    clear hS10
                    k_steps
                    exact hPOST _ fun hp => ⟨_, _, _, rfl, hp, hbare', F10, fun p hp => N10 p (.tail _ hp)⟩
                · rintro s' ⟨h9, tk9, gs9, rfl, ht9, hbare9, F9, N9⟩
                  clear F8 N80
                  refine execs_mid (fun s' => ∃ h tk Du oD, s' = { s₁ with heap := h, toks := tk, gens := gs9 } ∧ 0 < tk ∧ Fr s₁.heap L h (fun y => if y = "due" then some (.ref Du) else m8 y) ∧ News s₁.heap L h ((Du, oD) :: (Rn, W.listOf rv.toArray n8) :: (Sg, LCg.lst ys) :: (L + 1 + 1 + 1, oM2) :: own) ∧ (Du == sysModules) = false ∧ oD.IsDictOf (PySem.strKind Challenge.rw_tr0013_01.row.prog w) [] ∧ Rn < Du ∧ Sg < Du ∧ L + 1 + 1 + 1 < Du ∧ AllLt Du own) ?_ ?_
                  · refine wpAny_with_toks (n := 1) ht9 ?_
                    refine post_gen (fun s => 1 ≤ s.toks → _) (fun s h p => ⟨rfl, h p⟩) fun POST hPOST => ?_
                    k_steps
                    rename Fr _ _ _ _ => F'
                    rename News _ _ _ _ => N'
                    exact hPOST _ fun hp => ⟨_, _, _, _, rfl, hp, F', N', by assumption, by assumption, by assumption⟩
                  · rintro s' ⟨h10, tk10, Du, oD, rfl, ht10, F10, N10, lo10, hD10, lR, lS, lM, lO⟩
                    clear F9 N9
                    refine execs_mid (fun s' => ∃ h tk gs m', s' = { s₁ with heap := h, toks := tk, gens := gs } ∧ 0 < tk ∧ (∀ x ∈ gs, GenState.bare x = true) ∧ Fr s₁.heap L h m') ?_ ?_
                    · refine wpAny_with_toks (n := 1) ht10 ?_
                      refine post_gen (fun s => 1 ≤ s.toks → _) (fun s h p => ⟨rfl, h p⟩) fun POST hPOST => ?_
                      refine wpAny_For ?_
                      refine ld_local rfl rfl F10.ns (by (try dsimp only); rw [if_neg (by decide)]; exact q81) ?_
                      refine wpAny_pyIter_list ⟨_, (N10 _ (.tail _ (.head _))).1, rfl, n8, rfl⟩ ?_
                      have hdR : ∀ p ∈ (Rn, W.listOf rv.toArray n8) :: (Sg, LCg.lst ys) :: (L + 1 + 1 + 1, oM2) :: own, p.1 ≠ Du := by
                        intro p hp
                        rcases List.mem_cons.mp hp with rfl | hp
                        · exact Nat.ne_of_lt lR
                        rcases List.mem_cons.mp hp with rfl | hp
                        · exact Nat.ne_of_lt lS
                        rcases List.mem_cons.mp hp with rfl | hp
                        · exact Nat.ne_of_lt lM
                        · exact Nat.ne_of_lt (allLt_mem own lO p hp)
                      refine push_setup (P := fun It h' => codeAny _ _ (.forLoop _ (.ref It) _ _ _) _ { s₁ with heap := h', toks := _, gens := gs9 }) { cls := .type "list_iterator", data := .fields #[.ref Rn, .int 0 0] } rfl F10 N10 fun It h11 F11 N11 hLIt hIt0 hdI => ?_
                      clear F10 N10
                      refine codeAny_forLoop_any (DueI Challenge.rw_tr0013_01.row.prog w s₁ L It Du Rn Sg (L + 1 + 1 + 1) ys rv n8 oM2 own marks xs) ?_ (rv.length + 1) ?_
                      · rintro k s' ⟨i, h, tk, gs, m', oE, oI, kvs, rfl, htk, hbare, rfl, hi, F, q1, q2, N, hoI, hE, hkl, hval⟩
                        have hit : h.IsListIter It Rn i := ⟨oI, (N _ (.head _)).1, hoI⟩
                        have hl3 : h.IsList Rn rv.toArray := ⟨_, (N _ (.tail _ (.tail _ (.head _)))).1, rfl, n8, rfl⟩
                        have hdI' : ∀ p ∈ (Du, oE) :: (Rn, W.listOf rv.toArray n8) :: (Sg, LCg.lst ys) :: (L + 1 + 1 + 1, oM2) :: own, p.1 ≠ It := by
                          intro p hp
                          rcases List.mem_cons.mp hp with rfl | hp
                          · exact hdI (Du, oD) (.head _)
                          · exact hdI p (.tail _ hp)
                        by_cases hlt : i < rv.length
                        · obtain ⟨v, hvi⟩ := getElem?_lt hlt
                          obtain ⟨d, hd⟩ := getElem?_lt (l := runsD marks ((sgL xs).map (·.1)) 3) (i := i) (by omega)
                          obtain ⟨p, n1, ud, vd', rfl, hm⟩ := Paired.get hR hd hvi
                          have hdm := runs_told marks xs (List.mem_of_getElem? hd)
                          refine wpAny_pyNext_list_item hit hl3 (x := .ref p) (by simpa using hvi) fun h12 hit12 hs12 => ?_
                          obtain ⟨oI2, eI2, hoI2⟩ := hit12
                          have F12 := F.change hs12 (N _ (.head _)).2.1 (N _ (.head _)).2.2
                          have N12 : News s₁.heap L h12 ((It, oI2) :: (Du, oE) :: (Rn, W.listOf rv.toArray n8) :: (Sg, LCg.lst ys) :: (L + 1 + 1 + 1, oM2) :: own) := by
                            intro p hp
                            rcases List.mem_cons.mp hp with rfl | hp
                            · exact ⟨eI2, (N _ (.head _)).2⟩
                            · exact ⟨hs12.extBut _ _ (hdI' p hp) (N p (.tail _ hp)).1, (N p (.tail _ hp)).2⟩
                          dsimp only
                          refine wpAny_letOwnedTupleGo_listiter ⟨oI2, eI2, hoI2⟩ ?_
                          have htup : IsTup h12 p #[.str (S d.1) ud, .str (S d.2) vd'] := ⟨_, (N12 _ (.tail _ (.tail _ (.tail _ (.tail _ (.tail _ hm)))))).1, rfl, n1, rfl⟩
                          refine assign_Tuple_tuple rfl htup rfl rfl fun h13 he => ?_
                          have he' : ∀ b o, h12.get? b = some o → h13.get? b = some o := fun b o e => he b o (Nat.ne_of_lt (Heap.lt_size e)) e
                          have F13 := F12.keeps he'
                          have N13 := N12.grown he'
                          refine assignInOrder_cons (wpAny_assign_Name (stAny (L := L) rfl rfl rfl F13 N13 fun h14 F14 N14 => ?_))
                          refine assignInOrder_cons (wpAny_assign_Name (stAny (L := L) rfl rfl rfl F14 N14 fun h15 F15 N15 => ?_))
                          refine assignInOrder_nil ?_
                          have F16 := expose (x := "due") (v := .ref Du) (expose (x := "signs") (v := .ref Sg) F15 (by (try dsimp only); rw [if_neg (by decide), if_neg (by decide)]; exact q2)) (by (try dsimp only); rw [if_neg (by decide), if_neg (by decide), if_neg (by decide)]; exact q1)
                          clear F N F12 N12 F13 N13 F14 N14 F15 hit hl3 htup he he' hs12
                          try clear F11
                          try clear N11
                          have hw3 := words_short d.1 hdm.1
                          have hlS : (S d.1).length ≤ 10 := by rw [S_len]; omega
                          refine post_gen (fun s₃ => ∃ m, m < rv.length + 1 - i ∧ DueI Challenge.rw_tr0013_01.row.prog w s₁ L It Du Rn Sg (L + 1 + 1 + 1) ys rv n8 oM2 own marks xs m s₃) (fun _ z => z) fun POST1 hPOST1 => ?_
                          clear hPOST
                          refine execs_mid (fun s' => ∃ h tk tn, s' = { s₁ with heap := h, toks := tk, gens := gs } ∧ 0 < tk ∧ Fr s₁.heap L h (fun y => if y = "normal" then some (.str (normalL (S d.1) marks) tn) else if y = "due" then some (.ref Du) else if y = "signs" then some (.ref Sg) else if y = "text" then some (.str (S d.2) vd') else if y = "run" then some (.str (S d.1) ud) else m' y) ∧ News s₁.heap L h ((It, oI2) :: (Du, oE) :: (Rn, W.listOf rv.toArray n8) :: (Sg, LCg.lst ys) :: (L + 1 + 1 + 1, oM2) :: own)) ?_ ?_
                          · refine wpAny_with_toks (n := 1) (by show 1 ≤ tk + 1 + 1; omega) ?_
                            refine post_gen (fun s => 1 ≤ s.toks → _) (fun s h p => ⟨rfl, h p⟩) fun POST2 hPOST2 => ?_
                            have hst := stop 5
                            k_steps
                            refine unhold ?_
                            refine normal_call (KX.keeps F16.keep) (T.keeps F16.keep) rfl (Nat.le_of_ble_eq_true (by with_unfolding_all rfl)) (by (try dsimp only); omega) hlS fun t17 h17 tk17 k17 p17 => ?_
                            have F17 := F16.keeps k17
                            have N17 := N15.grown k17
                            clear F16 N15
                            dsimp only at F17 N17 ⊢
                            k_steps
                            rename Fr _ _ _ _ => F'
                            rename News _ _ _ _ => N'
                            exact hPOST2 _ fun hp => ⟨_, _, _, rfl, hp, F', N'⟩
                          · rintro s' ⟨h17, tk17, tn, rfl, ht17, F17, N17⟩
                            clear F16 N15
                            obtain ⟨na, nb, nw, e1, e2, e3, e4, e5, e6, e7, e8⟩ := normal_facts marks hdm.1
                            have hdue : dueX marks (sgL xs) (normalL (S d.1) marks) = d.2 := by
                              rw [due_told e1 e2 e3, e8, ← hdm.2]
                            refine execs_mid (fun s' => ∃ h tk gs oE2 kvs2 t2, s' = { s₁ with heap := h, toks := tk, gens := gs } ∧ 0 < tk ∧ (∀ x ∈ gs, GenState.bare x = true) ∧ Fr s₁.heap L h (fun y => if y = "normal" then some (.str (normalL (S d.1) marks) tn) else if y = "due" then some (.ref Du) else if y = "signs" then some (.ref Sg) else if y = "text" then some (.str (S d.2) vd') else if y = "run" then some (.str (S d.1) ud) else m' y) ∧ News s₁.heap L h ((It, oI2) :: (Du, oE2) :: (Rn, W.listOf rv.toArray n8) :: (Sg, LCg.lst ys) :: (L + 1 + 1 + 1, oM2) :: own) ∧
                              oE2.IsDictOf (PySem.strKind Challenge.rw_tr0013_01.row.prog w) kvs2 ∧ kvs2.length ≤ i + 1 ∧ (∀ q v, valueAt kvs2 q = some v → ∃ t, v = .str (S (dueX marks (sgL xs) q)) t) ∧ valueAt kvs2 (normalL (S d.1) marks) = some (.str (S d.2) t2)) ?_ ?_
                            · refine wpAny_with_toks (n := 1) ht17 ?_
                              refine post_gen (fun s => 1 ≤ s.toks → _) (fun s h p => ⟨rfl, h p⟩) fun POST2 hPOST2 => ?_
                              refine wpAny_If (wpAny_with_toks (n := 1) ht17 ?_)
                              have hst := stop 9
                              k_steps
                              refine unhold ?_
                              cases hb : valueAt kvs (normalL (S d.1) marks) with
                              | some v0 =>
                                obtain ⟨t0, rfl⟩ := hval _ _ hb
                                rw [hdue] at hb
                                refine kdg_notin (knd := PySem.strKind Challenge.rw_tr0013_01.row.prog w) N17 (.tail _ (.head _)) hE lo10 (strKind_is _ _ _ _) true (by rw [hb]; rfl) ?_
                                k_steps
                                exact hPOST2 _ fun hp => ⟨_, _, gs, oE, kvs, t0, rfl, hp, hbare, F17, N17, hE, by omega, hval, hb⟩
                              | none =>
                                refine kdg_notin (knd := PySem.strKind Challenge.rw_tr0013_01.row.prog w) N17 (.tail _ (.head _)) hE lo10 (strKind_is _ _ _ _) false (by rw [hb]; rfl) ?_
                                have hst := stop 12
                                k_steps
                                refine unhold ?_
                                rename _ ≤ Shared.toks _ => hpos
                                refine wpAny_execs_cons ?_
                                refine wpAny_Assign_Subscript ?_
                                have hst := stop 5
                                k_steps
                                refine unhold ?_
                                have ed : toldX (tR (normalL (S d.1) marks)) marks na nb nw (sgL xs) = d.2 := by rw [e8, ← hdm.2]
                                have hPO : Paired (PairO h17) ((sgL xs).map fun p => ([p.1], p.2)) ys := by
                                  rw [← signsL_eq]
                                  exact PairN.pairO (fun p hp => (N17 _ (.tail _ (.tail _ (.tail _ (.tail _ (.tail _ hp)))))).1) hS
                                refine told_call (a := na) (b := nb) (wr := nw) (sg := sgL xs) (KX.keeps F17.keep) (T.keeps F17.keep) rfl (Nat.le_of_ble_eq_true (by with_unfolding_all rfl)) hpos e4 (N17 _ (.tail _ (.tail _ (.tail _ (.head _))))).1 hPO (by omega) e1 e2 e3 e5 e6 e7 fun t18 h18 tk18 gs18 k18 p18 b18 => ?_
                                rw [ed]
                                have F18 := F17.keeps k18
                                have N18 := N17.grown k18
                                clear F17 N17 hPO
                                dsimp only at F18 N18 ⊢
                                have hst := stop 10
                                k_steps
                                refine unhold ?_
                                rename Fr _ _ _ _ => F'
                                rename News _ _ _ _ => N'
                                refine due_set F' N' (hdI (Du, oD) (.head _)).symm hdR hE (by omega) fun h19 o19 F19 N19 hD19 => ?_
                                clear F' N'
                                rw [stored_none hb] at hD19
                                k_steps
                                refine hPOST2 _ fun hp => ⟨_, _, _, o19, _, t18, rfl, hp, b18 hbare, F19, N19, hD19, by rw [List.length_append, List.length_singleton]; omega, fun q v hq => ?_, by rw [value_snoc hb, if_pos rfl]⟩
                                rw [value_snoc hb] at hq
                                split at hq
                                · rename_i eq
                                  subst eq
                                  cases hq
                                  exact ⟨t18, by rw [hdue]⟩
                                · exact hval q v hq
                            · rintro s' ⟨h18, tk18, gs18, oE2, kvs2, t2, rfl, ht18, hbare18, F18, N18, hE2, hkl2, hval2, hat⟩
                              clear F17 N17
                              refine wpAny_with_toks (n := 1) ht18 ?_
                              refine post_gen (fun s₃ => 1 ≤ s₃.toks → ∃ m, m < rv.length + 1 - i ∧ DueI Challenge.rw_tr0013_01.row.prog w s₁ L It Du Rn Sg (L + 1 + 1 + 1) ys rv n8 oM2 own marks xs m s₃) (fun s h p => hPOST1 s (h p)) fun POST2 hPOST2 => ?_
                              clear hPOST1
                              have hst := stop 11
                              k_steps
                              refine unhold ?_
                              rename Fr _ _ _ _ => F'
                              rename News _ _ _ _ => N'
                              refine kda_item (knd := PySem.strKind Challenge.rw_tr0013_01.row.prog w) N' (.tail _ (.head _)) hE2 (strKind_is _ _ _ _) hat ?_
                              k_steps
                              · exfalso
                                rename (S d.2 != S d.2) = true => hne
                                rw [bne_self_eq_false] at hne
                                cases hne
                              · exact hPOST2 _ fun hp => ⟨rv.length + 1 - (i + 1), by omega, i + 1, h18, _, gs18, _, oE2, oI2, kvs2, rfl, hp, hbare18, rfl, hlt, F', by walk_at "own lk", by walk_at "own lk", N', hoI2, hE2, hkl2, hval2⟩
                        · obtain rfl : i = rv.length := by omega
                          refine wpAny_pyNext_list_end rfl hit hl3 (by simp) fun h12 hs12 => ?_
                          dsimp only
                          refine wpAny_execs_nil ?_
                          refine hPOST _ fun _ => ⟨_, _, _, m', rfl, htk, hbare, ?_⟩
                          exact ⟨F.ns.at' fun o e => hs12 _ o (Ne.symm (N _ (.head _)).2.1) e, fun b o e => hs12 b o (fun q => by rw [q, (N _ (.head _)).2.2] at e; cases e) (F.keep b o e), F.above⟩
                      · exact ⟨0, h11, _, gs9, _, oD, _, [], rfl, ht10, hbare9, rfl, Nat.zero_le _, F11, by walk_at "own lk", by (try dsimp only); rw [if_neg (by decide)]; exact q82, N11, ⟨rfl, rfl⟩, hD10, Nat.le_refl _, fun q v z => by cases z⟩
                    · rintro s' ⟨h11, tk11, gs11, m11, rfl, ht11, hbare11, F11⟩
                      clear F10 N10
                      k_steps
                      exact hQK _ _ _ F11.keep hbare11)
end Mine
end
theorem PySem.Challenge.cw_tr0013_01_holds : PySem.Challenge.rw_tr0013_01.Holds := by
  exact Mine.law_x
