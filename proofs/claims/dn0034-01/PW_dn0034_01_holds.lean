import PyProof.Rows.All
import Wide.All
import OpenK.AllK
import Wide.FinOn
import Lean
import PySem.Challenge.RW_dn0034_01
set_option Elab.async false
section
open PySem PySem.W PyProof.Rows
namespace Mine
set_option maxRecDepth 100000
set_option maxHeartbeats 8000000
open_top hd for PySem.Challenge.rw_dn0034_01
end Mine
end
section
open PySem PySem.W PyProof.Rows
namespace Mine
set_option maxRecDepth 100000
/-- what a call of the def at f does, in any frame: it ends, hands back a value with Post, and leaves frame and ledger as they were -/
abbrev Claim (w : World) (mean : ExcName → Option Value) (mg mb : Str → Option Value) (f : Addr) (news : List (Addr × Obj)) (vs : List Value) (Post : Value → Prop) : Prop :=
  ∀ (dp un : Nat) (gd : Option (List Code)) (cn : Str) (cs : Scope) (a : Addr) (ccd : Value) (cl : List (Str × Addr)) (outer : List Env) (A₀ : Around) (base h₀ : Heap) (L : Addr) (m : Str → Option Value) (s : Shared) (Q E : Value → Shared → Prop),
    Below A₀ base outer h₀ → Fr h₀ L s.heap m → (hd.heap_39 w.params).In h₀ → News h₀ L s.heap news → Top hd.view_39 (looseW hd.view_39 [Str.ofString "capwords", Str.ofString "escape"]) mean mg mb h₀ → cs.kind = .function →
    dp + 1 < recursionLimit → un + 8 < cLine →
    (∀ (v : Value) (h' : Heap) (tk' : Nat), Post v → Fr h₀ L h' m → News h₀ L h' news → Q v { s with heap := h', toks := tk' }) →
      wpAny (model PySem.Challenge.rw_dn0034_01.row.prog w) (ktrTop dp un gd cn cs L a ccd cl outer) (call (.ref f) vs) Q E s
end Mine
end
section
open PySem PySem.W PyProof.Rows
namespace Mine
set_option maxRecDepth 100000
set_option maxHeartbeats 8000000
def NoSig (x : Str) : Prop := 931 ∉ x.cps.toList
theorem NoSig.app {x y : Str} (hx : NoSig x) (hy : NoSig y) : NoSig (x ++ y) := by
  unfold NoSig at *
  rw [PySem.Str.cps_append, Array.toList_append, List.mem_append]
  exact fun h => h.elim hx hy
theorem st_nil : (PySem.Str.ofString "").length ≤ 6 * ([] : List Int).length ∧ NoSig (PySem.Str.ofString "") := by
  refine ⟨?_, ?_⟩
  · decide +kernel
  · unfold NoSig; decide +kernel
theorem st_app {pre : List Int} {n : Int} {x y : Str} (h1 : x.length ≤ 6 * pre.length) (h2 : NoSig x) (hy : y.length ≤ 6 ∧ NoSig y) : (x ++ y).length ≤ 6 * (pre ++ [n]).length ∧ NoSig (x ++ y) := by
  refine ⟨?_, h2.app hy.2⟩
  rw [PySem.Str.length_append, List.length_append, List.length_singleton]
  omega
theorem pick_ok {i : Int} (h0 : 0 ≤ i) (h1 : i < 24) : (Txt.item (PySem.Str.ofString "&<>\"' \t\n\u00a0\u2003aBxZ;#2ßŉǄİﬁÉς") i).length ≤ 6 ∧ NoSig (Txt.item (PySem.Str.ofString "&<>\"' \t\n\u00a0\u2003aBxZ;#2ßŉǄİﬁÉς") i) := by
  refine ⟨by rw [item_length]; decide, ?_⟩
  have h : ∀ j : Nat, j < 24 → 931 ∉ (Txt.item (PySem.Str.ofString "&<>\"' \t\n\u00a0\u2003aBxZ;#2ßŉǄİﬁÉς") (j : Int)).cps.toList := by decide +kernel
  have e : ((i.toNat : Nat) : Int) = i := Int.toNat_of_nonneg h0
  have := h i.toNat (by omega)
  rw [e] at this
  exact this
theorem tab_ok {k : Nat} (h : k < 8) : (["&lt;", "&amp;", "&#x27;", "&QUOT;", "&Amp;", "&#X3C;", "&lt", "&;"].map PySem.Str.ofString |>.getD k PySem.Str.empty).length ≤ 6 ∧ NoSig (["&lt;", "&amp;", "&#x27;", "&QUOT;", "&Amp;", "&#X3C;", "&lt", "&;"].map PySem.Str.ofString |>.getD k PySem.Str.empty) := by
  unfold NoSig
  revert k
  decide +kernel
theorem tail_ok {k : Nat} (h : k < 4) : (["", " ", "\n", " \u2003"].map PySem.Str.ofString |>.getD k PySem.Str.empty).length ≤ 2 ∧ NoSig (["", " ", "\n", " \u2003"].map PySem.Str.ofString |>.getD k PySem.Str.empty) := by
  unfold NoSig
  revert k
  decide +kernel
theorem sign_ok {c : Int} (h0 : 0 ≤ c) (h : c ≠ 931) : (PySem.Str.mk #[c.toNat]).length ≤ 6 ∧ NoSig (PySem.Str.mk #[c.toNat]) := by
  refine ⟨by show 1 ≤ 6; decide, ?_⟩
  unfold NoSig
  show 931 ∉ [c.toNat]
  rw [List.mem_singleton]
  omega
theorem small_ok : (PySem.Str.ofString "σ").length ≤ 6 ∧ NoSig (PySem.Str.ofString "σ") := by
  unfold NoSig
  decide +kernel
theorem end_ok {ns : List Int} {x y : Str} (hn : ns.length ≤ 6) (h1 : x.length ≤ 6 * ns.length) (h2 : NoSig x) (hy : y.length ≤ 2 ∧ NoSig y) :
    13 ≤ (x ++ PySem.Str.ofString "ab <Cd & eF'G" ++ y).length ∧ (x ++ PySem.Str.ofString "ab <Cd & eF'G" ++ y).length ≤ 60 ∧ NoSig (x ++ PySem.Str.ofString "ab <Cd & eF'G" ++ y) := by
  have e : (PySem.Str.ofString "ab <Cd & eF'G").length = 13 := by decide +kernel
  have q : NoSig (PySem.Str.ofString "ab <Cd & eF'G") := by unfold NoSig; decide +kernel
  refine ⟨?_, ?_, (h2.app q).app hy.2⟩
  · rw [PySem.Str.length_append, PySem.Str.length_append]; omega
  · rw [PySem.Str.length_append, PySem.Str.length_append]; omega
theorem mod_lo (n : Int) (m : Int) (h : 0 < m) : 0 ≤ n.fmod m := Int.fmod_nonneg_of_pos n h
theorem mod_hi (n : Int) (m : Int) (h : 0 < m) : n.fmod m < m := Int.fmod_lt_of_pos n h
theorem add_sl {x y : Str} (hx : x.length ≤ 60) (hy : y.length ≤ 6) : x.length + y.length ≤ sizeLine := by rw [sizeLine_eq]; omega

theorem c_text (w : World) (mean : ExcName → Option Value) (mg mb : Str → Option Value) (l : Addr) (vs : List Value) (ns : List Int) (c : Nat) (news : List (Addr × Obj)) (hi : IntsAre vs ns) (hn : ns.length ≤ 6) :
    Claim w mean mg mb 37 ((l, listOf vs.toArray c) :: news) [.ref l] (fun v => ∃ x t, v = .str x t ∧ 13 ≤ x.length ∧ x.length ≤ 60 ∧ NoSig x) := by
  unfold Claim
  k_fill
  intros
  rename_i hret
  refine wpAny_call ?_
  k_dflt cell_enter
  k_with "pyIter ref" => k_state (fun pre text => text.length ≤ 6 * pre.length ∧ NoSig text) "text"
  k_with "state" => first | exact st_nil | exact st_app (by assumption) (by assumption) (pick_ok (mod_lo _ _ (by decide)) (mod_hi _ _ (by decide))) | exact st_app (by assumption) (by assumption) (tab_ok (by assumption)) | exact st_app (by assumption) (by assumption) small_ok | exact st_app (by assumption) (by assumption) (sign_ok (by first | exact mod_lo _ _ (by decide) | exact Int.add_nonneg (mod_lo _ _ (by decide)) (by decide)) (by assumption))
  k_with "inplaceOp Add str str" => ((refine SBL.iadd (hsz := ?hsz) ?_); (case hsz => exact add_sl (by omega) (tab_ok (by assumption)).1); intro _ _ _)
  k_with "table" => skip
  k_steps
  refine hret _ _ _ ⟨_, _, rfl, end_ok hn (by assumption) (by assumption) (tail_ok (by assumption))⟩ (by k_asm) ?_
  refine cb_drop (by assumption) ?_
  kcj_all
end Mine
end
section
open PySem PySem.W PyProof.Rows
namespace Mine
open PySem.Unicode

/-- a word, capitalized sign by sign -/
def capL : List Nat → List Nat
  | [] => []
  | c :: r => titleOf c ++ r.flatMap lowerOf
def capOf (fresh : Bool) (p : List Nat) : List Nat := if fresh then capL p else p.flatMap lowerOf
def joinL (m : List Nat) : List (List Nat) → List Nat
  | [] => []
  | [p] => p
  | p :: q :: r => p ++ m ++ joinL m (q :: r)
theorem joinL_app (m a b : List Nat) : ∀ ps, joinL m ((a ++ b) :: ps) = a ++ joinL m (b :: ps)
  | [] => rfl
  | q :: r => by show (a ++ b) ++ m ++ joinL m (q :: r) = a ++ (b ++ m ++ joinL m (q :: r)); simp only [List.append_assoc]

/-- the parts between the marks -/
inductive Cut (m : List Nat) : List Nat → List (List Nat) → Prop
  | nil : Cut m [] [[]]
  | hit {l r ps} : l = m ++ r → Cut m r ps → Cut m l ([] :: ps)
  | miss {l c r p ps} : l = c :: r → ¬ m <+: l → Cut m r (p :: ps) → Cut m l ((c :: p) :: ps)
theorem Cut.ne {m l : List Nat} {ps : List (List Nat)} (h : Cut m l ps) : ∃ p r, ps = p :: r := by
  cases h <;> exact ⟨_, _, rfl⟩
theorem Cut.det {m : List Nat} (hm : m ≠ []) {l : List Nat} {ps qs : List (List Nat)} (h : Cut m l ps) : Cut m l qs → ps = qs := by
  induction h generalizing qs with
  | nil =>
    intro k
    cases k with
    | nil => rfl
    | hit e k => exact absurd (List.append_eq_nil_iff.mp e.symm).1 hm
    | miss e _ k => cases e
  | hit e h ih =>
    intro k
    cases k with
    | nil => exact absurd (List.append_eq_nil_iff.mp e.symm).1 hm
    | hit e' k =>
      rw [e] at e'
      have := List.append_cancel_left e'
      subst this
      rw [ih k]
    | miss e' n k => exact absurd ⟨_, e.symm⟩ n
  | miss e n h ih =>
    intro k
    cases k with
    | nil => cases e
    | hit e' k => exact absurd ⟨_, e'.symm⟩ n
    | miss e' n' k =>
      rw [e] at e'
      cases e'
      have := ih k
      cases this
      rfl
theorem Cut.sub {m l : List Nat} {ps : List (List Nat)} (h : Cut m l ps) : ∀ p ∈ ps, ∀ c ∈ p, c ∈ l := by
  induction h with
  | nil => intro p hp c hc; rw [List.mem_singleton.mp hp] at hc; cases hc
  | hit e h ih =>
    intro p hp c hc
    rcases List.mem_cons.mp hp with rfl | hp
    · cases hc
    · rw [e]; exact List.mem_append_right _ (ih p hp c hc)
  | miss e n h ih =>
    intro p hp c hc
    rw [e]
    rcases List.mem_cons.mp hp with rfl | hp
    · rcases List.mem_cons.mp hc with rfl | hc
      · exact List.mem_cons_self
      · exact List.mem_cons_of_mem _ (ih _ List.mem_cons_self c hc)
    · exact List.mem_cons_of_mem _ (ih p (List.mem_cons_of_mem _ hp) c hc)

/-- the law's own scan, as a relation: rest, fresh, what is due so far, what is due at the end -/
inductive Cap (m : List Nat) : List Nat → Bool → List Nat → List Nat → Prop
  | stop {f due} : Cap m [] f due due
  | white {l c r f due fin} : l = c :: r → m = [] → isSpace c = true → Cap m r true due fin → Cap m l f due fin
  | hit {l r f due fin} : l = m ++ r → m ≠ [] → Cap m r true (due ++ m) fin → Cap m l f due fin
  | new {l c r due fin} : l = c :: r → (m = [] → isSpace c = false) → (m ≠ [] → ¬ m <+: l) → Cap m r false ((if m = [] ∧ due ≠ [] then due ++ [32] else due) ++ titleOf c) fin → Cap m l true due fin
  | old {l c r due fin} : l = c :: r → (m = [] → isSpace c = false) → (m ≠ [] → ¬ m <+: l) → Cap m r false (due ++ lowerOf c) fin → Cap m l false due fin

theorem cap_cut {m : List Nat} (hm : m ≠ []) {l : List Nat} {f : Bool} {due fin : List Nat} (h : Cap m l f due fin) : ∀ {p ps}, Cut m l (p :: ps) → fin = due ++ joinL m (capOf f p :: ps.map capL) := by
  induction h with
  | @stop f due =>
    intro p ps k
    cases k with
    | nil => cases f <;> simp [joinL, capOf, capL]
    | hit e k => exact absurd (List.append_eq_nil_iff.mp e.symm).1 hm
    | miss e _ k => cases e
  | white e e' => exact absurd e' hm
  | @hit l r f due fin e _ h ih =>
    intro p ps k
    cases k with
    | nil => exact absurd (List.append_eq_nil_iff.mp e.symm).1 hm
    | hit e' k =>
      rw [e] at e'
      have := List.append_cancel_left e'
      subst this
      obtain ⟨p', r', rfl⟩ := k.ne
      rw [ih k]
      have : capOf f [] = [] := by cases f <;> rfl
      rw [this]
      show _ = due ++ ([] ++ m ++ joinL m (capL p' :: r'.map capL))
      simp [capOf]
    | miss e' n k => exact absurd ⟨_, e.symm⟩ n
  | @new l c r due fin e _ n h ih =>
    intro p ps k
    cases k with
    | nil => cases e
    | hit e' k => exact absurd ⟨_, e'.symm⟩ (n hm)
    | miss e' n' k =>
      rw [e] at e'
      cases e'
      rw [ih k, if_neg (fun q => hm q.1)]
      show due ++ titleOf c ++ joinL m (List.flatMap lowerOf _ :: _) = due ++ joinL m ((titleOf c ++ List.flatMap lowerOf _) :: _)
      rw [joinL_app, List.append_assoc]
  | @old l c r due fin e _ n h ih =>
    intro p ps k
    cases k with
    | nil => cases e
    | hit e' k => exact absurd ⟨_, e'.symm⟩ (n hm)
    | miss e' n' k =>
      rw [e] at e'
      cases e'
      rw [ih k]
      show due ++ lowerOf c ++ joinL m (List.flatMap lowerOf _ :: _) = due ++ joinL m ((List.flatMap lowerOf (c :: _)) :: _)
      rw [List.flatMap_cons, joinL_app, List.append_assoc]

/-- the words between white signs; true: amid a word -/
def headCons (c : Nat) : List (List Nat) → List (List Nat)
  | [] => [[c]]
  | w :: ws => (c :: w) :: ws
def wd : Bool → List Nat → List (List Nat)
  | false, [] => []
  | true, [] => [[]]
  | false, c :: r => if isSpace c = true then wd false r else headCons c (wd true r)
  | true, c :: r => if isSpace c = true then [] :: wd false r else headCons c (wd true r)
theorem wd_fs {c : Nat} {r : List Nat} (h : isSpace c = true) : wd false (c :: r) = wd false r := by simp [wd, h]
theorem wd_ts {c : Nat} {r : List Nat} (h : isSpace c = true) : wd true (c :: r) = [] :: wd false r := by simp [wd, h]
theorem wd_n {c : Nat} {r : List Nat} (b : Bool) (h : isSpace c = false) : wd b (c :: r) = headCons c (wd true r) := by cases b <;> simp [wd, h]
theorem wd_true (l : List Nat) : ∃ w ws, wd true l = w :: ws := by
  cases l with
  | nil => exact ⟨_, _, rfl⟩
  | cons c r =>
    unfold wd
    split
    · exact ⟨_, _, rfl⟩
    · cases wd true r <;> exact ⟨_, _, rfl⟩
theorem wd_sub : ∀ (l : List Nat) (b : Bool), ∀ p ∈ wd b l, ∀ c ∈ p, c ∈ l
  | [], false, p, hp, _, _ => by cases hp
  | [], true, p, hp, c, hc => by rw [List.mem_singleton.mp hp] at hc; cases hc
  | d :: r, b, p, hp, c, hc => by
    have key : ∀ q ∈ headCons d (wd true r), ∀ c ∈ q, c ∈ d :: r := by
      intro q hq c hc
      obtain ⟨w, ws, e⟩ := wd_true r
      rw [e] at hq
      rcases List.mem_cons.mp hq with rfl | hq
      · rcases List.mem_cons.mp hc with rfl | hc
        · exact List.mem_cons_self
        · exact List.mem_cons_of_mem _ (wd_sub r true w (by rw [e]; exact List.mem_cons_self) c hc)
      · exact List.mem_cons_of_mem _ (wd_sub r true q (by rw [e]; exact List.mem_cons_of_mem _ hq) c hc)
    cases b with
    | false =>
      unfold wd at hp
      split at hp
      · exact List.mem_cons_of_mem _ (wd_sub r false p hp c hc)
      · exact key p hp c hc
    | true =>
      unfold wd at hp
      split at hp
      · rcases List.mem_cons.mp hp with rfl | hp
        · cases hc
        · exact List.mem_cons_of_mem _ (wd_sub r false p hp c hc)
      · exact key p hp c hc

/-- what the words still to come add to what is due -/
def tailW (due : List Nat) (ws : List (List Nat)) : List Nat := if ws = [] then due else if due = [] then joinL [32] (ws.map capL) else due ++ [32] ++ joinL [32] (ws.map capL)

theorem cap_words (ht : ∀ c, titleOf c ≠ []) {l : List Nat} {f : Bool} {due fin : List Nat} (h : Cap [] l f due fin) :
    (f = true → fin = tailW due (wd false l)) ∧ (f = false → due ≠ [] → ∀ w ws, wd true l = w :: ws → fin = due ++ joinL [32] (w.flatMap lowerOf :: ws.map capL)) := by
  induction h with
  | stop =>
    refine ⟨fun _ => rfl, fun _ _ w ws e => ?_⟩
    cases e
    simp [joinL]
  | @white l c r f due fin e _ hs h ih =>
    subst e
    have h1 := ih.1 rfl
    refine ⟨fun _ => ?_, fun _ hd w ws e => ?_⟩
    · rw [h1, wd_fs hs]
    · rw [wd_ts hs] at e
      cases e
      rw [h1]
      unfold tailW
      cases hw : wd false r with
      | nil => simp [joinL]
      | cons a b =>
        rw [if_neg (by simp), if_neg hd]
        show _ = due ++ ([] ++ [32] ++ joinL [32] (capL a :: b.map capL))
        simp
  | hit e e' => exact absurd rfl e'
  | @new l c r due fin e hs _ h ih =>
    subst e
    refine ⟨fun _ => ?_, fun q => Bool.noConfusion q⟩
    have hs' := hs rfl
    obtain ⟨w, ws, ew⟩ := wd_true r
    have hne : ((if ([] : List Nat) = [] ∧ due ≠ [] then due ++ [32] else due) ++ titleOf c) ≠ [] := fun q => ht c (List.append_eq_nil_iff.mp q).2
    have := ih.2 rfl hne w ws ew
    rw [this]
    have e2 : wd false (c :: r) = (c :: w) :: ws := by
      rw [wd_n false hs', ew]
      rfl
    rw [e2]
    unfold tailW
    have e4 : ¬ ((c :: w) :: ws = []) := by simp
    rw [if_neg e4]
    have e3 : joinL [32] (((c :: w) :: ws).map capL) = titleOf c ++ joinL [32] (w.flatMap lowerOf :: ws.map capL) := by
      show joinL [32] ((titleOf c ++ w.flatMap lowerOf) :: ws.map capL) = _
      rw [joinL_app]
    rw [e3]
    by_cases hd : due = []
    · rw [if_neg (fun q => q.2 hd), if_pos hd, hd]; simp
    · rw [if_pos ⟨rfl, hd⟩, if_neg hd]; simp only [List.append_assoc]
  | @old l c r due fin e hs _ h ih =>
    subst e
    refine ⟨fun q => Bool.noConfusion q, fun _ hd w ws ew => ?_⟩
    have hs' := hs rfl
    obtain ⟨w', ws', ew'⟩ := wd_true r
    have e2 : wd true (c :: r) = (c :: w') :: ws' := by
      rw [wd_n true hs', ew']
      rfl
    rw [e2] at ew
    cases ew
    have hne : due ++ lowerOf c ≠ [] := fun q => hd (List.append_eq_nil_iff.mp q).1
    rw [ih.2 rfl hne w' _ ew', List.flatMap_cons, joinL_app, List.append_assoc]
theorem cap_words' (ht : ∀ c, titleOf c ≠ []) {l fin : List Nat} (h : Cap [] l true [] fin) : fin = joinL [32] ((wd false l).map capL) := by
  rw [(cap_words ht h).1 rfl]
  unfold tailW
  split
  · rename_i e; rw [e]; rfl
  · rw [if_pos rfl]
end Mine
end
section
open PySem PySem.W PyProof.Rows
namespace Mine
open PySem.Unicode

theorem shifted_gt : ∀ (tbl : List (Nat × Nat × Nat)), (tbl.all fun e => decide (62 < e.2.2)) = true → ∀ c d, shifted tbl c = some d → 62 < d
  | [], _, c, d, h => by cases h
  | (a, b, t) :: r, ha, c, d, h => by
    rw [List.all_cons, Bool.and_eq_true] at ha
    unfold shifted at h
    split at h
    · cases h
    · split at h
      · have h1 : 62 < t := of_decide_eq_true ha.1
        cases h
        omega
      · exact shifted_gt r ha.2 c d h
theorem lookup_all {p : List Nat → Prop} : ∀ (tbl : List (Nat × List Nat)), (∀ e ∈ tbl, p e.2) → ∀ c cs, tbl.lookup c = some cs → p cs
  | [], _, c, cs, h => by cases h
  | (a, b) :: r, ha, c, cs, h => by
    rw [List.lookup_cons] at h
    split at h
    · cases h; exact ha _ List.mem_cons_self
    · exact lookup_all r (fun e he => ha e (List.mem_cons_of_mem _ he)) c cs h
theorem image_sign {one : List (Nat × Nat × Nat)} {several : List (Nat × List Nat)} (h1 : (one.all fun e => decide (62 < e.2.2)) = true) (h2 : (several.all fun e => !e.2.isEmpty && e.2.all fun d => decide (62 < d)) = true) (c : Nat) :
    image one several c ≠ [] ∧ ∀ d ∈ image one several c, d = c ∨ 62 < d := by
  have h2' : ∀ e ∈ several, e.2 ≠ [] ∧ ∀ d ∈ e.2, 62 < d := fun e he => by
    have := List.all_eq_true.mp h2 e he
    rw [Bool.and_eq_true] at this
    refine ⟨fun q => ?_, fun d hd => of_decide_eq_true (List.all_eq_true.mp this.2 d hd)⟩
    rw [q] at this
    exact absurd this.1 (by decide)
  unfold image
  split
  · rename_i cs e
    have := lookup_all (p := fun x => x ≠ [] ∧ ∀ d ∈ x, 62 < d) several h2' c cs e
    exact ⟨this.1, fun d hd => .inr (this.2 d hd)⟩
  · refine ⟨by simp, fun d hd => ?_⟩
    rw [List.mem_singleton] at hd
    cases hs : shifted one c with
    | none => rw [hs] at hd; exact .inl hd
    | some x => rw [hs] at hd; exact .inr (by rw [hd]; exact shifted_gt one h1 c x hs)
theorem lower_sign (c : Nat) : lowerOf c ≠ [] ∧ ∀ d ∈ lowerOf c, d = c ∨ 62 < d := image_sign (by decide +kernel) (by decide +kernel) c
theorem title_sign (c : Nat) : titleOf c ≠ [] ∧ ∀ d ∈ titleOf c, d = c ∨ 62 < d := image_sign (by decide +kernel) (by decide +kernel) c

/-- the reference of a sign -/
def ref (q : Bool) (c : Nat) : List Nat :=
  if c = 38 then [38, 97, 109, 112, 59] else if c = 60 then [38, 108, 116, 59] else if c = 62 then [38, 103, 116, 59]
  else if q = true ∧ c = 34 then [38, 113, 117, 111, 116, 59] else if q = true ∧ c = 39 then [38, 35, 120, 50, 55, 59] else [c]
/-- a sign that references go on with -/
def goesOn (c : Nat) : Prop := c ∈ [97, 109, 112, 108, 116, 103, 113, 117, 111, 120, 50, 55, 35, 59]
def E (q : Bool) (l : List Nat) : List Nat := l.flatMap (ref q)
theorem E_app (q : Bool) (a b : List Nat) : E q (a ++ b) = E q a ++ E q b := List.flatMap_append ..
theorem E_cons (q : Bool) (c : Nat) (l : List Nat) : E q (c :: l) = ref q c ++ E q l := List.flatMap_cons ..
theorem ref_gt {q : Bool} {c : Nat} (h : 62 < c) : ref q c = [c] := by
  unfold ref
  rw [if_neg (by omega), if_neg (by omega), if_neg (by omega), if_neg (by omega), if_neg (by omega)]
/-- a reference: one sign as it is, or & and signs that references go on with -/
theorem ref_shape (q : Bool) (c : Nat) : ref q c = [c] ∨ ∃ r, ref q c = 38 :: r ∧ ∀ d ∈ r, goesOn d := by
  unfold ref goesOn
  split
  · exact .inr ⟨_, rfl, by decide⟩
  · split
    · exact .inr ⟨_, rfl, by decide⟩
    · split
      · exact .inr ⟨_, rfl, by decide⟩
      · split
        · exact .inr ⟨_, rfl, by decide⟩
        · split
          · exact .inr ⟨_, rfl, by decide⟩
          · exact .inl rfl
theorem ref_ne (q : Bool) (c : Nat) : ref q c ≠ [] := by
  rcases ref_shape q c with h | ⟨r, h, _⟩ <;> rw [h] <;> simp
theorem ref_inj {q : Bool} {a b : Nat} {u v : List Nat} (h : ref q a ++ u <+: ref q b ++ v) : a = b := by
  unfold ref at h
  repeat' split at h
  all_goals simp_all [List.cons_prefix_cons]
theorem pre_E {q : Bool} : ∀ {m l : List Nat}, E q m <+: E q l → m <+: l
  | [], _, _ => List.nil_prefix
  | a :: m, [], h => by
    rw [E_cons] at h
    have := List.prefix_nil.mp h
    exact absurd (List.append_eq_nil_iff.mp this).1 (ref_ne q a)
  | a :: m, b :: l, h => by
    rw [E_cons, E_cons] at h
    have e := ref_inj h
    subst e
    rw [List.prefix_append_right_inj] at h
    exact List.cons_prefix_cons.mpr ⟨rfl, pre_E h⟩
theorem cut_pre {m : List Nat} {l : List Nat} {p : List Nat} {ps : List (List Nat)} (h : Cut m l (p :: ps)) : ∀ (s : List Nat), (∀ a b, s = a ++ b → b ≠ [] → ¬ m <+: b ++ l) → Cut m (s ++ l) ((s ++ p) :: ps)
  | [], _ => h
  | c :: s, hs => .miss rfl (hs [] (c :: s) rfl (by simp)) (cut_pre h s fun a b e hb => hs (c :: a) b (by rw [e]; rfl) hb)
theorem cut_E {q : Bool} {c₀ : Nat} {m' : List Nat} (hc : ¬ goesOn c₀) {l : List Nat} {ps : List (List Nat)} (h : Cut (c₀ :: m') l ps) : Cut (E q (c₀ :: m')) (E q l) (ps.map (E q)) := by
  have hhead : ∃ d r, E q (c₀ :: m') = d :: r ∧ ¬ goesOn d := by
    rw [E_cons]
    rcases ref_shape q c₀ with e | ⟨r, e, _⟩
    · exact ⟨c₀, _, by rw [e]; rfl, hc⟩
    · exact ⟨38, _, by rw [e]; rfl, by unfold goesOn; decide⟩
  induction h with
  | nil => exact .nil
  | hit e h ih => exact .hit (by rw [e, E_app]) ih
  | @miss l c r p ps e n h ih =>
    subst e
    have e1 : E q (c :: r) = ref q c ++ E q r := E_cons ..
    have e2 : (List.map (E q) ((c :: p) :: ps)) = (ref q c ++ E q p) :: ps.map (E q) := by rw [List.map_cons, E_cons]
    rw [e1, e2]
    refine cut_pre ih _ fun a b eab hb hpre => ?_
    cases a with
    | nil =>
      have eb : ref q c = b := eab
      rw [← eb, ← e1] at hpre
      exact n (pre_E hpre)
    | cons x a =>
      rcases ref_shape q c with e3 | ⟨r3, e3, hr⟩
      · rw [e3] at eab
        have hnil : [] = a ++ b := (List.cons.inj eab).2
        exact hb (List.append_eq_nil_iff.mp hnil.symm).2
      · rw [e3] at eab
        have hr3 : r3 = a ++ b := (List.cons.inj eab).2
        subst hr3
        cases b with
        | nil => exact hb rfl
        | cons y b =>
          obtain ⟨d, r4, e4, hd⟩ := hhead
          rw [e4] at hpre
          have : d = y := (List.cons_prefix_cons.mp hpre).1
          exact hd (this ▸ hr y (List.mem_append_right _ List.mem_cons_self))
theorem space_goes {c : Nat} (h : goesOn c) : isSpace c = false := by
  unfold goesOn at h
  revert c
  decide +kernel
theorem space_ref {q : Bool} {c : Nat} (h : isSpace c = true) : ref q c = [c] := by
  unfold ref
  repeat' split
  all_goals first | rfl | (exfalso; rename_i e; first | (rw [e] at h; revert h; decide +kernel) | (rw [e.2] at h; revert h; decide +kernel))
theorem wd_pre {l : List Nat} : ∀ (s : List Nat) (b : Bool), s ≠ [] → (∀ c ∈ s, isSpace c = false) → ∀ w ws, wd true l = w :: ws → wd b (s ++ l) = (s ++ w) :: ws
  | [], _, h, _, _, _, _ => absurd rfl h
  | [c], b, _, hs, w, ws, e => by
    show wd b (c :: l) = _
    rw [wd_n b (hs c List.mem_cons_self), e]
    rfl
  | c :: d :: s, b, _, hs, w, ws, e => by
    have ih := wd_pre (d :: s) true (by simp) (fun x hx => hs x (List.mem_cons_of_mem _ hx)) w ws e
    show wd b (c :: (d :: s ++ l)) = _
    rw [wd_n b (hs c List.mem_cons_self), ih]
    rfl
theorem ref_space {q : Bool} {c : Nat} (h : isSpace c = false) : ∀ d ∈ ref q c, isSpace d = false := by
  rcases ref_shape q c with e | ⟨r, e, hr⟩
  · rw [e]; intro d hd; rw [List.mem_singleton.mp hd]; exact h
  · rw [e]
    intro d hd
    rcases List.mem_cons.mp hd with rfl | hd
    · decide +kernel
    · exact space_goes (hr d hd)
theorem wd_E {q : Bool} : ∀ (l : List Nat) (b : Bool), wd b (E q l) = (wd b l).map (E q)
  | [], false => rfl
  | [], true => rfl
  | c :: r, b => by
    rw [E_cons]
    cases hs : isSpace c with
    | true =>
      rw [space_ref hs]
      cases b with
      | false => show wd false (c :: E q r) = _; rw [wd_fs hs, wd_fs hs, wd_E r false]
      | true => show wd true (c :: E q r) = _; rw [wd_ts hs, wd_ts hs, wd_E r false]; rfl
    | false =>
      obtain ⟨w, ws, e⟩ := wd_true r
      have e1 := wd_E (q := q) r true
      rw [e] at e1
      rw [wd_pre (ref q c) b (ref_ne q c) (ref_space hs) (E q w) (ws.map (E q)) e1, wd_n b hs, e]
      show _ = E q (c :: w) :: _
      rw [E_cons]
theorem joinL_E {q : Bool} (m : List Nat) : ∀ ps, E q (joinL m ps) = joinL (E q m) (ps.map (E q))
  | [] => rfl
  | [p] => rfl
  | p :: r :: s => by
    show E q (p ++ m ++ joinL m (r :: s)) = E q p ++ E q m ++ joinL (E q m) ((r :: s).map (E q))
    rw [E_app, E_app, joinL_E m (r :: s)]
theorem ref_other {q : Bool} {c : Nat} (h : ref q c = [c]) {l : List Nat} (hl : ∀ d ∈ l, d = c ∨ 62 < d) : E q l = l := by
  induction l with
  | nil => rfl
  | cons d r ih =>
    rw [E_cons, ih fun x hx => hl x (List.mem_cons_of_mem _ hx)]
    rcases hl d List.mem_cons_self with e | e
    · rw [e, h]; rfl
    · rw [ref_gt e]; rfl
theorem ref_cases (q : Bool) (c : Nat) : ref q c = [c] ∨ c ∈ [38, 60, 62, 34, 39] := by
  unfold ref
  repeat' split
  all_goals simp_all
theorem low_ref (q : Bool) (c : Nat) : (ref q c).flatMap lowerOf = E q (lowerOf c) := by
  rcases ref_cases q c with h | h
  · rw [ref_other h (lower_sign c).2, h]
    simp
  · revert h c
    cases q <;> decide +kernel
theorem tit_ref (q : Bool) (c : Nat) : capL (ref q c) = E q (titleOf c) := by
  rcases ref_cases q c with h | h
  · rw [ref_other h (title_sign c).2, h]
    simp [capL]
  · revert h c
    cases q <;> decide +kernel
theorem low_E (q : Bool) (l : List Nat) : (E q l).flatMap lowerOf = E q (l.flatMap lowerOf) := by
  induction l with
  | nil => rfl
  | cons c r ih => rw [E_cons, List.flatMap_append, ih, low_ref, List.flatMap_cons, E_app]
theorem cap_E (q : Bool) (l : List Nat) : capL (E q l) = E q (capL l) := by
  cases l with
  | nil => rfl
  | cons c r =>
    rw [E_cons]
    have e : capL (ref q c ++ E q r) = capL (ref q c) ++ (E q r).flatMap lowerOf := by
      cases h : ref q c with
      | nil => exact absurd h (ref_ne q c)
      | cons d s =>
        show titleOf d ++ (s ++ E q r).flatMap lowerOf = titleOf d ++ s.flatMap lowerOf ++ _
        rw [List.flatMap_append, List.append_assoc]
    rw [e, tit_ref, low_E]
    show _ = E q (titleOf c ++ r.flatMap lowerOf)
    rw [E_app]
/-- the law, with a mark: what is due, each special sign as its reference -/
theorem law_mark {q : Bool} {c₀ : Nat} {m' l fin : List Nat} {qs : List (List Nat)} (hc : ¬ goesOn c₀) (h : Cap (c₀ :: m') l true [] fin) {ps : List (List Nat)} (hp : Cut (c₀ :: m') l ps) (hq : Cut (E q (c₀ :: m')) (E q l) qs) :
    joinL (E q (c₀ :: m')) (qs.map capL) = E q fin := by
  obtain ⟨p, r, rfl⟩ := hp.ne
  have hne : E q (c₀ :: m') ≠ [] := by rw [E_cons]; exact fun x => ref_ne q c₀ (List.append_eq_nil_iff.mp x).1
  have e := (cut_E (q := q) hc hp).det hne hq
  rw [← e, cap_cut (by simp) h hp]
  show _ = E q (joinL (c₀ :: m') ((p :: r).map capL))
  rw [joinL_E]
  congr 1
  rw [List.map_map, List.map_map]
  exact List.map_congr_left fun x _ => cap_E q x
theorem law_plain {m l fin : List Nat} (hm : m ≠ []) (h : Cap m l true [] fin) {ps : List (List Nat)} (hp : Cut m l ps) : joinL m (ps.map capL) = fin := by
  obtain ⟨p, r, rfl⟩ := hp.ne
  rw [cap_cut hm h hp]
  rfl
theorem law_words {l fin : List Nat} (h : Cap [] l true [] fin) : joinL [32] ((wd false l).map capL) = fin := (cap_words' (fun c => (title_sign c).1) h).symm
theorem law_wordsE {q : Bool} {l fin : List Nat} (h : Cap [] l true [] fin) : joinL [32] ((wd false (E q l)).map capL) = E q fin := by
  rw [cap_words' (fun c => (title_sign c).1) h, joinL_E, wd_E]
  have e : E q [32] = [32] := by cases q <;> rfl
  rw [e]
  congr 1
  rw [List.map_map, List.map_map]
  exact List.map_congr_left fun x _ => cap_E q x
end Mine
end
section
open PySem PySem.W PyProof.Rows
namespace Mine
open PySem.Unicode PySem.StrLaws PySem.Builtin PySem.Builtin.Str

abbrev cl (x : Str) : List Nat := x.cps.toList
theorem cl_app (x y : Str) : cl (x ++ y) = cl x ++ cl y := by show (x ++ y).cps.toList = _; rw [PySem.Str.cps_append, Array.toList_append]
theorem cl_len (x : Str) : (cl x).length = x.length := by simp [PySem.Str.length]
theorem cl_inj {x y : Str} (h : cl x = cl y) : x = y := PySem.Str.ext' (Array.toList_inj.mp h)
theorem at_iff {x y : Str} {k : Nat} (hk : k ≤ x.length) : At x y x.length k ↔ cl y <+: (cl x).drop k := by
  unfold At
  rw [subAt_eq]
  have e := cl_len x
  have e' := cl_len y
  constructor
  · rintro ⟨h1, h2⟩
    have := eq_of_beq h2
    show y.cps.toList <+: _
    rw [← this]
    exact List.take_prefix ..
  · intro h
    have hl := h.length_le
    rw [List.length_drop, e, e'] at hl
    refine ⟨by omega, ?_⟩
    rw [← e']
    have := List.prefix_iff_eq_take.mp h
    rw [← this]
    exact beq_self_eq_true _
theorem cut_none {m : List Nat} (l : List Nat) (h : ∀ a b, l = a ++ b → b ≠ [] → ¬ m <+: b) : Cut m l [l] := by
  have := cut_pre (m := m) (l := []) (p := []) (ps := []) .nil l (fun a b e hb => by rw [List.append_nil]; exact h a b e hb)
  rwa [List.append_nil] at this
theorem drop_of_eq {l a b : List Nat} (h : l = a ++ b) : b = l.drop a.length := by rw [h, List.drop_left]
theorem cut_rest {x y : Str} {a : Nat} (ha : a ≤ x.length) (hn : ∀ k, a ≤ k → ¬ At x y x.length k) : Cut (cl y) ((cl x).drop a) [(cl x).drop a] := by
  refine cut_none _ fun u b e hb hp => ?_
  have hl := congrArg List.length e
  rw [List.length_drop, cl_len, List.length_append] at hl
  have eb := drop_of_eq e
  rw [List.drop_drop] at eb
  rw [eb] at hp
  exact hn (a + u.length) (by omega) ((at_iff (by omega)).mpr hp)
theorem cut_chain {x y : Str} : ∀ (cuts : List Nat) (a f : Nat), ChainG x y x.length a cuts f → (∀ k, f ≤ k → ¬ At x y x.length k) → a ≤ x.length → Cut (cl y) ((cl x).drop a) ((partsFrom x y.length a cuts).map cl)
  | [], a, f, h, hn, ha => by
    have e : f = a := h
    subst e
    have e2 : (partsFrom x y.length f []).map cl = [(cl x).drop f] := by
      show [(strSub x f x.length).cps.toList] = _
      rw [strSub_toList, List.take_of_length_le (by rw [List.length_drop]; simp [PySem.Str.length])]
    rw [e2]
    exact cut_rest ha hn
  | c :: r, a, f, h, hn, ha => by
    obtain ⟨h1, h2, h3, h4⟩ := h
    have hc : c + y.length ≤ x.length := h2.1
    have ih := cut_chain r (c + y.length) f h4 hn hc
    have e1 : (cl x).drop c = cl y ++ (cl x).drop (c + y.length) := by
      obtain ⟨t, ht⟩ := (at_iff (by omega)).mp h2
      have := congrArg (List.drop y.length) ht
      rw [List.drop_drop, ← cl_len y, List.drop_left, cl_len y] at this
      rw [← this, ht]
    have hcut : Cut (cl y) ((cl x).drop c) ([] :: (partsFrom x y.length (c + y.length) r).map cl) := .hit e1 ih
    have e2 : (cl x).drop a = ((cl x).drop a).take (c - a) ++ (cl x).drop c := by
      have := List.take_append_drop (c - a) ((cl x).drop a)
      rw [List.drop_drop, show a + (c - a) = c by omega] at this
      exact this.symm
    have e3 : (partsFrom x y.length a (c :: r)).map cl = (((cl x).drop a).take (c - a) ++ []) :: (partsFrom x y.length (c + y.length) r).map cl := by
      show (strSub x a c).cps.toList :: _ = _
      rw [strSub_toList, List.append_nil]
    rw [e3]
    have key : Cut (cl y) (((cl x).drop a).take (c - a) ++ (cl x).drop c) ((((cl x).drop a).take (c - a) ++ []) :: (partsFrom x y.length (c + y.length) r).map cl) := cut_pre hcut (((cl x).drop a).take (c - a)) fun u b e hb hp => ?_
    · rw [← e2] at key
      exact key
    · have e4 : (cl x).drop a = u ++ (b ++ (cl x).drop c) := by rw [← List.append_assoc, ← e]; exact e2
      have eb := drop_of_eq e4
      rw [List.drop_drop] at eb
      have hl := congrArg List.length e
      rw [List.length_take, List.length_drop, cl_len, List.length_append] at hl
      have hb1 : 0 < b.length := List.length_pos_iff.mpr hb
      rw [eb] at hp
      exact h3 (a + u.length) (by omega) (by omega) ((at_iff (by omega)).mpr hp)
theorem kind_mono {x y : Str} (h : ∀ c ∈ cl y, c ∈ cl x) : Builtin.Str.strKind y ≤ Builtin.Str.strKind x := by
  have k : ∀ B : Nat, x.cps.all (· < B) = true → y.cps.all (· < B) = true := fun B hB => by
    rw [← Array.all_toList] at hB ⊢
    exact List.all_eq_true.mpr fun c hc => List.all_eq_true.mp hB c (h c hc)
  unfold Builtin.Str.strKind
  by_cases a1 : x.cps.all (· < 256) = true
  · rw [if_pos a1, if_pos (k _ a1)]; exact Nat.le_refl _
  · rw [if_neg a1]
    by_cases a2 : x.cps.all (· < 65536) = true
    · rw [if_pos a2, if_pos (k _ a2)]; split <;> omega
    · rw [if_neg a2]; split
      · omega
      · split <;> omega
theorem split_cut (x y : Str) (hy : 1 ≤ y.length) : Cut (cl y) (cl x) ((Txt.split x y).map cl) := by
  obtain ⟨f, hG, hn⟩ := occ_tight x y hy
  have none_at : (∀ k, ¬ At x y x.length k) → Cut (cl y) (cl x) ([x].map cl) := fun h => by
    have := cut_rest (x := x) (y := y) (a := 0) (Nat.zero_le _) (fun k _ => h k)
    simpa using this
  unfold Txt.split
  split
  · rename_i hc
    refine none_at fun k hA => ?_
    rw [Bool.or_eq_true, decide_eq_true_eq, decide_eq_true_eq] at hc
    rcases hc with h | h
    · have := hA.1; omega
    · have hk : k ≤ x.length := by have := hA.1; omega
      have hp := (at_iff hk).mp hA
      have : Builtin.Str.strKind y ≤ Builtin.Str.strKind x := kind_mono fun c hc => List.mem_of_mem_drop (hp.subset hc)
      omega
  · split
    · rename_i he
      have e0 : occurrences x y 0 x.length (x.length + 1) = [] := List.isEmpty_iff.mp he
      rw [e0] at hG
      have ef : f = 0 := hG
      subst ef
      exact none_at fun k => hn k (Nat.zero_le _)
    · rw [partsBetween_eq]
      have := cut_chain _ 0 f hG hn (Nat.zero_le _)
      simpa using this

theorem join_cl (y : Str) (ps : List Str) : cl (Txt.join y ps) = joinL (cl y) (ps.map cl) := by
  show cl (glued y ps) = _
  rw [glued_eq_join]
  have : ∀ ps : List Str, cl (PySem.Str.join y ps) = joinL (cl y) (ps.map cl) := by
    intro ps
    induction ps with
    | nil => rfl
    | cons p r ih =>
      cases r with
      | nil => rfl
      | cons q s =>
        show cl (p ++ y ++ PySem.Str.join y (q :: s)) = cl p ++ cl y ++ joinL (cl y) ((q :: s).map cl)
        rw [cl_app, cl_app, ih]
  exact this ps

theorem flat_idx (f : Nat → Nat → List Nat) (x : Str) : (placed x f).toList = ((cl x).mapIdx f).flatten := by
  unfold placed
  rw [Array.toList_flatten]
  congr 1
  rw [Array.toList_mapIdx]
  apply List.ext_getElem?
  intro i
  simp [List.getElem?_map, List.getElem?_mapIdx]
  cases x.cps[i]? <;> rfl
theorem mapIdx_tail (r : List Nat) (k : Nat) (f : Nat → Nat → List Nat) (hf : ∀ i c, f (i + 1) c = lowerOf c) : (r.mapIdx fun i => f (i + (k + 1))).flatten = r.flatMap lowerOf := by
  induction r generalizing k with
  | nil => rfl
  | cons c s ih =>
    rw [List.mapIdx_cons, List.flatten_cons, List.flatMap_cons]
    have e1 : f (0 + (k + 1)) c = lowerOf c := by rw [Nat.zero_add]; exact hf k c
    have e2 : (fun i => f (i + 1 + (k + 1))) = fun i => f (i + (k + 1 + 1)) := by funext i; congr 1; omega
    rw [e1, e2, ih (k + 1)]
theorem lowerAt_plain {x : Str} (hx : 931 ∉ cl x) {i c : Nat} (h : x.cps[i]? = some c) : lowerAt x.cps i = lowerOf c := by
  unfold lowerAt
  rw [h]
  have hne : (c == 931) = false := by
    rw [beq_eq_false_iff_ne]
    intro e
    apply hx
    rw [← e]
    exact Array.mem_toList_iff.mpr (Array.mem_of_getElem? h)
  simp only [hne, Bool.false_and, Bool.false_eq_true, if_false]
theorem cap_cl {x : Str} (hx : 931 ∉ cl x) : cl (Txt.capitalize x) = capL (cl x) := by
  unfold Txt.capitalize
  cases hz : (x.length == 0) with
  | true =>
    rw [if_pos rfl]
    have : (cl x).length = 0 := by rw [cl_len]; exact eq_of_beq hz
    rw [List.length_eq_zero_iff.mp this]
    rfl
  | false =>
    rw [if_neg Bool.false_ne_true]
    show (placed x _).toList = _
    have e : placed x (fun i c => if i == 0 then titleOf c else lowerAt x.cps i) = placed x (fun i c => if i == 0 then titleOf c else lowerOf c) := by
      unfold placed
      congr 1
      apply Array.ext
      · simp
      · intro i h1 h2
        simp only [Array.getElem_mapIdx]
        have hi : i < x.cps.size := by simpa using h1
        rw [lowerAt_plain hx (i := i) (c := x.cps[i]) (by simp [hi])]
    rw [e, flat_idx]
    cases hl : cl x with
    | nil => rfl
    | cons c r =>
      rw [List.mapIdx_cons, List.flatten_cons]
      show titleOf c ++ _ = titleOf c ++ _
      congr 1
      exact mapIdx_tail r 0 (fun i c => if i == 0 then titleOf c else lowerOf c) fun i c => by simp
theorem low_one {c : Nat} (hc : c ≠ 931) : cl (Txt.lower ⟨#[c]⟩) = lowerOf c := by
  show (placed ⟨#[c]⟩ _).toList = _
  rw [flat_idx]
  show ([c].mapIdx _).flatten = _
  rw [List.mapIdx_cons, List.mapIdx_nil, List.flatten_cons, List.flatten_nil, List.append_nil]
  exact lowerAt_plain (x := ⟨#[c]⟩) (by show 931 ∉ [c]; simp; omega) rfl
theorem tit_one (c : Nat) (hc : c ≠ 931) : cl (Txt.capitalize ⟨#[c]⟩) = titleOf c := by
  rw [cap_cl (by show 931 ∉ [c]; simp; omega)]
  show titleOf c ++ [] = _
  rw [List.append_nil]

/-- words -/
def headApp (a : List Nat) : List (List Nat) → List (List Nat)
  | [] => [a]
  | w :: ws => (a ++ w) :: ws
theorem words_run (x : Str) : ∀ (m cur : Nat) (st : SwSt), cur + m = x.length → SwOk x.length cur st →
    (swEnd x (forIn (List.range' cur m) st (swBody x (x.length + 1))).run).map (fun p => cl (strSub x p.1 p.2)) =
      st.snd.fst.toList.map (fun p => cl (strSub x p.1 p.2)) ++ (match st.snd.snd with | none => wd false ((cl x).drop cur) | some b => headApp (((cl x).drop b).take (cur - b)) (wd true ((cl x).drop cur)))
  | 0, cur, (r, words, start), hm, h => by
    obtain ⟨h1, h2, h3⟩ := h
    have h1' : r = none := h1
    subst h1'
    have ed : (cl x).drop cur = [] := List.drop_of_length_le (by rw [cl_len]; omega)
    show (swEnd x (none, words, start)).map _ = _
    unfold swEnd
    cases start with
    | none => simp only [ed]; show _ = _ ++ []; rw [List.append_nil]
    | some b =>
      simp only [ed]
      show ((words.push (b, x.length)).toList).map _ = _ ++ headApp _ [[]]
      rw [Array.toList_push, List.map_append]
      show _ ++ [(strSub x b x.length).cps.toList] = _ ++ [_ ++ []]
      rw [strSub_toList, List.append_nil, show x.length = cur by omega]
  | m + 1, cur, (r, words, start), hm, h => by
    rw [List.range'_succ, List.forIn_cons]
    obtain ⟨h1, h2, h3⟩ := h
    have hsz : ¬ ((words.size == x.length + 1) = true) := by
      have a := len_le_wsum words.toList
      have b : words.toList.length = words.size := by simp
      have c : wsum words.toList ≤ cur := by
        cases start with
        | none => exact h3
        | some b => exact Nat.le_trans h3.2 h3.1
      rw [beq_iff_eq]; omega
    have hlt : cur < x.cps.size := by show cur < x.length; omega
    have eg : x.cps.getD cur 0 = x.cps[cur] := by simp [Array.getD, hlt]
    have ed : (cl x).drop cur = x.cps[cur] :: (cl x).drop (cur + 1) := by
      rw [List.drop_eq_getElem_cons (by simpa using hlt)]
      simp
    unfold swBody
    simp only [hsz, if_false, eg]
    cases start with
    | none =>
      cases hsp : isSpace x.cps[cur]
      · have ih := words_run x m (cur + 1) (none, words, some cur) (by omega) ⟨rfl, h2, Nat.le_succ cur, h3⟩
        refine ih.trans ?_
        show _ ++ headApp _ _ = _ ++ wd false _
        rw [ed, wd_n false hsp]
        congr 1
        obtain ⟨w, ws, e⟩ := wd_true ((cl x).drop (cur + 1))
        have e2 : ((x.cps[cur] :: (cl x).drop (cur + 1)).take (cur + 1 - cur)) = [x.cps[cur]] := by rw [show cur + 1 - cur = 1 by omega]; rfl
        rw [e, e2]
        rfl
      · have ih := words_run x m (cur + 1) (none, words, none) (by omega) ⟨rfl, h2, Nat.le_succ_of_le h3⟩
        refine ih.trans ?_
        show _ ++ wd false _ = _ ++ wd false _
        rw [ed, wd_fs hsp]
    | some b =>
      have hb : b ≤ cur := h3.1
      have e5 : ((cl x).drop b).take (cur + 1 - b) = ((cl x).drop b).take (cur - b) ++ [x.cps[cur]] := by
        rw [show cur + 1 - b = (cur - b) + 1 by omega, List.take_add_one]
        congr 1
        rw [List.getElem?_drop, show b + (cur - b) = cur by omega]
        simp [hlt]
      cases hsp : isSpace x.cps[cur]
      · have ih := words_run x m (cur + 1) (none, words, some b) (by omega) ⟨rfl, h2, Nat.le_succ_of_le hb, h3.2⟩
        refine ih.trans ?_
        show _ ++ headApp _ _ = _ ++ headApp _ _
        rw [ed, wd_n true hsp, e5]
        congr 1
        obtain ⟨w, ws, e⟩ := wd_true ((cl x).drop (cur + 1))
        rw [e]
        show ((_ ++ [_]) ++ w) :: ws = (_ ++ (_ :: w)) :: ws
        rw [List.append_assoc]
        rfl
      · have ih := words_run x m (cur + 1) (none, words.push (b, cur), none) (by omega) (by
          refine ⟨rfl, ?_, ?_⟩
          · intro p hp
            rw [Array.toList_push, List.mem_append, List.mem_singleton] at hp
            rcases hp with hp | rfl
            · exact h2 p hp
            · show cur ≤ x.length; omega
          · show wsum (words.push (b, cur)).toList ≤ cur + 1
            rw [Array.toList_push, wsum_snoc]
            have a2 : wsum words.toList ≤ b := h3.2
            show wsum words.toList + (cur - b + 1) ≤ cur + 1
            omega)
        refine ih.trans ?_
        show ((words.push (b, cur)).toList).map _ ++ wd false _ = _ ++ headApp _ _
        rw [Array.toList_push, List.map_append, ed, wd_ts hsp, List.append_assoc]
        congr 1
        show [(strSub x b cur).cps.toList] ++ _ = (_ ++ []) :: _
        rw [strSub_toList, List.append_nil]
        rfl
theorem words_cl (x : Str) : (Txt.words x).map cl = wd false (cl x) := by
  have key : (PySem.wordsOf x).map cl = wd false (cl x) := by
    have h := words_run x x.length 0 ((none, #[], none) : SwSt) (by omega) (by
      refine ⟨rfl, ?_, ?_⟩
      · intro p hp; simp at hp
      · exact Nat.le_refl 0)
    rw [← sw_eq] at h
    unfold PySem.wordsOf
    rw [List.map_map]
    refine Eq.trans ?_ (h.trans (by simp))
    rfl
  unfold Txt.words
  split
  · rename_i e
    rw [← key]
    unfold PySem.wordsOf
    rw [eq_of_beq e]
    show [cl x] = [cl (strSub x 0 x.length)]
    rw [sub_whole]
  · exact key

/-- replace by one sign -/
theorem rep_cl (x z : Str) (c : Nat) : cl (Txt.replace x ⟨#[c]⟩ z) = (cl x).flatMap fun d => if d = c then cl z else [d] := by
  rw [replace_one]
  have hf := split_free x c
  have hj := join_split x ⟨#[c]⟩
  have free : ∀ l : List Nat, c ∉ l → (l.flatMap fun d => if d = c then cl z else [d]) = l := by
    intro l hl
    induction l with
    | nil => rfl
    | cons d r ih =>
      rw [List.flatMap_cons, ih fun h => hl (List.mem_cons_of_mem _ h), if_neg fun e => hl (by rw [e]; exact List.mem_cons_self)]
      rfl
  have : ∀ ps : List Str, (∀ p ∈ ps, c ∉ p.cps.toList) → cl (PySem.Str.join z ps) = (cl (PySem.Str.join ⟨#[c]⟩ ps)).flatMap fun d => if d = c then cl z else [d] := by
    intro ps hp
    induction ps with
    | nil => rfl
    | cons p r ih =>
      cases r with
      | nil => exact (free _ (hp p List.mem_cons_self)).symm
      | cons q s =>
        show cl (p ++ z ++ PySem.Str.join z (q :: s)) = (cl (p ++ ⟨#[c]⟩ ++ PySem.Str.join ⟨#[c]⟩ (q :: s))).flatMap _
        rw [cl_app, cl_app, cl_app, cl_app, ih fun a ha => hp a (List.mem_cons_of_mem _ ha), List.flatMap_append, List.flatMap_append, free _ (hp p List.mem_cons_self)]
        congr 2
        show _ = [c].flatMap _
        simp
  rw [this _ hf, hj]
end Mine
end
section
open PySem PySem.W PyProof.Rows
namespace Mine
open PySem.Unicode PySem.StrLaws PySem.Builtin PySem.Builtin.Str
theorem w38 : PySem.Str.ofString "&" = ⟨#[38]⟩ := by decide +kernel
theorem w60 : PySem.Str.ofString "<" = ⟨#[60]⟩ := by decide +kernel
theorem w62 : PySem.Str.ofString ">" = ⟨#[62]⟩ := by decide +kernel
theorem w34 : PySem.Str.ofString "\"" = ⟨#[34]⟩ := by decide +kernel
theorem w39 : PySem.Str.ofString "'" = ⟨#[39]⟩ := by decide +kernel
theorem r38 : PySem.Str.ofString "&amp;" = ⟨#[38, 97, 109, 112, 59]⟩ := by decide +kernel
theorem r60 : PySem.Str.ofString "&lt;" = ⟨#[38, 108, 116, 59]⟩ := by decide +kernel
theorem r62 : PySem.Str.ofString "&gt;" = ⟨#[38, 103, 116, 59]⟩ := by decide +kernel
theorem r34 : PySem.Str.ofString "&quot;" = ⟨#[38, 113, 117, 111, 116, 59]⟩ := by decide +kernel
theorem r39 : PySem.Str.ofString "&#x27;" = ⟨#[38, 35, 120, 50, 55, 59]⟩ := by decide +kernel
def esc3 (x : Str) : Str := Txt.replace (Txt.replace (Txt.replace x (PySem.Str.ofString "&") (PySem.Str.ofString "&amp;")) (PySem.Str.ofString "<") (PySem.Str.ofString "&lt;")) (PySem.Str.ofString ">") (PySem.Str.ofString "&gt;")
def esc5 (x : Str) : Str := Txt.replace (Txt.replace (esc3 x) (PySem.Str.ofString "\"") (PySem.Str.ofString "&quot;")) (PySem.Str.ofString "'") (PySem.Str.ofString "&#x27;")
def escS (q : Bool) (x : Str) : Str := if q = true then esc5 x else esc3 x
theorem esc3_cl (x : Str) : cl (esc3 x) = E false (cl x) := by
  unfold esc3
  rw [w38, w60, w62, r38, r60, r62, rep_cl, rep_cl, rep_cl, List.flatMap_assoc, List.flatMap_assoc]
  unfold E
  congr 1
  funext c
  unfold ref
  by_cases h1 : c = 38
  · rw [if_pos h1, if_pos h1]; rfl
  · by_cases h2 : c = 60
    · subst h2; rfl
    · by_cases h3 : c = 62
      · subst h3; rfl
      · simp [h1, h2, h3]
theorem esc5_cl (x : Str) : cl (esc5 x) = E true (cl x) := by
  unfold esc5
  rw [w34, w39, r34, r39, rep_cl, rep_cl, esc3_cl]
  unfold E
  rw [List.flatMap_assoc, List.flatMap_assoc]
  congr 1
  funext c
  unfold ref
  by_cases h1 : c = 38
  · subst h1; rfl
  · by_cases h2 : c = 60
    · subst h2; rfl
    · by_cases h3 : c = 62
      · subst h3; rfl
      · by_cases h4 : c = 34
        · subst h4; rfl
        · by_cases h5 : c = 39
          · subst h5; rfl
          · simp [h1, h2, h3, h4, h5]
theorem escS_cl (q : Bool) (x : Str) : cl (escS q x) = E q (cl x) := by
  unfold escS
  cases q with
  | true => rw [if_pos rfl]; exact esc5_cl x
  | false => rw [if_neg Bool.false_ne_true]; exact esc3_cl x
theorem rep_len (x z : Str) (c : Nat) (h1 : 1 ≤ z.length) (h6 : z.length ≤ 6) : (Txt.replace x ⟨#[c]⟩ z).length ≤ 6 * x.length := by
  rw [← cl_len, ← cl_len x, rep_cl]
  have hz := cl_len z
  generalize cl x = l
  induction l with
  | nil => simp
  | cons d r ih =>
    rw [List.flatMap_cons, List.length_append, List.length_cons]
    have : (if d = c then cl z else [d]).length ≤ 6 := by
      split
      · omega
      · simp
    omega
theorem E_len (q : Bool) (l : List Nat) : (E q l).length ≤ 6 * l.length := by
  induction l with
  | nil => simp [E]
  | cons d r ih =>
    rw [E_cons, List.length_append, List.length_cons]
    have : (ref q d).length ≤ 6 := by
      unfold ref
      repeat' split
      all_goals simp
    omega
theorem E_le (q : Bool) (l : List Nat) : l.length ≤ (E q l).length := by
  induction l with
  | nil => simp
  | cons d r ih =>
    rw [E_cons, List.length_append, List.length_cons]
    have : 1 ≤ (ref q d).length := List.length_pos_iff.mpr (ref_ne q d)
    omega
theorem escS_len (q : Bool) (x : Str) : (escS q x).length ≤ 6 * x.length := by
  rw [← cl_len, ← cl_len, escS_cl]
  exact E_len q _
theorem escS_ge (q : Bool) (x : Str) : x.length ≤ (escS q x).length := by
  rw [← cl_len, ← cl_len, escS_cl]
  exact E_le q _
theorem esc_sig (q : Bool) {x : Str} (h : 931 ∉ cl x) : 931 ∉ cl (escS q x) := by
  rw [escS_cl]
  unfold E
  intro hm
  obtain ⟨d, hd, hc⟩ := List.mem_flatMap.mp hm
  rcases ref_shape q d with e | ⟨r, e, hr⟩
  · rw [e] at hc; rw [List.mem_singleton.mp hc] at h; exact h hd
  · rw [e] at hc
    rcases List.mem_cons.mp hc with e' | hc
    · exact absurd e' (by decide)
    · have := hr _ hc
      unfold goesOn at this
      revert this
      decide

/-- what capwords gives -/
def cwS (x y : Str) : Str := Txt.join y ((Txt.split x y).map Txt.capitalize)
def cwW (x : Str) : Str := Txt.join (PySem.Str.ofString " ") ((Txt.words x).map Txt.capitalize)
theorem map_cap {l : List Nat} {ps : List Str} (hl : 931 ∉ l) (hs : ∀ p ∈ ps.map cl, ∀ c ∈ p, c ∈ l) : (ps.map Txt.capitalize).map cl = (ps.map cl).map capL := by
  rw [List.map_map, List.map_map]
  refine List.map_congr_left fun p hp => ?_
  exact cap_cl fun h => hl (hs (cl p) (List.mem_map_of_mem hp) 931 h)
theorem cwS_cl {x y : Str} (hx : 931 ∉ cl x) (hy : 1 ≤ y.length) : ∃ ps, Cut (cl y) (cl x) ps ∧ cl (cwS x y) = joinL (cl y) (ps.map capL) := by
  refine ⟨_, split_cut x y hy, ?_⟩
  unfold cwS
  rw [join_cl, map_cap hx (split_cut x y hy).sub]
theorem cwW_cl {x : Str} (hx : 931 ∉ cl x) : cl (cwW x) = joinL [32] ((wd false (cl x)).map capL) := by
  unfold cwW
  have hs : ∀ p ∈ (Txt.words x).map cl, ∀ c ∈ p, c ∈ cl x := by rw [words_cl]; exact wd_sub (cl x) false
  rw [join_cl, map_cap hx hs, words_cl]
  have e : cl (PySem.Str.ofString " ") = [32] := by decide +kernel
  rw [e]
/-- the three laws, as the walk asks them: due is what the scan gives -/
theorem fin_plain {x y due : Str} (hx : 931 ∉ cl x) (hy : 1 ≤ y.length) (h : Cap (cl y) (cl x) true [] (cl due)) : cwS x y = due := by
  obtain ⟨ps, hc, e⟩ := cwS_cl hx hy
  apply cl_inj
  rw [e]
  exact law_plain (fun q => by have := cl_len y; rw [q] at this; simp at this; omega) h hc
theorem fin_words {x due : Str} (hx : 931 ∉ cl x) (h : Cap [] (cl x) true [] (cl due)) : cwW x = due := by
  apply cl_inj
  rw [cwW_cl hx]
  exact law_words h
theorem fin_wordsE {q : Bool} {x due : Str} (hx : 931 ∉ cl x) (h : Cap [] (cl x) true [] (cl due)) : cl (cwW (escS q x)) = E q (cl due) := by
  rw [cwW_cl (esc_sig q hx), escS_cl]
  exact law_wordsE h
theorem fin_markE {q : Bool} {x y due : Str} (hx : 931 ∉ cl x) {c₀ : Nat} {m' : List Nat} (hy : cl y = c₀ :: m') (hc : ¬ goesOn c₀) (h : Cap (cl y) (cl x) true [] (cl due)) : cl (cwS (escS q x) (escS q y)) = E q (cl due) := by
  have hl : 1 ≤ y.length := by rw [← cl_len, hy]; simp
  have hl2 : 1 ≤ (escS q y).length := Nat.le_trans hl (escS_ge q y)
  obtain ⟨qs, hq, e⟩ := cwS_cl (esc_sig q hx) hl2
  rw [e]
  rw [escS_cl, escS_cl] at hq
  rw [escS_cl]
  have hp := split_cut x y hl
  rw [hy] at h hp hq ⊢
  exact law_mark hc h hp hq
end Mine
end
section
open PySem PySem.W PyProof.Rows
namespace Mine
open PySem.Unicode PySem.StrLaws PySem.Builtin PySem.Builtin.Str
theorem slice_cl {x : Str} {i j : Int} (h0 : 0 ≤ i) (h1 : i ≤ j) (h2 : i ≤ x.length) : cl (Txt.slice x (some i) (some j)) = ((cl x).drop i.toNat).take (j - i).toNat := by
  have hx := cl_len x
  by_cases hj : j ≤ x.length
  · have := sliceText_plain (x := x) (i := i) (j := j) ⟨h0, h1, by rw [hx]; exact hj⟩
    show cl (sliceText x (some i) (some j)) = _
    rw [this]
  · have e : strSliceIndices (some i) (some j) 1 x.length = strSliceIndices (some i) (some (x.length : Int)) 1 x.length := by
      have a : ¬ (j < 0) := by omega
      have b : ¬ ((x.length : Int) < 0) := by omega
      have c : min j (x.length : Int) = (x.length : Int) := by omega
      simp [strSliceIndices, a, b, c]
    have e2 : Txt.slice x (some i) (some j) = sliceText x (some i) (some (x.length : Int)) := by
      unfold Txt.slice sliceText
      rw [e]
    rw [e2, sliceText_plain ⟨h0, h2, by rw [hx]; exact Int.le_refl _⟩]
    show ((cl x).drop i.toNat).take _ = _
    rw [List.take_of_length_le (by rw [List.length_drop, hx]; omega), List.take_of_length_le (by rw [List.length_drop, hx]; omega)]
theorem item_at {x : Str} {k : Int} (h0 : 0 ≤ k) (h1 : k < x.length) : ∃ c, Txt.item x k = ⟨#[c]⟩ ∧ (cl x).drop k.toNat = c :: (cl x).drop (k + 1).toNat ∧ c ∈ cl x := by
  have hlt : k.toNat < x.cps.size := by have : x.length = x.cps.size := rfl; omega
  refine ⟨x.cps[k.toNat], ?_, ?_, ?_⟩
  · unfold Txt.item Txt.charAt
    rw [at_nonneg h0 (n := x.cps[k.toNat]) (by simp [hlt])]
    rfl
  · have hlt' : k.toNat < (cl x).length := by simpa using hlt
    rw [List.drop_eq_getElem_cons hlt', show (k + 1).toNat = k.toNat + 1 by omega]
    simp
  · exact Array.mem_toList_iff.mpr (Array.getElem_mem hlt)
abbrev whites : List Int := rangeKs 9 ((14 : Int) - 9).toNat ++ rangeKs 28 ((33 : Int) - 28).toNat ++ [133, 160, 5760] ++ rangeKs 8192 ((8203 : Int) - 8192).toNat ++ [8232, 8233, 8239, 8287, 12288]
theorem whites_are : whites = [9, 10, 11, 12, 13, 28, 29, 30, 31, 32, 133, 160, 5760, 8192, 8193, 8194, 8195, 8196, 8197, 8198, 8199, 8200, 8201, 8202, 8232, 8233, 8239, 8287, 12288] := by decide +kernel
theorem space_iff (c : Nat) : (whites.any fun z => z == (c : Int)) = isSpace c := by
  rw [whites_are]
  rw [Bool.eq_iff_iff]
  unfold isSpace
  rw [show UnicodeData.space = [(9, 13), (28, 32), (133, 133), (160, 160), (5760, 5760), (8192, 8202), (8232, 8233), (8239, 8239), (8287, 8287), (12288, 12288)] from rfl]
  simp only [List.any_cons, List.any_nil, Bool.or_false, Bool.or_eq_true, beq_iff_eq, Unicode.within]
  repeat' split
  all_goals first | omega | (simp; omega) | (simp only [Bool.or_eq_true, decide_eq_true_eq]; omega)
def CapInv (text mark due : Str) (fresh : Bool) (k : Int) : Prop := ∀ fin, Cap (cl mark) ((cl text).drop k.toNat) fresh (cl due) fin → Cap (cl mark) (cl text) true [] fin
abbrev CapAt (text mark due : Str) (fresh : Bool) (k : Int) : Prop := 0 ≤ k ∧ k ≤ (text.length : Int) ∧ (due.length : Int) ≤ 4 * k ∧ CapInv text mark due fresh k
abbrev nul : Str := PySem.Str.ofString ""
theorem nul_cl : cl nul = [] := by decide +kernel
theorem nul_of {y : Str} (h : (y == nul) = true) : cl y = [] := by rw [eq_of_beq h]; exact nul_cl
theorem not_nul {y : Str} (h : (y == nul) = false) : cl y ≠ [] := fun e => by
  have : y = nul := cl_inj (e.trans nul_cl.symm)
  rw [this] at h
  simp at h
theorem nul_pos {y : Str} (h : (y == nul) = false) : 1 ≤ y.length := by
  rw [← cl_len]
  exact List.length_pos_iff.mpr (not_nul h)
section
variable {x y due : Str} {f : Bool} {k : Int}
theorem cs_start : CapAt x y nul true 0 := by
  refine ⟨Int.le_refl _, by omega, by decide +kernel, fun fin h => ?_⟩
  rw [nul_cl] at h
  exact h
theorem cs_white (h0 : 0 ≤ k) (h1 : k < x.length) (hl : (due.length : Int) ≤ 4 * k) (I : CapInv x y due f k) (hy : (y == nul) = true) (hw : (whites.any fun z => z == (((Txt.item x k).cps.getD 0 0 : Nat) : Int)) = true) : CapAt x y due true (k + 1) := by
  obtain ⟨c, e1, e2, _⟩ := item_at h0 h1
  rw [e1] at hw
  have hs : isSpace c = true := (space_iff c).symm.trans hw
  exact ⟨by omega, by omega, by omega, fun fin h => I fin (.white e2 (nul_of hy) hs h)⟩
theorem cs_hit (h0 : 0 ≤ k) (h1 : k < x.length) (hl : (due.length : Int) ≤ 4 * k) (I : CapInv x y due f k) (hy : (y == nul) = false) (hs : (Txt.slice x (some k) (some (k + (y.length : Int))) == y) = true) : CapAt x y (due ++ y) true (k + (y.length : Int)) := by
  have e : cl (Txt.slice x (some k) (some (k + (y.length : Int)))) = cl y := by rw [eq_of_beq hs]
  rw [slice_cl h0 (by omega) (by omega), show (k + (y.length : Int) - k).toNat = y.length by omega] at e
  have e2 : (cl x).drop k.toNat = cl y ++ (cl x).drop (k + (y.length : Int)).toNat := by
    have := List.take_append_drop y.length ((cl x).drop k.toNat)
    rw [e, List.drop_drop, show k.toNat + y.length = (k + (y.length : Int)).toNat by omega] at this
    exact this.symm
  have hlen := congrArg List.length e
  rw [List.length_take, List.length_drop, cl_len, cl_len] at hlen
  refine ⟨by omega, by omega, ?_, fun fin h => I fin (.hit e2 (not_nul hy) ?_)⟩
  · rw [PySem.Str.length_append]; omega
  · rw [cl_app] at h; exact h
theorem not_hit (h0 : 0 ≤ k) (h1 : k < x.length) (hs : (Txt.slice x (some k) (some (k + (y.length : Int))) == y) = false) : ¬ cl y <+: (cl x).drop k.toNat := fun hp => by
  have e : cl (Txt.slice x (some k) (some (k + (y.length : Int)))) = cl y := by
    rw [slice_cl h0 (by omega) (by omega), show (k + (y.length : Int) - k).toNat = y.length by omega, ← cl_len y]
    exact (List.prefix_iff_eq_take.mp hp).symm
  rw [cl_inj e] at hs
  simp at hs
theorem tit_len (c : Nat) (hc : c ≠ 931) : cl (Txt.capitalize ⟨#[c]⟩) = titleOf c ∧ (Txt.capitalize ⟨#[c]⟩).length ≤ 3 := by
  refine ⟨tit_one c hc, ?_⟩
  exact len_capitalize ⟨#[c]⟩
theorem low_len (c : Nat) (hc : c ≠ 931) : cl (Txt.lower ⟨#[c]⟩) = lowerOf c ∧ (Txt.lower ⟨#[c]⟩).length ≤ 3 := by
  refine ⟨low_one hc, ?_⟩
  exact len_lower ⟨#[c]⟩
theorem cs_sp (hx : 931 ∉ cl x) (h0 : 0 ≤ k) (h1 : k < x.length) (hl : (due.length : Int) ≤ 4 * k) (I : CapInv x y due f k) (hy : (y == nul) = true) (hw : (whites.any fun z => z == (((Txt.item x k).cps.getD 0 0 : Nat) : Int)) = false) (hf : f = true) (hd : (due == nul) = false) :
    CapAt x y (due ++ PySem.Str.ofString " " ++ Txt.capitalize (Txt.item x k)) false (k + 1) := by
  obtain ⟨c, e1, e2, hm⟩ := item_at h0 h1
  rw [e1] at hw ⊢
  have hs : isSpace c = false := (space_iff c).symm.trans hw
  have hc : c ≠ 931 := fun e => hx (e ▸ hm)
  obtain ⟨t1, t2⟩ := tit_len c hc
  have e3 : cl (PySem.Str.ofString " ") = [32] := by decide +kernel
  have e4 : (PySem.Str.ofString " ").length = 1 := by decide +kernel
  have hyn := nul_of hy
  subst hf
  refine ⟨by omega, by omega, ?_, fun fin h => I fin (.new e2 (fun _ => hs) (fun n => absurd hyn n) ?_)⟩
  · rw [PySem.Str.length_append, PySem.Str.length_append]; omega
  · rw [if_pos ⟨hyn, not_nul hd⟩]
    rw [cl_app, cl_app, e3, t1] at h
    exact h
theorem cs_first (hx : 931 ∉ cl x) (h0 : 0 ≤ k) (h1 : k < x.length) (hl : (due.length : Int) ≤ 4 * k) (I : CapInv x y due f k) (hy : (y == nul) = true) (hw : (whites.any fun z => z == (((Txt.item x k).cps.getD 0 0 : Nat) : Int)) = false) (hf : f = true) (hd : (due == nul) = true) :
    CapAt x y (due ++ Txt.capitalize (Txt.item x k)) false (k + 1) := by
  obtain ⟨c, e1, e2, hm⟩ := item_at h0 h1
  rw [e1] at hw ⊢
  have hs : isSpace c = false := (space_iff c).symm.trans hw
  have hc : c ≠ 931 := fun e => hx (e ▸ hm)
  obtain ⟨t1, t2⟩ := tit_len c hc
  have hyn := nul_of hy
  subst hf
  refine ⟨by omega, by omega, ?_, fun fin h => I fin (.new e2 (fun _ => hs) (fun n => absurd hyn n) ?_)⟩
  · rw [PySem.Str.length_append]; omega
  · rw [if_neg fun q => q.2 (nul_of hd)]
    rw [cl_app, t1] at h
    exact h
theorem cs_on (hx : 931 ∉ cl x) (h0 : 0 ≤ k) (h1 : k < x.length) (hl : (due.length : Int) ≤ 4 * k) (I : CapInv x y due f k) (hy : (y == nul) = true) (hw : (whites.any fun z => z == (((Txt.item x k).cps.getD 0 0 : Nat) : Int)) = false) (hf : f = false) :
    CapAt x y (due ++ Txt.lower (Txt.item x k)) false (k + 1) := by
  obtain ⟨c, e1, e2, hm⟩ := item_at h0 h1
  rw [e1] at hw ⊢
  have hs : isSpace c = false := (space_iff c).symm.trans hw
  have hc : c ≠ 931 := fun e => hx (e ▸ hm)
  obtain ⟨t1, t2⟩ := low_len c hc
  have hyn := nul_of hy
  subst hf
  refine ⟨by omega, by omega, ?_, fun fin h => I fin (.old e2 (fun _ => hs) (fun n => absurd hyn n) ?_)⟩
  · rw [PySem.Str.length_append]; omega
  · rw [cl_app, t1] at h
    exact h
theorem cs_new (hx : 931 ∉ cl x) (h0 : 0 ≤ k) (h1 : k < x.length) (hl : (due.length : Int) ≤ 4 * k) (I : CapInv x y due f k) (hy : (y == nul) = false) (hw : (Txt.slice x (some k) (some (k + (y.length : Int))) == y) = false) (hf : f = true) :
    CapAt x y (due ++ Txt.capitalize (Txt.item x k)) false (k + 1) := by
  have hn := not_hit h0 h1 hw
  obtain ⟨c, e1, e2, hm⟩ := item_at h0 h1
  rw [e1]
  have hc : c ≠ 931 := fun e => hx (e ▸ hm)
  obtain ⟨t1, t2⟩ := tit_len c hc
  subst hf
  refine ⟨by omega, by omega, ?_, fun fin h => I fin (.new e2 (fun n => absurd n (not_nul hy)) (fun _ => hn) ?_)⟩
  · rw [PySem.Str.length_append]; omega
  · rw [if_neg fun q => not_nul hy q.1]
    rw [cl_app, t1] at h
    exact h
theorem cs_old (hx : 931 ∉ cl x) (h0 : 0 ≤ k) (h1 : k < x.length) (hl : (due.length : Int) ≤ 4 * k) (I : CapInv x y due f k) (hy : (y == nul) = false) (hw : (Txt.slice x (some k) (some (k + (y.length : Int))) == y) = false) (hf : f = false) :
    CapAt x y (due ++ Txt.lower (Txt.item x k)) false (k + 1) := by
  have hn := not_hit h0 h1 hw
  obtain ⟨c, e1, e2, hm⟩ := item_at h0 h1
  rw [e1]
  have hc : c ≠ 931 := fun e => hx (e ▸ hm)
  obtain ⟨t1, t2⟩ := low_len c hc
  subst hf
  refine ⟨by omega, by omega, ?_, fun fin h => I fin (.old e2 (fun n => absurd n (not_nul hy)) (fun _ => hn) ?_)⟩
  · rw [PySem.Str.length_append]; omega
  · rw [cl_app, t1] at h
    exact h
theorem cs_end (h1 : ¬ k < x.length) (h2 : k ≤ x.length) (I : CapInv x y due f k) : Cap (cl y) (cl x) true [] (cl due) := by
  refine I _ ?_
  rw [List.drop_of_length_le (by rw [cl_len]; omega)]
  exact .stop
end
end Mine
end
section
open PySem PySem.W PyProof.Rows
namespace Mine
set_option maxRecDepth 100000
set_option maxHeartbeats 8000000
section
local macro_rules | `(tactic| walk_at "execs cons") => `(tactic| ((with_reducible refine wpAny_execs_cons ?_); try dsimp only))
local macro_rules | `(tactic| walk_at "execs nil") => `(tactic| (refine wpAny_execs_nil ?_))
theorem replT {prog : Program} {w : World} {A : Around} {E : Value → Shared → Prop} {s : Shared} {x y z : Str} {t u v : Tok} {Q : Value → Shared → Prop} {c : Nat} (n : Nat) (hn : n ≤ s.toks) (hu : u ≠ 0) (hv : v ≠ 0) (huv : u ≠ v) (hy : y = ⟨#[c]⟩) (hyz : (y == z) = false) (hx : x.length ≤ 1048576) (h1 : 1 ≤ z.length) (hz : z.length ≤ 6)
    (hq : ∀ t' k, n ≤ k → (Txt.replace x y z).length ≤ 6 * x.length → Q (.str (Txt.replace x y z) t') { s with toks := k }) : wpAny (model prog w) A (call (.builtin "str.replace") [.str x t, .str y u, .str z v]) Q E s :=
  wpAny_with_toks hn (SC.replaceW hu hv huv hyz hx (by omega) fun t' k hk => hq t' k hk (by rw [hy]; exact rep_len x z c h1 hz))
local macro_rules | `(tactic| walk_at "call builtin:str.replace") => `(tactic| ((refine replT 0 (Nat.zero_le _) (by first | omega | (simp; done) | (simp; omega)) (by first | omega | (simp; done) | (simp; omega)) (by first | omega | (simp; done) | (simp; omega)) (by first | exact w38 | exact w60 | exact w62 | exact w34 | exact w39) (by decide +kernel) (by omega) (by decide +kernel) (by decide +kernel) ?_); intro _ _ _ _))
theorem len_of {s : Str} {n : Nat} (h : s.length = n) {k : Nat} (hk : n ≤ k) : s.length ≤ k := by omega
theorem esc_t {q : Bool} {x : Str} {t : Tok} (h : q = true) : Value.str (esc5 x) t = .str (escS q x) t := by unfold escS; rw [if_pos h]
theorem esc_f {q : Bool} {x : Str} {t : Tok} (h : q = false) : Value.str (esc3 x) t = .str (escS q x) t := by unfold escS; rw [if_neg (by rw [h]; exact Bool.false_ne_true)]
theorem c_escape (w : World) (mean : ExcName → Option Value) (mg mb : Str → Option Value) (x : Str) (t : Tok) (q : Bool) (news : List (Addr × Obj)) (hx : x.length ≤ 60) :
    Claim w mean mg mb 30 news [.str x t, .bool q] (fun v => ∃ t', v = .str (escS q x) t') := by
  unfold Claim
  k_fill
  intros
  rename_i hret
  refine wpAny_call ?_
  k_dflt (refine' code_def ?k1 ?k2 ?k3 ?k4 ?k5 ?kA ?kF ?kK ?k6 ?k7 ?k8 ?k9 ?kB ?_ ?c2 ?c3 ?c4 ?c5; (case kA => exact rfl); (case kF => exact rfl); (case kK => assumption); (case k1 => k_asm); (case k2 => k_asm); (case k3 => k_asm); (case k4 => k_asm); (case k5 => k_asm); (case k6 => k_is); (case k7 => k_is); (case k8 => ktr_room); (case k9 => exact binds_K (by k_in) rfl (by k_is) rfl rfl rfl); (case c5 => decide); (case kB => exact locs rfl); (case c2 => exact rfl); (case c3 => exact rfl); (case c4 => exact rfl); k_whole; intro g' L' h' FG' F' N' B' X' T'; (try dsimp only); (try k_lift B'); (try k_fold))
  k_steps
  · exact hret _ _ _ ⟨_, esc_t (by assumption)⟩ (by k_asm) (by k_asm)
  · exact hret _ _ _ ⟨_, esc_f (by assumption)⟩ (by k_asm) (by k_asm)
end
end Mine
end
section
open PySem PySem.W PyProof.Rows
namespace Mine
set_option maxRecDepth 100000
set_option maxHeartbeats 8000000
section
variable {prog : Program} {w : World} {A : Around} {E : Value → Shared → Prop} {s : Shared} {x y : Str} {t u : Tok} {Q : Value → Shared → Prop} {b : Bool}
theorem eqF (h : (x == y) = b) (hq : Q (.bool b) s) : wpAny (model prog w) A (compareOp .Eq (.str x t) (.str y u)) Q E s := by
  rw [← h] at hq
  exact PyProof.Rows.eq_str hq
theorem neF (h : (x == y) = b) (hq : Q (.bool (!b)) s) : wpAny (model prog w) A (compareOp .NotEq (.str x t) (.str y u)) Q E s := by
  rw [← h] at hq
  exact PyProof.Rows.ne_str hq
theorem bne_t {a b : Str} (h : (a != b) = true) : (a == b) = false := by
  unfold bne at h
  rwa [Bool.not_eq_true'] at h
theorem bne_f {a b : Str} (h : (a != b) = false) : (a == b) = true := by
  unfold bne at h
  rwa [Bool.not_eq_false'] at h
end
theorem fall1 {n : Nat} {k : Int} (h0 : 0 ≤ k) (h : k < (n : Int)) : n - (k + 1).toNat < n - k.toNat := by omega
theorem fall2 {n : Nat} {k : Int} {y : Str} (h0 : 0 ≤ k) (h : k < (n : Int)) (hy : (y == nul) = false) : n - (k + (y.length : Int)).toNat < n - k.toNat := by
  have := nul_pos hy
  omega
theorem end60 {k : Int} {x due : Str} (hx : x.length ≤ 60) (h : k ≤ (x.length : Int)) (hd : (due.length : Int) ≤ 4 * k) : due.length ≤ 240 := by omega
section
local macro_rules | `(tactic| walk_at "call type:list") => `(tactic| (k_here; (with_reducible show wpAny _ _ (call (Value.type _) [Value.ref _]) _ _ _); (rename IsRange _ _ _ _ _ _ _ _ => rgX); (with_unfolding_all refine' kll_range ?k0 ?k1 ?k2 ?k3 ?k4 ?k5 ?k6 ?_; (case k0 => rfl); (case k1 => k_asm); (case k2 => k_asm); (case k3 => first | exact rgX | assumption); (case k4 => decide); (case k5 => exact rangeSize_nat _ _); (case k6 => decide); k_whole); intro D' vs' c' h' tk' F' N' l1 hI'; (try k_lt l1); (try k_sweep)))
local macro_rules | `(tactic| walk_at "compareOp Eq str str") => `(tactic| (with_reducible refine eqF (by with_reducible assumption) ?_))
local macro_rules | `(tactic| walk_at "compareOp NotEq str str") => `(tactic| ((with_reducible refine neF (by with_reducible assumption) ?_); dsimp only [Bool.not_true, Bool.not_false]))
theorem c_capped (w : World) (mean : ExcName → Option Value) (mg mb : Str → Option Value) (x y : Str) (t u : Tok) (news : List (Addr × Obj)) (hx : x.length ≤ 60) (hs : 931 ∉ cl x) (hy : y.length ≤ 3) :
    Claim w mean mg mb 44 news [.str x t, .str y u] (fun v => ∃ due t', v = .str due t' ∧ Cap (cl y) (cl x) true [] (cl due) ∧ due.length ≤ 240) := by
  unfold Claim
  k_fill
  intros
  rename_i hret
  refine wpAny_call ?_
  k_dflt cell_enter
  k_with "exec While Compare cons nil" => k_while_given ["text", "mark"] (fun text mark script due fresh k => 0 ≤ k ∧ k ≤ (text.length : Int) ∧ (due.length : Int) ≤ 4 * k ∧ CapInv text mark due fresh k) (fun text mark script due fresh k => text.length - k.toNat) "due" "fresh" "k"
  k_with "state" => first
    | with_reducible exact cs_start
    | with_reducible exact cs_white (by with_reducible assumption) (by with_reducible assumption) (by with_reducible assumption) (by with_reducible assumption) (by with_reducible assumption) (by with_reducible assumption)
    | with_reducible exact cs_hit (by with_reducible assumption) (by with_reducible assumption) (by with_reducible assumption) (by with_reducible assumption) (by with_reducible assumption) (by with_reducible assumption)
    | with_reducible exact cs_sp (by with_reducible assumption) (by with_reducible assumption) (by with_reducible assumption) (by with_reducible assumption) (by with_reducible assumption) (by with_reducible assumption) (by with_reducible assumption) (by with_reducible assumption) (bne_t (by with_reducible assumption))
    | with_reducible exact cs_first (by with_reducible assumption) (by with_reducible assumption) (by with_reducible assumption) (by with_reducible assumption) (by with_reducible assumption) (by with_reducible assumption) (by with_reducible assumption) (by with_reducible assumption) (bne_f (by with_reducible assumption))
    | with_reducible exact cs_on (by with_reducible assumption) (by with_reducible assumption) (by with_reducible assumption) (by with_reducible assumption) (by with_reducible assumption) (by with_reducible assumption) (by with_reducible assumption) (by with_reducible assumption)
    | with_reducible exact cs_new (by with_reducible assumption) (by with_reducible assumption) (by with_reducible assumption) (by with_reducible assumption) (by with_reducible assumption) (by with_reducible assumption) (by with_reducible assumption) (by with_reducible assumption)
    | with_reducible exact cs_old (by with_reducible assumption) (by with_reducible assumption) (by with_reducible assumption) (by with_reducible assumption) (by with_reducible assumption) (by with_reducible assumption) (by with_reducible assumption) (by with_reducible assumption)
  k_with "measure" => first
    | with_reducible exact fall1 (by with_reducible assumption) (by with_reducible assumption)
    | with_reducible exact fall2 (by with_reducible assumption) (by with_reducible assumption) (by with_reducible assumption)
  cases hyb : (y == PySem.Str.ofString "")
  all_goals k_steps
  all_goals (refine hret _ _ _ ⟨_, _, rfl, cs_end (by with_reducible assumption) (by with_reducible assumption) (by with_reducible assumption), end60 hx (by with_reducible assumption) (by with_reducible assumption)⟩ (by k_asm) ?_)
  all_goals (refine cb_drop (by assumption) ?_; kcj_all)
end
end Mine
end
section
open PySem PySem.W PyProof.Rows
namespace Mine
set_option maxRecDepth 100000
section
open PySem.Builtin
theorem owner_map : Manifest.owners.lookup (String.ofList ['p', 'a', 'm'].reverse) = some Manifest.sig_map := by kernel_rfl
theorem slot_map_init : Slot "map" "__init__" "object.__init__" :=
  .of (owner := "object") (n := "__init__") (by rw [typeLookup_type, builtinLookup_eq_fast]; kernel_rfl) (by decide +kernel) (by decide +kernel) (by decide +kernel)
    (by first | exact .inl (by decide +kernel) | exact .inr (by decide +kernel)) (by rw [isSubtype_type]; kernel_rfl)
theorem slot_map_iter : Slot "map" "__iter__" "map.__iter__" :=
  .of (owner := "map") (n := "__iter__") (by rw [typeLookup_type, builtinLookup_eq_fast]; kernel_rfl) (by decide +kernel) (by decide +kernel) (by decide +kernel)
    (by first | exact .inl (by decide +kernel) | exact .inr (by decide +kernel)) (by rw [isSubtype_type]; kernel_rfl)
theorem args_map_iter (a : Value) : argsOk "map.__iter__" ⟨[a], []⟩ := by
  unfold argsOk; rw [signature?_of (id := "map.__iter__") (n := ['_', '_', 'r', 'e', 't', 'i', '_', '_']) (o := ['p', 'a', 'm']) (by kernel_rfl) owner_map]; kernel_rfl
theorem slot_map_next : Slot "map" "__next__" "map.__next__" :=
  .of (owner := "map") (n := "__next__") (by rw [typeLookup_type, builtinLookup_eq_fast]; kernel_rfl) (by decide +kernel) (by decide +kernel) (by decide +kernel)
    (by first | exact .inl (by decide +kernel) | exact .inr (by decide +kernel)) (by rw [isSubtype_type]; kernel_rfl)
theorem entry_map_next : entryFor table "map.__next__" = some Builtin.«map.__next__» := entryFor_of_tree (by kernel_rfl)
theorem args_map_next (a : Value) : argsOk "map.__next__" ⟨[a], []⟩ := by
  unfold argsOk; rw [signature?_of (id := "map.__next__") (n := ['_', '_', 't', 'x', 'e', 'n', '_', '_']) (o := ['p', 'a', 'm']) (by kernel_rfl) owner_map]; kernel_rfl
theorem entry_map_iter : entryFor table "map.__iter__" = some Builtin.«dict_keyiterator.__iter__» :=
  entryFor_alias (id' := "dict_keyiterator.__iter__") (by kernel_rfl) (by first | rfl | decide +kernel | (unfold String.splitOn; simp +decide [String.splitOnAux])) (by decide +kernel) (by kernel_rfl)
theorem mro_map : mroOf (.type "map") = pure [.type "map", .type "object"] := by rw [mroOf_type]; kernel_rfl
theorem lookup_map_new : typeLookup (.type "map") "__new__" = pure (some (.builtin "map.__new__")) := by rw [typeLookup_type, builtinLookup_eq_fast]; kernel_rfl
theorem called_map : TypeCalled "map" "map.__new__" "object.__init__" :=
  ⟨by decide +kernel, by decide +kernel, ⟨_, _, mro_map⟩, madeBy_type mro_map lookup_map_new (by decide +kernel), by decide +kernel, by rw [isSubtype_type]; kernel_rfl, slot_map_init⟩
theorem typeCall_map_2 (a b : Value) : checkTypeCall "map" ⟨[a, b], []⟩ = pure () := by kernel_rfl
theorem newCall_map_2 (a b : Value) : checkBuiltinCall "map.__new__" ⟨[.type "map", a, b], []⟩ = pure () := by kernel_rfl
theorem entry_map_new : entryFor table "map.__new__" = some Builtin.«map.__new__» := entryFor_of_tree (by kernel_rfl)
theorem sub_map : isSubtype (.type "map") (.type "map") = pure true := by rw [isSubtype_type]; kernel_rfl
theorem map_no_len : typeLookup (.type "map") "__len__" = pure none := by rw [typeLookup_type, builtinLookup_eq_fast]; kernel_rfl
theorem map_no_hint : typeLookup (.type "map") "__length_hint__" = pure none := by rw [typeLookup_type, builtinLookup_eq_fast]; kernel_rfl

abbrev mapObj (T : Addr) (f : Value) : Obj := { cls := .type "map", data := .fields #[.ref T, f] }
abbrev oneTup (i : Addr) : Obj := { cls := .type "tuple", data := .seq #[.ref i] }
abbrev lstIter (l : Addr) : Obj := { cls := .type "list_iterator", data := .fields #[.ref l, .int 0 0] }
abbrev mapH1 (h : Heap) (l : Addr) : Heap := h.push (lstIter l)
abbrev mapH2 (h : Heap) (l : Addr) : Heap := (mapH1 h l).push (oneTup h.objs.size)
abbrev mapH3 (h : Heap) (l : Addr) (f : Value) : Heap := (mapH2 h l).push (mapObj (mapH1 h l).objs.size f)
theorem meets_map_new (f : String) (l : Addr) (xs : Array Value) :
    Meets (Builtin.«map.__new__» ⟨[.type "map", .builtin f, .ref l], []⟩) (fun _ R s => s.heap.IsList l xs ∧ R (.ok (.ret (.ref (mapH2 s.heap l).objs.size))) { s with heap := mapH3 s.heap l (.builtin f) }) :=
  .of_wp fun prog w A R s h => by
    obtain ⟨hp, g, d, tk, os⟩ := s; obtain ⟨hl, h⟩ := h
    have hsub := sub_map
    have hL : Heap.IsList (Shared.heap ⟨hp, g, d, tk, os⟩) l xs := hl
    wp_walk using wpAny_pyIter_list hL
    exact ⟨_, rfl, h⟩
section
variable {prog : Program} {w : World} {A : Around} {E : Value → Shared → Prop} {s : Shared}
theorem call_map {f : String} {l : Addr} {xs : Array Value} {Q : Value → Shared → Prop} (hl : s.heap.IsList l xs)
    (h : Q (.ref (s.heap.objs.size + 2)) { s with heap := mapH3 s.heap l (.builtin f) }) : wpAny (model prog w) A (call (.type "map") [.builtin f, .ref l]) Q E s := by
  refine callType_new called_map (by decide) (typeCall_map_2 _ _) (newCall_map_2 _ _) (fun obj => F.args_object_init_3 obj _ _) entry_map_new (meets_map_new f l xs) ⟨hl, ?_⟩
  have z1 : (mapH1 s.heap l).objs.size = s.heap.objs.size + 1 := Heap.size_push ..
  have z2 : (mapH2 s.heap l).objs.size = s.heap.objs.size + 2 := by rw [Heap.size_push, z1]
  have g3 : (mapH3 s.heap l (.builtin f)).get? (mapH2 s.heap l).objs.size = some _ := Heap.get?_push_size _ rfl
  show _ ∧ _
  rw [z2] at g3 ⊢
  exact ⟨⟨_, g3, rfl⟩, h⟩
theorem map_next_item {z T i l : Addr} {k : Nat} {xs : Array Value} {x : Str} {u : Tok} {Q : Value → Shared → Prop}
    (hz : s.heap.get? z = some (mapObj T (.builtin "str.capitalize"))) (hT : s.heap.get? T = some (oneTup i)) (h1 : s.heap.IsListIter i l k) (hl : s.heap.IsList l xs) (hx : xs[k]? = some (.str x u)) (hlen : x.length ≤ 400) (hzi : z ≠ i)
    (hQ : ∀ h' t' tk, h'.IsListIter i l (k + 1) → Heap.SameBut i s.heap h' → Q (.str (Txt.capitalize x) t') { s with heap := h', toks := tk }) :
    wpAny (model prog w) A (Builtin.«map.__next__» ⟨[.ref z], []⟩) (fun fin s' => ∃ v, fin = .done (.ret v) ∧ Q v s') E s := by
  show wpAny _ _ (field (.ref z) 0 >>= _) _ _ _
  refine wpAny_bind (wpAny_field hz rfl (x := .ref T) rfl ?_)
  refine wpAny_bind (wpAny_seqItems hT rfl ?_)
  refine wpAny_bind ?_
  simp only [List.forIn_toArray, List.forIn_cons, List.forIn_nil]
  refine wpAny_bind (wpAny_bind (wpAny_holding (wpAny_nextOf_list_item h1 hl hx fun h₂ h1₂ hs₂ => wpAny_pure (wpAny_pure ?_))))
  have hz₂ : h₂.get? z = some (mapObj T (.builtin "str.capitalize")) := hs₂.extBut _ _ hzi hz
  refine wpAny_bind (wpAny_field hz₂ rfl (x := .builtin "str.capitalize") rfl ?_)
  refine wpAny_bind (wpAny_holding ?_)
  refine SCL.capitalize (by omega) fun t' tk _ => ?_
  refine wpAny_bind (wpAny_letGo (wpAny_pure ⟨_, rfl, hQ h₂ t' tk h1₂ hs₂⟩))
end
end
end Mine
end
section
open PySem PySem.W PyProof.Rows
namespace Mine
set_option maxRecDepth 100000
section
open PySem.Builtin
variable {prog : Program} {w : World} {A : Around} {E : Value → Shared → Prop} {s : Shared}
theorem map_next_end {z T i l : Addr} {k : Nat} {xs : Array Value} {Q : Fin → Shared → Prop} (hh : A.handled = none)
    (hz : s.heap.get? z = some (mapObj T (.builtin "str.capitalize"))) (hT : s.heap.get? T = some (oneTup i)) (h1 : s.heap.IsListIter i l k) (hl : s.heap.IsList l xs) (hx : xs[k]? = none)
    (hE : ∀ h' e, Heap.ExtBut i s.heap h' → (∃ o, h'.get? e = some o ∧ o.cls = .type "StopIteration") → E (.ref e) { s with heap := h' }) :
    wpAny (model prog w) A (Builtin.«map.__next__» ⟨[.ref z], []⟩) Q E s := by
  show wpAny _ _ (field (.ref z) 0 >>= _) _ _ _
  refine wpAny_bind (wpAny_field hz rfl (x := .ref T) rfl ?_)
  refine wpAny_bind (wpAny_seqItems hT rfl ?_)
  refine wpAny_bind ?_
  simp only [List.forIn_toArray, List.forIn_cons, List.forIn_nil]
  exact wpAny_bind (wpAny_bind (wpAny_holding (wpAny_nextOf_list_end hh h1 hl hx hE)))
theorem pyNext_map_item {z T i l : Addr} {k : Nat} {xs : Array Value} {x : Str} {u : Tok} {Q : Option Value → Shared → Prop}
    (hz : s.heap.get? z = some (mapObj T (.builtin "str.capitalize"))) (hT : s.heap.get? T = some (oneTup i)) (h1 : s.heap.IsListIter i l k) (hl : s.heap.IsList l xs) (hx : xs[k]? = some (.str x u)) (hlen : x.length ≤ 400) (hzi : z ≠ i)
    (hQ : ∀ h' t' tk, h'.IsListIter i l (k + 1) → Heap.SameBut i s.heap h' → Q (some (.str (Txt.capitalize x) t')) { s with heap := h', toks := tk }) : wpAny (model prog w) A (pyNext (.ref z)) Q E s := by
  have hTy : s.TypeIs (.ref z) "map" := ⟨_, hz, rfl⟩
  unfold pyNext
  exact wpAny_bind (wpAny_attempt (wpAny_callSpecial?_slot (name := Str.ofString "__next__") hTy slot_map_next
    (wpAny_call_entry slot_map_next hTy entry_map_next (map_next_item hz hT h1 hl hx hlen hzi fun h' t' tk a b => wpAny_pure (hQ h' t' tk a b)) (args_map_next _))))
theorem pyNext_map_end {z T i l : Addr} {k : Nat} {xs : Array Value} {Q : Option Value → Shared → Prop} (hh : A.handled = none)
    (hz : s.heap.get? z = some (mapObj T (.builtin "str.capitalize"))) (hT : s.heap.get? T = some (oneTup i)) (h1 : s.heap.IsListIter i l k) (hl : s.heap.IsList l xs) (hx : xs[k]? = none)
    (hQ : ∀ h', Heap.ExtBut i s.heap h' → Q none { s with heap := h' }) : wpAny (model prog w) A (pyNext (.ref z)) Q E s := by
  have hTy : s.TypeIs (.ref z) "map" := ⟨_, hz, rfl⟩
  unfold pyNext
  refine wpAny_bind (wpAny_attempt (wpAny_callSpecial?_slot (name := Str.ofString "__next__") hTy slot_map_next
    (wpAny_call_entry slot_map_next hTy entry_map_next (map_next_end hh hz hT h1 hl hx fun h' e hk he => ?_) (args_map_next _))))
  obtain ⟨o, ho, hc⟩ := he
  refine wpAny_bind (wpAny_isInstance (T := "StopIteration") (b := true) ⟨o, ho, hc⟩ isSubtype_stop ?_)
  exact wpAny_pure (hQ _ hk)
theorem pyIter_map {z T : Addr} {f : Value} {Q : Value → Shared → Prop} (hz : s.heap.get? z = some (mapObj T f)) (h : Q (.ref z) s) : wpAny (model prog w) A (pyIter (.ref z)) Q E s := by
  have hTy : s.TypeIs (.ref z) "map" := ⟨_, hz, rfl⟩
  refine wpAny_pyIter_slot hTy slot_map_iter (wpAny_call_entry slot_map_iter hTy entry_map_iter ?_ (args_map_iter _))
  show wpAny _ _ (ret (.ref z)) _ _ s
  exact wpAny_pure ⟨_, rfl, "map", _, hTy, slot_map_next.lookup, h⟩
theorem walks_map (hh : A.handled = none) (z T i l : Addr) (hzi : z ≠ i) (hTi : T ≠ i) (hli : l ≠ i) (xs : Array Value) (hs : ∀ (k : Nat) (v : Value), xs[k]? = some v → ∃ (x : Str) (u : Tok), v = Value.str x u ∧ x.length ≤ 400) :
    Walks prog w A z [z, T, i, l] [i] xs.size (fun k v => ∃ (x : Str) (u t' : Tok), xs[k]? = some (Value.str x u) ∧ v = Value.str (Txt.capitalize x) t')
      (fun k h => h.get? z = some (mapObj T (.builtin "str.capitalize")) ∧ h.get? T = some (oneTup i) ∧ h.IsListIter i l k ∧ h.IsList l xs) where
  sub := fun c hc => by simp at hc; simp [hc]
  frame := fun k h h' hst hk => by
    obtain ⟨hz, hT, h1, hl⟩ := hst
    exact ⟨hk z (by simp) _ hz, hk T (by simp) _ hT, h1.at fun o e => hk i (by simp) o e, hl.at fun o e => hk l (by simp) o e⟩
  item := fun k s Q E hi hst hQ => by
    obtain ⟨hz, hT, h1, hl⟩ := hst
    obtain ⟨x, u, e, hx⟩ := hs k _ (Array.getElem?_eq_getElem hi)
    have hx' : xs[k]? = some (.str x u) := by rw [Array.getElem?_eq_getElem hi, e]
    refine pyNext_map_item hz hT h1 hl hx' hx hzi fun h' t' tk a b => ?_
    exact hQ _ h' tk ⟨x, u, t', hx', rfl⟩ ⟨b.extBut _ _ hzi hz, b.extBut _ _ hTi hT, a, hl.extBut b.extBut hli⟩ fun c o hc e => b.extBut c o (fun q => hc (by simp [q])) e
  done := fun s Q E hst hQ => by
    obtain ⟨hz, hT, h1, hl⟩ := hst
    exact pyNext_map_end hh hz hT h1 hl (Array.getElem?_eq_none (Nat.le_refl _)) fun h' hk => hQ h' s.toks fun c o hc e => hk c o (fun q => hc (by simp [q])) e
  self := fun k s Q E hst hQ => pyIter_map hst.1 hQ

section
variable {I : Addr} {fp wr : List Addr} {G : Array GenState → Array GenState → Prop} {n : Nat} {P : Nat → Value → Prop} {St : Nat → Shared → Prop}
theorem collect_map {Q : List Value → Shared → Prop} (W : WalksS prog w A.in1 I fp wr G n P St) (hT : ∀ i s, St i s → s.TypeIs (.ref I) "map") (hst : St 0 s) (hfp : ∀ b ∈ fp, b < s.heap.objs.size) (hI : I ∈ fp)
    (hQ : ∀ s' acc, Moved wr G s s' → ItemsOf P acc n → Q acc.toList s') (hn : n ≤ sizeLine) : wpAny (model prog w) A (collect (.ref I)) Q E s := by
  have hSf : s.heap.objs.size ∉ fp := fun hm => Nat.lt_irrefl _ (hfp _ hm)
  have hSI : s.heap.objs.size ≠ I := fun e => hSf (e ▸ hI)
  unfold collect
  refine wpAny_bind (wpAny_runValue (codeAny_builtin F.entry_proto_collect ?_))
  rw [Around.under_plainId F.plain_proto_collect _]
  show wpAny _ A.in1 (newList [] >>= fun l => again (.builtin "list.__iadd__" ⟨[l, .ref I], []⟩)) _ _ s
  refine wpAny_bind (wpAny_newObj_type ?_)
  refine wpAny_pure ⟨plainId_quiet F.plain_list_iadd _, codeAny_builtin F.entry_list_iadd ?_⟩
  rw [Around.under_plainId F.plain_list_iadd _]
  have hst₁ := W.frame 0 s (s.heap.push { cls := .type "list", data := .seq ([] : List Value).toArray }) s.toks hst (Nat.le_refl _) fun b _ o e => Heap.get?_push_of_some _ e
  show wpAny _ A.in1 (Builtin.List.listExtendWith (.ref s.heap.objs.size) (.ref I) (.ref s.heap.objs.size)) _ _ _
  unfold Builtin.List.listExtendWith
  refine wpAny_bind (wpAny_typeOf (hT 0 _ hst₁) ?_)
  have h1 : Builtin.List.listSameRef (.ref s.heap.objs.size) (.ref I) = false := by simp [Builtin.List.listSameRef, hSI]
  have h2 : (Value.type "map" == Value.type "list") = false := by decide
  have h3 : (Value.type "map" == Value.type "tuple") = false := by decide
  simp only [h1, h2, h3, Bool.or_false, Bool.false_eq_true, if_false]
  refine wpAny_bind (W.self 0 _ _ _ hst₁ ?_)
  refine wpAny_bind (wpAny_holding ?_)
  unfold Builtin.List.listLengthHint
  refine wpAny_bind (wpAny_specialOf (hT 0 _ hst₁) map_no_len ?_)
  show wpAny _ A.in1 (specialOf (Value.ref I) (Str.ofString "__length_hint__") >>= _) _ _ _
  refine wpAny_bind (wpAny_specialOf (hT 0 _ hst₁) map_no_hint ?_)
  refine wpAny_pure ?_
  show wpAny _ A.in1 (rule "list.extend.makes-room" >>= fun _ => Builtin.List.listTouch (.ref s.heap.objs.size) >>= fun _ =>
    again (.builtin "list.extend.loop" ⟨[.ref s.heap.objs.size, .ref I, .ref s.heap.objs.size], []⟩)) _ _ _
  refine wpAny_bind (wpAny_rule ?_)
  have hS₁ : (s.heap.push { cls := .type "list", data := .seq ([] : List Value).toArray }).get? s.heap.objs.size = some { cls := .type "list", data := .seq ([] : List Value).toArray } := Heap.get?_push_size _ rfl
  refine wpAny_bind ?_
  show wpAny _ A.in1 (updateSeq s.heap.objs.size (·.push .none) >>= fun _ => updateSeq s.heap.objs.size (·.pop)) _ _ _
  refine wpAny_bind (wpAny_updateSeq hS₁ rfl ?_)
  have hS₂ := Heap.get?_update_self (Obj.mapSeq (·.push Value.none)) hS₁ rfl
  refine wpAny_updateSeq hS₂ rfl ?_
  have hS₃ := Heap.get?_update_self (Obj.mapSeq (·.pop)) hS₂ rfl
  have oth : ∀ b o, b ≠ s.heap.objs.size → (s.heap.push { cls := .type "list", data := .seq ([] : List Value).toArray }).get? b = some o →
      (((s.heap.push { cls := .type "list", data := .seq ([] : List Value).toArray }).update s.heap.objs.size (Obj.mapSeq (·.push Value.none))).update s.heap.objs.size (Obj.mapSeq (·.pop))).get? b = some o :=
    fun b o hb e => (Heap.get?_update_other _ _ (Ne.symm hb)).trans ((Heap.get?_update_other _ _ (Ne.symm hb)).trans e)
  refine wpAny_pure ⟨plainId_quiet F.plain_extend_loop _, codeAny_extend_loopS W hn _ hSf _ n 0 _ _ _ rfl (Nat.zero_le _)
    (W.frame 0 ({ s with heap := s.heap.push { cls := .type "list", data := .seq ([] : List Value).toArray } } : Shared) _ s.toks hst₁ (Nat.le_refl _) fun b hb o e => oth b o (fun h => hSf (h ▸ hb)) e) hS₃ (ItemsOf.nil P) fun s' acc' c' hm hS' hacc => ?_⟩
  show wpAny _ A (load s.heap.objs.size >>= _) _ _ s'
  refine wpAny_bind (wpAny_load hS' ?_)
  refine wpAny_pure (hQ s' acc' (Moved.drop_new (o := { cls := .type "list", data := .seq ([] : List Value).toArray }) (tk := s.toks) (Moved.trans W.gtrans ((Moved.refl W.grefl).then_heap (by first | exact Nat.le_refl _ | exact Nat.le_succ _ | omega) fun b o hb e => ?_) hm) (Nat.le_refl _)) hacc)
  exact oth b o (fun h => hb (h ▸ List.mem_cons_self)) e
theorem join_map {x : Str} {t : Tok} {Q : Value → Shared → Prop} (W : WalksS prog w A.in1.in1 I fp wr G n P St) (hT : ∀ i s, St i s → s.TypeIs (.ref I) "map") (hst : St 0 s) (hfp : ∀ b ∈ fp, b < s.heap.objs.size) (hI : I ∈ fp)
    (hstr : ∀ i v, P i v → ∃ y u, v = Value.str y u)
    (hq : ∀ s' (l : List (Str × Tok)), Moved wr G s s' → ItemsOf P (strValues l).toArray n → JoinOk x (l.map (·.1)) = true ∧ ∀ t' k, Q (.str (Txt.join x (l.map (·.1))) t') { s' with toks := k })
    (hsz : n ≤ sizeLine) :
    wpAny (model prog w) A (call (.builtin "str.join") [.str x t, .ref I]) Q E s := by
  refine wpAny_call (codeAny_call_builtin F.slot_str_join.plain F.entry_str_join (F.slot_str_join.check _ _ _ _ _ _ _ _ (typeIs_str _ _ _) (F.args_str_join_2 _ _) ?_))
  rw [join_tree_other]
  refine wpAny_bind (wpAny_typeOf (hT 0 s hst) ?_)
  show wpAny _ A.in1 ((pyIter (.ref I)).tryCatch _ >>= fun it => collect it >>= fun items => joinTail x items) _ _ s
  refine wpAny_bind (wpAny_tryCatch (W.of_in1.self 0 s _ _ hst ?_))
  refine wpAny_bind (collect_map W hT hst hfp hI (fun s' acc hm hacc => ?_) hsz)
  obtain ⟨l, hl⟩ := exists_strValues acc.toList fun v hv => by
    obtain ⟨j, hj, rfl⟩ := Array.mem_iff_getElem.mp (Array.mem_toList_iff.mp hv)
    exact hstr j _ (hacc.2 j _ (Array.getElem?_eq_getElem hj))
  rw [← hl]
  have hacc' : ItemsOf P (strValues l).toArray n := by rw [hl]; simpa using hacc
  obtain ⟨hok, hpost⟩ := hq s' l hm hacc'
  unfold JoinOk at hok
  rw [Bool.not_eq_true'] at hok
  have g : Gives (joinTail x (strValues l)) (joinMade x l) := by
    have g0 := gives_joinTail x l hok
    cases l with
    | nil => exact g0
    | cons p r => cases r with
      | nil => exact g0
      | cons q r' => exact g0
  exact g prog w A (wants Q E) s' (post_join l ⟨joinFit_length hok, hpost⟩)
end
end
end Mine
end
section
open PySem PySem.W PyProof.Rows
namespace Mine
set_option maxRecDepth 100000
section
variable {prog : Program} {w : World} {A : Around} {E : Value → Shared → Prop} {s : Shared} {h₀ : Heap} {L D : Addr} {m : Str → Option Value} {news : List (Addr × Obj)} {Q : Value → Shared → Prop}
theorem map_led {f : String} {its : Array Value} {c : Nat} (F : Fr h₀ L s.heap m) (N : News h₀ L s.heap news) (hm : (D, listOf its c) ∈ news)
    (h : ∀ i h', Fr h₀ L h' m → News h₀ L h' ((i + 2, mapObj (i + 1) (.builtin f)) :: (i + 1, oneTup i) :: (i, lstIter D) :: news) → (∀ p ∈ news, p.1 < i) → Q (.ref (i + 2)) { s with heap := h' }) :
    wpAny (model prog w) A (call (.type "map") [.builtin f, .ref D]) Q E s := by
  refine call_map (xs := its) ⟨_, (N _ hm).1, rfl, c, rfl⟩ ?_
  have z1 : (mapH1 s.heap D).objs.size = s.heap.objs.size + 1 := Heap.size_push ..
  have z2 : (mapH2 s.heap D).objs.size = s.heap.objs.size + 2 := by rw [Heap.size_push, z1]
  have F1 := F.push (lstIter D)
  have N1 := N.push F (lstIter D)
  have F2 := F1.push (oneTup s.heap.objs.size)
  have N2 := N1.push F1 (oneTup s.heap.objs.size)
  have F3 := F2.push (mapObj (mapH1 s.heap D).objs.size (.builtin f))
  have N3 := N2.push F2 (mapObj (mapH1 s.heap D).objs.size (.builtin f))
  refine h s.heap.objs.size _ F3 ?_ fun p hp => Heap.lt_size (N p hp).1
  have e1 : ((mapH1 s.heap D).push (oneTup s.heap.objs.size)).objs.size = s.heap.objs.size + 2 := z2
  rw [e1] at N3
  have e2 : (s.heap.push (lstIter D)).objs.size = s.heap.objs.size + 1 := z1
  rw [e2] at N3
  have e3 : mapH3 s.heap D (.builtin f) = ((s.heap.push (lstIter D)).push (oneTup s.heap.objs.size)).push (mapObj (s.heap.objs.size + 1) (.builtin f)) := by
    show (mapH2 s.heap D).push (mapObj (mapH1 s.heap D).objs.size (.builtin f)) = _
    rw [z1]
  show News h₀ L (mapH3 s.heap D (.builtin f)) _
  rw [e3]
  exact N3
theorem values_get {l : List (Str × Tok)} {k : Nat} {v : Value} (h : (strValues l).toArray[k]? = some v) : ∃ p, l[k]? = some p ∧ v = .str p.1 p.2 := by
  rw [List.getElem?_toArray] at h
  unfold strValues at h
  rw [List.getElem?_map] at h
  cases e : l[k]? with
  | none => rw [e] at h; cases h
  | some p => rw [e] at h; exact ⟨p, rfl, (Option.some.inj h).symm⟩
theorem join_led {l : List (Str × Tok)} {c : Nat} {i : Addr} {y : Str} {u : Tok} (hh : A.handled = none) (F : Fr h₀ L s.heap m)
    (N : News h₀ L s.heap ((i + 2, mapObj (i + 1) (.builtin "str.capitalize")) :: (i + 1, oneTup i) :: (i, lstIter D) :: (D, listOf (strValues l).toArray c) :: news))
    (hlt : ∀ p ∈ (D, listOf (strValues l).toArray c) :: news, p.1 < i) (hl : ∀ p ∈ l, p.1.length ≤ 400) (hn : l.length ≤ 402) (hy : y.length ≤ 20)
    (h : ∀ t' h' k, Fr h₀ L h' m → News h₀ L h' news → Q (.str (Txt.join y (l.map fun p => Txt.capitalize p.1)) t') { s with heap := h', toks := k }) :
    wpAny (model prog w) A (call (.builtin "str.join") [.str y u, .ref (i + 2)]) Q E s := by
  have nz := N _ List.mem_cons_self
  have nT := N _ (List.mem_cons_of_mem _ List.mem_cons_self)
  have ni := N _ (List.mem_cons_of_mem _ (List.mem_cons_of_mem _ List.mem_cons_self))
  have nD := N _ (List.mem_cons_of_mem _ (List.mem_cons_of_mem _ (List.mem_cons_of_mem _ List.mem_cons_self)))
  have hDi : D < i := hlt _ List.mem_cons_self
  have hsize : (strValues l).toArray.size = l.length := by simp [strValues]
  have hs : ∀ (k : Nat) (v : Value), (strValues l).toArray[k]? = some v → ∃ (x : Str) (u : Tok), v = Value.str x u ∧ x.length ≤ 400 := fun k v hv => by
    obtain ⟨p, hp, e⟩ := values_get hv
    exact ⟨p.1, p.2, e, hl p (List.mem_of_getElem? hp)⟩
  have W := (walks_map (prog := prog) (w := w) (A := A.in1.in1) hh (i + 2) (i + 1) i D (Nat.ne_of_gt (Nat.lt_add_of_pos_right (by decide))) (Nat.ne_of_gt (Nat.lt_add_of_pos_right (by decide))) (Nat.ne_of_lt hDi) (strValues l).toArray hs).toS
  refine join_map W (fun k s st => ⟨_, st.1, rfl⟩) ⟨nz.1, nT.1, ⟨_, ni.1, rfl, rfl⟩, ⟨_, nD.1, rfl, c, rfl⟩⟩ ?_ (by simp) ?_ ?_ ?_
  · intro b hb
    simp only [List.mem_cons, List.not_mem_nil, or_false] at hb
    rcases hb with rfl | rfl | rfl | rfl
    · exact Heap.lt_size nz.1
    · exact Heap.lt_size nT.1
    · exact Heap.lt_size ni.1
    · exact Heap.lt_size nD.1
  · rintro k v ⟨x, u, t', _, rfl⟩
    exact ⟨_, _, rfl⟩
  · intro s' l' hm hit
    have e : l'.map (·.1) = l.map fun p => Txt.capitalize p.1 := by
      have hsz : l'.length = l.length := by
        have := hit.1
        simpa [strValues] using this
      apply List.ext_getElem?
      intro k
      rw [List.getElem?_map, List.getElem?_map]
      by_cases hk : k < l'.length
      · have h1 : l'[k]? = some l'[k] := List.getElem?_eq_getElem hk
        have h2 : (strValues l').toArray[k]? = some (.str l'[k].1 l'[k].2) := by
          rw [List.getElem?_toArray]
          unfold strValues
          rw [List.getElem?_map, h1]
          rfl
        obtain ⟨x, u, t', hx, ex⟩ := hit.2 k _ h2
        obtain ⟨p, hp, ep⟩ := values_get hx
        cases ep
        rw [h1, hp]
        show some l'[k].1 = some (Txt.capitalize p.1)
        injection ex with ex1 _
        rw [ex1]
      · rw [List.getElem?_eq_none (by omega), List.getElem?_eq_none (by omega)]
        rfl
    rw [e]
    have hB : ∀ z ∈ (l.map fun p => Txt.capitalize p.1), z.length ≤ 1200 := fun z hz => by
      obtain ⟨p, hp, rfl⟩ := List.mem_map.mp hz
      have := len_capitalize p.1
      have := hl p hp
      omega
    refine ⟨?_, fun t' k => ?_⟩
    · unfold JoinOk
      rw [Bool.not_eq_true']
      refine StrLaws.joinFits hB ?_
      rw [List.length_map]
      have h1 : l.length * 1200 ≤ 402 * 1200 := Nat.mul_le_mul_right _ hn
      have h2 : l.length * y.length ≤ 402 * 20 := Nat.mul_le_mul hn hy
      omega
    · have keep : ∀ b o, b ≠ i → s.heap.get? b = some o → s'.heap.get? b = some o := fun b o hb eo => hm.heap b o (by simpa using hb) eo
      have key := h t' s'.heap k ⟨F.ns.at' fun o eo => keep L o ni.2.1.symm eo, fun b o eo => keep b o (fun q => by rw [q, ni.2.2] at eo; cases eo) (F.keep b o eo), F.above⟩
        fun p hp => by
          have np := N p (List.mem_cons_of_mem _ (List.mem_cons_of_mem _ (List.mem_cons_of_mem _ (List.mem_cons_of_mem _ hp))))
          have : p.1 < i := hlt p (List.mem_cons_of_mem _ hp)
          exact ⟨keep _ _ (Nat.ne_of_lt this) np.1, np.2⟩
      have es : ({ s' with toks := k } : Shared) = { s with heap := s'.heap, toks := k } := by
        have g1 : s'.gens = s.gens := hm.gens
        have g2 := hm.drawn
        have g3 := hm.os
        cases s'
        cases s
        simp only at g1 g2 g3
        subst g1 g2 g3
        rfl
      rw [es]
      exact key
  · rw [hsize, sizeLine_eq]; omega
end
end Mine
end
section
open PySem PySem.W PyProof.Rows
namespace Mine
set_option maxRecDepth 100000
set_option maxHeartbeats 8000000
section
open PySem.Calls
theorem attr_cap {prog : Program} {w : World} {A : Around} {E : Value → Shared → Prop} {s : Shared} {h₀ : Heap} {L : Addr} {m : Str → Option Value} {expr : Bool} {Q : Value → Shared → Prop} {P : Params} (F : Fr h₀ L s.heap m) (X₀ : (hd.heap_39 P).In h₀)
    (h : Q (.builtin "str.capitalize") { s with toks := s.toks + 1 }) : wpAny (model prog w) A (getAttr (.type "str") (PySem.Str.ofString "capitalize") expr) Q E s := by
  have X := X₀.keeps F.keep
  have hs : Manifest.isStub "str" = false := by decide +kernel
  have hstub : opaqueClassAbove (.type "str") = pure none := by unfold opaqueClassAbove; dsimp only; rw [hs]; rfl
  have ht : kitMeta "str" = true := by decide +kernel
  have L0 : Looks (model prog w) s.heap (typeOf (.type "str")) (.type "type") := Looks.of_pure (kitMeta_of ht)
  have LO : Looks (model prog w) s.heap (opaqueClassAbove (.type "str")) none := Looks.of_pure hstub
  have hg : findIn (hd.heap_39 P) (.type "type") "__getattribute__" = some (some (.builtin "type.__getattribute__")) := type_tga
  have e : findCls (hd.heap_39 P) (.type "str") (.type "type") (PySem.Str.ofString "capitalize") = some (.val (.builtin "str.capitalize")) := by rfl
  refine cls_open X LO L0 hg (looks_hook X (r := none) (by rfl)) (by show subIn (hd.heap_39 P) _ _ = _; rfl) e ?_
  exact wpAny_pure (handed_on rfl h)
end
section
variable {prog : Program} {w : World} {A : Around} {E : Value → Shared → Prop} {s : Shared} {h₀ : Heap} {L : Addr} {m : Str → Option Value} {news : List (Addr × Obj)} {x y : Str} {t u : Tok} {Q : Value → Shared → Prop}
theorem split_led (F : Fr h₀ L s.heap m) (N : News h₀ L s.heap news) (hy : 1 ≤ y.length) (hx : x.length ≤ 400)
    (h : ∀ D l h' k, l.map (·.1) = Txt.split x y → (∀ p ∈ l, p.1.length ≤ 400) → l.length ≤ 402 → Fr h₀ L h' m → News h₀ L h' ((D, listOf (strValues l).toArray 0) :: news) → (∀ p ∈ news, p.1 < D) → Q (.ref D) { s with heap := h', toks := k }) :
    wpAny (model prog w) A (call (.builtin "str.split") [.str x t, .str y u]) Q E s :=
  KSpl.split1 F N (by rw [beq_eq_false_iff_ne]; omega) (fun D l h' k e _ F' N' hd => h D l h' k e (fun p hp => Nat.le_trans (part_short (e ▸ List.mem_map_of_mem hp)) hx) (by have := len_le_of_split e; omega) F' N' hd) (by rw [sizeLine_eq]; omega)
theorem words_led (F : Fr h₀ L s.heap m) (N : News h₀ L s.heap news) (hx : x.length ≤ 400)
    (h : ∀ D l h' k, l.map (·.1) = Txt.words x → (∀ p ∈ l, p.1.length ≤ 400) → l.length ≤ 402 → Fr h₀ L h' m → News h₀ L h' ((D, listOf (strValues l).toArray 0) :: news) → (∀ p ∈ news, p.1 < D) → Q (.ref D) { s with heap := h', toks := k }) :
    wpAny (model prog w) A (call (.builtin "str.split") [.str x t, .none]) Q E s :=
  splitN0None F N (fun l h' k e _ hs _ F' N' => h _ l h' k e (fun p hp => Nat.le_trans (hs p.1 (List.mem_map_of_mem hp)) hx) (by have := len_le_of_words e; omega) F' N' fun p hp => Heap.lt_size (N p hp).1) (by rw [sizeLine_eq]; omega)
theorem all_lt {D i : Addr} {o : Obj} (h : ∀ p ∈ (D, o) :: news, p.1 < i) : ∀ p ∈ (D, o) :: news, p.1 < i := h
theorem cap_split {l : List (Str × Tok)} (e : l.map (·.1) = Txt.split x y) : Txt.join y (l.map fun p => Txt.capitalize p.1) = cwS x y := by
  unfold cwS
  rw [← e, List.map_map]
  rfl
theorem cap_words0 {l : List (Str × Tok)} (e : l.map (·.1) = Txt.words x) : Txt.join (PySem.Str.ofString " ") (l.map fun p => Txt.capitalize p.1) = cwW x := by
  unfold cwW
  rw [← e, List.map_map]
  rfl
end
section
local macro_rules | `(tactic| walk_at "getAttr") => `(tactic| (refine attr_cap (by k_asm) (by k_asm) ?_))
local macro_rules | `(tactic| walk_at "getAttr type:str") => `(tactic| (refine attr_cap (by k_asm) (by k_asm) ?_))
local macro_rules | `(tactic| walk_at "call builtin:str.split") => `(tactic| first
  | (exfalso; omega)
  | ((refine split_led (by k_asm) (by k_asm) (by with_reducible assumption) (by with_reducible assumption) ?_); intro mD ml mh mk me ms mn mF mN md)
  | ((refine words_led (by k_asm) (by k_asm) (by with_reducible assumption) ?_); intro mD ml mh mk me ms mn mF mN md))
local macro_rules | `(tactic| walk_at "call type:map") => `(tactic| ((refine map_led (by k_asm) (by k_asm) List.mem_cons_self ?_); intro mI mh mF mN ml))
local macro_rules | `(tactic| walk_at "call builtin:str.join") => `(tactic| ((refine join_led rfl (by k_asm) (by k_asm) (by with_reducible assumption) (by with_reducible assumption) (by with_reducible assumption) (by first | with_reducible assumption | decide +kernel) ?_); intro mt mh mk mF mN))
theorem c_cap2 (w : World) (mean : ExcName → Option Value) (mg mb : Str → Option Value) (x y : Str) (t u : Tok) (news : List (Addr × Obj)) (hx : x.length ≤ 400) (hy : 1 ≤ y.length) (hy2 : y.length ≤ 20) :
    Claim w mean mg mb 22 news [.str x t, .str y u] (fun v => ∃ t', v = .str (cwS x y) t') := by
  unfold Claim
  k_fill
  intros
  rename_i hret
  refine wpAny_call ?_
  k_dflt (refine' code_def ?k1 ?k2 ?k3 ?k4 ?k5 ?kA ?kF ?kK ?k6 ?k7 ?k8 ?k9 ?kB ?_ ?c2 ?c3 ?c4 ?c5; (case kA => exact rfl); (case kF => exact rfl); (case kK => assumption); (case k1 => k_asm); (case k2 => k_asm); (case k3 => k_asm); (case k4 => k_asm); (case k5 => k_asm); (case k6 => k_is); (case k7 => k_is); (case k8 => ktr_room); (case k9 => exact binds_K (by k_in) rfl (by k_is) rfl rfl rfl); (case c5 => decide); (case kB => exact locs rfl); (case c2 => exact rfl); (case c3 => exact rfl); (case c4 => exact rfl); k_whole; intro g' L' h' FG' F' N' B' X' T'; (try dsimp only); (try k_lift B'); (try k_fold))
  k_steps
  exact hret _ _ _ ⟨_, congrArg (fun z => Value.str z _) (cap_split (by with_reducible assumption))⟩ (by k_asm) (by k_asm)
theorem c_cap1 (w : World) (mean : ExcName → Option Value) (mg mb : Str → Option Value) (x : Str) (t : Tok) (news : List (Addr × Obj)) (hx : x.length ≤ 400) :
    Claim w mean mg mb 22 news [.str x t] (fun v => ∃ t', v = .str (cwW x) t') := by
  unfold Claim
  k_fill
  intros
  rename_i hret
  refine wpAny_call ?_
  k_dflt (refine' code_def ?k1 ?k2 ?k3 ?k4 ?k5 ?kA ?kF ?kK ?k6 ?k7 ?k8 ?k9 ?kB ?_ ?c2 ?c3 ?c4 ?c5; (case kA => exact rfl); (case kF => exact rfl); (case kK => assumption); (case k1 => k_asm); (case k2 => k_asm); (case k3 => k_asm); (case k4 => k_asm); (case k5 => k_asm); (case k6 => k_is); (case k7 => k_is); (case k8 => ktr_room); (case k9 => exact binds_K (by k_in) rfl (by k_is) rfl rfl rfl); (case c5 => decide); (case kB => exact locs rfl); (case c2 => exact rfl); (case c3 => exact rfl); (case c4 => exact rfl); k_whole; intro g' L' h' FG' F' N' B' X' T'; (try dsimp only); (try k_lift B'); (try k_fold))
  k_steps
  exact hret _ _ _ ⟨_, congrArg (fun z => Value.str z _) (cap_words0 (by with_reducible assumption))⟩ (by k_asm) (by k_asm)
end
end Mine
end
section
open PySem PySem.W PyProof.Rows PyProof.Rows.LCg
namespace Mine
set_option maxRecDepth 100000
section
variable {prog : Program} {w : World} {A : Around} {E : Value → Shared → Prop} {R : Result → Shared → Prop} {s : Shared} {elt i0 i1 : Expr} {x0 x1 : Str} {p0 p1 : Pos} {scope : Scope} {pos : Pos} {it acc : Value} {env : Env}
abbrev two (elt i0 i1 : Expr) (x0 x1 : Str) (p0 p1 : Pos) (scope : Scope) (pos : Pos) : Expr := .ListComp elt [⟨.Name x0 p0, i0, [], 0⟩, ⟨.Name x1 p1, i1, [], 0⟩] scope pos
theorem turn1_eq : compTurn (two elt i0 i1 x0 x1 p0 p1 scope pos) 1 it acc env = (standAt i1.pos >>= fun _ => pyNext it >>= fun r => match r with
      | none => pure (.done .next)
      | some v => letOwnedTupleGo (.Name x1 p1) it v >>= fun _ => assign (.Name x1 p1) env v >>= fun _ =>
        (eval elt env >>= fun x => call (.builtin "list.append") [acc, x] >>= fun _ => pure ()) >>= fun _ =>
          again (.compLoop (two elt i0 i1 x0 x1 p0 p1 scope pos) 1 it acc env)) := by rfl
theorem turn0_eq : compTurn (two elt i0 i1 x0 x1 p0 p1 scope pos) 0 it acc env = (standAt i0.pos >>= fun _ => pyNext it >>= fun r => match r with
      | none => pure (.done .next)
      | some v => letOwnedTupleGo (.Name x0 p0) it v >>= fun _ => assign (.Name x0 p0) env v >>= fun _ =>
        eval i1 env >>= fun x => standAt i1.pos >>= fun _ => foldedSetIterable i1 env x >>= fun x => holding [x] (pyIter x) >>= fun j =>
          runOwn (.compStart (two elt i0 i1 x0 x1 p0 p1 scope pos) 1 j acc env) env >>= fun _ =>
          again (.compLoop (two elt i0 i1 x0 x1 p0 p1 scope pos) 0 it acc env)) := by rfl
theorem start1 (h0 : codeAny (model prog w) A (.compLoop (two elt i0 i1 x0 x1 p0 p1 scope pos) 1 it acc env) R s)
    (h : wpAny (model prog w) A (pyIter it) (fun it' s' => codeAny (model prog w) A (.compLoop (two elt i0 i1 x0 x1 p0 p1 scope pos) 1 it' acc env) R s') (notedBy (model prog w) A env fun x s' => R (.error x) s') s) :
    codeAny (model prog w) A (.compStart (two elt i0 i1 x0 x1 p0 p1 scope pos) 1 it acc env) R s := by
  refine codeAny_of_tree ?_
  show wpAny _ _ ((compStart (two elt i0 i1 x0 x1 p0 p1 scope pos) 1 it acc env).onRaise (fun x => do noteFrame x env; standAt theWindowsPlace)) _ _ s
  refine wpAny_notedAt ?_
  unfold compStart
  show wpAny _ _ (ask >>= _) _ _ s
  refine wpAny_bind (wpAny_askSetting (wpAny_ite ?_))
  split
  · first
      | exact wpAny_bind (wpAny_pure (wpAny_pure (And.intro rfl h0)))
      | exact wpAny_pure (And.intro rfl h0)
  · first
      | exact wpAny_bind (wpAny_rule (wpAny_bind (wpAny_standAt (wpAny_bind (wpAny_mono h (fun it' s' h' => wpAny_pure (And.intro rfl h')) fun _ _ x => x)))))
      | (refine wpAny_bind (wpAny_rule ?_); show wpAny _ _ (standAt i1.pos >>= _) _ _ s; exact wpAny_bind (wpAny_standAt (wpAny_bind (wpAny_mono h (fun it' s' h' => wpAny_pure (And.intro rfl h')) fun _ _ x => x))))
theorem loop1 (I : Nat → Shared → Prop)
    (turn : ∀ n s, I n s → wpAny (model prog w) A (pyNext it) (fun r s₁ => match r with
      | none => R (.ok .next) s₁
      | some v => wpAny (model prog w) A (assign (.Name x1 p1) env v) (fun _ s₂ => wpAny (model prog w) A (eval elt env) (fun x s₃ =>
          wpAny (model prog w) A (call (.builtin "list.append") [acc, x]) (fun _ s₄ => ∃ m, m < n ∧ I m s₄) (notedBy (model prog w) A env fun e s' => R (.error e) s') s₃)
          (notedBy (model prog w) A env fun e s' => R (.error e) s') s₂) (notedBy (model prog w) A env fun e s' => R (.error e) s') s₁) (notedBy (model prog w) A env fun e s' => R (.error e) s') s)
    (n : Nat) (h : I n s) : codeAny (model prog w) A (.compLoop (two elt i0 i1 x0 x1 p0 p1 scope pos) 1 it acc env) R s := by
  refine codeAny_loop rfl I (fun n s hI => ?_) n h
  show wpAny _ _ ((compTurn (two elt i0 i1 x0 x1 p0 p1 scope pos) 1 it acc env).onRaise (fun x => do noteFrame x env; theTreesLotGoes x)) _ _ s
  refine wpAny_noted ?_
  rw [turn1_eq]
  refine wpAny_bind (wpAny_standAt (wpAny_bind (wpAny_mono (turn n s hI) (fun r s₁ h₁ => ?_) fun _ _ h' => h')))
  cases r with
  | none => exact wpAny_pure h₁
  | some v =>
    refine wpAny_bind (wpAny_of_eq (a := ()) rfl ?_)
    exact wpAny_bind (wpAny_mono h₁ (fun _ s₂ h₂ => wpAny_bind (wpAny_bind (wpAny_mono h₂ (fun x s₃ h₃ => wpAny_bind (wpAny_mono h₃
      (fun _ s₄ h₄ => wpAny_pure (wpAny_pure ⟨rfl, h₄⟩)) fun _ _ h' => h')) fun _ _ h' => h'))) fun _ _ h' => h')
theorem loop0 (I : Nat → Shared → Prop) (hs : ∀ x, foldedSetIterable i1 env x = pure x)
    (turn : ∀ n s, I n s → wpAny (model prog w) A (pyNext it) (fun r s₁ => match r with
      | none => R (.ok .next) s₁
      | some v => wpAny (model prog w) A (assign (.Name x0 p0) env v) (fun _ s₂ => wpAny (model prog w) A (eval i1 env) (fun x s₃ =>
          wpAny (model prog w) A (pyIter x) (fun j s₄ => codeAny (model prog w) A (.compStart (two elt i0 i1 x0 x1 p0 p1 scope pos) 1 j acc env) (fun r s₅ => match r with
              | .ok _ => ∃ m, m < n ∧ I m s₅
              | .error _ => False) s₄) (notedBy (model prog w) A env fun e s' => R (.error e) s') s₃)
          (notedBy (model prog w) A env fun e s' => R (.error e) s') s₂) (notedBy (model prog w) A env fun e s' => R (.error e) s') s₁) (notedBy (model prog w) A env fun e s' => R (.error e) s') s)
    (n : Nat) (h : I n s) : codeAny (model prog w) A (.compLoop (two elt i0 i1 x0 x1 p0 p1 scope pos) 0 it acc env) R s := by
  refine codeAny_loop rfl I (fun n s hI => ?_) n h
  show wpAny _ _ ((compTurn (two elt i0 i1 x0 x1 p0 p1 scope pos) 0 it acc env).onRaise (fun x => do noteFrame x env; theTreesLotGoes x)) _ _ s
  refine wpAny_noted ?_
  rw [turn0_eq]
  refine wpAny_bind (wpAny_standAt (wpAny_bind (wpAny_mono (turn n s hI) (fun r s₁ h₁ => ?_) fun _ _ h' => h')))
  cases r with
  | none => exact wpAny_pure h₁
  | some v =>
    refine wpAny_bind (wpAny_of_eq (a := ()) rfl ?_)
    refine wpAny_bind (wpAny_mono h₁ (fun _ s₂ h₂ => wpAny_bind (wpAny_mono h₂ (fun x s₃ h₃ => ?_) fun _ _ h' => h')) fun _ _ h' => h')
    refine wpAny_bind (wpAny_standAt (wpAny_bind (wpAny_of_eq (hs x) (wpAny_bind (wpAny_holding (wpAny_mono h₃ (fun j s₄ h₄ => ?_) fun _ _ h' => h'))))))
    refine wpAny_bind (wpAny_runOwn (codeAny_mono h₄ (fun r s₅ h₅ => ?_)))
    cases r with
    | ok f => exact wpAny_pure ⟨rfl, h₅⟩
    | error e => exact h₅.elim
end
end Mine
end
section
open PySem PySem.W PyProof.Rows PyProof.Rows.LCg
namespace Mine
set_option maxRecDepth 100000
def Short3 (ys : List Value) : Prop := ∀ v ∈ ys, ∃ (z : Str) (t : Tok), v = .str z t ∧ z.length ≤ 3
theorem Short3.snoc {ys : List Value} (h : Short3 ys) {z : Str} {t : Tok} (hz : z.length ≤ 3) : Short3 (ys ++ [.str z t]) := fun v hv => by
  rcases List.mem_append.mp hv with hv | hv
  · exact h v hv
  · rw [List.mem_singleton.mp hv]; exact ⟨z, t, rfl, hz⟩
section
variable {prog : Program} {w : World} {A : Around} {E : Value → Shared → Prop} {s : Shared} {h₀ : Heap} {m : Str → Option Value} {elt i0 i1 : Expr} {x0 x1 y : Str} {p0 p1 py : Pos} {scope : Scope} {cl : List (Str × Addr)} {pos spos : Pos} {env : Env} {news : List (Addr × Obj)} {Q : Flow → Shared → Prop}
theorem news_new {h h' : Heap} {L a : Addr} {o : Obj} {led : List (Addr × Obj)} (N : News h₀ L h led) (hk : ∀ b o, h.get? b = some o → h'.get? b = some o) (ha : h'.get? a = some o) (hL : a ≠ L) (h0 : h₀.get? a = none) : News h₀ L h' ((a, o) :: led) := fun p hp => by
  rcases List.mem_cons.mp hp with rfl | hp
  · exact ⟨ha, hL, h0⟩
  · exact ⟨hk _ _ (N p hp).1, (N p hp).2⟩
theorem news_set {h h' : Heap} {L X : Addr} {o o' : Obj} (a b : List (Addr × Obj)) (N : News h₀ L h (a ++ (X, o) :: b)) (hk : ∀ b o, b ≠ X → h.get? b = some o → h'.get? b = some o) (hX : h'.get? X = some o') (ha : ∀ p ∈ a, p.1 ≠ X) (hb : ∀ p ∈ b, p.1 ≠ X) : News h₀ L h' (a ++ (X, o') :: b) := fun p hp => by
  rcases List.mem_append.mp hp with hp | hp
  · have n := N p (List.mem_append_left _ hp)
    exact ⟨hk _ _ (ha p hp) n.1, n.2⟩
  · rcases List.mem_cons.mp hp with rfl | hp
    · have n := N (X, o) (List.mem_append_right _ List.mem_cons_self)
      exact ⟨hX, n.2⟩
    · have n := N p (List.mem_append_right _ (List.mem_cons_of_mem _ hp))
      exact ⟨hk _ _ (hb p hp) n.1, n.2⟩
theorem fr_set {h h' : Heap} {L X : Addr} (F : Fr h₀ L h m) (hk : ∀ b o, b ≠ X → h.get? b = some o → h'.get? b = some o) (hX : X ≠ L) (h0 : h₀.get? X = none) : Fr h₀ L h' m :=
  ⟨F.ns.at' fun o e => hk L o hX.symm e, fun b o e => hk b o (fun q => by rw [q, h0] at e; cases e) (F.keep b o e), F.above⟩
def IterP (s : Shared) (h₀ : Heap) (L : Addr) (m : Str → Option Value) (led : List (Addr × Obj)) (xv : Value) (s₁ : Shared) : Prop :=
  ∃ (r : Addr) (b : Int) (u1 u2 u3 : Tok) (n : Nat) (h' : Heap) (tk' : Nat), xv = .ref r ∧ s₁ = { s with heap := h', toks := tk' } ∧ Fr h₀ L h' m ∧ News h₀ L h' led ∧
      IsRange h' r 0 b 1 u1 u2 u3 ∧ Builtin.Range.small 0 b 1 = true ∧ Builtin.Range.rangeSize 0 b 1 = ((n : Nat) : Int) ∧ n ≤ 60
def EltP (s : Shared) (h₀ : Heap) (L : Addr) (m : Str → Option Value) (led : List (Addr × Obj)) (yv : Value) (s₁ : Shared) : Prop :=
  ∃ (z : Str) (t' : Tok) (h' : Heap) (tk' : Nat), yv = .str z t' ∧ z.length ≤ 3 ∧ s₁ = { s with heap := h', toks := tk' } ∧ Fr h₀ L h' m ∧ News h₀ L h' led
abbrev EvIter (prog : Program) (w : World) (A : Around) (s : Shared) (h₀ : Heap) (m : Str → Option Value) (i1 : Expr) (x0 : Str) (scope : Scope) (cl : List (Str × Addr)) (env : Env) (news : List (Addr × Obj)) : Prop :=
  ∀ (C : Addr) (oC : Obj) (m₂ : Str → Option Value) (more : List (Addr × Obj)) (h : Heap) (tk : Nat) (k : Int) (t : Tok) (E' : Value → Shared → Prop), 1 ≤ k → k ≤ 3 → NsObj oC m₂ → m₂ x0 = some (.int k t) → (∀ p ∈ news, p ∈ more) → Fr h₀ env.locals h m → News h₀ env.locals h ((C, oC) :: more) →
    wpAny (model prog w) A (eval i1 (compEnvC scope cl C env)) (IterP s h₀ env.locals m ((C, oC) :: more)) E' { s with heap := h, toks := tk }
abbrev EvElt (prog : Program) (w : World) (A : Around) (s : Shared) (h₀ : Heap) (m : Str → Option Value) (elt : Expr) (x0 x1 : Str) (scope : Scope) (cl : List (Str × Addr)) (env : Env) (news : List (Addr × Obj)) : Prop :=
  ∀ (C : Addr) (oC : Obj) (m₂ : Str → Option Value) (more : List (Addr × Obj)) (h : Heap) (tk : Nat) (k i : Int) (t u : Tok) (E' : Value → Shared → Prop), 1 ≤ k → k ≤ 3 → 0 ≤ i → i ≤ 60 → NsObj oC m₂ → m₂ x0 = some (.int k t) → m₂ x1 = some (.int i u) → (∀ p ∈ news, p ∈ more) → Fr h₀ env.locals h m → News h₀ env.locals h ((C, oC) :: more) →
    wpAny (model prog w) A (eval elt (compEnvC scope cl C env)) (EltP s h₀ env.locals m ((C, oC) :: more)) E' { s with heap := h, toks := tk }

/-- the inner loop: range from 0, n items; each appends one text of at most 3 signs -/
theorem inner {a I1 I C D : Addr} {oI oa oC : Obj} {ys : List Value} {n j : Nat} {k : Int} {t : Tok} {h : Heap} {tk : Nat} {m' : Str → Option Value} {R : Result → Shared → Prop} (hh : A.handled = none) (hk1 : 1 ≤ k) (hk3 : k ≤ 3) (hn : n ≤ 60) (hj : j ≤ 3)
    (hkind : scope.kind = .function) (hx1 : scope.names.lookup x1 = some .local) (hne : x0 ≠ x1) (helt : EvElt prog w A s h₀ m elt x0 x1 scope cl env news)
    (d1 : I1 ≠ C) (d2 : I1 ≠ D) (d3 : C ≠ D) (d4 : ∀ p ∈ (I, oI) :: (a, oa) :: news, p.1 ≠ I1 ∧ p.1 ≠ C ∧ p.1 ≠ D)
    (F : Fr h₀ env.locals h m) {oI1 : Obj} (N : News h₀ env.locals h ((C, oC) :: (D, lst ys) :: (I1, oI1) :: (I, oI) :: (a, oa) :: news)) (st : IsRangeIter h I1 (0 + ((0 : Nat) : Int) * 1) ((n : Int) - ((0 : Nat) : Int)) 1) (hC : NsObj oC m') (hm : m' x0 = some (.int k t)) (hS : Short3 ys) (hl : ys.length ≤ 60 * j)
    (done : ∀ h' tk' oC' m'' ys', Fr h₀ env.locals h' m → News h₀ env.locals h' ((C, oC') :: (D, lst ys') :: (I, oI) :: (a, oa) :: news) → NsObj oC' m'' → Short3 ys' → ys'.length ≤ 60 * (j + 1) → R (.ok .next) { s with heap := h', toks := tk' }) :
    codeAny (model prog w) A (.compLoop (two elt i0 i1 x0 x1 p0 p1 scope pos) 1 (.ref I1) (.ref D) (compEnvC scope cl C env)) R { s with heap := h, toks := tk } := by
  have W := range_walks (prog := prog) (w := w) (A := A) (I := I1) hh 0 n
  have zI1 := N (I1, oI1) (by simp)
  have zC := N (C, oC) (by simp)
  have zD := N (D, lst ys) (by simp)
  refine loop1 (fun q s' => ∃ h' tk' i oC' oI1' m'' ys', s' = { s with heap := h', toks := tk' } ∧ i ≤ n ∧ q = n + 1 - i ∧ Fr h₀ env.locals h' m ∧ News h₀ env.locals h' ((C, oC') :: (D, lst ys') :: (I1, oI1') :: (I, oI) :: (a, oa) :: news) ∧
      IsRangeIter h' I1 (0 + ((i : Nat) : Int) * 1) ((n : Int) - ((i : Nat) : Int)) 1 ∧ NsObj oC' m'' ∧ m'' x0 = some (.int k t) ∧ Short3 ys' ∧ ys'.length ≤ 60 * j + i) ?_ (n + 1)
    ⟨h, tk, 0, oC, oI1, m', ys, rfl, Nat.zero_le _, rfl, F, N, st, hC, hm, hS, by omega⟩
  rintro q s' ⟨h', tk', i, oC', oI1', m'', ys', rfl, hi, rfl, F', N', st', hC', hm', hS', hl'⟩
  by_cases hlt : i < n
  · refine W.item i _ _ _ hlt st' fun v h₂ tk₂ hPv st₂ hk₂ => ?_
    obtain ⟨u, rfl⟩ := hPv
    have keep₂ : ∀ b o, b ≠ I1 → h'.get? b = some o → h₂.get? b = some o := fun b o hb e => hk₂ b o (by simpa using hb) e
    have N₂ : News h₀ env.locals h₂ ([(C, oC'), (D, lst ys')] ++ (I1, _) :: (I, oI) :: (a, oa) :: news) := news_set [(C, oC'), (D, lst ys')] ((I, oI) :: (a, oa) :: news) N' keep₂ st₂ (fun p hp => by
      simp only [List.mem_cons, List.not_mem_nil, or_false] at hp
      rcases hp with rfl | rfl
      · exact d1.symm
      · exact d2.symm) fun p hp => (d4 p hp).1
    have F₂ : Fr h₀ env.locals h₂ m := fr_set F' keep₂ zI1.2.1 zI1.2.2
    have nsC : h₂.Ns C m'' := hC'.ns (N₂ (C, oC') (by simp)).1
    refine wpAny_assign_Name (wpAny_storeName_local (env := compEnvC scope cl C env) (lookup_relabel_local hx1) nsC (fun h₃ hn₃ hs₃ => ?_) (by simp [compEnvC, relabel, hkind]))
    have keep₃ : ∀ b o, b ≠ C → h₂.get? b = some o → h₃.get? b = some o := fun b o hb e => hs₃.extBut b o hb e
    obtain ⟨oC₃, heC, hoC⟩ := ns_obj hn₃
    have N₃ : News h₀ env.locals h₃ ([] ++ (C, oC₃) :: (D, lst ys') :: (I1, _) :: (I, oI) :: (a, oa) :: news) := news_set [] ((D, lst ys') :: (I1, _) :: (I, oI) :: (a, oa) :: news) N₂ keep₃ heC (fun p hp => nomatch hp) fun p hp => by
      rcases List.mem_cons.mp hp with rfl | hp
      · exact d3.symm
      · rcases List.mem_cons.mp hp with rfl | hp
        · exact d1
        · exact (d4 p hp).2.1
    have F₃ : Fr h₀ env.locals h₃ m := fr_set F₂ keep₃ zC.2.1 zC.2.2
    refine wpAny_mono (helt C oC₃ _ ((D, lst ys') :: (I1, _) :: (I, oI) :: (a, oa) :: news) h₃ _ k (0 + (i : Int)) t u _ hk1 hk3 (by omega) (by omega) hoC (by show (if x0 = x1 then _ else _) = _; rw [if_neg hne]; exact hm') (by show (if x1 = x1 then _ else _) = _; rw [if_pos rfl]) (fun p hp => by simp [hp]) F₃ N₃) (fun yv s₄ h₄ => ?_) fun _ _ e => e
    obtain ⟨z, t', h₄, tk₄, rfl, hz, rfl, F₄, N₄⟩ := h₄
    have zD₄ := (N₄ (D, lst ys') (by simp)).1
    refine append_at (hsz := by show ys'.toArray.size ≤ sizeLine; rw [List.size_toArray, sizeLine_eq]; omega) zD₄ fun h₅ hs₅ hD₅ => ?_
    have keep₅ : ∀ b o, b ≠ D → h₄.get? b = some o → h₅.get? b = some o := fun b o hb e => hs₅.extBut b o hb e
    have hD₅' : h₅.get? D = some (lst (ys' ++ [.str z t'])) := hD₅.trans (congrArg some (lst_snoc ys' (.str z t')))
    have N₅ : News h₀ env.locals h₅ ([(C, oC₃)] ++ (D, lst (ys' ++ [.str z t'])) :: (I1, _) :: (I, oI) :: (a, oa) :: news) := news_set [(C, oC₃)] ((I1, _) :: (I, oI) :: (a, oa) :: news) N₄ keep₅ hD₅' (fun p hp => by rw [List.mem_singleton.mp hp]; exact d3) fun p hp => by
      rcases List.mem_cons.mp hp with rfl | hp
      · exact d2
      · exact (d4 p hp).2.2
    have zI₅ := (N₅ (I1, _) (List.mem_cons_of_mem _ (List.mem_cons_of_mem _ List.mem_cons_self))).1
    exact ⟨n + 1 - (i + 1), by omega, h₅, tk₄, i + 1, oC₃, _, _, _, rfl, hlt, rfl, fr_set F₄ keep₅ zD.2.1 zD.2.2, N₅, zI₅, hoC, (by show (if x0 = x1 then _ else _) = _; rw [if_neg hne]; exact hm'), hS'.snoc hz, by rw [List.length_append, List.length_singleton]; omega⟩
  · obtain rfl : i = n := Nat.le_antisymm hi (Nat.not_lt.mp hlt)
    refine W.done _ _ _ st' fun h₂ tk₂ hk₂ => ?_
    have keep₂ : ∀ b o, b ≠ I1 → h'.get? b = some o → h₂.get? b = some o := fun b o hb e => hk₂ b o (by simpa using hb) e
    refine done h₂ tk₂ oC' m'' ys' (fr_set F' keep₂ zI1.2.1 zI1.2.2) (fun p hp => ?_) hC' hS' (by omega)
    have n9 : p ∈ (C, oC') :: (D, lst ys') :: (I1, oI1') :: (I, oI) :: (a, oa) :: news := by
      simp only [List.mem_cons] at hp ⊢
      rcases hp with h | h | h | h | h <;> simp [h]
    have hne9 : p.1 ≠ I1 := by
      rcases List.mem_cons.mp hp with rfl | hp
      · exact d1.symm
      · rcases List.mem_cons.mp hp with rfl | hp
        · exact d2.symm
        · exact (d4 p hp).1
    exact ⟨keep₂ _ _ hne9 (N' p n9).1, (N' p n9).2⟩
end
end Mine
end
section
open PySem PySem.W PyProof.Rows PyProof.Rows.LCg
namespace Mine
set_option maxRecDepth 100000
section
variable {prog : Program} {w : World} {A : Around} {E : Value → Shared → Prop} {s : Shared} {h₀ : Heap} {m : Str → Option Value} {elt i0 i1 : Expr} {x0 x1 y : Str} {p0 p1 py : Pos} {scope : Scope} {cl : List (Str × Addr)} {pos spos : Pos} {env : Env} {news : List (Addr × Obj)} {Q : Flow → Shared → Prop}
abbrev TupItems (its : Array Value) : Prop := ∀ (j : Nat) (v : Value), its[j]? = some v → ∃ (k : Int) (t : Tok), v = .int k t ∧ 1 ≤ k ∧ k ≤ 3
theorem outer {a I C D : Addr} {oI oa oC : Obj} {its : Array Value} {na : Nat} {h : Heap} {tk : Nat} {m' : Str → Option Value} {R : Result → Shared → Prop} (hh : A.handled = none) (hits : TupItems its) (h3 : its.size ≤ 3) (hac : oa.cls = .type "tuple") (had : oa.data = .seq its na)
    (hkind : scope.kind = .function) (hx0 : scope.names.lookup x0 = some .local) (hx1 : scope.names.lookup x1 = some .local) (hne : x0 ≠ x1) (hs1 : ∀ x, foldedSetIterable i1 (compEnvC scope cl C env) x = pure x)
    (hiter : EvIter prog w A s h₀ m i1 x0 scope cl env news) (helt : EvElt prog w A s h₀ m elt x0 x1 scope cl env news)
    (d1 : I ≠ C) (d2 : I ≠ D) (d3 : C ≠ D) (d4 : ∀ p ∈ (a, oa) :: news, p.1 ≠ I ∧ p.1 ≠ C ∧ p.1 ≠ D)
    (F : Fr h₀ env.locals h m) (N : News h₀ env.locals h ((C, oC) :: (D, lst []) :: (I, oI) :: (a, oa) :: news)) (st : h.IsTupleIter I a 0) (hC : NsObj oC m')
    (done : ∀ h' tk' oC' m'' ys', Fr h₀ env.locals h' m → News h₀ env.locals h' ((C, oC') :: (D, lst ys') :: news) → NsObj oC' m'' → Short3 ys' → ys'.length ≤ 180 → R (.ok .next) { s with heap := h', toks := tk' }) :
    codeAny (model prog w) A (.compLoop (two elt i0 i1 x0 x1 p0 p1 scope pos) 0 (.ref I) (.ref D) (compEnvC scope cl C env)) R { s with heap := h, toks := tk } := by
  have dIa : a ≠ I := (d4 (a, oa) List.mem_cons_self).1
  have W := Walks.tuple (prog := prog) (w := w) (A := A) hh I a dIa its
  have zI := N (I, oI) (by simp)
  have zC := N (C, oC) (by simp)
  have zD := N (D, lst []) (by simp)
  refine loop0 (fun q s' => ∃ h' tk' j oC' oI' m'' ys', s' = { s with heap := h', toks := tk' } ∧ j ≤ its.size ∧ q = its.size + 1 - j ∧ Fr h₀ env.locals h' m ∧ News h₀ env.locals h' ((C, oC') :: (D, lst ys') :: (I, oI') :: (a, oa) :: news) ∧
      h'.IsTupleIter I a j ∧ NsObj oC' m'' ∧ Short3 ys' ∧ ys'.length ≤ 60 * j) hs1 ?_ (its.size + 1)
    ⟨h, tk, 0, oC, oI, m', [], rfl, Nat.zero_le _, rfl, F, N, st, hC, (fun v hv => nomatch hv), by simp⟩
  rintro q s' ⟨h', tk', j, oC', oI', m'', ys', rfl, hj, rfl, F', N', st', hC', hS', hl'⟩
  have isT : h'.IsTuple a its := ⟨oa, (N' (a, oa) (by simp)).1, hac, na, had⟩
  by_cases hlt : j < its.size
  · refine W.item j _ _ _ hlt ⟨st', isT⟩ fun v h₂ tk₂ hPv st₂ hk₂ => ?_
    obtain ⟨k, t, rfl, hk1, hk3⟩ := hits j v hPv
    have keep₂ : ∀ b o, b ≠ I → h'.get? b = some o → h₂.get? b = some o := fun b o hb e => hk₂ b o (by simpa using hb) e
    obtain ⟨oI₂, heI, hcI, hdI⟩ := st₂.1
    have N₂ : News h₀ env.locals h₂ ([(C, oC'), (D, lst ys')] ++ (I, oI₂) :: (a, oa) :: news) := news_set [(C, oC'), (D, lst ys')] ((a, oa) :: news) N' keep₂ heI (fun p hp => by
      simp only [List.mem_cons, List.not_mem_nil, or_false] at hp
      rcases hp with rfl | rfl
      · exact d1.symm
      · exact d2.symm) fun p hp => (d4 p hp).1
    have F₂ : Fr h₀ env.locals h₂ m := fr_set F' keep₂ zI.2.1 zI.2.2
    have nsC : h₂.Ns C m'' := hC'.ns (N₂ (C, oC') (by simp)).1
    refine wpAny_assign_Name (wpAny_storeName_local (env := compEnvC scope cl C env) (lookup_relabel_local hx0) nsC (fun h₃ hn₃ hs₃ => ?_) (by simp [compEnvC, relabel, hkind]))
    have keep₃ : ∀ b o, b ≠ C → h₂.get? b = some o → h₃.get? b = some o := fun b o hb e => hs₃.extBut b o hb e
    obtain ⟨oC₃, heC, hoC⟩ := ns_obj hn₃
    have N₃ : News h₀ env.locals h₃ ([] ++ (C, oC₃) :: (D, lst ys') :: (I, oI₂) :: (a, oa) :: news) := news_set [] ((D, lst ys') :: (I, oI₂) :: (a, oa) :: news) N₂ keep₃ heC (fun p hp => nomatch hp) fun p hp => by
      rcases List.mem_cons.mp hp with rfl | hp
      · exact d3.symm
      · rcases List.mem_cons.mp hp with rfl | hp
        · exact d1
        · exact (d4 p hp).2.1
    have F₃ : Fr h₀ env.locals h₃ m := fr_set F₂ keep₃ zC.2.1 zC.2.2
    have hmx : (fun y => if y = x0 then some (Value.int k t) else m'' y) x0 = some (.int k t) := by show (if x0 = x0 then _ else _) = _; rw [if_pos rfl]
    refine wpAny_mono (hiter C oC₃ _ ((D, lst ys') :: (I, oI₂) :: (a, oa) :: news) h₃ _ k t _ hk1 hk3 hoC hmx (fun p hp => by simp [hp]) F₃ N₃) (fun xv s₄ h₄ => ?_) fun _ _ e => e
    obtain ⟨r, b, u1, u2, u3, n, h₄, tk₄, rfl, rfl, F₄, N₄, hr, hsm, hn, hn60⟩ := h₄
    refine wpAny_pyIter_range hr hsm ?_
    have hI1L : h₄.objs.size ≠ env.locals := Nat.ne_of_gt F₄.ns.lt
    have below : ∀ p ∈ (C, oC₃) :: (D, lst ys') :: (I, oI₂) :: (a, oa) :: news, p.1 ≠ h₄.objs.size := fun p hp => Nat.ne_of_lt (Heap.lt_size (N₄ p hp).1)
    have up : ∀ (o : Obj) b o', h₄.get? b = some o' → (h₄.push o).get? b = some o' := fun o b o' e => Heap.get?_push_of_some _ e
    have st0 : IsRangeIter (h₄.push { cls := .type "range_iterator", data := .fields #[.int 0 0, .int (Builtin.Range.rangeSize 0 b 1) 0, .int 1 0] }) h₄.objs.size (0 + ((0 : Nat) : Int) * 1) ((n : Int) - ((0 : Nat) : Int)) 1 := by
      have e1 : (0 + ((0 : Nat) : Int) * 1) = 0 := by simp
      have e2 : (n : Int) - ((0 : Nat) : Int) = (n : Int) := by simp
      rw [hn, e1, e2]
      exact Heap.get?_push_size _ rfl
    obtain ⟨oR, hoR⟩ : ∃ oR, (h₄.push { cls := .type "range_iterator", data := .fields #[.int 0 0, .int (Builtin.Range.rangeSize 0 b 1) 0, .int 1 0] }).get? h₄.objs.size = some oR := ⟨_, st0⟩
    have N₅ := news_new N₄ (up _) hoR hI1L (next_is_new F₄)
    have F₅ := F₄.keeps (up { cls := .type "range_iterator", data := .fields #[.int 0 0, .int (Builtin.Range.rangeSize 0 b 1) 0, .int 1 0] })
    have go := inner (oI1 := oR) (i0 := i0) (i1 := i1) (p0 := p0) (p1 := p1) (pos := pos) (tk := tk₄) (R := fun r s₅ => match r with
              | .ok _ => ∃ q', q' < its.size + 1 - j ∧ ∃ h' tk' j oC' oI' m'' ys', s₅ = { s with heap := h', toks := tk' } ∧ j ≤ its.size ∧ q' = its.size + 1 - j ∧ Fr h₀ env.locals h' m ∧ News h₀ env.locals h' ((C, oC') :: (D, lst ys') :: (I, oI') :: (a, oa) :: news) ∧
                  h'.IsTupleIter I a j ∧ NsObj oC' m'' ∧ Short3 ys' ∧ ys'.length ≤ 60 * j
              | .error _ => False) hh hk1 hk3 hn60 (j := j) (by omega) hkind hx1 hne helt (below (C, oC₃) (by simp)).symm (below (D, lst ys') (by simp)).symm d3
      (fun p hp => ⟨below p (by simp only [List.mem_cons] at hp ⊢; rcases hp with h | h | h <;> simp [h]), (by
        rcases List.mem_cons.mp hp with rfl | hp
        · exact ⟨d1, d2⟩
        · exact ⟨(d4 p hp).2.1, (d4 p hp).2.2⟩)⟩) F₅ (fun p hp => N₅ p (by simp only [List.mem_cons] at hp ⊢; rcases hp with h | h | h | h | h | h <;> simp [h])) st0 hoC hmx hS' hl'
      (fun h₆ tk₆ oC₆ m₆ ys₆ F₆ N₆ hC₆ hS₆ hl₆ => ⟨its.size + 1 - (j + 1), by omega, h₆, tk₆, j + 1, oC₆, oI₂, m₆, ys₆, rfl, hlt, rfl, F₆, N₆, ⟨oI₂, (N₆ (I, oI₂) (by simp)).1, hcI, hdI⟩, hC₆, hS₆, hl₆⟩)
    exact start1 go ((range_walks (prog := prog) (w := w) (A := A) (I := h₄.objs.size) hh 0 n).self 0 _ _ _ st0 go)
  · obtain rfl : j = its.size := Nat.le_antisymm hj (Nat.not_lt.mp hlt)
    refine W.done _ _ _ ⟨st', isT⟩ fun h₂ tk₂ hk₂ => ?_
    have keep₂ : ∀ b o, b ≠ I → h'.get? b = some o → h₂.get? b = some o := fun b o hb e => hk₂ b o (by simpa using hb) e
    refine done h₂ tk₂ oC' m'' ys' (fr_set F' keep₂ zI.2.1 zI.2.2) (fun p hp => ?_) hC' hS' (by omega)
    have n9 : p ∈ (C, oC') :: (D, lst ys') :: (I, oI') :: (a, oa) :: news := by
      simp only [List.mem_cons] at hp ⊢
      rcases hp with h | h | h <;> simp [h]
    have hne9 : p.1 ≠ I := by
      rcases List.mem_cons.mp hp with rfl | hp
      · exact d1.symm
      · rcases List.mem_cons.mp hp with rfl | hp
        · exact d2.symm
        · exact (d4 p (List.mem_cons_of_mem _ hp)).1
    exact ⟨keep₂ _ _ hne9 (N' p n9).1, (N' p n9).2⟩
end
end Mine
end
section
open PySem PySem.W PyProof.Rows PyProof.Rows.LCg
namespace Mine
set_option maxRecDepth 100000
section
variable {prog : Program} {w : World} {A : Around} {E : Value → Shared → Prop} {s : Shared} {h₀ : Heap} {m : Str → Option Value} {elt i0 i1 : Expr} {x0 x1 y : Str} {p0 p1 py : Pos} {scope : Scope} {cl : List (Str × Addr)} {pos spos : Pos} {env : Env} {news : List (Addr × Obj)} {Q : Flow → Shared → Prop}
def FirstP (s : Shared) (h₀ : Heap) (L : Addr) (m : Str → Option Value) (news : List (Addr × Obj)) (xv : Value) (s₁ : Shared) : Prop :=
  ∃ (a : Addr) (oa : Obj) (its : Array Value) (n : Nat) (h : Heap) (tk : Nat), xv = .ref a ∧ s₁ = { s with heap := h, toks := tk } ∧ Fr h₀ L h m ∧ News h₀ L h ((a, oa) :: news) ∧
      oa.cls = .type "tuple" ∧ oa.data = .seq its n ∧ its.size ≤ 3 ∧ TupItems its
theorem assign_two (F₀ : Fr h₀ env.locals s.heap m) (N₀ : News h₀ env.locals s.heap news) (hh : A.handled = none) (hsw : swapsWith (two elt i0 i1 x0 x1 p0 p1 scope pos) (some (.Name y py)) spos.line env = pure true)
    (hclos : closureFor scope env = pure cl) (hcell : ∀ z ∈ scope.names, z.2 ≠ .cell) (hkind : scope.kind = .function)
    (hnames : ∀ z ∈ scope.names, z.2 = .local → scope.names.lookup z.1 = some .local) (hx0 : scope.names.lookup x0 = some .local) (hx1 : scope.names.lookup x1 = some .local) (hne : x0 ≠ x1)
    (hy : env.kindOf y = some .local) (hp : (env.scope.kind == .class || (env.scope.kind == .module && env.locals != env.globals)) = false)
    (hs0 : ∀ x, foldedSetIterable i0 env x = pure x) (hs1 : ∀ C x, foldedSetIterable i1 (compEnvC scope cl C env) x = pure x)
    (hfirst : wpAny (model prog w) A (eval i0 env) (FirstP s h₀ env.locals m news) E s)
    (hiter : EvIter prog w A s h₀ m i1 x0 scope cl env news) (helt : EvElt prog w A s h₀ m elt x0 x1 scope cl env news)
    (fin : ∀ D ys h tk, Fr h₀ env.locals h (fun z => if z = y then some (.ref D) else m z) → News h₀ env.locals h ((D, lst ys) :: news) → (∀ p ∈ news, p.1 < D) → Short3 ys → ys.length ≤ 180 → Q .next { s with heap := h, toks := tk }) :
    wpAny (model prog w) A (exec (.Assign [.Name y py] (two elt i0 i1 x0 x1 p0 p1 scope pos) spos) env) Q E s := by
  rw [exec_Assign_Name_used _ _ _ _ hsw]
  refine wpAny_bind (wpAny_standAt (wpAny_bind ?_))
  show wpAny _ A (do let _ ← comprehension (two elt i0 i1 x0 x1 p0 p1 scope pos) scope env _ (newList []) false (eval i0 env) (some (assign (.Name y py) env))) _ _ s
  refine wpAny_bind (wpAny_mono (wpAny_comprehension_free (use := some (assign (.Name y py) env)) (Q := fun _ s' => Q .next s') rfl hs0 hclos hkind hnames
    (wpAny_mono hfirst (fun xv s₁ h₁ => ?_) fun _ _ e => e)) (fun _ s' hq => wpAny_pure (wpAny_pure hq)) fun _ _ e => e)
  obtain ⟨a, oa, its, na, h, tk, rfl, rfl, F, N, hac, had, h3, hits⟩ := h₁
  have isT : h.IsTuple a its := ⟨oa, (N (a, oa) List.mem_cons_self).1, hac, na, had⟩
  refine wpAny_pyIter_tuple isT ?_
  generalize hIg : h.objs.size = I
  have hIg' : (Shared.heap { s with heap := h, toks := tk }).objs.size = I := hIg
  generalize hHg : h.push { cls := .type "tuple_iterator", data := .fields #[.ref a, .int 0 0] } = H1
  have up1 : ∀ b o, h.get? b = some o → H1.get? b = some o := fun b o e => by rw [← hHg]; exact Heap.get?_push_of_some _ e
  have st1 : H1.IsTupleIter I a 0 := ⟨_, by rw [← hHg, ← hIg]; exact Heap.get?_push_size _ rfl, rfl, rfl⟩
  have hH1 : H1.objs.size = I + 1 := by rw [← hHg, Heap.size_push, hIg]
  show wpAny _ A (newList []) _ _ { s with heap := H1, toks := tk }
  refine wpAny_newObj_type (wpAny_newFunctionEnv hcell (by intro z hz; simp at hz) (fun h₂ hns₂ hsb₂ => ?_) hkind)
  dsimp only at hns₂ hsb₂ ⊢
  generalize hH2 : H1.push { cls := .type "list", dict := none, data := .seq ([] : List Value).toArray } = H2 at hns₂ hsb₂ ⊢
  have hC : H2.objs.size = I + 2 := by rw [← hH2, Heap.size_push, hH1]
  rw [hC] at hns₂ hsb₂ ⊢
  rw [hH1]
  have hlt : ∀ b o, h.get? b = some o → b < I := fun b o e => by rw [← hIg]; exact Heap.lt_size e
  have nI1 : (I : Nat) ≠ I + 2 := by omega
  have keep2 : ∀ b o, b ≠ I + 2 → H1.get? b = some o → h₂.get? b = some o := fun b o hb e => hsb₂.extBut b o hb (Heap.get?_push_of_some _ (hH2 ▸ Heap.get?_push_of_some _ e))
  have old : ∀ b o, h.get? b = some o → h₂.get? b = some o := fun b o e => keep2 b o (Nat.ne_of_lt (Nat.lt_of_lt_of_le (hlt b o e) (Nat.le_add_right _ _))) (up1 b o e)
  have hacc : h₂.get? (I + 1) = some (lst []) := by
    have e1 : H2.get? (I + 1) = some (lst []) := by rw [← hH2, ← hH1]; exact Heap.get?_push_size _ rfl
    exact hsb₂.extBut _ _ (show (I + 1 : Nat) ≠ I + 2 by omega) (Heap.get?_push_of_some _ e1)
  obtain ⟨oI, heI, hcI, hdI⟩ := st1
  have heI2 : h₂.get? I = some oI := keep2 I oI nI1 heI
  obtain ⟨oC, heC, hoC⟩ := ns_obj hns₂
  have fresh₀ : ∀ b, I ≤ b → h₀.get? b = none := fun b hb => by
    cases e : h₀.get? b with
    | none => rfl
    | some o' => exact absurd (hlt b o' (F.keep b o' e)) (Nat.not_lt.mpr hb)
  have hLlt : env.locals < I := by rw [← hIg]; exact F.ns.lt
  have F₂ : Fr h₀ env.locals h₂ m := F.keeps old
  have N0 : News h₀ env.locals h₂ ((a, oa) :: news) := fun p hp => ⟨old _ _ (N p hp).1, (N p hp).2⟩
  have NI : News h₀ env.locals h₂ ((I, oI) :: (a, oa) :: news) := fun p hp => by
    rcases List.mem_cons.mp hp with rfl | hp
    · exact ⟨heI2, Nat.ne_of_gt hLlt, fresh₀ _ (Nat.le_refl _)⟩
    · exact N0 p hp
  have ND : News h₀ env.locals h₂ ((I + 1, lst []) :: (I, oI) :: (a, oa) :: news) := fun p hp => by
    rcases List.mem_cons.mp hp with rfl | hp
    · exact ⟨hacc, Nat.ne_of_gt (Nat.lt_succ_of_lt hLlt), fresh₀ _ (Nat.le_succ _)⟩
    · exact NI p hp
  have NC : News h₀ env.locals h₂ ((I + 2, oC) :: (I + 1, lst []) :: (I, oI) :: (a, oa) :: news) := fun p hp => by
    rcases List.mem_cons.mp hp with rfl | hp
    · exact ⟨heC, Nat.ne_of_gt (Nat.lt_succ_of_lt (Nat.lt_succ_of_lt hLlt)), fresh₀ _ (Nat.le_add_right _ _)⟩
    · exact ND p hp
  have hlt' : ∀ p ∈ (a, oa) :: news, p.1 < I := fun p hp => hlt _ _ (N p hp).1
  have loop := outer (i0 := i0) (i1 := i1) (p0 := p0) (p1 := p1) (pos := pos) (tk := tk + ([] : List (Str × Value)).length) (R := compPost (model prog w) A E (some (assign (.Name y py) env)) (fun _ s' => Q .next s') (.ref (I + 1)) (I + 2)) hh hits h3 hac had hkind hx0 hx1 hne (hs1 (I + 2)) hiter helt
    (show (I : Nat) ≠ I + 2 by omega) (show (I : Nat) ≠ I + 1 by omega) (show (I + 2 : Nat) ≠ I + 1 by omega) (fun p hp => by
      have := hlt' p hp
      exact ⟨Nat.ne_of_lt this, Nat.ne_of_lt (Nat.lt_of_lt_of_le this (Nat.le_add_right _ _)), Nat.ne_of_lt (Nat.lt_of_lt_of_le this (Nat.le_add_right _ _))⟩) F₂ NC ⟨oI, heI2, hcI, hdI⟩ hoC
    (fun h₃ tk₃ oC₃ m₃ ys F₃ N₃ hC₃ hS hl => by
      show wpAny _ A (assign (.Name y py) env (.ref (I + 1))) _ _ _
      refine wpAny_assign_Name (wpAny_storeName_local hy F₃.ns (fun h₄ hn₄ hs₄ => ?_) hp)
      have hL₀ : h₀.get? env.locals = none := Heap.get?_none_of_le F₃.above
      have F₄ : Fr h₀ env.locals h₄ (fun z => if z = y then some (.ref (I + 1)) else m z) := ⟨hn₄, fun b o e => hs₄.extBut b o (fun q => by rw [q, hL₀] at e; cases e) (F₃.keep b o e), F₃.above⟩
      have zC := N₃ (I + 2, oC₃) List.mem_cons_self
      refine ⟨m₃, (hC₃.ns zC.1).sameBut hs₄ zC.2.1, fun h₅ hs₅ => fin (I + 1) ys h₅ _ (F₄.change hs₅ zC.2.1 zC.2.2) (fun p hp => ?_) (fun p hp => Nat.lt_succ_of_lt (hlt' p (List.mem_cons_of_mem _ hp))) hS hl⟩
      have z := N₃ p (List.mem_cons_of_mem _ hp)
      refine ⟨hs₅.extBut _ _ ?_ (hs₄.extBut _ _ z.2.1 z.1), z.2⟩
      rcases List.mem_cons.mp hp with rfl | hp
      · exact show (I + 1 : Nat) ≠ I + 2 by omega
      · exact Nat.ne_of_lt (Nat.lt_of_lt_of_le (hlt' p (List.mem_cons_of_mem _ hp)) (Nat.le_add_right _ _)))
  exact codeAny_compStart_list loop ((Walks.tuple (prog := prog) (w := w) (A := A) hh I a (Nat.ne_of_lt (hlt' (a, oa) List.mem_cons_self)) its).self 0 _ _ _ ⟨⟨oI, heI2, hcI, hdI⟩, ⟨oa, (N0 (a, oa) List.mem_cons_self).1, hac, na, had⟩⟩ loop)
end
end Mine
end
section
open PySem PySem.W PyProof.Rows PyProof.Rows.LCg
namespace Mine
set_option maxRecDepth 100000
/-- a loop over a list of texts that the call made -/
def ForSrc (s : Shared) (h₀ : Heap) (L : Addr) (m₀ : Str → Option Value) (news : List (Addr × Obj)) (xv : Value) (s₁ : Shared) : Prop :=
  ∃ (l : Addr) (vs : List Value) (c : Nat) (h : Heap) (tk : Nat), xv = .ref l ∧ s₁ = { s with heap := h, toks := tk } ∧ Fr h₀ L h m₀ ∧ News h₀ L h ((l, listOf vs.toArray c) :: news) ∧ Short3 vs
def TurnP (s₁ : Shared) (h₀ : Heap) (L : Addr) (x : Str) (stored : List Str) (m₀ : Str → Option Value) (led : List (Addr × Obj)) (s₂ : Shared) : Prop :=
  ∃ (h' : Heap) (tk' : Nat) (m' : Str → Option Value), s₂ = { s₁ with heap := h', toks := tk' } ∧ Fr h₀ L h' m' ∧ News h₀ L h' led ∧ ∀ z, z ≠ x → stored.contains z = false → m' z = m₀ z
def TurnF (s₁ : Shared) (h₀ : Heap) (L : Addr) (x : Str) (stored : List Str) (m₀ : Str → Option Value) (led : List (Addr × Obj)) (f : Flow) (s₂ : Shared) : Prop :=
  match f with
  | .next => TurnP s₁ h₀ L x stored m₀ led s₂
  | .cont => TurnP s₁ h₀ L x stored m₀ led s₂
  | _ => False
section
variable {prog : Program} {w : World} {A : Around} {E : Value → Shared → Prop} {s : Shared} {h₀ : Heap} {env : Env} {x : Str} {body : List Stmt} {Q : Flow → Shared → Prop} {m₀ : Str → Option Value} {news : List (Addr × Obj)}
theorem for_strs {px pos : Pos} {iter : Expr} (stored : List Str) (F₀ : Fr h₀ env.locals s.heap m₀) (N₀ : News h₀ env.locals s.heap news) (hh : A.handled = none) (hx : env.kindOf x = some .local)
    (hp : (env.scope.kind == .class || (env.scope.kind == .module && env.locals != env.globals)) = false) (hs : ∀ x, foldedSetIterable iter env x = pure x)
    (h : wpAny (model prog w) A (eval iter env) (ForSrc s h₀ env.locals m₀ news) E s)
    (turn : ∀ (mark : Str) (t : Tok) (u : Str → Option Value) (h : Heap) (tk : Nat) (own : List (Addr × Obj)), mark.length ≤ 3 → Fr h₀ env.locals h (fun y => if y = x then some (.str mark t) else if stored.contains y then u y else m₀ y) → News h₀ env.locals h (news ++ own) →
      wpAny (model prog w) A (execs body env) (TurnF { s with heap := h, toks := tk } h₀ env.locals x stored m₀ (news ++ own)) E { s with heap := h, toks := tk })
    (done : ∀ m₁ h tk, Fr h₀ env.locals h m₁ → Q .next { s with heap := h, toks := tk })
    (hE : PassesOwn (model prog w) A env E := by passes_own) :
    wpAny (model prog w) A (exec (.For (.Name x px) iter body [] pos) env) Q E s := by
  refine For_invV h₀ hx hp (wpAny_mono h (fun xv s₁ h₁ => ?_) fun _ _ e => e) hs hE
  obtain ⟨l, vs, c, h1, tk1, rfl, rfl, F, N, hS⟩ := h₁
  have nl := N (l, listOf vs.toArray c) List.mem_cons_self
  have hls : h1.IsList l vs.toArray := ⟨_, nl.1, rfl, c, rfl⟩
  have hlt : l < h1.objs.size := Heap.lt_size nl.1
  have hne : l ≠ h1.objs.size := Nat.ne_of_lt hlt
  refine wpAny_pyIter_list hls ?_
  have W := Walks.list (prog := prog) (w := w) hh h1.objs.size l hne vs.toArray
  let J' : Nat → (Str → Option Value) → List (Addr × Obj) → Prop := fun _ m₁ news₁ => news₁ = news ∧ ∀ z, z ≠ x → stored.contains z = false → m₁ z = m₀ z
  refine ⟨_, _, _, vs.toArray.size, _, _, m₀, news, J', rfl, W, ?_, ?_, ?_, ⟨⟨_, Heap.get?_push_size _ rfl, rfl, rfl⟩, hls.at fun o e => Heap.get?_push_of_some _ e⟩, F.push _, (fun p hp => ⟨Heap.get?_push_of_some _ (N p (List.mem_cons_of_mem _ hp)).1, (N p (List.mem_cons_of_mem _ hp)).2⟩), ⟨rfl, fun _ _ _ => rfl⟩, ?_, ?_⟩
  · intro hm
    rcases List.mem_cons.mp hm with e | hm
    · exact absurd F.ns.lt (e ▸ Nat.lt_irrefl _)
    · exact nl.2.1 (List.mem_singleton.mp hm).symm
  · intro b hb
    rw [List.mem_singleton.mp hb]
    exact next_is_new F
  · intro p hp hI
    exact absurd (Heap.lt_size (N p (List.mem_cons_of_mem _ hp)).1) ((List.mem_singleton.mp hI) ▸ Nat.lt_irrefl _)
  · rintro i v m₁ news₁ s₁ own ⟨hh', tk', rfl⟩ hin hP ⟨rfl, hJ⟩ hoff _ _ _ _ F₁ N₁
    have hv : v ∈ vs := by
      have hP' : vs[i]? = some v := by simpa using hP
      exact List.mem_of_getElem? hP'
    obtain ⟨mark, t, rfl, hm3⟩ := hS v hv
    have e : (fun y => if y = x then some (Value.str mark t) else m₁ y) = fun y => if y = x then some (Value.str mark t) else if stored.contains y then m₁ y else m₀ y := by
      funext z
      by_cases h1 : z = x
      · simp [h1]
      · rw [if_neg h1, if_neg h1]
        cases h2 : stored.contains z with
        | true => simp
        | false => simp only [Bool.false_eq_true, if_false]; exact hJ z h1 h2
    rw [e] at F₁
    have N₂ : News h₀ env.locals hh' (news₁ ++ own) := fun p hp => N₁ p (by
      rcases List.mem_append.mp hp with h | h
      · exact List.mem_append_right _ h
      · exact List.mem_append_left _ h)
    refine wpAny_mono (turn mark t m₁ hh' tk' own hm3 F₁ N₂) (fun f s₂ p => ?_) fun _ _ e => e
    have fin : TurnP { s with heap := hh', toks := tk' } h₀ env.locals x stored m₀ (news₁ ++ own) s₂ → LoopStepU h₀ env.locals [h1.objs.size] own (J' (i + 1)) { s with heap := hh', toks := tk' } .next s₂ := by
      rintro ⟨h', tk, m', e, F', N', hm⟩
      exact ⟨rfl, h', tk, m', news₁, e, F', fun p hp => N' p (by
        rcases List.mem_append.mp hp with h | h
        · exact List.mem_append_right _ h
        · exact List.mem_append_left _ h), hoff, rfl, hm⟩
    cases f with
    | ret v => exact p.elim
    | brk => exact p.elim
    | next => exact .next (fin p)
    | cont => exact .cont (fin p)
  · rintro h' tk m' news' F' N' _ ⟨rfl, hJ⟩
    exact done m' h' tk F'
end
end Mine
end
section
open PySem PySem.W PyProof.Rows PyProof.Rows.LCg
set_option linter.unusedVariables false
namespace Mine
set_option maxRecDepth 100000
/-- a comprehension over a text's signs -/
def SrcStr (s : Shared) (h₀ : Heap) (L : Addr) (m : Str → Option Value) (news : List (Addr × Obj)) (due : Str) (xv : Value) (s₁ : Shared) : Prop :=
  ∃ (t : Tok) (h : Heap) (tk : Nat), xv = .str due t ∧ s₁ = { s with heap := h, toks := tk } ∧ Fr h₀ L h m ∧ News h₀ L h news
def SignP (s : Shared) (h₀ : Heap) (L : Addr) (m : Str → Option Value) (led : List (Addr × Obj)) (z : Str) (yv : Value) (s₁ : Shared) : Prop :=
  ∃ (t' : Tok) (h' : Heap) (tk' : Nat), yv = .str z t' ∧ s₁ = { s with heap := h', toks := tk' } ∧ Fr h₀ L h' m ∧ News h₀ L h' led
section
variable {prog : Program} {w : World} {A : Around} {E : Value → Shared → Prop} {s : Shared} {h₀ : Heap} {m : Str → Option Value} {elt iter : Expr} {x : Str} {px : Pos} {scope : Scope} {cl : List (Str × Addr)} {pos : Pos} {env : Env} {news : List (Addr × Obj)} {Q : Value → Shared → Prop}
abbrev EvSign (prog : Program) (w : World) (A : Around) (s : Shared) (h₀ : Heap) (m : Str → Option Value) (elt : Expr) (x : Str) (scope : Scope) (cl : List (Str × Addr)) (env : Env) (news : List (Addr × Obj)) (g : Nat → Str) : Prop :=
  ∀ (C : Addr) (oC : Obj) (m₂ : Str → Option Value) (more : List (Addr × Obj)) (h : Heap) (tk : Nat) (c : Nat) (u : Tok) (E' : Value → Shared → Prop), NsObj oC m₂ → m₂ x = some (.str ⟨#[c]⟩ u) → (∀ p ∈ news, p ∈ more) → Fr h₀ env.locals h m → News h₀ env.locals h ((C, oC) :: more) →
    wpAny (model prog w) A (eval elt (compEnvC scope cl C env)) (SignP s h₀ env.locals m ((C, oC) :: more) (g c)) E' { s with heap := h, toks := tk }
theorem values_snoc (l : List (Str × Tok)) (z : Str) (t : Tok) : strValues l ++ [.str z t] = strValues (l ++ [(z, t)]) := by
  unfold strValues
  rw [List.map_append]
  rfl
theorem rest_str {s₂ : Shared} {due : Str} {g : Nat → Str} {Fin : List Value → List (Addr × Obj) → Prop} (hs₂ : ∀ h tk, ({ s₂ with heap := h, toks := tk } : Shared) = { s with heap := h, toks := tk })
    (helt : EvSign prog w A s h₀ m elt x scope cl env news g) (fin : ∀ l : List (Str × Tok), l.map (·.1) = (due.cps.toList).map g → Fin (strValues l) news) :
    ∀ (k i : Nat) (l : List (Str × Tok)), i + k = due.cps.size → l.map (·.1) = ((due.cps.toList).take i).map g → CompRest prog w A h₀ env.locals m env elt x scope cl s₂ (fun _ => True) (SignAt due) Fin k i (strValues l) news := by
  intro k
  induction k with
  | zero =>
    intro i l hi hl
    refine CompRest.zero (fin l ?_)
    have : i = due.cps.toList.length := by simpa using hi
    rw [hl, this, List.take_length]
  | succ k ih =>
    intro i l hi hl
    refine CompRest.succ fun v I oI C oC D m₂ h tk E' hP hoC hm F N off hne => ?_
    obtain ⟨c, u, hc, rfl⟩ := hP
    have N' : News h₀ env.locals h ((C, oC) :: (I, oI) :: (D, lst (strValues l)) :: news) := fun p hp => N p (by
      simp only [List.mem_cons] at hp ⊢
      rcases hp with h | h | h | h <;> simp [h])
    rw [hs₂]
    refine wpAny_mono (helt C oC m₂ ((I, oI) :: (D, lst (strValues l)) :: news) h tk c u E' hoC hm (fun p hp => by simp [hp]) F N') (fun y s₄ h₄ => ?_) fun _ _ e => e
    obtain ⟨t', h', tk', rfl, rfl, F', N''⟩ := h₄
    have e9 : ({ s with heap := h', toks := tk' } : Shared) = { ({ s with heap := h, toks := tk } : Shared) with heap := h', toks := tk' } := rfl
    rw [e9]
    refine CompEnd.intro F' N'' news (fun p hp => by
      simp only [List.mem_cons] at hp ⊢
      rcases hp with h | h | h | h <;> simp [h]) off trivial ?_
    rw [values_snoc]
    refine ih (i + 1) (l ++ [(g c, t')]) (by omega) ?_
    have hc' : due.cps.toList[i]? = some c := by rw [Array.getElem?_toList]; exact hc
    rw [List.map_append, hl, List.take_add_one, hc', List.map_append]
    rfl
theorem comp_str {due : Str} {g : Nat → Str} (F₀ : Fr h₀ env.locals s.heap m) (N₀ : News h₀ env.locals s.heap news) (hh : A.handled = none)
    (hclos : closureFor scope env = pure cl) (hcell : ∀ y ∈ scope.names, y.2 ≠ .cell) (hkind : scope.kind = .function)
    (hnames : ∀ y ∈ scope.names, y.2 = .local → scope.names.lookup y.1 = some .local) (hx : scope.names.lookup x = some .local) (hs : ∀ x, foldedSetIterable iter env x = pure x) (hd : due.length ≤ 400)
    (h : wpAny (model prog w) A (eval iter env) (SrcStr s h₀ env.locals m news due) E s)
    (helt : EvSign prog w A s h₀ m elt x scope cl env news g)
    (fin : ∀ (D : Addr) (l : List (Str × Tok)) (h : Heap) (tk : Nat), l.map (·.1) = due.cps.toList.map g → Fr h₀ env.locals h m → News h₀ env.locals h ((D, lst (strValues l)) :: news) → Q (.ref D) { s with heap := h, toks := tk }) :
    wpAny (model prog w) A (eval (.ListComp elt [⟨.Name x px, iter, [], 0⟩] scope pos) env) Q E s := by
  rw [eval_ListComp]
  refine wpAny_comprehension_free (use := none) rfl hs hclos hkind hnames (wpAny_mono h (fun xv s₁ h₁ => ?_) fun _ _ e => e)
  obtain ⟨t, h1, tk1, rfl, rfl, F, N⟩ := h₁
  have hsz : due.cps.size ≤ sizeLine := by rw [sizeLine_eq]; have : due.length = due.cps.size := rfl; omega
  have main : ∀ ty, Walks prog w A h1.objs.size [h1.objs.size] [h1.objs.size] due.cps.size (SignAt due) (fun i h => h.IsStrIter h1.objs.size ty due t i) →
      wpAny (model prog w) A (newList []) (fun acc s₃ => wpAny (model prog w) A (newFunctionEnv scope env.globals cl [] env.qual none .none (some env)) (fun cenv s₄ =>
        codeAny (model prog w) A (.compStart (.ListComp elt [⟨.Name x px, iter, [], 0⟩] scope pos) 0 (.ref h1.objs.size) acc { cenv with scope := relabel scope env }) (compPost (model prog w) A E none Q acc cenv.locals) s₄) E s₃) E
        { s with heap := h1.push { cls := .type ty, data := .fields #[.str due t, .int 0 0] }, toks := tk1 } := by
    intro ty W
    have up : ∀ b o, h1.get? b = some o → (h1.push { cls := .type ty, data := .fields #[.str due t, .int 0 0] }).get? b = some o := fun b o e => Heap.get?_push_of_some _ e
    refine block_U (m := m) (h₀ := h₀) (L := env.locals) (news := news) (S := fun _ => True) (Fin := fun ys nw => ∃ l : List (Str × Tok), ys = strValues l ∧ nw = news ∧ l.map (·.1) = due.cps.toList.map g) W hsz (fun i h st => by obtain ⟨o, e, _⟩ := st; exact ⟨o, e⟩)
      (fun i h h' o nw st e e' _ _ _ => by obtain ⟨o', q, r⟩ := st; rw [e] at q; cases q; exact ⟨o, e', r⟩) hcell hkind hx ⟨_, Heap.get?_push_size _ rfl, rfl, rfl⟩ (fun b hb => ?_)
      (F.keeps up) (N.grown up) (Nat.ne_of_lt F.ns.lt) (next_is_new F) (fun p hp => Nat.ne_of_lt (Heap.lt_size (N p hp).1)) trivial ?_ ?_
    · rw [List.mem_singleton.mp hb]
      show h1.objs.size < (h1.push _).objs.size
      rw [Heap.size_push]; exact Nat.lt_succ_self _
    · exact rest_str (s₂ := { s with heap := h1.push { cls := .type ty, data := .fields #[.str due t, .int 0 0] }, toks := tk1 }) (due := due) (g := g) (s := s) (news := news) (Fin := fun ys nw => ∃ l : List (Str × Tok), ys = strValues l ∧ nw = news ∧ l.map (·.1) = due.cps.toList.map g) (fun h tk => rfl) helt (fun l hl => ⟨l, rfl, rfl, hl⟩) due.cps.size 0 [] (Nat.zero_add _) rfl
    · rintro D C h' tk m' ys news' F' N' o1 hn hC₀ hD₀ hCL hDL hCD offC ⟨l, rfl, rfl, hl⟩
      refine ⟨m', hn, fun h'' hs'' => fin D l h'' tk hl (F'.change hs'' hCL hC₀) fun p hp => ?_⟩
      refine ⟨hs''.extBut _ _ ?_ (N' p hp).1, (N' p hp).2⟩
      rcases List.mem_cons.mp hp with rfl | hp
      · exact Ne.symm hCD
      · exact offC p hp
  refine wpAny_pyIter_strU ?_
  unfold strIterType
  split
  · exact main "str_ascii_iterator" (Walks.strAscii hh _ due t)
  · exact main "str_iterator" (Walks.strWide hh _ due t)
end
end Mine
end
section
open PySem PySem.W PyProof.Rows PyProof.Rows.LCg
set_option linter.unusedVariables false
namespace Mine
set_option maxRecDepth 100000
def refS (q : Bool) (c : Nat) : Str := ⟨(ref q c).toArray⟩
def Hit (prog : Program) (w : World) (q : Bool) (od : Obj) (c : Nat) : Prop := ∃ kvs t, od.IsDictOf (PySem.strKind prog w) kvs ∧ valueAt kvs (⟨#[c]⟩ : Str) = some (.str (refS q c) t)
def TabQ (prog : Program) (w : World) (q : Bool) (od : Obj) : Prop := ∃ kvs, od.IsDictOf (PySem.strKind prog w) kvs ∧ ∀ c : Nat, (∃ t, valueAt kvs (⟨#[c]⟩ : Str) = some (.str (refS q c) t)) ∨ (valueAt kvs (⟨#[c]⟩ : Str) = none ∧ refS q c = ⟨#[c]⟩)
theorem one_eq {a c : Nat} : ((⟨#[a]⟩ : Str) = ⟨#[c]⟩) ↔ a = c := by
  constructor
  · intro h
    have := congrArg PySem.Str.cps h
    simpa using this
  · rintro rfl; rfl
section
variable {prog : Program} {w : World} {o : Obj}
theorem tabQ_true {a1 a2 a3 a4 a5 b1 b2 b3 b4 b5 : Tok} (h : o.IsDictOf (PySem.strKind prog w) (strPairs [(.str (PySem.Str.ofString "&") a1, .str (PySem.Str.ofString "&amp;") b1), (.str (PySem.Str.ofString "<") a2, .str (PySem.Str.ofString "&lt;") b2), (.str (PySem.Str.ofString ">") a3, .str (PySem.Str.ofString "&gt;") b3),
    (.str (PySem.Str.ofString "\"") a4, .str (PySem.Str.ofString "&quot;") b4), (.str (PySem.Str.ofString "'") a5, .str (PySem.Str.ofString "&#x27;") b5)])) : TabQ prog w true o := by
  refine ⟨_, h, fun c => ?_⟩
  simp only [strPairs, w38, w60, w62, w34, w39, r38, r60, r62, r34, r39, valueAt, List.find?_cons, List.find?_nil, one_eq]
  by_cases h1 : c = 38
  · subst h1; exact .inl ⟨b1, by simp [refS, ref]⟩
  · by_cases h2 : c = 60
    · subst h2; exact .inl ⟨b2, by simp [refS, ref]⟩
    · by_cases h3 : c = 62
      · subst h3; exact .inl ⟨b3, by simp [refS, ref]⟩
      · by_cases h4 : c = 34
        · subst h4; exact .inl ⟨b4, by simp [refS, ref]⟩
        · by_cases h5 : c = 39
          · subst h5; exact .inl ⟨b5, by simp [refS, ref]⟩
          · exact .inr ⟨by simp [Ne.symm h1, Ne.symm h2, Ne.symm h3, Ne.symm h4, Ne.symm h5], by simp [refS, ref, h1, h2, h3, h4, h5]⟩
theorem tabQ_false {a1 a2 a3 b1 b2 b3 : Tok} (h : o.IsDictOf (PySem.strKind prog w) (strPairs [(.str (PySem.Str.ofString "&") a1, .str (PySem.Str.ofString "&amp;") b1), (.str (PySem.Str.ofString "<") a2, .str (PySem.Str.ofString "&lt;") b2), (.str (PySem.Str.ofString ">") a3, .str (PySem.Str.ofString "&gt;") b3)])) : TabQ prog w false o := by
  refine ⟨_, h, fun c => ?_⟩
  simp only [strPairs, w38, w60, w62, r38, r60, r62, valueAt, List.find?_cons, List.find?_nil, one_eq]
  by_cases h1 : c = 38
  · subst h1; exact .inl ⟨b1, by simp [refS, ref]⟩
  · by_cases h2 : c = 60
    · subst h2; exact .inl ⟨b2, by simp [refS, ref]⟩
    · by_cases h3 : c = 62
      · subst h3; exact .inl ⟨b3, by simp [refS, ref]⟩
      · exact .inr ⟨by simp [Ne.symm h1, Ne.symm h2, Ne.symm h3], by simp [refS, ref, h1, h2, h3]⟩
end
section
variable {prog : Program} {w : World} {A : Around} {E : Value → Shared → Prop} {s : Shared} {h₀ : Heap} {L d D : Addr} {q : Bool} {od : Obj} {led : List (Addr × Obj)} {c : Nat} {u t : Tok} {Q : Value → Shared → Prop}
theorem in_tab (N : News h₀ L s.heap led) (hm : (d, od) ∈ led) (lo : (d == sysModules) = false) (T : TabQ prog w q od)
    (h1 : Hit prog w q od c → Q (.bool true) { s with toks := s.toks + 1 }) (h2 : refS q c = ⟨#[c]⟩ → Q (.bool false) { s with toks := s.toks + 1 }) :
    wpAny (model prog w) A (compareOp .In (.str ⟨#[c]⟩ u) (.ref d)) Q E s := by
  obtain ⟨kvs, hk, hc⟩ := T
  have hd : s.heap.DictOf (PySem.strKind prog w) d kvs := Heap.dictOf_iff.mpr ⟨od, (N _ hm).1, hk⟩
  refine wpAny_in_of (strKind_is prog w _ u) lo hd.mapOf ?_
  rcases hc c with ⟨t, e⟩ | ⟨e, er⟩
  · rw [e]; exact h1 ⟨kvs, t, hk, e⟩
  · rw [e]; exact h2 er
theorem item_tab {value slice : Expr} (N : News h₀ L s.heap led) (hm : (d, od) ∈ led) (H : Hit prog w q od c) (h : ∀ t k, Q (.str (refS q c) t) { s with toks := k })
    (hs : subscripted slice false (.ref d) (.str ⟨#[c]⟩ u) = operate [.ref d, .str ⟨#[c]⟩ u] (getItem (.ref d) (.str ⟨#[c]⟩ u)) := by with_unfolding_all rfl) :
    wpAny (model prog w) A (subscriptTail value slice (.ref d) (.str ⟨#[c]⟩ u)) Q E s := by
  obtain ⟨kvs, t, hk, e⟩ := H
  have hd : s.heap.DictOf (PySem.strKind prog w) d kvs := Heap.dictOf_iff.mpr ⟨od, (N _ hm).1, hk⟩
  exact tail_any hd.mapOf.typeIs slot_dict_getitem.lookup (wpAny_getItem_of (strKind_is prog w _ u) hd.mapOf e (h t _)) hs
theorem join_shown {l : List (Str × Tok)} {due : Str} (N : News h₀ L s.heap led) (hm : (D, lst (strValues l)) ∈ led) (hl : l.map (·.1) = due.cps.toList.map (refS q)) (hd : due.length ≤ 240)
    (h : ∀ z t' k, cl z = Mine.E q (cl due) → Q (.str z t') { s with toks := k }) : wpAny (model prog w) A (call (.builtin "str.join") [.str nul t, .ref D]) Q E s := by
  have hlen : l.length = due.length := by have := congrArg List.length hl; simpa [PySem.Str.length] using this
  have hB : ∀ z ∈ due.cps.toList.map (refS q), z.length ≤ 6 := fun z hz => by
    obtain ⟨c, _, rfl⟩ := List.mem_map.mp hz
    show (ref q c).toArray.size ≤ 6
    have := E_len q [c]
    simpa [Mine.E] using this
  refine SC.join ⟨_, (N _ hm).1, rfl, _, rfl⟩ hl ?_ fun t' k => h _ t' k ?_
  · unfold JoinOk
    rw [Bool.not_eq_true']
    refine StrLaws.joinFits hB ?_
    have e0 : nul.length = 0 := by decide +kernel
    rw [List.length_map, e0]
    have : due.cps.toList.length = due.length := cl_len due
    omega
  · rw [join_cl]
    have e0 : cl nul = [] := nul_cl
    rw [e0]
    have : ∀ ls : List Nat, joinL [] ((ls.map (refS q)).map cl) = Mine.E q ls := by
      intro ls
      induction ls with
      | nil => rfl
      | cons c r ih =>
        cases r with
        | nil => show cl (refS q c) = _; rw [E_cons]; show (ref q c).toArray.toList = _ ++ []; simp
        | cons c' r' =>
          show cl (refS q c) ++ [] ++ joinL [] (((c' :: r').map (refS q)).map cl) = _
          rw [ih, List.append_nil]
          exact (E_cons q c (c' :: r')).symm
    exact this _
end
end Mine
end
section
open PySem PySem.W PyProof.Rows PyProof.Rows.LCg
set_option linter.unusedVariables false
namespace Mine
set_option maxRecDepth 100000
def JoinQ (prog : Program) (w : World) (s : Shared) (h₀ : Heap) (L : Addr) (m : Str → Option Value) (q : Bool) (c1 c2 : Addr) (oT : Obj) (s' : Shared) : Prop :=
  ∃ (d : Addr) (od oB : Obj) (h : Heap) (tk : Nat), s' = { s with heap := h, toks := tk } ∧ Fr h₀ L h m ∧ News h₀ L h [(d, od), (c2, oB), (c1, oT)] ∧ oB.data = .cell (some (.ref d)) ∧ (d == sysModules) = false ∧ TabQ prog w q od
def JoinF (prog : Program) (w : World) (s : Shared) (h₀ : Heap) (L : Addr) (m : Str → Option Value) (q : Bool) (c1 c2 : Addr) (oT : Obj) (f : Flow) (s' : Shared) : Prop :=
  match f with
  | .next => JoinQ prog w s h₀ L m q c1 c2 oT s'
  | _ => False
section
variable {prog : Program} {w : World} {A : Around} {E : Value → Shared → Prop} {s : Shared} {h₀ : Heap} {L : Addr} {m : Str → Option Value} {test : Expr} {body : List Stmt} {pos : Pos} {env : Env} {Q : Flow → Shared → Prop} {q : Bool} {c1 c2 : Addr} {oT : Obj} {n : Int} {od : Obj}
theorem if_join {a1 a2 : Addr} {o1 o2 oB0 : Obj} (F : Fr h₀ L s.heap m) (N : News h₀ L s.heap [(a1, o1), (a2, o2), (c2, oB0), (c1, oT)]) (hq : m (PySem.Str.ofString "quote") = some (.bool q))
    (h : wpAny (model prog w) A (isTrue test env (eval test env)) (fun b s₁ => if b = true then wpAny (model prog w) A (execs body env) (JoinF prog w s h₀ L m q c1 c2 oT) E s₁ else wpAny (model prog w) A (execs [] env) (JoinF prog w s h₀ L m q c1 c2 oT) E s₁) E s)
    (k : ∀ d od oB h tk, Fr h₀ L h m → News h₀ L h [(d, od), (c2, oB), (c1, oT)] → oB.data = .cell (some (.ref d)) → (d == sysModules) = false → TabQ prog w q od → Q .next { s with heap := h, toks := tk }) :
    wpAny (model prog w) A (exec (.If test body [] pos) env) Q E s := by
  refine wpAny_mono (wpAny_If (Q := JoinF prog w s h₀ L m q c1 c2 oT) (wpAny_mono h (fun b s₁ h₁ => ?_) fun _ _ e => e)) (fun f s' hj => ?_) fun _ _ e => e
  · exact h₁
  · cases f with
    | next =>
      obtain ⟨d, od, oB, h, tk, rfl, F', N', hB, lo, T⟩ := hj
      exact k d od oB h tk F' N' hB lo T
    | _ => exact hj.elim
theorem tab_t (h : n = 0) (T : TabQ prog w true od) : TabQ prog w (n == 0) od := by
  have : (n == 0) = true := by rw [h]; rfl
  rw [this]; exact T
theorem tab_f (h : n ≠ 0) (T : TabQ prog w false od) : TabQ prog w (n == 0) od := by
  have : (n == 0) = false := beq_eq_false_iff_ne.mpr h
  rw [this]; exact T
end
end Mine
end
section
open PySem PySem.W PyProof.Rows PyProof.Rows.LCg
set_option linter.unusedVariables false
namespace Mine
set_option maxRecDepth 100000
def Hold (p : Prop) : Prop := p
theorem tup123 {a b c : Tok} : TupItems #[Value.int 1 a, .int 2 b, .int 3 c] := by
  intro j v h
  match j with
  | 0 => cases h; exact ⟨_, _, rfl, by decide, by decide⟩
  | 1 => cases h; exact ⟨_, _, rfl, by decide, by decide⟩
  | 2 => cases h; exact ⟨_, _, rfl, by decide, by decide⟩
  | n + 3 => simp at h
theorem news_put {h₀ h : Heap} {L : Addr} {c p1 p2 p3 : Addr × Obj} {more : List (Addr × Obj)} (N : News h₀ L h (c :: more)) (hs : ∀ p ∈ [p1, p2, p3], p ∈ more) : News h₀ L h (c :: p1 :: p2 :: p3 :: more) := fun p hp => by
  rcases List.mem_cons.mp hp with rfl | hp
  · exact N _ List.mem_cons_self
  · refine N p (List.mem_cons_of_mem _ ?_)
    simp only [List.mem_cons] at hp
    rcases hp with h | h | h | h
    · exact hs p (by simp [h])
    · exact hs p (by simp [h])
    · exact hs p (by simp [h])
    · exact h
theorem iterP_of {s : Shared} {h₀ h' : Heap} {L r : Addr} {m : Str → Option Value} {c p1 p2 p3 : Addr × Obj} {more : List (Addr × Obj)} {x : Str} {k : Int} {u1 u2 u3 : Tok} {tk' : Nat}
    (hr : IsRange h' r 0 ((x.length : Int) - k + 1) 1 u1 u2 u3) (F : Fr h₀ L h' m) (N : News h₀ L h' (c :: p1 :: p2 :: p3 :: more)) (hx : 13 ≤ x.length) (hx2 : x.length ≤ 60) (hk1 : 1 ≤ k) (hk3 : k ≤ 3) :
    IterP s h₀ L m (c :: more) (.ref r) { s with heap := h', toks := tk' } := by
  refine ⟨r, _, u1, u2, u3, ((x.length : Int) - k + 1).toNat, h', tk', rfl, rfl, F, fun p hp => N p ?_, hr, small_one (by decide) (by decide) (by omega) (by omega), ?_, by omega⟩
  · rcases List.mem_cons.mp hp with h | h
    · simp [h]
    · simp [h]
  · rw [rangeSize_nat]; simp
open PySem.Builtin PySem.Builtin.Str PySem.StrLaws in
theorem slice_out {x : Str} {i j : Int} (h1 : i ≤ j) (h2 : ¬ i ≤ x.length) : (Txt.slice x (some i) (some j)).length = 0 := by
  have e : strSliceIndices (some i) (some j) 1 x.length = strSliceIndices (some (x.length : Int)) (some (x.length : Int)) 1 x.length := by
    have a : ¬ (j < 0) := by omega
    have a' : ¬ (i < 0) := by omega
    have b : ¬ ((x.length : Int) < 0) := by omega
    have c : min j (x.length : Int) = (x.length : Int) := by omega
    have c' : min i (x.length : Int) = (x.length : Int) := by omega
    simp [strSliceIndices, a, a', b, c, c']
  have e2 : Txt.slice x (some i) (some j) = Txt.slice x (some (x.length : Int)) (some (x.length : Int)) := by
    unfold Txt.slice
    rw [e]
  rw [e2, ← cl_len, slice_cl (by omega) (by omega) (by omega)]
  simp
theorem eltP_of {s : Shared} {h₀ h' : Heap} {L : Addr} {m : Str → Option Value} {c p1 p2 p3 : Addr × Obj} {more : List (Addr × Obj)} {x : Str} {k i : Int} {t' : Tok} {tk' : Nat}
    (F : Fr h₀ L h' m) (N : News h₀ L h' (c :: p1 :: p2 :: p3 :: more)) (hk1 : 1 ≤ k) (hk3 : k ≤ 3) (hi : 0 ≤ i) :
    EltP s h₀ L m (c :: more) (.str (Txt.slice x (some i) (some (i + k))) t') { s with heap := h', toks := tk' } := by
  refine ⟨_, t', h', tk', rfl, ?_, rfl, F, fun p hp => N p ?_⟩
  · by_cases h : i ≤ x.length
    · have e := slice_cl (x := x) (i := i) (j := i + k) hi (by omega) h
      have e2 := congrArg List.length e
      rw [cl_len, List.length_take] at e2
      omega
    · have := slice_out (x := x) (i := i) (j := i + k) (by omega) h
      omega
  · rcases List.mem_cons.mp hp with h | h
    · simp [h]
    · simp [h]
section
variable {prog : Program} {w : World} {A : Around} {E : Value → Shared → Prop} {s : Shared} {h₀ : Heap} {env : Env} {x : Str} {body : List Stmt} {Q : Flow → Shared → Prop} {m₀ : Str → Option Value} {news : List (Addr × Obj)}
theorem for_held {px pos : Pos} {iter : Expr} (stored : List Str) (F₀ : Fr h₀ env.locals s.heap m₀) (N₀ : News h₀ env.locals s.heap news) (hh : A.handled = none) (hx : env.kindOf x = some .local)
    (hp : (env.scope.kind == .class || (env.scope.kind == .module && env.locals != env.globals)) = false) (hs : ∀ x, foldedSetIterable iter env x = pure x)
    (h : wpAny (model prog w) A (eval iter env) (ForSrc s h₀ env.locals m₀ news) E s)
    (turn : Hold (∀ (mark : Str) (t : Tok) (u : Str → Option Value) (h : Heap) (tk : Nat) (own : List (Addr × Obj)), mark.length ≤ 3 → Fr h₀ env.locals h (fun y => if y = x then some (.str mark t) else if stored.contains y then u y else m₀ y) → News h₀ env.locals h (news ++ own) →
      wpAny (model prog w) A (execs body env) (TurnF { s with heap := h, toks := tk } h₀ env.locals x stored m₀ (news ++ own)) E { s with heap := h, toks := tk }))
    (done : ∀ m₁ h tk, Fr h₀ env.locals h m₁ → Q .next { s with heap := h, toks := tk })
    (hE : PassesOwn (model prog w) A env E := by passes_own) :
    wpAny (model prog w) A (exec (.For (.Name x px) iter body [] pos) env) Q E s := for_strs stored F₀ N₀ hh hx hp hs h turn done hE
end
end Mine
end
section
open PySem PySem.W PyProof.Rows PyProof.Rows.LCg
set_option linter.unusedVariables false
namespace Mine
set_option maxRecDepth 100000
theorem short_cons {ys : List Value} {a b c : Tok} (h : Short3 ys) : Short3 (.str (PySem.Str.ofString "") a :: .str (PySem.Str.ofString "^|") b :: .str (PySem.Str.ofString "&^") c :: ys) := by
  intro v hv
  simp only [List.mem_cons] at hv
  rcases hv with rfl | rfl | rfl | hv
  · exact ⟨_, _, rfl, by decide +kernel⟩
  · exact ⟨_, _, rfl, by decide +kernel⟩
  · exact ⟨_, _, rfl, by decide +kernel⟩
  · exact h v hv
section
variable {x y due z : Str} {q : Bool}
abbrev guard : Str := PySem.Str.ofString "ampltgquox27#;"
theorem guard_cl : cl guard = [97, 109, 112, 108, 116, 103, 113, 117, 111, 120, 50, 55, 35, 59] := by decide +kernel
open PySem.Builtin PySem.Builtin.Str PySem.StrLaws in
theorem slice_one {c : Nat} {m : List Nat} (h : cl y = c :: m) : Txt.slice y none (some 1) = ⟨#[c]⟩ := by
  have e : strSliceIndices none (some 1) 1 y.length = strSliceIndices (some 0) (some 1) 1 y.length := by
    have a : min (0 : Int) (y.length : Int) = 0 := by omega
    simp [strSliceIndices, a]
  have e2 : Txt.slice y none (some 1) = Txt.slice y (some 0) (some 1) := by
    unfold Txt.slice
    rw [e]
  rw [e2]
  refine cl_inj ?_
  rw [slice_cl (by decide) (by decide) (by omega), h]
  rfl
open PySem.Builtin PySem.Builtin.Str PySem.StrLaws in
theorem head_free (hy : (y == nul) = false) (hg : (occurrences guard (Txt.slice y none (some 1)) 0 guard.length 1).isEmpty = true) : ∃ c m, cl y = c :: m ∧ ¬ goesOn c := by
  cases e : cl y with
  | nil => exact absurd e (not_nul hy)
  | cons c m =>
    refine ⟨c, m, rfl, fun hc => ?_⟩
    have hg' : (!(occurrences guard (Txt.slice y none (some 1)) 0 guard.length 1).isEmpty) = false := by rw [hg]; rfl
    rw [slice_one e, found_one, decide_eq_false_iff_not] at hg'
    apply hg'
    show c ∈ cl guard
    rw [guard_cl]
    exact hc
theorem w1 (hx : 931 ∉ cl x) (hy : (y == nul) = true) (h : Cap (cl y) (cl x) true [] (cl due)) : (cwW x == due) = true := by
  rw [nul_of hy] at h
  rw [beq_iff_eq]
  exact fin_words hx h
theorem w2 (hx : 931 ∉ cl x) (hy : (y == nul) = false) (h : Cap (cl y) (cl x) true [] (cl due)) : (cwS x y == due) = true := by
  rw [beq_iff_eq]
  exact fin_plain hx (nul_pos hy) h
theorem w3 (hx : 931 ∉ cl x) (hy : (y == nul) = true) (h : Cap (cl y) (cl x) true [] (cl due)) (hz : cl z = Mine.E q (cl due)) : (cwW (escS q x) == z) = true := by
  rw [nul_of hy] at h
  rw [beq_iff_eq]
  exact cl_inj ((fin_wordsE hx h).trans hz.symm)
theorem w4 (hx : 931 ∉ cl x) (hy : (y == nul) = false) (hg : (Builtin.Str.occurrences guard (Txt.slice y none (some 1)) 0 guard.length 1).isEmpty = true) (h : Cap (cl y) (cl x) true [] (cl due)) (hz : cl z = Mine.E q (cl due)) : (cwS (escS q x) (escS q y) == z) = true := by
  obtain ⟨c, m, e, hc⟩ := head_free hy hg
  rw [beq_iff_eq]
  exact cl_inj ((fin_markE hx e hc h).trans hz.symm)
theorem len_txt (h : x.length ≤ 60) : x.length ≤ 400 := by omega
theorem len_esc (h : x.length ≤ 60) : (escS q x).length ≤ 400 := by have := escS_len q x; omega
theorem len_esc3 (h : x.length ≤ 3) : (escS q x).length ≤ 20 := by have := escS_len q x; omega
theorem len_20 (h : x.length ≤ 3) : x.length ≤ 20 := by omega
theorem len_60 (h : x.length ≤ 3) : x.length ≤ 60 := by omega
theorem esc_pos (h : (x == nul) = false) : 1 ≤ (escS q x).length := by have := escS_ge q x; have := nul_pos h; omega
end
section
variable {prog : Program} {w : World} {A : Around} {E : Value → Shared → Prop} {s : Shared} {h₀ : Heap} {m : Str → Option Value} {elt iter : Expr} {x : Str} {px : Pos} {scope : Scope} {cl' : List (Str × Addr)} {pos : Pos} {env : Env} {news : List (Addr × Obj)} {Q : Value → Shared → Prop}
theorem comp_due {due x₀ y₀ : Str} {q : Bool} {od : Obj} (hcap : Cap (cl y₀) (cl x₀) true [] (cl due)) (hd : due.length ≤ 240) (T : TabQ prog w q od) (F₀ : Fr h₀ env.locals s.heap m) (N₀ : News h₀ env.locals s.heap news) (hh : A.handled = none)
    (hclos : closureFor scope env = pure cl') (hcell : ∀ y ∈ scope.names, y.2 ≠ .cell) (hkind : scope.kind = .function)
    (hnames : ∀ y ∈ scope.names, y.2 = .local → scope.names.lookup y.1 = some .local) (hx : scope.names.lookup x = some .local) (hs : ∀ x, foldedSetIterable iter env x = pure x)
    (h : wpAny (model prog w) A (eval iter env) (SrcStr s h₀ env.locals m news due) E s)
    (helt : Hold (EvSign prog w A s h₀ m elt x scope cl' env news (refS q)))
    (fin : ∀ (D : Addr) (l : List (Str × Tok)) (h : Heap) (tk : Nat), l.map (·.1) = due.cps.toList.map (refS q) → Fr h₀ env.locals h m → News h₀ env.locals h ((D, lst (strValues l)) :: news) → Q (.ref D) { s with heap := h, toks := tk }) :
    wpAny (model prog w) A (eval (.ListComp elt [⟨.Name x px, iter, [], 0⟩] scope pos) env) Q E s :=
  comp_str F₀ N₀ hh hclos hcell hkind hnames hx hs (by omega) h helt fin
end
section
variable {prog : Program} {w : World} {A : Around} {E : Value → Shared → Prop} {s : Shared} {h₀ h' : Heap} {L : Addr} {m : Str → Option Value} {x y : Str} {Q : Value → Shared → Prop} {more : List (Addr × Obj)} {c p1 p2 p3 p4 : Addr × Obj} {t u : Tok} {tk' : Nat}
theorem neT (h : (x == y) = true) (hq : Q (.bool false) s) : wpAny (model prog w) A (compareOp .NotEq (.str x t) (.str y u)) Q E s := neF h hq
theorem neN (h : (x == y) = false) (hq : Q (.bool true) s) : wpAny (model prog w) A (compareOp .NotEq (.str x t) (.str y u)) Q E s := neF h hq
theorem nul_in : (!(Builtin.Str.occurrences guard (Txt.slice nul none (some 1)) 0 guard.length 1).isEmpty) = true := by decide +kernel
theorem in_nul (hy : (y == nul) = true) (h : Q (.bool true) s) : wpAny (model prog w) A (compareOp .In (.str (Txt.slice y none (some 1)) u) (.str guard t)) Q E s := by
  refine PyProof.Rows.in_str ?_
  rw [eq_of_beq hy, nul_in]
  exact h
theorem news_put4 {own : List (Addr × Obj)} (N : News h₀ L h' (c :: more)) (hs : ∀ p ∈ p1 :: p2 :: p3 :: p4 :: own, p ∈ more) : News h₀ L h' (c :: p1 :: p2 :: p3 :: p4 :: more) := fun p hp => by
  rcases List.mem_cons.mp hp with rfl | hp
  · exact N _ List.mem_cons_self
  · refine N p (List.mem_cons_of_mem _ ?_)
    simp only [List.mem_cons] at hp
    rcases hp with h | h | h | h | h
    · exact hs p (by simp [h])
    · exact hs p (by simp [h])
    · exact hs p (by simp [h])
    · exact hs p (by simp [h])
    · exact h
theorem sign_hit (F : Fr h₀ L h' m) (N : News h₀ L h' (c :: p1 :: p2 :: p3 :: p4 :: more)) : SignP s h₀ L m (c :: more) x (.str x t) { s with heap := h', toks := tk' } :=
  ⟨t, h', tk', rfl, rfl, F, fun p hp => N p (by
    rcases List.mem_cons.mp hp with h | h
    · simp [h]
    · simp [h])⟩
theorem sign_miss (e : x = y) (F : Fr h₀ L h' m) (N : News h₀ L h' (c :: p1 :: p2 :: p3 :: p4 :: more)) : SignP s h₀ L m (c :: more) x (.str y t) { s with heap := h', toks := tk' } := e ▸ sign_hit F N
theorem turnN {s₁ : Shared} {x₀ : Str} {stored : List Str} {m₀ : Str → Option Value} {led led' : List (Addr × Obj)} (F : Fr h₀ L h' m) (N : News h₀ L h' led') (hs : ∀ p ∈ led, p ∈ led') (hm : ∀ z, z ≠ x₀ → stored.contains z = false → m z = m₀ z) :
    TurnF s₁ h₀ L x₀ stored m₀ led .next { s₁ with heap := h', toks := tk' } := ⟨h', tk', m, rfl, F, fun p hp => N p (hs p hp), hm⟩
theorem turnC {s₁ : Shared} {x₀ : Str} {stored : List Str} {m₀ : Str → Option Value} {led led' : List (Addr × Obj)} (F : Fr h₀ L h' m) (N : News h₀ L h' led') (hs : ∀ p ∈ led, p ∈ led') (hm : ∀ z, z ≠ x₀ → stored.contains z = false → m z = m₀ z) :
    TurnF s₁ h₀ L x₀ stored m₀ led .cont { s₁ with heap := h', toks := tk' } := ⟨h', tk', m, rfl, F, fun p hp => N p (hs p hp), hm⟩
theorem src_of {led : List (Addr × Obj)} (F : Fr h₀ L h' m) (N : News h₀ L h' led) : SrcStr s h₀ L m led x (.str x t) { s with heap := h', toks := tk' } := ⟨t, h', tk', rfl, rfl, F, N⟩
theorem not3 {a b c z : Str} (h : [a, b, c].contains z = false) : z ≠ a ∧ z ≠ b ∧ z ≠ c := by
  simp only [List.contains_cons, Bool.or_eq_false_iff, beq_eq_false_iff_ne] at h
  exact ⟨h.1, h.2.1, h.2.2.1⟩
end
end Mine
end
section
open PySem PySem.W PyProof.Rows PyProof.Rows.LCg
namespace Mine
set_option maxRecDepth 100000
set_option maxHeartbeats 8000000
section
local macro_rules | `(tactic| walk_at "call ref") => `(tactic| first
  | (k_dflt (refine c_text _ _ _ _ _ _ _ _ _ (by with_reducible assumption) (by omega) _ _ _ _ _ _ _ _ _ _ _ _ _ _ _ _ _ (by k_asm) (by k_asm) (by k_asm) (by k_asm) (by k_asm) rfl (by ktr_room) (by ktr_units) ?_); (rintro v9 h9 tk9 ⟨x9, t9, e9, hx9, hy9, hz9⟩ F9 N9); subst e9; (try dsimp only); (try k_fold))
  | (k_dflt (refine c_capped _ _ _ _ _ _ _ _ _ (by with_reducible assumption) (by with_reducible assumption) (by with_reducible assumption) _ _ _ _ _ _ _ _ _ _ _ _ _ _ _ _ _ (by k_asm) (by k_asm) (by k_asm) (by k_asm) (by k_asm) rfl (by ktr_room) (by ktr_units) ?_); (rintro v9 h9 tk9 ⟨x9, t9, e9, hx9, hy9⟩ F9 N9); subst e9; (try dsimp only); (try k_fold))
  | (k_dflt (refine c_cap2 _ _ _ _ _ _ _ _ _ (by first | exact len_txt (by with_reducible assumption) | exact len_esc (by with_reducible assumption)) (by first | exact nul_pos (by with_reducible assumption) | exact esc_pos (by with_reducible assumption)) (by first | exact len_20 (by with_reducible assumption) | exact len_esc3 (by with_reducible assumption)) _ _ _ _ _ _ _ _ _ _ _ _ _ _ _ _ _ (by k_asm) (by k_asm) (by k_asm) (by k_asm) (by k_asm) rfl (by ktr_room) (by ktr_units) ?_); (rintro v9 h9 tk9 ⟨t9, e9⟩ F9 N9); subst e9; (try dsimp only); (try k_fold))
  | (k_dflt (refine c_cap1 _ _ _ _ _ _ _ (by first | exact len_txt (by with_reducible assumption) | exact len_esc (by with_reducible assumption)) _ _ _ _ _ _ _ _ _ _ _ _ _ _ _ _ _ (by k_asm) (by k_asm) (by k_asm) (by k_asm) (by k_asm) rfl (by ktr_room) (by ktr_units) ?_); (rintro v9 h9 tk9 ⟨t9, e9⟩ F9 N9); subst e9; (try dsimp only); (try k_fold))
  | (k_dflt (refine c_escape _ _ _ _ _ _ _ _ (by first | with_reducible assumption | exact len_60 (by with_reducible assumption)) _ _ _ _ _ _ _ _ _ _ _ _ _ _ _ _ _ (by k_asm) (by k_asm) (by k_asm) (by k_asm) (by k_asm) rfl (by ktr_room) (by ktr_units) ?_); (rintro v9 h9 tk9 ⟨t9, e9⟩ F9 N9); subst e9; (try dsimp only); (try k_fold)))
local macro_rules | `(tactic| walk_at "compareOp Eq str str") => `(tactic| (with_reducible refine eqF (by with_reducible assumption) ?_))
local macro_rules | `(tactic| walk_at "compareOp NotEq str str") => `(tactic| first | (with_reducible refine neN (by with_reducible assumption) ?_) | (with_reducible refine neT (by first | with_reducible assumption | with_reducible exact w1 (by with_reducible assumption) (by with_reducible assumption) (by with_reducible assumption) | with_reducible exact w2 (by with_reducible assumption) (by with_reducible assumption) (by with_reducible assumption) | with_reducible exact w3 (by with_reducible assumption) (by with_reducible assumption) (by with_reducible assumption) (by with_reducible assumption) | with_reducible exact w4 (by with_reducible assumption) (by with_reducible assumption) (by with_reducible assumption) (by with_reducible assumption) (by with_reducible assumption)) ?_))
local macro_rules | `(tactic| walk_at "compareOp In str str") => `(tactic| (with_reducible refine in_nul (by with_reducible assumption) ?_))
local macro_rules | `(tactic| walk_at "compareOp In str ref") => `(tactic| (k_dflt (refine in_tab (by k_asm) (List.mem_cons_of_mem _ (List.mem_cons_of_mem _ List.mem_cons_self)) (by with_reducible assumption) (by with_reducible assumption) ?_ ?_)))
local macro_rules | `(tactic| walk_at "subscriptTail") => `(tactic| (k_dflt (refine item_tab (by k_asm) (List.mem_cons_of_mem _ (List.mem_cons_of_mem _ List.mem_cons_self)) (by with_reducible assumption) ?_)))
local macro_rules | `(tactic| walk_at "eval ListComp") => `(tactic| ((k_dflt (refine comp_due (by with_reducible assumption) (by with_reducible assumption) (by with_reducible assumption) (by k_asm) (by k_asm) rfl (by with_unfolding_all rfl) (by decide) rfl (by decide) rfl (by intro _; rfl) ?_ ?_ ?_))))
local macro_rules | `(tactic| walk_at "call builtin:str.join") => `(tactic| ((refine join_shown (by k_asm) List.mem_cons_self (by with_reducible assumption) (by with_reducible assumption) ?_); (intro jz jt jk jc)))
local macro_rules | `(tactic| walk_at "exec If") => `(tactic| ((with_reducible show wpAny _ _ (exec (Stmt.If (Expr.Name (PySem.Str.ofString "quote") _) _ _ _) _) _ _ _); k_dflt (refine if_join (by k_asm) (by k_asm) rfl ?_ ?_)))
local macro_rules | `(tactic| walk_at "exec For") => `(tactic| (k_dflt (refine for_held [PySem.Str.ofString "due", PySem.Str.ofString "shown", PySem.Str.ofString "cooked"] (by k_asm) (by k_asm) rfl rfl rfl (by intro _; rfl) ?_ ?_ ?_)))
theorem law_holds : PySem.Challenge.rw_dn0034_01.Holds := by
  refine hd ?_
  k_go0; (all_goals try k_fold); k_steps
  · refine ⟨_, _, _, _, _, rfl, by k_asm, ?_, by assumption, by assumption, tab_t (by assumption) (tabQ_true (by assumption))⟩
    exact cb_drop (by k_asm) (by kcj_all)
  · refine ⟨_, _, _, _, _, rfl, by k_asm, ?_, by assumption, by assumption, tab_f (by assumption) (tabQ_false (by assumption))⟩
    exact cb_drop (by k_asm) (by kcj_all)
  · rename_i jd jod joB jh jtk jF jN jB jlo jT
    k_dflt (refine assign_two (by k_asm) (by k_asm) rfl (by with_unfolding_all rfl) (by with_unfolding_all rfl) (by decide) rfl (by decide) rfl rfl (by decide) rfl rfl (by intro _; rfl) (by intro _ _; rfl) ?_ ?_ ?_ ?_)
    · k_steps
      exact ⟨_, _, _, _, _, _, rfl, rfl, by k_asm, by k_asm, rfl, rfl, (by show (3:Nat) ≤ 3; decide), tup123⟩
    · intro C oC m2 more h tk k t E' hk1 hk3 hC hm hsub F N
      have N' := news_put N hsub
      clear N hsub
      k_steps
      exact iterP_of (by assumption) (by k_asm) (by k_asm) (by assumption) (by assumption) hk1 hk3
    · intro C oC m2 more h tk k i t u E' hk1 hk3 hi1 hi2 hC hm1 hm2 hsub F N
      have N' := news_put N hsub
      clear N hsub
      k_steps
      exact eltP_of (by k_asm) (by k_asm) hk1 hk3 hi1
    · k_steps
      · exact ⟨_, _, _, _, _, rfl, rfl, by k_asm, cb_drop (by k_asm) (by kcj_all), short_cons (by assumption)⟩
      · rename NoSig _ => hz
        have hsig : 931 ∉ cl _ := hz
        refine fun mark mt u h tk own hm3 F N => ?_
        have N' := N
        rw [List.cons_append, List.cons_append, List.cons_append, List.cons_append, List.nil_append] at N'
        clear N
        cases hyb : (mark == PySem.Str.ofString "")
        all_goals k_steps
        all_goals first
          | (refine turnN (by k_asm) (by k_asm) (by kcj_all) ?_; intro z h1 h2; obtain ⟨ha, hb, hc⟩ := not3 h2; simp only [if_neg ha, if_neg hb, if_neg hc, if_neg h1, h2, Bool.false_eq_true, if_false])
          | (refine turnC (by k_asm) (by k_asm) (by kcj_all) ?_; intro z h1 h2; obtain ⟨ha, hb, hc⟩ := not3 h2; simp only [if_neg ha, if_neg hb, if_neg hc, if_neg h1, h2, Bool.false_eq_true, if_false])
          | skip
        · exact src_of (by first | k_asm | assumption) (by first | k_asm | assumption)
        · refine fun C oC m2 more h' tk' c u' E' hC hm hsub F' N'' => ?_
          have N4 := news_put4 N'' hsub
          clear N'' hsub
          k_steps
          · exact sign_hit (by k_asm) (by k_asm)
          · exact sign_miss (by assumption) (by k_asm) (by k_asm)
        · exact src_of (by first | k_asm | assumption) (by first | k_asm | assumption)
        · refine fun C oC m2 more h' tk' c u' E' hC hm hsub F' N'' => ?_
          have N4 := news_put4 N'' hsub
          clear N'' hsub
          k_steps
          · exact sign_hit (by k_asm) (by k_asm)
          · exact sign_miss (by assumption) (by k_asm) (by k_asm)
end
end Mine
end
theorem PySem.Challenge.cw_dn0034_01_holds : PySem.Challenge.rw_dn0034_01.Holds := by
  exact Mine.law_holds
