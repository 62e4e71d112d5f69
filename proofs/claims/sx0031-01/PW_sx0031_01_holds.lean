import PyProof.Rows.All
import Wide.All
import OpenK.AllK
import Wide.FinOn
import PySem.Challenge.RW_sx0031_01
set_option Elab.async false

-- HdA
section
open PySem PySem.W PyProof.Rows
namespace Mine
set_option maxRecDepth 100000 in
set_option maxHeartbeats 8000000 in
open_top hd for PySem.Challenge.rw_sx0031_01
end Mine
end

-- P1
section
namespace Mine
def laV (ns : List Int) (i : Int) : Int := if i < (ns.length : Int) then ns.getD i.toNat 0 else -1
def skipM (ns : List Int) (i : Int) : Nat := ((ns.drop (i.toNat + 1)).takeWhile (fun z => z == 61)).length
theorem laV_eq {ns : List Int} {j : Int} (h : 0 ≤ j) : laV ns j = (ns[j.toNat]?).getD (-1) := by
  unfold laV
  split
  · rename_i h1
    have : j.toNat < ns.length := by omega
    simp [List.getD, this]
  · rename_i h1
    have : ns.length ≤ j.toNat := by omega
    simp [this]
theorem tw_iff {r : List Int} : ∀ {q : Nat}, q ≤ (r.takeWhile (fun z => z == 61)).length → ((r[q]?).getD (-1) = 61 ↔ q < (r.takeWhile (fun z => z == 61)).length) := by
  induction r with
  | nil => intro q h; simp at h ⊢
  | cons a t ih =>
    intro q h
    by_cases ha : a = 61
    · subst ha
      simp only [List.takeWhile_cons, BEq.rfl, if_true, List.length_cons] at h ⊢
      cases q with
      | zero => simp
      | succ q => simp only [List.getElem?_cons_succ]; rw [ih (by omega)]; omega
    · have : (a == 61) = false := by simpa using ha
      simp only [List.takeWhile_cons, this, Bool.false_eq_true, if_false, List.length_nil] at h ⊢
      obtain rfl : q = 0 := by omega
      simp [ha]
theorem laV_marks {ns : List Int} {i c : Int} (h0 : 0 ≤ i) (h1 : 0 ≤ c) (h2 : c ≤ (skipM ns i : Int)) : laV ns (i + 1 + c) = 61 ↔ c < (skipM ns i : Int) := by
  rw [laV_eq (by omega)]
  have e : (i + 1 + c).toNat = (i.toNat + 1) + c.toNat := by omega
  rw [e]
  have := tw_iff (r := ns.drop (i.toNat + 1)) (q := c.toNat) (by unfold skipM at h2; omega)
  rw [List.getElem?_drop] at this
  rw [this]
  unfold skipM
  omega
theorem skip_le {ns : List Int} {i : Int} (h0 : 0 ≤ i) (h1 : i < (ns.length : Int)) : i + 1 + (skipM ns i : Int) ≤ (ns.length : Int) := by
  have := (List.takeWhile_prefix (fun z => z == 61) (l := ns.drop (i.toNat + 1))).length_le
  rw [List.length_drop] at this
  unfold skipM
  omega
def skipI (ns : List Int) (i : Int) : Int := i + 1 + (skipM ns i : Int)
def skipV (ns : List Int) (i : Int) : Int := if laV ns (skipI ns i) = laV ns i then (skipM ns i : Int) + 2 else if skipM ns i = 0 then 1 else 0
theorem laV_lt {ns : List Int} {j : Int} : laV ns j = -1 ∨ j < (ns.length : Int) := by
  unfold laV
  split <;> omega
theorem skipI_le {ns : List Int} {i : Int} (h0 : 0 ≤ i) : i < (ns.length : Int) → skipI ns i ≤ (ns.length : Int) ∧ i < skipI ns i := fun h => by
  have := skip_le h0 h
  unfold skipI
  omega
theorem skipI_lt {ns : List Int} {i sep : Int} (h : 2 ≤ sep) : skipV ns i = sep → laV ns i = 93 → skipI ns i < (ns.length : Int) := fun h1 h2 => by
  have h3 : laV ns (skipI ns i) = laV ns i := by
    unfold skipV at h1
    split at h1
    · assumption
    · split at h1 <;> omega
  have := @laV_lt ns (skipI ns i)
  omega
def rdF (ns : List Int) (sep : Int) : Nat → Int → Int
  | 0, j => j
  | f + 1, j => if laV ns j = -1 then j else if laV ns j = 93 then (if skipV ns j = sep then skipI ns j + 1 else rdF ns sep f (skipI ns j)) else rdF ns sep f (j + 1)
def rdV (ns : List Int) (sep j : Int) : Int := rdF ns sep (ns.length + 1 - j.toNat) j
theorem rdF_eq {ns : List Int} {sep : Int} : ∀ (f g : Nat) (j : Int), 0 ≤ j → ns.length + 1 ≤ f + j.toNat → ns.length + 1 ≤ g + j.toNat → rdF ns sep f j = rdF ns sep g j
  | 0, g, j, h0, h1, h2 => by
    have : laV ns j = -1 := by have := @laV_lt ns j; omega
    cases g with
    | zero => rfl
    | succ g => simp [rdF, this]
  | f + 1, 0, j, h0, h1, h2 => by
    have : laV ns j = -1 := by have := @laV_lt ns j; omega
    simp [rdF, this]
  | f + 1, g + 1, j, h0, h1, h2 => by
    unfold rdF
    split
    · rfl
    · rename_i hn
      have hl := (@laV_lt ns j).resolve_left hn
      have hs := skipI_le h0 hl
      split
      · split
        · rfl
        · exact rdF_eq f g _ (by omega) (by omega) (by omega)
      · exact rdF_eq f g _ (by omega) (by omega) (by omega)
theorem rdV_step {ns : List Int} {sep j : Int} (h0 : 0 ≤ j) : rdV ns sep j = if laV ns j = -1 then j else if laV ns j = 93 then (if skipV ns j = sep then skipI ns j + 1 else rdV ns sep (skipI ns j)) else rdV ns sep (j + 1) := by
  have hl := @laV_lt ns j
  have hs := @skipI_le ns j h0
  have e : rdV ns sep j = rdF ns sep (ns.length + 1) j := rdF_eq _ _ _ h0 (by omega) (by omega)
  rw [e]
  unfold rdF
  split
  · rfl
  · split
    · split
      · rfl
      · exact rdF_eq _ _ _ (by omega) (by omega) (by omega)
    · exact rdF_eq _ _ _ (by omega) (by omega) (by omega)
theorem twp_iff {p : Int → Bool} (hp : p (-1) = false) {r : List Int} : ∀ {q : Nat}, q ≤ (r.takeWhile p).length → (p ((r[q]?).getD (-1)) = true ↔ q < (r.takeWhile p).length) := by
  induction r with
  | nil => intro q h; simp at h ⊢; simp [hp]
  | cons a t ih =>
    intro q h
    cases ha : p a with
    | true =>
      simp only [List.takeWhile_cons, ha, if_true, List.length_cons] at h ⊢
      cases q with
      | zero => simp [ha]
      | succ q => simp only [List.getElem?_cons_succ]; rw [ih (by omega)]; omega
    | false =>
      simp only [List.takeWhile_cons, ha, Bool.false_eq_true, if_false, List.length_nil] at h ⊢
      obtain rfl : q = 0 := by omega
      simp [ha]
def nlV (ns : List Int) (j : Int) : Int := j + (((ns.drop j.toNat).takeWhile (fun z => z != 10 && z != -1)).length : Int)
theorem nlV_iff {ns : List Int} {j k : Int} (h0 : 0 ≤ j) (h1 : j ≤ k) (h2 : k ≤ nlV ns j) : (laV ns k = 10 ∨ laV ns k = -1) ↔ ¬ k < nlV ns j := by
  rw [laV_eq (by omega)]
  have e : k.toNat = j.toNat + (k - j).toNat := by omega
  rw [e]
  have := twp_iff (p := fun z => z != 10 && z != -1) (by decide) (r := ns.drop j.toNat) (q := (k - j).toNat) (by unfold nlV at h2; omega)
  rw [List.getElem?_drop] at this
  have e2 : (k - j).toNat < ((ns.drop j.toNat).takeWhile (fun z => z != 10 && z != -1)).length ↔ k < nlV ns j := by unfold nlV; omega
  rw [e2] at this
  rw [← this]
  simp only [bne_iff_ne, Bool.and_eq_true, ne_eq]
  omega
theorem nlV_le {ns : List Int} {j : Int} (h0 : 0 ≤ j) (h1 : j ≤ (ns.length : Int)) : nlV ns j ≤ (ns.length : Int) := by
  have := (List.takeWhile_prefix (fun z => z != 10 && z != -1) (l := ns.drop j.toNat)).length_le
  rw [List.length_drop] at this
  unfold nlV
  omega
theorem nlV_ge {ns : List Int} {j : Int} : j ≤ nlV ns j := by unfold nlV; omega
theorem skipI_lt2 {ns : List Int} {i : Int} : 2 ≤ skipV ns i → laV ns i = 91 → skipI ns i < (ns.length : Int) := fun h1 h2 => by
  have h3 : laV ns (skipI ns i) = laV ns i := by
    unfold skipV at h1
    split at h1
    · assumption
    · split at h1 <;> omega
  have := @laV_lt ns (skipI ns i)
  omega
def hcV (ns : List Int) : Int := if laV ns 0 = 91 then (if 2 ≤ skipV ns 0 then rdV ns (skipV ns 0) (skipI ns 0 + 1) else nlV ns (skipI ns 0)) else nlV ns 0
end Mine
end

-- L1
section
open PySem PySem.W PyProof.Rows
namespace Mine

set_option maxRecDepth 100000 in
set_option maxHeartbeats 8000000 in
theorem la_call {w : World} {loose : List Str} {mean : ExcName → Option Value} {mg mb : Str → Option Value}
    {dp un : Nat} {gd : Option (List Code)} {cn : Str} {cs : Scope} {a : Addr} {ccd : Value} {cl : List (Str × Addr)} {outer : List Env} {A₀ : Around} {base h₀ : Heap} {L : Addr} {m : Str → Option Value} {s : Shared} {Q E : Value → Shared → Prop}
    {x d l : Addr} {vs : List Value} {ns : List Int} {nn : Nat} {e1 e2 i : Int} {t1 t2 ti t0 : Tok} {own : List (Addr × Obj)}
    (B : Below A₀ base outer h₀) (F : Fr h₀ L s.heap m) (X : (hd.heap_39 w.params).In h₀)
    (N : News h₀ L s.heap ((x, instObj 45 d) :: (d, dictOf [⟨e1, .str (Str.ofString "data") t1, .ref l⟩, ⟨e2, .str (Str.ofString "index") t2, .int i ti⟩] 2) :: (l, listOf vs.toArray nn) :: own))
    (T : Top hd.view_39 loose mean mg mb h₀) (hk : cs.kind = .function) (hI : IntsAre vs ns) (hL : ns.length ≤ 1000) (h0 : 0 ≤ i) (hi : i ≤ 1000)
    (hd : dp + 1 < recursionLimit) (hu : un + 8 < cLine)
    (ret : ∀ t h' tk', Fr h₀ L h' m → News h₀ L h' ((x, instObj 45 d) :: (d, dictOf [⟨e1, .str (Str.ofString "data") t1, .ref l⟩, ⟨e2, .str (Str.ofString "index") t2, .int i ti⟩] 2) :: (l, listOf vs.toArray nn) :: own) → Q (.int (laV ns i) t) { s with heap := h', toks := tk' }) :
    wpAny (model PySem.Challenge.rw_sx0031_01.row.prog w) (ktrTop dp un gd cn cs L a ccd cl outer) (call (.ref 35) [.ref x, .int 1 t0]) Q E s := by
  w_top off; revert X; k_fill; intro X
  refine wpAny_call ?_
  k_dflt cell_enter
  k_steps
  · refine cb_retI ret ?_ (by k_asm) (by k_asm)
    unfold laV; split <;> first | omega | rfl
  · refine cb_retI ret ?_ (by k_asm) (by k_asm)
    unfold laV; rw [if_pos (by omega)]; congr 1; omega
end Mine
end

-- L2
section
open PySem PySem.W PyProof.Rows
namespace Mine
set_option maxRecDepth 100000 in
set_option maxHeartbeats 8000000 in
theorem consume_call {w : World} {loose : List Str} {mean : ExcName → Option Value} {mg mb : Str → Option Value}
    {dp un : Nat} {gd : Option (List Code)} {cn : Str} {cs : Scope} {a : Addr} {ccd : Value} {cl : List (Str × Addr)} {outer : List Env} {A₀ : Around} {base h₀ : Heap} {L : Addr} {m : Str → Option Value} {s : Shared} {Q E : Value → Shared → Prop}
    {x d l : Addr} {vs : List Value} {ns : List Int} {nn : Nat} {e1 e2 i : Int} {t1 t2 ti : Tok} {own : List (Addr × Obj)}
    (B : Below A₀ base outer h₀) (F : Fr h₀ L s.heap m) (X : (hd.heap_39 w.params).In h₀)
    (N : News h₀ L s.heap ((x, instObj 45 d) :: (d, dictOf [⟨e1, .str (Str.ofString "data") t1, .ref l⟩, ⟨e2, .str (Str.ofString "index") t2, .int i ti⟩] 2) :: (l, listOf vs.toArray nn) :: own))
    (T : Top hd.view_39 loose mean mg mb h₀) (hk : cs.kind = .function) (hI : IntsAre vs ns) (hL : ns.length ≤ 1000) (h0 : 0 ≤ i) (hi : i < (ns.length : Int))
    (hd : dp + 1 < recursionLimit) (hu : un + 8 < cLine) (hxd : @Ne Nat x d) (hld : @Ne Nat l d) (hO : OwnOff own [d])
    (ret : ∀ ti' h' tk', Fr h₀ L h' m → News h₀ L h' ((x, instObj 45 d) :: (d, dictOf [⟨e1, .str (Str.ofString "data") t1, .ref l⟩, ⟨e2, .str (Str.ofString "index") t2, .int (i + 1) ti'⟩] 2) :: (l, listOf vs.toArray nn) :: own) → Q .none { s with heap := h', toks := tk' }) :
    wpAny (model PySem.Challenge.rw_sx0031_01.row.prog w) (ktrTop dp un gd cn cs L a ccd cl outer) (call (.ref 42) [.ref x]) Q E s := by
  w_top off; revert X; k_fill; intro X
  refine wpAny_call ?_
  k_dflt cell_enter
  k_steps
  exact ret _ _ _ (by k_asm) (by k_asm)
end Mine
end

-- L3
section
open PySem PySem.W PyProof.Rows
namespace Mine

def Stop (P : Prop) : Prop := P
theorem Stop.mk {P : Prop} (h : Stop P) : P := h
theorem Stop.out {P : Prop} (h : P) : Stop P := h
local macro_rules | `(tactic| walk_at "exec While Compare cons nil") => `(tactic| (k_here; refine Stop.mk ?_))
local macro_rules | `(tactic| walk_at "call ref") => `(tactic| (k_here; (with_reducible show wpAny _ _ (PySem.call (Value.ref 35) _) _ _ _); k_dflt (refine' la_call ?k1 ?k2 ?k3 ?k4 ?k5 ?k6 ?k7 ?k8 ?k9 ?k10 ?k11 ?k12 ?_; (case k1 => k_asm); (case k2 => k_asm); (case k3 => k_asm); (case k4 => k_asm); (case k5 => k_asm); (case k6 => first | exact rfl | assumption); (case k7 => assumption); (case k8 => omega); (case k9 => omega); (case k10 => omega); (case k11 => ktr_room); (case k12 => ktr_units); k_whole; intro t9 h9 tk9 F9 N9)))
local macro_rules | `(tactic| walk_at "call ref") => `(tactic| (k_here; (with_reducible show wpAny _ _ (PySem.call (Value.ref 42) _) _ _ _); k_dflt (refine' consume_call ?k1 ?k2 ?k3 ?k4 ?k5 ?k6 ?k7 ?k8 ?k9 ?k10 ?k11 ?k12 ?k13 ?k14 ?k15 ?_; (case k1 => k_asm); (case k2 => k_asm); (case k3 => k_asm); (case k4 => k_asm); (case k5 => k_asm); (case k6 => first | exact rfl | assumption); (case k7 => assumption); (case k8 => omega); (case k9 => omega); (case k10 => omega); (case k11 => ktr_room); (case k12 => ktr_units); (case k13 => assumption); (case k14 => assumption); (case k15 => assumption); k_whole; intro t9 h9 tk9 F9 N9)))

set_option maxRecDepth 100000 in
set_option maxHeartbeats 8000000 in
theorem skip_call {w : World} {loose : List Str} {mean : ExcName → Option Value} {mg mb : Str → Option Value}
    {dp un : Nat} {gd : Option (List Code)} {cn : Str} {cs : Scope} {a : Addr} {ccd : Value} {cl : List (Str × Addr)} {outer : List Env} {A₀ : Around} {base h₀ : Heap} {L : Addr} {m : Str → Option Value} {s : Shared} {Q E : Value → Shared → Prop}
    {x d l : Addr} {vs : List Value} {ns : List Int} {nn : Nat} {e1 e2 i : Int} {t1 t2 ti : Tok} {own : List (Addr × Obj)}
    (B : Below A₀ base outer h₀) (F : Fr h₀ L s.heap m) (X : (hd.heap_39 w.params).In h₀)
    (N : News h₀ L s.heap ((x, instObj 45 d) :: (d, dictOf [⟨e1, .str (Str.ofString "data") t1, .ref l⟩, ⟨e2, .str (Str.ofString "index") t2, .int i ti⟩] 2) :: (l, listOf vs.toArray nn) :: own))
    (T : Top hd.view_39 loose mean mg mb h₀) (hk : cs.kind = .function) (hI : IntsAre vs ns) (hL : ns.length ≤ 1000) (h0 : 0 ≤ i) (hi : i < (ns.length : Int)) {v0 : Value}
    (hd : dp + 2 < recursionLimit) (hu : un + 16 < cLine) (hxd : @Ne Nat x d) (hld : @Ne Nat l d) (hO : OwnOff own [d])
    (ret : ∀ t ti' h' tk', Fr h₀ L h' m → News h₀ L h' ((x, instObj 45 d) :: (d, dictOf [⟨e1, .str (Str.ofString "data") t1, .ref l⟩, ⟨e2, .str (Str.ofString "index") t2, .int (skipI ns i) ti'⟩] 2) :: (l, listOf vs.toArray nn) :: own) → Q (.int (skipV ns i) t) { s with heap := h', toks := tk' }) :
    wpAny (model PySem.Challenge.rw_sx0031_01.row.prog w) (ktrTop dp un gd cn cs L a ccd cl outer) (call (.ref 84) [v0, .ref x]) Q E s := by
  w_top off; revert X; k_fill; intro X
  refine wpAny_call ?_
  k_dflt cell_enter
  k_steps
  refine Stop.out ?_
  have hb := skip_le h0 hi
  (rename Fr _ _ _ _ => lF); (rename News _ _ _ _ => lN)
  refine' ksw_while (σ := Int × Nat × Nat) (fun c => (x, instObj 45 d) :: (d, dictOf [⟨e1, .str (Str.ofString "data") t1, .ref l⟩, ⟨e2, .str (Str.ofString "index") t2, .int (i + 1 + c.1) c.2.2⟩] 2) :: (l, listOf vs.toArray nn) :: own) (fun c => [(Str.ofString "count", .int c.1 c.2.1)]) (fun _ => True) [] (fun c => 0 ≤ c.1 ∧ c.1 ≤ (skipM ns i : Int)) (fun c => skipM ns i - c.1.toNat) ⟨0, ?tA, ?tB⟩ lF ?kn trivial ?kk ?kp ?_
  case kn => dsimp only; rw [Int.add_zero]; exact lN
  case kk => kst_all
  case kp => exact ⟨Int.le_refl 0, by dsimp only; omega⟩
  clear lF lN
  rintro ⟨c, tc, tj⟩ u h tk - ⟨h1, h2⟩ kF kN
  dsimp only at h1 h2
  dsimp only [kstB] at kF
  dsimp only at kN
  have hm := laV_marks h0 h1 h2
  k_steps
  · (rename Fr _ _ _ _ => fE); (rename News _ _ _ _ => nE)
    have e : i + 1 + c + 1 = i + 1 + (c + 1) := by omega
    rw [e] at nE
    refine ksw_end ⟨c + 1, _, _⟩ fE nE (fun _ h => h) trivial (by kst_all) (by ksw_same) ⟨?_, ?_⟩ ?_ <;> dsimp only <;> omega
  all_goals ((rename Fr _ _ _ _ => fE); (rename News _ _ _ _ => nE))
  all_goals (have hc : c = (skipM ns i : Int) := by omega)
  all_goals (have e : i + 1 + c = skipI ns i := by unfold skipI; omega)
  all_goals rw [e] at nE
  all_goals simp only [e] at *
  all_goals refine cb_retI (fun t h' tk' F' N' => ret t _ h' tk' F' N') ?_ fE nE
  all_goals unfold skipV
  · rw [if_pos (by omega)]; omega
  · rw [if_neg (by omega), if_pos (by omega)]
  · rw [if_neg (by omega), if_neg (by omega)]
end Mine
end

-- L4
section
open PySem PySem.W PyProof.Rows
namespace Mine
local macro_rules | `(tactic| walk_at "exec While UnaryOp cons nil") => `(tactic| (k_here; refine Stop.mk ?_))
local macro_rules | `(tactic| walk_at "call ref") => `(tactic| (k_here; (with_reducible show wpAny _ _ (PySem.call (Value.ref 35) _) _ _ _); k_dflt (refine' la_call ?k1 ?k2 ?k3 ?k4 ?k5 ?k6 ?k7 ?k8 ?k9 ?k10 ?k11 ?k12 ?_; (case k1 => k_asm); (case k2 => k_asm); (case k3 => k_asm); (case k4 => k_asm); (case k5 => k_asm); (case k6 => first | exact rfl | assumption); (case k7 => assumption); (case k8 => omega); (case k9 => omega); (case k10 => omega); (case k11 => ktr_room); (case k12 => ktr_units); k_whole; intro t9 h9 tk9 F9 N9)))
local macro_rules | `(tactic| walk_at "call ref") => `(tactic| (k_here; (with_reducible show wpAny _ _ (PySem.call (Value.ref 42) _) _ _ _); k_dflt (refine' consume_call ?k1 ?k2 ?k3 ?k4 ?k5 ?k6 ?k7 ?k8 ?k9 ?k10 ?k11 ?k12 ?k13 ?k14 ?k15 ?_; (case k1 => k_asm); (case k2 => k_asm); (case k3 => k_asm); (case k4 => k_asm); (case k5 => k_asm); (case k6 => first | exact rfl | assumption); (case k7 => assumption); (case k8 => omega); (case k9 => omega); (case k10 => omega); (case k11 => ktr_room); (case k12 => ktr_units); (case k13 => assumption); (case k14 => assumption); (case k15 => assumption); k_whole; intro t9 h9 tk9 F9 N9)))
local macro_rules | `(tactic| walk_at "call ref") => `(tactic| (k_here; (with_reducible show wpAny _ _ (PySem.call (Value.ref 84) _) _ _ _); k_dflt (refine' skip_call ?k1 ?k2 ?k3 ?k4 ?k5 ?k6 ?k7 ?k8 ?k9 ?k10 ?k11 ?k12 ?k13 ?k14 ?k15 ?_; (case k1 => k_asm); (case k2 => k_asm); (case k3 => k_asm); (case k4 => k_asm); (case k5 => k_asm); (case k6 => first | exact rfl | assumption); (case k7 => assumption); (case k8 => omega); (case k9 => omega); (case k10 => omega); (case k11 => ktr_room); (case k12 => ktr_units); (case k13 => assumption); (case k14 => assumption); (case k15 => assumption); k_whole; intro t9 ti9 h9 tk9 F9 N9)))

set_option maxRecDepth 100000 in
set_option maxHeartbeats 8000000 in
theorem read_call {w : World} {loose : List Str} {mean : ExcName → Option Value} {mg mb : Str → Option Value}
    {dp un : Nat} {gd : Option (List Code)} {cn : Str} {cs : Scope} {a : Addr} {ccd : Value} {cl : List (Str × Addr)} {outer : List Env} {A₀ : Around} {base h₀ : Heap} {L : Addr} {m : Str → Option Value} {s : Shared} {Q E : Value → Shared → Prop}
    {x d l lx ld : Addr} {vs : List Value} {ns : List Int} {nn : Nat} {e1 e2 e3 i : Int} {t1 t2 t3 ti t0 : Tok} {own : List (Addr × Obj)}
    (B : Below A₀ base outer h₀) (F : Fr h₀ L s.heap m) (X : (hd.heap_39 w.params).In h₀)
    (N : News h₀ L s.heap ((x, instObj 45 d) :: (d, dictOf [⟨e1, .str (Str.ofString "data") t1, .ref l⟩, ⟨e2, .str (Str.ofString "index") t2, .int i ti⟩] 2) :: (l, listOf vs.toArray nn) :: (lx, instObj 94 ld) :: (ld, dictOf [⟨e3, .str (Str.ofString "_input") t3, .ref x⟩] 1) :: own))
    (T : Top hd.view_39 loose mean mg mb h₀) (hk : cs.kind = .function) (hI : IntsAre vs ns) (hL : ns.length ≤ 1000) (h0 : 0 ≤ i) (hi : i < (ns.length : Int)) {sep : Int} (hs : 2 ≤ sep)
    (hd : dp + 3 < recursionLimit) (hu : un + 24 < cLine) (hxd : @Ne Nat x d) (hld : @Ne Nat l d) (hlx : @Ne Nat lx d) (hlxd : @Ne Nat ld d) (hO : OwnOff own [d])
    (ret : ∀ ti' h' tk', Fr h₀ L h' m → News h₀ L h' ((x, instObj 45 d) :: (d, dictOf [⟨e1, .str (Str.ofString "data") t1, .ref l⟩, ⟨e2, .str (Str.ofString "index") t2, .int (rdV ns sep (i + 1)) ti'⟩] 2) :: (l, listOf vs.toArray nn) :: (lx, instObj 94 ld) :: (ld, dictOf [⟨e3, .str (Str.ofString "_input") t3, .ref x⟩] 1) :: own) → Q .none { s with heap := h', toks := tk' }) :
    wpAny (model PySem.Challenge.rw_sx0031_01.row.prog w) (ktrTop dp un gd cn cs L a ccd cl outer) (call (.ref 77) [.ref lx, .ref x, .int sep t0]) Q E s := by
  w_top off; revert X; k_fill; intro X
  have hO5 : OwnOff ((lx, instObj 94 ld) :: (ld, dictOf [⟨e3, .str (Str.ofString "_input") t3, .ref x⟩] 1) :: own) [d] := by
    intro p hp b hb
    rw [List.mem_singleton.mp hb]
    rcases List.mem_cons.mp hp with rfl | hp
    · exact hlx
    · rcases List.mem_cons.mp hp with rfl | hp
      · exact hlxd
      · exact hO p hp d (List.mem_singleton.mpr rfl)
  refine wpAny_call ?_
  k_dflt cell_enter
  k_steps
  refine Stop.out ?_
  (rename Fr _ _ _ _ => lF); (rename News _ _ _ _ => lN)
  refine' ksw_while (σ := Bool × Int × Nat) (fun c => ((x, instObj 45 d) :: (d, dictOf [⟨e1, .str (Str.ofString "data") t1, .ref l⟩, ⟨e2, .str (Str.ofString "index") t2, .int c.2.1 c.2.2⟩] 2) :: (l, listOf vs.toArray nn) :: (lx, instObj 94 ld) :: (ld, dictOf [⟨e3, .str (Str.ofString "_input") t3, .ref x⟩] 1) :: own)) (fun c => [(Str.ofString "done", .bool c.1)]) (fun _ => True) ["c"] (fun c => 0 ≤ c.2.1 ∧ c.2.1 ≤ (ns.length : Int) ∧ (c.1 = false → rdV ns sep c.2.1 = rdV ns sep (i + 1)) ∧ (c.1 = true → c.2.1 = rdV ns sep (i + 1))) (fun c => if c.1 then 0 else 1 + (ns.length - c.2.1.toNat)) ⟨false, i + 1, ?tB⟩ lF ?kn trivial ?kk ?kp ?_
  case kn => exact lN
  case kk => kst_all
  case kp => exact ⟨by dsimp only; omega, by dsimp only; omega, fun _ => rfl, fun h => Bool.noConfusion h⟩
  clear lF lN
  rintro ⟨dn, j, tj⟩ u h tk - ⟨h1, h2, h3, h4⟩ kF kN
  dsimp only at h1 h2 h3 h4
  dsimp only [kstB] at kF
  dsimp only at kN
  have hl := @laV_lt ns j
  have hs1 := @skipI_le ns j h1
  have hs2 := @skipI_lt ns j sep hs
  cases dn
  · replace h3 := h3 rfl; clear h4
    rw [rdV_step h1] at h3
    k_steps
    · (rename Fr _ _ _ _ => fE); (rename News _ _ _ _ => nE)
      refine ksw_end ⟨true, j, _⟩ fE nE (fun _ h => h) trivial (by kst_all) (by ksw_same) ⟨by dsimp only; omega, by dsimp only; omega, fun h => Bool.noConfusion h, fun _ => ?_⟩ ?_
      · rw [if_pos (by omega)] at h3; exact h3
      · simp only [if_true, Bool.false_eq_true, if_false]; omega
    · (rename Fr _ _ _ _ => fE); (rename News _ _ _ _ => nE)
      refine ksw_end ⟨true, skipI ns j + 1, _⟩ fE nE (fun _ h => h) trivial (by kst_all) (by ksw_same) ⟨by dsimp only; omega, by dsimp only; omega, fun h => Bool.noConfusion h, fun _ => ?_⟩ ?_
      · rw [if_neg (by omega), if_pos (by omega), if_pos (by omega)] at h3; exact h3
      · simp only [if_true, Bool.false_eq_true, if_false]; omega
    · (rename Fr _ _ _ _ => fE); (rename News _ _ _ _ => nE)
      refine ksw_end ⟨false, skipI ns j, _⟩ fE nE (fun _ h => h) trivial (by kst_all) (by ksw_same) ⟨by dsimp only; omega, by dsimp only; omega, fun _ => ?_, fun h => Bool.noConfusion h⟩ ?_
      · rw [if_neg (by omega), if_pos (by omega), if_neg (by omega)] at h3; exact h3
      · simp only [Bool.false_eq_true, if_false]; omega
    · (rename Fr _ _ _ _ => fE); (rename News _ _ _ _ => nE)
      refine ksw_end ⟨false, j + 1, _⟩ fE nE (fun _ h => h) trivial (by kst_all) (by ksw_same) ⟨by dsimp only; omega, by dsimp only; omega, fun _ => ?_, fun h => Bool.noConfusion h⟩ ?_
      · rw [if_neg (by omega), if_neg (by omega)] at h3; exact h3
      · simp only [Bool.false_eq_true, if_false]; omega
  · replace h4 := h4 rfl; clear h3
    subst h4
    k_steps
    exact ret _ _ _ (by k_asm) (by k_asm)
end Mine
end

-- L5
section
open PySem PySem.W PyProof.Rows
namespace Mine
local macro_rules | `(tactic| walk_at "exec While BoolOp cons nil") => `(tactic| (k_here; refine Stop.mk ?_))
local macro_rules | `(tactic| walk_at "call ref") => `(tactic| (k_here; (with_reducible show wpAny _ _ (PySem.call (Value.ref 35) _) _ _ _); k_dflt (refine' la_call ?k1 ?k2 ?k3 ?k4 ?k5 ?k6 ?k7 ?k8 ?k9 ?k10 ?k11 ?k12 ?_; (case k1 => k_asm); (case k2 => k_asm); (case k3 => k_asm); (case k4 => k_asm); (case k5 => k_asm); (case k6 => first | exact rfl | assumption); (case k7 => assumption); (case k8 => omega); (case k9 => omega); (case k10 => omega); (case k11 => ktr_room); (case k12 => ktr_units); k_whole; intro t9 h9 tk9 F9 N9)))
local macro_rules | `(tactic| walk_at "call ref") => `(tactic| (k_here; (with_reducible show wpAny _ _ (PySem.call (Value.ref 42) _) _ _ _); k_dflt (refine' consume_call ?k1 ?k2 ?k3 ?k4 ?k5 ?k6 ?k7 ?k8 ?k9 ?k10 ?k11 ?k12 ?k13 ?k14 ?k15 ?_; (case k1 => k_asm); (case k2 => k_asm); (case k3 => k_asm); (case k4 => k_asm); (case k5 => k_asm); (case k6 => first | exact rfl | assumption); (case k7 => assumption); (case k8 => omega); (case k9 => omega); (case k10 => omega); (case k11 => ktr_room); (case k12 => ktr_units); (case k13 => assumption); (case k14 => assumption); (case k15 => assumption); k_whole; intro t9 h9 tk9 F9 N9)))
local macro_rules | `(tactic| walk_at "call ref") => `(tactic| (k_here; (with_reducible show wpAny _ _ (PySem.call (Value.ref 84) _) _ _ _); k_dflt (refine' skip_call ?k1 ?k2 ?k3 ?k4 ?k5 ?k6 ?k7 ?k8 ?k9 ?k10 ?k11 ?k12 ?k13 ?k14 ?k15 ?_; (case k1 => k_asm); (case k2 => k_asm); (case k3 => k_asm); (case k4 => k_asm); (case k5 => k_asm); (case k6 => first | exact rfl | assumption); (case k7 => assumption); (case k8 => omega); (case k9 => omega); (case k10 => omega); (case k11 => ktr_room); (case k12 => ktr_units); (case k13 => assumption); (case k14 => assumption); (case k15 => assumption); k_whole; intro t9 ti9 h9 tk9 F9 N9)))

local macro_rules | `(tactic| walk_at "call ref") => `(tactic| (k_here; (with_reducible show wpAny _ _ (PySem.call (Value.ref 77) _) _ _ _); k_dflt (refine' read_call ?k1 ?k2 ?k3 ?k4 ?k5 ?k6 ?k7 ?k8 ?k9 ?k10 ?ks ?k11 ?k12 ?k13 ?k14 ?k15 ?k16 ?k17 ?_; (case k1 => k_asm); (case k2 => k_asm); (case k3 => k_asm); (case k4 => k_asm); (case k5 => k_asm); (case k6 => first | exact rfl | assumption); (case k7 => assumption); (case k8 => omega); (case k9 => omega); (case k10 => omega); (case ks => omega); (case k11 => ktr_room); (case k12 => ktr_units); (case k13 => assumption); (case k14 => assumption); (case k15 => assumption); (case k16 => assumption); (case k17 => assumption); k_whole; intro ti9 h9 tk9 F9 N9)))

set_option maxRecDepth 100000 in
set_option maxHeartbeats 8000000 in
theorem handle_call {w : World} {loose : List Str} {mean : ExcName → Option Value} {mg mb : Str → Option Value}
    {dp un : Nat} {gd : Option (List Code)} {cn : Str} {cs : Scope} {a : Addr} {ccd : Value} {cl : List (Str × Addr)} {outer : List Env} {A₀ : Around} {base h₀ : Heap} {L : Addr} {m : Str → Option Value} {s : Shared} {Q E : Value → Shared → Prop}
    {x d l lx ld : Addr} {vs : List Value} {ns : List Int} {nn : Nat} {e1 e2 e3 : Int} {t1 t2 t3 ti : Tok} {own : List (Addr × Obj)}
    (B : Below A₀ base outer h₀) (F : Fr h₀ L s.heap m) (X : (hd.heap_39 w.params).In h₀)
    (N : News h₀ L s.heap ((x, instObj 45 d) :: (d, dictOf [⟨e1, .str (Str.ofString "data") t1, .ref l⟩, ⟨e2, .str (Str.ofString "index") t2, .int 0 ti⟩] 2) :: (l, listOf vs.toArray nn) :: (lx, instObj 94 ld) :: (ld, dictOf [⟨e3, .str (Str.ofString "_input") t3, .ref x⟩] 1) :: own))
    (T : Top hd.view_39 loose mean mg mb h₀) (hk : cs.kind = .function) (hI : IntsAre vs ns) (hL : ns.length ≤ 1000)
    (hd : dp + 4 < recursionLimit) (hu : un + 32 < cLine) (hxd : @Ne Nat x d) (hld : @Ne Nat l d) (hlx : @Ne Nat lx d) (hlxd : @Ne Nat ld d) (hO : OwnOff own [d])
    (ret : ∀ ti' h' tk', Fr h₀ L h' m → News h₀ L h' ((x, instObj 45 d) :: (d, dictOf [⟨e1, .str (Str.ofString "data") t1, .ref l⟩, ⟨e2, .str (Str.ofString "index") t2, .int (hcV ns) ti'⟩] 2) :: (l, listOf vs.toArray nn) :: (lx, instObj 94 ld) :: (ld, dictOf [⟨e3, .str (Str.ofString "_input") t3, .ref x⟩] 1) :: own) → Q .none { s with heap := h', toks := tk' }) :
    wpAny (model PySem.Challenge.rw_sx0031_01.row.prog w) (ktrTop dp un gd cn cs L a ccd cl outer) (call (.ref 70) [.ref lx]) Q E s := by
  w_top off; revert X; k_fill; intro X
  have hO5 : OwnOff ((lx, instObj 94 ld) :: (ld, dictOf [⟨e3, .str (Str.ofString "_input") t3, .ref x⟩] 1) :: own) [d] := by
    intro p hp b hb
    rw [List.mem_singleton.mp hb]
    rcases List.mem_cons.mp hp with rfl | hp
    · exact hlx
    · rcases List.mem_cons.mp hp with rfl | hp
      · exact hlxd
      · exact hO p hp d (List.mem_singleton.mpr rfl)
  have hl := @laV_lt ns 0
  have hs1 := @skipI_le ns 0 (Int.le_refl 0)
  have hs2 := @skipI_lt2 ns 0
  refine wpAny_call ?_
  k_dflt cell_enter
  k_steps
  · (rename Fr _ _ _ _ => fE); (rename News _ _ _ _ => nE)
    have e : rdV ns (skipV ns 0) (skipI ns 0 + 1) = hcV ns := by unfold hcV; rw [if_pos (by omega), if_pos (by omega)]
    rw [e] at nE
    exact ret _ _ _ fE nE
  · refine Stop.out ?_
    have hJ : nlV ns (skipI ns 0) = hcV ns := by unfold hcV; rw [if_pos (by omega), if_neg (by omega)]
    have hj : 0 ≤ (skipI ns 0) ∧ (skipI ns 0) ≤ (ns.length : Int) := by omega
    have hN := nlV_le hj.1 hj.2
    have hG := @nlV_ge ns (skipI ns 0)
    (rename Fr _ _ _ _ => lF); (rename News _ _ _ _ => lN)
    refine' ksw_while (σ := Int × Nat) (fun c => ((x, instObj 45 d) :: (d, dictOf [⟨e1, .str (Str.ofString "data") t1, .ref l⟩, ⟨e2, .str (Str.ofString "index") t2, .int c.1 c.2⟩] 2) :: (l, listOf vs.toArray nn) :: (lx, instObj 94 ld) :: (ld, dictOf [⟨e3, .str (Str.ofString "_input") t3, .ref x⟩] 1) :: own)) (fun _ => []) (fun _ => True) [] (fun c => (skipI ns 0) ≤ c.1 ∧ c.1 ≤ nlV ns (skipI ns 0)) (fun c => ns.length - c.1.toNat) ⟨(skipI ns 0), ?tB⟩ lF ?kn trivial ?kk ?kp ?_
    case kn => exact lN
    case kk => kst_all
    case kp => exact ⟨Int.le_refl _, hG⟩
    clear lF lN
    rintro ⟨j, tj⟩ u h tk - ⟨h1, h2⟩ kF kN
    dsimp only at h1 h2
    dsimp only [kstB] at kF
    dsimp only at kN
    have hi := nlV_iff hj.1 h1 h2
    have hl3 := @laV_lt ns j
    k_steps
    all_goals ((rename Fr _ _ _ _ => fE); (rename News _ _ _ _ => nE))
    all_goals (have e : j = hcV ns := by omega)
    all_goals rw [e] at nE
    all_goals exact ret _ _ _ fE nE
  · refine Stop.out ?_
    have hJ : nlV ns (0 : Int) = hcV ns := by unfold hcV; rw [if_neg (by omega)]
    have hj : 0 ≤ (0 : Int) ∧ (0 : Int) ≤ (ns.length : Int) := by omega
    have hN := nlV_le hj.1 hj.2
    have hG := @nlV_ge ns (0 : Int)
    (rename Fr _ _ _ _ => lF); (rename News _ _ _ _ => lN)
    refine' ksw_while (σ := Int × Nat) (fun c => ((x, instObj 45 d) :: (d, dictOf [⟨e1, .str (Str.ofString "data") t1, .ref l⟩, ⟨e2, .str (Str.ofString "index") t2, .int c.1 c.2⟩] 2) :: (l, listOf vs.toArray nn) :: (lx, instObj 94 ld) :: (ld, dictOf [⟨e3, .str (Str.ofString "_input") t3, .ref x⟩] 1) :: own)) (fun _ => []) (fun _ => True) [] (fun c => (0 : Int) ≤ c.1 ∧ c.1 ≤ nlV ns (0 : Int)) (fun c => ns.length - c.1.toNat) ⟨(0 : Int), ?tC⟩ lF ?kn trivial ?kk ?kp ?_
    case kn => exact lN
    case kk => kst_all
    case kp => exact ⟨Int.le_refl _, hG⟩
    clear lF lN
    rintro ⟨j, tj⟩ u h tk - ⟨h1, h2⟩ kF kN
    dsimp only at h1 h2
    dsimp only [kstB] at kF
    dsimp only at kN
    have hi := nlV_iff hj.1 h1 h2
    have hl3 := @laV_lt ns j
    k_steps
    all_goals ((rename Fr _ _ _ _ => fE); (rename News _ _ _ _ => nE))
    all_goals (have e : j = hcV ns := by omega)
    all_goals rw [e] at nE
    all_goals exact ret _ _ _ fE nE
end Mine
end

-- M1
section
open PySem PySem.W PyProof.Rows
namespace Mine
def mkV (T : Str) (p : Int) : Int := ((Txt.slice T (some (p + 1)) none).length : Int) - ((Txt.lstripChars (Txt.slice T (some (p + 1)) none) (Str.ofString "=")).length : Int)
set_option maxRecDepth 100000 in
set_option maxHeartbeats 8000000 in
theorem marks_call {w : World} {loose : List Str} {mean : ExcName → Option Value} {mg mb : Str → Option Value}
    {dp un : Nat} {gd : Option (List Code)} {cn : Str} {cs : Scope} {a : Addr} {ccd : Value} {cl : List (Str × Addr)} {outer : List Env} {A₀ : Around} {base h₀ : Heap} {L : Addr} {m : Str → Option Value} {s : Shared} {Q E : Value → Shared → Prop}
    {T : Str} {p : Int} {tt tp : Tok} {own : List (Addr × Obj)}
    (B : Below A₀ base outer h₀) (F : Fr h₀ L s.heap m) (X : (hd.heap_39 w.params).In h₀)
    (N : News h₀ L s.heap own)
    (TT : Top hd.view_39 loose mean mg mb h₀) (hk : cs.kind = .function) (hT : T.length ≤ 100)
    (hd : dp + 1 < recursionLimit) (hu : un + 8 < cLine)
    (ret : ∀ t h' tk', Fr h₀ L h' m → News h₀ L h' own → Q (.int (mkV T p) t) { s with heap := h', toks := tk' }) :
    wpAny (model PySem.Challenge.rw_sx0031_01.row.prog w) (ktrTop dp un gd cn cs L a ccd cl outer) (call (.ref 113) [.str T tt, .int p tp]) Q E s := by
  w_top off; revert X; k_fill; intro X
  refine wpAny_call ?_
  k_dflt cell_enter
  k_steps
  exact ret _ _ _ (by k_asm) (by k_asm)

theorem mk_bound {T : Str} {p : Int} : 0 ≤ mkV T p ∧ mkV T p ≤ (T.length : Int) := by
  have h1 := Txt.slice_le T (some (p + 1)) none
  have h2 : (Txt.lstripChars (Txt.slice T (some (p + 1)) none) (Str.ofString "=")).length ≤ (Txt.slice T (some (p + 1)) none).length := by
    unfold Txt.lstripChars Txt.stripBy
    split
    · exact Nat.le_refl _
    · unfold PySem.stripped Builtin.Str.strSub
      simp only [Str.length, Array.size_extract]
      omega
  unfold mkV
  omega
end Mine
end

-- M2
section
open PySem PySem.W PyProof.Rows
namespace Mine
def endV (T : Str) (p : Int) : Int :=
  if (Txt.slice T (some p) (some (p + mkV T p + 2)) != Str.ofString "[" ++ Txt.mul (Str.ofString "=") (mkV T p) ++ Str.ofString "[") = true then Txt.find3 (T ++ Str.ofString "\n") (Str.ofString "\n") p
  else (if Txt.find3 T (Str.ofString "]" ++ Txt.mul (Str.ofString "=") (mkV T p) ++ Str.ofString "]") (p + mkV T p + 2) < 0 then (T.length : Int)
     else Txt.find3 T (Str.ofString "]" ++ Txt.mul (Str.ofString "=") (mkV T p) ++ Str.ofString "]") (p + mkV T p + 2) + mkV T p + 2)
local macro_rules | `(tactic| walk_at "binaryOp Add str str") => `(tactic| ((refine SBL.add (hsz := ?hsz) ?_); (case hsz => size_fits); intro _ _ _))
local macro_rules | `(tactic| walk_at "call ref") => `(tactic| (k_here; (with_reducible show wpAny _ _ (PySem.call (Value.ref 113) _) _ _ _); k_dflt (refine' marks_call ?k1 ?k2 ?k3 ?k4 ?k5 ?k6 ?k7 ?k8 ?k9 ?_; (case k1 => k_asm); (case k2 => k_asm); (case k3 => k_asm); (case k4 => k_asm); (case k5 => k_asm); (case k6 => first | exact rfl | assumption); (case k7 => assumption); (case k8 => ktr_room); (case k9 => ktr_units); k_whole; intro t9 h9 tk9 F9 N9)))
set_option maxRecDepth 100000 in
set_option maxHeartbeats 8000000 in
theorem end_call {w : World} {loose : List Str} {mean : ExcName → Option Value} {mg mb : Str → Option Value}
    {dp un : Nat} {gd : Option (List Code)} {cn : Str} {cs : Scope} {a : Addr} {ccd : Value} {cl : List (Str × Addr)} {outer : List Env} {A₀ : Around} {base h₀ : Heap} {L : Addr} {m : Str → Option Value} {s : Shared} {Q E : Value → Shared → Prop}
    {T : Str} {p : Int} {tt tp : Tok} {own : List (Addr × Obj)}
    (B : Below A₀ base outer h₀) (F : Fr h₀ L s.heap m) (X : (hd.heap_39 w.params).In h₀)
    (N : News h₀ L s.heap own)
    (TT : Top hd.view_39 loose mean mg mb h₀) (hk : cs.kind = .function) (hT : T.length ≤ 100)
 (h0 : 0 ≤ p) (hp : p ≤ (T.length : Int))
    (hd : dp + 2 < recursionLimit) (hu : un + 16 < cLine)
    (ret : ∀ t h' tk', Fr h₀ L h' m → News h₀ L h' own → Q (.int (endV T p) t) { s with heap := h', toks := tk' }) :
    wpAny (model PySem.Challenge.rw_sx0031_01.row.prog w) (ktrTop dp un gd cn cs L a ccd cl outer) (call (.ref 120) [.str T tt, .int p tp]) Q E s := by
  w_top off; revert X; k_fill; intro X
  have hb := @mk_bound T p
  refine wpAny_call ?_
  k_dflt cell_enter
  k_steps
  · (rename (bne _ _ = _) => hc)
    refine cb_retI ret ?_ (by k_asm) (by k_asm)
    unfold endV
    rw [if_pos hc]
  · (rename (bne _ _ = _) => hc)
    refine cb_retI ret ?_ (by k_asm) (by k_asm)
    unfold endV
    rw [if_neg (by rw [hc]; exact Bool.false_ne_true), if_pos (by assumption)]
  · (rename (bne _ _ = _) => hc)
    refine cb_retI ret ?_ (by k_asm) (by k_asm)
    unfold endV
    rw [if_neg (by rw [hc]; exact Bool.false_ne_true), if_neg (by assumption)]
end Mine
end

-- C1
section
open PySem PySem.W PyProof.Rows PyProof.Rows.LCg
namespace Mine
/-- the ints of a text's signs -/
def codes (T : Str) : List Int := T.cps.toList.map fun c : Nat => (c : Int)
theorem iter_walks {prog : Program} {w : World} {A : Around} (hh : A.handled = none) (I : Addr) (T : Str) (t : Tok) :
    Walks prog w A I [I] [I] T.cps.size (SignAt T) (fun i h => h.IsStrIter I (strIterType T) T t i) := by
  unfold strIterType
  split
  · exact Walks.strAscii hh I T t
  · exact Walks.strWide hh I T t
theorem snoc_int {y : Int} {t : Tok} : ∀ {vs : List Value} {ys : List Int}, IntsAre vs ys → IntsAre (vs ++ [.int y t]) (ys ++ [y])
  | _, _, .nil => .cons y t .nil
  | _, _, .cons z u r => .cons z u (snoc_int r)
theorem assign_text_comp {prog : Program} {w : World} {A : Around} {E : Value → Shared → Prop} {s : Shared} {h₀ : Heap} {m : Str → Option Value} {env : Env}
    {elt iter : PySem.Expr} {x y : Str} {px py : Pos} {scope : Scope} {cl : List (Str × Addr)} {pos spos : Pos} {Q : Flow → Shared → Prop} {T : Str} {t : Tok} {news : List (Addr × Obj)}
    (hsw : swapsWith (.ListComp elt [⟨.Name x px, iter, [], 0⟩] scope pos) (some (.Name y py)) spos.line env = pure true)
    (hclos : closureFor scope env = pure cl) (hcell : ∀ z ∈ scope.names, z.2 ≠ .cell) (hkind : scope.kind = .function)
    (hnames : ∀ z ∈ scope.names, z.2 = .local → scope.names.lookup z.1 = some .local) (hx : scope.names.lookup x = some .local)
    (hy : env.kindOf y = some .local) (hp : (env.scope.kind == .class || (env.scope.kind == .module && env.locals != env.globals)) = false)
    (hh : A.handled = none) (F : Fr h₀ env.locals s.heap m) (N : News h₀ env.locals s.heap news) (hT : T.length ≤ sizeLine)
    (hi : wpAny (model prog w) A (eval iter env) (fun v s' => v = .str T t ∧ s' = s) E s)
    (turn : ∀ c u I oI C oC D m₂ ys h tk (E' : Value → Shared → Prop), NsObj oC m₂ → m₂ x = some (.str ⟨#[c]⟩ u) → Fr h₀ env.locals h m → News h₀ env.locals h ((I, oI) :: (C, oC) :: (D, lst ys) :: news) → Off3 I C D news → ((@Ne Nat I C) ∧ (@Ne Nat I D) ∧ (@Ne Nat C D)) →
      wpAny (model prog w) A (eval elt (compEnvC scope cl C env)) (CompEnd h₀ env.locals m { s with heap := h, toks := tk } I oI C oC D (lst ys) (fun _ => True) (fun r news' => KCfEl news (c : Int) r news')) E' { s with heap := h, toks := tk })
    (fin : ∀ ys D h tk, IntsAre ys (codes T) → Fr h₀ env.locals h (fun z => if z = y then some (.ref D) else m z) → News h₀ env.locals h ((D, lst ys) :: news) → Off1 D news → Q .next { s with heap := h, toks := tk })
    (hs : ∀ x, foldedSetIterable iter env x = pure x := by intro _; rfl) :
    wpAny (model prog w) A (exec (.Assign [.Name y py] (.ListComp elt [⟨.Name x px, iter, [], 0⟩] scope pos) spos) env) Q E s := by
  rw [exec_Assign_Name_used _ _ _ _ hsw]
  refine wpAny_bind (wpAny_standAt (wpAny_bind ?_))
  show wpAny _ A (do let _ ← comprehension (.ListComp elt [⟨.Name x px, iter, [], 0⟩] scope pos) scope env _ (newList []) false (eval iter env) (some (assign (.Name y py) env))) _ _ s
  refine wpAny_bind (wpAny_mono (wpAny_comprehension_free (use := some (assign (.Name y py) env)) (Q := fun _ s' => Q .next s') rfl hs hclos hkind hnames
    (wpAny_mono hi (fun xv s₁ h₁ => ?_) fun _ _ e => e)) (fun _ s' hq => wpAny_pure (wpAny_pure hq)) fun _ _ e => e)
  obtain ⟨rfl, rfl⟩ := h₁
  refine wpAny_pyIter_strU ?_
  have up : ∀ o : Obj, ∀ b ob, s₁.heap.get? b = some ob → (s₁.heap.push o).get? b = some ob := fun _ b o e => Heap.get?_push_of_some _ e
  have rest : ∀ g : Heap, CompRest prog w A h₀ env.locals m env elt x scope cl { s₁ with heap := g } (fun _ => True) (SignAt T) (FinA h₀ env.locals m { s₁ with heap := g } y Q) T.cps.size 0 [] news := by
    intro g
    have key : ∀ (j i : Nat) (ys : List Value), i + j = T.cps.size → IntsAre ys ((codes T).take i) →
        CompRest prog w A h₀ env.locals m env elt x scope cl { s₁ with heap := g } (fun _ => True) (SignAt T) (FinA h₀ env.locals m { s₁ with heap := g } y Q) j i ys news := by
      intro j
      induction j with
      | zero =>
        intro i ys hij hy'
        have e : (codes T).take i = codes T := List.take_of_length_le (by unfold codes; rw [List.length_map, Array.length_toList]; omega)
        rw [e] at hy'
        exact CompRest.zero fun D h tk F' N' o => fin ys D h tk hy' F' N' o
      | succ j ih =>
        intro i ys hij hy'
        refine CompRest.succ ?_
        intro v I oI C oC D m₂ h tk E' hv hC hx' F' N' off ne
        obtain ⟨c, u, hc, rfl⟩ := hv
        refine wpAny_mono (turn c u I oI C oC D m₂ ys h tk E' hC hx' F' N' off ne) (fun r s₂ hq => ?_) fun _ _ e => e
        obtain ⟨h', tk', nw, e, F₂, N₂, off₂, -, hn, t', hr⟩ := hq
        rw [hn] at N₂ off₂
        refine ⟨h', tk', news, e, F₂, N₂, off₂, trivial, ?_⟩
        rw [hr]
        refine ih (i + 1) _ (by omega) ?_
        have hk : (codes T)[i]? = some (c : Int) := by unfold codes; rw [List.getElem?_map, Array.getElem?_toList, hc]; rfl
        rw [List.take_add_one, hk]
        exact snoc_int hy'
    exact key T.cps.size 0 [] (by omega) (by simpa using IntsAre.nil)
  refine block_U (iter_walks hh s₁.heap.objs.size T t) hT (fun i h st => by obtain ⟨o, e, _⟩ := st; exact ⟨o, e⟩) (fun i h h' o nw st e e' _ _ _ => ?_) hcell hkind hx ⟨_, Heap.get?_push_size _ rfl, rfl, rfl⟩ (fun b hb => ?_)
    (F.keeps (up _)) (N.grown (up _)) (Nat.ne_of_lt F.ns.lt) (next_is_new F) (fun p hp => Nat.ne_of_lt (Heap.lt_size (N p hp).1)) trivial (rest _) ?_
  · obtain ⟨ob, q, r⟩ := st
    rw [e] at q
    cases q
    exact ⟨o, e', r⟩
  · rw [List.mem_singleton.mp hb]
    show s₁.heap.objs.size < (s₁.heap.push _).objs.size
    rw [Heap.size_push]; exact Nat.lt_succ_self _
  · intro D C h' tk m' ys news' F' N' o1 hn hC₀ hD₀ hCL hDL hCD offC hfin
    show wpAny _ A (assign (.Name y py) env (.ref D)) _ _ _
    refine wpAny_assign_Name (wpAny_storeName_local hy F'.ns (fun h₂ hn₂ hs₂ => ?_) hp)
    have hL₀ : h₀.get? env.locals = none := Heap.get?_none_of_le F'.above
    have F₂ : Fr h₀ env.locals h₂ (fun z => if z = y then some (.ref D) else m z) := ⟨hn₂, fun b o e => hs₂.extBut b o (fun q => by rw [q, hL₀] at e; cases e) (F'.keep b o e), F'.above⟩
    refine ⟨m', hn.sameBut hs₂ hCL, fun h'' hs'' => hfin D h'' _ (F₂.change hs'' hCL hC₀) (fun p hp => ?_) o1⟩
    have z : h₂.get? p.1 = some p.2 := hs₂.extBut _ _ (N' p hp).2.1 (N' p hp).1
    refine ⟨hs''.extBut _ _ ?_ z, (N' p hp).2⟩
    rcases List.mem_cons.mp hp with rfl | hp
    · exact Ne.symm hCD
    · exact offC p hp
end Mine
end

-- C2
section
open PySem PySem.W PySem.Spec PyProof.Rows
namespace Mine
/-- a row of the law's lists: a tuple of an int and a bool, or of two ints -/
inductive RowIn (news : List (Addr × Obj)) : Value → PyData → Prop
  | ib {a : Addr} {x : Int} {t : Tok} {b : Bool} {n : Nat} : (a, ({ cls := .type "tuple", data := .seq #[.int x t, .bool b] n } : Obj)) ∈ news → RowIn news (.ref a) (.tuple [.int x, .bool b])
  | ii {a : Addr} {x y : Int} {t u : Tok} {n : Nat} : (a, ({ cls := .type "tuple", data := .seq #[.int x t, .int y u] n } : Obj)) ∈ news → RowIn news (.ref a) (.tuple [.int x, .int y])
inductive RowsIn (news : List (Addr × Obj)) : List Value → List PyData → Prop
  | nil : RowsIn news [] []
  | cons {v : Value} {vs : List Value} {d : PyData} {ds : List PyData} : RowIn news v d → RowsIn news vs ds → RowsIn news (v :: vs) (d :: ds)
section
variable {news news' : List (Addr × Obj)} {vs ws : List Value} {ds es : List PyData} {v : Value} {d : PyData} {h₀ h : Heap} {L : Addr}
theorem RowIn.mono (r : RowIn news v d) (hs : ∀ p ∈ news, p ∈ news') : RowIn news' v d := by
  cases r with
  | ib m => exact .ib (hs _ m)
  | ii m => exact .ii (hs _ m)
theorem RowsIn.mono (r : RowsIn news vs ds) (hs : ∀ p ∈ news, p ∈ news') : RowsIn news' vs ds := by
  induction r with
  | nil => exact .nil
  | cons r _ ih => exact .cons (r.mono hs) ih
theorem RowsIn.length (r : RowsIn news vs ds) : vs.length = ds.length := by
  induction r with
  | nil => rfl
  | cons _ _ ih => simp [ih]
theorem RowsIn.append (r : RowsIn news vs ds) (q : RowsIn news ws es) : RowsIn news (vs ++ ws) (ds ++ es) := by
  induction r with
  | nil => exact q
  | cons r _ ih => exact .cons r ih
theorem RowIn.reads (N : News h₀ L h news) (r : RowIn news v d) : ∃ as, Reads h v d as := by
  cases r with
  | ib m => exact ⟨_, reads_tuple_at (N.get m) rfl rfl (.cons (.int _ _) (.cons (.bool _) .nil))⟩
  | ii m => exact ⟨_, reads_tuple_at (N.get m) rfl rfl (.cons (.int _ _) (.cons (.int _ _) .nil))⟩
theorem RowsIn.reads (N : News h₀ L h news) (r : RowsIn news vs ds) : ∃ as, ReadsAll h vs ds as := by
  induction r with
  | nil => exact ⟨_, .nil⟩
  | cons r _ ih =>
    obtain ⟨as, q⟩ := r.reads N
    obtain ⟨bs, p⟩ := ih
    exact ⟨_, .cons q p⟩
theorem RowsIn.lay (r : RowsIn news vs ds) : PyData.canLayAll0 ds = true ∧ PyData.depthAll ds ≤ 1 ∧ PyData.eqvAll ds ds = true := by
  induction r with
  | nil => simp [PyData.canLayAll0, PyData.depthAll, PyData.eqvAll]
  | cons r _ ih =>
    obtain ⟨h1, h2, h3⟩ := ih
    cases r <;> (simp only [PyData.canLayAll0, PyData.canLay0, PyData.depthAll, PyData.depth, PyData.eqvAll, PyData.eqv, h1, h3, beq_self_eq_true, Bool.and_self, true_and, and_true]; omega)
theorem rows_eq {prog : Program} {w : World} {A : Around} {E : Value → Shared → Prop} {s : Shared} {a b : Addr} {k j : Nat} {Q : Value → Shared → Prop} (N : News h₀ L s.heap news) (ma : (a, listOf vs.toArray k) ∈ news) (mb : (b, listOf ws.toArray j) ∈ news)
    (ra : RowsIn news vs ds) (rb : RowsIn news ws ds) (hu : A.units + 64 < cLine) (h : Q (.bool true) s) : wpAny (model prog w) A (compareOp .Eq (.ref a) (.ref b)) Q E s := by
  obtain ⟨as, qa⟩ := ra.reads N
  obtain ⟨bs, qb⟩ := rb.reads N
  obtain ⟨l1, l2, l3⟩ := ra.lay
  have sh : SeqAt.shaped (.list ds) = true := by
    unfold SeqAt.shaped
    simp only [PyData.canLay0, PyData.depth, l1, Bool.true_and]
    exact decide_eq_true (by omega)
  refine eq_dataH (reads_list_at (N.get ma) rfl rfl (by simpa using qa)) (reads_list_at (N.get mb) rfl rfl (by simpa using qb)) sh sh hu ?_
  have e : PyData.eqv (.list ds) (.list ds) = true := by simp only [PyData.eqv]; exact l3
  rw [e]
  exact h
end
end Mine
end

-- H1
section
open PySem PySem.W PyProof.Rows
namespace Mine
theorem news_ne {h₀ h : Heap} {L a b : Addr} {o o' : Obj} {news : List (Addr × Obj)} (N : News h₀ L h news) (ha : (a, o) ∈ news) (hb : (b, o') ∈ news) (hc : o.cls ≠ o'.cls) : @Ne Nat a b := by
  intro e
  have h1 := (N _ ha).1
  have h2 := (N _ hb).1
  dsimp only at h1 h2
  rw [e, h2] at h1
  exact hc (by rw [Option.some.inj h1])
theorem off_rest {d : Addr} {pre post : List (Addr × Obj)} (ha : ∀ p ∈ pre, p.1 ≠ d) (hb : ∀ p ∈ post, p.1 ≠ d) : OwnOff (pre ++ post) [d] := by
  intro p hp b hb'
  rw [List.mem_singleton.mp hb']
  rcases List.mem_append.mp hp with hp | hp
  · exact ha p hp
  · exact hb p hp
theorem mem_rest {q : Addr × Obj} {pre post : List (Addr × Obj)} {p : Addr × Obj} (h : p ∈ pre ++ post) : p ∈ pre ++ q :: post := by
  rcases List.mem_append.mp h with h | h
  · exact List.mem_append.mpr (.inl h)
  · exact List.mem_append.mpr (.inr (.tail _ h))
theorem rest_mem {q : Addr × Obj} {pre post : List (Addr × Obj)} {p : Addr × Obj} (h : p ∈ pre ++ q :: post) : p = q ∨ p ∈ pre ++ post := by
  rcases List.mem_append.mp h with h | h
  · exact .inr (List.mem_append.mpr (.inl h))
  · rcases List.mem_cons.mp h with h | h
    · exact .inl h
    · exact .inr (List.mem_append.mpr (.inr h))

theorem handle_at {w : World} {loose : List Str} {mean : ExcName → Option Value} {mg mb : Str → Option Value}
    {dp un : Nat} {gd : Option (List Code)} {cn : Str} {cs : Scope} {a : Addr} {ccd : Value} {cl : List (Str × Addr)} {outer : List Env} {A₀ : Around} {base h₀ : Heap} {L : Addr} {m : Str → Option Value} {s : Shared} {Q E : Value → Shared → Prop}
    {x d l lx ld : Addr} {vs : List Value} {ns : List Int} {nn : Nat} {e1 e2 e3 : Int} {t1 t2 t3 ti : Tok} {news : List (Addr × Obj)} {g : Obj → List (Addr × Obj)}
    (B : Below A₀ base outer h₀) (F : Fr h₀ L s.heap m) (X : (hd.heap_39 w.params).In h₀) (N : News h₀ L s.heap news) (T : Top hd.view_39 loose mean mg mb h₀) (hk : cs.kind = .function)
    (m3 : (lx, instObj 94 ld) ∈ news) (m4 : (ld, dictOf [⟨e3, .str (Str.ofString "_input") t3, .ref x⟩] 1) ∈ news) (m1 : (x, instObj 45 d) ∈ news)
    (U : UpdF d (dictOf [⟨e1, .str (Str.ofString "data") t1, .ref l⟩, ⟨e2, .str (Str.ofString "index") t2, .int 0 ti⟩] 2) news g) (m2 : (l, listOf vs.toArray nn) ∈ news) (hI : IntsAre vs ns) (hL : ns.length ≤ 1000)
    (hd : dp + 4 < recursionLimit) (hu : un + 32 < cLine)
    (ret : ∀ ti' h' tk', Fr h₀ L h' m → News h₀ L h' (g (dictOf [⟨e1, .str (Str.ofString "data") t1, .ref l⟩, ⟨e2, .str (Str.ofString "index") t2, .int (hcV ns) ti'⟩] 2)) → Q .none { s with heap := h', toks := tk' }) :
    wpAny (model PySem.Challenge.rw_sx0031_01.row.prog w) (ktrTop dp un gd cn cs L a ccd cl outer) (call (.ref 70) [.ref lx]) Q E s := by
  obtain ⟨pre, post, rfl, hg, ha, hb⟩ := U.split
  have md : (d, (dictOf [⟨e1, .str (Str.ofString "data") t1, .ref l⟩, ⟨e2, .str (Str.ofString "index") t2, .int 0 ti⟩] 2)) ∈ pre ++ (d, (dictOf [⟨e1, .str (Str.ofString "data") t1, .ref l⟩, ⟨e2, .str (Str.ofString "index") t2, .int 0 ti⟩] 2)) :: post := List.mem_append.mpr (.inr (.head _))
  refine handle_call (x := x) (d := d) (l := l) (lx := lx) (ld := ld) (vs := vs) (nn := nn) (e1 := e1) (e2 := e2) (e3 := e3) (t1 := t1) (t2 := t2) (t3 := t3) (ti := ti) (own := pre ++ post) B F X (fun p hp => N p ?_) T hk hI hL hd hu
    (news_ne N m1 md (fun h => Value.noConfusion (h : Value.ref 45 = Value.type "dict"))) (news_ne N m2 md (fun h => absurd (Value.type.inj (h : Value.type "list" = Value.type "dict")) (by decide))) (news_ne N m3 md (fun h => Value.noConfusion (h : Value.ref 94 = Value.type "dict"))) ?_ (off_rest ha hb) (fun ti' h' tk' F' N' => ret ti' h' tk' F' ?_)
  · rcases List.mem_cons.mp hp with rfl | hp
    · exact m1
    · rcases List.mem_cons.mp hp with rfl | hp
      · exact md
      · rcases List.mem_cons.mp hp with rfl | hp
        · exact m2
        · rcases List.mem_cons.mp hp with rfl | hp
          · exact m3
          · rcases List.mem_cons.mp hp with rfl | hp
            · exact m4
            · exact mem_rest hp
  · intro e
    have h1 := (N _ m4).1
    have h2 := (N _ md).1
    dsimp only at h1 h2
    rw [e, h2] at h1
    have h3 := congrArg (fun o : Obj => match o.data with | .dict es _ => es.size | _ => 0) (Option.some.inj h1)
    exact absurd (show (2 : Nat) = 1 from h3) (by decide : ¬ (2 : Nat) = 1)
  · rw [hg]
    intro p hp
    refine N' p ?_
    rcases rest_mem hp with rfl | hp
    · exact .tail _ (.head _)
    · exact .tail _ (.tail _ (.tail _ (.tail _ (.tail _ hp))))

theorem skip_at {w : World} {loose : List Str} {mean : ExcName → Option Value} {mg mb : Str → Option Value}
    {dp un : Nat} {gd : Option (List Code)} {cn : Str} {cs : Scope} {a : Addr} {ccd : Value} {cl : List (Str × Addr)} {outer : List Env} {A₀ : Around} {base h₀ : Heap} {L : Addr} {m : Str → Option Value} {s : Shared} {Q E : Value → Shared → Prop}
    {x d l : Addr} {vs : List Value} {ns : List Int} {nn : Nat} {e1 e2 : Int} {t1 t2 ti : Tok} {news : List (Addr × Obj)} {g : Obj → List (Addr × Obj)} {v0 : Value}
    (B : Below A₀ base outer h₀) (F : Fr h₀ L s.heap m) (X : (hd.heap_39 w.params).In h₀) (N : News h₀ L s.heap news) (T : Top hd.view_39 loose mean mg mb h₀) (hk : cs.kind = .function)
    (m1 : (x, instObj 45 d) ∈ news)
    (U : UpdF d (dictOf [⟨e1, .str (Str.ofString "data") t1, .ref l⟩, ⟨e2, .str (Str.ofString "index") t2, .int 0 ti⟩] 2) news g) (m2 : (l, listOf vs.toArray nn) ∈ news) (hI : IntsAre vs ns) (hL : ns.length ≤ 1000) (h1 : 0 < ns.length)
    (hd : dp + 2 < recursionLimit) (hu : un + 16 < cLine)
    (ret : ∀ t ti' h' tk', Fr h₀ L h' m → News h₀ L h' (g (dictOf [⟨e1, .str (Str.ofString "data") t1, .ref l⟩, ⟨e2, .str (Str.ofString "index") t2, .int (skipI ns 0) ti'⟩] 2)) → Q (.int (skipV ns 0) t) { s with heap := h', toks := tk' }) :
    wpAny (model PySem.Challenge.rw_sx0031_01.row.prog w) (ktrTop dp un gd cn cs L a ccd cl outer) (call (.ref 84) [v0, .ref x]) Q E s := by
  obtain ⟨pre, post, rfl, hg, ha, hb⟩ := U.split
  have md : (d, (dictOf [⟨e1, .str (Str.ofString "data") t1, .ref l⟩, ⟨e2, .str (Str.ofString "index") t2, .int 0 ti⟩] 2)) ∈ pre ++ (d, (dictOf [⟨e1, .str (Str.ofString "data") t1, .ref l⟩, ⟨e2, .str (Str.ofString "index") t2, .int 0 ti⟩] 2)) :: post := List.mem_append.mpr (.inr (.head _))
  refine skip_call (x := x) (d := d) (l := l) (vs := vs) (nn := nn) (e1 := e1) (e2 := e2) (t1 := t1) (t2 := t2) (i := 0) (ti := ti) (own := pre ++ post) B F X (fun p hp => N p ?_) T hk hI hL (Int.le_refl 0) (by omega) hd hu
    (news_ne N m1 md (fun h => Value.noConfusion (h : Value.ref 45 = Value.type "dict"))) (news_ne N m2 md (fun h => absurd (Value.type.inj (h : Value.type "list" = Value.type "dict")) (by decide))) (off_rest ha hb) (fun t ti' h' tk' F' N' => ret t ti' h' tk' F' ?_)
  · rcases List.mem_cons.mp hp with rfl | hp
    · exact m1
    · rcases List.mem_cons.mp hp with rfl | hp
      · exact md
      · rcases List.mem_cons.mp hp with rfl | hp
        · exact m2
        · exact mem_rest hp
  · rw [hg]
    intro p hp
    refine N' p ?_
    rcases rest_mem hp with rfl | hp
    · exact .tail _ (.head _)
    · exact .tail _ (.tail _ (.tail _ hp))
end Mine
end

-- C3
section
open PySem PySem.W PySem.Spec PyProof.Rows
namespace Mine
abbrev lawSto : List Str := [Str.ofString "stream", Str.ofString "lexer", Str.ofString "far", Str.ofString "many", Str.ofString "paired"]
section
variable {h₀ h' : Heap} {L dt dw D a1 a2 a3 a4 : Addr} {ys us ws : List Value} {ds : List PyData} {n1 n2 n3 n4 k1 k2 : Nat} {tl ow news' : List (Addr × Obj)} {pre : List Int} {k : Int} {m₀ m' : Str → Option Value} {s₁ : Shared} {tk : Nat}
  {x1 x2 y2 : Int} {b1 : Bool} {t1 t2 t3 t4 u2 u4 : Tok}
theorem turn_end (add : List (Addr × Obj)) {us1 ws1 : List Value} {es : List PyData} (h0 : KdSep ow tl [dt, dw, D]) (F : Fr h₀ L h' m') (N : News h₀ L h' news')
    (mt : (dt, listOf (us ++ us1).toArray k1) ∈ news') (mw : (dw, listOf (ws ++ ws1).toArray k2) ∈ news') (mD : (D, LCg.lst ys) ∈ news') (ma : ∀ p ∈ add, p ∈ news') (mo : ∀ p ∈ tl ++ ow, p ∈ news')
    (hb : ∀ q ∈ add, ∀ b ∈ [dt, dw, D], b ≠ q.1) (hw : ∀ q ∈ add, ∀ p ∈ ow, p.1 ≠ q.1)
    (hr : ∀ z, z ≠ Str.ofString "place" → lawSto.contains z = false → m' z = m₀ z)
    (r1 : RowsIn ([(D, LCg.lst ys)] ++ tl) us ds) (r2 : RowsIn ([(D, LCg.lst ys)] ++ tl) ws ds) (q1 : RowsIn add us1 es) (q2 : RowsIn add ws1 es) (hp : ds.length ≤ 2 * pre.length) (he : es.length ≤ 2) :
    InvEndG h₀ L (KdS (fun c : List Value × List Value × List PyData × Nat × Nat => [(dt, listOf c.1.toArray c.2.2.2.1), (dw, listOf c.2.1.toArray c.2.2.2.2)]) [(D, LCg.lst ys)] (fun _ => [])
      (fun nx c => RowsIn nx c.1 c.2.2.1 ∧ RowsIn nx c.2.1 c.2.2.1) (Str.ofString "place") lawSto m₀ (fun (pre : List Int) c => c.2.2.1.length ≤ 2 * pre.length) [dt, dw, D] (pre ++ [k])) ow s₁ { s₁ with heap := h', toks := tk } := by
  have sub1 : ∀ p ∈ [(D, LCg.lst ys)] ++ tl, p ∈ [(D, LCg.lst ys)] ++ (add ++ tl) := kd_sub
  have sub2 : ∀ p ∈ add, p ∈ [(D, LCg.lst ys)] ++ (add ++ tl) := fun p hp => kd_new hp
  refine kd_end (us ++ us1, ws ++ ws1, ds ++ es, k1, k2) add h0 F N ?_ (fun p hp => mo p (List.mem_append.mpr (.inr hp))) rfl hb hw (List.forall_mem_nil _) (fun z h1 _ h3 => hr z h1 h3)
    ⟨(r1.mono sub1).append (q1.mono sub2), (r2.mono sub1).append (q2.mono sub2)⟩ ?_
  · intro p hp
    simp only [List.cons_append, List.nil_append, List.mem_cons, List.mem_append] at hp
    rcases hp with rfl | rfl | rfl | hp | hp
    · exact mt
    · exact mw
    · exact mD
    · exact ma p hp
    · exact mo p (List.mem_append.mpr (.inl hp))
  · show (ds ++ es).length ≤ 2 * (pre ++ [k]).length
    simp only [List.length_append, List.length_singleton]
    omega
theorem turn_end1 (h0 : KdSep ow tl [dt, dw, D]) (F : Fr h₀ L h' m') (N : News h₀ L h' news')
    (mt : (dt, listOf (us ++ [Value.ref a1]).toArray k1) ∈ news') (mw : (dw, listOf (ws ++ [Value.ref a3]).toArray k2) ∈ news') (mD : (D, LCg.lst ys) ∈ news') (mo : ∀ p ∈ tl ++ ow, p ∈ news')
    (m1 : (a1, ({ cls := .type "tuple", data := .seq #[.int x1 t1, .bool b1] n1 } : Obj)) ∈ news') (m3 : (a3, ({ cls := .type "tuple", data := .seq #[.int x1 t3, .bool b1] n3 } : Obj)) ∈ news')
    (l1 : ∀ p ∈ ow, p.1 ≠ a1) (l3 : ∀ p ∈ ow, p.1 ≠ a3)
    (e1 : @LT.lt Nat _ dt a1 ∧ @LT.lt Nat _ dw a1 ∧ @LT.lt Nat _ D a1) (e3 : @LT.lt Nat _ dt a3 ∧ @LT.lt Nat _ dw a3 ∧ @LT.lt Nat _ D a3)
    (hr : ∀ z, z ≠ Str.ofString "place" → lawSto.contains z = false → m' z = m₀ z)
    (r1 : RowsIn ([(D, LCg.lst ys)] ++ tl) us ds) (r2 : RowsIn ([(D, LCg.lst ys)] ++ tl) ws ds) (hp : ds.length ≤ 2 * pre.length) :
    InvEndG h₀ L (KdS (fun c : List Value × List Value × List PyData × Nat × Nat => [(dt, listOf c.1.toArray c.2.2.2.1), (dw, listOf c.2.1.toArray c.2.2.2.2)]) [(D, LCg.lst ys)] (fun _ => [])
      (fun nx c => RowsIn nx c.1 c.2.2.1 ∧ RowsIn nx c.2.1 c.2.2.1) (Str.ofString "place") lawSto m₀ (fun (pre : List Int) c => c.2.2.1.length ≤ 2 * pre.length) [dt, dw, D] (pre ++ [k])) ow s₁ { s₁ with heap := h', toks := tk } := by
  refine turn_end [(a1, { cls := .type "tuple", data := .seq #[.int x1 t1, .bool b1] n1 }), (a3, { cls := .type "tuple", data := .seq #[.int x1 t3, .bool b1] n3 })] h0 F N mt mw mD ?_ mo ?_ ?_ hr r1 r2
    (.cons (.ib (.head _)) .nil) (.cons (.ib (.tail _ (.head _))) .nil) hp (Nat.le_of_ble_eq_true rfl)
  · exact List.forall_mem_cons.mpr ⟨m1, List.forall_mem_cons.mpr ⟨m3, List.forall_mem_nil _⟩⟩
  · refine List.forall_mem_cons.mpr ⟨?_, List.forall_mem_cons.mpr ⟨?_, List.forall_mem_nil _⟩⟩ <;>
    · refine List.forall_mem_cons.mpr ⟨?_, List.forall_mem_cons.mpr ⟨?_, List.forall_mem_cons.mpr ⟨?_, List.forall_mem_nil _⟩⟩⟩ <;> (apply neN; dsimp only; omega)
  · exact List.forall_mem_cons.mpr ⟨l1, List.forall_mem_cons.mpr ⟨l3, List.forall_mem_nil _⟩⟩
theorem turn_end2 (h0 : KdSep ow tl [dt, dw, D]) (F : Fr h₀ L h' m') (N : News h₀ L h' news')
    (mt : (dt, listOf (us ++ [Value.ref a1, Value.ref a2]).toArray k1) ∈ news') (mw : (dw, listOf (ws ++ [Value.ref a3, Value.ref a4]).toArray k2) ∈ news') (mD : (D, LCg.lst ys) ∈ news') (mo : ∀ p ∈ tl ++ ow, p ∈ news')
    (m1 : (a1, ({ cls := .type "tuple", data := .seq #[.int x1 t1, .bool b1] n1 } : Obj)) ∈ news') (m3 : (a3, ({ cls := .type "tuple", data := .seq #[.int x1 t3, .bool b1] n3 } : Obj)) ∈ news')
    (m2 : (a2, ({ cls := .type "tuple", data := .seq #[.int x2 t2, .int y2 u2] n2 } : Obj)) ∈ news') (m4 : (a4, ({ cls := .type "tuple", data := .seq #[.int x2 t4, .int y2 u4] n4 } : Obj)) ∈ news')
    (l1 : ∀ p ∈ ow, p.1 ≠ a1) (l3 : ∀ p ∈ ow, p.1 ≠ a3) (l2 : ∀ p ∈ ow, p.1 ≠ a2) (l4 : ∀ p ∈ ow, p.1 ≠ a4)
    (e1 : @LT.lt Nat _ dt a1 ∧ @LT.lt Nat _ dw a1 ∧ @LT.lt Nat _ D a1) (e3 : @LT.lt Nat _ dt a3 ∧ @LT.lt Nat _ dw a3 ∧ @LT.lt Nat _ D a3)
    (e2 : @LT.lt Nat _ dt a2 ∧ @LT.lt Nat _ dw a2 ∧ @LT.lt Nat _ D a2) (e4 : @LT.lt Nat _ dt a4 ∧ @LT.lt Nat _ dw a4 ∧ @LT.lt Nat _ D a4)
    (hr : ∀ z, z ≠ Str.ofString "place" → lawSto.contains z = false → m' z = m₀ z)
    (r1 : RowsIn ([(D, LCg.lst ys)] ++ tl) us ds) (r2 : RowsIn ([(D, LCg.lst ys)] ++ tl) ws ds) (hp : ds.length ≤ 2 * pre.length) :
    InvEndG h₀ L (KdS (fun c : List Value × List Value × List PyData × Nat × Nat => [(dt, listOf c.1.toArray c.2.2.2.1), (dw, listOf c.2.1.toArray c.2.2.2.2)]) [(D, LCg.lst ys)] (fun _ => [])
      (fun nx c => RowsIn nx c.1 c.2.2.1 ∧ RowsIn nx c.2.1 c.2.2.1) (Str.ofString "place") lawSto m₀ (fun (pre : List Int) c => c.2.2.1.length ≤ 2 * pre.length) [dt, dw, D] (pre ++ [k])) ow s₁ { s₁ with heap := h', toks := tk } := by
  refine turn_end [(a1, { cls := .type "tuple", data := .seq #[.int x1 t1, .bool b1] n1 }), (a3, { cls := .type "tuple", data := .seq #[.int x1 t3, .bool b1] n3 }),
      (a2, { cls := .type "tuple", data := .seq #[.int x2 t2, .int y2 u2] n2 }), (a4, { cls := .type "tuple", data := .seq #[.int x2 t4, .int y2 u4] n4 })] h0 F N mt mw mD ?_ mo ?_ ?_ hr r1 r2
    (.cons (.ib (.head _)) (.cons (.ii (.tail _ (.tail _ (.head _)))) .nil)) (.cons (.ib (.tail _ (.head _))) (.cons (.ii (.tail _ (.tail _ (.tail _ (.head _))))) .nil)) hp (Nat.le_of_ble_eq_true rfl)
  · exact List.forall_mem_cons.mpr ⟨m1, List.forall_mem_cons.mpr ⟨m3, List.forall_mem_cons.mpr ⟨m2, List.forall_mem_cons.mpr ⟨m4, List.forall_mem_nil _⟩⟩⟩⟩
  · refine List.forall_mem_cons.mpr ⟨?_, List.forall_mem_cons.mpr ⟨?_, List.forall_mem_cons.mpr ⟨?_, List.forall_mem_cons.mpr ⟨?_, List.forall_mem_nil _⟩⟩⟩⟩ <;>
    · refine List.forall_mem_cons.mpr ⟨?_, List.forall_mem_cons.mpr ⟨?_, List.forall_mem_cons.mpr ⟨?_, List.forall_mem_nil _⟩⟩⟩ <;> (apply neN; dsimp only; omega)
  · exact List.forall_mem_cons.mpr ⟨l1, List.forall_mem_cons.mpr ⟨l3, List.forall_mem_cons.mpr ⟨l2, List.forall_mem_cons.mpr ⟨l4, List.forall_mem_nil _⟩⟩⟩⟩
end
end Mine
end

-- P3
section
namespace Mine
theorem laN {ns : List Int} {j : Nat} : laV ns (j : Int) = (ns[j]?).getD (-1) := by rw [laV_eq (by omega)]; rfl
/-- the closing mark of m signs stands at i -/
def AtE (ns : List Int) (m i : Nat) : Prop := ns[i]? = some 93 ∧ (∀ t, t < m → ns[i + 1 + t]? = some 61) ∧ ns[i + 1 + m]? = some 93
theorem some_of_getD {o : Option Int} {v : Int} (h : o.getD (-1) = v) (hv : v ≠ -1) : o = some v := by
  cases o with
  | none => exact absurd h.symm hv
  | some x => simpa using h
theorem skipM_at {ns : List Int} {j t : Nat} (h : t < skipM ns j) : ns[j + 1 + t]? = some 61 := by
  have := (laV_marks (ns := ns) (i := (j : Int)) (c := (t : Int)) (by omega) (by omega) (by omega)).mpr (by omega)
  rw [show (j : Int) + 1 + (t : Int) = ((j + 1 + t : Nat) : Int) by omega, laN] at this
  exact some_of_getD this (by decide)
theorem skipM_end {ns : List Int} {j : Nat} : ns[j + 1 + skipM ns j]? ≠ some 61 := by
  intro h
  have := (laV_marks (ns := ns) (i := (j : Int)) (c := (skipM ns j : Int)) (by omega) (by omega) (by omega)).mp
    (by rw [show (j : Int) + 1 + (skipM ns j : Int) = ((j + 1 + skipM ns j : Nat) : Int) by omega, laN, h]; rfl)
  omega
theorem skipM_of {ns : List Int} {j m : Nat} (h1 : ∀ t, t < m → ns[j + 1 + t]? = some 61) (h2 : ns[j + 1 + m]? ≠ some 61) : skipM ns j = m := by
  rcases Nat.lt_trichotomy (skipM ns j) m with h | h | h
  · exact absurd (h1 _ h) skipM_end
  · exact h
  · exact absurd (skipM_at h) h2
theorem skipI_nat {ns : List Int} {j : Nat} : skipI ns j = ((j + 1 + skipM ns j : Nat) : Int) := by unfold skipI; omega
theorem skipV_at {ns : List Int} {j m : Nat} (hj : ns[j]? = some 93) : skipV ns j = (m : Int) + 2 ↔ AtE ns m j := by
  have e1 : laV ns (j : Int) = 93 := by rw [laN, hj]; rfl
  unfold skipV
  rw [skipI_nat, laN, e1]
  constructor
  · intro h
    split at h
    · rename_i h2
      have hm : skipM ns j = m := by omega
      rw [hm] at h2
      refine ⟨hj, fun t ht => skipM_at (by omega), some_of_getD h2 (by decide)⟩
    · split at h <;> omega
  · rintro ⟨_, h2, h3⟩
    have hm : skipM ns j = m := skipM_of h2 (by rw [h3]; decide)
    rw [hm, h3]
    simp
theorem rdF_spec {ns : List Int} (hpos : ∀ v ∈ ns, (0 : Int) ≤ v) {m : Nat} : ∀ (f j : Nat), j ≤ ns.length → ns.length + 1 ≤ f + j →
    (rdF ns ((m : Int) + 2) f j = (ns.length : Int) ∧ ∀ i, j ≤ i → ¬ AtE ns m i) ∨
    (∃ i, j ≤ i ∧ AtE ns m i ∧ rdF ns ((m : Int) + 2) f j = ((i + m + 2 : Nat) : Int) ∧ ∀ q, j ≤ q → q < i → ¬ AtE ns m q)
  | 0, j, h1, h2 => absurd h2 (by omega)
  | f + 1, j, h1, h2 => by
    unfold rdF
    rw [laN]
    by_cases hl : j < ns.length
    · have hget : ns[j]? = some ns[j] := List.getElem?_eq_getElem hl
      have hp := hpos ns[j] (List.getElem_mem hl)
      rw [hget, Option.getD_some, if_neg (by omega)]
      by_cases h93 : ns[j] = 93
      · rw [if_pos h93]
        have hs := skipI_le (ns := ns) (i := (j : Int)) (by omega) (by omega)
        by_cases hv : skipV ns j = (m : Int) + 2
        · rw [if_pos hv]
          have hA := (skipV_at (m := m) (by rw [hget, h93])).mp hv
          refine .inr ⟨j, Nat.le_refl _, hA, ?_, fun q h1 h2 => absurd h2 (by omega)⟩
          have hm : skipM ns j = m := skipM_of hA.2.1 (by rw [hA.2.2]; decide)
          rw [skipI_nat, hm]
          omega
        · rw [if_neg hv]
          have hA : ¬ AtE ns m j := fun h => hv ((skipV_at (by rw [hget, h93])).mpr h)
          have between : ∀ q, j ≤ q → q < j + 1 + skipM ns j → ¬ AtE ns m q := by
            intro q hq1 hq2
            by_cases hqj : q = j
            · rw [hqj]; exact hA
            · intro h
              have h3 := skipM_at (ns := ns) (j := j) (t := q - j - 1) (by omega)
              rw [show j + 1 + (q - j - 1) = q by omega] at h3
              rw [h.1] at h3
              exact absurd (Option.some.inj h3) (by decide)
          rw [skipI_nat] at hs ⊢
          rcases rdF_spec hpos f (j + 1 + skipM ns j) (by omega) (by omega) with ⟨e, hn⟩ | ⟨i, hi, hAi, e, hn⟩
          · refine .inl ⟨e, fun i hi => ?_⟩
            by_cases h : i < j + 1 + skipM ns j
            · exact between i hi h
            · exact hn i (by omega)
          · refine .inr ⟨i, by omega, hAi, e, fun q hq1 hq2 => ?_⟩
            by_cases h : q < j + 1 + skipM ns j
            · exact between q hq1 h
            · exact hn q (by omega) hq2
      · rw [if_neg h93]
        have hA : ¬ AtE ns m j := fun h => h93 (by have := h.1; rw [hget] at this; exact Option.some.inj this)
        rw [show (j : Int) + 1 = ((j + 1 : Nat) : Int) by omega]
        rcases rdF_spec hpos f (j + 1) (by omega) (by omega) with ⟨e, hn⟩ | ⟨i, hi, hAi, e, hn⟩
        · refine .inl ⟨e, fun i hi => ?_⟩
          by_cases h : i = j
          · rw [h]; exact hA
          · exact hn i (by omega)
        · refine .inr ⟨i, by omega, hAi, e, fun q hq1 hq2 => ?_⟩
          by_cases h : q = j
          · rw [h]; exact hA
          · exact hn q (by omega) hq2
    · have hnone : ns[j]? = none := List.getElem?_eq_none (by omega)
      rw [hnone, Option.getD_none, if_pos rfl]
      refine .inl ⟨by omega, fun i hi h => ?_⟩
      have := h.1
      rw [List.getElem?_eq_none (by omega)] at this
      cases this
theorem rdV_spec {ns : List Int} (hpos : ∀ v ∈ ns, (0 : Int) ≤ v) {m j : Nat} (h : j ≤ ns.length) :
    (rdV ns ((m : Int) + 2) j = (ns.length : Int) ∧ ∀ i, j ≤ i → ¬ AtE ns m i) ∨
    (∃ i, j ≤ i ∧ AtE ns m i ∧ rdV ns ((m : Int) + 2) j = ((i + m + 2 : Nat) : Int) ∧ ∀ q, j ≤ q → q < i → ¬ AtE ns m q) := by
  unfold rdV
  exact rdF_spec hpos _ j h (by omega)
/-- where the row ends, from j on -/
theorem nlV_spec {ns : List Int} (hpos : ∀ v ∈ ns, (0 : Int) ≤ v) {j : Nat} (h : j ≤ ns.length) :
    ∃ r : Nat, nlV ns j = (r : Int) ∧ j ≤ r ∧ r ≤ ns.length ∧ (ns[r]? = some 10 ∨ r = ns.length) ∧ ∀ q, j ≤ q → q < r → ns[q]? ≠ some 10 := by
  have h1 := nlV_le (ns := ns) (j := (j : Int)) (by omega) (by omega)
  have h2 := @nlV_ge ns (j : Int)
  refine ⟨(nlV ns j).toNat, by omega, by omega, by omega, ?_, ?_⟩
  · have h3 := (nlV_iff (ns := ns) (j := (j : Int)) (k := nlV ns j) (by omega) h2 (Int.le_refl _)).mpr (by omega)
    have e : nlV ns j = (((nlV ns j).toNat : Nat) : Int) := by omega
    rw [e, laN] at h3
    rcases h3 with h3 | h3
    · exact .inl (some_of_getD h3 (by decide))
    · right
      by_cases hl : (nlV ns j).toNat < ns.length
      · rw [List.getElem?_eq_getElem hl, Option.getD_some] at h3
        have := hpos _ (List.getElem_mem hl)
        omega
      · omega
  · intro q hq1 hq2 hq
    have h3 := (nlV_iff (ns := ns) (j := (j : Int)) (k := (q : Int)) (by omega) (by omega) (by omega)).mp (.inl (by rw [laN, hq]; rfl))
    omega
end Mine
end

-- P4
section
open PySem PySem.W PyProof.Rows PySem.Builtin PySem.Builtin.Str
namespace Mine
theorem eq_sign : Str.ofString "=" = ⟨#[61]⟩ := by decide +kernel
theorem open_sign : Str.ofString "[" = ⟨#[91]⟩ := by decide +kernel
theorem close_sign : Str.ofString "]" = ⟨#[93]⟩ := by decide +kernel
theorem row_sign : Str.ofString "\n" = ⟨#[10]⟩ := by decide +kernel
theorem str_ext {x y : Str} (h : x.cps.toList = y.cps.toList) : x = y := by
  obtain ⟨⟨a⟩⟩ := x
  obtain ⟨⟨b⟩⟩ := y
  exact congrArg (fun l : List Nat => (⟨⟨l⟩⟩ : Str)) h
theorem clip_hi {a b : Int} {n : Nat} (ha : 0 ≤ a) (hb : 0 ≤ b) : strSliceIndices (some a) (some b) 1 n = strSliceIndices (some (min a n)) (some (min b n)) 1 n := by
  have h1 : ¬ a < 0 := by omega
  have h2 : ¬ b < 0 := by omega
  have h3 : ¬ min a (n : Int) < 0 := by omega
  have h4 : ¬ min b (n : Int) < 0 := by omega
  have e1 : min (min a (n : Int)) n = min a n := by omega
  have e2 : min (min b (n : Int)) n = min b n := by omega
  simp only [strSliceIndices, h1, h2, h3, h4, if_false, e1, e2, show (1 : Int) > 0 from by decide, if_true]
theorem slice_cps {x : Str} {a b : Int} (ha : 0 ≤ a) (hab : a ≤ b) : (Txt.slice x (some a) (some b)).cps.toList = (x.cps.toList.drop a.toNat).take (b - a).toNat := by
  have e : Txt.slice x (some a) (some b) = Txt.slice x (some (min a x.length)) (some (min b x.length)) := by
    unfold Txt.slice
    rw [clip_hi ha (by omega)]
  have hl : x.cps.toList.length = x.length := by rw [Array.length_toList]; rfl
  rw [e, beq_iff_eq.mp (slice_closes (x := x) (i := min a x.length) (j := min b x.length) ⟨by omega, by omega, by omega⟩)]
  show (x.cps.toList.drop _).take _ = _
  by_cases h : a ≤ (x.length : Int)
  · rw [Int.min_eq_left h]
    by_cases h2 : b ≤ (x.length : Int)
    · rw [Int.min_eq_left h2]
    · rw [Int.min_eq_right (by omega), List.take_of_length_le (by rw [List.length_drop]; omega), List.take_of_length_le (by rw [List.length_drop]; omega)]
  · rw [List.drop_of_length_le (by omega), List.drop_of_length_le (by omega)]
    simp
theorem slice_tail {x : Str} {a : Int} (ha : 0 ≤ a) : (Txt.slice x (some a) none).cps.toList = x.cps.toList.drop a.toNat := by
  have hl : x.cps.toList.length = x.length := by rw [Array.length_toList]; rfl
  by_cases h : a ≤ (x.length : Int)
  · rw [slice_from_eq ha h rfl]
    show (x.cps.toList.drop _).take _ = _
    rw [List.take_of_length_le (by rw [List.length_drop]; omega)]
  · rw [slice_beyond (by omega), List.drop_of_length_le (by omega)]
    rfl
theorem mk_eq {T : Str} {k : Nat} : mkV T k = (((T.cps.toList.drop (k + 1)).takeWhile (fun z => z == 61)).length : Int) := by
  have hs : (Txt.slice T (some ((k : Int) + 1)) none).cps.toList = T.cps.toList.drop (k + 1) := by
    rw [slice_tail (by omega)]; congr 1
  unfold mkV
  generalize Txt.slice T (some ((k : Int) + 1)) none = x at hs
  have hl : x.length = x.cps.toList.length := by rw [Array.length_toList]; rfl
  have hg : (Str.ofString "=").cps.contains = fun z => z == 61 := by
    funext z
    rw [eq_sign]
    simp only [List.contains_toArray, List.contains_cons, List.contains_nil, Bool.or_false]
  have hlo : stripLo (Str.ofString "=").cps.contains true x = (x.cps.toList.takeWhile (fun z => z == 61)).length := by
    unfold stripLo
    rw [hg]
    rfl
  have hle := (List.takeWhile_prefix (fun z => z == 61) (l := x.cps.toList)).length_le
  have h2 : (Txt.lstripChars x (Str.ofString "=")).length = x.length - (x.cps.toList.takeWhile (fun z => z == 61)).length := by
    unfold Txt.lstripChars Txt.stripBy
    split
    · rename_i h
      unfold stripSame at h
      simp only [Bool.and_eq_true, beq_iff_eq] at h
      rw [hlo] at h
      omega
    · unfold PySem.stripped
      rw [hlo]
      show (x.cps.extract _ _).size = _
      rw [Array.size_extract]
      unfold stripHi
      simp only [Bool.false_eq_true, if_false]
      show min x.length x.length - _ = _
      omega
  rw [h2, ← hs]
  omega
theorem codes_get {T : Str} {k i : Nat} : (List.drop k (codes T))[i]? = (T.cps.toList[k + i]?).map (fun c : Nat => (c : Int)) := by
  unfold codes
  rw [List.getElem?_drop, List.getElem?_map]
theorem codes_len {T : Str} : (codes T).length = T.cps.toList.length := by unfold codes; rw [List.length_map]
theorem codes_pos {T : Str} {k : Nat} : ∀ v ∈ List.drop k (codes T), (0 : Int) ≤ v := by
  intro v hv
  have := List.mem_of_mem_drop hv
  unfold codes at this
  obtain ⟨c, _, rfl⟩ := List.mem_map.mp this
  omega
theorem tw_map (p : Int → Bool) : ∀ l : List Nat, ((l.map fun c : Nat => (c : Int)).takeWhile p).length = (l.takeWhile fun c : Nat => p (c : Int)).length
  | [] => rfl
  | a :: r => by
    simp only [List.map_cons, List.takeWhile_cons]
    cases p (a : Int) with
    | true => simp only [if_true, List.length_cons, tw_map p r]
    | false => rfl
theorem mk_skip {T : Str} {k : Nat} : (skipM (List.drop k (codes T)) 0 : Int) = mkV T k := by
  rw [mk_eq]
  unfold skipM codes
  rw [List.drop_drop]
  have e : k + ((0 : Int).toNat + 1) = k + 1 := by simp
  rw [e, ← List.map_drop, tw_map]
  have e2 : (fun c : Nat => (fun z : Int => z == 61) (c : Int)) = fun z : Nat => z == 61 := by
    funext c
    rw [Bool.eq_iff_iff, beq_iff_eq, beq_iff_eq]
    omega
  rw [e2]
end Mine
end

-- P5
section
open PySem PySem.W PyProof.Rows PySem.Builtin PySem.Builtin.Str
namespace Mine
theorem in_lt {T : Str} {k : Int} (h0 : 0 ≤ k) (h : ([Str.ofString "[", Str.ofString "]"].any fun x => x == Txt.slice T (some k) (some (k + 1))) = true) : k < (T.length : Int) := by
  have hl : T.length = T.cps.toList.length := by rw [Array.length_toList]; rfl
  by_cases hk : k < (T.length : Int)
  · exact hk
  · exfalso
    have e := slice_cps (x := T) h0 (show k ≤ k + 1 by omega)
    rw [List.drop_of_length_le (by omega), List.take_nil] at e
    simp only [List.any_cons, List.any_nil, Bool.or_false, Bool.or_eq_true, beq_iff_eq] at h
    rcases h with h | h
    · rw [← h, open_sign] at e; exact absurd e (by decide)
    · rw [← h, close_sign] at e; exact absurd e (by decide)
theorem drop_pos {T : Str} {k : Int} (h0 : 0 ≤ k) (h : ([Str.ofString "[", Str.ofString "]"].any fun x => x == Txt.slice T (some k) (some (k + 1))) = true) : 0 < (List.drop k.toNat (codes T)).length := by
  have h1 := in_lt h0 h
  have hl : T.length = T.cps.toList.length := by rw [Array.length_toList]; rfl
  rw [List.length_drop, codes_len]
  omega
theorem skip_index {T : Str} {k : Int} (h0 : 0 ≤ k) (h1 : k < (T.length : Int)) : skipI (List.drop k.toNat (codes T)) 0 = mkV T k + 1 := by
  have := mk_skip (T := T) (k := k.toNat)
  rw [Int.toNat_of_nonneg h0] at this
  unfold skipI
  omega
theorem item_cps {T : Str} {k : Nat} (h : k < T.cps.toList.length) : (Txt.item T k).cps.toList = [T.cps.toList[k]] := by
  have hl : T.length = T.cps.toList.length := by rw [Array.length_toList]; rfl
  have e1 : seqIndex? (k : Int) T.length = some k := by
    have h2 : ¬ ((k : Int) < 0) := by omega
    have h3 : (decide ((0 : Int) ≤ (k : Int)) && decide ((k : Int) < (T.length : Int))) = true := by
      rw [Bool.and_eq_true, decide_eq_true_eq, decide_eq_true_eq]; omega
    unfold seqIndex?
    simp only [h2, if_false]
    rw [if_pos h3, Int.toNat_natCast]
  unfold Txt.item Txt.charAt
  rw [e1]
  show [(T.cps[k]?).getD 0] = _
  rw [← Array.getElem?_toList, List.getElem?_eq_getElem h]
  rfl
theorem pair_iff {T : Str} {k : Nat} (h1 : k < T.cps.toList.length) : (Txt.slice T (some ((k : Int) + mkV T k + 1)) (some ((k : Int) + mkV T k + 2)) == Txt.item T k) = true ↔
    laV (List.drop k (codes T)) (skipI (List.drop k (codes T)) 0) = laV (List.drop k (codes T)) 0 := by
  have hm := mk_skip (T := T) (k := k)
  generalize hM : skipM (List.drop k (codes T)) 0 = M at hm
  have e0 : skipI (List.drop k (codes T)) 0 = ((1 + M : Nat) : Int) := by unfold skipI; rw [hM]; omega
  have e1 : laV (List.drop k (codes T)) 0 = (T.cps.toList[k] : Int) := by
    have := laN (ns := List.drop k (codes T)) (j := 0)
    rw [show ((0 : Nat) : Int) = 0 from rfl] at this
    rw [this, codes_get, Nat.add_zero, List.getElem?_eq_getElem h1]
    rfl
  rw [e0, e1, laN, codes_get]
  have hs : (Txt.slice T (some ((k : Int) + mkV T k + 1)) (some ((k : Int) + mkV T k + 2))).cps.toList = (T.cps.toList.drop (k + (1 + M))).take 1 := by
    rw [slice_cps (by omega) (by omega), ← hm]
    congr 1
    · omega
    · congr 1
      omega
  rw [beq_iff_eq]
  have hi := item_cps h1
  constructor
  · intro h
    rw [h, hi] at hs
    have h2 := congrArg (fun l : List Nat => l[0]?) hs
    simp only [List.getElem?_cons_zero, List.getElem?_take, List.getElem?_drop, Nat.add_zero] at h2
    simp only [Nat.lt_add_one, if_true] at h2
    rw [← h2]
    rfl
  · intro h
    apply str_ext
    rw [hs, hi]
    cases hc : T.cps.toList[k + (1 + M)]? with
    | none => rw [hc] at h; exact absurd h (by show ¬ (-1 : Int) = _; omega)
    | some c =>
      rw [hc] at h
      have hc' : (c : Int) = (T.cps.toList[k] : Int) := h
      have hlt : k + (1 + M) < T.cps.toList.length := by
        by_cases hq : k + (1 + M) < T.cps.toList.length
        · exact hq
        · rw [List.getElem?_eq_none (by omega)] at hc; cases hc
      rw [List.drop_eq_getElem_cons hlt]
      rw [List.getElem?_eq_getElem hlt] at hc
      have : T.cps.toList[k + (1 + M)] = T.cps.toList[k] := by
        have := Option.some.inj hc
        omega
      simp [this]
theorem skip_pair {T : Str} {k : Int} (h0 : 0 ≤ k) (h1 : k < (T.length : Int)) (h : (Txt.slice T (some (k + mkV T k + 1)) (some (k + mkV T k + 2)) == Txt.item T k) = true) : skipV (List.drop k.toNat (codes T)) 0 = mkV T k + 2 := by
  obtain ⟨n, rfl⟩ := Int.eq_ofNat_of_zero_le h0
  have hl : T.length = T.cps.toList.length := by rw [Array.length_toList]; rfl
  unfold skipV
  rw [Int.toNat_natCast, if_pos ((pair_iff (by omega)).mp h), mk_skip]
theorem skip_zero {T : Str} {k : Int} (h0 : 0 ≤ k) (h1 : k < (T.length : Int)) (h : (Txt.slice T (some (k + mkV T k + 1)) (some (k + mkV T k + 2)) == Txt.item T k) = false) (h2 : mkV T k ≠ 0) : skipV (List.drop k.toNat (codes T)) 0 = 0 := by
  obtain ⟨n, rfl⟩ := Int.eq_ofNat_of_zero_le h0
  have hl : T.length = T.cps.toList.length := by rw [Array.length_toList]; rfl
  unfold skipV
  have hm := mk_skip (T := T) (k := n)
  rw [Int.toNat_natCast, if_neg (fun q => by rw [(pair_iff (by omega)).mpr q] at h; cases h), if_neg (by omega)]
theorem skip_one {T : Str} {k : Int} (h0 : 0 ≤ k) (h1 : k < (T.length : Int)) (h : (Txt.slice T (some (k + mkV T k + 1)) (some (k + mkV T k + 2)) == Txt.item T k) = false) (h2 : mkV T k = 0) : skipV (List.drop k.toNat (codes T)) 0 = 1 := by
  obtain ⟨n, rfl⟩ := Int.eq_ofNat_of_zero_le h0
  have hl : T.length = T.cps.toList.length := by rw [Array.length_toList]; rfl
  unfold skipV
  have hm := mk_skip (T := T) (k := n)
  rw [Int.toNat_natCast, if_neg (fun q => by rw [(pair_iff (by omega)).mpr q] at h; cases h), if_pos (by omega)]
end Mine
end

-- P6
section
open PySem PySem.W PyProof.Rows PySem.Builtin PySem.Builtin.Str
namespace Mine
theorem mark_cps {c m : Nat} : ((⟨#[c]⟩ : Str) ++ Txt.mul (Str.ofString "=") (m : Int) ++ (⟨#[c]⟩ : Str)).cps.toList = c :: (List.replicate m 61 ++ [c]) := by
  have h := mul_one_list 61 (m : Int)
  rw [← eq_sign, Int.toNat_natCast] at h
  rw [Str.cps_append, Str.cps_append, Array.toList_append, Array.toList_append, h]
  rfl
theorem mark_get {c m n : Nat} : (c :: (List.replicate m 61 ++ [c]))[n]? = if n = 0 then some c else if n < m + 1 then some 61 else if n = m + 1 then some c else none := by
  cases n with
  | zero => rfl
  | succ n =>
    rw [List.getElem?_cons_succ, List.getElem?_append, if_neg (Nat.succ_ne_zero n)]
    simp only [List.length_replicate]
    by_cases h : n < m
    · rw [if_pos h, if_pos (by omega), List.getElem?_replicate, if_pos h]
    · rw [if_neg h, if_neg (by omega)]
      by_cases h2 : n = m
      · rw [if_pos (by omega), h2, Nat.sub_self]; rfl
      · rw [if_neg (by omega)]
        exact List.getElem?_eq_none (by simp only [List.length_singleton]; omega)
theorem mark_iff {r : List Nat} {c m i : Nat} : (r.drop i).take (m + 2) = c :: (List.replicate m 61 ++ [c]) ↔ r[i]? = some c ∧ (∀ t, t < m → r[i + 1 + t]? = some 61) ∧ r[i + 1 + m]? = some c := by
  constructor
  · intro h
    have g : ∀ n, n < m + 2 → r[i + n]? = (c :: (List.replicate m 61 ++ [c]))[n]? := fun n hn => by
      rw [← h, List.getElem?_take, if_pos hn, List.getElem?_drop]
    refine ⟨?_, fun t ht => ?_, ?_⟩
    · have := g 0 (by omega); rw [mark_get, if_pos rfl] at this; exact this
    · have := g (1 + t) (by omega)
      rw [mark_get, if_neg (by omega), if_pos (by omega)] at this
      rw [Nat.add_assoc]; exact this
    · have := g (1 + m) (by omega)
      rw [mark_get, if_neg (by omega), if_neg (by omega), if_pos (by omega)] at this
      rw [Nat.add_assoc]; exact this
  · rintro ⟨h1, h2, h3⟩
    refine List.ext_getElem? fun n => ?_
    rw [List.getElem?_take, mark_get]
    by_cases hn : n < m + 2
    · rw [if_pos hn, List.getElem?_drop]
      by_cases h0 : n = 0
      · rw [if_pos h0, h0]; exact h1
      · rw [if_neg h0]
        by_cases hm : n < m + 1
        · rw [if_pos hm, ← h2 (n - 1) (by omega)]; congr 1; omega
        · rw [if_neg hm, if_pos (by omega), ← h3]; congr 1; omega
    · rw [if_neg hn, if_neg (by omega), if_neg (by omega), if_neg (by omega)]
theorem code_at {T : Str} {k i c : Nat} : (List.drop k (codes T))[i]? = some (c : Int) ↔ T.cps.toList[k + i]? = some c := by
  rw [codes_get]
  cases T.cps.toList[k + i]? with
  | none => simp
  | some x => simp only [Option.map_some, Option.some.injEq]; omega
theorem atE_iff {T : Str} {k m i : Nat} : AtE (List.drop k (codes T)) m i ↔ (T.cps.toList.drop (k + i)).take (m + 2) = 93 :: (List.replicate m 61 ++ [93]) := by
  rw [mark_iff]
  unfold AtE
  have a := @code_at T k i 93
  have b := @code_at T k (i + 1 + m) 93
  rw [show ((93 : Nat) : Int) = 93 from rfl] at a b
  rw [a, b, show k + (i + 1 + m) = k + i + 1 + m by omega]
  refine and_congr_right fun _ => and_congr_left fun _ => ?_
  refine forall_congr' fun t => imp_congr_right fun _ => ?_
  have d := @code_at T k (i + 1 + t) 61
  rw [show ((61 : Nat) : Int) = 61 from rfl] at d
  rw [d, show k + (i + 1 + t) = k + i + 1 + t by omega]
theorem at_iff {T : Str} {k m i : Nat} : StrLaws.At T ((⟨#[93]⟩ : Str) ++ Txt.mul (Str.ofString "=") (m : Int) ++ (⟨#[93]⟩ : Str)) T.length (k + i) ↔ AtE (List.drop k (codes T)) m i := by
  have hl : T.length = T.cps.toList.length := by rw [Array.length_toList]; rfl
  have hc := @mark_cps 93 m
  generalize (⟨#[93]⟩ : Str) ++ Txt.mul (Str.ofString "=") (m : Int) ++ (⟨#[93]⟩ : Str) = C at hc
  have hC : C.length = m + 2 := by
    have : C.length = C.cps.toList.length := by rw [Array.length_toList]; rfl
    rw [this, hc]; simp
  rw [atE_iff]
  unfold StrLaws.At
  rw [StrLaws.subAt_eq, hC, hc, beq_iff_eq]
  constructor
  · exact fun h => h.2
  · intro h
    refine ⟨?_, h⟩
    have h2 := (mark_iff.mp h).2.2
    by_cases hq : k + i + 1 + m < T.cps.toList.length
    · omega
    · rw [List.getElem?_eq_none (by omega)] at h2; cases h2
theorem open_iff {T : Str} {k M : Nat} (hM : skipM (List.drop k (codes T)) 0 = M) : (Txt.slice T (some (k : Int)) (some ((k : Int) + (M : Int) + 2)) != (⟨#[91]⟩ : Str) ++ Txt.mul (Str.ofString "=") (M : Int) ++ (⟨#[91]⟩ : Str)) = false ↔
    (laV (List.drop k (codes T)) 0 = 91 ∧ laV (List.drop k (codes T)) (skipI (List.drop k (codes T)) 0) = 91) := by
  have e0 : skipI (List.drop k (codes T)) 0 = ((1 + M : Nat) : Int) := by unfold skipI; rw [hM]; omega
  have hs : (Txt.slice T (some (k : Int)) (some ((k : Int) + (M : Int) + 2))).cps.toList = (T.cps.toList.drop k).take (M + 2) := by
    rw [slice_cps (by omega) (by omega)]
    congr 1
    omega
  have l0 : laV (List.drop k (codes T)) 0 = ((List.drop k (codes T))[0]?).getD (-1) := laN (j := 0)
  have key : (T.cps.toList.drop k).take (M + 2) = 91 :: (List.replicate M 61 ++ [91]) ↔ (laV (List.drop k (codes T)) 0 = 91 ∧ laV (List.drop k (codes T)) (skipI (List.drop k (codes T)) 0) = 91) := by
    rw [mark_iff, e0, laN, l0]
    have a := @code_at T k 0 91
    have b := @code_at T k (1 + M) 91
    rw [show ((91 : Nat) : Int) = 91 from rfl] at a b
    rw [Nat.add_zero] at a
    rw [show k + (1 + M) = k + 1 + M by omega] at b
    constructor
    · rintro ⟨h1, _, h3⟩
      rw [a.mpr h1, b.mpr h3]
      exact ⟨rfl, rfl⟩
    · rintro ⟨h1, h2⟩
      refine ⟨a.mp (some_of_getD h1 (by decide)), fun t ht => ?_, b.mp (some_of_getD h2 (by decide))⟩
      have h3 := skipM_at (ns := List.drop k (codes T)) (j := 0) (t := t) (by rw [show ((0 : Nat) : Int) = 0 from rfl, hM]; exact ht)
      have d := @code_at T k (0 + 1 + t) 61
      rw [show ((61 : Nat) : Int) = 61 from rfl] at d
      have := d.mp h3
      rw [show k + (0 + 1 + t) = k + 1 + t by omega] at this
      exact this
  rw [← key, bne_eq_false_iff_eq]
  constructor
  · intro h
    rw [← hs, h, mark_cps]
  · intro h
    apply str_ext
    rw [hs, h, mark_cps]
end Mine
end

-- P7
section
open PySem PySem.W PyProof.Rows PySem.Builtin PySem.Builtin.Str
namespace Mine
theorem from_nat {n k : Nat} : fromIndex n (k : Int) = k := by
  unfold fromIndex
  rw [if_neg (by omega)]
  omega
theorem row_end {T : Str} {k r : Nat} (hk : k ≤ T.cps.toList.length) (hr : r ≤ (List.drop k (codes T)).length) (h1 : (List.drop k (codes T))[r]? = some 10 ∨ r = (List.drop k (codes T)).length)
    (h2 : ∀ q, q < r → (List.drop k (codes T))[q]? ≠ some 10) : Txt.find3 (T ++ Str.ofString "\n") (Str.ofString "\n") (k : Int) = ((k + r : Nat) : Int) := by
  have hlen : (List.drop k (codes T)).length = T.cps.toList.length - k := by rw [List.length_drop, codes_len]
  have hx : (T ++ Str.ofString "\n").cps.toList = T.cps.toList ++ [10] := by rw [row_sign, Str.cps_append, Array.toList_append]
  generalize T ++ Str.ofString "\n" = x at hx
  have hxl : x.length = T.cps.toList.length + 1 := by
    have : x.length = x.cps.toList.length := by rw [Array.length_toList]; rfl
    rw [this, hx]; simp
  have get : ∀ v, x.cps.getD v 0 = ((T.cps.toList ++ [10])[v]?).getD 0 := fun v => by
    rw [← hx, Array.getElem?_toList, Array.getD_eq_getD_getElem?]
  have at10 : x.cps.getD (k + r) 0 = 10 := by
    rw [get]
    rcases h1 with h1 | h1
    · have h3 := (@code_at T k r 10).mp h1
      have hlt : k + r < T.cps.toList.length := by
        by_cases hq : k + r < T.cps.toList.length
        · exact hq
        · rw [List.getElem?_eq_none (by omega)] at h3; cases h3
      rw [List.getElem?_append_left hlt, h3]; rfl
    · rw [List.getElem?_append_right (by omega), show k + r - T.cps.toList.length = 0 by omega]; rfl
  have before : ∀ q, q < r → x.cps.getD (k + q) 0 ≠ 10 := by
    intro q hq he
    have hlt : k + q < T.cps.toList.length := by omega
    rw [get, List.getElem?_append_left hlt, List.getElem?_eq_getElem hlt, Option.getD_some] at he
    exact h2 q hq ((@code_at T k q 10).mpr (by rw [List.getElem?_eq_getElem hlt, he]))
  rw [row_sign]
  rcases StrLaws.find3_spec x 10 (k : Int) with ⟨_, hn⟩ | ⟨n, e, n1, n2, n3, n4⟩
  · rw [from_nat] at hn
    exact absurd at10 (hn (k + r) (by omega) (by omega))
  · rw [from_nat] at n1 n4
    rw [e]
    rcases Nat.lt_trichotomy n (k + r) with h | h | h
    · exact absurd n3 (by have := before (n - k) (by omega); rw [show k + (n - k) = n by omega] at this; exact this)
    · rw [h]
    · exact absurd at10 (n4 (k + r) (by omega) h)
theorem skipV_two {ns : List Int} {i : Int} : 2 ≤ skipV ns i ↔ laV ns (skipI ns i) = laV ns i := by
  unfold skipV
  constructor
  · intro h
    split at h
    · assumption
    · split at h <;> omega
  · intro h
    rw [if_pos h]
    omega
theorem law_nat {T : Str} {k : Nat} (hk : k ≤ T.cps.toList.length) : hcV (List.drop k (codes T)) = endV T k - (k : Int) := by
  have hl : T.length = T.cps.toList.length := by rw [Array.length_toList]; rfl
  have hm := mk_skip (T := T) (k := k)
  generalize hM : skipM (List.drop k (codes T)) 0 = M at hm
  have e0 : skipI (List.drop k (codes T)) 0 = ((1 + M : Nat) : Int) := by unfold skipI; rw [hM]; omega
  have hlen : (List.drop k (codes T)).length = T.cps.toList.length - k := by rw [List.length_drop, codes_len]
  have hpos := @codes_pos T k
  have l0 : laV (List.drop k (codes T)) 0 = ((List.drop k (codes T))[0]?).getD (-1) := laN (j := 0)
  have ho := open_iff (T := T) (k := k) hM
  unfold endV
  rw [← hm, open_sign, close_sign]
  by_cases hop : laV (List.drop k (codes T)) 0 = 91 ∧ laV (List.drop k (codes T)) (skipI (List.drop k (codes T)) 0) = 91
  · rw [ho.mpr hop, if_neg Bool.false_ne_true]
    have hsv : skipV (List.drop k (codes T)) 0 = (M : Int) + 2 := by
      unfold skipV
      rw [hop.1, hop.2, if_pos rfl, hM]
    have hlt : 1 + M < (List.drop k (codes T)).length := by
      have h2 := hop.2
      rw [e0, laN] at h2
      by_cases hq : 1 + M < (List.drop k (codes T)).length
      · exact hq
      · rw [List.getElem?_eq_none (by omega)] at h2; exact absurd h2 (by decide)
    unfold hcV
    rw [if_pos hop.1, hsv, if_pos (by omega), e0, show ((1 + M : Nat) : Int) + 1 = ((M + 2 : Nat) : Int) by omega]
    have hf : Txt.find3 T ((⟨#[93]⟩ : Str) ++ Txt.mul (Str.ofString "=") (M : Int) ++ (⟨#[93]⟩ : Str)) ((k : Int) + (M : Int) + 2) =
        match occurrences T ((⟨#[93]⟩ : Str) ++ Txt.mul (Str.ofString "=") (M : Int) ++ (⟨#[93]⟩ : Str)) (k + (M + 2)) T.length 1 with | i :: _ => (i : Int) | [] => -1 := by
      unfold Txt.find3
      rw [show (k : Int) + (M : Int) + 2 = ((k + (M + 2) : Nat) : Int) by omega, from_nat]
      generalize occurrences _ _ _ _ _ = o
      cases o <;> rfl
    rw [hf]
    have hat := fun i => @at_iff T k M i
    have hocc := StrLaws.occ_head_from T ((⟨#[93]⟩ : Str) ++ Txt.mul (Str.ofString "=") (M : Int) ++ (⟨#[93]⟩ : Str)) (k + (M + 2)) 1 (Nat.le_refl 1)
    rcases rdV_spec hpos (m := M) (j := M + 2) (by omega) with ⟨er, hn⟩ | ⟨i, hi, hA, er, hn⟩
    · rcases hocc with ⟨h0, _⟩ | ⟨p, r, _, hlo, hp, _⟩
      · rw [h0, er]
        show _ = (if (-1 : Int) < 0 then (T.length : Int) else _) - (k : Int)
        rw [if_pos (by decide)]
        omega
      · have h3 := (hat (p - k)).mp (by rw [show k + (p - k) = p by omega]; exact hp)
        exact absurd h3 (hn (p - k) (by omega))
    · rcases hocc with ⟨_, hnone⟩ | ⟨p, r, h0, hlo, hp, hfirst⟩
      · exact absurd ((hat i).mpr hA) (hnone (k + i) (by omega))
      · have h3 := (hat (p - k)).mp (by rw [show k + (p - k) = p by omega]; exact hp)
        have hpi : p = k + i := by
          rcases Nat.lt_trichotomy p (k + i) with h | h | h
          · exact absurd h3 (hn (p - k) (by omega) (by omega))
          · exact h
          · exact absurd ((hat i).mpr hA) (hfirst (k + i) (by omega) h)
        rw [h0, er]
        show _ = (if (p : Int) < 0 then (T.length : Int) else (p : Int) + (M : Int) + 2) - (k : Int)
        rw [if_neg (by omega)]
        omega
  · have hb : (Txt.slice T (some (k : Int)) (some ((k : Int) + (M : Int) + 2)) != (⟨#[91]⟩ : Str) ++ Txt.mul (Str.ofString "=") (M : Int) ++ (⟨#[91]⟩ : Str)) = true := by
      cases hq : (Txt.slice T (some (k : Int)) (some ((k : Int) + (M : Int) + 2)) != (⟨#[91]⟩ : Str) ++ Txt.mul (Str.ofString "=") (M : Int) ++ (⟨#[91]⟩ : Str)) with
      | true => rfl
      | false => exact absurd (ho.mp hq) hop
    rw [hb, if_pos rfl]
    unfold hcV
    by_cases h91 : laV (List.drop k (codes T)) 0 = 91
    · rw [if_pos h91, if_neg (fun h => hop ⟨h91, by rw [skipV_two.mp h, h91]⟩), e0]
      have hg0 : (List.drop k (codes T))[0]? = some 91 := by rw [l0] at h91; exact some_of_getD h91 (by decide)
      have h0lt : 0 < (List.drop k (codes T)).length := by
        by_cases hq : 0 < (List.drop k (codes T)).length
        · exact hq
        · rw [List.getElem?_eq_none (by omega)] at hg0; cases hg0
      have hs := skipI_le (ns := List.drop k (codes T)) (i := 0) (by omega) (by omega)
      rw [e0] at hs
      obtain ⟨r, er, r1, r2, r3, r4⟩ := nlV_spec hpos (j := 1 + M) (by omega)
      rw [er, row_end hk r2 r3 fun q hq => ?_]
      · omega
      · by_cases hq2 : 1 + M ≤ q
        · exact r4 q hq2 hq
        · intro h10
          by_cases hq0 : q = 0
          · rw [hq0, hg0] at h10; exact absurd (Option.some.inj h10) (by decide)
          · have h3 := skipM_at (ns := List.drop k (codes T)) (j := 0) (t := q - 1) (by rw [show ((0 : Nat) : Int) = 0 from rfl, hM]; omega)
            rw [show 0 + 1 + (q - 1) = q by omega, h10] at h3
            exact absurd (Option.some.inj h3) (by decide)
    · rw [if_neg h91]
      obtain ⟨r, er, r1, r2, r3, r4⟩ := nlV_spec hpos (j := 0) (by omega)
      rw [show ((0 : Nat) : Int) = 0 from rfl] at er
      rw [er, row_end hk r2 r3 fun q hq => r4 q (by omega) hq]
      omega
theorem law_one {T : Str} {k : Int} (h0 : 0 ≤ k) (h1 : k ≤ (T.length : Int)) : hcV (List.drop k.toNat (codes T)) = endV T k - k := by
  obtain ⟨n, rfl⟩ := Int.eq_ofNat_of_zero_le h0
  have hl : T.length = T.cps.toList.length := by rw [Array.length_toList]; rfl
  rw [Int.toNat_natCast]
  exact law_nat (by omega)
end Mine
end

-- LT
section
open PySem PySem.W PyProof.Rows
namespace Mine
theorem told_wanted {h₀ h : Heap} {L a b : Addr} {m : Str → Option Value} (F : Fr h₀ L h (fun y => if y = Str.ofString "told" then some (Value.ref a) else if y = Str.ofString "wanted" then some (Value.ref b) else m y)) : ∃ p q : Addr, p = a ∧ q = b := let _ := F; ⟨a, b, rfl, rfl⟩
noncomputable def lawSt : Stmt := (PySem.Challenge.pw_sx0031_01.main.body.getLast?).getD (.Pass default)
noncomputable def bodyOf : Stmt → List Stmt
  | .FunctionDef _ _ b _ _ _ _ _ _ _ => b
  | _ => []
noncomputable def scopeOf : Stmt → Scope → Scope
  | .FunctionDef _ _ _ _ _ _ sc _ _ _, _ => sc
  | _, d => d
local macro_rules | `(tactic| walk_at "binaryOp Add str str") => `(tactic| ((refine SBL.add (hsz := ?hsz) ?_); (case hsz => size_fits); intro _ _ _))
local macro_rules | `(tactic| walk_at "call ref") => `(tactic| (k_here; (with_reducible show wpAny _ _ (PySem.call (Value.ref 70) _) _ _ _); k_dflt (refine' handle_at ?k1 ?k2 ?k3 ?k4 ?k5 ?k6 ?m3 ?m4 ?m1 ?kU ?m2 ?kI ?k8 ?k11 ?k12 ?_; (case k1 => k_asm); (case k2 => k_asm); (case k3 => k_asm); (case k4 => k_asm); (case k5 => k_asm); (case k6 => first | exact rfl | assumption); (case m3 => k_mem); (case m4 => k_mem); (case m1 => k_mem); (case kU => k_updF); (case m2 => k_mem); (case kI => assumption); (case k8 => l_fact); (case k11 => ktr_room); (case k12 => ktr_units); k_whole; intro ti9 h9 tk9 F9 N9; (try dsimp only at N9))))
local macro_rules | `(tactic| walk_at "call ref") => `(tactic| (k_here; (with_reducible show wpAny _ _ (PySem.call (Value.ref 84) _) _ _ _); k_dflt (refine' skip_at ?k1 ?k2 ?k3 ?k4 ?k5 ?k6 ?m1 ?kU ?m2 ?kI ?k8 ?k9 ?k11 ?k12 ?_; (case k1 => k_asm); (case k2 => k_asm); (case k3 => k_asm); (case k4 => k_asm); (case k5 => k_asm); (case k6 => first | exact rfl | assumption); (case m1 => k_mem); (case kU => k_updF); (case m2 => k_mem); (case kI => assumption); (case k8 => l_fact); (case k9 => exact drop_pos (by assumption) (by assumption)); (case k11 => ktr_room); (case k12 => ktr_units); k_whole; intro t9 ti9 h9 tk9 F9 N9; (try dsimp only at N9))))
local macro_rules | `(tactic| walk_at "call ref") => `(tactic| (k_here; (with_reducible show wpAny _ _ (PySem.call (Value.ref 113) _) _ _ _); k_dflt (refine' marks_call ?k1 ?k2 ?k3 ?k4 ?k5 ?k6 ?k7 ?k8 ?k9 ?_; (case k1 => k_asm); (case k2 => k_asm); (case k3 => k_asm); (case k4 => k_asm); (case k5 => k_asm); (case k6 => first | exact rfl | assumption); (case k7 => assumption); (case k8 => ktr_room); (case k9 => ktr_units); k_whole; intro t9 h9 tk9 F9 N9)))
local macro_rules | `(tactic| walk_at "call ref") => `(tactic| (k_here; (with_reducible show wpAny _ _ (PySem.call (Value.ref 120) _) _ _ _); k_dflt (refine' end_call ?k1 ?k2 ?k3 ?k4 ?k5 ?k6 ?k7 ?k8 ?k9 ?k10 ?k11 ?_; (case k1 => k_asm); (case k2 => k_asm); (case k3 => k_asm); (case k4 => k_asm); (case k5 => k_asm); (case k6 => first | exact rfl | assumption); (case k7 => assumption); (case k8 => omega); (case k9 => omega); (case k10 => ktr_room); (case k11 => ktr_units); k_whole; intro t9 h9 tk9 F9 N9)))
local macro_rules | `(tactic| walk_at "call ref") => `(tactic| (k_here; k_dflt (refine' call_cls ?k1 ?k2 ?k3 ?k4 ?k5 ?k6 ?_; (case k1 => k_asm); (case k2 => k_asm); (case k3 => k_asm); (case k4 => k_is); (case k5 => k_is); (case k6 => k_is); k_whole; intro x' d' h' F' N' l1 l2; (try k_lt l1); (try k_lt2 l2); (try k_sweep); cell_enter)))
local macro_rules | `(tactic| walk_at "call ref") => `(tactic| (k_here; (with_reducible show wpAny _ _ (PySem.call (Value.ref 91) _) _ _ _); refine wpAny_call ?_; k_dflt cell_enter))
local macro_rules | `(tactic| walk_at "compareOp Eq ref ref") => `(tactic| (k_here; (with_reducible show wpAny _ _ (compareOp CmpOp.Eq (Value.ref _) (Value.ref _)) _ _ _); k_dflt (refine' rows_eq ?N ?a ?b ?c ?d ?e ?_; (case N => k_asm); (case a => k_mem); (case b => k_mem); (case c => assumption); (case d => assumption); (case e => ktr_units); k_whole)))
local macro_rules | `(tactic| walk_at "exec For Name Call cons nil") => `(tactic| (k_here; (rename Fr _ _ _ _ => lF'); (with_unfolding_all refine' For_invVF lF' ?k1 ?k2 ?_ ?ks ?kE; (case k1 => exact rfl); (case k2 => exact rfl); (case ks => intro _; rfl); (case kE => assumption); k_whole)))
local macro_rules | `(tactic| walk_at "pyIter ref") => `(tactic| ((with_reducible show wpAny _ _ (pyIter (Value.ref _)) (fun it s₂ => LoopAtV _ _ _ _ _ _ _ _ _ it s₂) _ _); k_here; refine Stop.mk ?_))
local macro_rules | `(tactic| walk_at "exec Assign cons ListComp") => `(tactic| (k_here; refine Stop.mk ?_))
set_option maxRecDepth 100000 in
set_option maxHeartbeats 8000000 in
theorem law_tail {w : World} {loose : List Str} {mean : ExcName → Option Value} {mg mb : Str → Option Value}
    {dp un : Nat} {gd : Option (List Code)} {fa : Addr} {cd : Value} {outer : List Env} {A₀ : Around} {base h₀ : Heap} {L : Addr} {m : Str → Option Value} {s : Shared} {Q : Flow → Shared → Prop} {E : Value → Shared → Prop}
    {T : Str} {tt : Tok} {own : List (Addr × Obj)}
    (B : Below A₀ base outer h₀) (F : Fr h₀ L s.heap (fun y => if y = Str.ofString "text" then some (.str T tt) else m y)) (X : (hd.heap_39 w.params).In h₀)
    (N : News h₀ L s.heap own) (TT : Top hd.view_39 loose mean mg mb h₀) (hT : T.length ≤ 100)
    (hd : dp + 6 < recursionLimit) (hu : un + 64 < cLine)
    (hE : PassesOwn (model PySem.Challenge.rw_sx0031_01.row.prog w) ({ handled := none, depth := dp, frames := some (envOf (Str.ofString "law") (scopeOf lawSt default) L fa cd :: outer), guards := gd, units := un } : Around) (envOf (Str.ofString "law") (scopeOf lawSt default) L fa cd) E)
    (ret : ∀ h' tk' m' own', Fr h₀ L h' m' → News h₀ L h' own' → Q (.ret (.bool true)) { s with heap := h', toks := tk' }) :
    wpAny (model PySem.Challenge.rw_sx0031_01.row.prog w) ({ handled := none, depth := dp, frames := some (envOf (Str.ofString "law") (scopeOf lawSt default) L fa cd :: outer), guards := gd, units := un } : Around)
      (execs ((bodyOf lawSt).drop 3) (envOf (Str.ofString "law") (scopeOf lawSt default) L fa cd)) Q E s := by
  dsimp only [lawSt, bodyOf, scopeOf, PySem.Challenge.pw_sx0031_01, List.getLast?, List.getLast, Option.getD, List.drop] at hE ⊢
  w_top off; revert X; k_fill; intro X
  k_steps
  refine Stop.out ?_
  refine' assign_text_comp (T := T) (t := tt) ?k1 ?k2 ?k3 ?k4 ?k5 ?k6 ?k7 ?k8 ?k9 ?kF ?kN ?kT ?ki ?kt ?_ ?ks
  case k1 => with_unfolding_all rfl
  case k2 => with_unfolding_all rfl
  case k3 => decide
  case k4 => rfl
  case k5 => decide
  case k6 => rfl
  case k7 => rfl
  case k8 => rfl
  case k9 => rfl
  case kF => exact F
  case kN => exact N
  case kT => rw [sizeLine_eq]; omega
  case ki => k_steps
  case ks => intro _; rfl
  case kt =>
    intro c u I' oI' C' oC' D' m' ys' h' tk' E' hC' hx' F' N' off' ne'
    have hMark' : KPfMark := True.intro
    k_steps
  intro ys D h tk hI F' N' hO
  clear F N
  dsimp only [envOf] at F' N'
  k_steps
  refine Stop.out ?_
  (rename IsRange _ _ _ _ _ _ _ _ => iR)
  (rename Fr _ _ _ _ => lF); (rename News _ _ _ _ => lN)
  obtain ⟨dt, dw, edt, edw⟩ := told_wanted lF
  subst edt edw
  have hsz : Builtin.Range.rangeSize 0 ((T.length : Int) + 1) 1 = ((T.length + 1 : Nat) : Int) := by
    rw [rangeSize_nat]; omega
  refine' kd_range (σ := List Value × List Value × List PyData × Nat × Nat)
    (fun c => [(dt, listOf c.1.toArray c.2.2.2.1), (dw, listOf c.2.1.toArray c.2.2.2.2)]) [(D, LCg.lst ys)] (fun _ => [])
    (fun nx c => RowsIn nx c.1 c.2.2.1 ∧ RowsIn nx c.2.1 c.2.2.1) ["stream", "lexer", "far", "many", "paired"]
    (fun pre c => c.2.2.1.length ≤ 2 * pre.length) [dt, dw, D] ⟨[], [], [], 0, 0⟩ rfl iR ?hsm hsz lF lN ?hn (fun _ => rfl) ?hf ?hk ?hp ?turn ?done
  case hsm => exact small_one (by omega) (by omega) (by omega) (by omega)
  case hn =>
    intro p hp
    simp only [List.append_nil, List.cons_append, List.nil_append, List.mem_cons, List.not_mem_nil, or_false] at hp ⊢
    rcases hp with rfl | rfl | rfl <;> simp
  case hf => exact ⟨RowsIn.nil, RowsIn.nil⟩
  case hk => exact List.forall_mem_nil _
  case hp => exact Nat.le_refl _
  case done =>
    clear lF lN iR
    rintro ⟨us, ws, ds, n1, n2⟩ tl u h tk hO ⟨hf1, hf2⟩ hp F N
    dsimp only at hf1 hf2 hp
    dsimp only [kstB] at F
    dsimp only at N
    simp only [List.cons_append, List.nil_append] at N
    have r1 := hf1.mono (news' := (dt, listOf us.toArray n1) :: (dw, listOf ws.toArray n2) :: (D, LCg.lst ys) :: tl) fun p hp => .tail _ (.tail _ hp)
    have r2 := hf2.mono (news' := (dt, listOf us.toArray n1) :: (dw, listOf ws.toArray n2) :: (D, LCg.lst ys) :: tl) fun p hp => .tail _ (.tail _ hp)
    show wpAny _ _ _ _ _ _
    k_steps
    exact ret _ _ _ _ (by k_asm) (by k_asm)
  case turn =>
    clear lF lN iR
    rintro ⟨us, ws, ds, n1, n2⟩ tl pre k tk0 u h tk ow hk hlt hsep hoff ⟨hf1, hf2⟩ hp kF kN
    dsimp only at hf1 hf2 hp
    dsimp only [kstB] at kF
    dsimp only at kN
    simp only [List.cons_append, List.nil_append] at kN
    have hk0 : 0 ≤ k := by omega
    have hk1 : k ≤ (T.length : Int) := by omega
    have hus : us.length ≤ 300 := by have := hf1.length; omega
    have hws : ws.length ≤ 300 := by have := hf2.length; omega
    have hkk : ScopeKind.function = ScopeKind.function := rfl
    have hcl : (codes T).length ≤ 100 := by unfold codes; rw [List.length_map, Array.length_toList]; exact hT
    k_steps
    · exfalso
      have hq := @in_lt T k hk0 (by assumption)
      omega
    · (rename Fr _ _ _ _ => fE); (rename News _ _ _ _ => nE)
      rw [law_one hk0 hk1, skip_pair hk0 (by assumption) (by assumption), skip_index hk0 (by assumption)] at nE
      simp only [List.push_toArray, List.append_assoc, List.cons_append, List.nil_append] at nE
      refine' turn_end2 hsep fE nE ?mt ?mw ?mD ?mo ?m1 ?m3 ?m2 ?m4 ?l1 ?l3 ?l2 ?l4 ?e1 ?e3 ?e2 ?e4 ?hr hf1 hf2 hp
      case mt => k_mem
      case mw => k_mem
      case mD => k_mem
      case mo => intro p hp; (repeat (first | exact hp | refine List.Mem.tail _ ?_))
      case m1 => k_mem
      case m3 => k_mem
      case m2 => k_mem
      case m4 => k_mem
      case l1 => kst_allNe
      case e1 => refine ⟨?_, ?_, ?_⟩ <;> omega
      case l3 => kst_allNe
      case e3 => refine ⟨?_, ?_, ?_⟩ <;> omega
      case l2 => kst_allNe
      case e2 => refine ⟨?_, ?_, ?_⟩ <;> omega
      case l4 => kst_allNe
      case e4 => refine ⟨?_, ?_, ?_⟩ <;> omega
      case hr =>
        intro z z1 z3
        simp only [List.contains_cons, List.contains_nil, Bool.or_false, Bool.or_eq_false_iff, beq_eq_false_iff_ne, ne_eq] at z3
        obtain ⟨za, zb, zc, zd, ze⟩ := z3
        simp [z1, za, zb, zc, zd, ze]
    · (rename Fr _ _ _ _ => fE); (rename News _ _ _ _ => nE)
      rw [law_one hk0 hk1, skip_zero hk0 (by assumption) (by assumption) (by assumption), skip_index hk0 (by assumption)] at nE
      simp only [List.push_toArray, List.append_assoc, List.cons_append, List.nil_append] at nE
      refine' turn_end2 hsep fE nE ?mt ?mw ?mD ?mo ?m1 ?m3 ?m2 ?m4 ?l1 ?l3 ?l2 ?l4 ?e1 ?e3 ?e2 ?e4 ?hr hf1 hf2 hp
      case mt => k_mem
      case mw => k_mem
      case mD => k_mem
      case mo => intro p hp; (repeat (first | exact hp | refine List.Mem.tail _ ?_))
      case m1 => k_mem
      case m3 => k_mem
      case m2 => k_mem
      case m4 => k_mem
      case l1 => kst_allNe
      case e1 => refine ⟨?_, ?_, ?_⟩ <;> omega
      case l3 => kst_allNe
      case e3 => refine ⟨?_, ?_, ?_⟩ <;> omega
      case l2 => kst_allNe
      case e2 => refine ⟨?_, ?_, ?_⟩ <;> omega
      case l4 => kst_allNe
      case e4 => refine ⟨?_, ?_, ?_⟩ <;> omega
      case hr =>
        intro z z1 z3
        simp only [List.contains_cons, List.contains_nil, Bool.or_false, Bool.or_eq_false_iff, beq_eq_false_iff_ne, ne_eq] at z3
        obtain ⟨za, zb, zc, zd, ze⟩ := z3
        simp [z1, za, zb, zc, zd, ze]
    · (rename Fr _ _ _ _ => fE); (rename News _ _ _ _ => nE)
      rw [law_one hk0 hk1, skip_one hk0 (by assumption) (by assumption) (by assumption), skip_index hk0 (by assumption)] at nE
      simp only [List.push_toArray, List.append_assoc, List.cons_append, List.nil_append] at nE
      refine' turn_end2 hsep fE nE ?mt ?mw ?mD ?mo ?m1 ?m3 ?m2 ?m4 ?l1 ?l3 ?l2 ?l4 ?e1 ?e3 ?e2 ?e4 ?hr hf1 hf2 hp
      case mt => k_mem
      case mw => k_mem
      case mD => k_mem
      case mo => intro p hp; (repeat (first | exact hp | refine List.Mem.tail _ ?_))
      case m1 => k_mem
      case m3 => k_mem
      case m2 => k_mem
      case m4 => k_mem
      case l1 => kst_allNe
      case e1 => refine ⟨?_, ?_, ?_⟩ <;> omega
      case l3 => kst_allNe
      case e3 => refine ⟨?_, ?_, ?_⟩ <;> omega
      case l2 => kst_allNe
      case e2 => refine ⟨?_, ?_, ?_⟩ <;> omega
      case l4 => kst_allNe
      case e4 => refine ⟨?_, ?_, ?_⟩ <;> omega
      case hr =>
        intro z z1 z3
        simp only [List.contains_cons, List.contains_nil, Bool.or_false, Bool.or_eq_false_iff, beq_eq_false_iff_ne, ne_eq] at z3
        obtain ⟨za, zb, zc, zd, ze⟩ := z3
        simp [z1, za, zb, zc, zd, ze]
    · (rename Fr _ _ _ _ => fE); (rename News _ _ _ _ => nE)
      rw [law_one hk0 hk1] at nE
      simp only [List.push_toArray, List.append_assoc, List.cons_append, List.nil_append] at nE
      refine' turn_end1 hsep fE nE ?mt ?mw ?mD ?mo ?m1 ?m3 ?l1 ?l3 ?e1 ?e3 ?hr hf1 hf2 hp
      case mt => k_mem
      case mw => k_mem
      case mD => k_mem
      case mo => intro p hp; (repeat (first | exact hp | refine List.Mem.tail _ ?_))
      case m1 => k_mem
      case m3 => k_mem
      case l1 => kst_allNe
      case e1 => refine ⟨?_, ?_, ?_⟩ <;> omega
      case l3 => kst_allNe
      case e3 => refine ⟨?_, ?_, ?_⟩ <;> omega
      case hr =>
        intro z z1 z3
        simp only [List.contains_cons, List.contains_nil, Bool.or_false, Bool.or_eq_false_iff, beq_eq_false_iff_ne, ne_eq] at z3
        obtain ⟨za, zb, zc, zd, ze⟩ := z3
        simp [z1, za, zb, zc, zd, ze]
end Mine
end

-- W2
section
open PySem PySem.W PyProof.Rows
namespace Mine
structure Past : Prop where
  mark :: (one : True)
theorem getD_le {ws : List Str} (h : (ws.all fun x => decide (x.length ≤ 4)) = true) (i : Nat) : (ws.getD i Str.empty).length ≤ 4 := by
  rw [List.getD_eq_getElem?_getD]
  cases hi : ws[i]? with
  | none => exact Nat.zero_le _
  | some x => exact of_decide_eq_true (List.all_eq_true.mp h x (List.mem_of_getElem? hi))
theorem join_small {g : Int → Str} (hg : ∀ a, (g a).length ≤ 4) (l : List Int) : (Txt.join (Str.ofString "") (l.map g)).length ≤ 4 * l.length := by
  show (Builtin.Str.glued (Str.ofString "") (l.map g)).length ≤ _
  rw [StrLaws.glued_eq_join]
  cases l with
  | nil => exact Nat.zero_le _
  | cons a r =>
    have z : (Str.ofString "").length = 0 := by decide
    rw [List.map_cons, len_join_cons, z, Nat.mul_zero, Nat.add_zero]
    have key : ∀ q : List Int, ((q.map g).map (·.length)).sum ≤ 4 * q.length := by
      intro q
      induction q with
      | nil => exact Nat.zero_le _
      | cons b t ih =>
        have := hg b
        simp only [List.map_cons, List.sum_cons, List.length_cons]
        omega
    exact key (a :: r)
theorem drawn_facts {vs : List Value} {w : List Int} {n : Nat} (h : IntsAre vs (List.map (fun k' => Int.fmod k' 72) (List.take 8 w) ++ List.drop n [67, 3, 6, 2, 1, 4, 9, 1])) (hn : n ≤ (List.take 8 w).length) :
    ∃ zs, IntsAre vs zs ∧ 1 ≤ zs.length ∧ zs.length ≤ 16 ∧ 0 ≤ zs.getD (Int.toNat 0) 0 := by
  refine ⟨_, h, ?_, ?_, ?_⟩
  · simp only [List.length_append, List.length_map, List.length_drop, List.length_cons, List.length_nil]
    omega
  · simp only [List.length_append, List.length_map, List.length_drop, List.length_cons, List.length_nil, List.length_take]
    omega
  · rw [List.getD_eq_getElem?_getD]
    cases hi : (List.map (fun k' => Int.fmod k' 72) (List.take 8 w) ++ List.drop n [67, 3, 6, 2, 1, 4, 9, 1])[Int.toNat 0]? with
    | none => exact Int.le_refl 0
    | some x =>
      show 0 ≤ x
      rcases List.mem_append.mp (List.mem_of_getElem? hi) with hm | hm
      · obtain ⟨y, _, rfl⟩ := List.mem_map.mp hm
        exact Int.fmod_nonneg_of_pos _ (by decide)
      · have hm := List.mem_of_mem_drop hm
        simp only [List.mem_cons, List.not_mem_nil, or_false] at hm
        omega
theorem take16 {vs : List Value} {zs : List Int} {e : Nat} (h : IntsAre vs (List.take e zs)) (hz : zs.length ≤ 16) : (List.take e zs).length ≤ 16 := Nat.le_trans (List.length_take_le' ..) hz
local macro_rules | `(tactic| walk_at "subscriptTail") => `(tactic| (k_here; (with_reducible show wpAny _ _ (subscriptTail (PySem.Expr.Call _ _ _ _) (PySem.Expr.Slice (some _) none none _) (Value.ref _) (Value.ref _)) _ _ _); k_dflt (refine kba_turn (value' := PySem.Expr.Name (PySem.Str.ofString "_") ⟨0, 0, 0, 0⟩) (fun _ => rfl) ?_); k_dflt (refine' kmk_slice_ints ?F ?N ?l ?p ?q ?i ?m ?c ?_ ?s ?t ?z; (case F => k_asm); (case N => k_asm); (case l => kmk_list); (case p => kmk_part); (case q => kmk_part); (case i => l_ints); (case m => exact slice_ints_fromW (by l_ints) (by omega)); (case c => kmk_len); (case s => with_unfolding_all rfl); (case t => kmk_pure); (case z => kmk_size)); intro D' ws' h' F' N' l1 hI' hC' hL'; (try k_lt l1); (try k_sweep)))
local macro_rules | `(tactic| walk_at "CompSrc") => `(tactic| (k_here; (with_reducible show LCg.CompSrc _ _ _ _ _ _ _ (PySem.Expr.Subscript _ _ _) _ _ _ _ _ _); refine Stop.mk ?_))
local macro_rules | `(tactic| walk_at "execs cons") => `(tactic| (k_here; (with_reducible show wpAny _ _ (execs (PySem.Stmt.Assign [PySem.Expr.Name (Str.ofString "text") _] _ _ :: _) _) _ _ _); (fail_if_success (rename Past => hP9)); refine Stop.mk ?_))
local macro_rules | `(tactic| walk_at "execs cons") => `(tactic| (k_here; (with_reducible show wpAny _ _ (execs (PySem.Stmt.Assign [PySem.Expr.Name (Str.ofString "numbers") _] _ _ :: _) _) _ _ _); refine Stop.mk ?_))
local macro_rules | `(tactic| walk_at "call builtin:str.join") => `(tactic| (k_here; refine Stop.mk ?_))
set_option maxRecDepth 100000 in
set_option maxHeartbeats 8000000 in
theorem law_holds : PySem.Challenge.rw_sx0031_01.Holds := hd (by
  k_go0
  (all_goals try k_fold)
  k_steps
  refine Stop.out ?_
  (rename IntsAre _ _ => iS)
  obtain ⟨zs, iZ, hz1, hz2, hz3⟩ := drawn_facts iS (by simp only [List.length_map]; omega)
  clear iS
  have hPast : Past := Past.mark True.intro
  k_steps
  · exfalso
    (rename (_ < (0 : Int)) => hneg)
    have hq := Int.fdiv_nonneg hz3 (show (0 : Int) ≤ 12 by decide)
    omega
  refine Stop.out ?_
  (rename Fr _ _ _ _ => lF); (rename News _ _ _ _ => lN); (rename IntsAre _ (List.take _ zs) => iT)
  have hz := take16 iT hz2
  have hz4 := IntsAre.length iT
  refine LCg.CompSrc.ledger (by rfl) lF lN (by k_mem) (by rw [List.size_toArray, sizeLine_eq]; omega) ?_
  intro g'
  refine' kct_list (fun a => List.getD [Str.ofString "[", Str.ofString "]", Str.ofString "=", Str.ofString "a", Str.ofString "\n", Str.ofString "[[", Str.ofString "]]", Str.ofString "[=[", Str.ofString "]=]", Str.ofString "[==[", Str.ofString "]==]", Str.ofString "--"] (Int.toNat (Int.fmod a 12)) Str.empty) iT ?turn ?fin
  case turn =>
    intro k' t' I' oI' C' oC' D' m' ys' h' tk' E' hk' hC' hx' F' N' off' ne' mk'
    simp only [LCg.Off3, and_true] at off'
    k_steps
  case fin =>
    intro ys hC hLn D h tk F' N' o'
    k_steps
    refine Stop.out ?_
    refine KT.join_B 4 (News.isList N' (by k_mem)) hC (by intro ktA ktM; exact getD_le (by decide +kernel) _) (by omega) (by decide) ?_
    intro t9 k9
    k_steps
    refine Stop.out ?_
    (rename Fr _ _ _ _ => mF); (rename News _ _ _ _ => mN)
    refine' law_tail (outer := []) ?kB mF ?kX mN ?kT ?kz ?kd ?ku ?kE ?kret
    case kB => k_asm
    case kX => k_asm
    case kT => k_asm
    case kz => exact Nat.le_trans (join_small (fun a => getD_le (by decide +kernel) _) _) (by omega)
    case kd => decide
    case ku => exact Nat.le_of_ble_eq_true rfl
    case kE => passes_own
    case kret =>
      intro h' tk' m' own' F9 N9
      k_steps)
end Mine
end

theorem PySem.Challenge.cw_sx0031_01_holds : PySem.Challenge.rw_sx0031_01.Holds :=
  Mine.law_holds
