import PyProof.Rows.All
import Wide.All
import OpenK.AllK
import Wide.FinOn
import KE.BytesMake
import KE.KEqDat
import PySem.Builtin.Re_Pattern.W2All
import PySem.Challenge.RW_zo0007_01
set_option Elab.async false
set_option linter.all false
section
namespace Mine
/-- a table of two states and two signs, in part unknown: for each place (what is written, where to, what follows) -/
abbrev Tab := List (Option (Nat × Nat × Nat))
/-- the machine on numbers: what is left, the sign under the head, what is right, the state -/
structure NC where
  l : Nat
  h : Nat
  r : Nat
  s : Nat
noncomputable def nstep (e : Nat × Nat × Nat) (c : NC) : NC :=
  match e with
  | (m, w, f) => if w = 1 then ⟨2 * c.l + m, c.r % 2, c.r / 2, f⟩ else ⟨c.l / 2, c.l % 2, 2 * c.r + m, f⟩
noncomputable def choices : List (Nat × Nat × Nat) := [(0,0,0),(0,0,1),(0,0,2),(0,1,0),(0,1,1),(0,1,2),(1,0,0),(1,0,1),(1,0,2),(1,1,0),(1,1,1),(1,1,2)]
/-- no machine of the table ends behind step 6: n steps are still looked at, k are done -/
noncomputable def chk : Nat → Tab → NC → Nat → Bool
  | 0, _, c, k => c.s != 2 || Nat.ble k 6
  | n + 1, T, c, k =>
    if c.s == 2 then Nat.ble k 6 else
    match T.getD (2 * c.s + c.h) none with
    | some e => chk n T (nstep e c) (k + 1)
    | none => choices.all fun e => chk n (T.set (2 * c.s + c.h) (some e)) (nstep e c) (k + 1)
set_option maxRecDepth 100000 in
theorem bb2 : chk 16 [none, none, none, none] ⟨0, 0, 0, 0⟩ 0 = true := by decide +kernel
end Mine
end

section
open PySem PySem.W PyProof.Rows PySem.Calls
namespace Mine
/-- a host of signs: each its own label, the nearest first, «local» last -/
noncomputable def hostL : List Nat → List Nat
  | [] => [108, 111, 99, 97, 108]
  | c :: l => c :: 46 :: hostL l
noncomputable def host (l : List Nat) : Str := ⟨(hostL l).toArray⟩
noncomputable def Sgn (c : Nat) : Prop := c = 32 ∨ c = 34
theorem dotS : Str.ofString "." = ⟨#[46]⟩ := by decide +kernel
theorem localS : Str.ofString "local" = host [] := by decide +kernel
theorem emptyS : Str.ofString "" = ⟨#[]⟩ := by decide +kernel
theorem hostL_len : ∀ l, (hostL l).length = 2 * l.length + 5
  | [] => rfl
  | c :: l => by simp [hostL, hostL_len l]; omega
theorem host_len (l : List Nat) : (host l).length = 2 * l.length + 5 := by
  show (hostL l).toArray.size = _
  rw [List.size_toArray, hostL_len]
theorem cat_toArray (a b : List Nat) : (⟨a.toArray⟩ : Str) ++ ⟨b.toArray⟩ = ⟨(a ++ b).toArray⟩ := by
  show (⟨a.toArray ++ b.toArray⟩ : Str) = _
  simp
theorem host_cat (c : Nat) (l : List Nat) : (⟨#[c]⟩ : Str) ++ Str.ofString "." ++ host l = host (c :: l) := by
  rw [dotS]
  show (⟨[c].toArray⟩ : Str) ++ ⟨[46].toArray⟩ ++ ⟨(hostL l).toArray⟩ = _
  rw [cat_toArray, cat_toArray]
  rfl
theorem dot_host (l : List Nat) : Str.ofString "." ++ host l = ⟨(46 :: hostL l).toArray⟩ := by
  rw [dotS]
  show (⟨[46].toArray⟩ : Str) ++ ⟨(hostL l).toArray⟩ = _
  rw [cat_toArray]
  rfl
theorem at_iff (l : List Nat) (i : Nat) : StrLaws.At (⟨l.toArray⟩ : Str) ⟨#[46]⟩ (⟨l.toArray⟩ : Str).length i ↔ l[i]? = some 46 := by
  have := StrLaws.subAt_one ⟨l.toArray⟩ 46 i
  simpa [StrLaws.At] using this
theorem find_cons (c : Nat) (l : List Nat) (hc : c ≠ 46) : Txt.find (host (c :: l)) (Str.ofString ".") = 1 := by
  rw [dotS]
  rcases find_whole (host (c :: l)) ⟨#[46]⟩ with ⟨_, h⟩ | ⟨i, h0, h1, h2⟩
  · exact absurd ((at_iff (hostL (c :: l)) 1).mpr rfl) (h 1)
  · rw [h0]
    have e1 := (at_iff (hostL (c :: l)) i).mp h1
    have : i = 1 := by
      by_cases hi : 1 < i
      · exact absurd ((at_iff (hostL (c :: l)) 1).mpr rfl) (h2 1 hi)
      · have hi0 : i ≠ 0 := by
          rintro rfl
          have : c = 46 := by simpa [hostL] using e1
          exact hc this
        omega
    rw [this]; rfl
theorem find_nil : Txt.find (host []) (Str.ofString ".") < 0 := by decide +kernel
theorem slice_from (l : List Nat) (k : Nat) (h : k ≤ l.length) : Txt.slice (⟨l.toArray⟩ : Str) (some (k : Int)) none = ⟨(l.drop k).toArray⟩ := by
  rw [slice_from_eq (x := ⟨l.toArray⟩) (b := (l.length : Int)) (by omega) (by show (k : Int) ≤ (l.toArray.size : Int); simp; omega) (by show (l.length : Int) = (l.toArray.size : Int); simp)]
  have e1 : ((k : Int)).toNat = k := by omega
  have e2 : ((l.length : Int) - (k : Int)).toNat = l.length - k := by omega
  simp only [e1, e2]
  congr 2
  rw [List.take_of_length_le (by simp)]
theorem slice_to (l : List Nat) (k : Nat) (h : k ≤ l.length) : Txt.slice (⟨l.toArray⟩ : Str) none (some (k : Int)) = ⟨(l.take k).toArray⟩ := by
  rw [eq_of_beq (slice_closes_toL (x := ⟨l.toArray⟩) (j := (k : Int)) (by omega) (by show (k : Int) ≤ (l.toArray.size : Int); simp; omega))]
  have e2 : ((k : Int) - 0).toNat = k := by omega
  simp only [e2]
  rfl
theorem slice_two (c : Nat) (l : List Nat) : Txt.slice (host (c :: l)) (some (1 + 1)) none = host l := by
  have := slice_from (hostL (c :: l)) 2 (by rw [hostL_len]; simp)
  exact this
theorem slice_one (l : List Nat) : Txt.slice (Str.ofString "." ++ host l) (some 1) none = host l := by
  rw [dot_host]
  exact slice_from (46 :: hostL l) 1 (by simp)
theorem slice_head (c : Nat) (l : List Nat) : Txt.slice (host (c :: l)) none (some (((host (c :: l)).length : Int) - ((Str.ofString "." ++ host l).length : Int))) = ⟨#[c]⟩ := by
  have e : (((host (c :: l)).length : Int) - ((Str.ofString "." ++ host l).length : Int)) = ((1 : Nat) : Int) := by
    rw [Str.length_append, host_len, host_len, dotS]
    show ((2 * (l.length + 1) + 5 : Nat) : Int) - ((1 + (2 * l.length + 5) : Nat) : Int) = _
    omega
  rw [e]
  exact slice_to (hostL (c :: l)) 1 (by rw [hostL_len]; simp)
theorem hostL_last : ∀ l : List Nat, (hostL l)[(hostL l).length - 1]? = some 108
  | [] => rfl
  | c :: l => by
    have h := hostL_last l
    have hl := hostL_len l
    show (c :: 46 :: hostL l)[(hostL l).length + 1 + 1 - 1]? = some 108
    have e : (hostL l).length + 1 + 1 - 1 = ((hostL l).length - 1) + 1 + 1 := by omega
    rw [e, List.getElem?_cons_succ, List.getElem?_cons_succ]
    exact h
theorem item_first (c : Nat) (l : List Nat) : Txt.item (host (c :: l)) 0 = ⟨#[c]⟩ := by
  unfold Txt.item Txt.charAt
  have h0 : 0 < (host (c :: l)).length := by rw [host_len]; simp
  rw [show (0 : Int) = ((0 : Nat) : Int) from rfl, StrLaws.seqIndex_nonneg (by omega) (by omega)]
  simp [host, hostL]
theorem item_last (l : List Nat) : Txt.item (host l) (-1) = ⟨#[108]⟩ := by
  unfold Txt.item Txt.charAt
  have h0 : 0 < (host l).length := by rw [host_len]; omega
  have e : seqIndex? (-1) (host l).length = some ((host l).length - 1) := by
    unfold seqIndex?
    simp
    omega
  rw [e]
  have h := hostL_last l
  have : (host l).cps[(host l).length - 1]? = some 108 := by
    show (hostL l).toArray[(hostL l).toArray.size - 1]? = some 108
    simpa using h
  simp [this]
theorem dig_mem : ∀ (l : List Nat), (∀ c ∈ l, Sgn c) → ∀ c ∈ hostL l, Sre.isDigit c = false
  | [], _, c, h => by
    simp only [hostL, List.mem_cons, List.not_mem_nil, or_false] at h
    rcases h with rfl | rfl | rfl | rfl | rfl <;> decide
  | d :: l, hs, c, h => by
    simp only [hostL, List.mem_cons] at h
    rcases h with rfl | rfl | h
    · rcases hs c (.head _) with rfl | rfl <;> decide
    · decide
    · exact dig_mem l (fun c hc => hs c (.tail _ hc)) c h
theorem host_dig (l : List Nat) (hs : ∀ c ∈ l, Sgn c) (i : Nat) : Sre.isDigit ((host l).cps.getD i 0) = false := by
  show Sre.isDigit ((hostL l).toArray.getD i 0) = false
  by_cases hi : i < (hostL l).length
  · have : (hostL l).toArray.getD i 0 = (hostL l)[i] := by simp [hi]
    rw [this]
    exact dig_mem l hs _ (List.getElem_mem hi)
  · have : (hostL l).toArray.getD i 0 = 0 := by simp [Array.getD_eq_getD_getElem?, List.getElem?_eq_none (Nat.le_of_not_lt hi)]
    rw [this]; decide
theorem beq_ne {x y : Str} (h : x ≠ y) : (x == y) = false := beq_eq_false_iff_ne.mpr h
theorem one_ne {a b : Nat} (h : a ≠ b) : (⟨#[a]⟩ : Str) ≠ ⟨#[b]⟩ := fun e => h (by injection e with e; simpa using e)
theorem host_inj_ne (c : Nat) (l : List Nat) (hc : c ≠ 46) : (Str.ofString "." ++ host l == host (c :: l)) = false := by
  rw [dot_host]
  refine beq_ne fun e => ?_
  injection e with e
  have e2 : 46 :: hostL l = c :: 46 :: hostL l := by
    have := congrArg Array.toList e
    simpa [hostL] using this
  exact hc (by injection e2 with a b; exact a.symm)
theorem str_of_list {x : Str} {l : List Nat} (h : x.cps.toList = l) : x = ⟨l.toArray⟩ := by
  obtain ⟨⟨a⟩⟩ := x
  have e : a = l := h
  rw [e]
theorem parts_host : ∀ (l : List Nat), (∀ c ∈ l, c ≠ 46) → ∀ parts : List Str, parts ≠ [] → (∀ p ∈ parts, 46 ∉ p.cps.toList) → Str.join ⟨#[46]⟩ parts = host l → parts = l.map (fun c => (⟨#[c]⟩ : Str)) ++ [host []]
  | [], _, [], h, _, _ => absurd rfl h
  | [], _, [x], _, _, e => by rw [join_one] at e; rw [e]; rfl
  | [], _, x :: y :: r, _, _, e => by
    rw [join_cons_cons] at e
    have h : 46 ∈ (host []).cps.toList := by
      rw [← e]
      show 46 ∈ (x.cps ++ #[46] ++ (Str.join ⟨#[46]⟩ (y :: r)).cps).toList
      simp
    simp [host, hostL] at h
  | c :: l, _, [], h, _, _ => absurd rfl h
  | c :: l, _, [x], _, hf, e => by
    rw [join_one] at e
    have := hf x (.head _)
    rw [e] at this
    simp [host, hostL] at this
  | c :: l, hc, x :: y :: r, _, hf, e => by
    rw [join_cons_cons] at e
    have e1 : x.cps.toList ++ 46 :: (Str.join ⟨#[46]⟩ (y :: r)).cps.toList = c :: 46 :: hostL l := by
      have h : (x ++ (⟨#[46]⟩ : Str) ++ Str.join ⟨#[46]⟩ (y :: r)).cps.toList = (host (c :: l)).cps.toList := by rw [e]
      have h2 : (x ++ (⟨#[46]⟩ : Str) ++ Str.join ⟨#[46]⟩ (y :: r)).cps.toList = x.cps.toList ++ 46 :: (Str.join ⟨#[46]⟩ (y :: r)).cps.toList := by
        show (x.cps ++ #[46] ++ (Str.join ⟨#[46]⟩ (y :: r)).cps).toList = _
        simp
      rw [← h2, h]; rfl
    have hx := hf x (.head _)
    have hcc := hc c (.head _)
    have key : x.cps.toList = [c] ∧ (Str.join ⟨#[46]⟩ (y :: r)).cps.toList = hostL l := by
      generalize x.cps.toList = xl at e1 hx
      match xl, e1, hx with
      | [], e1, _ => exact absurd (by injection e1 with a b; exact a.symm) hcc
      | [a], e1, _ =>
        have e2 : a :: 46 :: (Str.join ⟨#[46]⟩ (y :: r)).cps.toList = c :: 46 :: hostL l := e1
        injection e2 with a1 a2
        injection a2 with a3 a4
        exact ⟨by rw [a1], a4⟩
      | a :: b :: t, e1, hx =>
        have e2 : a :: b :: (t ++ 46 :: (Str.join ⟨#[46]⟩ (y :: r)).cps.toList) = c :: 46 :: hostL l := e1
        injection e2 with a1 a2
        injection a2 with a3 a4
        exact absurd (by rw [a3]; simp) hx
    have hrest := parts_host l (fun d hd => hc d (.tail _ hd)) (y :: r) (by simp) (fun p hp => hf p (.tail _ hp)) (str_of_list key.2)
    rw [str_of_list key.1, hrest]
    rfl
theorem split_host (l : List Nat) (hs : ∀ c ∈ l, Sgn c) : Txt.split (host l) (Str.ofString ".") = l.map (fun c => (⟨#[c]⟩ : Str)) ++ [host []] := by
  rw [dotS]
  refine parts_host l (fun c hc e => ?_) _ (fun h => ?_) (StrLaws.split_free _ 46) (StrLaws.join_split _ _)
  · subst e; rcases hs _ hc with h | h <;> cases h
  · have := split_pos (host l) ⟨#[46]⟩
    rw [h] at this
    exact absurd this (by decide)
theorem signs_host (l : List Nat) (hs : ∀ c ∈ l, Sgn c) : Txt.join (Str.ofString "") (Txt.split (host l) (Str.ofString ".")).dropLast = ⟨l.toArray⟩ := by
  rw [split_host l hs, List.dropLast_concat, emptyS]
  unfold Txt.join
  rw [StrLaws.glued_eq_join]
  have e : l.map (fun c => (⟨#[c]⟩ : Str)) = signs ⟨l.toArray⟩ := by simp [signs]
  rw [e]
  exact join_nil_signs _
end Mine
end

section
open PySem PySem.W PyProof.Rows PySem.Calls
namespace Mine
open Sem (wp)

/-- the builtins that `exported` looks for on the stack -/
noncomputable def holder : Code → Bool
  | .builtin id _ => (["bytearray.__contains__", "bytearray.__mod__", "bytearray.__rmod__", "_struct.pack_into.held", "bytearray.find.held"] ++ Builtin.Bytes.decodersThatHold).contains id
  | _ => false

noncomputable def Safe (l : List (Code × Pos)) : Prop := ∀ x ∈ l, holder x.1 = false

/-- wpAny, but over those contexts alone whose stack is Safe -/
noncomputable def wpS {α : Type} (M : Model) (A : Around) (t : Sem α) (Q : α → Shared → Prop) (E : Value → Shared → Prop) (s : Shared) : Prop :=
  ∀ Γ p, Γ.In A → holder Γ.code = false → Safe Γ.below → wp M Γ t (fun a _ s' => Q a s') (fun e _ s' => E e s') p s

noncomputable def codeS (M : Model) (A : Around) (c : Code) (R : Result → Shared → Prop) (s : Shared) : Prop :=
  ∀ Γ p, Γ.code = c → Γ.Below A → Safe Γ.below → wpCode M Γ R p s

section
variable {α β : Type} {M : Model} {A : Around} {E : Value → Shared → Prop} {s : Shared}

theorem wpS_of {t : Sem α} {Q : α → Shared → Prop} (h : wpAny M A t Q E s) : wpS M A t Q E s := fun Γ p i _ _ => h Γ p i
theorem codeS_of {c : Code} {R : Result → Shared → Prop} (h : codeAny M A c R s) : codeS M A c R s := fun Γ p e b _ => h Γ p e b

theorem wpS_mono {t : Sem α} {Q Q' : α → Shared → Prop} {E' : Value → Shared → Prop} (h : wpS M A t Q E s) (hQ : ∀ a s, Q a s → Q' a s) (hE : ∀ e s, E e s → E' e s) : wpS M A t Q' E' s :=
  fun Γ p i c b => Sem.wp_mono M Γ t (fun a _ s => hQ a s) (fun e _ s => hE e s) p s (h Γ p i c b)

theorem wpS_bind {m : Sem α} {f : α → Sem β} {Q : β → Shared → Prop} (h : wpS M A m (fun a s' => wpS M A (f a) Q E s') E s) : wpS M A (m >>= f) Q E s :=
  fun Γ p i c b => by
    rw [Sem.wp_bind']
    exact Sem.wp_mono M Γ m (fun a p' s' h' => h' Γ p' i c b) (fun _ _ _ h' => h') p s (h Γ p i c b)

/-- the first part by the library's logic -/
theorem wpS_bindA {m : Sem α} {f : α → Sem β} {Q : β → Shared → Prop} (h : wpAny M A m (fun a s' => wpS M A (f a) Q E s') E s) : wpS M A (m >>= f) Q E s := wpS_bind (wpS_of h)

theorem wpS_pure {a : α} {Q : α → Shared → Prop} (h : Q a s) : wpS M A (pure a) Q E s := fun _ _ _ _ _ => h
theorem wpS_standAt {pos : Pos} {Q : Unit → Shared → Prop} (h : Q () s) : wpS M A (standAt pos) Q E s := fun _ _ _ _ _ => h
theorem wpS_holding {vs : List Value} {m : Sem α} {Q : α → Shared → Prop} (h : wpS M A m Q E s) : wpS M A (holding vs m) Q E s :=
  fun Γ p i c b => by rw [Sem.wp_holding]; exact h Γ p i c b
theorem wpS_keep {vs : List Value} {m : Sem α} {Q : α → Shared → Prop} (h : wpS M A m Q E s) : wpS M A (m.keep vs) Q E s :=
  fun Γ p i c b => by rw [Sem.wp_keep]; exact h Γ p i c b
theorem wpS_onRaise {m : Sem α} {k : Value → Sem Unit} {Q : α → Shared → Prop} (h : wpS M A m Q (fun e s' => wpAny M A (k e) (fun _ s'' => E e s'') (fun e' s'' => E e' s'') s') s)
    : wpS M A (m.onRaise k) Q E s := fun Γ p i c b => by
  rw [Sem.wp_onRaise]
  refine Sem.wp_mono M Γ m (fun _ _ _ x => x) (fun e p' s' x => ?_) p s (h Γ p i c b)
  exact x Γ p' i
theorem wpS_operate {vs : List Value} {m : Sem Value} {Q : Value → Shared → Prop} (h : wpS M A m Q E s) : wpS M A (operate vs m) Q E s :=
  fun Γ p i c b => by rw [Sem.wp_operate]; exact h Γ p i c b

theorem wpS_run {c : Code} {Q : Flow → Shared → Prop} (hc : codeS M A c (fun r s' => match r with | .ok f => Q f s' | .error e => E e s') s) : wpS M A (run c none) Q E s :=
  fun Γ p i c' b => by
    rw [Sem.wp_run]
    refine hc _ p rfl ((i.enter c none p (by intro x; cases x))) ?_
    intro x hx
    rcases List.mem_cons.mp hx with rfl | hx
    · exact c'
    · exact b x hx
theorem wpS_runValue {c : Code} {Q : Value → Shared → Prop} (hc : codeS M A c (fun r s' => match r with | .ok (.ret v) => Q v s' | .ok _ => False | .error e => E e s') s) : wpS M A (runValue c) Q E s :=
  fun Γ p i c' b => by
    rw [Sem.wp_runValue]
    refine hc _ p rfl ((i.enter c none p (by intro x; cases x))) ?_
    intro x hx
    rcases List.mem_cons.mp hx with rfl | hx
    · exact c'
    · exact b x hx
theorem wpS_call {f : Value} {pos : List Value} {kw : List (Str × Value)} {Q : Value → Shared → Prop}
    (hc : codeS M A (.call f ⟨pos, kw⟩) (fun r s' => match r with | .ok (.ret v) => Q v s' | .ok _ => False | .error e => E e s') s) : wpS M A (call f pos kw) Q E s := wpS_runValue hc

theorem codeS_of_tree {c : Code} {R : Result → Shared → Prop} (hh : holder c = false)
    (h : wpS M (A.under c) (M.den c) (fun fin s' => match fin with | .done f => R (.ok f) s' | .again c' => c'.quiet = true ∧ codeS M A c' R s') (fun e s' => R (.error e) s') s) : codeS M A c R s :=
  fun Γ p hc hΓ b => by
    rw [wpCode_iff_wp, hc]
    refine Sem.wp_mono M Γ _ (fun fin p' s' h' => ?_) (fun _ _ _ h' => h') p s (h Γ p (hc ▸ hΓ.in) (hc ▸ hh) b)
    cases fin with
    | done f => exact h'
    | again c' => exact ⟨h'.1, h'.2 (Γ.goto c') p' rfl (hΓ.goto c') b⟩

theorem codeS_loop {c : Code} {R : Result → Shared → Prop} (hh : holder c = false) (hq : c.quiet = true) (I : Nat → Shared → Prop)
    (turn : ∀ n s, I n s → wpS M (A.under c) (M.den c) (fun fin s' => match fin with | .done f => R (.ok f) s' | .again c' => c' = c ∧ ∃ m, m < n ∧ I m s') (fun e s' => R (.error e) s') s)
    (n : Nat) (h : I n s) : codeS M A c R s := by
  induction n using Nat.strongRecOn generalizing s with
  | ind n ih =>
    refine codeS_of_tree hh (wpS_mono (turn n s h) (fun fin s' hf => ?_) fun _ _ h' => h')
    cases fin with
    | done f => exact hf
    | again c' => obtain ⟨rfl, m, hm, hI⟩ := hf; exact ⟨hq, ih m hm hI⟩
end

section
variable {prog : Program} {w : World} {A : Around} {E : Value → Shared → Prop} {s : Shared} {R : Result → Shared → Prop}

theorem codeS_func {body : List Stmt} {env : Env}
    (h : wpS (model prog w) (A.deeper env) (execs body env) (fun f s' => R (.ok (.ret (match f with | .ret v => v | _ => .none))) s')
      (fun e s' => wpAny (model prog w) (A.deeper env) (leaving env e) (fun _ s'' => R (.error e) s'') (fun e' s'' => R (.error e') s'') s') s) : codeS (model prog w) A (.func body env) R s := by
  refine codeS_of_tree rfl ?_
  show wpS _ (A.deeper env) (do point; match ← (execs body env).onRaise (leaving env) with | .ret v => ret v | _ => ret .none) _ _ s
  refine wpS_bindA (wpAny_point (wpS_bind (wpS_onRaise (wpS_mono h (fun f s' h' => ?_) fun _ _ x => x))))
  cases f <;> exact wpS_pure h'

theorem codeS_call_function {a : Addr} {args : Args} {o : Obj} {fd : FuncData} {body : List Stmt} (hroom : A.depth < recursionLimit) (ho : s.heap.get? a = some o)
    (hd' : o.data = .func fd) (hco : fd.scope.isCoroutine = false) (hgen : fd.scope.isGenerator = false) (hbody : fd.body = .stmts body) (hcd : s.heap.CodeRec fd.code fd.qualname)
    (h : wpAny (model prog w) A.in1 (bindArgs fd args) (fun binds s₁ =>
      wpAny (model prog w) A.in1 (newFunctionEnv fd.scope fd.globals fd.closure binds (fd.qualname ++ ".<locals>.") (some a) fd.code none fd.builtins)
        (fun env s₂ => s₂.heap.NoLimit ∧ codeS (model prog w) A (.func body env) R s₂) (fun e s' => R (.error e) s') s₁) (fun e s' => R (.error e) s') s) :
    codeS (model prog w) A (.call (.ref a) args) R s := by
  refine codeS_of_tree rfl (wpS_of ?_)
  show wpAny _ A.in1 (callAny (.ref a) args) _ _ s
  simp only [callAny]
  refine wpAny_bind (wpAny_load ho ?_)
  obtain ⟨c, oc, vs, tq, hc, hoc, hdc, hq⟩ := hcd
  simp only [hd', callFunction, hco, hgen, hbody, hc]
  rw [hc] at h
  refine wpAny_bind (m := field (.ref c) 1) (wpAny_field hoc hdc hq (wpAny_bind (wpAny_pure ?_)))
  refine wpAny_bind (wpAny_mono h (fun binds s₁ h₁ => ?_) fun _ _ x => x)
  refine wpAny_bind (wpAny_mono h₁ (fun env s₂ h₂ => ?_) fun _ _ x => x)
  exact wpAny_bind (wpAny_enterFrame h₂.1 hroom (wpAny_pure ⟨rfl, h₂.2⟩))
end

section
variable {M : Model} {A : Around} {E : Value → Shared → Prop} {s : Shared} {env : Env}
theorem S_cons {st : Stmt} {rest : List Stmt} {Q : Flow → Shared → Prop}
    (h : wpS M A (exec st env) (fun f s' => match f with | .next => wpS M A (execs rest env) Q E s' | f => Q f s') E s) : wpS M A (execs (st :: rest) env) Q E s := by
  rw [execs_cons]
  refine wpS_bind (wpS_mono h (fun f s' h' => ?_) fun _ _ x => x)
  cases f <;> first | exact h' | exact wpS_pure h'
theorem S_consA {st : Stmt} {rest : List Stmt} {Q : Flow → Shared → Prop}
    (h : wpAny M A (exec st env) (fun f s' => match f with | .next => wpS M A (execs rest env) Q E s' | f => Q f s') E s) : wpS M A (execs (st :: rest) env) Q E s := S_cons (wpS_of h)
theorem S_nil {Q : Flow → Shared → Prop} (h : Q .next s) : wpS M A (execs [] env) Q E s := wpS_of (wpAny_execs_nil h)

theorem S_Assign {x : Str} {pos' : Pos} {value : Expr} {pos : Pos} {Q : Flow → Shared → Prop}
    (h : wpS M A (eval value env) (fun v s₁ => wpAny M A (storeName env x v) (fun _ => Q .next) E s₁) E s)
    (hs : swapsWith value (some (.Name x pos')) pos.line env = pure false := by rfl) : wpS M A (exec (.Assign [.Name x pos'] value pos) env) Q E s := by
  rw [exec_Assign_Name env x pos' value pos hs]
  refine wpS_bind (wpS_standAt (wpS_bind (wpS_mono h (fun v s₁ h₁ => ?_) fun _ _ x => x)))
  exact wpS_of (wpAny_bind (wpAny_standAt (wpAny_bind (wpAny_bindName (wpAny_mono h₁ (fun _ _ q => wpAny_pure q) fun _ _ x => x)))))

theorem S_Return {e : Expr} {pos : Pos} {Q : Flow → Shared → Prop} (h : wpS M A (eval e env) (fun v => Q (.ret v)) E s) : wpS M A (exec (.Return (some e) pos) env) Q E s := by
  rw [exec_Return_some]
  exact wpS_bind (wpS_standAt (wpS_bind (wpS_mono h (fun v s₁ q => wpS_pure q) fun _ _ x => x)))

theorem S_BinOp {l r : Expr} {op : Operator} {pos : Pos} {Q : Value → Shared → Prop}
    (h : wpS M A (eval l env) (fun a s₁ => wpAny M A (eval r env) (fun b s₂ => wpAny M A (binaryOp op a b) Q E s₂) E s₁) E s) : wpS M A (eval (.BinOp l op r pos) env) Q E s := by
  rw [eval_BinOp]
  refine wpS_bind (wpS_mono h (fun a s₁ h₁ => ?_) fun _ _ x => x)
  refine wpS_of (wpAny_bind (wpAny_holding (wpAny_mono h₁ (fun b s₂ h₂ => ?_) fun _ _ x => x)))
  refine wpAny_bind (wpAny_standAt ?_)
  exact fun Γ p i => by rw [Sem.wp_operate]; exact h₂ Γ p i

theorem S_Compare1 {l r : Expr} {op : CmpOp} {pos : Pos} {Q : Value → Shared → Prop}
    (h : wpS M A (eval l env) (fun a s₁ => wpAny M A (eval r env) (fun b s₂ => wpAny M A (compareOp op a b) Q E s₂) E s₁) E s)
    (hm : behindInMarks op r = false := by with_unfolding_all rfl) : wpS M A (eval (.Compare l [op] [r] pos) env) Q E s := by
  rw [eval_Compare1, markedBehindIn_of_false hm]
  refine wpS_bind (wpS_mono h (fun a s₁ h₁ => ?_) fun _ _ x => x)
  refine wpS_of (wpAny_bind (wpAny_holding (wpAny_mono h₁ (fun b s₂ h₂ => ?_) fun _ _ x => x)))
  refine wpAny_bind (wpAny_standAt ?_)
  exact fun Γ p i => by rw [Sem.wp_operate]; exact h₂ Γ p i

/-- a call: the arguments by the library's logic, the call itself over the Safe contexts -/
theorem S_callWith {P : Heap → Prop} {f : Value} {first : List Value} {args : List (Bool × Sem Value)} {pos : Pos} {Q : Value → Shared → Prop} (hplain : args.any (·.1) = false)
    (hk : ∀ h, P h → ∃ k, (k = Keeper.frame ∨ k = Keeper.machine ∨ k = Keeper.boundFrame) ∧ Looks M h (keeperOf f) k)
    (h : wpS M A (evalArgs f true args []) (fun a s₁ => P s₁.heap ∧ wpS M A (call f (first ++ a.pos) a.kw) Q E s₁) E s) : wpS M A (callWith pos f first args []) Q E s := by
  unfold callWith
  refine wpS_bind (wpS_holding (wpS_mono h (fun a s₁ h₁ => ?_) fun _ _ x => x))
  refine wpS_bind (wpS_standAt ?_)
  obtain ⟨k, hk', L⟩ := hk _ h₁.1
  simp only [hplain, List.any_nil, Bool.or_false]
  refine wpS_bindA (L.here ?_)
  have tail : ∀ {t : Sem Value}, wpS M A t Q E s₁ → wpS M A (t >>= fun r => holding [r] point >>= fun _ => pure r) Q E s₁ := fun ht =>
    wpS_bind (wpS_mono ht (fun r s₂ hr => wpS_of (wpAny_bind (wpAny_holding (wpAny_point (wpAny_pure hr))))) fun _ _ x => x)
  have marked (mk : Value) : wpS M A (callMarked mk f (first ++ a.pos) a.kw) Q E s₁ := by unfold callMarked; exact wpS_keep h₁.2
  rcases hk' with rfl | rfl | rfl <;> dsimp only <;> first | exact tail h₁.2 | (split <;> first | exact tail h₁.2 | exact tail (marked _))
end

end Mine
end

section
open PySem PySem.W PyProof.Rows PySem.Calls
namespace Mine
open Sem (wp)

theorem safe_nil : Safe [] := fun _ h => nomatch h

/-- the caller's thread, told over the Safe contexts: its own stack is empty -/
theorem thread_endsS {prog : Program} {w : World} {t : Sem Fin} {s : Shared} {R : Result → Shared → Prop} (hreg : s.asleep)
    (h : wpS (model prog w) callerA t (fun fin s' => ∃ f, fin = .done f ∧ R (.ok f) s' ∧ leftWithCleanup s'.gens = false) (fun e s' => R (.error e) s' ∧ leftWithCleanup s'.gens = false) s) :
    ∃ n r s' s'', schedN (denote table) prog w n (.single s ⟨t, .builtin "claim.caller" {}, default, []⟩) = .halted (outcomeOf r) s' ∧
      runN (denote table) prog w n s ⟨t, .builtin "claim.caller" {}, default, []⟩ = .halted (outcomeOf r) s' ∧ s'.forget = s''.forget ∧ R r s'' := by
  have h0 := h ⟨.builtin "claim.caller" {}, none, none, [], none⟩ default caller_in (by show List.contains _ _ = false; decide +kernel) safe_nil
  obtain ⟨n, r, sa, sb, h1, h2, h3, h4⟩ := wp_halts_full (M := model prog w) (R := R) hreg (Sem.wp_mono _ _ t (fun fin p' s' ⟨f, e, q⟩ => by subst e; exact q) (fun _ _ _ q => q) default s h0)
  exact ⟨n, r, sb, sa, h1, h2, h3, h4⟩

/-- the caller's walk over the Safe contexts -/
noncomputable def WalkS (q : Program) (loose : List Str) (XP : (Str → Option Value) → Heap → Prop) (YP : World → Heap → Prop) (r : RowW) (d : DefRec) (kwd : List (Str × Expr)) : Prop :=
  ∀ (w : World) (s₀ s₁ : Shared) (mg mb : Str → Option Value), Ground q loose r.records XP w s₀ mg mb s₁.heap → YP w s₁.heap → ∀ (a : Addr) (o : Obj) (pm cd doc dV kV : Value), s₁.heap.get? a = some o →
    o.data = .func { docDef d.name d.params d.body d.scope pm cd doc with defaults := dV, kwdefaults := kV } → s₁.heap.CodeRec cd d.name → Dflts mg s₁.heap d.params kwd dV kV → mg d.name = some (.ref a) → s₁.gens = #[] →
    ∀ (args : List WData) (vals : List Value) (as : List Addr), r.claim.pre args = true → WData.layableAll args = true → ReadsAllW r.records (classAt s₀.heap) s₁.heap vals args as → WellAll w.params s₁.heap vals args → (∀ a ∈ as, (a == sysModules) = false) →
      wpS (model r.prog w) callerA (PySem.call (.ref a) vals) (fun v s' => GoodWG r.claim (classAt s₀.heap) (ExcName.means s₀.heap) args s₁ (.ok (.ret v)) s')
        (fun e s' => GoodWG r.claim (classAt s₀.heap) (ExcName.means s₀.heap) args s₁ (.error e) s') s₁

set_option maxRecDepth 100000 in
theorem holdsS {r : OpenRow} {q : Program} {loose : List Str} {Xt : Shared → Bool} {XP : (Str → Option Value) → Heap → Prop} {α : Type} {Yf : Shared → α} {Ya : World → α} {YP : World → Heap → Prop} {d : DefRec} {kwd : List (Str × Expr)} {N : Nat}
    (left : LeftO r.prog q loose Xt Yf Ya N) (walk : WalkS q loose XP YP r.toRowW d kwd) (said : r.wellSaid = true) (hY : ∀ w s, Yf s = Ya w → YP w s.heap) (hYk : ∀ w h h', YP w h → (∀ b o, h.get? b = some o → h'.get? b = some o) → YP w h')
    (hX : ∀ s, Xt s = true → XP (s.heap.nsMap mainGlobals) s.heap) (hXk : ∀ mg h h', XP mg h → (∀ b o, h.get? b = some o → h'.get? b = some o) → XP mg h')
    (hdef : defOf q r.name = some (d, kwd)) (hp : r.prog.theDef r.name = some (d.params, d.body, d.scope)) (hkw : kwWritten? d.params.kwonlyargs d.params.kw_defaults = some kwd) (hR : ∀ s, Xt s = true → RecFacts r.records s.heap) (hwr : (!r.writes || r.records.isEmpty) = true)
    (hch : chainsOk q = true) (how : opensWell r.prog = true) (hfr : frees r.toRowW = true) (hin : r.within.isEmpty = true) (hb : r.prog.bare) (hw : r.toRowW.promised) : r.Holds := by
  obtain ⟨hsame, hu, ha, hap, hm⟩ := frees_parts hfr
  have hwi : r.toRowW.claim.within = [] := List.isEmpty_iff.mp hin
  refine ⟨said, hw, ⟨hb, how, by show r.makers.map _ = []; rw [hm]; rfl⟩, hw.witness, fun w => ?_⟩
  have bh := left.behind (XP := fun mg h => XP mg h ∧ RecFacts r.records h) (fun s hs => ⟨hX s hs, hR s hs⟩) hch w
  refine ⟨bh.1, fun s' hs' => ?_⟩
  obtain ⟨s₀, hf, hg0, s, hT, hz, hgens, hg, GG, y⟩ := bh.2 s' hs'
  have G0 : Ground q loose [] XP w s (s.heap.nsMap mainGlobals) (s.heap.nsMap builtinsNs) s.heap := { GG with X := GG.X.1 }
  have RF := GG.X.2
  refine ⟨s₀, hf, hg0, s, hT, fun n hn => ?_, RF.1, RF.2.1, fun args hpre hlay ord hord => ?_⟩
  · obtain rfl : n = r.name := by split at hn <;> simp_all
    exact pinned_of_view hg G0 hdef hp hkw
  · have hgens : s.gens = #[] := Array.eq_empty_of_size_eq_zero (beq_iff_eq.mp hgens)
    have G1 : Ground q loose r.records XP w s _ _ s.heap := RF.ground G0
    obtain ⟨⟨vs, s₁⟩, hlaid⟩ := Option.isSome_iff_exists.mp (layAllW_isSome (P := w.params) (ord := ord) G1.has args r.args s (pre_splitW hpre).1)
    have keeps := layAllW_keeps _ _ _ hlaid
    have hal := layAllW_rest _ _ _ hlaid
    obtain ⟨as, hrd, has, hold⟩ := reads_layAllW hord _ _ _ hlaid hlay s₁.heap (fun _ _ e => e)
    have L : Laid r.records w s s₁ args vs as := ⟨⟨ord, hord, hlaid⟩, hrd, has, hold, keeps, hal.1.trans hgens, hal.2.2.1⟩
    have G := G1.keeps hXk keeps
    obtain ⟨a, o, pm, cd, doc, dV, kV, h1, h2, h3, h4, h5⟩ := G.fn hdef
    have hwalk := walk w s s₁ _ _ G (hYk _ _ _ (hY w s y) keeps) a o pm cd doc dV kV h2 h3 h4 h5 (defOf_name hdef ▸ h1) L.gens args vs as hpre hlay L.reads L.well (L.low G1.low)
    let K : Heap → Prop := fun h' => r.writes = true → namesKept r.prog r.keeps s.heap h' ∧ ∀ x ∈ r.records, ∀ a, classAt s.heap x.1 = some a → recordClass h' a x.1 (x.2.map (·.1)) = true
    have ends : ∀ res t, GoodWG r.toRowW.claim (classAt s.heap) (ExcName.means s.heap) args s₁ res t → (r.toRowW.claim.Ends s args vs s₁ res t ∧ t.os = s.os ∧ K t.heap) ∧ leftWithCleanup t.gens = false := fun res t g =>
      have z := g.laid (c := r.toRowW.claim) hsame hwi (ident_freeW hu ha hap) L
      ⟨⟨z.1, z.2.1, fun qq => ⟨namesKept_of hT hg _ keeps g.2.1.old, noTable hwr qq⟩⟩, leftWithCleanup_false_of_bare z.2.2⟩
    obtain ⟨k, res, u, u', hsched, hrun, hfo, hcase, hos, hkp⟩ := thread_endsS (prog := r.prog) (w := w) (s := s₁) (R := fun res t => r.toRowW.claim.Ends s args vs s₁ res t ∧ t.os = s.os ∧ K t.heap)
      (t := do match ← nsGet mainNs r.name with
        | some f => do ret (← PySem.call f vs)
        | none => unsupported "claim.caller:no-such-global") (Shared.asleep_of_life hal.2.2.2 hz)
      (wpS_bindA (wpAny_nsGet G.T.g (by
        rw [h1]
        exact wpS_bind (wpS_mono hwalk (fun v t g => wpS_pure ⟨_, rfl, (ends _ _ g).1, (ends _ _ g).2⟩) fun e t g => ends _ _ g))))
    obtain ⟨eh, _, _, eo, _⟩ := Shared.forget_eq hfo
    have hcase := hcase.congr eh
    have hlife : u.heap.life = s.heap.life := (runN_life _ _ _ hrun).trans hal.2.2.2
    refine ⟨vs, s₁, hlaid, k, _, u, hsched, ?_, (fun _ i x hx => by rw [hgens] at hx; simp at hx), ?_, by rw [hlife], Shared.rest_eq (eo.trans hos)⟩
    · rcases hcase with ⟨v, rfl, d1, d2, d3, d4, d5⟩ | ⟨e, ob, cls, rfl, d1, d2, d3, d4, d5⟩
      · exact .inl ⟨v, rfl, d1, d2, d3, fun b o y _ => d4 b o y, d5⟩
      · exact .inr ⟨e, ob, cls, rfl, d1, d2, d3, d4, fun b o y _ => d5 b o y⟩
    · show K u.heap
      rw [eh]; exact hkp

section
variable {prog : Program} {w : World} {A : Around} {R : Result → Shared → Prop} {s : Shared} {name : Str} {params : Arguments} {body : List Stmt} {scope : Scope} {pm cd doc : Value} {a : Addr} {o : Obj} {args : List Value} {binds : List (Str × Value)}
/-- a def with cells is entered, its body over the Safe contexts -/
theorem codeS_cells (hroom : A.depth < recursionLimit) (ho : s.heap.get? a = some o) (hdata : o.data = .func (docDef name params body scope pm cd doc)) (hlim : s.heap.NoLimit) (hcd : s.heap.CodeRec cd name)
    (hbind : bindArgs (docDef name params body scope pm cd doc) ⟨args, []⟩ = pure binds)
    (hkind : ∀ x ∈ binds, scope.names.lookup x.1 = some .local ∨ (scope.names.lookup x.1 = some .cell ∧ ((cellsFrom (s.heap.objs.size + 1) scope.names []).lookup x.1).isSome = true))
    (hnd : ((cellsFrom 0 scope.names []).map (·.1)).Nodup) (hco : scope.isCoroutine = false) (hgen : scope.isGenerator = false) (hk : scope.kind = .function)
    (h : ∀ h₁ tk cells, Fr s.heap s.heap.objs.size h₁ (bindL (envOfC name scope s.heap.objs.size a cd).kindOf binds fun _ => none) → News s.heap s.heap.objs.size h₁ cells →
      CellsAre (bindC (envOfC name scope s.heap.objs.size a cd).kindOf binds fun _ => none) (cellsFrom (s.heap.objs.size + 1) scope.names []) cells →
      wpS (model prog w) (A.deeper (envOfC name scope s.heap.objs.size a cd)) (execs body (envOfC name scope s.heap.objs.size a cd)) (fun f t => R (.ok (.ret (match f with | .ret v => v | _ => .none))) t)
        (fun e t => wpAny (model prog w) (A.deeper (envOfC name scope s.heap.objs.size a cd)) (leaving (envOfC name scope s.heap.objs.size a cd) e) (fun _ t' => R (.error e) t') (fun e' t' => R (.error e') t') t)
        { s with heap := h₁, toks := tk }) : codeS (model prog w) A (.call (.ref a) ⟨args, []⟩) R s := by
  refine codeS_call_function (fd := docDef name params body scope pm cd doc) (body := body) hroom ho hdata hco hgen rfl hcd (wpAny_of_eq hbind (wpAny_newFunctionEnv_cells hk hkind fun env' he t X => ?_))
  subst he
  obtain ⟨h₁, tk, rfl, _⟩ := X.done
  obtain ⟨cells, NC, Y⟩ := Cl.news (h₀ := s.heap) (Nat.le_refl _) fun n c hm => ⟨X.cell n c (lookup_of_mem_nodup (cellsFrom_names scope.names 0 (s.heap.objs.size + 1) [] [] rfl ▸ hnd) hm), X.above n c hm⟩
  exact ⟨hlim.keeps X.toInCall.keep, codeS_func (h h₁ tk cells ⟨X.toInCall.ns, X.toInCall.keep, X.toInCall.fresh⟩ NC Y)⟩
end
theorem codeS_mono {M : Model} {A : Around} {c : Code} {R R' : Result → Shared → Prop} {s : Shared} (h : codeS M A c R s) (hR : ∀ r s, R r s → R' r s) : codeS M A c R' s := fun Γ p e b sf => wpCode_mono hR (h Γ p e b sf)
theorem enter_callS {M : Model} {A : Around} {s : Shared} {f : Value} {pos : List Value} {kw : List (Str × Value)} {c : ClaimW} {cl : Str → Option Addr} {mean : ExcName → Option Value} {args : List WData} {s₁ : Shared}
    (h : codeS M A (.call f ⟨pos, kw⟩) (GoodWG c cl mean args s₁) s) : wpS M A (PySem.call f pos kw) (fun v t => GoodWG c cl mean args s₁ (.ok (.ret v)) t) (fun e t => GoodWG c cl mean args s₁ (.error e) t) s :=
  wpS_call (codeS_mono h fun res t g => by rcases g.1 with ⟨v, _, _, rfl, _⟩ | ⟨e, _, _, rfl, _⟩ <;> exact g)
end Mine
end

section
open PySem PySem.W PyProof.Rows
namespace Mine
/-- the head that o_head names, told over the Safe contexts -/
theorem PySem.W.holds_open {r : OpenRow} {q : Program} {loose : List Str} {Xt : Shared → Bool} {XP : (Str → Option Value) → Heap → Prop} {α : Type} {Yf : Shared → α} {Ya : World → α} {YP : World → Heap → Prop} {d : DefRec} {kwd : List (Str × Expr)} {N : Nat}
    (left : LeftO r.prog q loose Xt Yf Ya N) (hY : ∀ w s, Yf s = Ya w → YP w s.heap) (hYk : ∀ w h h', YP w h → (∀ b o, h.get? b = some o → h'.get? b = some o) → YP w h')
    (hX : ∀ s, Xt s = true → XP (s.heap.nsMap mainGlobals) s.heap) (hXk : ∀ mg h h', XP mg h → (∀ b o, h.get? b = some o → h'.get? b = some o) → XP mg h')
    (hdef : defOf q r.name = some (d, kwd)) (hp : r.prog.theDef r.name = some (d.params, d.body, d.scope)) (hk : kwWritten? d.params.kwonlyargs d.params.kw_defaults = some kwd) (hRf : ∀ s, Xt s = true → RecFacts r.records s.heap) (hwr : (!r.writes || r.records.isEmpty) = true)
    (k1 : r.wellSaid = true) (ok : (chainsOk q && opensWell r.prog && (frees r.toRowW && r.within.isEmpty)) = true) (hb : r.prog.bare) (hw : r.toRowW.promised)
    (call : WalkS q loose XP YP r.toRowW d kwd) : r.Holds := by
  simp only [Bool.and_eq_true] at ok
  exact holdsS left call k1 hY hYk hX hXk hdef hp hk hRf hwr ok.1.1 ok.1.2 ok.2.1 ok.2.2 hb hw
set_option maxRecDepth 100000 in
set_option maxHeartbeats 8000000 in
open_top hd for PySem.Challenge.rw_zo0007_01
end Mine
end

section
open PySem PySem.W PyProof.Rows PySem.Calls
namespace Mine

/-- a call of the def at f with the values vs over the ledger news, k frames deep at most, hands back r with Out over what it made -/
noncomputable def Con (prog : Program) (w : World) (K : Frag) (p : Program) (loose : List Str) (mean : ExcName → Option Value) (mg mb : Str → Option Value) (f : Addr) (k : Nat) (news : List (Addr × Obj)) (vs : List Value) (Out : List (Addr × Obj) → Value → Prop) : Prop :=
  ∀ (dp un : Nat) (gd : Option (List Code)) (cn : Str) (cs : Scope) (a : Addr) (ccd : Value) (cl : List (Str × Addr)) (outer : List Env) (A₀ : Around) (base h₀ : Heap) (L : Addr) (m : Str → Option Value) (s : Shared) (Q E : Value → Shared → Prop),
    Below A₀ base outer h₀ → Fr h₀ L s.heap m → K.In h₀ → News h₀ L s.heap news → Top p loose mean mg mb h₀ → cs.kind = .function → dp + k < recursionLimit → un + 8 * k < cLine →
    (∀ r tl h' tk', Fr h₀ L h' m → News h₀ L h' (news ++ tl) → (∀ q ∈ news, ∀ p ∈ tl, q.1 < p.1) → Out tl r → Q r { s with heap := h', toks := tk' }) →
    wpAny (model prog w) (ktrTop dp un gd cn cs L a ccd cl outer) (call (.ref f) vs) Q E s

theorem con_ret0 {h₀ h' : Heap} {L : Addr} {m : Str → Option Value} {news : List (Addr × Obj)} {s : Shared} {Q : Value → Shared → Prop} {Out : List (Addr × Obj) → Value → Prop} {tk' : Nat} {r : Value}
    (hret : ∀ r tl h' tk', Fr h₀ L h' m → News h₀ L h' (news ++ tl) → (∀ q ∈ news, ∀ p ∈ tl, q.1 < p.1) → Out tl r → Q r { s with heap := h', toks := tk' })
    (F : Fr h₀ L h' m) (N : News h₀ L h' news) (o : Out [] r) : Q r { s with heap := h', toks := tk' } :=
  hret r [] h' tk' F (ktn_tl0 N) ktn_ord0 o

theorem con_ret1 {h₀ h' : Heap} {L : Addr} {m : Str → Option Value} {news : List (Addr × Obj)} {s : Shared} {Q : Value → Shared → Prop} {Out : List (Addr × Obj) → Value → Prop} {tk' : Nat} {r : Value} {p₁ : Addr × Obj}
    (hret : ∀ r tl h' tk', Fr h₀ L h' m → News h₀ L h' (news ++ tl) → (∀ q ∈ news, ∀ p ∈ tl, q.1 < p.1) → Out tl r → Q r { s with heap := h', toks := tk' })
    (F : Fr h₀ L h' m) (N : News h₀ L h' (p₁ :: news)) (hlt : ∀ p ∈ news, p.1 < p₁.1) (o : Out [p₁] r) : Q r { s with heap := h', toks := tk' } :=
  hret r [p₁] h' tk' F (ktn_tl1 N) (fun q hq p hp => by rw [List.mem_singleton.mp hp]; exact hlt q hq) o
abbrev tup2 (a b : Value) : Obj := { cls := .type "tuple", data := .seq #[a, b] }

theorem con_retS {h₀ h' : Heap} {L : Addr} {m : Str → Option Value} {news : List (Addr × Obj)} {s : Shared} {Q : Value → Shared → Prop} {Out : List (Addr × Obj) → Value → Prop} {tk' : Nat} {x y : Str} {t : Tok}
    (hret : ∀ r tl h' tk', Fr h₀ L h' m → News h₀ L h' (news ++ tl) → (∀ q ∈ news, ∀ p ∈ tl, q.1 < p.1) → Out tl r → Q r { s with heap := h', toks := tk' })
    (F : Fr h₀ L h' m) (N : News h₀ L h' news) (o : ∀ t', Out [] (.str x t')) (e : y = x) : Q (.str y t) { s with heap := h', toks := tk' } := by
  subst e
  exact con_ret0 hret F N (o t)

/-- how a caller uses a contract of a def that hands back a value and keeps nothing new -/
theorem con_use {prog : Program} {w : World} {K : Frag} {p : Program} {loose : List Str} {mean : ExcName → Option Value} {mg mb : Str → Option Value} {f : Addr} {k : Nat} {news : List (Addr × Obj)} {vs : List Value} {Out : List (Addr × Obj) → Value → Prop}
    (C : Con prog w K p loose mean mg mb f k news vs Out)
    {dp un : Nat} {gd : Option (List Code)} {cn : Str} {cs : Scope} {a : Addr} {ccd : Value} {cl : List (Str × Addr)} {outer : List Env} {A₀ : Around} {base h₀ : Heap} {L : Addr} {m : Str → Option Value} {s : Shared} {Q E : Value → Shared → Prop}
    (B : Below A₀ base outer h₀) (F : Fr h₀ L s.heap m) (X : K.In h₀) (N : News h₀ L s.heap news) (T : Top p loose mean mg mb h₀) (hk : cs.kind = .function) (hd : dp + k < recursionLimit) (hu : un + 8 * k < cLine)
    (ret : ∀ r tl h' tk', Fr h₀ L h' m → News h₀ L h' (news ++ tl) → (∀ q ∈ news, ∀ p ∈ tl, q.1 < p.1) → Out tl r → Q r { s with heap := h', toks := tk' }) :
    wpAny (model prog w) (ktrTop dp un gd cn cs L a ccd cl outer) (call (.ref f) vs) Q E s := C _ _ _ _ _ _ _ _ _ _ _ _ _ _ _ _ _ B F X N T hk hd hu ret
theorem con_use0 {prog : Program} {w : World} {K : Frag} {p : Program} {loose : List Str} {mean : ExcName → Option Value} {mg mb : Str → Option Value} {f : Addr} {k : Nat} {news : List (Addr × Obj)} {vs : List Value} {Out : Value → Prop}
    (C : Con prog w K p loose mean mg mb f k news vs (fun _ r => Out r))
    {dp un : Nat} {gd : Option (List Code)} {cn : Str} {cs : Scope} {a : Addr} {ccd : Value} {cl : List (Str × Addr)} {outer : List Env} {A₀ : Around} {base h₀ : Heap} {L : Addr} {m : Str → Option Value} {s : Shared} {Q E : Value → Shared → Prop}
    (B : Below A₀ base outer h₀) (F : Fr h₀ L s.heap m) (X : K.In h₀) (N : News h₀ L s.heap news) (T : Top p loose mean mg mb h₀) (hk : cs.kind = .function) (hd : dp + k < recursionLimit) (hu : un + 8 * k < cLine)
    (ret : ∀ r h' tk', Fr h₀ L h' m → News h₀ L h' news → Out r → Q r { s with heap := h', toks := tk' }) :
    wpAny (model prog w) (ktrTop dp un gd cn cs L a ccd cl outer) (call (.ref f) vs) Q E s :=
  con_use C B F X N T hk hd hu fun r tl h' tk' F' N' _ o => ret r h' tk' F' (cb_drop N' fun p hp => List.mem_append.mpr (.inl hp)) o

theorem all_ne {news : List (Addr × Obj)} {l : Addr} (h : ∀ p ∈ news, p.1 < l) : ∀ p ∈ news, p.1 ≠ l := fun p hp => Nat.ne_of_lt (h p hp)
theorem all_ne2 {news : List (Addr × Obj)} {l i : Addr} (h : l < i ∧ AllLt i news) : ∀ p ∈ news, p.1 ≠ i := fun p hp => Nat.ne_of_lt (kst_ltOf h.2 p hp)
end Mine
namespace Mine
section
variable {prog : Program} {w : World} {A : Around} {E : Value → Shared → Prop} {s : Shared} {h₀ : Heap} {L D : Addr} {m : Str → Option Value} {news news' : List (Addr × Obj)}
theorem append_k {its : Array Value} {n : Nat} {x : Value} {Q : Value → Shared → Prop} (F : Fr h₀ L s.heap m) (N : News h₀ L s.heap news) (U : Upd D (listOf its n) (listOf (its.push x) (n + 1)) news news') (hz : its.size ≤ 100)
    (h : ∀ h', Fr h₀ L h' m → News h₀ L h' news' → Q .none { s with heap := h' }) : wpAny (model prog w) A (call (.builtin "list.append") [.ref D, x]) Q E s :=
  append_K F N U h (hsz := Nat.le_trans hz (by unfold sizeLine; decide))
end
end Mine

namespace Mine
theorem all_ne3 {news : List (Addr × Obj)} {l i : Addr} {P : Prop} (h : P ∧ l < i ∧ AllLt i news) : ∀ p ∈ news, p.1 ≠ i := fun p hp => Nat.ne_of_lt (kst_ltOf h.2.2 p hp)
/-- the end of an unrolled turn that put one object on the ledger's head -/
theorem unr_second {h₀ : Heap} {L I : Addr} {it : Obj} {rest : (Str → Option Value) → List (Addr × Obj) → Prop} {s₁ : Shared} {h' : Heap} {tk : Nat} {m' : Str → Option Value} {q : Addr × Obj} {tl : List (Addr × Obj)}
    (F : Fr h₀ L h' m') (N : News h₀ L h' (q :: (I, it) :: tl)) (h1 : q.1 ≠ I) (h2 : ∀ p ∈ tl, p.1 ≠ I) (r : rest m' (q :: tl)) : UnrEnd h₀ L s₁ I it rest { s₁ with heap := h', toks := tk } :=
  UnrEnd.intro F N (q :: tl) (fun p hp => by
    rcases List.mem_cons.mp hp with rfl | hp
    · exact .tail _ (.head _)
    rcases List.mem_cons.mp hp with rfl | hp
    · exact .head _
    · exact .tail _ (.tail _ hp)) (fun p hp => by
    rcases List.mem_cons.mp hp with rfl | hp
    · exact h1
    · exact h2 p hp) r
end Mine
end

section
open PySem PySem.W PyProof.Rows PySem.Calls
set_option maxRecDepth 100000
namespace Mine
open Sem (wp)
open Builtin.Bytes

namespace BF
theorem mro : mroOf (.type "bytearray") = pure [.type "bytearray", .type "object"] := by rw [mroOf_type]; kernel_rfl
theorem lookup_new : typeLookup (.type "bytearray") "__new__" = pure (some (.builtin "bytearray.__new__")) := by rw [typeLookup_type, builtinLookup_eq_fast]; kernel_rfl
theorem slot_init : Slot "bytearray" "__init__" "bytearray.__init__" :=
  .of (owner := "bytearray") (n := "__init__") (by rw [typeLookup_type, builtinLookup_eq_fast]; kernel_rfl) (by decide +kernel) (by decide +kernel) (by decide +kernel)
    (by first | exact .inl (by decide +kernel) | exact .inr (by decide +kernel)) (by rw [isSubtype_type]; kernel_rfl)
theorem called : TypeCalled "bytearray" "bytearray.__new__" "bytearray.__init__" :=
  ⟨by decide +kernel, by decide +kernel, ⟨_, _, mro⟩, madeBy_type mro lookup_new (by decide +kernel), by decide +kernel, by rw [isSubtype_type]; kernel_rfl, slot_init⟩
theorem typeCall (n : Int) (t : Tok) : checkTypeCall "bytearray" ⟨[.int n t], []⟩ = pure () := by kernel_rfl
theorem newCall (n : Int) (t : Tok) : checkBuiltinCall "bytearray.__new__" ⟨[.type "bytearray", .int n t], []⟩ = pure () := by kernel_rfl
theorem plain_new : plainId "bytearray.__new__" = true := by decide +kernel
theorem entry_new : entryFor table "bytearray.__new__" = some Builtin.«list.__new__» := entryFor_alias (id' := "list.__new__") (by kernel_rfl) rfl (by decide +kernel) (by kernel_rfl)
theorem entry_init : entryFor table "bytearray.__init__" = some Builtin.«bytearray.__init__» := entryFor_of_tree (by kernel_rfl)
theorem sub_self : isSubtype (.type "bytearray") (.type "bytearray") = pure true := by rw [isSubtype_type]; kernel_rfl
theorem args_init (a b : Value) : argsOk "bytearray.__init__" ⟨[a, b], []⟩ := by unfold argsOk; kernel_rfl
theorem bind1 (v : Value) : bindOptional "bytearray.__init__" "bytearray" ["source", "encoding", "errors"] [v] [] = pure [some v, none, none] := by kernel_rfl
theorem owner : ("bytearray.__new__".splitOn ".__new__").headD "" = "bytearray" := by simp +decide [String.splitOn, String.splitOnAux]
theorem release : typeLookup (.type "bytearray") "__release_buffer__" = pure (some (.builtin "bytearray.__release_buffer__")) := by rw [typeLookup_type, builtinLookup_eq_fast]; kernel_rfl
theorem int_index : typeLookup (.type "int") "__index__" = pure (some (.builtin "int.__index__")) := by rw [typeLookup_type, builtinLookup_eq_fast]; kernel_rfl
theorem slot_setitem : Slot "bytearray" "__setitem__" "bytearray.__setitem__" :=
  .of (owner := "bytearray") (n := "__setitem__") (by rw [typeLookup_type, builtinLookup_eq_fast]; kernel_rfl) (by decide +kernel) (by decide +kernel) (by decide +kernel)
    (by first | exact .inl (by decide +kernel) | exact .inr (by decide +kernel)) (by rw [isSubtype_type]; kernel_rfl)
theorem entry_setitem : entryFor table "bytearray.__setitem__" = some Builtin.«bytearray.__setitem__» := entryFor_of_tree (by kernel_rfl)
theorem args_setitem (a b c : Value) : argsOk "bytearray.__setitem__" ⟨[a, b, c], []⟩ := by unfold argsOk; kernel_rfl
theorem lookup_buffer : typeLookup (.type "bytearray") "__buffer__" = pure (some (.builtin "bytearray.__buffer__")) := by rw [typeLookup_type, builtinLookup_eq_fast]; kernel_rfl
theorem none_bytes : typeLookup (.type "bytearray") "__bytes__" = pure none := by rw [typeLookup_type, builtinLookup_eq_fast]; kernel_rfl
theorem none_index : typeLookup (.type "bytearray") "__index__" = pure none := by rw [typeLookup_type, builtinLookup_eq_fast]; kernel_rfl
end BF

section
variable {prog : Program} {w : World} {A : Around} {E : Value → Shared → Prop} {s : Shared}

theorem code_ba_new (n : Int) (t : Tok) {Q₁ : Value → Shared → Prop}
    (h : Q₁ (.ref s.heap.objs.size) { s with heap := s.heap.push { cls := .type "bytearray", data := .bytearray #[] } }) :
    codeAny (model prog w) A (.call (.builtin "bytearray.__new__") ⟨[.type "bytearray", .int n t], []⟩) (wants Q₁ E) s := by
  refine codeAny_of_tree ?_
  show wpAny _ A.in1 (do checkBuiltinCall "bytearray.__new__" ⟨[.type "bytearray", .int n t], []⟩; again (.builtin "bytearray.__new__" ⟨[.type "bytearray", .int n t], []⟩)) _ _ s
  refine wpAny_bind (wpAny_of_eq (BF.newCall n t) (wpAny_pure ⟨plainId_quiet BF.plain_new _, codeAny_builtin_stack BF.entry_new rfl fun p st => ?_⟩))
  rw [Around.under_plainId BF.plain_new _]
  have hsub := BF.sub_self
  have hown := BF.owner
  obtain ⟨hp, g, d, tk, os⟩ := s
  simp only [hown]
  wp_walk
  exact h
end

section
variable {M : Model} {A : Around} {E : Value → Shared → Prop} {s : Shared}

theorem S_exported {self : Value} {Q : Bool → Shared → Prop} (q : Q false s) : wpS M A (exported self) Q E s := fun Γ p i c b => by
  unfold exported
  refine Eq.subst (motive := fun b => Q b s) (Eq.symm ?_) q
  rw [List.any_eq_false]
  intro x hx
  have h : holder x.1 = false := by
    rcases List.mem_cons.mp hx with rfl | hx
    · exact c
    · exact b x hx
  rw [Bool.not_eq_true]
  clear hx
  revert h
  split <;> intro h
  all_goals first
    | rfl
    | (exfalso; revert h; simp [holder]; done)
    | (unfold holder at h
       rw [Bool.and_eq_false_iff]
       simp only [List.contains_eq_mem, List.mem_append, decide_eq_false_iff_not, not_or] at h
       exact .inr (by simpa using h.2))
end

section
variable {prog : Program} {w : World} {A : Around} {E : Value → Shared → Prop} {s : Shared}

abbrev baObj (b : Array UInt8) : Obj := { cls := .type "bytearray", data := .bytearray b }

theorem wpAny_write {M : Model} {a : Addr} {b : Array UInt8} {f : Array UInt8 → Array UInt8} {Q : Unit → Shared → Prop} (ho : s.heap.get? a = some (baObj b)) (hz : (f b).size ≤ sizeLine)
    (h : ∀ h', h'.get? a = some (baObj (f b)) → Heap.SameBut a s.heap h' → Q () { s with heap := h' }) : wpAny M A (write (.ref a) f) Q E s := by
  show wpAny M A (updateBytearray a f) Q E s
  unfold updateBytearray
  refine wpAny_bind (wpAny_load ho ?_)
  show wpAny _ _ (update a (Obj.mapBytearray f) >>= fun _ => lookBehind a) _ _ _
  refine wpAny_bind (wpAny_update ho ?_)
  have h2 : (s.heap.update a (Obj.mapBytearray f)).get? a = some (baObj (f b)) := Heap.get?_update_self (Obj.mapBytearray f) ho rfl
  refine wpAny_lookBehind h2 ?_ (h _ h2 (Heap.SameBut.update ..))
  show (if (f b).size > sizeLine then some "bytearray:memory" else none) = none
  rw [if_neg (Nat.not_lt.mpr hz)]

theorem own_release {M : Model} {a : Addr} {b : Array UInt8} {Q : Bool → Shared → Prop} (ho : s.heap.get? a = some (baObj b)) (q : Q false s) : wpAny M A (ownRelease (.ref a)) Q E s := by
  have hT : s.TypeIs (.ref a) "bytearray" := ⟨_, ho, rfl⟩
  unfold ownRelease slotIsOwn
  refine wpAny_bind (wpAny_bind (wpAny_specialOf hT BF.release ?_))
  dsimp only
  rw [show (!("bytearray.__release_buffer__".endsWith ("." ++ "__release_buffer__"))) = false by decide +kernel]
  show wpAny M A (isInstance (.ref a) (.type ("bytearray.__release_buffer__".dropRight ("__release_buffer__".length + 1)))) _ _ _
  rw [show ("bytearray.__release_buffer__".dropRight ("__release_buffer__".length + 1)) = "bytearray" by decide +kernel]
  exact wpAny_isInstance hT BF.sub_self (wpAny_pure q)

theorem S_ba_init {a : Addr} {n : Int} {t : Tok} {Q : Fin → Shared → Prop} (h0 : 0 ≤ n) (h1 : n ≤ 1000) (ho : s.heap.get? a = some (baObj #[]))
    (q : ∀ h', h'.get? a = some (baObj (Array.replicate n.toNat 0)) → Heap.SameBut a s.heap h' → Q (.done (.ret .none)) { s with heap := h' }) :
    wpS (model prog w) A (Builtin.«bytearray.__init__» ⟨[.ref a, .int n t], []⟩) Q E s := by
  unfold Builtin.«bytearray.__init__»
  refine wpS_bindA (own_release ho ?_)
  refine wpS_bindA (wpAny_of_eq (BF.bind1 _) ?_)
  refine wpS_bindA (wpAny_of_eq (a := ()) rfl ?_)
  refine wpS_bindA (wpAny_of_eq (a := ()) rfl ?_)
  refine wpS_bind ?_
  unfold orM
  refine wpS_bind (S_exported ?_)
  refine wpS_of ?_
  show wpAny _ _ (exportsOf (.ref a) >>= _) _ _ _
  refine wpAny_bind ?_
  unfold exportsOf
  refine wpAny_bind (wpAny_load ho (wpAny_pure (wpAny_pure ?_)))
  refine wpS_of ?_
  refine bm_if_false rfl ?_
  refine wpAny_bind (wpAny_write ho (by decide) fun h1' e1 k1 => ?_)
  refine wpAny_bind (wpAny_of_eq (a := none) rfl ?_)
  refine wpAny_bind (m := pure ()) (wpAny_pure ?_)
  refine wpAny_bind (wpAny_specialOf (typeIs_int _ n t) BF.int_index ?_)
  refine bm_if_true rfl ?_
  refine wpAny_bind (wpAny_attempt (wpAny_of_eq (rfl : asIndex (.int n t) = pure n) ?_))
  dsimp only
  have hfit : (!(-(2 ^ 63 : Int) ≤ n && n < 2 ^ 63 : Bool)) = false := by
    simp only [Bool.not_eq_false', Bool.and_eq_true, decide_eq_true_eq]; omega
  refine bm_if_false hfit ?_
  refine wpAny_ite ?_
  rw [if_neg (by omega)]
  refine bm_if_false (by simp only [beq_eq_false_iff_ne, ne_eq]; omega) ?_
  refine bm_if_false (show decide (n.toNat > sizeLine) = false from decide_eq_false (by unfold sizeLine; omega)) ?_
  refine wpAny_bind (wpAny_rule ?_)
  refine wpAny_ite ?_
  by_cases hp : n > 0
  · rw [if_pos hp]
    refine wpAny_bind (wpAny_write e1 (by rw [Array.size_replicate]; unfold sizeLine; omega) fun h2' e2 k2 => ?_)
    exact wpAny_pure (q _ e2 (k1.trans k2))
  · rw [if_neg hp]
    have hn0 : n.toNat = 0 := by omega
    rw [hn0] at q
    exact wpAny_pure (q _ e1 k1)

theorem codeS_builtin {id : String} {args : Args} {b : Builtin} {R : Result → Shared → Prop} (hh : holder (.builtin id args) = false) (hb : entryFor table id = some b)
    (h : wpS (model prog w) (A.under (.builtin id args)) (b args)
      (fun fin s' => match fin with | .done f => R (.ok f) s' | .again c' => c'.quiet = true ∧ codeS (model prog w) A c' R s') (fun e s' => R (.error e) s') s) : codeS (model prog w) A (.builtin id args) R s := by
  refine codeS_of_tree hh ?_
  show wpS _ _ (match entryFor table id with | some b => b args | none => unsupported ((withoutEnding? id "#data").getD id)) _ _ s
  rw [hb]
  exact h

/-- a call of a builtin, its run over the Safe contexts -/
theorem codeS_call_builtin {id : String} {args : Args} {b : Builtin} {R : Result → Shared → Prop} (hq : plainId id = true) (hh : holder (.builtin id args) = false) (hb : entryFor table id = some b)
    (h : wpAny (model prog w) A.in1 (checkBuiltinCall id args) (fun _ s₁ => wpS (model prog w) A.in1 (b args)
      (fun fin s' => match fin with | .done f => R (.ok f) s' | .again c' => c'.quiet = true ∧ codeS (model prog w) A c' R s') (fun e s' => R (.error e) s') s₁)
      (fun e s' => R (.error e) s') s) : codeS (model prog w) A (.call (.builtin id) args) R s := by
  refine codeS_of_tree rfl ?_
  show wpS _ A.in1 (do checkBuiltinCall id args; again (.builtin id args)) _ _ s
  refine wpS_bindA (wpAny_mono h (fun _ s₁ h₁ => wpS_pure ⟨plainId_quiet hq args, codeS_builtin hh hb ?_⟩) fun _ _ x => x)
  rw [Around.under_plainId hq args]
  exact h₁

theorem holder_type_call (args : Args) : holder (.builtin "type.__call__" args) = false := by show List.contains _ _ = false; decide +kernel
theorem holder_ba_init (args : Args) : holder (.builtin "bytearray.__init__" args) = false := by show List.contains _ _ = false; decide +kernel

theorem S_if_false {α : Type} {M : Model} {c : Bool} {a b : Sem α} {Q : α → Shared → Prop} (hc : c = false) (h : wpS M A b Q E s) : wpS M A (if c = true then a else b) Q E s := by
  subst hc
  exact h

/-- bytearray(n), over the Safe contexts -/
theorem S_bytearray {n : Int} {t : Tok} {Q : Value → Shared → Prop} (h0 : 0 ≤ n) (h1 : n ≤ 1000)
    (q : ∀ h', h'.get? s.heap.objs.size = some (baObj (Array.replicate n.toNat 0)) → (∀ b o, s.heap.get? b = some o → h'.get? b = some o) → Q (.ref s.heap.objs.size) { s with heap := h' }) :
    wpS (model prog w) A (call (.type "bytearray") [.int n t]) Q E s := by
  have hmro := BF.mro
  have hmade := BF.called.made
  refine wpS_call (codeS_of_tree rfl (wpS_of ?_))
  show wpAny _ _ (callAny (.type "bytearray") _) _ _ _
  refine wpAny_pure ⟨Code.quiet_builtin _ (by decide +kernel), codeS_builtin (holder_type_call _) F.entry_type_call ?_⟩
  rw [Around.under_plain (weight_type_call_type "bytearray" [.int n t] []) rfl]
  unfold Builtin.«type.__call__»
  refine S_if_false BF.called.notType ?_
  refine S_if_false BF.called.canCreate ?_
  refine wpS_bindA (wpAny_of_eq (BF.typeCall n t) ?_)
  refine wpS_bindA (wpAny_of_eq hmro ?_)
  refine S_if_false rfl ?_
  refine wpS_bindA (wpAny_of_eq hmade ?_)
  refine wpS_bindA (wpAny_pure ?_)
  refine wpS_bindA (wpAny_holding (wpAny_call (code_ba_new n t ?_)))
  have ho : (s.heap.push (baObj #[])).get? s.heap.objs.size = some (baObj #[]) := Heap.get?_push_size _ rfl
  have hT : Shared.TypeIs { s with heap := s.heap.push (baObj #[]) } (.ref s.heap.objs.size) "bytearray" := ⟨_, ho, rfl⟩
  refine wpS_bindA (wpAny_isInstance hT BF.sub_self ?_)
  refine S_if_false rfl ?_
  refine wpS_bind (wpS_holding ?_)
  unfold callSpecial?
  refine wpS_bindA (wpAny_specialOf hT BF.slot_init.lookup ?_)
  simp only [BF.slot_init.bind]
  refine wpS_holding (wpS_bindA (wpAny_pure (wpS_bind (wpS_call ?_))))
  refine codeS_call_builtin BF.slot_init.plain (holder_ba_init _) BF.entry_init (BF.slot_init.check _ _ _ _ _ _ _ _ hT (BF.args_init _ _) ?_)
  refine S_ba_init h0 h1 ho fun h' e' k' => ?_
  dsimp only
  refine wpS_pure ?_
  dsimp only
  refine S_if_false rfl ?_
  refine wpS_pure ?_
  dsimp only
  refine q h' e' fun b o hb => k'.extBut b o (Nat.ne_of_lt (Heap.lt_size hb)) (Heap.get?_push_of_some _ hb)

theorem ba_subscript {M : Model} {k : Int} {t : Tok} {Q : Option Int → Shared → Prop} (h0 : 0 ≤ k) (h1 : k < 2 ^ 63) (h : Q (some k) s) : wpAny M A (subscript? (.int k t)) Q E s := by
  unfold subscript?
  refine wpAny_bind (wpAny_specialOf (T := "int") (typeIs_int s k t) BF.int_index ?_)
  refine bm_if_false rfl ?_
  refine wpAny_bind (wpAny_of_eq (a := k) rfl ?_)
  have hfit : (!(-(2 ^ 63 : Int) ≤ k && k < 2 ^ 63 : Bool)) = false := by
    simp only [Bool.not_eq_false', Bool.and_eq_true, decide_eq_true_eq]; omega
  refine bm_if_false hfit ?_
  exact wpAny_pure h

theorem ba_setItem {a : Addr} {b : Array UInt8} {k v : Int} {t u : Tok} {Q : Unit → Shared → Prop} (ho : s.heap.get? a = some (baObj b)) (h0 : 0 ≤ k) (h1 : k < b.size) (hz : b.size ≤ 1000) (v0 : 0 ≤ v) (v1 : v < 256)
    (q : ∀ h', h'.get? a = some (baObj (b.setIfInBounds k.toNat v.toNat.toUInt8)) → Heap.SameBut a s.heap h' → Q () { s with heap := h' }) :
    wpAny (model prog w) A (setItem (.ref a) (.int k t) (.int v u)) Q E s := by
  have hT : s.TypeIs (.ref a) "bytearray" := ⟨_, ho, rfl⟩
  unfold setItem
  try with_reducible refine wpAny_holding ?_
  refine wpAny_bind (wpAny_sequenceKey hT (by decide) ?_)
  refine wpAny_bind (wpAny_callSpecial?_slot (name := Str.ofString "__setitem__") hT BF.slot_setitem (wpAny_call_entry BF.slot_setitem hT BF.entry_setitem ?_ (BF.args_setitem _ _ _)))
  unfold Builtin.«bytearray.__setitem__»
  refine bm_if_false rfl ?_
  dsimp only
  refine wpAny_bind (ba_subscript h0 (by omega) ?_)
  dsimp only
  refine wpAny_bind ?_
  unfold byteValue
  refine wpAny_bind (wpAny_of_eq (a := v) rfl ?_)
  refine bm_if_false (by simp only [Bool.or_eq_false_iff, decide_eq_false_iff_not]; omega) ?_
  refine wpAny_pure ?_
  unfold payload payload?
  refine wpAny_bind (wpAny_bind (wpAny_bind (wpAny_load ho (wpAny_pure (wpAny_pure ?_)))))
  have hi : seqIndex? k b.size = some k.toNat := StrLaws.seqIndex_nonneg h0 h1
  rw [hi]
  dsimp only
  refine wpAny_bind (wpAny_write ho (by rw [Array.size_setIfInBounds]; unfold sizeLine; omega) fun h' e' k' => ?_)
  exact wpAny_bind (wpAny_pure (wpAny_pure ⟨.none, rfl, wpAny_pure (q h' e' k')⟩))

theorem ba_buffer {M : Model} {a : Addr} {b : Array UInt8} {Q : Option (Array UInt8) → Shared → Prop} (ho : s.heap.get? a = some (baObj b)) (q : Q (some b) s) : wpAny M A (buffer? "bytes.__new__" (.ref a) true) Q E s := by
  have hT : s.TypeIs (.ref a) "bytearray" := ⟨_, ho, rfl⟩
  unfold buffer?
  refine wpAny_bind (wpAny_specialOf hT BF.lookup_buffer ?_)
  refine wpAny_bind ?_
  unfold slotIsOwn
  refine wpAny_bind (wpAny_specialOf hT BF.lookup_buffer ?_)
  dsimp only
  rw [show (!("bytearray.__buffer__".endsWith ("." ++ "__buffer__"))) = false by decide +kernel]
  show wpAny M A (isInstance (.ref a) (.type ("bytearray.__buffer__".dropRight ("__buffer__".length + 1)))) _ _ _
  rw [show ("bytearray.__buffer__".dropRight ("__buffer__".length + 1)) = "bytearray" by decide +kernel]
  refine wpAny_isInstance hT BF.sub_self ?_
  refine bm_if_false rfl ?_
  refine wpAny_bind (wpAny_specialOf hT BF.lookup_buffer ?_)
  refine wpAny_bind (own_release ho ?_)
  refine bm_if_false rfl ?_
  unfold payload payload?
  exact wpAny_bind (wpAny_bind (wpAny_bind (wpAny_load ho (wpAny_pure (wpAny_pure (wpAny_pure q))))))

theorem ba_typeCall (a : Value) : checkTypeCall "bytes" ⟨[a], []⟩ = pure () := by kernel_rfl

theorem bytes_new {a : Addr} {b : Array UInt8} {Q : Value → Shared → Prop} (ho : s.heap.get? a = some (baObj b)) (hz : b.size ≤ 1000)
    (hQ : Q (.bytes b s.toks) { s with toks := s.toks + 1 }) :
    codeAny (model prog w) A (.call (.builtin "bytes.__new__") ⟨[.type "bytes", .ref a], []⟩) (wants Q E) s := by
  have hT : s.TypeIs (.ref a) "bytearray" := ⟨_, ho, rfl⟩
  refine codeAny_of_tree ?_
  show wpAny _ A.in1 (do checkBuiltinCall "bytes.__new__" ⟨[.type "bytes", .ref a], []⟩; again (.builtin "bytes.__new__" ⟨[.type "bytes", .ref a], []⟩)) _ _ s
  refine wpAny_bind (wpAny_of_eq (F.bm_newCall _) (wpAny_pure ⟨plainId_quiet F.bm_plain _, codeAny_builtin F.bm_entry ?_⟩))
  rw [Around.under_plainId F.bm_plain _]
  unfold Builtin.«bytes.__new__»
  refine wpAny_bind (wpAny_of_eq (a := true) rfl ?_)
  refine bm_if_false rfl ?_
  refine wpAny_bind (wpAny_of_eq F.bm_sub ?_)
  refine bm_if_false rfl ?_
  refine wpAny_bind (wpAny_of_eq (F.bm_bind _) ?_)
  refine wpAny_bind (wpAny_of_eq (a := ()) rfl ?_)
  refine wpAny_bind (wpAny_of_eq (a := ()) rfl ?_)
  refine bm_if_false rfl ?_
  refine wpAny_bind (wpAny_specialOf hT BF.none_bytes ?_)
  refine wpAny_bind (wpAny_bind ?_)
  show wpAny _ _ (load a >>= _) _ _ _
  refine wpAny_bind (wpAny_load ho ?_)
  refine wpAny_pure (wpAny_pure ?_)
  refine bm_if_false rfl ?_
  refine wpAny_bind (wpAny_specialOf hT BF.none_index ?_)
  refine bm_if_true rfl ?_
  show wpAny _ _ (buffer? "bytes.__new__" (.ref a) true >>= _) _ _ _
  refine wpAny_bind (ba_buffer ho ?_)
  refine wpAny_bind (wpAny_rule ?_)
  refine wpAny_bind (wpAny_mkBytes ?_ (by unfold sizeLine; omega))
  show wpAny _ _ (if (Value.type "bytes" == Value.type "bytes") = true then _ else _) _ _ _
  refine bm_if_true (by decide) ?_
  exact wpAny_pure hQ

/-- bytes(a bytearray) -/
theorem call_bytes_ba {a : Addr} {b : Array UInt8} {Q : Value → Shared → Prop} (ho : s.heap.get? a = some (baObj b)) (hz : b.size ≤ 1000)
    (hQ : Q (.bytes b s.toks) { s with toks := s.toks + 1 }) : wpAny (model prog w) A (call (.type "bytes") [.ref a]) Q E s := by
  refine callType_codes (Q₁ := fun obj s₁ => s₁.TypeIs obj "bytes" ∧ Q obj s₁) F.bm_called (ba_typeCall _) F.entry_object_init
    (bytes_new ho hz ⟨PySem.W.typeIs_bytes _ _ _, hQ⟩) fun obj s₁ h₁ => ?_
  exact ⟨h₁.1, F.args_object_init_2 obj _, object_init_meets F.bm_called.init.lookup F.bm_called.made (by decide) prog w A.in1 _ s₁ ⟨h₁.1, rfl, h₁.2⟩⟩
end
end Mine
end

section
open PySem PySem.W PyProof.Rows PySem.Calls
namespace Mine

section
variable {prog : Program} {w : World} {A₀ A : Around} {s : Shared} {base h₀ : Heap} {outer : List Env} {L : Addr} {m mg mb : Str → Option Value} {env : Env} {news : List (Addr × Obj)} {K : Frag}
  {R : Result → Shared → Prop} {name qual : Str} {params : Arguments} {body : List Stmt} {scope : Scope} {dV kV doc pm cdv ct oc : Value} {an od : Option Addr} {osl : Array (Option Value)} {f : Addr} {args : Args} {binds : List (Str × Value)} {p : Program} {loose : List Str} {mean : ExcName → Option Value}

/-- a def is entered, its body over the Safe contexts -/
theorem codeS_def (B : Below A₀ base outer h₀) (F : Fr h₀ L s.heap m) (X₀ : K.In h₀) (N : News h₀ L s.heap news) (T : Top p loose mean mg mb h₀) (hA : A.frames = some (env :: outer)) (hf : env.frame = some L) (hke : env.scope.kind = .function)
    (ho : K.lookup f = some ⟨oc, od, .func (fnOf name qual params body scope dV kV doc pm an cdv ct), osl⟩) (hcd : codeIn K cdv qual = true) (hroom : A.depth < recursionLimit)
    (hbind : BindsTo s (fnOf name qual params body scope dV kV doc pm an cdv ct) args binds) (hloc : ∀ y ∈ binds, scope.names.lookup y.1 = some .local)
    (h : ∀ g L' h₁, Fr h₀ L g m → Fr g L' h₁ (fun y => binds.reverse.lookup y) → News g L' h₁ news → Below A base (env :: outer) g → K.In g → Top p loose mean mg mb g →
      wpS (model prog w) (A.deeper (envOf qual scope L' f cdv)) (execs body (envOf qual scope L' f cdv))
        (fun fl s' => LeaveK h₀ L m g R (match fl with | .ret v => v | _ => .none) s')
        (fun e s' => wpAny (model prog w) (A.deeper (envOf qual scope L' f cdv)) (leaving (envOf qual scope L' f cdv) e) (fun _ s'' => R (.error e) s'') (fun e' s'' => R (.error e') s'') s')
        { s with heap := h₁, toks := s.toks + binds.length })
    (hco : scope.isCoroutine = false) (hgen : scope.isGenerator = false) (hk : scope.kind = .function) (hcell : ∀ x ∈ scope.names, x.2 ≠ .cell) : codeS (model prog w) A (.call (.ref f) args) R s := by
  obtain ⟨FG, BG, st, lv⟩ := groundX (R := R) B F N hA hf hke
  have hlim := (T.nolimit).keeps F.keep
  refine codeS_call_function (fd := fnOf name qual params body scope dV kV doc pm an cdv ct) (body := body) hroom ((X₀.keeps F.keep) _ _ ho) rfl hco hgen rfl (codeRec_of (X₀.keeps F.keep) hcd) (hbind _ _ _ _ ?_)
  refine wpAny_newFunctionEnv hcell hloc (fun h₁ hns hsb => ⟨hlim.fresh _ hsb, codeS_func ?_⟩) hk
  have hk₁ : ∀ b o, s.heap.get? b = some o → h₁.get? b = some o := fun b o e => hsb.extBut b o (Nat.ne_of_lt (Heap.lt_size e)) (Heap.get?_push_of_some _ e)
  refine wpS_mono (h _ s.heap.objs.size h₁ FG ⟨hns, fun b o e => hk₁ b o (of_hideAll _ e), Nat.le_of_eq (hideAll_size _ _)⟩
    (fun q hq => ⟨hk₁ _ _ (N q hq).1, Nat.ne_of_lt (Heap.lt_size (N q hq).1), hideAll_none _ (List.mem_map_of_mem hq)⟩) BG (X₀.keeps st) (T.keeps st)) (fun fl s' hl => lv _ _ hl) fun _ _ y => y
end

section
variable {M : Model} {A : Around} {E : Value → Shared → Prop} {s : Shared} {env : Env}
theorem S_CallName {x : Str} {p' pos : Pos} {args : List Expr} {Q : Value → Shared → Prop}
    (h : wpAny M A (eval (.Name x p') env) (fun fv s₁ => wpS M A (callWith pos fv [] (backTo pos (starEach args env)) []) Q E s₁) E s) : wpS M A (eval (.Call (.Name x p') args [] pos) env) Q E s := by
  show wpS M A (eval (.Name x p') env >>= fun fv => callWith pos fv [] (backTo pos (starEach args env)) []) Q E s
  exact wpS_bindA h
theorem S_withRef {K : Frag} {f : Value} {first : List Value} {e : Expr} {rest : List Expr} {pos : Pos} {Q : Value → Shared → Prop} (hk : keepIn K f = true)
    (h : wpAny M A (spliced (backTo pos (starEach (e :: rest) env))) (fun vs s₁ => K.In s₁.heap ∧ wpS M A (call f (first ++ vs)) Q E s₁) E s)
    (he : starEach (e :: rest) env = (false, eval e env) :: starEach rest env := by rfl) (hplain : (backTo pos (starEach rest env)).any (·.1) = false := by rfl) :
    wpS M A (callWith pos f first (backTo pos (starEach (e :: rest) env)) []) Q E s := by
  rw [he] at h ⊢
  refine S_callWith (P := K.In) ?_ (keeps_K hk) (wpS_of (evalArgs_plain h))
  show (false || (backTo pos (starEach rest env)).any (·.1)) = false
  rw [hplain]; rfl
theorem S_withType {T : String} {first : List Value} {e : Expr} {rest : List Expr} {pos : Pos} {Q : Value → Shared → Prop}
    (h : wpAny M A (spliced (backTo pos (starEach (e :: rest) env))) (fun vs s₁ => wpS M A (call (.type T) (first ++ vs)) Q E s₁) E s)
    (he : starEach (e :: rest) env = (false, eval e env) :: starEach rest env := by rfl) (hplain : (backTo pos (starEach rest env)).any (·.1) = false := by rfl) :
    wpS M A (callWith pos (.type T) first (backTo pos (starEach (e :: rest) env)) []) Q E s := by
  rw [he] at h ⊢
  refine S_callWith (P := fun _ => True) ?_ (fun _ _ => ⟨.machine, .inr (.inl rfl), Looks.of_pure rfl⟩) (wpS_of (evalArgs_plain (wpAny_mono h (fun vs s' q => ⟨trivial, q⟩) fun _ _ x => x)))
  show (false || (backTo pos (starEach rest env)).any (·.1)) = false
  rw [hplain]; rfl
end

/-- Con over the Safe contexts -/
noncomputable def ConS (prog : Program) (w : World) (K : Frag) (p : Program) (loose : List Str) (mean : ExcName → Option Value) (mg mb : Str → Option Value) (f : Addr) (k : Nat) (news : List (Addr × Obj)) (vs : List Value) (Out : List (Addr × Obj) → Value → Prop) : Prop :=
  ∀ (dp un : Nat) (gd : Option (List Code)) (cn : Str) (cs : Scope) (a : Addr) (ccd : Value) (cl : List (Str × Addr)) (outer : List Env) (A₀ : Around) (base h₀ : Heap) (L : Addr) (m : Str → Option Value) (s : Shared) (Q E : Value → Shared → Prop),
    Below A₀ base outer h₀ → Fr h₀ L s.heap m → K.In h₀ → News h₀ L s.heap news → Top p loose mean mg mb h₀ → cs.kind = .function → dp + k < recursionLimit → un + 8 * k < cLine →
    (∀ r tl h' tk', Fr h₀ L h' m → News h₀ L h' (news ++ tl) → (∀ q ∈ news, ∀ p ∈ tl, q.1 < p.1) → Out tl r → Q r { s with heap := h', toks := tk' }) →
    wpS (model prog w) (ktrTop dp un gd cn cs L a ccd cl outer) (call (.ref f) vs) Q E s
theorem conS_use {prog : Program} {w : World} {K : Frag} {p : Program} {loose : List Str} {mean : ExcName → Option Value} {mg mb : Str → Option Value} {f : Addr} {k : Nat} {news : List (Addr × Obj)} {vs : List Value} {Out : List (Addr × Obj) → Value → Prop}
    (C : ConS prog w K p loose mean mg mb f k news vs Out)
    {dp un : Nat} {gd : Option (List Code)} {cn : Str} {cs : Scope} {a : Addr} {ccd : Value} {cl : List (Str × Addr)} {outer : List Env} {A₀ : Around} {base h₀ : Heap} {L : Addr} {m : Str → Option Value} {s : Shared} {Q E : Value → Shared → Prop}
    (B : Below A₀ base outer h₀) (F : Fr h₀ L s.heap m) (X : K.In h₀) (N : News h₀ L s.heap news) (T : Top p loose mean mg mb h₀) (hk : cs.kind = .function) (hd : dp + k < recursionLimit) (hu : un + 8 * k < cLine)
    (ret : ∀ r tl h' tk', Fr h₀ L h' m → News h₀ L h' (news ++ tl) → (∀ q ∈ news, ∀ p ∈ tl, q.1 < p.1) → Out tl r → Q r { s with heap := h', toks := tk' }) :
    wpS (model prog w) (ktrTop dp un gd cn cs L a ccd cl outer) (call (.ref f) vs) Q E s := C _ _ _ _ _ _ _ _ _ _ _ _ _ _ _ _ _ B F X N T hk hd hu ret
theorem conS_use0 {prog : Program} {w : World} {K : Frag} {p : Program} {loose : List Str} {mean : ExcName → Option Value} {mg mb : Str → Option Value} {f : Addr} {k : Nat} {news : List (Addr × Obj)} {vs : List Value} {Out : Value → Prop}
    (C : ConS prog w K p loose mean mg mb f k news vs (fun _ r => Out r))
    {dp un : Nat} {gd : Option (List Code)} {cn : Str} {cs : Scope} {a : Addr} {ccd : Value} {cl : List (Str × Addr)} {outer : List Env} {A₀ : Around} {base h₀ : Heap} {L : Addr} {m : Str → Option Value} {s : Shared} {Q E : Value → Shared → Prop}
    (B : Below A₀ base outer h₀) (F : Fr h₀ L s.heap m) (X : K.In h₀) (N : News h₀ L s.heap news) (T : Top p loose mean mg mb h₀) (hk : cs.kind = .function) (hd : dp + k < recursionLimit) (hu : un + 8 * k < cLine)
    (ret : ∀ r h' tk', Fr h₀ L h' m → News h₀ L h' news → Out r → Q r { s with heap := h', toks := tk' }) :
    wpS (model prog w) (ktrTop dp un gd cn cs L a ccd cl outer) (call (.ref f) vs) Q E s :=
  conS_use C B F X N T hk hd hu fun r tl h' tk' F' N' _ o => ret r h' tk' F' (cb_drop N' fun q hq => List.mem_append.mpr (.inl hq)) o
end Mine
end

section
open PySem PySem.W PyProof.Rows PySem.Calls
namespace Mine

section
variable {prog : Program} {w : World} {A₀ A : Around} {s : Shared} {base h₀ : Heap} {outer : List Env} {L : Addr} {m mg mb : Str → Option Value} {env : Env} {news mine : List (Addr × Obj)} {K : Frag}
  {R : Result → Shared → Prop} {name qual : Str} {params : Arguments} {body : List Stmt} {scope : Scope} {dV kV doc pm cdv ct oc : Value} {an od : Option Addr} {osl : Array (Option Value)} {f : Addr} {args : Args} {binds : List (Str × Value)} {p : Program} {loose : List Str} {mean : ExcName → Option Value}

/-- what the callee's base heap holds of the caller's ledger, beyond what goes along as the callee's own ledger -/
noncomputable def Rest (g : Heap) (L : Addr) (h₀ : Heap) (mine news : List (Addr × Obj)) : Prop := ∀ q ∈ news, q.1 ≠ L ∧ h₀.get? q.1 = none ∧ (q ∈ mine ∨ g.get? q.1 = some q.2)

/-- back in the caller: the whole ledger stands as it stood -/
theorem Rest.back {g h : Heap} {L L' : Addr} {h₀ : Heap} {m' : Str → Option Value} {led tl : List (Addr × Obj)} (r : Rest g L h₀ mine news) (F : Fr g L' h m') (N : News h₀ L h led)
    (hm : ∀ q ∈ mine, q ∈ led) (ht : ∀ q ∈ tl, q ∈ led) : News h₀ L h (news ++ tl) := fun q hq => by
  rcases List.mem_append.mp hq with hq | hq
  · obtain ⟨a, b, c⟩ := r q hq
    rcases c with c | c
    · exact N q (hm q c)
    · exact ⟨F.keep _ _ c, a, b⟩
  · exact N q (ht q hq)

theorem restOf (N : News h₀ L s.heap news) (hmine : ∀ q ∈ mine, q ∈ news) : Rest (hideAll s.heap (mine.map (·.1))) L h₀ mine news := fun q hq => by
  refine ⟨(N q hq).2.1, (N q hq).2.2, ?_⟩
  by_cases c : q.1 ∈ mine.map (·.1)
  · obtain ⟨q', hq', e⟩ := List.mem_map.mp c
    have h1 := (N q' (hmine q' hq')).1
    rw [e, (N q hq).1] at h1
    have : q' = q := Prod.ext e (Option.some.inj h1).symm
    exact .inl (this ▸ hq')
  · exact .inr (hideAll_get _ (N q hq).1 c)

theorem codeS_defM (mine : List (Addr × Obj)) (hmine : ∀ q ∈ mine, q ∈ news) (B : Below A₀ base outer h₀) (F : Fr h₀ L s.heap m) (X₀ : K.In h₀) (N : News h₀ L s.heap news) (T : Top p loose mean mg mb h₀) (hA : A.frames = some (env :: outer)) (hf : env.frame = some L) (hke : env.scope.kind = .function)
    (ho : K.lookup f = some ⟨oc, od, .func (fnOf name qual params body scope dV kV doc pm an cdv ct), osl⟩) (hcd : codeIn K cdv qual = true) (hroom : A.depth < recursionLimit)
    (hbind : BindsTo s (fnOf name qual params body scope dV kV doc pm an cdv ct) args binds) (hloc : ∀ y ∈ binds, scope.names.lookup y.1 = some .local)
    (h : ∀ g L' h₁, Fr h₀ L g m → Fr g L' h₁ (fun y => binds.reverse.lookup y) → News g L' h₁ mine → Rest g L h₀ mine news → (∀ q ∈ news, q.1 < L') → Below A base (env :: outer) g → K.In g → Top p loose mean mg mb g →
      wpS (model prog w) (A.deeper (envOf qual scope L' f cdv)) (execs body (envOf qual scope L' f cdv))
        (fun fl s' => LeaveK h₀ L m g R (match fl with | .ret v => v | _ => .none) s')
        (fun e s' => wpAny (model prog w) (A.deeper (envOf qual scope L' f cdv)) (leaving (envOf qual scope L' f cdv) e) (fun _ s'' => R (.error e) s'') (fun e' s'' => R (.error e') s'') s')
        { s with heap := h₁, toks := s.toks + binds.length })
    (hco : scope.isCoroutine = false) (hgen : scope.isGenerator = false) (hk : scope.kind = .function) (hcell : ∀ x ∈ scope.names, x.2 ≠ .cell) : codeS (model prog w) A (.call (.ref f) args) R s := by
  have NM : News h₀ L s.heap mine := fun q hq => N q (hmine q hq)
  obtain ⟨FG, BG, st, lv⟩ := groundX (R := R) B F NM hA hf hke
  have hlim := (T.nolimit).keeps F.keep
  refine codeS_call_function (fd := fnOf name qual params body scope dV kV doc pm an cdv ct) (body := body) hroom ((X₀.keeps F.keep) _ _ ho) rfl hco hgen rfl (codeRec_of (X₀.keeps F.keep) hcd) (hbind _ _ _ _ ?_)
  refine wpAny_newFunctionEnv hcell hloc (fun h₁ hns hsb => ⟨hlim.fresh _ hsb, codeS_func ?_⟩) hk
  have hk₁ : ∀ b o, s.heap.get? b = some o → h₁.get? b = some o := fun b o e => hsb.extBut b o (Nat.ne_of_lt (Heap.lt_size e)) (Heap.get?_push_of_some _ e)
  refine wpS_mono (h _ s.heap.objs.size h₁ FG ⟨hns, fun b o e => hk₁ b o (of_hideAll _ e), Nat.le_of_eq (hideAll_size _ _)⟩
    (fun q hq => ⟨hk₁ _ _ (NM q hq).1, Nat.ne_of_lt (Heap.lt_size (NM q hq).1), hideAll_none _ (List.mem_map_of_mem hq)⟩) (restOf N hmine) (fun q hq => Heap.lt_size (N q hq).1) BG (X₀.keeps st) (T.keeps st)) (fun fl s' hl => lv _ _ hl) fun _ _ y => y

theorem code_defM (mine : List (Addr × Obj)) (hmine : ∀ q ∈ mine, q ∈ news) (B : Below A₀ base outer h₀) (F : Fr h₀ L s.heap m) (X₀ : K.In h₀) (N : News h₀ L s.heap news) (T : Top p loose mean mg mb h₀) (hA : A.frames = some (env :: outer)) (hf : env.frame = some L) (hke : env.scope.kind = .function)
    (ho : K.lookup f = some ⟨oc, od, .func (fnOf name qual params body scope dV kV doc pm an cdv ct), osl⟩) (hcd : codeIn K cdv qual = true) (hroom : A.depth < recursionLimit)
    (hbind : BindsTo s (fnOf name qual params body scope dV kV doc pm an cdv ct) args binds) (hloc : ∀ y ∈ binds, scope.names.lookup y.1 = some .local)
    (h : ∀ g L' h₁, Fr h₀ L g m → Fr g L' h₁ (fun y => binds.reverse.lookup y) → News g L' h₁ mine → Rest g L h₀ mine news → (∀ q ∈ news, q.1 < L') → Below A base (env :: outer) g → K.In g → Top p loose mean mg mb g →
      wpAny (model prog w) (A.deeper (envOf qual scope L' f cdv)) (execs body (envOf qual scope L' f cdv))
        (fun fl s' => LeaveK h₀ L m g R (match fl with | .ret v => v | _ => .none) s')
        (fun e s' => wpAny (model prog w) (A.deeper (envOf qual scope L' f cdv)) (leaving (envOf qual scope L' f cdv) e) (fun _ s'' => R (.error e) s'') (fun e' s'' => R (.error e') s'') s')
        { s with heap := h₁, toks := s.toks + binds.length })
    (hco : scope.isCoroutine = false) (hgen : scope.isGenerator = false) (hk : scope.kind = .function) (hcell : ∀ x ∈ scope.names, x.2 ≠ .cell) : codeAny (model prog w) A (.call (.ref f) args) R s := by
  have NM : News h₀ L s.heap mine := fun q hq => N q (hmine q hq)
  obtain ⟨FG, BG, st, lv⟩ := groundX (R := R) B F NM hA hf hke
  have hlim := (T.nolimit).keeps F.keep
  refine codeAny_call_function (fd := fnOf name qual params body scope dV kV doc pm an cdv ct) (body := body) hroom ((X₀.keeps F.keep) _ _ ho) rfl hco hgen rfl (codeRec_of (X₀.keeps F.keep) hcd) (hbind _ _ _ _ ?_)
  refine wpAny_newFunctionEnv hcell hloc (fun h₁ hns hsb => ⟨hlim.fresh _ hsb, codeAny_func ?_⟩) hk
  have hk₁ : ∀ b o, s.heap.get? b = some o → h₁.get? b = some o := fun b o e => hsb.extBut b o (Nat.ne_of_lt (Heap.lt_size e)) (Heap.get?_push_of_some _ e)
  refine wpAny_mono (h _ s.heap.objs.size h₁ FG ⟨hns, fun b o e => hk₁ b o (of_hideAll _ e), Nat.le_of_eq (hideAll_size _ _)⟩
    (fun q hq => ⟨hk₁ _ _ (NM q hq).1, Nat.ne_of_lt (Heap.lt_size (NM q hq).1), hideAll_none _ (List.mem_map_of_mem hq)⟩) (restOf N hmine) (fun q hq => Heap.lt_size (N q hq).1) BG (X₀.keeps st) (T.keeps st)) (fun fl s' hl => lv _ _ hl) fun _ _ y => y
end
end Mine
namespace Mine
/-- Con, with nothing said of the new addresses -/
noncomputable def ConN (prog : Program) (w : World) (K : Frag) (p : Program) (loose : List Str) (mean : ExcName → Option Value) (mg mb : Str → Option Value) (f : Addr) (k : Nat) (news : List (Addr × Obj)) (vs : List Value) (Out : List (Addr × Obj) → Value → Prop) : Prop :=
  ∀ (dp un : Nat) (gd : Option (List Code)) (cn : Str) (cs : Scope) (a : Addr) (ccd : Value) (cl : List (Str × Addr)) (outer : List Env) (A₀ : Around) (base h₀ : Heap) (L : Addr) (m : Str → Option Value) (s : Shared) (Q E : Value → Shared → Prop),
    Below A₀ base outer h₀ → Fr h₀ L s.heap m → K.In h₀ → News h₀ L s.heap news → Top p loose mean mg mb h₀ → cs.kind = .function → dp + k < recursionLimit → un + 8 * k < cLine →
    (∀ r tl h' tk', Fr h₀ L h' m → News h₀ L h' (news ++ tl) → Out tl r → Q r { s with heap := h', toks := tk' }) →
    wpAny (model prog w) (ktrTop dp un gd cn cs L a ccd cl outer) (call (.ref f) vs) Q E s
/-- ConN over the Safe contexts -/
noncomputable def ConNS (prog : Program) (w : World) (K : Frag) (p : Program) (loose : List Str) (mean : ExcName → Option Value) (mg mb : Str → Option Value) (f : Addr) (k : Nat) (news : List (Addr × Obj)) (vs : List Value) (Out : List (Addr × Obj) → Value → Prop) : Prop :=
  ∀ (dp un : Nat) (gd : Option (List Code)) (cn : Str) (cs : Scope) (a : Addr) (ccd : Value) (cl : List (Str × Addr)) (outer : List Env) (A₀ : Around) (base h₀ : Heap) (L : Addr) (m : Str → Option Value) (s : Shared) (Q E : Value → Shared → Prop),
    Below A₀ base outer h₀ → Fr h₀ L s.heap m → K.In h₀ → News h₀ L s.heap news → Top p loose mean mg mb h₀ → cs.kind = .function → dp + k < recursionLimit → un + 8 * k < cLine →
    (∀ r tl h' tk', Fr h₀ L h' m → News h₀ L h' (news ++ tl) → Out tl r → Q r { s with heap := h', toks := tk' }) →
    wpS (model prog w) (ktrTop dp un gd cn cs L a ccd cl outer) (call (.ref f) vs) Q E s
section
variable {prog : Program} {w : World} {K : Frag} {p : Program} {loose : List Str} {mean : ExcName → Option Value} {mg mb : Str → Option Value} {f : Addr} {k : Nat} {news : List (Addr × Obj)} {vs : List Value} {Out : List (Addr × Obj) → Value → Prop}
    {dp un : Nat} {gd : Option (List Code)} {cn : Str} {cs : Scope} {a : Addr} {ccd : Value} {cl : List (Str × Addr)} {outer : List Env} {A₀ : Around} {base h₀ : Heap} {L : Addr} {m : Str → Option Value} {s : Shared} {Q E : Value → Shared → Prop}
theorem conN_use (C : ConN prog w K p loose mean mg mb f k news vs Out)
    (B : Below A₀ base outer h₀) (F : Fr h₀ L s.heap m) (X : K.In h₀) (N : News h₀ L s.heap news) (T : Top p loose mean mg mb h₀) (hk : cs.kind = .function) (hd : dp + k < recursionLimit) (hu : un + 8 * k < cLine)
    (ret : ∀ r tl h' tk', Fr h₀ L h' m → News h₀ L h' (news ++ tl) → Out tl r → Q r { s with heap := h', toks := tk' }) :
    wpAny (model prog w) (ktrTop dp un gd cn cs L a ccd cl outer) (call (.ref f) vs) Q E s := C _ _ _ _ _ _ _ _ _ _ _ _ _ _ _ _ _ B F X N T hk hd hu ret
theorem conNS_use (C : ConNS prog w K p loose mean mg mb f k news vs Out)
    (B : Below A₀ base outer h₀) (F : Fr h₀ L s.heap m) (X : K.In h₀) (N : News h₀ L s.heap news) (T : Top p loose mean mg mb h₀) (hk : cs.kind = .function) (hd : dp + k < recursionLimit) (hu : un + 8 * k < cLine)
    (ret : ∀ r tl h' tk', Fr h₀ L h' m → News h₀ L h' (news ++ tl) → Out tl r → Q r { s with heap := h', toks := tk' }) :
    wpS (model prog w) (ktrTop dp un gd cn cs L a ccd cl outer) (call (.ref f) vs) Q E s := C _ _ _ _ _ _ _ _ _ _ _ _ _ _ _ _ _ B F X N T hk hd hu ret
end
end Mine
end

section
open PySem PySem.W PyProof.Rows PySem.Calls
namespace Mine
open LCg
section
variable {prog : Program} {w : World} {A : Around} {E : Value → Shared → Prop} {s : Shared} {h₀ : Heap} {L : Addr} {m : Str → Option Value} {env : Env}

/-- what a comprehension over a walked value asks of it -/
structure SrcW (prog : Program) (w : World) (A : Around) (h₀ : Heap) (L : Addr) (m : Str → Option Value) (env : Env) (elt : Expr) (x : Str) (scope : Scope) (cl : List (Str × Addr)) (Q : Value → Shared → Prop) (E : Value → Shared → Prop) (xv : Value) (s₁ : Shared) : Prop where
  ex : ∃ (n : Nat) (P : Nat → Value → Prop) (OK : Nat → Obj → Prop) (o : Obj) (news : List (Addr × Obj)), Fr h₀ L s₁.heap m ∧ News h₀ L s₁.heap news ∧ n ≤ sizeLine ∧ OK 0 o ∧ o.isFreed = false ∧
    Walks prog w A s₁.heap.objs.size [s₁.heap.objs.size] [s₁.heap.objs.size] n P (fun i h => ∃ o, h.get? s₁.heap.objs.size = some o ∧ OK i o) ∧
    (∀ Q' : Value → Shared → Prop, Q' (.ref s₁.heap.objs.size) { s₁ with heap := s₁.heap.push o } → wpAny (model prog w) A (pyIter xv) Q' E s₁) ∧
    ∀ g, CompRest prog w A h₀ L m env elt x scope cl { s₁ with heap := g } (fun _ => True) P (FinE h₀ L m { s₁ with heap := g } Q) n 0 [] news

theorem ListComp_W {elt iter : Expr} {x : Str} {px : Pos} {scope : Scope} {cl : List (Str × Addr)} {pos pos' : Pos} {Q : Value → Shared → Prop}
    (hclos : closureFor scope env = pure cl) (hcell : ∀ y ∈ scope.names, y.2 ≠ .cell) (hkind : scope.kind = .function)
    (hnames : ∀ y ∈ scope.names, y.2 = .local → scope.names.lookup y.1 = some .local) (hx : scope.names.lookup x = some .local) {first : Sem Value}
    (h : wpAny (model prog w) A first (SrcW prog w A h₀ L m env elt x scope cl Q E) E s)
    (hs : ∀ x, foldedSetIterable iter env x = pure x := by intro _; rfl) :
    wpAny (model prog w) A (comprehension (.ListComp elt [⟨.Name x px, iter, [], 0⟩] scope pos) scope env pos' (newList []) false first none) Q E s := by
  refine wpAny_comprehension_free (use := none) rfl hs hclos hkind hnames (wpAny_mono h (fun xv s₁ h₁ => ?_) fun _ _ e => e)
  obtain ⟨⟨n, P, OK, o, news, F, N, hsz, hok, hfr, W, hit, R⟩⟩ := h₁
  refine hit _ ?_
  refine block_U (S := fun _ => True) W hsz (fun i h ⟨o, e, _⟩ => ⟨o, e⟩) (fun i h h' o nw ⟨o', e1, e2⟩ e3 e4 _ _ _ => ⟨o, e4, by rw [e3] at e1; cases e1; exact e2⟩) hcell hkind hx ⟨o, Heap.get?_push_size _ hfr, hok⟩ (fun b hb => ?_)
    (F.keeps fun _ _ e => Heap.get?_push_of_some _ e) (N.grown fun _ _ e => Heap.get?_push_of_some _ e) (Nat.ne_of_lt F.ns.lt) (next_is_new F) (fun p hp => Nat.ne_of_lt (Heap.lt_size (N p hp).1)) trivial (R _) ?_
  · rw [List.mem_singleton.mp hb]
    show s₁.heap.objs.size < (s₁.heap.push _).objs.size
    rw [Heap.size_push]; exact Nat.lt_succ_self _
  · intro D C h tk m' ys news' F' N' o1 hn hC₀ hD₀ hCL hDL hCD offC fin
    refine ⟨m', hn, fun h'' hs'' => fin D h'' tk (F'.change hs'' hCL hC₀) (fun p hp => ?_) o1⟩
    refine ⟨hs''.extBut _ _ ?_ (N' p hp).1, (N' p hp).2⟩
    rcases List.mem_cons.mp hp with rfl | hp
    · exact Ne.symm hCD
    · exact offC p hp

/-- the turns of a comprehension, each told by its item: y of it -/
theorem comp_turns {elt : Expr} {x : Str} {scope : Scope} {cl : List (Str × Addr)} {s : Shared} {P : Nat → Value → Prop} {Fin : List Value → List (Addr × Obj) → Prop} {news : List (Addr × Obj)} {n : Nat} (Y : Nat → Value → Prop)
    (turn : ∀ i v I oI C oC D m₂ ys h tk (E' : Value → Shared → Prop), i < n → P i v → NsObj oC m₂ → m₂ x = some v → Fr h₀ L h m → News h₀ L h ((I, oI) :: (C, oC) :: (D, lst ys) :: news) → Off3 I C D news → ((@Ne Nat I C) ∧ (@Ne Nat I D) ∧ (@Ne Nat C D)) →
      wpAny (model prog w) A (eval elt (compEnvC scope cl C env)) (CompEnd h₀ L m { s with heap := h, toks := tk } I oI C oC D (lst ys) (fun _ => True) (fun y news' => news' = news ∧ Y i y)) E' { s with heap := h, toks := tk })
    (fin : ∀ ys : List Value, ys.length = n → (∀ i y, ys[i]? = some y → Y i y) → Fin ys news) : CompRest prog w A h₀ L m env elt x scope cl s (fun _ => True) P Fin n 0 [] news := by
  have key : ∀ (j i : Nat) (ys : List Value), i + j = n → ys.length = i → (∀ k y, ys[k]? = some y → Y k y) → CompRest prog w A h₀ L m env elt x scope cl s (fun _ => True) P Fin j i ys news := by
    intro j
    induction j with
    | zero =>
      intro i ys hi hl hy
      exact CompRest.zero (fin ys (by omega) hy)
    | succ j ih =>
      intro i ys hi hl hy
      refine CompRest.succ ?_
      intro v I oI C oC D m₂ h tk E' hv hC hx F N off ne
      refine wpAny_mono (turn i v I oI C oC D m₂ ys h tk E' (by omega) hv hC hx F N off ne) (fun y s₂ hq => ?_) fun _ _ e => e
      obtain ⟨h', tk', nw, e, F', N', off', hS, hn, hyy⟩ := hq
      rw [hn] at N' off'
      refine ⟨h', tk', news, e, F', N', off', trivial, ?_⟩
      refine ih (i + 1) _ (by omega) (by simp; omega) ?_
      intro k y' hk
      by_cases hki : k < ys.length
      · rw [List.getElem?_append_left hki] at hk
        exact hy k y' hk
      · rw [List.getElem?_append_right (by omega)] at hk
        have : k - ys.length = 0 := by
          by_cases h0 : k - ys.length = 0
          · exact h0
          · rw [List.getElem?_eq_none (by simp; omega)] at hk; cases hk
        rw [this] at hk
        cases hk
        have : k = i := by omega
        rw [this]; exact hyy
  exact key n 0 [] (by omega) rfl (fun k y hk => by simp at hk)

theorem src_text {elt : Expr} {x : Str} {scope : Scope} {cl : List (Str × Addr)} {Q : Value → Shared → Prop} {xt : Str} {t : Tok} {s₁ : Shared} {news : List (Addr × Obj)} (hh : A.handled = none) (ha : xt.cps.all (· < 128) = true) (hl : xt.length ≤ 1000)
    (F : Fr h₀ L s₁.heap m) (N : News h₀ L s₁.heap news)
    (R : ∀ g, CompRest prog w A h₀ L m env elt x scope cl { s₁ with heap := g } (fun _ => True) (SignAt xt) (FinE h₀ L m { s₁ with heap := g } Q) xt.cps.size 0 [] news) :
    SrcW prog w A h₀ L m env elt x scope cl Q E (.str xt t) s₁ := by
  refine ⟨⟨xt.cps.size, SignAt xt, fun i o => o.cls = .type "str_ascii_iterator" ∧ o.data = .fields #[.str xt t, .int i 0], _, news, F, N, ?_, ⟨rfl, rfl⟩, rfl, Walks.strAscii hh _ xt t, fun Q' q => wpAny_pyIter_ascii ha q, R⟩⟩
  have : xt.cps.size ≤ 1000 := hl
  unfold sizeLine; omega

theorem src_bytes {elt : Expr} {x : Str} {scope : Scope} {cl : List (Str × Addr)} {Q : Value → Shared → Prop} {b : Array UInt8} {t : Tok} {s₁ : Shared} {news : List (Addr × Obj)} (hh : A.handled = none) (hl : b.size ≤ 1000)
    (F : Fr h₀ L s₁.heap m) (N : News h₀ L s₁.heap news)
    (R : ∀ g, CompRest prog w A h₀ L m env elt x scope cl { s₁ with heap := g } (fun _ => True) (fun i v => ∃ c u, b[i]? = some c ∧ v = .int (c.toNat : Int) u) (FinE h₀ L m { s₁ with heap := g } Q) b.size 0 [] news) :
    SrcW prog w A h₀ L m env elt x scope cl Q E (.bytes b t) s₁ := by
  refine ⟨⟨b.size, fun i v => ∃ c u, b[i]? = some c ∧ v = .int (c.toNat : Int) u, fun i o => o.cls = .type "bytes_iterator" ∧ o.data = .fields #[.bytes b t, .int i 0], _, news, F, N, ?_, ⟨rfl, rfl⟩, rfl, KBw.walks hh _ b t, fun Q' q => KBw.pyIter_bytes q, R⟩⟩
  unfold sizeLine; omega
end
end Mine
namespace Mine
open LCg
theorem ListComp_E {prog : Program} {w : World} {A : Around} {E : Value → Shared → Prop} {s : Shared} {h₀ : Heap} {L : Addr} {m : Str → Option Value} {env : Env} {elt iter : Expr} {x : Str} {px : Pos} {scope : Scope} {cl : List (Str × Addr)} {pos : Pos} {Q : Value → Shared → Prop} (F₀ : Fr h₀ L s.heap m)
    (hclos : closureFor scope env = pure cl) (hcell : ∀ y ∈ scope.names, y.2 ≠ .cell) (hkind : scope.kind = .function)
    (hnames : ∀ y ∈ scope.names, y.2 = .local → scope.names.lookup y.1 = some .local) (hx : scope.names.lookup x = some .local)
    (h : wpAny (model prog w) A (eval iter env) (SrcW prog w A h₀ L m env elt x scope cl Q E) E s)
    (hs : ∀ x, foldedSetIterable iter env x = pure x := by intro _; rfl) :
    wpAny (model prog w) A (eval (.ListComp elt [⟨.Name x px, iter, [], 0⟩] scope pos) env) Q E s := by
  rw [eval_ListComp]
  exact ListComp_W hclos hcell hkind hnames hx h hs
end Mine
end

section
open PySem PySem.W PyProof.Rows PySem.Calls
namespace Mine
section
variable {M : Model} {A : Around} {E : Value → Shared → Prop} {s : Shared} {env : Env}
theorem S_MethodCall {o : Expr} {name : Str} {apos pos : Pos} {args : List Expr} {pl : Sem Bool} {Q : Value → Shared → Prop}
    (h : wpAny M A (eval o env) (fun ov s₁ => wpAny M A (getMethod ov name pl) (fun fx s₂ => wpS M A (callWith pos fx.1 fx.2 (backTo pos (starEach args env)) []) Q E s₂) E s₁) E s)
    (he : eval (.Call (.Attribute o name apos) args [] pos) env = (do
      let ov ← eval o env
      standAt apos.atName
      let (f, first) ← holding [ov] (getMethod ov name pl)
      callWith pos f first (backTo pos (starEach args env)) []) := by rfl) :
    wpS M A (eval (.Call (.Attribute o name apos) args [] pos) env) Q E s := by
  rw [he]
  refine wpS_bindA (wpAny_mono h (fun ov s₁ h₁ => wpS_bindA (wpAny_standAt ?_)) fun _ _ x => x)
  refine wpS_bindA (wpAny_holding (wpAny_mono h₁ (fun fx s₂ h₂ => ?_) fun _ _ x => x))
  exact h₂
theorem S_evalArgs1 {f : Value} {x : Sem Value} {Q : Args → Shared → Prop} (h : wpS M A x (fun v s' => Q ⟨[v], []⟩ s') E s) : wpS M A (evalArgs f true [(false, x)] []) Q E s := by
  unfold evalArgs
  show wpS M A (spliced [(false, x)] >>= _) Q E s
  refine wpS_bind ?_
  show wpS M A (x >>= _) _ E s
  refine wpS_bind (wpS_mono h (fun v s' h' => ?_) fun _ _ x => x)
  refine wpS_of (wpAny_bind (wpAny_pure (wpAny_bind (wpAny_holding (wpAny_pure (wpAny_pure ?_))))))
  refine wpS_of (wpAny_holding ?_)
  exact wpAny_bind (wpAny_pure (wpAny_bind (wpAny_pure (wpAny_pure h'))))
theorem S_callB1 {id : String} {first : List Value} {e : Expr} {pos : Pos} {Q : Value → Shared → Prop}
    (h : wpS M A (eval e env) (fun v s₁ => wpAny M A (call (.builtin id) (first ++ [v])) Q E s₁) E s)
    (he : starEach [e] env = [(false, eval e env)] := by rfl) :
    wpS M A (callWith pos (.builtin id) first (backTo pos (starEach [e] env)) []) Q E s := by
  rw [he]
  show wpS M A (callWith pos (.builtin id) first [(false, eval e env)] []) Q E s
  refine S_callWith (P := fun _ => True) rfl (fun _ _ => ⟨.machine, .inr (.inl rfl), Looks.of_pure rfl⟩) (S_evalArgs1 (wpS_mono h (fun v s' q => ⟨trivial, wpS_of q⟩) fun _ _ x => x))
theorem pure_bindA {α β : Type} {x : α} {k : α → Sem β} {Q : β → Shared → Prop} (h : wpAny M A (pure x >>= k) Q E s) : wpAny M A (k x) Q E s := fun Γ p i => by
  have := h Γ p i
  rw [Sem.wp_bind'] at this
  exact this
theorem S_comprehension {e : Expr} {scope : Scope} {pos : Pos} {newAcc first : Sem Value} {a : Bool} {use : Option (Value → Sem Unit)} {Q : Value → Shared → Prop}
    (h : wpS M A first (fun x s₁ => wpAny M A (comprehension e scope env pos newAcc a (pure x) use) Q E s₁) E s) : wpS M A (comprehension e scope env pos newAcc a first use) Q E s := by
  unfold comprehension at h ⊢
  exact wpS_bind (wpS_mono h (fun x s₁ h₁ => wpS_of (pure_bindA h₁)) fun _ _ x => x)
end
section
variable {prog : Program} {w : World} {A : Around} {E : Value → Shared → Prop} {s : Shared} {h₀ : Heap} {L : Addr} {m : Str → Option Value} {env : Env}
theorem S_ListComp {elt iter : Expr} {x : Str} {px : Pos} {scope : Scope} {cl : List (Str × Addr)} {pos : Pos} {Q : Value → Shared → Prop}
    (hclos : closureFor scope env = pure cl) (hcell : ∀ y ∈ scope.names, y.2 ≠ .cell) (hkind : scope.kind = .function)
    (hnames : ∀ y ∈ scope.names, y.2 = .local → scope.names.lookup y.1 = some .local) (hx : scope.names.lookup x = some .local)
    (h : wpS (model prog w) A (eval iter env) (fun xv s₁ => ∃ h₀ L m, SrcW prog w A h₀ L m env elt x scope cl Q E xv s₁) E s)
    (hs : ∀ x, foldedSetIterable iter env x = pure x := by intro _; rfl) :
    wpS (model prog w) A (eval (.ListComp elt [⟨.Name x px, iter, [], 0⟩] scope pos) env) Q E s := by
  rw [eval_ListComp]
  refine S_comprehension (wpS_mono h (fun xv s₁ ⟨h₀, L, m, h₁⟩ => ?_) fun _ _ x => x)
  exact ListComp_W hclos hcell hkind hnames hx (wpAny_pure h₁) hs
end
/-- values told by their place are texts, in a list -/
theorem strs_of (g : Nat → Str) : ∀ (ys : List Value), (∀ (i : Nat) (y : Value), ys[i]? = some y → ∃ t, y = Value.str (g i) t) → ∃ l : List (Str × Tok), ys = strValues l ∧ l.map (·.1) = (List.range ys.length).map g
  | [], _ => ⟨[], rfl, rfl⟩
  | y :: ys, h => by
    obtain ⟨t, ht⟩ := h 0 y rfl
    obtain ⟨l, e1, e2⟩ := strs_of (fun i => g (i + 1)) ys (fun i y' hy => h (i + 1) y' hy)
    refine ⟨(g 0, t) :: l, ?_, ?_⟩
    · rw [ht, e1]; rfl
    · rw [List.map_cons, e2, List.length_cons, List.range_succ_eq_map, List.map_cons, List.map_map]; rfl
theorem ints_of (g : Nat → Int) : ∀ (ys : List Value), (∀ (i : Nat) (y : Value), ys[i]? = some y → ∃ t, y = Value.int (g i) t) → IntsAre ys ((List.range ys.length).map g)
  | [], _ => .nil
  | y :: ys, h => by
    obtain ⟨t, ht⟩ := h 0 y rfl
    have := ints_of (fun i => g (i + 1)) ys (fun i y' hy => h (i + 1) y' hy)
    rw [ht, List.length_cons, List.range_succ_eq_map, List.map_cons, List.map_map]
    exact .cons _ _ this
theorem join_signs_of (f : Nat → Nat) (n : Nat) : Txt.join (Str.ofString "") ((List.range n).map fun i => (⟨#[f i]⟩ : Str)) = ⟨((List.range n).map f).toArray⟩ := by
  have e : ((List.range n).map fun i => (⟨#[f i]⟩ : Str)) = signs ⟨((List.range n).map f).toArray⟩ := by
    simp [signs, List.map_map, Function.comp_def]
  rw [e, show Str.ofString "" = ⟨#[]⟩ by decide +kernel]
  unfold Txt.join
  rw [StrLaws.glued_eq_join]
  exact join_nil_signs _
end Mine
end

section
open PySem PySem.W PyProof.Rows PySem.Calls
namespace Mine
section
variable {prog : Program} {w : World} {A : Around} {E : Value → Shared → Prop} {s : Shared} {env : Env} {test : Expr} {body : List Stmt} {pos : Pos} {Q : Flow → Shared → Prop}

theorem codeS_whileLoop {R : Result → Shared → Prop} (I : Nat → Shared → Prop)
    (turn : ∀ n s, I n s → wpS (model prog w) A (isTrue test env (eval test env)) (fun b s₂ =>
        if b then wpS (model prog w) A (execs body env) (fun f s₃ => match f with
            | .next | .cont => ∃ m, m < n ∧ I m s₃
            | .brk => R (.ok .next) s₃
            | .ret v => R (.ok (.ret v)) s₃) (fun _ _ => False) s₂
        else R (.ok .next) s₂) (fun _ _ => False) s)
    (n : Nat) (h : I n s) : codeS (model prog w) A (.whileLoop test body [] env) R s := by
  refine codeS_loop rfl rfl I (fun n s hI => ?_) n h
  show wpS _ A ((whileTurn test body [] env).onRaise (fun x => do noteFrame x env; theTreesLotGoes x)) _ _ s
  refine wpS_onRaise ?_
  simp only [whileTurn]
  refine wpS_bind (wpS_mono (turn n s hI) (fun b s₂ h₂ => ?_) fun _ _ h' => h'.elim)
  cases b with
  | false =>
    simp only [Bool.false_eq_true, if_false] at h₂ ⊢
    exact wpS_of (wpAny_bind (wpAny_execs_nil (wpAny_pure h₂)))
  | true =>
    simp only [if_true] at h₂ ⊢
    refine wpS_bind (wpS_mono h₂ (fun f s₃ h₃ => ?_) fun _ _ h' => h'.elim)
    cases f with
    | next => exact wpS_pure ⟨rfl, h₃⟩
    | cont => exact wpS_pure ⟨rfl, h₃⟩
    | brk => exact wpS_pure h₃
    | ret v => exact wpS_pure h₃

theorem codeS_mono2 {M : Model} {c : Code} {R R' : Result → Shared → Prop} (h : codeS M A c R s) (hR : ∀ r s, R r s → R' r s) : codeS M A c R' s := fun Γ p e b sf => wpCode_mono hR (h Γ p e b sf)
theorem S_While (I : Nat → Shared → Prop)
    (turn : ∀ n s, I n s → wpS (model prog w) A (isTrue test env (eval test env)) (fun b s₂ =>
        if b then wpS (model prog w) A (execs body env) (fun f s₃ => match f with
            | .next | .cont => ∃ m, m < n ∧ I m s₃
            | .brk => Q .next s₃
            | .ret v => Q (.ret v) s₃) (fun _ _ => False) s₂
        else Q .next s₂) (fun _ _ => False) s)
    (n : Nat) (h : I n s) : wpS (model prog w) A (exec (.While test body [] pos) env) Q E s := by
  rw [exec_While]
  refine wpS_bind (wpS_standAt ?_)
  unfold runOwn
  refine wpS_onRaise (wpS_run ?_)
  exact codeS_mono2 (codeS_whileLoop (R := fun r s' => match r with | .ok f => Q f s' | .error _ => False) I turn n h) fun r s' q => by cases r with | ok f => exact q | error e => exact q.elim
end
end Mine
end

section
open PySem PySem.Sre
namespace Mine

theorem runFor_done (m : M) (h : m.outcome.isSome = true) : ∀ n, M.runFor n m = m
  | 0 => rfl
  | n + 1 => by simp [M.runFor, h]
theorem runFor_step (m : M) (h : m.outcome = none) (n : Nat) : M.runFor (n + 1) m = M.runFor n m.step := by simp [M.runFor, h]
theorem runFor_add : ∀ (a b : Nat) (m : M), M.runFor (a + b) m = M.runFor b (M.runFor a m)
  | 0, b, m => by simp [M.runFor]
  | a + 1, b, m => by
    cases h : m.outcome.isSome with
    | true => rw [runFor_done m h, runFor_done m h, runFor_done m h]
    | false =>
      have h' : m.outcome = none := by simpa using h
      rw [show a + 1 + b = (a + b) + 1 by omega, runFor_step m h', runFor_step m h', runFor_add a b]

theorem step_exec (m : M) (h1 : m.outcome = none) (h2 : m.answer = none) (h3 : m.pc < m.code.size) : m.step = m.exec := by
  unfold M.step
  rw [h1, h2]
  simp [h3]

noncomputable def hcode : Array Nat := #[14, 8, 1, 2, 4294967295, 1, 1, 46, 0, 16, 46, 24, 9, 1, 4294967295, 13, 4, 8, 0, 0, 1, 6, 5, 1]

/-- the machine at the start of the try at s -/
noncomputable def hst (text : Array Nat) (s : Nat) (first : Bool) (seen : Seen) : M :=
  { code := hcode, text, lim := text.size, start := s, lastStart := text.size, pc := 9, pos := s, handed := s, outermost := first, marks := #[], seen := seen,
    frames := [{ wait := .nextStart, pc := 9, pos := s, outermost := first }], weight := 1 }

theorem hst_next (text : Array Nat) (s : Nat) (first : Bool) (seen : Seen) (m : M)
    (hm : m = { hst text s first seen with answer := some false }) : m.step = if s < text.size then hst text (s + 1) false seen else { (hst text s first seen) with frames := [], weight := 0, answer := some false } := by
  subst hm
  by_cases h : s < text.size
  · rw [if_pos h]
    simp only [M.step, hst, Option.isSome_none, Bool.false_eq_true, if_false, M.resume, h, if_true]
    rfl
  · rw [if_neg h]
    simp only [M.step, hst, Option.isSome_none, Bool.false_eq_true, if_false, M.resume, h]
    rfl

theorem hst_lit (text : Array Nat) (s : Nat) (first : Bool) (seen : Seen) : ∃ seen',
    (hst text s first seen).step = if s < text.size ∧ text.getD s 0 = 46 then { hst text s first seen' with pc := 11, pos := s + 1 } else { hst text s first seen' with answer := some false } := by
  refine ⟨seen.add 16, ?_⟩
  by_cases h : s < text.size
  · by_cases h2 : text.getD s 0 = 46
    · rw [if_pos ⟨h, h2⟩]
      have hge : ¬ s ≥ text.size := by omega
      rw [step_exec (hst text s first seen) rfl rfl (show 9 < hcode.size by decide)]
      unfold M.exec
      show (if (hst text s first seen).pos ≥ (hst text s first seen).lim then _ else _) = _
      rw [if_neg (show ¬ (hst text s first seen).pos ≥ (hst text s first seen).lim from hge)]
      have ha : accepts hcode 9 (text.getD s 0) (seen.add 16) = .ok (true, seen.add 16) := by
        rw [h2]; rfl
      show (match accepts hcode 9 (text.getD s 0) (seen.add 16) with | .error why => _ | .ok (false, seen) => _ | .ok (true, seen) => _) = _
      rw [ha]
      rfl
    · rw [if_neg (fun q => h2 q.2)]
      have hge : ¬ s ≥ text.size := by omega
      rw [step_exec (hst text s first seen) rfl rfl (show 9 < hcode.size by decide)]
      unfold M.exec
      show (if (hst text s first seen).pos ≥ (hst text s first seen).lim then _ else _) = _
      rw [if_neg (show ¬ (hst text s first seen).pos ≥ (hst text s first seen).lim from hge)]
      have ha : accepts hcode 9 (text.getD s 0) (seen.add 16) = .ok (false, seen.add 16) := by
        have : (text.getD s 0 == 46) = false := by simpa using h2
        show Except.ok (text.getD s 0 == 46, seen.add 16) = _
        rw [this]
      show (match accepts hcode 9 (text.getD s 0) (seen.add 16) with | .error why => _ | .ok (false, seen) => _ | .ok (true, seen) => _) = _
      rw [ha]
      rfl
  · rw [if_neg (fun q => h q.1)]
    have hge : s ≥ text.size := by omega
    rw [step_exec (hst text s first seen) rfl rfl (show 9 < hcode.size by decide)]
    unfold M.exec
    show (if (hst text s first seen).pos ≥ (hst text s first seen).lim then _ else _) = _
    rw [if_pos (show (hst text s first seen).pos ≥ (hst text s first seen).lim from hge)]
    rfl

theorem hset_no (c : Nat) (seen : Seen) (h : isDigit c = false) : ∃ seen', accepts hcode 15 c seen = .ok (false, seen') := by
  have hc : category 0 c = .ok false := by
    unfold category
    simp [h, Except.map]
  refine ⟨((seen.add 8).add 55).add 0, ?_⟩
  show inSet hcode c 24 17 true seen = _
  unfold inSet
  show (do if ← category 0 c then pure (true, (seen.add 8).add 55) else inSet hcode c 23 19 true ((seen.add 8).add 55)) = _
  rw [hc]
  rfl

theorem hrep (text : Array Nat) (s : Nat) (first : Bool) (seen : Seen) (hd : ∀ i, isDigit (text.getD i 0) = false) : ∃ seen',
    M.step { hst text s first seen with pc := 11, pos := s + 1 } = { hst text s first seen' with pc := 11, pos := s + 1, answer := some false } := by
  rw [step_exec { hst text s first seen with pc := 11, pos := s + 1 } rfl rfl (show 11 < hcode.size by decide)]
  by_cases hr : ((1 : Nat) : Int) > (text.size : Int) - ((s + 1 : Nat) : Int)
  · refine ⟨seen.add 24, ?_⟩
    unfold M.exec
    show (if ((1 : Nat) : Int) > (text.size : Int) - ((s + 1 : Nat) : Int) then _ else _) = _
    rw [if_pos hr]
    rfl
  · have hrun : ∃ seen', Sre.run hcode text 15 (min 4294967295 ((text.size : Int) - ((s + 1 : Nat) : Int)).toNat) (s + 1) 0 ((seen.add 24).add 13) = .ok (0, seen') := by
      obtain ⟨n, hn⟩ : ∃ n, min 4294967295 ((text.size : Int) - ((s + 1 : Nat) : Int)).toNat = n + 1 := ⟨min 4294967295 ((text.size : Int) - ((s + 1 : Nat) : Int)).toNat - 1, by omega⟩
      rw [hn]
      obtain ⟨seen', h'⟩ := hset_no (text.getD (s + 1) 0) ((seen.add 24).add 13) (hd _)
      refine ⟨seen', ?_⟩
      unfold Sre.run
      rw [h']
      rfl
    obtain ⟨seen', hrun⟩ := hrun
    refine ⟨seen', ?_⟩
    unfold M.exec
    show (if ((1 : Nat) : Int) > (text.size : Int) - ((s + 1 : Nat) : Int) then _ else
      match Sre.run hcode text 15 (min 4294967295 ((text.size : Int) - ((s + 1 : Nat) : Int)).toNat) (s + 1) 0 ((seen.add 24).add 13) with | .error why => _ | .ok (n, seen) => _) = _
    rw [if_neg hr, hrun]
    rfl

theorem hnext2 (text : Array Nat) (s : Nat) (first : Bool) (seen : Seen) :
    M.step { hst text s first seen with pc := 11, pos := s + 1, answer := some false } = if s < text.size then hst text (s + 1) false seen else { (hst text s first seen) with frames := [], weight := 0, answer := some false } := by
  by_cases h : s < text.size
  · rw [if_pos h]
    simp only [M.step, hst, Option.isSome_none, Bool.false_eq_true, if_false, M.resume, h, if_true]
    rfl
  · rw [if_neg h]
    simp only [M.step, hst, Option.isSome_none, Bool.false_eq_true, if_false, M.resume, h]
    rfl

theorem hlast (text : Array Nat) (s : Nat) (first : Bool) (seen : Seen) : ∃ m, M.runFor 1 { (hst text s first seen) with frames := [], weight := 0, answer := some false } = m ∧ m.outcome = some .failed := ⟨_, rfl, rfl⟩

theorem hsearch (text : Array Nat) (hd : ∀ i, isDigit (text.getD i 0) = false) : ∀ (n s : Nat) (first : Bool) (seen : Seen), s ≤ text.size → text.size - s = n → ∃ k, k ≤ 4 * (n + 1) ∧ (M.runFor k (hst text s first seen)).outcome = some .failed := by
  intro n
  induction n with
  | zero =>
    intro s first seen hs hn
    have hs' : ¬ s < text.size := by omega
    obtain ⟨seen', e1⟩ := hst_lit text s first seen
    rw [if_neg (fun q => hs' q.1)] at e1
    have e2 := hst_next text s first seen' _ rfl
    rw [if_neg hs'] at e2
    refine ⟨3, by omega, ?_⟩
    rw [runFor_step _ rfl, e1, runFor_step _ rfl, e2]
    rfl
  | succ n ih =>
    intro s first seen hs hn
    have hs' : s < text.size := by omega
    obtain ⟨seen', e1⟩ := hst_lit text s first seen
    by_cases hc : text.getD s 0 = 46
    · rw [if_pos ⟨hs', hc⟩] at e1
      obtain ⟨seen'', e2⟩ := hrep text s first seen' hd
      have e3 := hnext2 text s first seen''
      rw [if_pos hs'] at e3
      obtain ⟨k, hk, e⟩ := ih (s + 1) false seen'' (by omega) (by omega)
      refine ⟨k + 3, by omega, ?_⟩
      rw [show k + 3 = k + 1 + 1 + 1 by omega, runFor_step _ rfl, e1, runFor_step _ rfl, e2, runFor_step _ rfl, e3]
      exact e
    · rw [if_neg (fun q => hc q.2)] at e1
      have e3 := hst_next text s first seen' _ rfl
      rw [if_pos hs'] at e3
      obtain ⟨k, hk, e⟩ := ih (s + 1) false seen' (by omega) (by omega)
      refine ⟨k + 2, by omega, ?_⟩
      rw [show k + 2 = k + 1 + 1 by omega, runFor_step _ rfl, e1, runFor_step _ rfl, e3]
      exact e

theorem hfor (text : Array Nat) (hd : ∀ i, isDigit (text.getD i 0) = false) : ∃ k, k ≤ 4 * (text.size + 1) ∧ (M.runFor k (forSearch hcode text 0 0 text.size false)).outcome = some .failed := by
  by_cases h : text.size < 2
  · refine ⟨1, by omega, ?_⟩
    have : forSearch hcode text 0 0 text.size false = M.say { code := hcode, text, lim := text.size, start := 0, pc := 9, pos := 0, handed := 0, marks := #[], seen := ({} : Seen).add 14 } false := by
      unfold forSearch
      show (if (decide (0 > text.size) || decide (text.size - 0 < 2)) = true then _ else _) = _
      rw [if_pos (by simp; omega)]
      rfl
    rw [this]
    rfl
  · have : forSearch hcode text 0 0 text.size false = hst text 0 true (({} : Seen).add 14) := by
      unfold forSearch
      show (if (decide (0 > text.size) || decide (text.size - 0 < 2)) = true then _ else _) = _
      rw [if_neg (by simp; omega)]
      rfl
    rw [this]
    obtain ⟨k, hk, e⟩ := hsearch text hd text.size 0 true (({} : Seen).add 14) (by omega) (by omega)
    exact ⟨k, hk, e⟩
end Mine
end

section
open PySem PySem.W PyProof.Rows PySem.Calls
namespace Mine
noncomputable def commentT (x : Str) : Str := if (Txt.rstrip x).length = 0 then Str.ofString "#" else Str.ofString "# " ++ Txt.rstrip x
set_option maxRecDepth 100000 in
set_option maxHeartbeats 8000000 in
theorem c_comment {w : World} {loose : List Str} {mean : ExcName → Option Value} {mg mb : Str → Option Value} (news : List (Addr × Obj)) (x : Str) (t : Tok) (hx : x.length ≤ 100) :
    Con PySem.Challenge.rw_zo0007_01.row.prog w (hd.heap_39 w.params) hd.view_39 loose mean mg mb 38 3 news [.str x t] (fun _ r => ∃ t', r = .str (commentT x) t') := by
  w_on
  k_with_none
  k_fill
  unfold Con
  intro dp un gd cn cs a ccd cl outer A₀ base h₀ L m s Q E B F X N T hk hd hu hret
  refine wpAny_call ?_
  k_dflt cell_enter
  k_steps
  · refine con_retS hret (by assumption) (by assumption) (fun t' => ⟨t', rfl⟩) ?_
    unfold commentT
    rw [if_neg (by omega)]
  · refine con_retS hret (by assumption) (by assumption) (fun t' => ⟨t', rfl⟩) ?_
    unfold commentT
    rw [if_pos (by omega)]
end Mine
end

section
open PySem PySem.W PyProof.Rows PySem.Calls
open PySem.Builtin.Re
set_option maxRecDepth 100000
namespace Mine
theorem plainAttrs_pat : PlainAttrs "re.Pattern" :=
  ⟨⟨"object.__getattribute__", by rw [typeLookup_type, builtinLookup_eq_fast]; kernel_rfl, by decide +kernel⟩, by rw [typeLookup_type, builtinLookup_eq_fast]; kernel_rfl⟩
theorem slot_search : Slot "re.Pattern" "search" "re.Pattern.search" :=
  .of (owner := "re.Pattern") (n := "search") (by rw [typeLookup_type, builtinLookup_eq_fast]; kernel_rfl) (by decide +kernel) (by decide +kernel) (by decide +kernel)
    (by first | exact .inl (by decide +kernel) | exact .inr (by decide +kernel)) (by rw [isSubtype_type]; kernel_rfl)
theorem type_search : typeOf (.builtin "re.Pattern.search") = pure (.type "method_descriptor") := by show builtinType _ = _; rw [builtinType_eq_fast]; kernel_rfl
theorem entry_search : entryFor table "re.Pattern.search" = some Builtin.«re.Pattern.search» := entryFor_of_tree (by kernel_rfl)
theorem args_search (a b : Value) : argsOk "re.Pattern.search" ⟨[a, b], []⟩ := by unfold argsOk; kernel_rfl

section
variable {M : Model} {A : Around} {E : Value → Shared → Prop} {s : Shared}

theorem drive_any (Q : Sre.M → Shared → Prop) : ∀ (turns : Nat) (m : Sre.M), m.outcome = none → (m.runFor (4 * turns)).outcome.isSome = true → Q (m.runFor (4 * turns)) s → wpAny M A (reDrive turns m) Q E s
  | 0, m, h0, h, _ => by rw [show m.runFor (4 * 0) = m from rfl, h0] at h; cases h
  | turns + 1, m, h0, h, q => by
    rw [show 4 * (turns + 1) = 4 + 4 * turns by omega, runFor_add] at h q
    unfold reDrive
    show wpAny M A (if (m.runFor 4).outcome.isSome = true then pure (m.runFor 4) else _) Q E s
    cases h1 : (m.runFor 4).outcome.isSome with
    | true =>
      rw [if_pos rfl]
      rw [runFor_done _ h1] at q
      exact wpAny_pure q
    | false =>
      rw [if_neg Bool.false_ne_true]
      exact wpAny_bind (wpAny_rule (drive_any Q turns _ (show (m.runFor 4).outcome = none by simpa using h1) h q))

theorem seen_any {Q : PUnit → Shared → Prop} (c : Nat → Bool) (tag : Nat → String) (q : Q ⟨⟩ s) : ∀ l : List Nat,
    wpAny M A (forIn l (⟨⟩ : PUnit) (fun i r => do if c i = true then rule (tag i); pure (ForInStep.yield r) else pure (ForInStep.yield r))) Q E s
  | [] => wpAny_pure q
  | i :: l => by
    rw [List.forIn_cons]
    cases h : c i with
    | true => simp only [if_true]; exact wpAny_bind (wpAny_bind (wpAny_rule (wpAny_pure (seen_any c tag q l))))
    | false => simp only [Bool.false_eq_true, if_false]; exact wpAny_bind (wpAny_pure (seen_any c tag q l))
end

theorem run_none {M : Model} {A : Around} {E : Value → Shared → Prop} {s : Shared} {Q : Option Sre.M → Shared → Prop} (m : Sre.M) (k : Nat) (hk : k ≤ 4 * 2 ^ 64) (h0 : m.outcome = none) (h : (m.runFor k).outcome = some .failed) (q : Q none s) :
    wpAny M A (reRunToEnd m) Q E s := by
  have e : m.runFor (4 * 2 ^ 64) = m.runFor k := by
    rw [show 4 * 2 ^ 64 = k + (4 * 2 ^ 64 - k) by omega, runFor_add, runFor_done _ (by rw [h]; rfl)]
  unfold reRunToEnd
  refine wpAny_bind (drive_any _ (2 ^ 64) m h0 (by rw [e, h]; rfl) ?_)
  rw [e]
  refine wpAny_bind (seen_any _ _ ?_ _)
  rw [h]
  exact wpAny_pure q

abbrev patObj : Obj := { cls := .type "re.Pattern", data := .fields #[.str (Str.ofString "\\.\\d+$") 343, .int 256 370, .int 0 0, .none, .none, .ref 74, .int 0 0] }
abbrev codeObj : Obj := { cls := .type "tuple", data := .seq #[.int 14 0, .int 8 0, .int 1 0, .int 2 0, .int 4294967295 0, .int 1 0, .int 1 0, .int 46 0, .int 0 0, .int 16 0, .int 46 0, .int 24 0, .int 9 0, .int 1 0, .int 4294967295 0, .int 13 0, .int 4 0, .int 8 0, .int 0 0, .int 0 0, .int 1 0, .int 6 0, .int 5 0, .int 1 0] }

theorem named_search (x : Str) (t : Tok) : reNamed "re.Pattern.search" "search" ["string", "pos", "endpos"] 1 [.str x t] [] = pure [some (.str x t), none, none] := rfl

theorem answer_none {M : Model} {A : Around} {E : Value → Shared → Prop} {s : Shared} {Q : Value → Shared → Prop} (t : ReTarget) (text : Array Nat) (h1 : t.code = hcode) (h2 : t.text = text) (h3 : t.groups = 0) (h4 : t.pos = 0) (h5 : t.lim = text.size)
    (hx : text.size ≤ 1000) (hd : ∀ i, Sre.isDigit (text.getD i 0) = false) (q : Q .none s) :
    wpAny M A (reAnswer t (Sre.forSearch t.code t.text t.groups t.pos t.lim false)) (fun fin s' => ∃ v, fin = .done (.ret v) ∧ Q v s') E s := by
  rw [h1, h2, h3, h4, h5]
  obtain ⟨k, hk, hf⟩ := hfor text hd
  unfold reAnswer
  refine wpAny_bind (run_none _ k (by omega) ?_ hf ?_)
  · unfold Sre.forSearch
    show (if (decide (0 > text.size) || decide (text.size - 0 < 2)) = true then _ else _ : Sre.M).outcome = none
    split <;> rfl
  · exact wpAny_pure ⟨_, rfl, q⟩

theorem call_search {prog : Program} {w : World} {A : Around} {E : Value → Shared → Prop} {s : Shared} {x : Str} {t : Tok} {Q : Value → Shared → Prop} (hp : s.heap.get? 75 = some patObj) (hc : s.heap.get? 74 = some codeObj)
    (hx : x.length ≤ 1000) (hd : ∀ i, Sre.isDigit (x.cps.getD i 0) = false) (q : Q .none s) :
    wpAny (model prog w) A (call (.builtin "re.Pattern.search") [.ref 75, .str x t]) Q E s := by
  have hT : s.TypeIs (.ref 75) "re.Pattern" := ⟨_, hp, rfl⟩
  refine wpAny_call_entry slot_search hT entry_search ?_ (args_search _ _)
  unfold Builtin.«re.Pattern.search» reTarget
  show wpAny _ _ (((reNamed "re.Pattern.search" "search" ["string", "pos", "endpos"] 1 [.str x t] []) >>= _) >>= _) _ _ _
  rw [named_search]
  refine wpAny_bind (wpAny_bind (wpAny_pure ?_))
  refine wpAny_bind (wpAny_pure ?_)
  refine wpAny_bind (wpAny_pure ?_)
  refine wpAny_bind (wpAny_bind (wpAny_load hp (wpAny_pure ?_)))
  refine wpAny_bind (m := reTextOf (.str x t)) (wpAny_pure ?_)
  refine wpAny_bind (m := reNoCollectionInside (.str x t) 0) (wpAny_pure ?_)
  refine wpAny_bind (wpAny_bind (wpAny_bind (wpAny_load hc (wpAny_pure (wpAny_pure ?_)))))
  refine wpAny_pure ?_
  refine answer_none _ x.cps ?_ rfl rfl (Nat.zero_min _) ?_ hx hd q
  · dsimp only; decide +kernel
  show min (2 ^ 63 - 1 : Int).toNat x.cps.size = x.cps.size
  have : x.cps.size ≤ 1000 := hx
  omega
end Mine
end

section
open PySem PySem.W PyProof.Rows PySem.Calls
namespace Mine
section
variable {w : World} {M : Model} {A : Around} {E : Value → Shared → Prop} {s : Shared}
theorem getM_search {pl : Sem Bool} {Q : Value × List Value → Shared → Prop} (X : (hd.heap_39 w.params).In s.heap) (h : Q (.builtin "re.Pattern.search", [.ref 75]) s) : wpAny M A (getMethod (.ref 75) "search" pl) Q E s :=
  getMethod_builtin ⟨_, X 75 patObj rfl, rfl⟩ plainAttrs_pat slot_search type_search (fun a e => by cases e; exact ⟨_, X 75 patObj rfl, rfl⟩) h
theorem call_searchK {prog : Program} {x : Str} {t : Tok} {Q : Value → Shared → Prop} (X : (hd.heap_39 w.params).In s.heap)
    (hx : x.length ≤ 1000) (hd : ∀ i, Sre.isDigit (x.cps.getD i 0) = false) (q : Q .none s) :
    wpAny (model prog w) A (call (.builtin "re.Pattern.search") [.ref 75, .str x t]) Q E s := call_search (X 75 patObj rfl) (X 74 codeObj rfl) hx hd q
end
set_option maxRecDepth 100000 in
set_option maxHeartbeats 8000000 in
theorem c_hdn {w : World} {loose : List Str} {mean : ExcName → Option Value} {mg mb : Str → Option Value} (news : List (Addr × Obj)) (x : Str) (t : Tok) (hx : x.length ≤ 100) (hx0 : 0 < x.length) (he : (x == Str.ofString "") = false) (hf : (Txt.item x 0 == Str.ofString ".") = false) (hl : (Txt.item x (-1) == Str.ofString ".") = false)
    (hdig : ∀ i, Sre.isDigit (x.cps.getD i 0) = false) :
    Con PySem.Challenge.rw_zo0007_01.row.prog w (hd.heap_39 w.params) hd.view_39 loose mean mg mb 82 3 news [.str x t] (fun _ r => r = .bool true) := by
  w_on
  k_with_none
  k_fill
  unfold Con
  intro dp un gd cn cs a ccd cl outer A₀ base h₀ L m s Q E B F X N T hk hd hu hret
  refine wpAny_call ?_
  k_dflt cell_enter
  k_with "getMethod ref" => (refine getM_search (by k_in) ?_)
  k_with "call builtin:re.Pattern.search" => (refine call_searchK (by k_in) (by omega) hdig ?_)
  k_steps
  all_goals first
    | exact con_ret0 hret (by assumption) (by assumption) rfl
    | (exfalso; simp_all; done)
end Mine
end

section
open PySem PySem.W PyProof.Rows PySem.Calls
namespace Mine
set_option maxRecDepth 100000 in
set_option maxHeartbeats 8000000 in
theorem c_reachNo {w : World} {loose : List Str} {mean : ExcName → Option Value} {mg mb : Str → Option Value} (news : List (Addr × Obj)) (x : Str) (t : Tok) (hx : x.length ≤ 100) (hi : Txt.find x (Str.ofString ".") < 0) :
    Con PySem.Challenge.rw_zo0007_01.row.prog w (hd.heap_39 w.params) hd.view_39 loose mean mg mb 89 6 news [.str x t] (fun _ r => r = .str x t) := by
  w_on
  k_with_none
  k_fill
  unfold Con
  intro dp un gd cn cs a ccd cl outer A₀ base h₀ L m s Q E B F X N T hk hd hu hret
  refine wpAny_call ?_
  k_dflt cell_enter
  k_steps
  all_goals exact con_ret0 hret (by assumption) (by assumption) rfl

set_option maxRecDepth 100000 in
set_option maxHeartbeats 8000000 in
theorem c_reach {w : World} {loose : List Str} {mean : ExcName → Option Value} {mg mb : Str → Option Value} (news : List (Addr × Obj)) (x b : Str) (t : Tok) (hx : x.length ≤ 100) (hi : 0 ≤ Txt.find x (Str.ofString "."))
    (hx0 : 0 < x.length) (he : (x == Str.ofString "") = false) (hf : (Txt.item x 0 == Str.ofString ".") = false) (hl : (Txt.item x (-1) == Str.ofString ".") = false)
    (hdig : ∀ i, Sre.isDigit (x.cps.getD i 0) = false) (hb : Txt.slice x (some (Txt.find x (Str.ofString ".") + 1)) none = b) (hbb : 0 ≤ Txt.find b (Str.ofString ".") ∨ (b == Str.ofString "local") = true) :
    Con PySem.Challenge.rw_zo0007_01.row.prog w (hd.heap_39 w.params) hd.view_39 loose mean mg mb 89 6 news [.str x t] (fun _ r => ∃ t', r = .str (Str.ofString "." ++ b) t') := by
  w_on
  k_with_none
  k_fill
  unfold Con
  intro dp un gd cn cs a ccd cl outer A₀ base h₀ L m s Q E B F X N T hk hd hu hret
  refine wpAny_call ?_
  k_dflt cell_enter
  k_with "call ref" => (refine con_use0 (c_hdn _ x _ hx hx0 he hf hl hdig) (by k_asm) (by k_asm) (by k_asm) (by k_asm) (by k_asm) rfl (by ktr_room) (by ktr_units) ?_; intro r9 h9 tk9 F9 N9 e9; subst e9; (try dsimp only); (try k_fold))
  k_steps
  all_goals first
    | exact con_retS hret (by assumption) (by assumption) (fun t' => ⟨t', rfl⟩) (by rw [hb])
    | (exfalso; rw [hb] at *; rcases hbb with hbb | hbb <;> first | omega | (simp_all; done))
end Mine
end

section
open PySem PySem.W PyProof.Rows PySem.Calls
namespace Mine
set_option maxRecDepth 100000 in
set_option maxHeartbeats 8000000 in
theorem c_takenNo {w : World} {loose : List Str} {mean : ExcName → Option Value} {mg mb : Str → Option Value} (news : List (Addr × Obj)) (x : Str) (t : Tok) (hx : x.length ≤ 100) (hi : Txt.find x (Str.ofString ".") < 0) :
    Con PySem.Challenge.rw_zo0007_01.row.prog w (hd.heap_39 w.params) hd.view_39 loose mean mg mb 122 9 news [.str x t] (fun tl r => ∃ q t1 t2, r = .ref q ∧ tl = [(q, tup2 (.str (Str.ofString " ") t1) (.str x t2))]) := by
  w_on
  k_with_none
  k_fill
  unfold Con
  intro dp un gd cn cs a ccd cl outer A₀ base h₀ L m s Q E B F X N T hk hd hu hret
  refine wpAny_call ?_
  k_dflt cell_enter
  k_with "call ref" => (refine con_use0 (c_reachNo _ x _ hx hi) (by k_asm) (by k_asm) (by k_asm) (by k_asm) (by k_asm) rfl (by ktr_room) (by ktr_units) ?_; intro r9 h9 tk9 F9 N9 e9; subst e9; (try dsimp only); (try k_fold))
  k_steps
  all_goals first
    | exact con_ret1 hret (by assumption) (by assumption) (by assumption) ⟨_, _, _, rfl, rfl⟩
    | (exfalso; simp_all; done)

set_option maxRecDepth 100000 in
set_option maxHeartbeats 8000000 in
theorem c_taken {w : World} {loose : List Str} {mean : ExcName → Option Value} {mg mb : Str → Option Value} (news : List (Addr × Obj)) (x b : Str) (t : Tok) (hx : x.length ≤ 100) (hi : 0 ≤ Txt.find x (Str.ofString "."))
    (hx0 : 0 < x.length) (he : (x == Str.ofString "") = false) (hf : (Txt.item x 0 == Str.ofString ".") = false) (hl : (Txt.item x (-1) == Str.ofString ".") = false)
    (hdig : ∀ i, Sre.isDigit (x.cps.getD i 0) = false) (hb : Txt.slice x (some (Txt.find x (Str.ofString ".") + 1)) none = b) (hbb : 0 ≤ Txt.find b (Str.ofString ".") ∨ (b == Str.ofString "local") = true)
    (hne : (Str.ofString "." ++ b == x) = false) (hbl : b.length ≤ x.length) :
    Con PySem.Challenge.rw_zo0007_01.row.prog w (hd.heap_39 w.params) hd.view_39 loose mean mg mb 122 9 news [.str x t]
      (fun tl r => ∃ q t1 t2, r = .ref q ∧ tl = [(q, tup2 (.str (Txt.slice x none (some ((x.length : Int) - ((Str.ofString "." ++ b).length : Int)))) t1) (.str (Txt.slice (Str.ofString "." ++ b) (some 1) none) t2))]) := by
  w_on
  k_with_none
  k_fill
  unfold Con
  intro dp un gd cn cs a ccd cl outer A₀ base h₀ L m s Q E B F X N T hk hd hu hret
  refine wpAny_call ?_
  k_dflt cell_enter
  have hbl2 : (Str.ofString "." ++ b).length ≤ 102 := by
    rw [Str.length_append]
    have : (Str.ofString ".").length = 1 := by decide +kernel
    omega
  k_with "call ref" => (refine con_use0 (c_reach _ x b _ hx hi hx0 he hf hl hdig hb hbb) (by k_asm) (by k_asm) (by k_asm) (by k_asm) (by k_asm) rfl (by ktr_room) (by ktr_units) ?_; intro r9 h9 tk9 F9 N9 e9; (refine Exists.elim e9 ?_; clear e9; intro t9 e9; subst e9); (try dsimp only); (try k_fold))
  k_steps
  all_goals first
    | exact con_ret1 hret (by assumption) (by assumption) (by assumption) ⟨_, _, _, rfl, rfl⟩
    | (exfalso; simp_all; done)
end Mine
end

section
open PySem PySem.W PyProof.Rows PySem.Calls
namespace Mine
theorem strValues_take (l : List (Str × Tok)) (n : Nat) : (strValues l).take n = strValues (l.take n) := by simp [strValues, List.map_take]
theorem call_joinBut {prog : Program} {w : World} {A : Around} {E : Value → Shared → Prop} {s : Shared} {h₀ : Heap} {L D : Addr} {news : List (Addr × Obj)} {l : List (Str × Tok)} {x y : Str} {t : Tok} {n : Nat} {Q : Value → Shared → Prop}
    (N : News h₀ L s.heap news) (hm : (D, ({ cls := .type "list", data := .seq (slicePick (strValues l).toArray none (some (-1)) none) n } : Obj)) ∈ news) (e : l.map (·.1) = Txt.split x y) (hx : x.length ≤ 100)
    (h : ∀ t' k, Q (.str (Txt.join (Str.ofString "") (Txt.split x y).dropLast) t') { s with toks := k }) : wpAny (model prog w) A (call (.builtin "str.join") [.str (Str.ofString "") t, .ref D]) Q E s := by
  have e1 : slicePick (strValues l).toArray none (some (-1)) none = (strValues (l.take (l.length - 1))).toArray := by
    have := slicePick_butLast (strValues l).toArray 1 (Nat.le_refl 1)
    rw [show (-((1 : Nat) : Int)) = (-1 : Int) by rfl] at this
    rw [this, strValues_take]
    simp [strValues]
  rw [e1] at hm
  have e2 : (l.take (l.length - 1)).map (·.1) = (Txt.split x y).dropLast := by
    rw [← e, List.dropLast_eq_take, List.map_take, List.length_map]
  have hlen : (Txt.split x y).dropLast.length ≤ 102 := by
    have := split_le x y
    rw [List.length_dropLast]; omega
  have hz : (Str.ofString "").length = 0 := by decide +kernel
  refine SC.join (N.isList hm) e2 ?_ h
  unfold JoinOk
  rw [StrLaws.joinFits (B := 100) ?_ ?_]
  · rfl
  · intro z hzm
    have := part_short (x := x) (y := y) (List.mem_of_mem_take (List.dropLast_eq_take ▸ hzm))
    omega
  · rw [hz]
    omega

set_option maxRecDepth 100000 in
set_option maxHeartbeats 8000000 in
theorem c_signs {w : World} {loose : List Str} {mean : ExcName → Option Value} {mg mb : Str → Option Value} (news : List (Addr × Obj)) (x : Str) (t : Tok) (hx : x.length ≤ 100) :
    Con PySem.Challenge.rw_zo0007_01.row.prog w (hd.heap_39 w.params) hd.view_39 loose mean mg mb 129 3 news [.str x t] (fun _ r => ∃ t', r = .str (Txt.join (Str.ofString "") (Txt.split x (Str.ofString ".")).dropLast) t') := by
  w_on
  k_with_none
  k_fill
  unfold Con
  intro dp un gd cn cs a ccd cl outer A₀ base h₀ L m s Q E B F X N T hk hd hu hret
  refine wpAny_call ?_
  k_dflt cell_enter
  k_with "call builtin:str.join" => (refine call_joinBut (by assumption) (List.Mem.head _) (by assumption) hx ?_; intro t9 k9)
  k_steps
  all_goals exact con_ret0 hret (by assumption) (cb_drop (by assumption) (fun p hp => .tail _ (.tail _ hp))) ⟨_, rfl⟩
end Mine
end

section
open PySem PySem.W PyProof.Rows PySem.Calls
namespace Mine
theorem swap_size1 {n : Nat} (h : 0 < n) : Builtin.Range.rangeSize 0 (n : Int) (n : Int) = ((1 : Nat) : Int) := by
  have := PyProof.Rows.rangeSize_pos (len := (n : Int)) (c := (n : Int)) (by omega) (by omega)
  rw [this]
  have e : (n : Int) + n - 1 = (n - 1) + 1 * n := by omega
  rw [e, Int.add_mul_ediv_right _ _ (by omega), Int.ediv_eq_zero_of_lt (by omega) (by omega)]
  rfl
theorem swap_small {n : Nat} (h0 : 0 < n) (h : n ≤ 100) : Builtin.Range.small 0 (n : Int) (n : Int) = true := by
  have e := swap_size1 h0
  unfold Builtin.Range.small
  rw [e]
  simp only [Builtin.Range.rangeFitsLong, Bool.and_eq_true, Bool.or_eq_true, decide_eq_true_eq]
  refine ⟨⟨⟨by omega, by omega⟩, by omega⟩, .inr ?_⟩
  split <;> simp only [Bool.and_eq_true, decide_eq_true_eq] <;> omega
section
variable {prog : Program} {w : World} {A : Around} {E : Value → Shared → Prop} {s : Shared} {env : Env} {h₀ : Heap} {x : Str} {body : List Stmt} {Q : Flow → Shared → Prop}
/-- a range's turns by induction, the ledger told by the turn -/
theorem krs_ind {I : Addr} {a c : Int} {n : Nat} {m₁ : Str → Option Value} (Led : Nat → List (Addr × Obj))
    (done : ∀ v h tk, Fr h₀ env.locals h (fun y => if y = x then v else m₁ y) → News h₀ env.locals h (Led n) → Q .next { s with heap := h, toks := tk })
    (turn : ∀ i t h tk, i < n → Fr h₀ env.locals h (fun y => if y = x then some (.int (a + (i : Int) * c) t) else m₁ y) → News h₀ env.locals h ((I, krsIt (a + ((i + 1 : Nat) : Int) * c) ((n : Int) - ((i + 1 : Nat) : Int)) c) :: Led i) →
      wpAny (model prog w) A (execs body env) (UnrPost h₀ env.locals { s with heap := h, toks := tk } I (krsIt (a + ((i + 1 : Nat) : Int) * c) ((n : Int) - ((i + 1 : Nat) : Int)) c) (fun m nn => (∀ z, z ≠ x → m z = m₁ z) ∧ nn = Led (i + 1)) Q) E { s with heap := h, toks := tk }) :
    KrsRest prog w A E h₀ env x body Q s I a c n n 0 m₁ (Led 0) := by
  have key : ∀ k i m nn, k + i = n → (∀ z, z ≠ x → m z = m₁ z) → nn = Led i → KrsRest prog w A E h₀ env x body Q s I a c n k i m nn := by
    intro k
    induction k with
    | zero =>
      intro i m nn hi hm hn
      obtain rfl : i = n := by omega
      refine KrsRest.zero fun h tk F N => done (m x) h tk ?_ (hn ▸ N)
      have em : (fun y => if y = x then m x else m₁ y) = m := by
        funext y
        by_cases hy : y = x
        · rw [if_pos hy, hy]
        · rw [if_neg hy, hm y hy]
      rw [em]
      exact F
    | succ k ih =>
      intro i m nn hi hm hn
      refine KrsRest.succ rfl fun t h tk F N => ?_
      have em : (fun y => if y = x then some (.int (a + (i : Int) * c) t) else m y) = fun y => if y = x then some (.int (a + (i : Int) * c) t) else m₁ y := by
        funext y
        by_cases hy : y = x
        · rw [if_pos hy, if_pos hy]
        · rw [if_neg hy, if_neg hy, hm y hy]
      rw [em] at F
      refine wpAny_mono (turn i t h tk (by omega) F (hn ▸ N)) (fun f s₂ p => ?_) fun _ _ e => e
      have up : UnrEnd h₀ env.locals { s with heap := h, toks := tk } I (krsIt (a + ((i + 1 : Nat) : Int) * c) ((n : Int) - ((i + 1 : Nat) : Int)) c) (fun m nn => (∀ z, z ≠ x → m z = m₁ z) ∧ nn = Led (i + 1)) s₂ →
          UnrEnd h₀ env.locals { s with heap := h, toks := tk } I (krsIt (a + ((i + 1 : Nat) : Int) * c) ((n : Int) - ((i + 1 : Nat) : Int)) c) (KrsRest prog w A E h₀ env x body Q s I a c n k (i + 1)) s₂ := by
        rintro ⟨h', tk', m', news', e, F', N', ho, hm', hn'⟩
        exact ⟨h', tk', m', news', e, F', N', ho, ih (i + 1) m' news' (by omega) hm' hn'⟩
      cases f with
      | ret v => exact p
      | brk => exact p
      | next => exact up p
      | cont => exact up p
  exact key n 0 m₁ (Led 0) rfl (fun _ _ => rfl) rfl
end
section
variable {prog : Program} {w : World} {A : Around} {E : Value → Shared → Prop} {s : Shared} {value slice : PySem.Expr} {b : Array UInt8} {t : Tok}
theorem item_b {i : Int} {j : Nat} {ui : Tok} {Q : Value → Shared → Prop} (hfit : b.size ≤ 1000) (hi : i = (j : Int)) (hj : j < b.size)
    (h : ∀ t' k, Q (.int ((b.getD j 0).toNat : Int) t') { s with toks := k })
    (hs : subscripted slice false (.bytes b t) (.int i ui) = operate [.bytes b t, .int i ui] (getItem (.bytes b t) (.int i ui)) := by with_unfolding_all rfl)
    (ht : ∀ r, letTemporaryGo value (.bytes b t) r = pure () := by intro _; with_unfolding_all rfl) : wpAny (model prog w) A (subscriptTail value slice (.bytes b t) (.int i ui)) Q E s := by
  have e : b.toList.toArray = b := Array.toArray_toList
  have g : wpAny (model prog w) A (getItem (.bytes b.toList.toArray t) (.int i ui)) Q E s := by
    refine getItem_bytes (l := b.toList) (by simpa using (by omega : b.size ≤ 1099511627776)) (by omega) (by simpa using (by omega : i < b.size)) ?_
    have e2 : i.toNat = j := by omega
    have e3 : b.toList.getD j 0 = b.getD j 0 := by simp [List.getD_eq_getElem?_getD, hj]
    rw [e2, e3]
    exact h _ _
  rw [e] at g
  exact tail_of_ItemOn ⟨"bytes", _, FB.slot_bytes_getitem.lookup, typeIs_bytes _ _ _, g⟩ hs ht
end
noncomputable def StopM (p : Prop) : Prop := p
theorem stopM {p : Prop} (h : StopM p) : p := h
theorem fits_small {k : Int} (h0 : 0 ≤ k) (h1 : k ≤ 1000) : Builtin.Range.rangeFitsLong k = true := by
  unfold Builtin.Range.rangeFitsLong
  rw [Bool.and_eq_true, decide_eq_true_eq, decide_eq_true_eq]
  omega
theorem swap_small1 {n : Nat} (h : n ≤ 100) : Builtin.Range.small 0 (n : Int) 1 = true := by
  unfold Builtin.Range.small
  rw [PyProof.Rows.rangeSize_nat]
  have e0 : ((n : Int) - 0).toNat = n := by omega
  rw [e0, if_pos (by decide), fits_small (by omega) (by omega), fits_small (k := (n : Int)) (by omega) (by omega), fits_small (k := 1) (by omega) (by omega), fits_small (k := (n : Int) + (1 - 1)) (by omega) (by omega)]
  simp
theorem swap_sizeN (n : Nat) : Builtin.Range.rangeSize 0 (n : Int) 1 = (n : Int) := by
  rw [PyProof.Rows.rangeSize_nat]
  omega
noncomputable def swapSt (x : Array UInt8) : Nat → Array UInt8
  | 0 => Array.replicate x.size 0
  | k + 1 => (swapSt x k).setIfInBounds (x.size - 1 - k) (x.getD k 0)
theorem swapSt_size (x : Array UInt8) : ∀ k, (swapSt x k).size = x.size
  | 0 => by simp [swapSt]
  | k + 1 => by simp [swapSt, swapSt_size x k]
theorem swapSt_get (x : Array UInt8) : ∀ k, k ≤ x.size → ∀ j, j < x.size → (swapSt x k)[j]? = if x.size ≤ k + j then x[x.size - 1 - j]? else some 0
  | 0, _, j, hj => by
    simp [swapSt, hj]
    omega
  | k + 1, hk, j, hj => by
    show ((swapSt x k).setIfInBounds (x.size - 1 - k) (x.getD k 0))[j]? = _
    rw [Array.getElem?_setIfInBounds]
    by_cases e : x.size - 1 - k = j
    · have h1 : x.size ≤ k + 1 + j := by omega
      have h2 : x.size - 1 - j = k := by omega
      have h3 : k < x.size := by omega
      rw [if_pos e, if_pos h1, h2, if_pos (by rw [swapSt_size]; omega)]
      simp [h3]
    · rw [if_neg e, swapSt_get x k (by omega) j hj]
      by_cases h1 : x.size ≤ k + j
      · rw [if_pos h1, if_pos (by omega)]
      · rw [if_neg h1, if_neg (by omega)]
theorem swapSt_all (x : Array UInt8) : swapSt x x.size = x.reverse := by
  apply Array.ext_getElem?
  intro j
  by_cases hj : j < x.size
  · rw [swapSt_get x _ (Nat.le_refl _) j hj, if_pos (by omega)]
    simp [hj]
  · rw [Array.getElem?_eq_none (by rw [swapSt_size]; omega), Array.getElem?_eq_none (by simp; omega)]
set_option maxRecDepth 100000 in
set_option maxHeartbeats 8000000 in
theorem c_swap {w : World} {loose : List Str} {mean : ExcName → Option Value} {mg mb : Str → Option Value} (news : List (Addr × Obj)) (x : Array UInt8) (t u : Tok) (hx0 : 0 < x.size) (hx : x.size ≤ 100) :
    ConS PySem.Challenge.rw_zo0007_01.row.prog w (hd.heap_39 w.params) hd.view_39 loose mean mg mb 96 6 news [.bytes x t, .int (x.size : Int) u] (fun _ r => ∃ t', r = .bytes x.reverse t') := by
  w_on
  k_with_none
  k_fill
  unfold ConS
  intro dp un gd cn cs a ccd cl outer A₀ base h₀ L m s Q E B F X N T hk hd hu hret
  refine wpS_call ?_
  k_dflt (refine' codeS_def ?k1 ?k2 ?k3 ?k4 ?k5 ?kA ?kF ?kK ?k6 ?k7 ?k8 ?k9 ?kB ?_ ?c2 ?c3 ?c4 ?c5; (case kA => exact rfl); (case kF => exact rfl); (case kK => assumption); (case k1 => k_asm); (case k2 => k_asm); (case k3 => k_asm); (case k4 => k_asm); (case k5 => k_asm); (case k6 => k_is); (case k7 => k_is); (case k8 => ktr_room); (case k9 => exact BindsTo.of_eq rfl); (case c5 => decide); (case kB => exact locs rfl); (case c2 => exact rfl); (case c3 => exact rfl); (case c4 => exact rfl); k_whole; intro g' L' h' FG' F' N' B' X' T'; (try dsimp only); (try k_lift B'); (try k_fold))
  refine S_cons (S_Assign (S_CallName ?_))
  k_steps
  refine S_withType ?_
  k_steps
  refine S_bytearray (by omega) (by omega) ?_
  intro h9 e9 k9
  rename Fr _ _ _ _ => F1
  have F9 := F1.after k9
  have N9 : News g' L' h9 ((h'.objs.size, baObj (Array.replicate (x.size : Int).toNat 0)) :: news) := by
    intro q hq
    rcases List.mem_cons.mp hq with rfl | hq
    · exact ⟨e9, fun e => Nat.lt_irrefl L' (by have h3 := F1.ns.lt; rw [show h'.objs.size = L' from e] at h3; exact h3), next_is_new F1⟩
    · exact ⟨k9 _ _ (N' q hq).1, (N' q hq).2⟩
  have hlt9 : ∀ q ∈ news, q.1 < h'.objs.size := fun q hq => Heap.lt_size (N' q hq).1
  generalize h'.objs.size = D at *
  clear F1 e9 k9 N'
  dsimp only
  k_steps
  refine wpS_of ?_
  k_steps
  rename IsRange _ _ _ _ _ _ _ _ => R1
  rename Fr _ _ _ _ => F1
  rename News _ _ _ _ => N1
  refine krs_iter (n := 1) (by rfl) R1 (swap_small hx0 (by omega)) (swap_size1 hx0) F1 N1 ?_
  intro i1 l1
  refine KrsRest.succ (v := 0) (by simp) (fun t' h' tk' F' N' => ?_)
  clear F1 N1 R1
  k_with "pyIter ref" => (refine stopM ?_)
  k_steps
  show wpAny _ _ _ _ _ _
  rename IsRange _ _ _ _ _ _ _ _ => R1
  rename Fr _ _ _ _ => F1
  rename News _ _ _ _ => N1
  refine krs_iter (n := x.size) (by rfl) R1 (swap_small1 (by omega)) (swap_sizeN x.size) F1 N1 ?_
  intro i2 l2
  clear F1 R1 N1
  have hb0 : Array.replicate (x.size : Int).toNat (0 : UInt8) = swapSt x 0 := rfl
  rw [hb0]
  refine krs_ind (fun i => [(i1, krsIt (0 + ((0 + 1 : Nat) : Int) * (x.size : Int)) ((1 : Nat) - ((0 + 1 : Nat) : Int)) (x.size : Int)), (D, baObj (swapSt x i))] ++ news) ?_ ?_
  · intro v h tk F N
    rw [swapSt_all] at N
    dsimp only
    k_steps
    refine UnrEnd.intro F N ((D, baObj x.reverse) :: news) (fun p hp => hp) (fun p hp => ?_) (KrsRest.zero (fun h9 tk9 F9 N9 => ?_))
    · have hD1 : D < i1 := l1 _ (.head _)
      rcases List.mem_cons.mp hp with rfl | hp
      · exact Nat.ne_of_lt hD1
      · exact Nat.ne_of_lt (l1 _ (.tail _ hp))
    · clear F N
      dsimp only
      k_with "call type:bytes" => (refine call_bytes_ba (N9 _ (.head _)).1 (by simp; omega) ?_)
      k_steps
      (rename Fr _ _ _ _ => kF1; rename News _ _ _ _ => kN1; exact con_ret0 hret kF1 (cb_drop kN1 (fun p hp => .tail _ hp)) ⟨_, rfl⟩)
  · intro i t h tk hi F N
    k_with "subscriptTail" => (refine item_b (j := i) (by omega) (by omega) hi ?_; intro t8 k8)
    k_steps
    have hm : (D, baObj (swapSt x i)) ∈ (i2, krsIt (0 + ((i + 1 : Nat) : Int) * 1) ((x.size : Int) - ((i + 1 : Nat) : Int)) 1) :: (i1, krsIt (0 + ((0 + 1 : Nat) : Int) * (x.size : Int)) ((1 : Nat) - ((0 + 1 : Nat) : Int)) (x.size : Int)) :: (D, baObj (swapSt x i)) :: news := .tail _ (.tail _ (.head _))
    have hv := (x.getD i 0).toNat_lt
    have h21 : i1 < i2 := l2 _ (.head _)
    have hD1 : D < i1 := l1 _ (.head _)
    have l2' : ∀ p ∈ [(i1, krsIt (0 + ((0 + 1 : Nat) : Int) * (x.size : Int)) ((1 : Nat) - ((0 + 1 : Nat) : Int)) (x.size : Int)), (D, baObj (swapSt x (i + 1)))] ++ news, p.1 < i2 := by
      intro p hp
      rcases List.mem_cons.mp hp with rfl | hp
      · exact l2 _ (.head _)
      rcases List.mem_cons.mp hp with rfl | hp
      · exact Nat.lt_trans hD1 h21
      · exact l2 _ (.tail _ (.tail _ hp))
    have hz9 := swapSt_size x i
    rename Fr _ _ _ _ => F7
    rename News _ _ _ _ => N7
    refine ba_setItem (N7 _ hm).1 (by omega) (by omega) (by omega) (by omega) (by omega) ?_
    intro h9 e9 k9
    have ei : ((0 : Int) + (x.size : Int) - 1 - (0 + (i : Int) * 1)).toNat = x.size - 1 - i := by omega
    have ev : (((x.getD i 0).toNat : Int)).toNat.toUInt8 = x.getD i 0 := by simp
    have e8 : h9.get? D = some (baObj (swapSt x (i + 1))) := by
      rw [e9, ei, ev]
      rfl
    have F8 := F7.change k9 (N7 _ hm).2.1 (N7 _ hm).2.2
    have N8 := News.setAt (own := [(i2, krsIt (0 + ((i + 1 : Nat) : Int) * 1) ((x.size : Int) - ((i + 1 : Nat) : Int)) 1), (i1, krsIt (0 + ((0 + 1 : Nat) : Int) * (x.size : Int)) ((1 : Nat) - ((0 + 1 : Nat) : Int)) (x.size : Int))]) N7 (by
      intro p hp
      rcases List.mem_cons.mp hp with rfl | hp
      · exact Nat.ne_of_gt (Nat.lt_trans hD1 h21)
      · rw [List.mem_singleton.mp hp]; exact Nat.ne_of_gt hD1) (fun p hp => Nat.ne_of_lt (hlt9 p hp)) k9 e8
    clear F7 N7 e9 e8 ei ev k9
    k_with "UnrPost" => (refine stopM ?_)
    dsimp only
    k_steps
    refine UnrEnd.intro F8 N8 _ (fun p hp => hp) ?_ ⟨fun z hz => if_neg hz, rfl⟩
    intro p hp
    exact Nat.ne_of_lt (l2' p hp)
end Mine
end

section
open PySem PySem.W PyProof.Rows PySem.Calls
namespace Mine

noncomputable def figN (n k : Nat) : Nat := n / 12 ^ k % 12
noncomputable def ruleD (n k : Nat) : Dat := .tuple [.int ((figN n k % 2 : Nat) : Int), .int ((figN n k / 2 % 2 : Nat) : Int), .int ((figN n k / 4 : Nat) : Int)]
noncomputable def rulesD (n : Nat) : Dat := .list [ruleD n 0, ruleD n 1, ruleD n 2, ruleD n 3]
theorem fdiv_nat (a b : Nat) : (a : Int).fdiv (b : Int) = ((a / b : Nat) : Int) := by
  rw [Int.fdiv_eq_ediv_of_nonneg _ (by omega)]; rfl
theorem fmod_nat (a b : Nat) : (a : Int).fmod (b : Int) = ((a % b : Nat) : Int) := by
  rw [Int.fmod_eq_emod_of_nonneg _ (by omega)]; rfl
theorem figI (n k : Nat) (e : Nat) (he : e = k) : ((n : Int).fdiv ((12 : Int) ^ e)).fmod 12 = (figN n k : Int) := by
  subst he
  rw [show ((12 : Int) ^ e) = ((12 ^ e : Nat) : Int) by simp, fdiv_nat, show (12 : Int) = ((12 : Nat) : Int) from rfl, fmod_nat]
  rfl
theorem datInt {news : List (Addr × Obj)} {i j : Int} {t : Tok} (h : i = j) : DatIn news (.int i t) (.int j) := h ▸ .int i t
theorem dat1 (n k e : Nat) (he : e = k) : (((n : Int).fdiv ((12 : Int) ^ e)).fmod 12).fmod 2 = ((figN n k % 2 : Nat) : Int) := by rw [figI n k e he]; exact fmod_nat _ _
theorem dat2 (n k e : Nat) (he : e = k) : ((((n : Int).fdiv ((12 : Int) ^ e)).fmod 12).fdiv 2).fmod 2 = ((figN n k / 2 % 2 : Nat) : Int) := by
  rw [figI n k e he, show (2 : Int) = ((2 : Nat) : Int) from rfl, fdiv_nat, fmod_nat]
theorem dat3 (n k e : Nat) (he : e = k) : (((n : Int).fdiv ((12 : Int) ^ e)).fmod 12).fdiv 4 = ((figN n k / 4 : Nat) : Int) := by rw [figI n k e he]; exact fdiv_nat _ _
theorem datRule {news : List (Addr × Obj)} {a : Addr} {n k e : Nat} {t1 t2 t3 : Tok} {z : Nat} (he : e = k)
    (hm : (a, ({ cls := .type "tuple", data := .seq #[.int ((((n : Int).fdiv ((12 : Int) ^ e)).fmod 12).fmod 2) t1, .int (((((n : Int).fdiv ((12 : Int) ^ e)).fmod 12).fdiv 2).fmod 2) t2, .int ((((n : Int).fdiv ((12 : Int) ^ e)).fmod 12).fdiv 4) t3] z } : Obj)) ∈ news) :
    DatIn news (.ref a) (ruleD n k) :=
  .tuple (vs := [_, _, _]) hm (.cons (datInt (dat1 n k e he)) (.cons (datInt (dat2 n k e he)) (.cons (datInt (dat3 n k e he)) .nil)))
set_option maxRecDepth 100000 in
set_option maxHeartbeats 4000000 in
theorem c_rules {w : World} {loose : List Str} {mean : ExcName → Option Value} {mg mb : Str → Option Value} (news : List (Addr × Obj)) (n : Nat) (t : Tok) (hn2 : n < 20736) :
    ConN PySem.Challenge.rw_zo0007_01.row.prog w (hd.heap_39 w.params) hd.view_39 loose mean mg mb 103 6 news [.int (n : Int) t] (fun tl r => ∃ l, r = .ref l ∧ DatIn tl (.ref l) (rulesD n)) := by
  w_on
  k_with_none
  k_fill
  unfold ConN
  intro dp un gd cn cs a ccd cl outer A₀ base h₀ L m s Q E B F X N T hk hd hu hret
  refine wpAny_call ?_
  k_dflt (refine' code_defM [] (fun _ h => nomatch h) ?k1 ?k2 ?k3 ?k4 ?k5 ?kA ?kF ?kK ?k6 ?k7 ?k8 ?k9 ?kB ?_ ?c2 ?c3 ?c4 ?c5; (case kA => exact rfl); (case kF => exact rfl); (case kK => assumption); (case k1 => k_asm); (case k2 => k_asm); (case k3 => k_asm); (case k4 => k_asm); (case k5 => k_asm); (case k6 => k_is); (case k7 => k_is); (case k8 => ktr_room); (case k9 => exact BindsTo.of_eq rfl); (case c5 => decide); (case kB => exact locs rfl); (case c2 => exact rfl); (case c3 => exact rfl); (case c4 => exact rfl); k_whole; intro g' L' h' FG' F' N' RS ltL B' X' T'; (try dsimp only); (try k_lift B'); (try k_fold))
  clear N
  k_with "call builtin:list.append" => (rename Fr _ _ _ _ => fA; rename News _ _ _ _ => nA; refine append_k fA nA (by k_upd) (by simp) ?_; intro hA fA' nA'; clear fA nA)
  k_steps
  rename Fr h₀ _ _ _ => kF
  rename News h₀ _ _ _ => kN
  rename Fr g' _ _ _ => F9
  refine hret _ _ _ _ kF (RS.back F9 kN (fun q h => nomatch h) (fun q h => h)) ⟨_, rfl, ?_⟩
  exact DatIn.list (vs := [_, _, _, _]) (by k_mem) (.cons (datRule (e := 0) rfl (by k_mem)) (.cons (datRule (e := 1) rfl (by k_mem)) (.cons (datRule (e := 2) rfl (by k_mem)) (.cons (datRule (e := 3) rfl (by k_mem)) .nil))))
end Mine
end

section
open PySem PySem.W PyProof.Rows PySem.Calls
namespace Mine

noncomputable def nameT (m w f : Nat) : Str := Txt.item (Str.ofString " \"") (m : Int) ++ Txt.item (Str.ofString "lr") (w : Int) ++ Txt.item (Str.ofString "ABH") (f : Int)
noncomputable def replyT (m w f : Nat) : Str := Str.ofString "257 \"" ++ Txt.replace (nameT m w f) (Str.ofString "\"") (Str.ofString "\"\"") ++ Str.ofString "\" is the rule"
theorem dbl_len (c : Nat) : ∀ l : List Nat, (StrLaws.dbl c l).length ≤ 2 * l.length
  | [] => by simp [StrLaws.dbl]
  | a :: l => by
    have := dbl_len c l
    unfold StrLaws.dbl
    split <;> simp <;> omega
theorem quote_len (x : Str) : (Txt.replace x (Str.ofString "\"") (Str.ofString "\"\"")).length ≤ 2 * x.length := by
  rw [replace_dbl x _ _ 34 (by decide +kernel) (by decide +kernel)]
  have := dbl_len 34 x.cps.toList
  simpa [Str.length] using this
theorem call_quote {prog : Program} {w : World} {A : Around} {E : Value → Shared → Prop} {s : Shared} {x : Str} {t u v : Tok} {Q : Value → Shared → Prop} (hu : u ≠ 0) (hv : v ≠ 0) (huv : u ≠ v) (hx : x.length ≤ 3)
    (h : ∀ t' k, (Txt.replace x (Str.ofString "\"") (Str.ofString "\"\"")).length ≤ 6 → Q (.str (Txt.replace x (Str.ofString "\"") (Str.ofString "\"\"")) t') { s with toks := k }) :
    wpAny (model prog w) A (call (.builtin "str.replace") [.str x t, .str (Str.ofString "\"") u, .str (Str.ofString "\"\"") v]) Q E s :=
  SC.replaceW hu hv huv (by decide +kernel) (by omega) (by decide +kernel) fun t' k => h t' k (by have := quote_len x; omega)
set_option maxRecDepth 100000 in
set_option maxHeartbeats 4000000 in
theorem c_replies {w : World} {loose : List Str} {mean : ExcName → Option Value} {mg mb : Str → Option Value} (news : List (Addr × Obj)) (l D0 D1 D2 D3 : Addr) (z : Nat) (t : Tok) (m0 w0 f0 : Nat) (a0 b0 c0 : Tok) (z0 : Nat) (hm0 : m0 < 2) (hw0 : w0 < 2) (hf0 : f0 < 3) (m1 w1 f1 : Nat) (a1 b1 c1 : Tok) (z1 : Nat) (hm1 : m1 < 2) (hw1 : w1 < 2) (hf1 : f1 < 3) (m2 w2 f2 : Nat) (a2 b2 c2 : Tok) (z2 : Nat) (hm2 : m2 < 2) (hw2 : w2 < 2) (hf2 : f2 < 3) (m3 w3 f3 : Nat) (a3 b3 c3 : Tok) (z3 : Nat) (hm3 : m3 < 2) (hw3 : w3 < 2) (hf3 : f3 < 3)
    (hmine : ∀ q ∈ [(l, ({ cls := .type "list", data := .seq #[.ref D0, .ref D1, .ref D2, .ref D3] z } : Obj)), (D0, ({ cls := .type "tuple", data := .seq #[.int (m0 : Int) a0, .int (w0 : Int) b0, .int (f0 : Int) c0] z0 } : Obj)), (D1, ({ cls := .type "tuple", data := .seq #[.int (m1 : Int) a1, .int (w1 : Int) b1, .int (f1 : Int) c1] z1 } : Obj)), (D2, ({ cls := .type "tuple", data := .seq #[.int (m2 : Int) a2, .int (w2 : Int) b2, .int (f2 : Int) c2] z2 } : Obj)), (D3, ({ cls := .type "tuple", data := .seq #[.int (m3 : Int) a3, .int (w3 : Int) b3, .int (f3 : Int) c3] z3 } : Obj))], q ∈ news) :
    ConN PySem.Challenge.rw_zo0007_01.row.prog w (hd.heap_39 w.params) hd.view_39 loose mean mg mb 110 6 news [.ref l] (fun tl r => ∃ l, r = .ref l ∧ DatIn tl (.ref l) (.list [.str (replyT m0 w0 f0), .str (replyT m1 w1 f1), .str (replyT m2 w2 f2), .str (replyT m3 w3 f3)])) := by
  w_on
  k_with_none
  k_fill
  unfold ConN
  intro dp un gd cn cs a ccd cl outer A₀ base h₀ L m s Q E B F X N T hk hd hu hret
  refine wpAny_call ?_
  k_dflt (refine' code_defM _ hmine ?k1 ?k2 ?k3 ?k4 ?k5 ?kA ?kF ?kK ?k6 ?k7 ?k8 ?k9 ?kB ?_ ?c2 ?c3 ?c4 ?c5; (case kA => exact rfl); (case kF => exact rfl); (case kK => assumption); (case k1 => k_asm); (case k2 => k_asm); (case k3 => k_asm); (case k4 => k_asm); (case k5 => k_asm); (case k6 => k_is); (case k7 => k_is); (case k8 => ktr_room); (case k9 => exact BindsTo.of_eq rfl); (case c5 => decide); (case kB => exact locs rfl); (case c2 => exact rfl); (case c3 => exact rfl); (case c4 => exact rfl); k_whole; intro g' L' h' FG' F' N' RS ltL B' X' T'; (try dsimp only); (try k_lift B'); (try k_fold))
  clear N
  k_with "call builtin:list.append" => (rename Fr _ _ _ _ => fA; rename News _ _ _ _ => nA; refine append_k fA nA (by k_upd) (by simp) ?_; intro hA fA' nA'; clear fA nA)
  k_with "call builtin:str.replace" => (refine call_quote (by first | omega | (simp; first | done | fail "a goal is left") | (simp; omega)) (by first | omega | (simp; first | done | fail "a goal is left") | (simp; omega)) (by first | omega | (simp; first | done | fail "a goal is left") | (simp; omega)) (by first | omega | assumption) ?_; intro t9 k9 l9)
  k_steps
  rename Fr h₀ _ _ _ => kF
  rename News h₀ _ _ _ => kN
  rename Fr g' _ _ _ => F9
  refine hret _ _ _ _ kF (RS.back F9 kN (fun q h => .tail _ h) (fun q h => h)) ⟨_, rfl, ?_⟩
  exact DatIn.list (vs := [_, _, _, _]) (by k_mem) (.cons (.str _ _) (.cons (.str _ _) (.cons (.str _ _) (.cons (.str _ _) .nil))))
end Mine
end

section
open PySem PySem.W PyProof.Rows PySem.Calls
namespace Mine

noncomputable def octs (x : Str) : Array UInt8 := byteArr ((List.range x.length).map fun i => ((x.cps.getD i 0 : Nat) : Int))
theorem octs_size (x : Str) : (octs x).size = x.length := by
  unfold octs
  rw [byteArr_size]
  simp
theorem octs_get (x : Str) (i : Nat) (hi : i < x.length) : (octs x)[i]? = some (x.cps.getD i 0).toUInt8 := by
  unfold octs byteArr
  have : i < (List.range x.length).length := by simpa using hi
  simp [hi]
theorem octs_back (x : Str) (ha : x.cps.all (· < 128) = true) : ((List.range x.length).map fun i => ((octs x).reverse.getD i 0).toNat).toArray = x.cps.reverse := by
  apply Array.ext_getElem?
  intro i
  by_cases hi : i < x.length
  · have hi' : i < x.cps.size := hi
    have hj : x.length - 1 - i < x.cps.size := by show x.cps.size - 1 - i < x.cps.size; omega
    have hO : (octs x).reverse.getD i 0 = (x.cps.getD (x.length - 1 - i) 0).toUInt8 := by
      have h1 : (octs x).reverse[i]? = some (x.cps.getD (x.length - 1 - i) 0).toUInt8 := by
        rw [Array.getElem?_reverse (by rw [octs_size]; exact hi), octs_size]
        exact octs_get x _ hj
      simp [Array.getD_eq_getD_getElem?, h1]
    have hlt := Array.all_eq_true.mp ha (x.length - 1 - i) hj
    simp at hlt
    have e : x.cps.getD (x.length - 1 - i) 0 = x.cps[x.length - 1 - i] := by simp [hj]
    have e2 : ((x.cps.getD (x.length - 1 - i) 0).toUInt8).toNat = x.cps[x.length - 1 - i] := by
      rw [e]
      simp [Nat.toUInt8, UInt8.toNat_ofNat]
      omega
    rw [Array.getElem?_reverse hi']
    simp only [List.getElem?_toArray, List.getElem?_map, List.getElem?_range hi, Option.map_some]
    rw [hO, e2]
    exact (Array.getElem?_eq_getElem hj).symm
  · have hi' : ¬ i < x.cps.size := hi
    rw [Array.getElem?_eq_none (by simp; omega), Array.getElem?_eq_none (by simp; omega)]
set_option maxRecDepth 100000 in
set_option maxHeartbeats 4000000 in
theorem c_turned {w : World} {loose : List Str} {mean : ExcName → Option Value} {mg mb : Str → Option Value} (news : List (Addr × Obj)) (x : Str) (t : Tok) (ha : x.cps.all (· < 128) = true) (h0 : 0 < x.length) (hx : x.length ≤ 100) :
    ConNS PySem.Challenge.rw_zo0007_01.row.prog w (hd.heap_39 w.params) hd.view_39 loose mean mg mb 134 12 news [.str x t] (fun _ r => ∃ t', r = .str ⟨x.cps.reverse⟩ t') := by
  w_on
  k_with_none
  k_fill
  unfold ConNS
  intro dp un gd cn cs a ccd cl outer A₀ base h₀ L m s Q E B F X N T hk hd hu hret
  refine wpS_call ?_
  k_dflt (refine' codeS_defM [] (fun _ h => nomatch h) ?k1 ?k2 ?k3 ?k4 ?k5 ?kA ?kF ?kK ?k6 ?k7 ?k8 ?k9 ?kB ?_ ?c2 ?c3 ?c4 ?c5; (case kA => exact rfl); (case kF => exact rfl); (case kK => assumption); (case k1 => k_asm); (case k2 => k_asm); (case k3 => k_asm); (case k4 => k_asm); (case k5 => k_asm); (case k6 => k_is); (case k7 => k_is); (case k8 => ktr_room); (case k9 => exact BindsTo.of_eq rfl); (case c5 => decide); (case kB => exact locs rfl); (case c2 => exact rfl); (case c3 => exact rfl); (case c4 => exact rfl); k_whole; intro g' L' h' FG' F' N' RS ltL B' X' T'; (try dsimp only); (try k_lift B'); (try k_fold))
  clear N
  refine S_consA ?_
  k_with "eval ListComp" => (k_dflt (refine ListComp_E (F₀ := by k_asm) (by with_unfolding_all rfl) (by decide) (by rfl) (by decide) (by rfl) ?_))
  k_with "And" => (refine stopM ?_)
  k_with "call type:bytes" => (refine stopM ?_)
  k_steps
  refine src_text (by rfl) ha (by omega) F' N' ?_
  intro g9
  refine comp_turns (fun i y => ∃ t', y = .int ((x.cps.getD i 0 : Nat) : Int) t') ?_ ?_
  · rintro i v I oI C oC D m₂ ys hh tk E' hi ⟨c, u, hc, rfl⟩ hC hx' F9 N9 off ne
    k_steps
    show _ ∧ _
    have ec : x.cps.getD i 0 = c := by simp [Array.getD_eq_getD_getElem?, hc]
    exact ⟨rfl, _, by rw [ec]⟩
  · intro ys hl hy
    have hi := ints_of (fun i => ((x.cps.getD i 0 : Nat) : Int)) ys hy
    rw [hl] at hi
    intro D hh tk F9 N9 off
    k_steps
    refine KBa.make_K (ns := (List.range x.length).map fun i => ((x.cps.getD i 0 : Nat) : Int)) F9 N9 (by rfl) ?_ hi ?_ ?_ ?_
    · exact ⟨_, (N9 _ (.head _)).1, rfl, _, rfl⟩
    · intro n hn
      obtain ⟨i, hi, rfl⟩ := List.mem_map.mp hn
      have hi' : i < x.cps.size := List.mem_range.mp hi
      have := Array.all_eq_true.mp ha i hi'
      simp at this
      have e : x.cps.getD i 0 = x.cps[i] := by simp [hi']
      rw [e]
      omega
    · simp; omega
    · intro h8 t8 k8 F8 N8 _
      clear F9 N9
      have hz := octs_size x
      show wpAny _ _ _ _ _ _
      change wpAny _ _ (storeName _ _ (Value.bytes (octs x) t8)) _ _ _
      have hback := octs_back x ha
      generalize octs x = O at *
      k_steps
      dsimp only
      clear hy hi
      refine S_cons (S_Return (S_MethodCall ?_))
      k_steps
      k_dflt (refine S_callB1 (S_ListComp (by with_unfolding_all rfl) (by decide) (by rfl) (by decide) (by rfl) ?_))
      refine S_CallName ?_
      k_steps
      refine S_withRef (K := Mine.hd.heap_39 w.params) (by k_is) ?_
      k_steps
      rename Fr g' _ _ _ => F8
      rename News g' _ _ _ => N8
      refine ⟨X'.keeps F8.keep, ?_⟩
      refine conS_use0 (c_swap _ O _ _ (by omega) (by omega)) (by k_asm) (by k_asm) (by k_asm) (by k_asm) (by k_asm) rfl (by ktr_room) (by ktr_units) ?_
      intro r9 h9 tk9 F9 N9 e9
      obtain ⟨t9, e9⟩ := e9
      subst e9
      clear F8 N8
      refine ⟨_, _, _, src_bytes (by rfl) (by simp; omega) F9 N9 ?_⟩
      intro g8
      refine comp_turns (fun i y => ∃ t', y = .str ⟨#[(O.reverse.getD i 0).toNat]⟩ t') ?_ ?_
      · rintro i v I oI C oC D m₂ ys hh tk E' hi ⟨c, u, hc, rfl⟩ hC hx' F9 N9 off ne
        have hc2 := c.toNat_lt
        k_steps
        have ec : O.reverse.getD i 0 = c := by rw [Array.getD_eq_getD_getElem?, hc]; rfl
        exact LCg.CompEnd.intro F9 N9 _ (fun p hp => hp) off trivial ⟨rfl, tk, by rw [ec]; rfl⟩
      · intro ys hl hy
        obtain ⟨l, e1, e2⟩ := strs_of (fun i => (⟨#[(O.reverse.getD i 0).toNat]⟩ : Str)) ys hy
        intro D hh tk F7 N7 off
        have hj := join_signs_of (fun i => (O.reverse.getD i 0).toNat) ys.length
        have hys : ys.length = x.length := by rw [hl]; simp; omega
        rw [hys, hback] at hj
        have hok : JoinOk (Str.ofString "") ((List.range ys.length).map fun i => (⟨#[(O.reverse.getD i 0).toNat]⟩ : Str)) = true := by
          unfold JoinOk
          rw [StrLaws.joinFits (B := 100) ?_ ?_]
          · rfl
          · intro z hzm
            obtain ⟨i, _, rfl⟩ := List.mem_map.mp hzm
            show 1 ≤ 100
            omega
          · rw [show (Str.ofString "").length = 0 by decide +kernel]
            simp
            omega
        subst e1
        k_with "call builtin:str.join" => (refine SC.join (l := l) ⟨_, (N7 _ (.head _)).1, rfl, _, rfl⟩ e2 hok ?_; rw [hys, hj]; intro t5 k5)
        k_steps
        rename Fr h₀ _ _ _ => kF1
        rename News h₀ _ _ _ => kN1
        exact hret _ [] _ _ kF1 (RS.back F7 kN1 (fun q h => nomatch h) (fun q h => nomatch h)) ⟨_, rfl⟩
end Mine
end

section
open PySem PySem.W PyProof.Rows PySem.Calls
namespace Mine
local macro_rules | `(tactic| walk_at "subscriptTail Name Name str int") => `(tactic| k_extra "subscriptTail Name Name str int")
local macro_rules | `(tactic| walk_at "binaryOp Add str str") => `(tactic| k_extra "binaryOp Add str str")
theorem fr_pin {g h : Heap} {L : Addr} {mm : Str → Option Value} (F : Fr g L h mm) (ps : List (Str × Value)) (hp : ∀ p ∈ ps, mm p.1 = some p.2) : Fr g L h (kstB mm ps) := by
  have e : kstB mm ps = mm := funext fun z => kstB_eq hp fun _ => rfl
  rw [e]
  exact F
noncomputable def LK (mm : Str → Option Value) (n : Str) (x : Str) : Prop := ∃ t, mm n = some (.str x t)
theorem lk {mm : Str → Option Value} {x y : Str} {n : Str} {t : Tok} (h : mm n = some (.str y t)) (e : y = x) : LK mm n x := ⟨t, by rw [h, e]⟩
noncomputable def LI (mm : Str → Option Value) (n : Str) (i : Int) : Prop := ∃ t, mm n = some (.int i t)
theorem li {mm : Str → Option Value} {n : Str} {i j : Int} {t : Tok} (h : mm n = some (.int j t)) (e : j = i) : LI mm n i := ⟨t, by rw [h, e]⟩
section
variable {prog : Program} {w : World} {A : Around} {E : Value → Shared → Prop} {s : Shared} {value slice : PySem.Expr} {t u : Tok} {Q : Value → Shared → Prop}
theorem sub_txt {l : List Nat} {i : Int} {k : Nat} (hi : i = (k : Int)) (hk : k < l.length) (hl : l.length ≤ 100) (h : ∀ t' k', Q (.str ⟨#[l.getD k 0]⟩ t') { s with toks := k' })
    (hs : subscripted slice false (.str ⟨l.toArray⟩ t) (.int i u) = operate [.str ⟨l.toArray⟩ t, .int i u] (getItem (.str ⟨l.toArray⟩ t) (.int i u)) := by with_unfolding_all rfl)
    (ht : ∀ r, letTemporaryGo value (.str ⟨l.toArray⟩ t) r = pure () := by intro _; with_unfolding_all rfl) : wpAny (model prog w) A (subscriptTail value slice (.str ⟨l.toArray⟩ t) (.int i u)) Q E s := by
  subst hi
  have e : (⟨l.toArray⟩ : Str).length = l.length := by show l.toArray.size = _; simp
  refine KXi.item (n := l.length) e (by omega) (by omega) (by omega) (fun _ => ?_) hs ht
  rw [item_meets (x := ⟨l.toArray⟩) (i := (k : Int)) ⟨by omega, by rw [e]; omega⟩]
  have e2 : (⟨#[(⟨l.toArray⟩ : Str).cps.getD (k : Int).toNat 0]⟩ : Str) = ⟨#[l.getD k 0]⟩ := by simp [Array.getD_eq_getD_getElem?, List.getD_eq_getElem?_getD]
  exact e2 ▸ h _ _
theorem add_txt {d : List Nat} {c : Nat} (hd : d.length ≤ 100) (h : ∀ t' k', Q (.str ⟨(d ++ [c]).toArray⟩ t') { s with toks := k' }) : wpAny (model prog w) A (binaryOp .Add (.str ⟨d.toArray⟩ t) (.str ⟨#[c]⟩ u)) Q E s := by
  have e : (⟨d.toArray⟩ ++ ⟨#[c]⟩ : Str) = ⟨(d ++ [c]).toArray⟩ := by show (⟨d.toArray ++ #[c]⟩ : Str) = _; simp
  refine SB.add (fun t' k => e ▸ h t' k) (hsz := ?_)
  have : (⟨d.toArray⟩ : Str).length = d.length := by show d.toArray.size = _; simp
  rw [this]
  show d.length + 1 ≤ sizeLine
  exact Nat.le_trans (Nat.succ_le_succ hd) (by unfold sizeLine; decide)
end
theorem m34 : Str.ofString "\"" = ⟨#[34]⟩ := by decide +kernel
theorem eq34 {c : Nat} (h : (⟨#[c]⟩ : Str) = Str.ofString "\"") : c = 34 := by
  have : #[c] = #[34] := congrArg Str.cps (h.trans m34)
  simpa using this
theorem ne34b {c : Nat} (h : ¬ (⟨#[c]⟩ : Str) = Str.ofString "\"") : c ≠ 34 := fun e => h (by rw [e, m34])
theorem ne34 {c : Nat} (h : ((⟨#[c]⟩ : Str) != Str.ofString "\"") = true) : c ≠ 34 := fun e => by
  rw [e, m34] at h
  exact absurd h (by decide +kernel)
theorem eq34b {c : Nat} (h : ((⟨#[c]⟩ : Str) != Str.ofString "\"") = false) : c = 34 := by
  have : ((⟨#[c]⟩ : Str) == Str.ofString "\"") = true := by simpa [bne] using h
  exact eq34 (eq_of_beq this)
/-- what stands within the quotation marks, a doubled mark read as one -/
noncomputable def pq : List Nat → List Nat
  | [] => []
  | [c] => if c = 34 then [] else [c]
  | c :: d :: t => if c = 34 then (if d = 34 then 34 :: pq t else []) else c :: pq (d :: t)
theorem drop_cons {l : List Nat} {i : Nat} (h : i < l.length) : l.drop i = l.getD i 0 :: l.drop (i + 1) := by
  rw [List.drop_eq_getElem_cons h]; simp [h]
theorem pq_plain {l : List Nat} {i : Nat} (h : i < l.length) (hc : l.getD i 0 ≠ 34) : pq (l.drop i) = l.getD i 0 :: pq (l.drop (i + 1)) := by
  rw [drop_cons h]
  cases l.drop (i + 1) with
  | nil => show (if _ then _ else _) = _; rw [if_neg hc]; rfl
  | cons d t => show (if _ then _ else _) = _; rw [if_neg hc]
theorem pq_end {l : List Nat} {i : Nat} (h : i < l.length) (hc : l.getD i 0 = 34) (hd : l.length ≤ i + 1 ∨ l.getD (i + 1) 0 ≠ 34) : pq (l.drop i) = [] := by
  rw [drop_cons h]
  rcases hd with hd | hd
  · rw [List.drop_eq_nil_of_le hd]; show (if _ then _ else _) = _; rw [if_pos hc]
  · by_cases h1 : i + 1 < l.length
    · rw [drop_cons h1]; show (if _ then (if _ then _ else _) else _) = _; rw [if_pos hc, if_neg hd]
    · rw [List.drop_eq_nil_of_le (by omega)]; show (if _ then _ else _) = _; rw [if_pos hc]
theorem pq_two {l : List Nat} {i : Nat} (h : i + 1 < l.length) (hc : l.getD i 0 = 34) (hd : l.getD (i + 1) 0 = 34) : pq (l.drop i) = 34 :: pq (l.drop (i + 2)) := by
  rw [drop_cons (by omega : i < l.length), drop_cons h]; show (if _ then (if _ then _ else _) else _) = _; rw [if_pos hc, if_pos hd]
set_option maxRecDepth 100000 in
set_option maxHeartbeats 1000000 in
theorem c_parseG {w : World} {loose : List Str} {mean : ExcName → Option Value} {mg mb : Str → Option Value} (news : List (Addr × Obj)) (l : List Nat) (t : Tok) (h5 : 5 ≤ l.length) (hl : l.length ≤ 60)
    (hx3 : Txt.slice (⟨l.toArray⟩ : Str) none (some 3) = Str.ofString "257") (hx5 : Txt.slice (⟨l.toArray⟩ : Str) (some 3) (some 5) = Str.ofString " \"") :
    Con PySem.Challenge.rw_zo0007_01.row.prog w (hd.heap_39 w.params) hd.view_39 loose mean mg mb 70 3 news [.str ⟨l.toArray⟩ t] (fun _ r => ∃ t', r = .str ⟨(pq (l.drop 5)).toArray⟩ t') := by
  w_on
  k_with_none
  k_fill
  unfold Con
  intro dp un gd cn cs a ccd cl outer A₀ base h₀ L m s Q E B F X N T hk hd hu hret
  refine wpAny_call ?_
  k_dflt cell_enter
  have hxl : (⟨l.toArray⟩ : Str).length = l.length := by show l.toArray.size = _; simp
  k_with "exec While" => (refine stopM ?_)
  k_steps
  · exfalso
    rename (_ != _) = true => hb
    rw [hx3] at hb
    exact absurd hb (by decide +kernel)
  · exfalso
    rename (_ != _) = true => hb
    rw [hx5] at hb
    exact absurd hb (by decide +kernel)
  rename Fr _ _ _ _ => F9
  rename News _ _ _ _ => N9
  clear hx3 hx5
  show wpAny _ _ (exec _ _) _ _ _
  refine While_inv2 (n₀ := l.length - 5) (fun n mm nx => ∃ (i : Nat) (d : List Nat), nx = news ∧ i + n = l.length ∧ d.length ≤ i ∧ d ++ pq (l.drop i) = pq (l.drop 5) ∧ mm (Str.ofString "resp") = some (.str ⟨l.toArray⟩ t) ∧ LK mm (Str.ofString "dirname") ⟨d.toArray⟩ ∧ LI mm (Str.ofString "i") (i : Int) ∧ LI mm (Str.ofString "n") (l.length : Int))
    F9 N9 ⟨5, [], rfl, by omega, by simp, rfl, by with_unfolding_all rfl, lk (by with_unfolding_all rfl) (by decide +kernel), li (by with_unfolding_all rfl) rfl, li (by with_unfolding_all rfl) (congrArg Nat.cast hxl)⟩ ?turn
  case turn =>
    clear F9 N9
    rintro n m₁ nx₁ h₁ tk₁ F9 N9 ⟨i, d, rfl, hn, hdl, hpq, e1, ⟨u2, e2⟩, ⟨u3, e3⟩, ⟨u4, e4⟩⟩
    have F8 := fr_pin F9 [(Str.ofString "resp", .str ⟨l.toArray⟩ t), (Str.ofString "dirname", .str ⟨d.toArray⟩ u2), (Str.ofString "i", .int (i : Int) u3), (Str.ofString "n", .int (l.length : Int) u4)] (by
      intro q hq
      simp only [List.mem_cons, List.not_mem_nil, or_false] at hq
      rcases hq with rfl | rfl | rfl | rfl <;> assumption)
    simp only [kstB] at F8
    clear F9 e1 e2 e3 e4
    k_with "subscriptTail Name Name str int" => (first | (refine sub_txt (k := i) (by omega) (by omega) (by omega) ?_; intro t9 k9) | (refine sub_txt (k := i + 1) (by omega) (by omega) (by omega) ?_; intro t9 k9))
    k_with "binaryOp Add str str" => (refine add_txt (by omega) ?_; intro t8 k8)
    k_steps
    · rename decide _ = true => hb
      have hc := eq34 (of_decide_eq_true hb)
      dsimp only [WhileStep2]
      k_steps
      rename Fr h₀ _ _ _ => kF
      rename News h₀ _ _ _ => kN
      refine con_retS hret kF kN (fun t' => ⟨t', rfl⟩) ?_
      rw [← hpq, pq_end (by omega) hc (.inl (by omega)), List.append_nil]
    · rename decide _ = true => hb
      rename (_ != _) = true => hq
      have hc := eq34 (of_decide_eq_true hb)
      have hd := ne34 hq
      dsimp only [WhileStep2]
      k_steps
      rename Fr h₀ _ _ _ => kF
      rename News h₀ _ _ _ => kN
      refine con_retS hret kF kN (fun t' => ⟨t', rfl⟩) ?_
      rw [← hpq, pq_end (by omega) hc (.inr hd), List.append_nil]
    · rename decide _ = true => hb
      rename (_ != _) = false => hq
      have hc := eq34 (of_decide_eq_true hb)
      have hd := eq34b hq
      rename Fr _ _ _ _ => fS
      rename News _ _ _ _ => nS
      refine ⟨_, _, _, _, n - 2, rfl, fS, nS, by omega, i + 2, d ++ [l.getD i 0], rfl, by omega, by simp; omega, ?_, by with_unfolding_all rfl, lk (by with_unfolding_all rfl) rfl, li (by with_unfolding_all rfl) (by omega), li (by with_unfolding_all rfl) rfl⟩
      rw [← hpq, pq_two (by omega) hc hd, hc, List.append_assoc]
      rfl
    · rename decide _ = false => hb
      have hc := ne34b (of_decide_eq_false hb)
      rename Fr _ _ _ _ => fS
      rename News _ _ _ _ => nS
      refine ⟨_, _, _, _, n - 1, rfl, fS, nS, by omega, i + 1, d ++ [l.getD i 0], rfl, by omega, by simp; omega, ?_, by with_unfolding_all rfl, lk (by with_unfolding_all rfl) rfl, li (by with_unfolding_all rfl) (by omega), li (by with_unfolding_all rfl) rfl⟩
      rw [← hpq, pq_plain (by omega) hc, List.append_assoc]
      rfl
    · rename Fr h₀ _ _ _ => kF
      rename News h₀ _ _ _ => kN
      refine con_retS hret kF kN (fun t' => ⟨t', rfl⟩) ?_
      rw [← hpq, List.drop_eq_nil_of_le (by omega)]
      simp [pq]
theorem c_parse {w : World} {loose : List Str} {mean : ExcName → Option Value} {mg mb : Str → Option Value} (news : List (Addr × Obj)) (t : Tok) (m v f : Nat) (hm : m < 2) (hv : v < 2) (hf : f < 3) :
    Con PySem.Challenge.rw_zo0007_01.row.prog w (hd.heap_39 w.params) hd.view_39 loose mean mg mb 70 3 news [.str (replyT m v f) t] (fun _ r => ∃ t', r = .str (nameT m v f) t') := by
  have key : ∀ m < 2, ∀ v < 2, ∀ f < 3, (replyT m v f).cps.toList.length ≥ 5 ∧ (replyT m v f).cps.toList.length ≤ 60 ∧ Txt.slice (replyT m v f) none (some 3) = Str.ofString "257" ∧ Txt.slice (replyT m v f) (some 3) (some 5) = Str.ofString " \"" ∧ nameT m v f = ⟨(pq ((replyT m v f).cps.toList.drop 5)).toArray⟩ := by decide +kernel
  obtain ⟨k1, k2, k3, k4, k5⟩ := key m hm v hv f hf
  have e : replyT m v f = ⟨(replyT m v f).cps.toList.toArray⟩ := by cases replyT m v f; simp
  rw [k5]
  rw [e] at k3 k4 ⊢
  simpa using c_parseG news _ t k1 k2 k3 k4
end Mine
end

section
open PySem PySem.W PyProof.Rows PySem.Calls
namespace Mine
theorem con_mono {prog : Program} {w : World} {K : Frag} {p : Program} {loose : List Str} {mean : ExcName → Option Value} {mg mb : Str → Option Value} {f : Addr} {k : Nat} {news : List (Addr × Obj)} {vs : List Value} {Out Out' : List (Addr × Obj) → Value → Prop}
    (C : Con prog w K p loose mean mg mb f k news vs Out) (h : ∀ tl r, Out tl r → Out' tl r) : Con prog w K p loose mean mg mb f k news vs Out' :=
  fun dp un gd cn cs a ccd cl outer A₀ base h₀ L m s Q E B F X N T hk hd hu hret => C dp un gd cn cs a ccd cl outer A₀ base h₀ L m s Q E B F X N T hk hd hu fun r tl h' tk' F' N' o q => hret r tl h' tk' F' N' o (h _ _ q)
theorem takenH {w : World} {loose : List Str} {mean : ExcName → Option Value} {mg mb : Str → Option Value} (news : List (Addr × Obj)) (t : Tok) : ∀ (l : List Nat), (∀ c ∈ l, Sgn c) → l.length ≤ 40 →
    Con PySem.Challenge.rw_zo0007_01.row.prog w (hd.heap_39 w.params) hd.view_39 loose mean mg mb 122 9 news [.str (host l) t] (fun tl r => ∃ q t1 t2, r = .ref q ∧ tl = [(q, tup2 (.str ⟨#[l.headD 32]⟩ t1) (.str (host l.tail) t2))])
  | [], hs, hl => con_mono (c_takenNo news (host []) t (by rw [host_len]; simp) find_nil) fun tl r q => by
      rw [show Str.ofString " " = ⟨#[32]⟩ by decide +kernel] at q
      exact q
  | c :: l, hs, hl => by
    have hc : c ≠ 46 := by rcases hs c (.head _) with rfl | rfl <;> decide
    have hlen := host_len (c :: l)
    have hlen2 := host_len l
    simp only [List.length_cons] at hlen hl
    refine con_mono (c_taken news (host (c :: l)) (host l) t (by omega) (by rw [find_cons c l hc]; decide) (by omega) (beq_ne fun e => ?_) ?_ ?_ (host_dig _ hs) ?_ ?_ (host_inj_ne c l hc) (by omega)) fun tl r q => ?_
    · have := congrArg Str.length e
      rw [hlen, emptyS] at this
      exact absurd this (by show ¬ (2 * (l.length + 1) + 5 = 0); omega)
    · rw [item_first, dotS]; exact beq_ne (one_ne hc)
    · rw [item_last, dotS]; exact beq_ne (one_ne (by decide))
    · rw [find_cons c l hc]; exact slice_two c l
    · cases l with
      | nil => exact .inr (by rw [localS]; exact beq_self_eq_true _)
      | cons d l' =>
        have hd : d ≠ 46 := by rcases hs d (.tail _ (.head _)) with rfl | rfl <;> decide
        exact .inl (by rw [find_cons d l' hd]; decide)
    · rw [slice_head, slice_one] at q
      exact q
theorem signsH {w : World} {loose : List Str} {mean : ExcName → Option Value} {mg mb : Str → Option Value} (news : List (Addr × Obj)) (t : Tok) (l : List Nat) (hs : ∀ c ∈ l, Sgn c) (hl : l.length ≤ 40) :
    Con PySem.Challenge.rw_zo0007_01.row.prog w (hd.heap_39 w.params) hd.view_39 loose mean mg mb 129 3 news [.str (host l) t] (fun _ r => ∃ t', r = .str ⟨l.toArray⟩ t') :=
  con_mono (c_signs news (host l) t (by rw [host_len]; omega)) fun tl r q => by rw [signs_host l hs] at q; exact q
end Mine
end

section
open PySem PySem.W PyProof.Rows PySem.Calls
namespace Mine
open Sem (wp)
theorem wp_execs_cut {M : Model} {Γ : Ctx} {env : Env} {Q : Flow → Pos → Shared → Prop} {E : Value → Pos → Shared → Prop} : ∀ (n : Nat) (l : List Stmt) (p : Pos) (s : Shared),
    wp M Γ (execs (l.take n) env) (fun f p' s' => match f with | .next => wp M Γ (execs (l.drop n) env) Q E p' s' | f => Q f p' s') E p s → wp M Γ (execs l env) Q E p s
  | 0, l, p, s, h => h
  | n + 1, [], p, s, h => h
  | n + 1, st :: t, p, s, h => by
    simp only [List.take_succ_cons, List.drop_succ_cons] at h
    rw [execs_cons, Sem.wp_bind'] at h ⊢
    refine Sem.wp_mono M Γ _ (fun f p' s' h' => ?_) (fun _ _ _ x => x) p s h
    cases f with
    | next => exact wp_execs_cut n t p' s' h'
    | cont => exact h'
    | brk => exact h'
    | ret v => exact h'
theorem S_cut {M : Model} {A : Around} {E : Value → Shared → Prop} {s : Shared} {env : Env} {l : List Stmt} {Q : Flow → Shared → Prop} {ι : Type} (n : Nat) (Inv : ι → Shared → Prop)
    (loop : ∀ x s, Inv x s → wpS M A (execs (l.drop n) env) Q E s)
    (init : wpAny M A (execs (l.take n) env) (fun f s' => StopM (f = .next ∧ ∃ x, Inv x s')) E s) : wpS M A (execs l env) Q E s := fun Γ p i c b => by
  refine wp_execs_cut n l p s (Sem.wp_mono M Γ _ (fun f p' s' h' => ?_) (fun _ _ _ x => x) p s (init Γ p i))
  obtain ⟨rfl, x, hx⟩ := h'
  exact loop x s' hx Γ p' i c b
theorem A_cut {M : Model} {A : Around} {E : Value → Shared → Prop} {s : Shared} {env : Env} {l : List Stmt} {Q : Flow → Shared → Prop} {ι : Type} (n : Nat) (Inv : ι → Shared → Prop)
    (loop : ∀ x s, Inv x s → wpAny M A (execs (l.drop n) env) Q E s)
    (init : wpAny M A (execs (l.take n) env) (fun f s' => StopM (f = .next ∧ ∃ x, Inv x s')) E s) : wpAny M A (execs l env) Q E s := fun Γ p i => by
  refine wp_execs_cut n l p s (Sem.wp_mono M Γ _ (fun f p' s' h' => ?_) (fun _ _ _ x => x) p s (init Γ p i))
  obtain ⟨rfl, x, hx⟩ := h'
  exact loop x s' hx Γ p' i

/-! the machine on hosts -/
noncomputable def sg (b : Nat) : Nat := if b = 0 then 32 else 34
structure Cfg where
  left : List Nat
  head : Nat
  right : List Nat
  st : Nat
structure Rules where
  m : Nat → Nat
  w : Nat → Nat
  f : Nat → Nat
noncomputable def Rules.Ok (r : Rules) : Prop := ∀ k, r.m k < 2 ∧ r.w k < 2 ∧ r.f k < 3
noncomputable def ix (c : Cfg) : Nat := 2 * c.st + (if c.head = 34 then 1 else 0)
noncomputable def step (r : Rules) (c : Cfg) : Cfg :=
  if r.w (ix c) = 1 then ⟨sg (r.m (ix c)) :: c.left, c.right.headD 32, c.right.tail, r.f (ix c)⟩
  else ⟨c.left.tail, c.left.headD 32, sg (r.m (ix c)) :: c.right, r.f (ix c)⟩
noncomputable def tapeL (c : Cfg) : List Nat := (c.head :: c.left).reverse ++ c.right
noncomputable def stC (k : Nat) : Nat := if k = 0 then 65 else if k = 1 then 66 else 72
noncomputable def lineD (c : Cfg) : Dat := .tuple [.str (commentT ⟨(tapeL c).toArray⟩), .str ⟨#[stC c.st]⟩]
noncomputable def runs (r : Rules) : Nat → Cfg → List Dat
  | 0, _ => []
  | n + 1, c => if c.st = 2 then [] else lineD (step r c) :: runs r n (step r c)
noncomputable def Cfg.Ok (c : Cfg) (b : Nat) : Prop := (∀ x ∈ c.left, Sgn x) ∧ Sgn c.head ∧ (∀ x ∈ c.right, Sgn x) ∧ c.st < 3 ∧ c.left.length ≤ b ∧ c.right.length ≤ b
theorem sg_sgn (b : Nat) : Sgn (sg b) := by unfold sg Sgn; split <;> simp
theorem headD_sgn {l : List Nat} (h : ∀ x ∈ l, Sgn x) : Sgn (l.headD 32) := by
  cases l with
  | nil => exact .inl rfl
  | cons a l => exact h a (.head _)
theorem tail_sgn {l : List Nat} (h : ∀ x ∈ l, Sgn x) : ∀ x ∈ l.tail, Sgn x := fun x hx => h x (List.mem_of_mem_tail hx)
theorem cons_sgn {l : List Nat} {a : Nat} (ha : Sgn a) (h : ∀ x ∈ l, Sgn x) : ∀ x ∈ a :: l, Sgn x := fun x hx => by
  rcases List.mem_cons.mp hx with rfl | hx
  · exact ha
  · exact h x hx
theorem step_ok {r : Rules} (hr : r.Ok) {c : Cfg} {b : Nat} (h : c.Ok b) : (step r c).Ok (b + 1) := by
  obtain ⟨h1, h2, h3, h4, h5, h6⟩ := h
  have h5' : c.left.tail.length ≤ b + 1 := by simp; omega
  have h6' : c.right.tail.length ≤ b + 1 := by simp; omega
  unfold step
  split
  · exact ⟨cons_sgn (sg_sgn _) h1, headD_sgn h3, tail_sgn h3, (hr _).2.2, by simp; omega, h6'⟩
  · exact ⟨tail_sgn h1, headD_sgn h1, cons_sgn (sg_sgn _) h3, (hr _).2.2, h5', by simp; omega⟩
theorem nameT_eq (m v f : Nat) (hm : m < 2) (hv : v < 2) (hf : f < 3) : nameT m v f = ⟨#[sg m, if v = 1 then 114 else 108, stC f]⟩ := by
  obtain rfl | rfl : m = 0 ∨ m = 1 := by omega
  all_goals obtain rfl | rfl : v = 0 ∨ v = 1 := by omega
  all_goals obtain rfl | rfl | rfl : f = 0 ∨ f = 1 ∨ f = 2 := by omega
  all_goals decide +kernel
end Mine
namespace Mine
section
variable {prog : Program} {w : World} {A : Around} {E : Value → Shared → Prop} {s : Shared} {value slice : PySem.Expr} {t u : Tok}
theorem item_sign (b : Nat) (hb : b < 2) : Txt.item (Str.ofString " \"") (b : Int) = ⟨#[sg b]⟩ := by
  obtain rfl | rfl : b = 0 ∨ b = 1 := by omega
  all_goals decide +kernel
theorem call_join3 {D : Addr} {h₀ : Heap} {L : Addr} {news : List (Addr × Obj)} {x1 x2 x3 sep : Str} {t0 t1 t2 t3 : Tok} {Q : Value → Shared → Prop} (N : News h₀ L s.heap news) (hm : (D, LCg.lst [.str x1 t1, .str x2 t2, .str x3 t3]) ∈ news) (hs : sep = Str.ofString "") (h1 : x1.length ≤ 2) (h2 : x2.length ≤ 2) (h3 : x3.length ≤ 2)
    (h : ∀ t' k, (x1 ++ x2 ++ x3).length ≤ 6 → Q (.str (x1 ++ x2 ++ x3) t') { s with toks := k }) : wpAny (model prog w) A (call (.builtin "str.join") [.str sep t0, .ref D]) Q E s := by
  have e : Txt.join sep [x1, x2, x3] = x1 ++ x2 ++ x3 := by
    unfold Txt.join
    rw [StrLaws.glued_eq_join, join_cons_cons, join_cons_cons, join_one, hs, emptyS]
    show (⟨x1.cps ++ #[] ++ (x2.cps ++ #[] ++ x3.cps)⟩ : Str) = ⟨x1.cps ++ x2.cps ++ x3.cps⟩
    simp
  refine SC.join (l := [(x1, t1), (x2, t2), (x3, t3)]) ⟨_, (N _ hm).1, rfl, _, rfl⟩ (texts := [x1, x2, x3]) rfl ?_ ?_
  · unfold JoinOk
    rw [StrLaws.joinFits (B := 2) ?_ ?_]
    · rfl
    · intro z hz
      simp at hz
      rcases hz with rfl | rfl | rfl <;> assumption
    · rw [hs, show (Str.ofString "").length = 0 by decide +kernel]
      simp
  · rw [e]
    intro t' k
    exact h t' k (by rw [Str.length_append, Str.length_append]; omega)
theorem host3 (b1 b2 b3 : Nat) (h1 : b1 < 2) (h2 : b2 < 2) (h3 : b3 < 2) : Txt.item (Str.ofString " \"") (b1 : Int) ++ Str.ofString "." ++ (Txt.item (Str.ofString " \"") (b2 : Int) ++ Str.ofString ".") ++ (Txt.item (Str.ofString " \"") (b3 : Int) ++ Str.ofString ".") ++ Str.ofString "local" = host [sg b1, sg b2, sg b3] := by
  rw [item_sign b1 h1, item_sign b2 h2, item_sign b3 h3, dotS, localS]
  rfl
theorem sub_sign {i : Int} {b : Nat} {Q : Value → Shared → Prop} (hi : i = (b : Int)) (hb : b < 2) (h : ∀ t' k, Q (.str ⟨#[sg b]⟩ t') { s with toks := k })
    (hs : subscripted slice false (.str (Str.ofString " \"") t) (.int i u) = operate [.str (Str.ofString " \"") t, .int i u] (getItem (.str (Str.ofString " \"") t) (.int i u)) := by with_unfolding_all rfl)
    (ht : ∀ r, letTemporaryGo value (.str (Str.ofString " \"") t) r = pure () := by intro _; with_unfolding_all rfl) : wpAny (model prog w) A (subscriptTail value slice (.str (Str.ofString " \"") t) (.int i u)) Q E s := by
  subst hi
  refine KXi.item (n := 2) (by decide +kernel) (by omega) (by omega) (by decide) (fun _ => ?_) hs ht
  rw [item_sign b hb]
  exact h _ _
theorem sub3 {a b c d : Nat} {x : Str} {i : Int} {k : Nat} {Q : Value → Shared → Prop} (hx : x = ⟨#[a, b, c]⟩) (hi : i = (k : Int)) (hk : k < 3) (hd : #[a, b, c].getD k 0 = d) (h : ∀ t' k, Q (.str ⟨#[d]⟩ t') { s with toks := k })
    (hs : subscripted slice false (.str x t) (.int i u) = operate [.str x t, .int i u] (getItem (.str x t) (.int i u)) := by with_unfolding_all rfl)
    (ht : ∀ r, letTemporaryGo value (.str x t) r = pure () := by intro _; with_unfolding_all rfl) : wpAny (model prog w) A (subscriptTail value slice (.str x t) (.int i u)) Q E s := by
  subst hx; subst hi; subst hd
  refine KXi.item (n := 3) rfl (by omega) (by omega) (by decide) (fun _ => ?_) hs ht
  rw [item_meets (x := ⟨#[a, b, c]⟩) (i := (k : Int)) ⟨by omega, by show (k : Int) < (3 : Int); omega⟩]
  exact h _ _
end
end Mine
namespace Mine
theorem stA : Str.ofString "A" = ⟨#[stC 0]⟩ := by decide +kernel
theorem c0_ok (bs : List Nat) (h : bs.length ≤ 5) : (⟨[], sg (bs.headD 0), bs.tail.map sg, 0⟩ : Cfg).Ok 4 := by
  refine ⟨(fun _ h => nomatch h), sg_sgn _, fun x hx => ?_, Nat.zero_lt_succ 2, by simp, by simp; omega⟩
  obtain ⟨b, _, rfl⟩ := List.mem_map.mp hx
  exact sg_sgn b
end Mine
namespace Mine
section
variable {prog : Program} {w : World} {A : Around} {E : Value → Shared → Prop} {s : Shared} {t u : Tok} {Q : Value → Shared → Prop}
theorem add_eq {x y z : Str} (e : x ++ y = z) (hl : x.length + y.length ≤ 1000) (h : ∀ t' k, Q (.str z t') { s with toks := k }) : wpAny (model prog w) A (binaryOp .Add (.str x t) (.str y u)) Q E s :=
  SB.add (fun t' k => e ▸ h t' k) (hsz := Nat.le_trans hl (by unfold sizeLine; decide))
theorem add_dot {c : Nat} (h : ∀ t' k, Q (.str (⟨#[c]⟩ ++ Str.ofString ".") t') { s with toks := k }) : wpAny (model prog w) A (binaryOp .Add (.str ⟨#[c]⟩ t) (.str (Str.ofString ".") u)) Q E s :=
  add_eq rfl (by rw [show (Str.ofString ".").length = 1 by decide +kernel]; show 1 + 1 ≤ 1000; decide) h
theorem add_host {c : Nat} {l : List Nat} (hl : l.length ≤ 60) (h : ∀ t' k, Q (.str (host (c :: l)) t') { s with toks := k }) : wpAny (model prog w) A (binaryOp .Add (.str (⟨#[c]⟩ ++ Str.ofString ".") t) (.str (host l) u)) Q E s :=
  add_eq (host_cat c l) (by rw [Str.length_append, host_len, show (Str.ofString ".").length = 1 by decide +kernel]; show 1 + 1 + _ ≤ 1000; omega) h
theorem add_head {c : Nat} {l : List Nat} (hl : l.length ≤ 60) (h : ∀ t' k, Q (.str ⟨(c :: l).toArray⟩ t') { s with toks := k }) : wpAny (model prog w) A (binaryOp .Add (.str ⟨#[c]⟩ t) (.str ⟨l.toArray⟩ u)) Q E s :=
  add_eq (cat_toArray [c] l) (by show 1 + l.toArray.size ≤ 1000; simp; omega) h
theorem add_tape {a b : List Nat} (ha : a.length ≤ 90) (hb : b.length ≤ 90) (h : ∀ t' k, Q (.str ⟨(a ++ b).toArray⟩ t') { s with toks := k }) : wpAny (model prog w) A (binaryOp .Add (.str ⟨a.toArray⟩ t) (.str ⟨b.toArray⟩ u)) Q E s :=
  add_eq (cat_toArray a b) (by show a.toArray.size + b.toArray.size ≤ 1000; simp; omega) h
theorem sub3t {a b c : Nat} {y : Str} {i : Int} {k : Nat} {value slice : PySem.Expr} (hi : i = (k : Int)) (hk : k < 3) (hd : (⟨#[#[a, b, c].getD k 0]⟩ : Str) = y) (h : ∀ t' k, Q (.str y t') { s with toks := k })
    (hs : subscripted slice false (.str ⟨#[a, b, c]⟩ t) (.int i u) = operate [.str ⟨#[a, b, c]⟩ t, .int i u] (getItem (.str ⟨#[a, b, c]⟩ t) (.int i u)) := by with_unfolding_all rfl)
    (ht : ∀ r, letTemporaryGo value (.str ⟨#[a, b, c]⟩ t) r = pure () := by intro _; with_unfolding_all rfl) : wpAny (model prog w) A (subscriptTail value slice (.str ⟨#[a, b, c]⟩ t) (.int i u)) Q E s :=
  sub3 rfl hi hk rfl (fun t' k => by rw [hd]; exact h t' k) hs ht
end
noncomputable def wc (v : Nat) : Nat := if v = 1 then 114 else 108
theorem wc1 {v : Nat} (h : v = 1) : (⟨#[#[a, wc v, c].getD 1 0]⟩ : Str) = Str.ofString "r" := by
  subst h
  show (⟨#[114]⟩ : Str) = _
  decide +kernel
theorem wc0 {v : Nat} (h : v = 0) : (⟨#[#[a, wc v, c].getD 1 0]⟩ : Str) = Str.ofString "l" := by
  subst h
  show (⟨#[108]⟩ : Str) = _
  decide +kernel
theorem perm_last {g h : Heap} {L : Addr} {l : List (Addr × Obj)} {p : Addr × Obj} (N : News g L h (l ++ [p])) : News g L h (p :: l) := fun q hq => by
  rcases List.mem_cons.mp hq with rfl | hq
  · exact N _ (List.mem_append.mpr (.inr (.head _)))
  · exact N _ (List.mem_append.mpr (.inl hq))
section
variable {w : World} {loose : List Str} {mean : ExcName → Option Value} {mg mb : Str → Option Value}
theorem parse3 (news : List (Addr × Obj)) (t : Tok) (m v f : Nat) (hm : m < 2) (hv : v < 2) (hf : f < 3) :
    Con PySem.Challenge.rw_zo0007_01.row.prog w (hd.heap_39 w.params) hd.view_39 loose mean mg mb 70 3 news [.str (replyT m v f) t] (fun _ r => ∃ t', r = .str ⟨#[sg m, wc v, stC f]⟩ t') :=
  con_mono (c_parse news t m v f hm hv hf) fun tl r q => by rw [nameT_eq m v f hm hv hf] at q; exact q
theorem conNS_mono {prog : Program} {w : World} {K : Frag} {p : Program} {loose : List Str} {mean : ExcName → Option Value} {mg mb : Str → Option Value} {f : Addr} {k : Nat} {news : List (Addr × Obj)} {vs : List Value} {Out Out' : List (Addr × Obj) → Value → Prop}
    (C : ConNS prog w K p loose mean mg mb f k news vs Out) (h : ∀ tl r, Out tl r → Out' tl r) : ConNS prog w K p loose mean mg mb f k news vs Out' :=
  fun dp un gd cn cs a ccd cl outer A₀ base h₀ L m s Q E B F X N T hk hd hu hret => C dp un gd cn cs a ccd cl outer A₀ base h₀ L m s Q E B F X N T hk hd hu fun r tl h' tk' F' N' q => hret r tl h' tk' F' N' (h _ _ q)
theorem turnedH (news : List (Addr × Obj)) (t : Tok) (c : Nat) (l : List Nat) (hc : Sgn c) (hs : ∀ x ∈ l, Sgn x) (hl : l.length ≤ 60) :
    ConNS PySem.Challenge.rw_zo0007_01.row.prog w (hd.heap_39 w.params) hd.view_39 loose mean mg mb 134 12 news [.str ⟨(c :: l).toArray⟩ t] (fun _ r => ∃ t', r = .str ⟨((c :: l).reverse).toArray⟩ t') := by
  refine conNS_mono (c_turned news ⟨(c :: l).toArray⟩ t ?_ ?_ ?_) fun tl r q => ?_
  · have h2 : ∀ x ∈ c :: l, x < 128 := fun x hx => by
      rcases cons_sgn hc hs x hx with rfl | rfl <;> decide
    rw [Array.all_eq_true]
    intro i hi
    have : ((c :: l).toArray)[i] ∈ c :: l := by simp
    exact decide_eq_true (h2 _ this)
  · show 0 < (c :: l).toArray.size; simp
  · show (c :: l).toArray.size ≤ 100; simp; omega
  · have e : ((c :: l).toArray).reverse = ((c :: l).reverse).toArray := by simp
    rw [e] at q
    exact q
end
end Mine
namespace Mine
theorem datAll_snoc {n : List (Addr × Obj)} {v : Value} {d : Dat} (hd : DatIn n v d) : ∀ {vs : List Value} {ds : List Dat}, DatAll n vs ds → DatAll n (vs ++ [v]) (ds ++ [d])
  | [], _, .nil => .cons hd .nil
  | _ :: _, _, .cons h r => .cons h (datAll_snoc hd r)
end Mine

namespace Mine
/-! the plain machine on a list of cells -/
structure PS where
  cells : List Nat
  at' : Nat
  low : Nat
  high : Nat
  st : Nat
noncomputable def pk (p : PS) : Nat := 2 * p.st + p.cells.getD p.at' 0
noncomputable def pstep (r : Rules) (p : PS) : PS :=
  let a := p.at' + 2 * r.w (pk p) - 1
  ⟨p.cells.take p.at' ++ r.m (pk p) :: p.cells.drop (p.at' + 1), a, min p.low a, max p.high a, r.f (pk p)⟩
end Mine
namespace Mine
section
variable {prog : Program} {w : World} {A : Around} {E : Value → Shared → Prop} {s : Shared} {value slice : PySem.Expr} {u : Tok} {Q : Value → Shared → Prop}
theorem sub_lst {l : Addr} {vs : List Value} {i : Int} {j : Nat} {v : Value} {h₀ : Heap} {L : Addr} {news : List (Addr × Obj)} {z : Nat} (N : News h₀ L s.heap news) (hm : (l, listOf vs.toArray z) ∈ news) (hi : i = (j : Int)) (hj : j < 1000) (e : vs[j]? = some v) (h : Q v s)
    (hs : subscripted slice false (.ref l) (.int i u) = operate [.ref l, .int i u] (getItem (.ref l) (.int i u)) := by with_unfolding_all rfl) : wpAny (model prog w) A (subscriptTail value slice (.ref l) (.int i u)) Q E s := by
  subst hi
  have hl : s.heap.IsList l vs.toArray := ⟨_, (N _ hm).1, rfl, z, rfl⟩
  exact tail_any hl.typeIs slot_list_getitem.lookup (wpAny_getItem_list hl (by omega) (by omega) (x := v) (by simpa using e) h) hs
end
theorem sub_lstO {prog : Program} {w : World} {A : Around} {E : Value → Shared → Prop} {s : Shared} {value slice : PySem.Expr} {u : Tok} {Q : Value → Shared → Prop} {l : Addr} {vs : List Value} {i : Int} {j : Nat} {v : Value} {h₀ : Heap} {L : Addr} {news : List (Addr × Obj)} {z : Nat} {o : Obj} (N : News h₀ L s.heap news) (hm : (l, o) ∈ news) (ho : o = listOf vs.toArray z) (hi : i = (j : Int)) (hj : j < 1000) (e : vs[j]? = some v) (h : Q v s)
    (hs : subscripted slice false (.ref l) (.int i u) = operate [.ref l, .int i u] (getItem (.ref l) (.int i u)) := by with_unfolding_all rfl) : wpAny (model prog w) A (subscriptTail value slice (.ref l) (.int i u)) Q E s := by
  subst ho
  exact sub_lst N hm hi hj e h hs
end Mine
end

section
open PySem PySem.W PyProof.Rows PySem.Calls
namespace Mine
section
variable {prog : Program} {w : World} {A : Around} {E : Value → Shared → Prop} {s : Shared} {h₀ : Heap} {L : Addr} {m : Str → Option Value} {news : List (Addr × Obj)} {value slice : PySem.Expr} {l : Addr} {vs : List Value} {z : Nat} {Q : Value → Shared → Prop}
theorem fits100 {n : Nat} (h : n ≤ 100) : n ≤ sizeLine := Nat.le_trans h (by unfold sizeLine; decide)
theorem slice_up {k : Int} {t : Tok} {a : Nat} (F : Fr h₀ L s.heap m) (N : News h₀ L s.heap news) (hm : (l, listOf vs.toArray z) ∈ news) (hk : k = (a : Int)) (hz : vs.length ≤ 100)
    (h : ∀ D' h', (∀ q ∈ news, q.1 < D') → Fr h₀ L h' m → News h₀ L h' ((D', listOf (vs.take a).toArray 0) :: news) → Q (.ref D') { s with heap := h' })
    (hs : subscripted slice false (.ref l) (.ref s.heap.objs.size) = operate [.ref s.heap.objs.size, .ref l] (getItem (.ref l) (.ref s.heap.objs.size)) := by with_unfolding_all rfl)
    (ht : ∀ r, letTemporaryGo value (.ref l) r = pure () := by intro _; with_unfolding_all rfl) :
    wpAny (model prog w) A (subscriptTail value slice (.ref l) (.ref s.heap.objs.size)) Q E { s with heap := s.heap.push { cls := .type "slice", data := .fields #[.none, .int k t, .none] } } := by
  subst hk
  refine slice_list F N ⟨_, (N _ hm).1, rfl, z, rfl⟩ .none (.int _ _) (fun h' F' N' => ?_) hs ht (by simpa using fits100 hz)
  rw [slicePick_upto'] at N'
  exact h _ h' (fun q hq => Nat.lt_succ_of_lt (Heap.lt_size (N q hq).1)) F' N'
theorem slice_fr {k : Int} {t : Tok} {a : Nat} (F : Fr h₀ L s.heap m) (N : News h₀ L s.heap news) (hm : (l, listOf vs.toArray z) ∈ news) (hk : k = (a : Int)) (hz : vs.length ≤ 100)
    (h : ∀ D' h', (∀ q ∈ news, q.1 < D') → Fr h₀ L h' m → News h₀ L h' ((D', listOf (vs.drop a).toArray 0) :: news) → Q (.ref D') { s with heap := h' })
    (hs : subscripted slice false (.ref l) (.ref s.heap.objs.size) = operate [.ref s.heap.objs.size, .ref l] (getItem (.ref l) (.ref s.heap.objs.size)) := by with_unfolding_all rfl)
    (ht : ∀ r, letTemporaryGo value (.ref l) r = pure () := by intro _; with_unfolding_all rfl) :
    wpAny (model prog w) A (subscriptTail value slice (.ref l) (.ref s.heap.objs.size)) Q E { s with heap := s.heap.push { cls := .type "slice", data := .fields #[.int k t, .none, .none] } } := by
  subst hk
  refine slice_list F N ⟨_, (N _ hm).1, rfl, z, rfl⟩ (.int _ _) .none (fun h' F' N' => ?_) hs ht (by simpa using fits100 hz)
  rw [slicePick_from'] at N'
  exact h _ h' (fun q hq => Nat.lt_succ_of_lt (Heap.lt_size (N q hq).1)) F' N'
theorem slice_ru {k k2 : Int} {t t2 : Tok} {a b : Nat} (F : Fr h₀ L s.heap m) (N : News h₀ L s.heap news) (hm : (l, listOf vs.toArray z) ∈ news) (hk : k = (a : Int)) (hk2 : k2 = (b : Int)) (hab : a ≤ b) (hb : b ≤ vs.length) (hz : vs.length ≤ 100)
    (h : ∀ D' h', (∀ q ∈ news, q.1 < D') → Fr h₀ L h' m → News h₀ L h' ((D', listOf ((vs.drop a).take (b - a)).toArray 0) :: news) → Q (.ref D') { s with heap := h' })
    (hs : subscripted slice false (.ref l) (.ref s.heap.objs.size) = operate [.ref s.heap.objs.size, .ref l] (getItem (.ref l) (.ref s.heap.objs.size)) := by with_unfolding_all rfl)
    (ht : ∀ r, letTemporaryGo value (.ref l) r = pure () := by intro _; with_unfolding_all rfl) :
    wpAny (model prog w) A (subscriptTail value slice (.ref l) (.ref s.heap.objs.size)) Q E { s with heap := s.heap.push { cls := .type "slice", data := .fields #[.int k t, .int k2 t2, .none] } } := by
  subst hk; subst hk2
  refine slice_list F N ⟨_, (N _ hm).1, rfl, z, rfl⟩ (.int _ _) (.int _ _) (fun h' F' N' => ?_) hs ht (by simpa using fits100 hz)
  rw [slicePick_run _ _ _ (by simpa using hb) hab] at N'
  exact h _ h' (fun q hq => Nat.lt_succ_of_lt (Heap.lt_size (N q hq).1)) F' N'
theorem add_own {b : Addr} {ws : List Value} {z2 : Nat} (F : Fr h₀ L s.heap m) (N : News h₀ L s.heap news) (hm : (l, listOf vs.toArray z) ∈ news) (hm2 : (b, listOf ws.toArray z2) ∈ news) (hz : vs.length + ws.length ≤ 100)
    (h : ∀ D' h', (∀ q ∈ news, q.1 < D') → Fr h₀ L h' m → News h₀ L h' ((D', listOf (vs ++ ws).toArray 0) :: news) → Q (.ref D') { s with heap := h' }) :
    wpAny (model prog w) A (binaryOp .Add (.ref l) (.ref b)) Q E s :=
  add_lists F N ⟨_, (N _ hm).1, rfl, z, rfl⟩ ⟨_, (N _ hm2).1, rfl, z2, rfl⟩ (fun h' F' N' => h _ h' (fun q hq => Heap.lt_size (N q hq).1) F' N') (hsz := fits100 hz)
end
open LCg
section
variable {prog : Program} {w : World} {A : Around} {E : Value → Shared → Prop} {h₀ : Heap} {L : Addr} {m : Str → Option Value} {env : Env}
theorem comp_turnsL {elt : Expr} {x : Str} {scope : Scope} {cl : List (Str × Addr)} {s : Shared} {S : List (Addr × Obj) → Prop} {P : Nat → Value → Prop} {Fin : List Value → List (Addr × Obj) → Prop} {news : List (Addr × Obj)} {n : Nat} (hS : S news) (Y : Nat → Value → Prop)
    (turn : ∀ i v I oI C oC D m₂ ys h tk (E' : Value → Shared → Prop), i < n → P i v → NsObj oC m₂ → m₂ x = some v → Fr h₀ L h m → News h₀ L h ((I, oI) :: (C, oC) :: (D, lst ys) :: news) → Off3 I C D news → ((@Ne Nat I C) ∧ (@Ne Nat I D) ∧ (@Ne Nat C D)) →
      wpAny (model prog w) A (eval elt (compEnvC scope cl C env)) (CompEnd h₀ L m { s with heap := h, toks := tk } I oI C oC D (lst ys) (fun _ => True) (fun y news' => news' = news ∧ Y i y)) E' { s with heap := h, toks := tk })
    (fin : ∀ ys : List Value, ys.length = n → (∀ i y, ys[i]? = some y → Y i y) → Fin ys news) : CompRest prog w A h₀ L m env elt x scope cl s S P Fin n 0 [] news := by
  have key : ∀ (j i : Nat) (ys : List Value), i + j = n → ys.length = i → (∀ k y, ys[k]? = some y → Y k y) → CompRest prog w A h₀ L m env elt x scope cl s S P Fin j i ys news := by
    intro j
    induction j with
    | zero =>
      intro i ys hi hl hy
      exact CompRest.zero (fin ys (by omega) hy)
    | succ j ih =>
      intro i ys hi hl hy
      refine CompRest.succ ?_
      intro v I oI C oC D m₂ h tk E' hv hC hx F N off ne
      refine wpAny_mono (turn i v I oI C oC D m₂ ys h tk E' (by omega) hv hC hx F N off ne) (fun y s₂ hq => ?_) fun _ _ e => e
      obtain ⟨h', tk', nw, e, F', N', off', _, hn, hyy⟩ := hq
      rw [hn] at N' off'
      refine ⟨h', tk', news, e, F', N', off', hS, ?_⟩
      refine ih (i + 1) _ (by omega) (by simp; omega) ?_
      intro k y' hk
      by_cases hki : k < ys.length
      · rw [List.getElem?_append_left hki] at hk
        exact hy k y' hk
      · rw [List.getElem?_append_right (by omega)] at hk
        have : k - ys.length = 0 := by
          by_cases h0 : k - ys.length = 0
          · exact h0
          · rw [List.getElem?_eq_none (by simp; omega)] at hk; cases hk
        rw [this] at hk
        cases hk
        have : k = i := by omega
        rw [this]; exact hyy
  exact key n 0 [] (by omega) rfl (fun k y hk => by simp at hk)
theorem src_lst {elt : Expr} {x : Str} {scope : Scope} {cl : List (Str × Addr)} {Fin : Shared → List Value → List (Addr × Obj) → Prop} {ax : Addr} {vs : List Value} {z : Nat} {news : List (Addr × Obj)} {s₁ : Shared}
    (hh : A.handled = none) (F : Fr h₀ L s₁.heap m) (N : News h₀ L s₁.heap news) (hm : (ax, listOf vs.toArray z) ∈ news) (hsz : vs.length ≤ 100)
    (h : ∀ g, SrcAt h₀ ax vs.toArray news → CompRest prog w A h₀ L m env elt x scope cl { s₁ with heap := g } (SrcAt h₀ ax vs.toArray) (fun i v => vs.toArray[i]? = some v) (Fin { s₁ with heap := g }) vs.toArray.size 0 [] news) :
    CompSrc prog w A h₀ L m env elt x scope cl Fin (.ref ax) s₁ :=
  CompSrc.ledger hh F N hm (by simpa using fits100 hsz) fun g => h g (.inr ⟨_, hm, rfl, _, rfl⟩)
end
end Mine
namespace Mine
theorem ints_at {cells : List Nat} {vs : List Value} (h : IntsAre vs (List.map (fun c : Nat => (c : Int)) cells)) {i : Nat} {v : Value} (e : vs[i]? = some v) : ∃ t, v = .int ((cells.getD i 0 : Nat) : Int) t := by
  have hl : vs.length = cells.length := by rw [h.length]; simp
  have hi : i < cells.length := by
    rw [← hl]
    exact (List.getElem?_eq_some_iff.mp e).1
  obtain ⟨t, ht⟩ := h.get i ((cells.getD i 0 : Nat) : Int) (by simp [hi])
  rw [e] at ht
  exact ⟨t, Option.some.inj ht⟩
theorem ints_take {vs : List Value} {ns : List Int} (h : IntsAre vs ns) (k : Nat) : IntsAre (vs.take k) (ns.take k) := by
  induction h generalizing k with
  | nil => simp; exact .nil
  | cons n t _ ih => cases k with
    | zero => exact .nil
    | succ k => exact .cons n t (ih k)
theorem ints_drop {vs : List Value} {ns : List Int} (h : IntsAre vs ns) (k : Nat) : IntsAre (vs.drop k) (ns.drop k) := by
  induction h generalizing k with
  | nil => simp; exact .nil
  | cons n t r ih => cases k with
    | zero => exact .cons n t r
    | succ k => exact ih k
theorem ints_step {cv : List Value} {cells : List Nat} (h : IntsAre cv (List.map (fun c : Nat => (c : Int)) cells)) (a M : Nat) (t : Tok) :
    IntsAre (cv.take a ++ [.int (M : Int) t] ++ cv.drop (a + 1)) (List.map (fun c : Nat => (c : Int)) (cells.take a ++ M :: cells.drop (a + 1))) := by
  have := ((ints_take h a).append (.cons (M : Int) t .nil)).append (ints_drop h (a + 1))
  simpa [List.map_append, List.map_take, List.map_drop] using this
end Mine
namespace Mine
noncomputable def cutT (x : Str) : Str := Txt.slice x none (some (Txt.rfind x (Str.ofString "\"") + 1))
noncomputable def remT (y : Str) : Str := if y = Str.ofString "" then Str.ofString "#" else Str.ofString "# " ++ y
noncomputable def rangeL (p : PS) : List Nat := (List.range (p.high + 1 - p.low)).map fun i => sg (p.cells.getD (p.low + i) 0)
noncomputable def plineD (p : PS) : Dat := .tuple [.str (remT (cutT ⟨(rangeL p).toArray⟩)), .str ⟨#[stC p.st]⟩]
noncomputable def pruns (r : Rules) : Nat → PS → List Dat
  | 0, _ => []
  | n + 1, p => if p.st < 2 then plineD (pstep r p) :: pruns r n (pstep r p) else []
theorem slice_get {vs : List Value} {lo n i : Nat} {v : Value} (h : ((vs.drop lo).take n).toArray[i]? = some v) : vs[lo + i]? = some v := by
  simp only [List.getElem?_toArray, List.getElem?_take, List.getElem?_drop] at h
  split at h
  · exact h
  · cases h
theorem getD_lt2 {l : List Nat} (h : ∀ c ∈ l, c < 2) (i : Nat) : l.getD i 0 < 2 := by
  by_cases hi : i < l.length
  · have e : l.getD i 0 = l[i] := by simp [hi]
    rw [e]; exact h _ (List.getElem_mem hi)
  · have e : l.getD i 0 = 0 := by simp [List.getD_eq_getElem?_getD, List.getElem?_eq_none (Nat.le_of_not_lt hi)]
    rw [e]; decide
theorem call_join1 {prog : Program} {w : World} {A : Around} {E : Value → Shared → Prop} {s : Shared} {D : Addr} {h₀ : Heap} {L : Addr} {news : List (Addr × Obj)} {f : Nat → Nat} {n : Nat} {ys : List Value} {t0 : Tok} {Q : Value → Shared → Prop} (N : News h₀ L s.heap news) (hm : (D, LCg.lst ys) ∈ news) (hn : ys.length = n) (hz : n ≤ 100)
    (hy : ∀ (i : Nat) (y : Value), ys[i]? = some y → ∃ t, y = Value.str ⟨#[f i]⟩ t)
    (h : ∀ t' k, (⟨((List.range n).map f).toArray⟩ : Str).length = n → Q (.str ⟨((List.range n).map f).toArray⟩ t') { s with toks := k }) : wpAny (model prog w) A (call (.builtin "str.join") [.str (Str.ofString "") t0, .ref D]) Q E s := by
  obtain ⟨l, e1, e2⟩ := strs_of (fun i => (⟨#[f i]⟩ : Str)) ys hy
  have hj := join_signs_of f ys.length
  subst e1
  refine SC.join (l := l) ⟨_, (N _ hm).1, rfl, _, rfl⟩ e2 ?_ ?_
  · unfold JoinOk
    rw [StrLaws.joinFits (B := 1) ?_ ?_]
    · rfl
    · intro z hz'
      obtain ⟨i, _, rfl⟩ := List.mem_map.mp hz'
      exact Nat.le_refl 1
    · rw [show (Str.ofString "").length = 0 by decide +kernel]
      simp
      omega
  · rw [hj, hn]
    intro t' k
    exact h t' k (by show (List.toArray _).size = n; simp)
end Mine
namespace Mine
theorem item_abh (k : Nat) (hk : k < 3) : Txt.item (Str.ofString "ABH") (k : Int) = ⟨#[stC k]⟩ := by
  obtain rfl | rfl | rfl : k = 0 ∨ k = 1 ∨ k = 2 := by omega
  all_goals decide +kernel
theorem remT_ne {y : Str} (h : (y != Str.ofString "") = true) : remT y = Str.ofString "# " ++ y := by
  unfold remT
  rw [if_neg (by simpa using h)]
theorem remT_eq {y : Str} (h : (y != Str.ofString "") = false) : remT y = Str.ofString "#" := by
  unfold remT
  rw [if_pos (by simpa using h)]
end Mine
end

section
open PySem PySem.W PyProof.Rows PySem.Calls
namespace Mine
noncomputable def bt (c : Nat) : Nat := if c = 34 then 1 else 0
noncomputable def num : List Nat → Nat
  | [] => 0
  | c :: l => 2 * num l + bt c
theorem bt_lt (c : Nat) : bt c < 2 := by unfold bt; split <;> omega
theorem num_head (l : List Nat) : num l % 2 = bt (l.headD 32) := by
  cases l with
  | nil => rfl
  | cons c l => show (2 * num l + bt c) % 2 = bt c; have := bt_lt c; omega
theorem num_tail (l : List Nat) : num l / 2 = num l.tail := by
  cases l with
  | nil => rfl
  | cons c l => show (2 * num l + bt c) / 2 = num l; have := bt_lt c; omega
theorem bt_sg (m : Nat) (h : m < 2) : bt (sg m) = m := by
  obtain rfl | rfl : m = 0 ∨ m = 1 := by omega
  all_goals rfl
noncomputable def Rel (C : Cfg) (c : NC) : Prop := c.l = num C.left ∧ c.h = bt C.head ∧ c.r = num C.right ∧ c.s = C.st
theorem ix_rel {C : Cfg} {c : NC} (h : Rel C c) : ix C = 2 * c.s + c.h := by
  unfold ix
  rw [h.2.2.2, h.2.1]
  rfl
theorem rel_step {r : Rules} (hr : r.Ok) {C : Cfg} {c : NC} (h : Rel C c) : Rel (step r C) (nstep (r.m (ix C), r.w (ix C), r.f (ix C)) c) := by
  obtain ⟨h1, h2, h3, h4⟩ := h
  have hm := bt_sg _ (hr (ix C)).1
  unfold step nstep
  by_cases hw : r.w (ix C) = 1
  · simp only [hw, if_true]
    refine ⟨?_, ?_, ?_, rfl⟩
    · show 2 * c.l + _ = 2 * num C.left + bt (sg _); rw [h1, hm]
    · show c.r % 2 = bt (C.right.headD 32); rw [h3, num_head]
    · show c.r / 2 = num C.right.tail; rw [h3, num_tail]
  · simp only [if_neg hw]
    refine ⟨?_, ?_, ?_, rfl⟩
    · show c.l / 2 = num C.left.tail; rw [h1, num_tail]
    · show c.l % 2 = bt (C.left.headD 32); rw [h1, num_head]
    · show 2 * c.r + _ = 2 * num C.right + bt (sg _); rw [h3, hm]
noncomputable def endC (r : Rules) : Nat → Cfg → Cfg
  | 0, c => c
  | n + 1, c => if c.st = 2 then c else endC r n (step r c)
theorem in_choices {m w f : Nat} (hm : m < 2) (hw : w < 2) (hf : f < 3) : (m, w, f) ∈ choices := by
  obtain rfl | rfl : m = 0 ∨ m = 1 := by omega
  all_goals obtain rfl | rfl : w = 0 ∨ w = 1 := by omega
  all_goals obtain rfl | rfl | rfl : f = 0 ∨ f = 1 ∨ f = 2 := by omega
  all_goals decide
theorem chk_sound {r : Rules} (hr : r.Ok) : ∀ (n : Nat) (T : Tab) (C : Cfg) (c : NC) (k : Nat), Rel C c → (∀ i e, T.getD i none = some e → e = (r.m i, r.w i, r.f i)) → chk n T c k = true → (endC r n C).st = 2 → k + (runs r n C).length ≤ 6
  | 0, T, C, c, k, hrel, hT, hc, he => by
    have h2 : c.s = 2 := hrel.2.2.2.trans he
    simp only [chk, h2, bne_self_eq_false, Bool.false_or] at hc
    have := Nat.le_of_ble_eq_true hc
    show k + 0 ≤ 6
    omega
  | n + 1, T, C, c, k, hrel, hT, hc, he => by
    unfold chk at hc
    unfold endC at he
    unfold runs
    by_cases h2 : C.st = 2
    · rw [if_pos h2]
      have h3 : c.s = 2 := hrel.2.2.2.trans h2
      rw [if_pos (by rw [h3]; rfl)] at hc
      have := Nat.le_of_ble_eq_true hc
      show k + 0 ≤ 6
      omega
    · rw [if_neg h2] at he ⊢
      have h3 : ¬ (c.s == 2) = true := by
        rw [beq_iff_eq, hrel.2.2.2]; exact h2
      rw [if_neg h3] at hc
      have hs := rel_step hr hrel
      rw [List.length_cons]
      cases hg : T.getD (2 * c.s + c.h) none with
      | some e =>
        rw [hg] at hc
        have he2 := hT _ _ hg
        rw [← ix_rel hrel] at he2
        rw [he2] at hc
        have := chk_sound hr n T (step r C) _ (k + 1) hs hT hc he
        omega
      | none =>
        rw [hg] at hc
        have hc2 := List.all_eq_true.mp hc _ (in_choices (hr (ix C)).1 (hr (ix C)).2.1 (hr (ix C)).2.2)
        have hT2 : ∀ i e, (T.set (2 * c.s + c.h) (some (r.m (ix C), r.w (ix C), r.f (ix C)))).getD i none = some e → e = (r.m i, r.w i, r.f i) := by
          intro i e hi
          by_cases hii : 2 * c.s + c.h = i
          · subst hii
            rw [List.getD_eq_getElem?_getD, List.getElem?_set] at hi
            simp only [if_true] at hi
            split at hi
            · simp at hi; rw [← hi, ix_rel hrel]
            · simp at hi
          · rw [List.getD_eq_getElem?_getD, List.getElem?_set, if_neg hii, ← List.getD_eq_getElem?_getD] at hi
            exact hT i e hi
        have := chk_sound hr n _ (step r C) _ (k + 1) hs hT2 hc2 he
        omega
theorem bb_law {r : Rules} (hr : r.Ok) (h : (endC r 16 ⟨[], 32, [], 0⟩).st = 2) : (runs r 16 ⟨[], 32, [], 0⟩).length ≤ 6 := by
  have := chk_sound hr 16 [none, none, none, none] ⟨[], 32, [], 0⟩ ⟨0, 0, 0, 0⟩ 0 ⟨rfl, rfl, rfl, rfl⟩ (fun i e hi => by
    match i, hi with
    | 0, hi => simp at hi
    | 1, hi => simp at hi
    | 2, hi => simp at hi
    | 3, hi => simp at hi
    | i + 4, hi => simp at hi) bb2 h
  omega
end Mine
end

section
open PySem PySem.W PyProof.Rows PySem.Calls PySem.Builtin.Str
namespace Mine
theorem at34 (l : List Nat) (i : Nat) : StrLaws.At (⟨l.toArray⟩ : Str) ⟨#[34]⟩ (⟨l.toArray⟩ : Str).length i ↔ l[i]? = some 34 := by
  have := StrLaws.subAt_one ⟨l.toArray⟩ 34 i
  simpa [StrLaws.At] using this
theorem sp34 : spS ⟨#[34]⟩ = false := by decide +kernel
theorem strip_sub (l : List Nat) (hi : Nat) : strSub (⟨l.toArray⟩ : Str) 0 hi = ⟨(l.take hi).toArray⟩ := by
  show (⟨(l.toArray).extract 0 hi⟩ : Str) = _
  simp
theorem strip_eq_cut (l : List Nat) (hs : ∀ c ∈ l, Sgn c) : Txt.rstrip (⟨l.toArray⟩ : Str) = cutT ⟨l.toArray⟩ := by
  have hA : ∀ c ∈ (⟨l.toArray⟩ : Str).cps.toList, c < 128 := by
    intro c hc
    have : c ∈ l := by simpa using hc
    rcases hs c this with rfl | rfl <;> decide
  obtain ⟨hi, h1, h2, h3, h4⟩ := rstrip_cut hA
  have hl : (⟨l.toArray⟩ : Str).length = l.length := by show l.toArray.size = _; simp
  rw [hl] at h1 h3
  have hget : ∀ k, (⟨l.toArray⟩ : Str).cps.getD k 0 = l.getD k 0 := fun k => by simp [Array.getD_eq_getD_getElem?, List.getD_eq_getElem?_getD]
  have q : Str.ofString "\"" = ⟨#[34]⟩ := by decide +kernel
  have tail : ∀ k, hi ≤ k → l[k]? ≠ some 34 := by
    intro k hk e
    have hkl : k < l.length := (List.getElem?_eq_some_iff.mp e).1
    have := h3 k hk hkl
    rw [hget, List.getD_eq_getElem?_getD, e] at this
    rw [show (some 34).getD 0 = 34 from rfl, sp34] at this
    cases this
  rw [h2, strip_sub]
  unfold cutT
  rw [q]
  rcases h4 with h0 | h4
  · subst h0
    rcases rfind_whole (⟨l.toArray⟩ : Str) ⟨#[34]⟩ with ⟨hr, _⟩ | ⟨i, _, hi', _⟩
    · rw [hr]
      exact (slice_to l 0 (Nat.zero_le _)).symm
    · exact absurd ((at34 l i).mp hi') (tail i (Nat.zero_le _))
  · by_cases h0 : hi = 0
    · subst h0
      rcases rfind_whole (⟨l.toArray⟩ : Str) ⟨#[34]⟩ with ⟨hr, _⟩ | ⟨i, _, hi', _⟩
      · rw [hr]
        exact (slice_to l 0 (Nat.zero_le _)).symm
      · exact absurd ((at34 l i).mp hi') (tail i (Nat.zero_le _))
    · have hlt : hi - 1 < l.length := by omega
      have hm : l.getD (hi - 1) 0 = 34 := by
        rw [hget] at h4
        have hmem : l.getD (hi - 1) 0 ∈ l := by simp [hlt]
        rcases hs _ hmem with h | h
        · rw [h] at h4
          exact absurd h4 (by decide +kernel)
        · exact h
      have hat : l[hi - 1]? = some 34 := by
        rw [List.getElem?_eq_getElem hlt]
        have e : l.getD (hi - 1) 0 = l[hi - 1] := by simp [hlt]
        rw [← e, hm]
      rcases rfind_whole (⟨l.toArray⟩ : Str) ⟨#[34]⟩ with ⟨_, hn⟩ | ⟨i, hr, hi', hn⟩
      · exact absurd ((at34 l (hi - 1)).mpr hat) (hn _)
      · have e1 := (at34 l i).mp hi'
        have : i = hi - 1 := by
          by_cases hlt2 : i < hi - 1
          · exact absurd ((at34 l (hi - 1)).mpr hat) (hn _ hlt2)
          · by_cases hge : hi ≤ i
            · exact absurd e1 (tail i hge)
            · omega
        rw [hr, this, show ((hi - 1 : Nat) : Int) + 1 = ((hi : Nat) : Int) by omega]
        exact (slice_to l hi h1).symm
theorem remark_eq (l : List Nat) (hs : ∀ c ∈ l, Sgn c) : commentT ⟨l.toArray⟩ = remT (cutT ⟨l.toArray⟩) := by
  unfold commentT remT
  rw [strip_eq_cut l hs]
  generalize cutT ⟨l.toArray⟩ = y
  by_cases h : y.length = 0
  · have : y = Str.ofString "" := by
      rw [emptyS]
      obtain ⟨⟨a⟩⟩ := y
      have : a.length = 0 := h
      have : a = [] := List.length_eq_zero_iff.mp this
      rw [this]
    rw [if_pos h, if_pos this]
  · rw [if_neg h, if_neg (fun e => h (by rw [e]; decide +kernel))]
end Mine
end

section
open PySem PySem.W PyProof.Rows PySem.Calls
namespace Mine
noncomputable def seg (cells : List Nat) (lo n : Nat) : List Nat := (List.range n).map fun i => sg (cells.getD (lo + i) 0)
theorem seg_add (cells : List Nat) (lo a b : Nat) : seg cells lo (a + b) = seg cells lo a ++ seg cells (lo + a) b := by
  unfold seg
  rw [List.range_add, List.map_append, List.map_map]
  congr 1
  apply List.map_congr_left
  intro i _
  show sg (cells.getD (lo + (a + i)) 0) = sg (cells.getD (lo + a + i) 0)
  rw [Nat.add_assoc]
theorem seg_one (cells : List Nat) (lo : Nat) : seg cells lo 1 = [sg (cells.getD lo 0)] := rfl
theorem seg_congr {c d : List Nat} {lo n : Nat} (h : ∀ i, lo ≤ i → i < lo + n → c.getD i 0 = d.getD i 0) : seg c lo n = seg d lo n := by
  unfold seg
  apply List.map_congr_left
  intro i hi
  rw [h (lo + i) (by omega) (by have := List.mem_range.mp hi; omega)]
theorem seg_sgn (cells : List Nat) (lo n : Nat) : ∀ c ∈ seg cells lo n, Sgn c := by
  intro c hc
  obtain ⟨i, _, rfl⟩ := List.mem_map.mp hc
  exact sg_sgn _
theorem getD_step {cells : List Nat} {a : Nat} (m : Nat) (ha : a < cells.length) (i : Nat) : (cells.take a ++ m :: cells.drop (a + 1)).getD i 0 = if i = a then m else cells.getD i 0 := by
  have e : cells.take a ++ m :: cells.drop (a + 1) = cells.set a m := by rw [List.set_eq_take_append_cons_drop, if_pos ha]
  rw [e, List.getD_eq_getElem?_getD, List.getElem?_set]
  by_cases h : a = i
  · subst h; simp [ha]
  · rw [if_neg h, if_neg (fun q => h q.symm), ← List.getD_eq_getElem?_getD]
structure Sim (C : Cfg) (p : PS) : Prop where
  hd : C.head = sg (p.cells.getD p.at' 0)
  lf : C.left.reverse = seg p.cells p.low (p.at' - p.low)
  rt : C.right = seg p.cells (p.at' + 1) (p.high - p.at')
  b1 : p.low ≤ p.at'
  b2 : p.at' ≤ p.high
  z1 : ∀ i, i < p.low → p.cells.getD i 0 = 0
  z2 : ∀ i, p.high < i → p.cells.getD i 0 = 0
  st : C.st = p.st
  c2 : ∀ i, p.cells.getD i 0 < 2
theorem sim_ix {C : Cfg} {p : PS} (h : Sim C p) : ix C = pk p := by
  have := bt_sg _ (h.c2 p.at')
  unfold ix pk
  rw [h.hd, h.st]
  unfold bt at this
  rw [this]
theorem sim_tape {C : Cfg} {p : PS} (h : Sim C p) : tapeL C = rangeL p := by
  unfold tapeL
  rw [List.reverse_cons, h.lf, h.hd, h.rt]
  show _ = seg p.cells p.low (p.high + 1 - p.low)
  have := h.b1; have := h.b2
  have e : p.high + 1 - p.low = (p.at' - p.low) + (1 + (p.high - p.at')) := by omega
  rw [e, seg_add, seg_add, seg_one, show p.low + (p.at' - p.low) = p.at' by omega, List.append_assoc]
theorem sim_line {C : Cfg} {p : PS} (h : Sim C p) : lineD C = plineD p := by
  unfold lineD plineD
  rw [sim_tape h, h.st, remark_eq _ (fun c hc => ?_)]
  exact seg_sgn p.cells p.low (p.high + 1 - p.low) c hc
end Mine
namespace Mine
theorem seg_head (c : List Nat) (lo n : Nat) : (seg c lo n).headD 32 = if n = 0 then 32 else sg (c.getD lo 0) := by
  cases n with
  | zero => rfl
  | succ n => rw [if_neg (Nat.succ_ne_zero n), Nat.add_comm, seg_add, seg_one]; rfl
theorem seg_tail (c : List Nat) (lo n : Nat) : (seg c lo n).tail = seg c (lo + 1) (n - 1) := by
  cases n with
  | zero => rfl
  | succ n => rw [Nat.add_comm, seg_add, seg_one, Nat.add_sub_cancel_left]; rfl
theorem sim_step {r : Rules} (hr : r.Ok) {C : Cfg} {p : PS} (h : Sim C p) (ha : 1 ≤ p.at') (hb : p.at' < p.cells.length) : Sim (step r C) (pstep r p) := by
  have hix := sim_ix h
  obtain ⟨hd, lf, rt, b1, b2, z1, z2, st, c2⟩ := h
  obtain ⟨hm, hw, hf⟩ := hr (pk p)
  have hg := getD_step (cells := p.cells) (r.m (pk p)) hb
  have hself : (p.cells.take p.at' ++ r.m (pk p) :: p.cells.drop (p.at' + 1)).getD p.at' 0 = r.m (pk p) := by rw [hg, if_pos rfl]
  have hoth : ∀ i, i ≠ p.at' → (p.cells.take p.at' ++ r.m (pk p) :: p.cells.drop (p.at' + 1)).getD i 0 = p.cells.getD i 0 := fun i hi => by rw [hg, if_neg hi]
  unfold step pstep
  rw [hix]
  generalize p.cells.take p.at' ++ r.m (pk p) :: p.cells.drop (p.at' + 1) = cells2 at *
  have hc2 : ∀ i, cells2.getD i 0 < 2 := fun i => by
    by_cases hi : i = p.at'
    · rw [hi, hself]; exact hm
    · rw [hoth i hi]; exact c2 i
  obtain hw0 | hw1 : r.w (pk p) = 0 ∨ r.w (pk p) = 1 := by omega
  · rw [if_neg (by rw [hw0]; decide), hw0]
    have hl : C.left = (seg p.cells p.low (p.at' - p.low)).reverse := by rw [← lf, List.reverse_reverse]
    by_cases he : p.at' = p.low
    · have hl0 : C.left = [] := by rw [hl, he, Nat.sub_self]; rfl
      refine ⟨?_, ?_, ?_, ?_, ?_, ?_, ?_, rfl, hc2⟩ <;> dsimp only
      · rw [hl0, hoth _ (by omega), z1 _ (by omega)]; rfl
      · rw [hl0, show p.at' + 2 * 0 - 1 - min p.low (p.at' + 2 * 0 - 1) = 0 by omega]; rfl
      · rw [rt, show p.at' + 2 * 0 - 1 + 1 = p.at' by omega, show max p.high (p.at' + 2 * 0 - 1) - (p.at' + 2 * 0 - 1) = 1 + (p.high - p.at') by omega, seg_add, seg_one, hself]
        exact congrArg (sg (r.m (pk p)) :: ·) (seg_congr fun i h1 _ => (hoth i (by omega)).symm)
      · omega
      · omega
      · intro i hi; rw [hoth i (by omega)]; exact z1 i (by omega)
      · intro i hi; rw [hoth i (by omega)]; exact z2 i (by omega)
    · have hl1 : C.left = sg (p.cells.getD (p.at' - 1) 0) :: (seg p.cells p.low (p.at' - 1 - p.low)).reverse := by
        rw [hl, show p.at' - p.low = (p.at' - 1 - p.low) + 1 by omega, seg_add, seg_one, List.reverse_append, show p.low + (p.at' - 1 - p.low) = p.at' - 1 by omega]
        rfl
      refine ⟨?_, ?_, ?_, ?_, ?_, ?_, ?_, rfl, hc2⟩ <;> dsimp only
      · rw [hl1, hoth _ (by omega)]; rfl
      · rw [hl1, show p.at' + 2 * 0 - 1 - min p.low (p.at' + 2 * 0 - 1) = p.at' - 1 - p.low by omega, show min p.low (p.at' + 2 * 0 - 1) = p.low by omega, List.tail_cons, List.reverse_reverse]
        exact seg_congr fun i _ h2 => (hoth i (by omega)).symm
      · rw [rt, show p.at' + 2 * 0 - 1 + 1 = p.at' by omega, show max p.high (p.at' + 2 * 0 - 1) - (p.at' + 2 * 0 - 1) = 1 + (p.high - p.at') by omega, seg_add, seg_one, hself]
        exact congrArg (sg (r.m (pk p)) :: ·) (seg_congr fun i h1 _ => (hoth i (by omega)).symm)
      · omega
      · omega
      · intro i hi; rw [hoth i (by omega)]; exact z1 i (by omega)
      · intro i hi; rw [hoth i (by omega)]; exact z2 i (by omega)
  · rw [if_pos hw1, hw1]
    refine ⟨?_, ?_, ?_, ?_, ?_, ?_, ?_, rfl, hc2⟩ <;> dsimp only
    · rw [rt, seg_head, hoth _ (by omega), show p.at' + 2 * 1 - 1 = p.at' + 1 by omega]
      split
      · rw [z2 _ (by omega)]; rfl
      · rfl
    · rw [List.reverse_cons, lf, show min p.low (p.at' + 2 * 1 - 1) = p.low by omega, show p.at' + 2 * 1 - 1 - p.low = (p.at' - p.low) + 1 by omega, seg_add, seg_one, show p.low + (p.at' - p.low) = p.at' by omega, hself]
      exact congrArg (· ++ [sg (r.m (pk p))]) (seg_congr fun i _ h2 => (hoth i (by omega)).symm)
    · rw [rt, seg_tail, show p.at' + 2 * 1 - 1 + 1 = p.at' + 1 + 1 by omega, show max p.high (p.at' + 2 * 1 - 1) - (p.at' + 2 * 1 - 1) = p.high - p.at' - 1 by omega]
      exact seg_congr fun i h1 _ => (hoth i (by omega)).symm
    · omega
    · omega
    · intro i hi; rw [hoth i (by omega)]; exact z1 i (by omega)
    · intro i hi; rw [hoth i (by omega)]; exact z2 i (by omega)
theorem runs_eq {r : Rules} (hr : r.Ok) : ∀ (n : Nat) (C : Cfg) (p : PS), Sim C p → C.st < 3 → n ≤ p.at' → p.at' + n < p.cells.length → runs r n C = pruns r n p
  | 0, _, _, _, _, _, _ => rfl
  | n + 1, C, p, h, h3, ha, hb => by
    have h2 := sim_step hr h (by omega) (by omega)
    unfold runs pruns
    by_cases hs : C.st = 2
    · rw [if_pos hs, if_neg (by rw [← h.st, hs]; decide)]
    · rw [if_neg hs, if_pos (by rw [← h.st]; omega), sim_line h2]
      have hlen : (pstep r p).cells.length = p.cells.length := by simp [pstep]; omega
      have hw := (hr (pk p)).2.1
      have hat : (pstep r p).at' = p.at' + 2 * r.w (pk p) - 1 := rfl
      congr 1
      refine runs_eq hr n _ _ h2 ?_ (by omega) (by omega)
      rw [h2.st]
      exact (hr (pk p)).2.2
end Mine
end

section
open PySem PySem.W PyProof.Rows PySem.Calls
namespace Mine
noncomputable def cfg0 (bs : List Nat) : Cfg := ⟨[], sg (bs.headD 0), bs.tail.map sg, 0⟩
noncomputable def ps0 (bs : List Nat) : PS := ⟨List.replicate 8 0 ++ bs ++ List.replicate 8 0, 8, 8, 7 + bs.length, 0⟩
theorem getD_low {bs : List Nat} {i : Nat} (h : i < 8) : (List.replicate 8 0 ++ bs ++ List.replicate 8 0).getD i 0 = 0 := by
  rw [List.append_assoc, List.getD_eq_getElem?_getD, List.getElem?_append_left (by simpa using h), List.getElem?_replicate, if_pos h]
  rfl
theorem getD_mid {bs : List Nat} {i : Nat} (h : i < bs.length) : (List.replicate 8 0 ++ bs ++ List.replicate 8 0).getD (8 + i) 0 = bs.getD i 0 := by
  rw [List.append_assoc, List.getD_eq_getElem?_getD, List.getElem?_append_right (by simp), List.getElem?_append_left (by simp; omega), List.getD_eq_getElem?_getD]
  simp
theorem getD_high {bs : List Nat} {i : Nat} (h : 7 + bs.length < i) : (List.replicate 8 0 ++ bs ++ List.replicate 8 0).getD i 0 = 0 := by
  rw [List.getD_eq_getElem?_getD, List.getElem?_append_right (by simp; omega), List.getElem?_replicate]
  split <;> rfl
theorem seg_bits (bs : List Nat) (k n : Nat) (h : k + n ≤ bs.length) : seg (List.replicate 8 0 ++ bs ++ List.replicate 8 0) (8 + k) n = ((bs.drop k).take n).map sg := by
  apply List.ext_getElem?
  intro i
  unfold seg
  simp only [List.getElem?_map, List.getElem?_take, List.getElem?_drop]
  by_cases hi : i < n
  · rw [List.getElem?_range hi, if_pos hi, Option.map_some, Nat.add_assoc, getD_mid (by omega)]
    simp [List.getD_eq_getElem?_getD, List.getElem?_eq_getElem (show k + i < bs.length by omega)]
  · rw [if_neg hi, List.getElem?_eq_none (by simp; omega)]
    rfl
theorem sim0 (bs : List Nat) (h1 : 1 ≤ bs.length) (h2 : ∀ b ∈ bs, b < 2) : Sim (cfg0 bs) (ps0 bs) := by
  refine ⟨?_, rfl, ?_, Nat.le_refl 8, ?_, fun i hi => getD_low hi, fun i hi => getD_high hi, rfl, fun i => ?_⟩
  · show sg (bs.headD 0) = sg ((List.replicate 8 0 ++ bs ++ List.replicate 8 0).getD (8 + 0) 0)
    rw [getD_mid (by omega)]
    cases bs <;> rfl
  · show bs.tail.map sg = seg (List.replicate 8 0 ++ bs ++ List.replicate 8 0) (8 + 1) (7 + bs.length - 8)
    rw [seg_bits bs 1 (7 + bs.length - 8) (by omega), List.drop_one, List.take_of_length_le (by simp; omega)]
  · show 8 ≤ 7 + bs.length; omega
  · show (List.replicate 8 0 ++ bs ++ List.replicate 8 0).getD i 0 < 2
    refine getD_lt2 (fun c hc => ?_) i
    simp only [List.mem_append, List.mem_replicate] at hc
    rcases hc with (⟨_, rfl⟩ | h) | ⟨_, rfl⟩
    · decide
    · exact h2 c h
    · decide
theorem runs_take (r : Rules) : ∀ (n k : Nat) (C : Cfg), (runs r (n + k) C).take n = runs r n C
  | 0, k, C => by simp [runs]
  | n + 1, k, C => by
    rw [Nat.add_right_comm]
    unfold runs
    split
    · rfl
    · rw [List.take_succ_cons, runs_take r n k]
/-- the two tellings agree -/
theorem law_runs {r : Rules} (hr : r.Ok) (bs : List Nat) (h1 : 1 ≤ bs.length) (h2 : ∀ b ∈ bs, b < 2) : runs r 8 (cfg0 bs) = pruns r 8 (ps0 bs) :=
  runs_eq hr 8 _ _ (sim0 bs h1 h2) (Nat.zero_lt_succ 2) (Nat.le_refl 8) (by
    show 8 + 8 < (List.replicate 8 0 ++ bs ++ List.replicate 8 0).length
    simp; omega)
end Mine
end

section
open PySem PySem.W PyProof.Rows PySem.Calls PySem.Builtin.Str
namespace Mine
noncomputable def rulesOf (n : Nat) : Rules := ⟨fun k => figN n k % 2, fun k => figN n k / 2 % 2, fun k => figN n k / 4⟩
theorem rulesOf_ok (n : Nat) : (rulesOf n).Ok := fun k => by
  have h : figN n k < 12 := Nat.mod_lt _ (by decide)
  refine ⟨Nat.mod_lt _ (by decide), Nat.mod_lt _ (by decide), ?_⟩
  show figN n k / 4 < 3
  omega
theorem tup3_inv {tl : List (Addr × Obj)} {v : Value} {i j k : Int} (h : DatIn tl v (.tuple [.int i, .int j, .int k])) :
    ∃ D x y z q, v = .ref D ∧ (D, ({ cls := .type "tuple", data := .seq #[.int i x, .int j y, .int k z] q } : Obj)) ∈ tl := by
  cases h with
  | tuple hm r =>
    cases r with | cons h1 r => cases r with | cons h2 r => cases r with | cons h3 r =>
    cases r
    cases h1; cases h2; cases h3
    exact ⟨_, _, _, _, _, rfl, hm⟩
theorem tup2_inv {tl : List (Addr × Obj)} {v : Value} {x y : Str} (h : DatIn tl v (.tuple [.str x, .str y])) :
    ∃ D t u q, v = .ref D ∧ (D, ({ cls := .type "tuple", data := .seq #[.str x t, .str y u] q } : Obj)) ∈ tl := by
  cases h with
  | tuple hm r =>
    cases r with | cons h1 r => cases r with | cons h2 r =>
    cases r
    cases h1; cases h2
    exact ⟨_, _, _, _, rfl, hm⟩
theorem list_inv {tl : List (Addr × Obj)} {v : Value} {ds : List Dat} (h : DatIn tl v (.list ds)) : ∃ l vs z, v = .ref l ∧ (l, listOf vs.toArray z) ∈ tl ∧ DatAll tl vs ds := by
  cases h with
  | list hm r => exact ⟨_, _, _, rfl, hm, r⟩
theorem all4_inv {tl : List (Addr × Obj)} {vs : List Value} {a b c d : Dat} (h : DatAll tl vs [a, b, c, d]) : ∃ v0 v1 v2 v3, vs = [v0, v1, v2, v3] ∧ DatIn tl v0 a ∧ DatIn tl v1 b ∧ DatIn tl v2 c ∧ DatIn tl v3 d := by
  cases h with | cons h0 r => cases r with | cons h1 r => cases r with | cons h2 r => cases r with | cons h3 r =>
  cases r
  exact ⟨_, _, _, _, rfl, h0, h1, h2, h3⟩
theorem rules_inv {tl : List (Addr × Obj)} {v : Value} {n : Nat} (h : DatIn tl v (rulesD n)) : ∃ l D0 D1 D2 D3 z x0 y0 z0 q0 x1 y1 z1 q1 x2 y2 z2 q2 x3 y3 z3 q3, v = .ref l ∧
    (l, ({ cls := .type "list", data := .seq #[.ref D0, .ref D1, .ref D2, .ref D3] z } : Obj)) ∈ tl ∧
    (D0, ({ cls := .type "tuple", data := .seq #[.int (((rulesOf n).m 0 : Nat) : Int) x0, .int (((rulesOf n).w 0 : Nat) : Int) y0, .int (((rulesOf n).f 0 : Nat) : Int) z0] q0 } : Obj)) ∈ tl ∧
    (D1, ({ cls := .type "tuple", data := .seq #[.int (((rulesOf n).m 1 : Nat) : Int) x1, .int (((rulesOf n).w 1 : Nat) : Int) y1, .int (((rulesOf n).f 1 : Nat) : Int) z1] q1 } : Obj)) ∈ tl ∧
    (D2, ({ cls := .type "tuple", data := .seq #[.int (((rulesOf n).m 2 : Nat) : Int) x2, .int (((rulesOf n).w 2 : Nat) : Int) y2, .int (((rulesOf n).f 2 : Nat) : Int) z2] q2 } : Obj)) ∈ tl ∧
    (D3, ({ cls := .type "tuple", data := .seq #[.int (((rulesOf n).m 3 : Nat) : Int) x3, .int (((rulesOf n).w 3 : Nat) : Int) y3, .int (((rulesOf n).f 3 : Nat) : Int) z3] q3 } : Obj)) ∈ tl := by
  obtain ⟨l, vs, z, rfl, hm, r⟩ := list_inv h
  obtain ⟨v0, v1, v2, v3, rfl, h0, h1, h2, h3⟩ := all4_inv r
  obtain ⟨D0, x0, y0, z0, q0, rfl, m0⟩ := tup3_inv h0
  obtain ⟨D1, x1, y1, z1, q1, rfl, m1⟩ := tup3_inv h1
  obtain ⟨D2, x2, y2, z2, q2, rfl, m2⟩ := tup3_inv h2
  obtain ⟨D3, x3, y3, z3, q3, rfl, m3⟩ := tup3_inv h3
  exact ⟨_, _, _, _, _, _, _, _, _, _, _, _, _, _, _, _, _, _, _, _, _, _, rfl, hm, m0, m1, m2, m3⟩
theorem strs4_inv {tl : List (Addr × Obj)} {v : Value} {a b c d : Str} (h : DatIn tl v (.list [.str a, .str b, .str c, .str d])) : ∃ l z t0 t1 t2 t3, v = .ref l ∧
    (l, ({ cls := .type "list", data := .seq #[.str a t0, .str b t1, .str c t2, .str d t3] z } : Obj)) ∈ tl := by
  obtain ⟨l, vs, z, rfl, hm, r⟩ := list_inv h
  obtain ⟨v0, v1, v2, v3, rfl, h0, h1, h2, h3⟩ := all4_inv r
  cases h0; cases h1; cases h2; cases h3
  exact ⟨_, _, _, _, _, _, rfl, hm⟩
theorem datAll_take {tl : List (Addr × Obj)} {vs : List Value} {ds : List Dat} (h : DatAll tl vs ds) : ∀ k, DatAll tl (vs.take k) (ds.take k) := fun k => by
  induction k generalizing vs ds with
  | zero => simpa using DatAll.nil
  | succ k ih => cases h with
    | nil => simpa using DatAll.nil
    | cons h r => exact .cons h (ih r)
theorem datAll_get {tl : List (Addr × Obj)} {vs : List Value} {ds : List Dat} (h : DatAll tl vs ds) : ∀ {k : Nat} {d : Dat}, ds[k]? = some d → ∃ v, vs[k]? = some v ∧ DatIn tl v d := fun {k} {d} => by
  induction k generalizing vs ds with
  | zero => cases h with
    | nil => intro e; cases e
    | cons h r => intro e; cases e; exact ⟨_, rfl, h⟩
  | succ k ih => cases h with
    | nil => intro e; cases e
    | cons h r => intro e; exact ih r e

theorem strOk_signs (l : List Nat) (hs : ∀ c ∈ l, Sgn c) : PyData.strOk ⟨l.toArray⟩ = true := by
  unfold PyData.strOk
  simp only [Array.all_eq_true', List.mem_toArray, decide_eq_true_eq]
  intro c hc
  rcases hs c hc with rfl | rfl <;> decide
theorem strOk_append {x y : Str} (hx : PyData.strOk x = true) (hy : PyData.strOk y = true) : PyData.strOk (x ++ y) = true := by
  unfold PyData.strOk at *
  show (x.cps ++ y.cps).all _ = true
  rw [Array.all_append, hx, hy]; rfl
theorem comment_ok (l : List Nat) (hs : ∀ c ∈ l, Sgn c) : PyData.strOk (commentT ⟨l.toArray⟩) = true := by
  have hA : ∀ c ∈ (⟨l.toArray⟩ : Str).cps.toList, c < 128 := by
    intro c hc
    have : c ∈ l := by simpa using hc
    rcases hs c this with rfl | rfl <;> decide
  obtain ⟨hi, h1, h2, h3, h4⟩ := rstrip_cut hA
  unfold commentT
  rw [h2, strip_sub]
  split
  · decide +kernel
  · exact strOk_append (by decide +kernel) (strOk_signs _ fun c hc => hs c (List.mem_of_mem_take hc))
theorem tape_sgn {C : Cfg} {b : Nat} (h : C.Ok b) : ∀ c ∈ tapeL C, Sgn c := by
  obtain ⟨h1, h2, h3, _, _, _⟩ := h
  unfold tapeL
  intro c hc
  simp only [List.mem_append, List.mem_reverse, List.mem_cons] at hc
  rcases hc with (rfl | hc) | hc
  · exact h2
  · exact h1 c hc
  · exact h3 c hc
theorem st_ok (k : Nat) : PyData.strOk ⟨#[stC k]⟩ = true := by
  unfold stC
  split
  · decide +kernel
  · split <;> decide +kernel
theorem line_ok {C : Cfg} {b : Nat} (h : C.Ok b) : kqdOk 8 (lineD C) = true := by
  have e1 := comment_ok _ (tape_sgn h)
  have e2 := st_ok C.st
  unfold lineD
  simp [kqdOk, e1, e2]
theorem runs_ok {r : Rules} (hr : r.Ok) : ∀ (n : Nat) (C : Cfg) (b : Nat), C.Ok b → ∀ d ∈ runs r n C, kqdOk 8 d = true
  | 0, _, _, _, _, h => nomatch h
  | n + 1, C, b, hC, d, h => by
    unfold runs at h
    split at h
    · nomatch h
    · rcases List.mem_cons.mp h with rfl | h
      · exact line_ok (step_ok hr hC)
      · exact runs_ok hr n _ _ (step_ok hr hC) d h
theorem runs_len (r : Rules) : ∀ (n : Nat) (C : Cfg), (runs r n C).length ≤ n
  | 0, _ => Nat.le_refl 0
  | n + 1, C => by
    unfold runs
    split
    · exact Nat.zero_le _
    · exact Nat.succ_le_succ (runs_len r n _)
theorem runs_last (r : Rules) : ∀ (n : Nat) (C : Cfg), 0 < (runs r n C).length → ∃ x, (runs r n C)[(runs r n C).length - 1]? = some (.tuple [.str x, .str ⟨#[stC (endC r n C).st]⟩])
  | 0, _, h => absurd h (Nat.lt_irrefl 0)
  | n + 1, C, h => by
    unfold runs endC at *
    by_cases hc : C.st = 2
    · rw [if_pos hc] at h; exact absurd h (Nat.lt_irrefl 0)
    · simp only [if_neg hc] at h ⊢
      by_cases h0 : (runs r n (step r C)).length = 0
      · have hnil : runs r n (step r C) = [] := List.length_eq_zero_iff.mp h0
        rw [hnil]
        refine ⟨commentT ⟨(tapeL (step r C)).toArray⟩, ?_⟩
        show some (lineD (step r C)) = _
        have he : (endC r n (step r C)).st = (step r C).st := by
          cases n with
          | zero => rfl
          | succ n =>
            unfold runs at hnil
            by_cases hs : (step r C).st = 2
            · unfold endC; rw [if_pos hs]
            · rw [if_neg hs] at hnil; cases hnil
        rw [he]
        rfl
      · obtain ⟨x, hx⟩ := runs_last r n (step r C) (Nat.pos_of_ne_zero h0)
        refine ⟨x, ?_⟩
        rw [← hx, List.length_cons, Nat.add_sub_cancel]
        obtain ⟨k, hk⟩ : ∃ k, (runs r n (step r C)).length = k + 1 := ⟨_, (Nat.succ_pred h0).symm⟩
        rw [hk]
        rfl
theorem endC_st {r : Rules} (hr : r.Ok) : ∀ (n : Nat) (C : Cfg), C.st ≤ 2 → (endC r n C).st ≤ 2
  | 0, _, h => h
  | n + 1, C, h => by
    unfold endC
    split
    · exact h
    · refine endC_st hr n _ ?_
      unfold step
      have := (hr (ix C)).2.2
      split
      · show r.f (ix C) ≤ 2; omega
      · show r.f (ix C) ≤ 2; omega
/-- the run on the empty tape: one that is longer than six steps has not ended by the sixteenth -/
theorem last_law {r : Rules} (hr : r.Ok) (h : 6 < (runs r 16 (cfg0 [0])).length) : ∃ x k, k < 2 ∧ (runs r 16 (cfg0 [0]))[(runs r 16 (cfg0 [0])).length - 1]? = some (.tuple [.str x, .str ⟨#[stC k]⟩]) := by
  obtain ⟨x, hx⟩ := runs_last r 16 (cfg0 [0]) (by omega)
  by_cases h2 : (endC r 16 (cfg0 [0])).st = 2
  · have := bb_law hr h2
    exact absurd h (Nat.not_lt.mpr this)
  · have e : stC (endC r 16 (cfg0 [0])).st = stC 0 ∨ stC (endC r 16 (cfg0 [0])).st = stC 1 ∨ (endC r 16 (cfg0 [0])).st > 2 := by
      by_cases h0 : (endC r 16 (cfg0 [0])).st = 0
      · rw [h0]; exact .inl rfl
      · by_cases h1 : (endC r 16 (cfg0 [0])).st = 1
        · rw [h1]; exact .inr (.inl rfl)
        · exact .inr (.inr (by omega))
    rcases e with e | e | e
    · exact ⟨x, 0, by decide, by rw [hx, e]⟩
    · exact ⟨x, 1, by decide, by rw [hx, e]⟩
    · exact absurd e (Nat.not_lt.mpr (endC_st hr 16 _ (by decide)))
end Mine
end

section
open PySem PySem.W PyProof.Rows PySem.Calls
namespace Mine
local macro_rules | `(tactic| walk_at "subscriptTail Name Slice ref ref") => `(tactic| k_extra "subscriptTail Name Slice ref ref")
local macro_rules | `(tactic| walk_at "binaryOp Add ref ref") => `(tactic| k_extra "binaryOp Add ref ref")
theorem ar4 {cv : List Value} {a b n : Nat} (h : cv.length = n) (hc : n ≤ 20) : ((cv.drop a).take b).length ≤ 100 := by
  have := List.length_take_le' b (cv.drop a)
  rw [List.length_drop] at this
  omega
theorem ar4' {cv : List Value} {a b n : Nat} (h : cv.length = n) (hc : n ≤ 20) : (((cv.drop a).take b).toArray).toList.length ≤ 100 := ar4 h hc
theorem ar5 {vs : List Value} {d n : Nat} (h : vs.length = d) (hn : d + n = 8) : vs.toArray.size ≤ 100 := by
  show vs.length ≤ 100
  omega
theorem ar6 {hg lo n : Nat} (h : hg < n) (hc : n ≤ 20) : hg + 1 - lo ≤ 100 := by omega
theorem ar7 {n at' low high len len2 W a2 lo hg : Nat} (h1 : n + 1 ≤ at') (h2 : at' + (n + 1) < len) (h3 : low ≤ at') (h4 : at' ≤ high) (h5 : high < len) (h6 : len ≤ 20) (h7 : len2 = len) (hW : W < 2) (e1 : a2 = at' + 2 * W - 1) (e2 : lo = min low a2) (e3 : hg = max high a2) :
    n ≤ a2 ∧ a2 + n < len2 ∧ lo ≤ a2 ∧ a2 ≤ hg ∧ hg < len2 ∧ len2 ≤ 20 := by
  have ha : a2 ≤ at' + 1 := by omega
  have hb : at' ≤ a2 + 1 := by omega
  have hc : lo ≤ a2 := by rw [e2]; exact Nat.min_le_right _ _
  have hd : a2 ≤ hg := by rw [e3]; exact Nat.le_max_right _ _
  have he : hg < len2 := by
    rw [e3, h7]
    exact Nat.max_lt.mpr ⟨h5, by omega⟩
  exact ⟨by omega, by omega, hc, hd, he, by omega⟩
theorem ar1 {cv : List Value} {n : Nat} (h : cv.length = n) (hc : n ≤ 20) : cv.length ≤ 100 := by omega
theorem ar2 {cv : List Value} {a : Nat} {x : Value} (h : cv.length ≤ 100 - 20 ∧ cv.length ≤ 20) : (cv.take a).length + [x].length ≤ 100 := by
  have := List.length_take_le' a cv
  show _ + 1 ≤ 100
  omega
theorem ar3 {cv : List Value} {a b : Nat} {x : Value} (h : cv.length ≤ 100 - 20 ∧ cv.length ≤ 20) : (cv.take a ++ [x]).length + (cv.drop b).length ≤ 100 := by
  have := List.length_take_le' a cv
  rw [List.length_append, List.length_drop]
  show _ + 1 + _ ≤ 100
  omega
set_option maxRecDepth 100000 in
set_option maxHeartbeats 4000000 in
theorem c_plainA {w : World} {loose : List Str} {mean : ExcName → Option Value} {mg mb : Str → Option Value} (news : List (Addr × Obj)) (r : Rules) (hr : r.Ok) (R Bt D0 D1 D2 D3 : Addr) (zR zB : Nat) (x0 y0 z0 : Tok) (q0 : Nat) (x1 y1 z1 : Tok) (q1 : Nat) (x2 y2 z2 : Tok) (q2 : Nat) (x3 y3 z3 : Tok) (q3 : Nat) (bs : List Nat) (vb : List Value) (oR o0 o1 o2 o3 oB : Obj)
    (hoR : oR = ({ cls := .type "list", data := .seq #[.ref D0, .ref D1, .ref D2, .ref D3] zR } : Obj)) (ho0 : o0 = ({ cls := .type "tuple", data := .seq #[.int ((r.m 0 : Nat) : Int) x0, .int ((r.w 0 : Nat) : Int) y0, .int ((r.f 0 : Nat) : Int) z0] q0 } : Obj)) (ho1 : o1 = ({ cls := .type "tuple", data := .seq #[.int ((r.m 1 : Nat) : Int) x1, .int ((r.w 1 : Nat) : Int) y1, .int ((r.f 1 : Nat) : Int) z1] q1 } : Obj)) (ho2 : o2 = ({ cls := .type "tuple", data := .seq #[.int ((r.m 2 : Nat) : Int) x2, .int ((r.w 2 : Nat) : Int) y2, .int ((r.f 2 : Nat) : Int) z2] q2 } : Obj)) (ho3 : o3 = ({ cls := .type "tuple", data := .seq #[.int ((r.m 3 : Nat) : Int) x3, .int ((r.w 3 : Nat) : Int) y3, .int ((r.f 3 : Nat) : Int) z3] q3 } : Obj)) (hoB : oB = ({ cls := .type "list", data := .seq vb.toArray zB } : Obj))
    (hb : (bs = [0] ∧ ∃ t, vb = [.int 0 t]) ∨ ∃ b0 b1 b2 b3 : Nat, bs = [b0, b1, b2, b3] ∧ (b0 < 2 ∧ b1 < 2 ∧ b2 < 2 ∧ b3 < 2) ∧ ∃ t0 t1 t2 t3, vb = [.int (b0 : Int) t0, .int (b1 : Int) t1, .int (b2 : Int) t2, .int (b3 : Int) t3])
    (hmine : ∀ q ∈ [(R, oR), (D0, o0), (D1, o1), (D2, o2), (D3, o3), (Bt, oB)], q ∈ news) :
    ConN PySem.Challenge.rw_zo0007_01.row.prog w (hd.heap_39 w.params) hd.view_39 loose mean mg mb 115 8 news [.ref R, .ref Bt] (fun tl v => DatIn tl v (.list (pruns r 8 ⟨List.replicate 8 0 ++ bs ++ List.replicate 8 0, 8, 8, 7 + bs.length, 0⟩))) := by
  w_on
  k_with_none
  k_fill
  unfold ConN
  intro dp un gd cn cs a ccd cl outer A₀ base h₀ L m s Q E B F X N T hk hd hu hret
  refine wpAny_call ?_
  k_dflt (refine' code_defM _ hmine ?k1 ?k2 ?k3 ?k4 ?k5 ?kA ?kF ?kK ?k6 ?k7 ?k8 ?k9 ?kB ?_ ?c2 ?c3 ?c4 ?c5; (case kA => exact rfl); (case kF => exact rfl); (case kK => assumption); (case k1 => k_asm); (case k2 => k_asm); (case k3 => k_asm); (case k4 => k_asm); (case k5 => k_asm); (case k6 => k_is); (case k7 => k_is); (case k8 => ktr_room); (case k9 => exact BindsTo.of_eq rfl); (case c5 => decide); (case kB => exact locs rfl); (case c2 => exact rfl); (case c3 => exact rfl); (case c4 => exact rfl); k_whole; intro g' L' h' FG' F' N' RS ltL B' X' T'; (try dsimp only); (try k_lift B'); (try k_fold))
  clear N
  let p₀ : PS := ⟨List.replicate 8 0 ++ bs ++ List.replicate 8 0, 8, 8, 7 + bs.length, 0⟩
  let J : Nat → (Str → Option Value) → List (Addr × Obj) → Prop := fun n mm nx => ∃ (p : PS) (ds : List Dat) (cv vs : List Value) (tl : List (Addr × Obj)) (D Cl : Addr) (z zc : Nat),
    nx = (D, listOf vs.toArray z) :: (Cl, listOf cv.toArray zc) :: (R, oR) :: (D0, o0) :: (D1, o1) :: (D2, o2) :: (D3, o3) :: (Bt, oB) :: tl ∧ (ds.length + n = 8 ∧ ds ++ pruns r n p = pruns r 8 p₀) ∧ IntsAre cv (List.map (fun c : Nat => (c : Int)) p.cells) ∧ DatAll tl vs ds ∧
    (p.st < 3 ∧ n ≤ p.at' ∧ p.at' + n < p.cells.length ∧ p.low ≤ p.at' ∧ p.at' ≤ p.high ∧ p.high < p.cells.length ∧ p.cells.length ≤ 20 ∧ ∀ c ∈ p.cells, c < 2) ∧ (∀ q ∈ (Cl, listOf cv.toArray zc) :: (R, oR) :: (D0, o0) :: (D1, o1) :: (D2, o2) :: (D3, o3) :: (Bt, oB) :: tl, q.1 ≠ D) ∧
    mm (Str.ofString "cells") = some (.ref Cl) ∧ LI mm (Str.ofString "at") (p.at' : Int) ∧ LI mm (Str.ofString "low") (p.low : Int) ∧ LI mm (Str.ofString "high") (p.high : Int) ∧ LI mm (Str.ofString "state") (p.st : Int) ∧ mm (Str.ofString "lines") = some (.ref D) ∧ mm (Str.ofString "rules") = some (.ref R)
  have fin : ∀ (n : Nat) (p p' : PS) (ds : List Dat) (cv2 vs : List Value) (tl : List (Addr × Obj)) (D D9 T : Addr) (q7 q8 : Addr × Obj) (z zt : Nat) (h : Heap) (mm : Str → Option Value) (x y : Str) (t8 t9 : Tok),
      Fr g' L' h mm → pstep r p = p' → p.st < 2 → plineD p' = .tuple [.str x, .str y] → News g' L' h ((T, ({ cls := .type "tuple", data := .seq #[.str x t8, .str y t9] zt } : Obj)) :: q7 :: q8 :: (D9, listOf cv2.toArray 0) :: (D, listOf (vs ++ [Value.ref T]).toArray z) :: (R, oR) :: (D0, o0) :: (D1, o1) :: (D2, o2) :: (D3, o3) :: (Bt, oB) :: tl) →
      ds.length + (n + 1) = 8 → ds ++ pruns r (n + 1) p = pruns r 8 p₀ → IntsAre cv2 (List.map (fun c : Nat => (c : Int)) p'.cells) → DatAll tl vs ds →
      (p'.st < 3 ∧ n ≤ p'.at' ∧ p'.at' + n < p'.cells.length ∧ p'.low ≤ p'.at' ∧ p'.at' ≤ p'.high ∧ p'.high < p'.cells.length ∧ p'.cells.length ≤ 20 ∧ ∀ c ∈ p'.cells, c < 2) → @Ne Nat D9 D → @Ne Nat T D → (∀ q ∈ (R, oR) :: (D0, o0) :: (D1, o1) :: (D2, o2) :: (D3, o3) :: (Bt, oB) :: tl, q.1 ≠ D) →
      mm (Str.ofString "cells") = some (.ref D9) → LI mm (Str.ofString "at") (p'.at' : Int) → LI mm (Str.ofString "low") (p'.low : Int) → LI mm (Str.ofString "high") (p'.high : Int) → LI mm (Str.ofString "state") (p'.st : Int) → mm (Str.ofString "lines") = some (.ref D) → mm (Str.ofString "rules") = some (.ref R) →
      ∃ nx, News g' L' h nx ∧ J n mm nx := by
    intro n p p' ds cv2 vs tl D D9 T q7 q8 z zt h mm x y t8 t9 _ hps hst hline N9 hn hrun hcv hdat hok h9D hTD hoff e1 e2 e3 e4 e5 e6 e7
    refine ⟨_, kst_newsOf N9 ?_, p', ds ++ [plineD p'], cv2, vs ++ [Value.ref T], (T, ({ cls := .type "tuple", data := .seq #[.str x t8, .str y t9] zt } : Obj)) :: tl, D, D9, z, 0, rfl, ⟨?_, ?_⟩, hcv, datAll_snoc ?_ (hdat.mono fun q hq => .tail _ hq), hok, ?_, e1, e2, e3, e4, e5, e6, e7⟩
    · intro q hq
      rcases List.mem_cons.mp hq with rfl | hq
      · k_mem
      rcases List.mem_cons.mp hq with rfl | hq
      · k_mem
      rcases List.mem_cons.mp hq with rfl | hq
      · k_mem
      rcases List.mem_cons.mp hq with rfl | hq
      · k_mem
      rcases List.mem_cons.mp hq with rfl | hq
      · k_mem
      rcases List.mem_cons.mp hq with rfl | hq
      · k_mem
      rcases List.mem_cons.mp hq with rfl | hq
      · k_mem
      rcases List.mem_cons.mp hq with rfl | hq
      · k_mem
      rcases List.mem_cons.mp hq with rfl | hq
      · k_mem
      · exact .tail _ (.tail _ (.tail _ (.tail _ (.tail _ (.tail _ (.tail _ (.tail _ (.tail _ (.tail _ (.tail _ hq))))))))))
    · rw [List.length_append]; show ds.length + 1 + n = 8; omega
    · rw [← hrun]
      show _ = ds ++ (if p.st < 2 then _ else _)
      rw [if_pos hst, List.append_assoc, hps]
      rfl
    · rw [hline]
      exact .tuple (vs := [_, _]) (.head _) (.cons (.str _ _) (.cons (.str _ _) .nil))
    · intro q hq
      rcases List.mem_cons.mp hq with rfl | hq
      · exact h9D
      · rcases List.mem_append.mp (show q ∈ [(R, oR), (D0, o0), (D1, o1), (D2, o2), (D3, o3), (Bt, oB)] ++ (T, ({ cls := .type "tuple", data := .seq #[.str x t8, .str y t9] zt } : Obj)) :: tl from hq) with h | h
        · exact hoff q (List.mem_append_left tl h)
        · rcases List.mem_cons.mp h with rfl | h
          · exact hTD
          · exact hoff q (List.mem_append_right [(R, oR), (D0, o0), (D1, o1), (D2, o2), (D3, o3), (Bt, oB)] h)
  have fin0 : ∀ (l Cl : Addr) (cv : List Value) (rest : List (Addr × Obj)) (h : Heap) (mm : Str → Option Value), Fr g' L' h mm → News g' L' h ((l, listOf #[] 0) :: (Cl, listOf cv.toArray 0) :: rest) → (∀ q ∈ (R, oR) :: (D0, o0) :: (D1, o1) :: (D2, o2) :: (D3, o3) :: (Bt, oB) :: [], q ∈ rest) → IntsAre cv (List.map (fun c : Nat => (c : Int)) p₀.cells) →
      (bs.length = 1 ∨ bs.length = 4) → (∀ b ∈ bs, b < 2) → @Ne Nat Cl l → (∀ q ∈ (R, oR) :: (D0, o0) :: (D1, o1) :: (D2, o2) :: (D3, o3) :: (Bt, oB) :: [], q.1 ≠ l) →
      mm (Str.ofString "cells") = some (.ref Cl) → LI mm (Str.ofString "at") (8 : Int) → LI mm (Str.ofString "low") (8 : Int) → LI mm (Str.ofString "high") ((7 + bs.length : Nat) : Int) → LI mm (Str.ofString "state") (0 : Int) → mm (Str.ofString "lines") = some (.ref l) → mm (Str.ofString "rules") = some (.ref R) →
      ∃ nx, News g' L' h nx ∧ J 8 mm nx := by
    intro l Cl cv rest h mm _ N9 hin hcv hlen hb2 hne hoff e1 e2 e3 e4 e5 e6 e7
    refine ⟨_, kst_newsOf N9 ?_, p₀, [], cv, [], [], l, Cl, 0, 0, rfl, ⟨rfl, rfl⟩, hcv, .nil, ?_, List.forall_mem_cons.mpr ⟨hne, hoff⟩, e1, e2, e3, e4, e5, e6, e7⟩
    · intro q hq
      rcases List.mem_cons.mp hq with rfl | hq
      · k_mem
      rcases List.mem_cons.mp hq with rfl | hq
      · k_mem
      · exact .tail _ (.tail _ (hin q hq))
    · have hl : p₀.cells.length = 16 + bs.length := by
        show (List.replicate 8 0 ++ bs ++ List.replicate 8 0).length = _
        simp
        omega
      refine ⟨Nat.zero_lt_succ 2, Nat.le_refl 8, ?_, Nat.le_refl 8, ?_, ?_, ?_, ?_⟩
      · rw [hl]; show 8 + 8 < _; omega
      · show 8 ≤ 7 + bs.length; omega
      · rw [hl]; show 7 + bs.length < _; omega
      · rw [hl]; omega
      · intro c hc
        have hc' : c ∈ List.replicate 8 0 ++ bs ++ List.replicate 8 0 := hc
        simp only [List.mem_append, List.mem_replicate] at hc'
        rcases hc' with (⟨_, rfl⟩ | h) | ⟨_, rfl⟩
        · decide
        · exact hb2 c h
        · decide
  refine A_cut 6 (fun (_ : Unit) s' => ∃ h tk mm nx, s' = { s with heap := h, toks := tk } ∧ Fr g' L' h mm ∧ News g' L' h nx ∧ J 8 mm nx) ?loop ?init
  case init =>
    simp only [List.take_succ_cons, List.take_zero]
    rcases hb with ⟨rfl, tb, rfl⟩ | ⟨b0, b1, b2, b3, rfl, ⟨hb0, hb1, hb2, hb3⟩, tb0, tb1, tb2, tb3, rfl⟩
    · subst hoB
      k_steps
      rename Fr g' _ _ _ => F9
      rename News g' _ _ _ => N9
      obtain ⟨nx, hN, hJ⟩ := fin0 _ _ _ _ _ _ F9 N9 (by
        intro q hq
        rcases List.mem_cons.mp hq with rfl | hq
        · k_mem
        rcases List.mem_cons.mp hq with rfl | hq
        · k_mem
        rcases List.mem_cons.mp hq with rfl | hq
        · k_mem
        rcases List.mem_cons.mp hq with rfl | hq
        · k_mem
        rcases List.mem_cons.mp hq with rfl | hq
        · k_mem
        rcases List.mem_cons.mp hq with rfl | hq
        · k_mem
        · nomatch hq) (by repeat (first | exact .nil | refine .cons _ _ ?_)) (by simp) (by simp; try omega) (by omega) (by
        intro q hq
        simp only [List.mem_cons, List.not_mem_nil, or_false] at hq
        rcases hq with rfl | rfl | rfl | rfl | rfl | rfl <;> exact neN (by omega)) (by with_unfolding_all rfl) (li (by with_unfolding_all rfl) rfl) (li (by with_unfolding_all rfl) rfl) (li (by with_unfolding_all rfl) rfl) (li (by with_unfolding_all rfl) rfl) (by with_unfolding_all rfl) (by with_unfolding_all rfl)
      exact ⟨rfl, (), _, _, _, nx, rfl, F9, hN, hJ⟩
    · subst hoB
      k_steps
      rename Fr g' _ _ _ => F9
      rename News g' _ _ _ => N9
      obtain ⟨nx, hN, hJ⟩ := fin0 _ _ _ _ _ _ F9 N9 (by
        intro q hq
        rcases List.mem_cons.mp hq with rfl | hq
        · k_mem
        rcases List.mem_cons.mp hq with rfl | hq
        · k_mem
        rcases List.mem_cons.mp hq with rfl | hq
        · k_mem
        rcases List.mem_cons.mp hq with rfl | hq
        · k_mem
        rcases List.mem_cons.mp hq with rfl | hq
        · k_mem
        rcases List.mem_cons.mp hq with rfl | hq
        · k_mem
        · nomatch hq) (by repeat (first | exact .nil | refine .cons _ _ ?_)) (by simp) (by simp; try omega) (by omega) (by
        intro q hq
        simp only [List.mem_cons, List.not_mem_nil, or_false] at hq
        rcases hq with rfl | rfl | rfl | rfl | rfl | rfl <;> exact neN (by omega)) (by with_unfolding_all rfl) (li (by with_unfolding_all rfl) rfl) (li (by with_unfolding_all rfl) rfl) (li (by with_unfolding_all rfl) rfl) (li (by with_unfolding_all rfl) rfl) (by with_unfolding_all rfl) (by with_unfolding_all rfl)
      exact ⟨rfl, (), _, _, _, nx, rfl, F9, hN, hJ⟩
  case loop =>
    rintro x s' ⟨h, tk, mm, nx, rfl, F9, N9, hJ⟩
    simp only [List.drop_succ_cons, List.drop_zero]
    clear F' N'
    k_with "exec While" => (refine stopM ?_)
    k_steps
    show wpAny _ _ (exec _ _) _ _ _
    refine While_inv2 J F9 N9 hJ ?turn
    clear hJ F9 N9
    rintro n m₁ nx₁ h₁ tk₁ F9 N9 ⟨p, ds, cv, vs, tl, D, Cl, z, zc, rfl, ⟨hn, hrun⟩, hcv, hdat, ⟨hst, ha0, ha1, hlow, hhigh, hhi2, hcl, hc2⟩, hoff, e1, ⟨u1, e2⟩, ⟨u2, e3⟩, ⟨u3, e4⟩, ⟨u4, e5⟩, e6, e7⟩
    have F8 := fr_pin F9 [((Str.ofString "cells"), .ref Cl), ((Str.ofString "at"), .int (p.at' : Int) u1), ((Str.ofString "low"), .int (p.low : Int) u2), ((Str.ofString "high"), .int (p.high : Int) u3), ((Str.ofString "state"), .int (p.st : Int) u4), ((Str.ofString "lines"), .ref D), ((Str.ofString "rules"), .ref R)] (by
      intro q hq
      simp only [List.mem_cons, List.not_mem_nil, or_false] at hq
      rcases hq with rfl | rfl | rfl | rfl | rfl | rfl | rfl <;> assumption)
    simp only [kstB] at F8
    clear F9
    have hvs : vs.length = ds.length := hdat.length
    k_with "subscriptTail Name Name ref int" => (refine stopM ?_)
    k_steps
    rotate_left
    · have hn0 : n = 0 := by omega
      have hnil : pruns r n p = [] := by rw [hn0]; rfl
      rename Fr h₀ _ _ _ => kF
      rename News h₀ _ _ _ => kN
      rename Fr g' _ _ _ => F7
      refine hret _ _ _ _ kF (RS.back F7 kN (fun q hq => .tail _ (.tail _ (List.mem_append_left tl hq))) (fun q hq => hq)) ?_
      rw [← hrun, hnil, List.append_nil]
      exact DatIn.list (.head _) (hdat.mono fun q hq => .tail _ (.tail _ (List.mem_append_right [(R, oR), (D0, o0), (D1, o1), (D2, o2), (D3, o3), (Bt, oB)] hq)))
    · have hst2 : ¬ p.st < 2 := by omega
      have hnil : pruns r n p = [] := by
        cases n with
        | zero => rfl
        | succ n => show (if p.st < 2 then _ else _) = _; rw [if_neg hst2]
      rename Fr h₀ _ _ _ => kF
      rename News h₀ _ _ _ => kN
      rename Fr g' _ _ _ => F7
      refine hret _ _ _ _ kF (RS.back F7 kN (fun q hq => .tail _ (.tail _ (List.mem_append_left tl hq))) (fun q hq => hq)) ?_
      rw [← hrun, hnil, List.append_nil]
      exact DatIn.list (.head _) (hdat.mono fun q hq => .tail _ (.tail _ (List.mem_append_right [(R, oR), (D0, o0), (D1, o1), (D2, o2), (D3, o3), (Bt, oB)] hq)))
    · show wpAny _ _ _ _ _ _
      rename_i hlt2 hlt8
      have hlt : p.at' < p.cells.length := by omega
      obtain ⟨tc, hc⟩ : ∃ t, cv[p.at']? = some (.int ((p.cells.getD p.at' 0 : Nat) : Int) t) := by
        refine hcv.get p.at' _ ?_
        simp [hlt]
      have hcc : p.cells.getD p.at' 0 < 2 := by
        have e : p.cells.getD p.at' 0 = p.cells[p.at'] := by simp [hlt]
        rw [e]
        exact hc2 _ (List.getElem_mem hlt)
      generalize hC : p.cells.getD p.at' 0 = C at *
      have hk : pk p < 4 := by unfold pk; rw [hC]; omega
      obtain ⟨DK, xk, yk, zk, qk, hDKD, hDK, hmK⟩ : ∃ (DK : Addr) (xk yk zk : Tok) (qk : Nat), DK ≠ D ∧ ([.ref D0, .ref D1, .ref D2, .ref D3] : List Value)[pk p]? = some (.ref DK) ∧ (DK, ({ cls := .type "tuple", data := .seq #[.int ((r.m (pk p) : Nat) : Int) xk, .int ((r.w (pk p) : Nat) : Int) yk, .int ((r.f (pk p) : Nat) : Int) zk] qk } : Obj)) ∈ (D, listOf vs.toArray z) :: (Cl, listOf cv.toArray zc) :: (R, oR) :: (D0, o0) :: (D1, o1) :: (D2, o2) :: (D3, o3) :: (Bt, oB) :: tl := by
        obtain hp | hp | hp | hp : pk p = 0 ∨ pk p = 1 ∨ pk p = 2 ∨ pk p = 3 := by omega
        · rw [hp]; exact ⟨D0, x0, y0, z0, q0, hoff (D0, o0) (by k_mem), rfl, ho0 ▸ (by k_mem : (D0, o0) ∈ (D, listOf vs.toArray z) :: (Cl, listOf cv.toArray zc) :: (R, oR) :: (D0, o0) :: (D1, o1) :: (D2, o2) :: (D3, o3) :: (Bt, oB) :: tl)⟩
        · rw [hp]; exact ⟨D1, x1, y1, z1, q1, hoff (D1, o1) (by k_mem), rfl, ho1 ▸ (by k_mem : (D1, o1) ∈ (D, listOf vs.toArray z) :: (Cl, listOf cv.toArray zc) :: (R, oR) :: (D0, o0) :: (D1, o1) :: (D2, o2) :: (D3, o3) :: (Bt, oB) :: tl)⟩
        · rw [hp]; exact ⟨D2, x2, y2, z2, q2, hoff (D2, o2) (by k_mem), rfl, ho2 ▸ (by k_mem : (D2, o2) ∈ (D, listOf vs.toArray z) :: (Cl, listOf cv.toArray zc) :: (R, oR) :: (D0, o0) :: (D1, o1) :: (D2, o2) :: (D3, o3) :: (Bt, oB) :: tl)⟩
        · rw [hp]; exact ⟨D3, x3, y3, z3, q3, hoff (D3, o3) (by k_mem), rfl, ho3 ▸ (by k_mem : (D3, o3) ∈ (D, listOf vs.toArray z) :: (Cl, listOf cv.toArray zc) :: (R, oR) :: (D0, o0) :: (D1, o1) :: (D2, o2) :: (D3, o3) :: (Bt, oB) :: tl)⟩
      have N10 := kst_newsOf N9 (List.forall_mem_cons.mpr ⟨hmK, fun q hq => hq⟩)
      obtain ⟨hmm, hww, hff⟩ := hr (pk p)
      have hpk : (2 * (p.st : Int) + (C : Int)) = ((pk p : Nat) : Int) := by unfold pk; rw [hC]; omega
      generalize hM : r.m (pk p) = M at *
      generalize hW : r.w (pk p) = W at *
      generalize hFF : r.f (pk p) = FF at *
      clear N9 hmK e1 e2 e3 e4
      refine sub_lst (j := p.at') N10 (by k_mem) rfl (by omega) hc ?_
      k_with "subscriptTail Name BinOp ref int" => (refine sub_lstO (j := pk p) N10 (vs := [.ref D0, .ref D1, .ref D2, .ref D3]) (o := oR) (by k_mem) hoR hpk (by omega) hDK ?_)
      have hcvl : cv.length = p.cells.length := by rw [hcv.length]; simp
      have h20 : cv.length ≤ 100 - 20 ∧ cv.length ≤ 20 := ⟨by omega, by omega⟩
      k_with "subscriptTail Name Slice ref ref" => (rename Fr g' _ _ _ => fS; rename News g' _ _ _ => nS; first
        | k_dflt ((refine slice_up (s := ⟨_, _, _, _, _⟩) (vs := cv) (z := zc) (a := p.at') fS nS (by k_mem) rfl (ar1 hcvl hcl) ?_); intro D9 h9 l9 F9 N9; (have lD9 : @LT.lt Nat _ D D9 := l9 (D, listOf vs.toArray z) (by k_mem)); clear fS nS l9)
        | k_dflt ((refine slice_fr (s := ⟨_, _, _, _, _⟩) (vs := cv) (z := zc) (a := p.at' + 1) fS nS (by k_mem) rfl (ar1 hcvl hcl) ?_); intro D9 h9 l9 F9 N9; (have lD9 : @LT.lt Nat _ D D9 := l9 (D, listOf vs.toArray z) (by k_mem)); clear fS nS l9)
        | (refine stopM ?_))
      k_with "eval ListComp" => (k_dflt (refine LCg.ListComp_U (F₀ := by k_asm) (by with_unfolding_all rfl) (by decide) (by rfl) (by decide) (by rfl) ?_))
      k_with "CompSrc" => (refine stopM ?_)
      k_with "binaryOp Add ref ref" => (rename Fr g' _ _ _ => fS; rename News g' _ _ _ => nS; k_dflt ((refine add_own fS nS (by k_mem) (by k_mem) (by first | exact ar2 h20 | exact ar3 h20) ?_); intro D9 h9 l9 F9 N9; (have lD9 : @LT.lt Nat _ D D9 := l9 (D, listOf vs.toArray z) (by k_mem)); clear fS nS l9))
      k_steps
      show wpAny _ _ _ _ _ _
      have hcv2 := ints_step hcv p.at' M xk
      have hlen2 : (p.cells.take p.at' ++ M :: p.cells.drop (p.at' + 1)).length = p.cells.length := by simp; omega
      have hvl2 : (cv.take p.at' ++ [Value.int (M : Int) xk] ++ cv.drop (p.at' + 1)).length = p.cells.length := by simp; omega
      have hc3 : ∀ c ∈ p.cells.take p.at' ++ M :: p.cells.drop (p.at' + 1), c < 2 := by
        intro c hcm
        rcases List.mem_append.mp hcm with h | h
        · exact hc2 c (List.mem_of_mem_take h)
        rcases List.mem_cons.mp h with rfl | h
        · exact hmm
        · exact hc2 c (List.mem_of_mem_drop h)
      generalize hcells : p.cells.take p.at' ++ M :: p.cells.drop (p.at' + 1) = cells2 at *
      generalize cv.take p.at' ++ [Value.int (M : Int) xk] ++ cv.drop (p.at' + 1) = cv2 at *
      obtain ⟨a2, ha2⟩ : ∃ a2, a2 = p.at' + 2 * W - 1 := ⟨_, rfl⟩
      have hn1 : 1 ≤ n := by omega
      have hst2 : p.st < 2 := by omega
      obtain ⟨lo, hlo⟩ : ∃ lo, lo = min p.low a2 := ⟨_, rfl⟩
      obtain ⟨hg, hhg⟩ : ∃ hg, hg = max p.high a2 := ⟨_, rfl⟩
      have hps : pstep r p = ⟨cells2, a2, lo, hg, FF⟩ := by
        simp only [pstep, hM, hW, hFF, hcells]
        rw [← ha2, ← hlo, ← hhg]
      have hgl : hg < p.cells.length := by rw [hhg]; exact Nat.max_lt.mpr ⟨hhi2, by omega⟩
      have nT : News g' L' _ ((D9, listOf cv2.toArray 0) :: (D, listOf vs.toArray z) :: (R, oR) :: (D0, o0) :: (D1, o1) :: (D2, o2) :: (D3, o3) :: (Bt, oB) :: tl) := kst_newsOf nS (fun q hq => by
        rcases List.mem_cons.mp hq with rfl | hq
        · exact .head _
        rcases List.mem_cons.mp hq with rfl | hq
        · k_mem
        · exact .tail _ (.tail _ (.tail _ (.tail _ (.tail _ (.tail _ (.tail _ (.tail _ hq))))))))
      clear nS
      have nS := nT
      clear nT
      k_dflt (refine slice_ru (s := ⟨_, _, _, _, _⟩) (a := lo) (b := hg + 1) fS nS (.head _) (by split <;> omega) (by split <;> omega) (by omega) (by omega) (by omega) ?_)
      intro D8 h8 l8 F8 N8
      have lD8 : @LT.lt Nat _ D D8 := l8 (D, listOf vs.toArray z) (by k_mem)
      clear fS nS
      refine src_lst (by rfl) F8 N8 (.head _) (ar4 hvl2 hcl) ?_
      intro g8 hS8
      refine comp_turnsL hS8 (fun i y => ∃ t', y = .str ⟨#[sg (cells2.getD (lo + i) 0)]⟩ t') ?_ ?_
      · rintro i v I oI C' oC DD m₂ ys hh tk' E' hi hv hC' hx F9 N9 off ne
        obtain ⟨tv, rfl⟩ : ∃ t, v = .int ((cells2.getD (lo + i) 0 : Nat) : Int) t := by
          exact ints_at hcv2 (slice_get hv)
        have hcb : cells2.getD (lo + i) 0 < 2 := getD_lt2 hc3 _
        generalize cells2.getD (lo + i) 0 = cc at *
        k_steps
        exact LCg.CompEnd.intro F9 N9 _ (fun p hp => hp) off trivial ⟨rfl, _, by rw [item_sign cc hcb]⟩
      · intro ys hl hy
        have hl2 : ys.length = hg + 1 - lo := by rw [hl]; simp; omega
        intro D7 h7 tk7 F7 N7 off7
        k_with "call builtin:str.join" => (k_dflt (refine call_join1 (f := fun i => sg (cells2.getD (lo + i) 0)) N7 (.head _) hl2 (ar6 hgl hcl) hy ?_); intro t7 k7 l7)
        have lD7 : @Ne Nat D D7 := off7.2.2.1
        have hoff2 : ∀ q ∈ (R, oR) :: (D0, o0) :: (D1, o1) :: (D2, o2) :: (D3, o3) :: (Bt, oB) :: tl, q.1 ≠ D := fun q hq => hoff q (.tail _ hq)
        obtain ⟨n, rfl⟩ : ∃ k, n = k + 1 := ⟨n - 1, (Nat.succ_pred_eq_of_pos hn1).symm⟩
        have har := ar7 ha0 ha1 hlow hhigh hhi2 hcl hlen2 hww ha2 hlo hhg
        k_steps
        all_goals rename Fr g' _ _ _ => fA
        all_goals rename News g' _ _ _ => nA
        all_goals k_dflt (refine append_k (its := vs.toArray) (n := z) fA nA (Upd.tail (by k_ne) (Upd.tail (by k_ne) (Upd.tail (by k_ne) (Upd.tail (by k_ne) (Upd.head hoff2))))) (ar5 hvs hn) ?_)
        all_goals intro hA fA' nA'
        all_goals clear fA nA
        all_goals dsimp only
        all_goals refine wpAny_execs_nil ?_
        all_goals simp only [List.push_toArray] at nA'
        · have hxx := True.intro
          have hline : plineD ⟨cells2, a2, lo, hg, FF⟩ = _ := congrArg Dat.tuple (congr (congrArg List.cons (congrArg Dat.str (remT_ne (y := Txt.slice ⟨((List.range (hg + 1 - lo)).map fun i => sg (cells2.getD (lo + i) 0)).toArray⟩ none (some (Txt.rfind ⟨((List.range (hg + 1 - lo)).map fun i => sg (cells2.getD (lo + i) 0)).toArray⟩ (Str.ofString "\"") + 1))) (by assumption)))) (congrArg (fun y => [Dat.str y]) (item_abh FF hff).symm))
          obtain ⟨nx, hN, hJ⟩ := fin n p ⟨cells2, a2, lo, hg, FF⟩ ds cv2 vs tl D D9 _ _ _ _ _ hA _ _ _ _ _ fA' hps hst2 hline nA' hn hrun hcv2 hdat ⟨hff, har.1, har.2.1, har.2.2.1, har.2.2.2.1, har.2.2.2.2.1, har.2.2.2.2.2, hc3⟩ (by omega) (by omega) hoff2 (by with_unfolding_all rfl) (li (by with_unfolding_all rfl) (by dsimp only; omega)) (li (by with_unfolding_all rfl) (by dsimp only; split <;> omega)) (li (by with_unfolding_all rfl) (by dsimp only; split <;> omega)) (li (by with_unfolding_all rfl) rfl) (by with_unfolding_all rfl) (by with_unfolding_all rfl)
          exact ⟨hA, _, _, nx, n, rfl, fA', hN, Nat.lt_succ_self n, hJ⟩
        · have hxx := True.intro
          have hline : plineD ⟨cells2, a2, lo, hg, FF⟩ = _ := congrArg Dat.tuple (congr (congrArg List.cons (congrArg Dat.str (remT_eq (y := Txt.slice ⟨((List.range (hg + 1 - lo)).map fun i => sg (cells2.getD (lo + i) 0)).toArray⟩ none (some (Txt.rfind ⟨((List.range (hg + 1 - lo)).map fun i => sg (cells2.getD (lo + i) 0)).toArray⟩ (Str.ofString "\"") + 1))) (by assumption)))) (congrArg (fun y => [Dat.str y]) (item_abh FF hff).symm))
          obtain ⟨nx, hN, hJ⟩ := fin n p ⟨cells2, a2, lo, hg, FF⟩ ds cv2 vs tl D D9 _ _ _ _ _ hA _ _ _ _ _ fA' hps hst2 hline nA' hn hrun hcv2 hdat ⟨hff, har.1, har.2.1, har.2.2.1, har.2.2.2.1, har.2.2.2.2.1, har.2.2.2.2.2, hc3⟩ (by omega) (by omega) hoff2 (by with_unfolding_all rfl) (li (by with_unfolding_all rfl) (by dsimp only; omega)) (li (by with_unfolding_all rfl) (by dsimp only; split <;> omega)) (li (by with_unfolding_all rfl) (by dsimp only; split <;> omega)) (li (by with_unfolding_all rfl) rfl) (by with_unfolding_all rfl) (by with_unfolding_all rfl)
          exact ⟨hA, _, _, nx, n, rfl, fA', hN, Nat.lt_succ_self n, hJ⟩
theorem c_plain {w : World} {loose : List Str} {mean : ExcName → Option Value} {mg mb : Str → Option Value} (news : List (Addr × Obj)) (r : Rules) (hr : r.Ok) (R Bt D0 D1 D2 D3 : Addr) (zR zB : Nat) (x0 y0 z0 : Tok) (q0 : Nat) (x1 y1 z1 : Tok) (q1 : Nat) (x2 y2 z2 : Tok) (q2 : Nat) (x3 y3 z3 : Tok) (q3 : Nat) (bs : List Nat) (vb : List Value)
    (hb : (bs = [0] ∧ ∃ t, vb = [.int 0 t]) ∨ ∃ b0 b1 b2 b3 : Nat, bs = [b0, b1, b2, b3] ∧ (b0 < 2 ∧ b1 < 2 ∧ b2 < 2 ∧ b3 < 2) ∧ ∃ t0 t1 t2 t3, vb = [.int (b0 : Int) t0, .int (b1 : Int) t1, .int (b2 : Int) t2, .int (b3 : Int) t3])
    (hmine : ∀ q ∈ [(R, ({ cls := .type "list", data := .seq #[.ref D0, .ref D1, .ref D2, .ref D3] zR } : Obj)), (D0, ({ cls := .type "tuple", data := .seq #[.int ((r.m 0 : Nat) : Int) x0, .int ((r.w 0 : Nat) : Int) y0, .int ((r.f 0 : Nat) : Int) z0] q0 } : Obj)), (D1, ({ cls := .type "tuple", data := .seq #[.int ((r.m 1 : Nat) : Int) x1, .int ((r.w 1 : Nat) : Int) y1, .int ((r.f 1 : Nat) : Int) z1] q1 } : Obj)), (D2, ({ cls := .type "tuple", data := .seq #[.int ((r.m 2 : Nat) : Int) x2, .int ((r.w 2 : Nat) : Int) y2, .int ((r.f 2 : Nat) : Int) z2] q2 } : Obj)), (D3, ({ cls := .type "tuple", data := .seq #[.int ((r.m 3 : Nat) : Int) x3, .int ((r.w 3 : Nat) : Int) y3, .int ((r.f 3 : Nat) : Int) z3] q3 } : Obj)), (Bt, ({ cls := .type "list", data := .seq vb.toArray zB } : Obj))], q ∈ news) :
    ConN PySem.Challenge.rw_zo0007_01.row.prog w (hd.heap_39 w.params) hd.view_39 loose mean mg mb 115 8 news [.ref R, .ref Bt] (fun tl v => DatIn tl v (.list (pruns r 8 ⟨List.replicate 8 0 ++ bs ++ List.replicate 8 0, 8, 8, 7 + bs.length, 0⟩))) :=
  c_plainA news r hr R Bt D0 D1 D2 D3 zR zB x0 y0 z0 q0 x1 y1 z1 q1 x2 y2 z2 q2 x3 y3 z3 q3 bs vb _ _ _ _ _ _ rfl rfl rfl rfl rfl rfl hb hmine
end Mine
end

section
open PySem PySem.W PyProof.Rows PySem.Calls
namespace Mine
local macro_rules | `(tactic| k_all) => `(tactic| assumption)
set_option maxRecDepth 100000 in
set_option maxHeartbeats 4000000 in
theorem c_runA {w : World} {loose : List Str} {mean : ExcName → Option Value} {mg mb : Str → Option Value} (news : List (Addr × Obj)) (r : Rules) (hr : r.Ok) (R Bt : Addr) (zR zB : Nat) (u1 u2 tm : Tok) (a0 a1 a2 a3 : Tok) (bs : List Nat) (vb : List Value) (most : Nat) (oR oB : Obj) (hoR : oR = ({ cls := .type "list", data := .seq #[.str (replyT (r.m 0) (r.w 0) (r.f 0)) a0, .str (replyT (r.m 1) (r.w 1) (r.f 1)) a1, .str (replyT (r.m 2) (r.w 2) (r.f 2)) a2, .str (replyT (r.m 3) (r.w 3) (r.f 3)) a3] zR } : Obj)) (hoB : oB = ({ cls := .type "list", data := .seq vb.toArray zB } : Obj)) (hmost : most ≤ 16)
    (hb : (bs = [0] ∧ ∃ t, vb = [.int 0 t]) ∨ ∃ b0 b1 b2 b3 : Nat, bs = [b0, b1, b2, b3] ∧ (b0 < 2 ∧ b1 < 2 ∧ b2 < 2 ∧ b3 < 2) ∧ ∃ t0 t1 t2 t3, vb = [.int (b0 : Int) t0, .int (b1 : Int) t1, .int (b2 : Int) t2, .int (b3 : Int) t3])
    (hmine : ∀ q ∈ [(R, oR), (Bt, oB)], q ∈ news) :
    ConNS PySem.Challenge.rw_zo0007_01.row.prog w (hd.heap_39 w.params) hd.view_39 loose mean mg mb 139 16 news [.ref R, .ref Bt, .int (most : Int) tm] (fun tl v => DatIn tl v (.list (runs r most ⟨[], sg (bs.headD 0), bs.tail.map sg, 0⟩))) := by
  w_on
  k_with_none
  k_fill
  unfold ConNS
  intro dp un gd cn cs a ccd cl outer A₀ base h₀ L m s Q E B F X N T hk hd hu hret
  refine wpS_call ?_
  k_dflt (refine' codeS_defM _ hmine ?k1 ?k2 ?k3 ?k4 ?k5 ?kA ?kF ?kK ?k6 ?k7 ?k8 ?k9 ?kB ?_ ?c2 ?c3 ?c4 ?c5; (case kA => exact rfl); (case kF => exact rfl); (case kK => assumption); (case k1 => k_asm); (case k2 => k_asm); (case k3 => k_asm); (case k4 => k_asm); (case k5 => k_asm); (case k6 => k_is); (case k7 => k_is); (case k8 => ktr_room); (case k9 => exact BindsTo.of_eq rfl); (case c5 => decide); (case kB => exact locs rfl); (case c2 => exact rfl); (case c3 => exact rfl); (case c4 => exact rfl); k_whole; intro g' L' h' FG' F' N' RS ltL B' X' T'; (try dsimp only); (try k_lift B'); (try k_fold))
  clear N
  let c₀ : Cfg := ⟨[], sg (bs.headD 0), bs.tail.map sg, 0⟩
  let J : Nat → Shared → Prop := fun n s' => ∃ (c : Cfg) (ds : List Dat) (vs : List Value) (tl : List (Addr × Obj)) (D : Addr) (z : Nat) (h : Heap) (tk : Nat) (mm : Str → Option Value),
    s' = { s with heap := h, toks := tk } ∧ (ds.length + n = most ∧ c.Ok (4 + ds.length) ∧ ds ++ runs r n c = runs r most c₀ ∧ DatAll tl vs ds) ∧ ((∀ p ∈ tl, p.1 ≠ D) ∧ D ≠ R ∧ D ≠ Bt) ∧
    Fr g' L' h mm ∧ News g' L' h ((D, listOf vs.toArray z) :: (R, oR) :: (Bt, oB) :: tl) ∧
    (LK mm (Str.ofString "left") (host c.left) ∧ LK mm (Str.ofString "head") ⟨#[c.head]⟩ ∧ LK mm (Str.ofString "right") (host c.right) ∧ LK mm (Str.ofString "state") ⟨#[stC c.st]⟩ ∧ mm (Str.ofString "lines") = some (.ref D) ∧ mm (Str.ofString "replies") = some (.ref R) ∧ mm (Str.ofString "most") = some (.int (most : Int) tm))
  have fin : ∀ (n : Nat) (c : Cfg) (ds : List Dat) (vs : List Value) (tl : List (Addr × Obj)) (D T : Addr) (q : Addr × Obj) (z zt : Nat) (h : Heap) (tk : Nat) (mm : Str → Option Value) (x y : Str) (t8 t9 : Tok),
      Fr g' L' h mm → News g' L' h ((T, ({ cls := .type "tuple", data := .seq #[.str x t8, .str y t9] zt } : Obj)) :: q :: (D, listOf (vs ++ [Value.ref T]).toArray z) :: (R, oR) :: (Bt, oB) :: tl) →
      DatAll tl vs ds → (∀ p ∈ tl, p.1 ≠ D) → D ≠ R → D ≠ Bt → T ≠ D → lineD c = .tuple [.str x, .str y] → ds.length + 1 + n = most → c.Ok (4 + ds.length + 1) → (ds ++ [lineD c]) ++ runs r n c = runs r most c₀ →
      LK mm (Str.ofString "left") (host c.left) → LK mm (Str.ofString "head") ⟨#[c.head]⟩ → LK mm (Str.ofString "right") (host c.right) → LK mm (Str.ofString "state") ⟨#[stC c.st]⟩ → mm (Str.ofString "lines") = some (.ref D) → mm (Str.ofString "replies") = some (.ref R) → mm (Str.ofString "most") = some (.int (most : Int) tm) →
      J n { s with heap := h, toks := tk } := by
    intro n c ds vs tl D T q z zt h tk mm x y t8 t9 F9 N9 hdat hoff hDR hDB hTD hline hn hok hrun e1 e2 e3 e4 e5 e6 e7
    refine ⟨c, ds ++ [lineD c], vs ++ [Value.ref T], (T, ({ cls := .type "tuple", data := .seq #[.str x t8, .str y t9] zt } : Obj)) :: tl, D, z, h, tk, mm, rfl, ⟨?_, ?_, hrun, ?_⟩, ⟨List.forall_mem_cons.mpr ⟨hTD, hoff⟩, hDR, hDB⟩, F9, kst_newsOf N9 ?_, e1, e2, e3, e4, e5, e6, e7⟩
    · rw [List.length_append]; show ds.length + 1 + n = most; omega
    · rw [List.length_append]; exact hok
    · refine datAll_snoc ?_ (hdat.mono fun q hq => .tail _ hq)
      rw [hline]
      exact .tuple (vs := [_, _]) (.head _) (.cons (.str _ _) (.cons (.str _ _) .nil))
    · intro p hp
      rcases List.mem_cons.mp hp with rfl | hp
      · k_mem
      rcases List.mem_cons.mp hp with rfl | hp
      · k_mem
      rcases List.mem_cons.mp hp with rfl | hp
      · k_mem
      rcases List.mem_cons.mp hp with rfl | hp
      · k_mem
      · exact .tail _ (.tail _ (.tail _ (.tail _ (.tail _ hp))))
  refine S_cut 5 (fun (_ : Unit) s' => J most s') ?loop ?init
  case init =>
    simp only [List.take_succ_cons, List.take_zero]
    rcases hb with ⟨rfl, tb, rfl⟩ | ⟨b0, b1, b2, b3, rfl, ⟨hb0, hb1, hb2, hb3⟩, tb0, tb1, tb2, tb3, rfl⟩
    · subst hoB
      k_with "last subscriptTail" => (refine sub_sign (b := 0) rfl (by decide) ?_; intro t9 k9)
      k_steps
      rename Fr g' _ _ _ => F9
      rename News g' _ _ _ => N9
      refine ⟨rfl, (), c₀, [], [], [], _, 0, _, _, _, rfl, ⟨by simp, ?_, by simp, .nil⟩, ⟨(fun _ h => nomatch h), ?_, ?_⟩, F9, kst_newsOf N9 ?_, lk (by with_unfolding_all rfl) localS, lk (by with_unfolding_all rfl) rfl, lk (by with_unfolding_all rfl) ?_, lk (by with_unfolding_all rfl) stA, by with_unfolding_all rfl, by with_unfolding_all rfl, by with_unfolding_all rfl⟩
      · exact c0_ok _ (by simp)
      · exact neN (by omega)
      · exact neN (by omega)
      · intro p hp
        rcases List.mem_cons.mp hp with rfl | hp
        · k_mem
        rcases List.mem_cons.mp hp with rfl | hp
        · k_mem
        rcases List.mem_cons.mp hp with rfl | hp
        · k_mem
        · nomatch hp
      · exact localS
    · subst hoB
      k_with "last subscriptTail" => (refine sub_sign (b := b0) rfl hb0 ?_; intro t9 k9)
      k_with "call builtin:str.join" => (rename News g' _ _ _ => N9; refine call_join3 N9 (.head _) rfl (by rw [Str.length_append, len_item]; decide +kernel) (by rw [Str.length_append, len_item]; decide +kernel) (by rw [Str.length_append, len_item]; decide +kernel) ?_; intro t8 k8 l8)
      k_steps
      rename Fr g' _ _ _ => F9
      rename News g' _ _ _ => N9
      refine ⟨rfl, (), c₀, [], [], [], _, 0, _, _, _, rfl, ⟨by simp, ?_, by simp, .nil⟩, ⟨(fun _ h => nomatch h), ?_, ?_⟩, F9, kst_newsOf N9 ?_, lk (by with_unfolding_all rfl) localS, lk (by with_unfolding_all rfl) rfl, lk (by with_unfolding_all rfl) (host3 b1 b2 b3 hb1 hb2 hb3), lk (by with_unfolding_all rfl) stA, by with_unfolding_all rfl, by with_unfolding_all rfl, by with_unfolding_all rfl⟩
      · exact c0_ok _ (by simp)
      · exact neN (by omega)
      · exact neN (by omega)
      · intro p hp
        rcases List.mem_cons.mp hp with rfl | hp
        · k_mem
        rcases List.mem_cons.mp hp with rfl | hp
        · k_mem
        rcases List.mem_cons.mp hp with rfl | hp
        · k_mem
        · nomatch hp
  case loop =>
    rintro x s' hJ
    simp only [List.drop_succ_cons, List.drop_zero]
    refine S_cons (S_While J ?turn most hJ)
    rintro n s' ⟨c, ds, vs, tl, D, z, h, tk, mm, rfl, ⟨hn, hok, hrun, hdat⟩, ⟨hoff, hDR, hDB⟩, F9, N9, ⟨v1, e1⟩, ⟨v2, e2⟩, ⟨v3, e3⟩, ⟨v4, e4⟩, e5, e6, e7⟩
    clear hJ F' N'
    have F8 := fr_pin F9 [((Str.ofString "left"), .str (host c.left) v1), ((Str.ofString "head"), .str ⟨#[c.head]⟩ v2), ((Str.ofString "right"), .str (host c.right) v3), ((Str.ofString "state"), .str ⟨#[stC c.st]⟩ v4), ((Str.ofString "lines"), .ref D), ((Str.ofString "replies"), .ref R), ((Str.ofString "most"), .int (most : Int) tm)] (by
      intro p hp
      simp only [List.mem_cons, List.not_mem_nil, or_false] at hp
      rcases hp with rfl | rfl | rfl | rfl | rfl | rfl | rfl <;> assumption)
    simp only [kstB] at F8
    clear F9
    have hvs : vs.length = ds.length := hdat.length
    refine wpS_of ?_
    k_steps
    rotate_left
    · have hn0 : n = 0 := by omega
      have hnil : runs r n c = [] := by rw [hn0]; rfl
      dsimp only
      refine wpS_of ?_
      k_steps
      rename Fr h₀ _ _ _ => kF
      rename News h₀ _ _ _ => kN
      rename Fr g' _ _ _ => F7
      refine hret _ _ _ _ kF (RS.back F7 kN (fun q hq => ?_) (fun q hq => hq)) ?_
      · rcases List.mem_cons.mp hq with rfl | hq
        · k_mem
        · rw [List.mem_singleton.mp hq]; k_mem
      · rw [← hrun, hnil, List.append_nil]
        exact DatIn.list (.head _) (hdat.mono fun q hq => .tail _ (.tail _ (.tail _ hq)))
    · rename_i hst
      have hs2 : c.st = 2 := by
        obtain ⟨_, _, _, h4, _, _⟩ := hok
        obtain h0 | h0 | h0 : c.st = 0 ∨ c.st = 1 ∨ c.st = 2 := by omega
        · rw [h0] at hst; exact absurd hst (by decide +kernel)
        · rw [h0] at hst; exact absurd hst (by decide +kernel)
        · exact h0
      have hnil : runs r n c = [] := by
        cases n with
        | zero => rfl
        | succ n => show (if c.st = 2 then _ else _) = _; rw [if_pos hs2]
      dsimp only
      refine wpS_of ?_
      k_steps
      rename Fr h₀ _ _ _ => kF
      rename News h₀ _ _ _ => kN
      rename Fr g' _ _ _ => F7
      refine hret _ _ _ _ kF (RS.back F7 kN (fun q hq => ?_) (fun q hq => hq)) ?_
      · rcases List.mem_cons.mp hq with rfl | hq
        · k_mem
        · rw [List.mem_singleton.mp hq]; k_mem
      · rw [← hrun, hnil, List.append_nil]
        exact DatIn.list (.head _) (hdat.mono fun q hq => .tail _ (.tail _ (.tail _ hq)))
    · rename_i hst hlt
      have hst : c.st = 0 ∨ c.st = 1 := by
        obtain ⟨_, _, _, h4, _, _⟩ := hok
        obtain h0 | h0 | h0 : c.st = 0 ∨ c.st = 1 ∨ c.st = 2 := by omega
        · exact .inl h0
        · exact .inr h0
        · rw [h0] at hst; exact absurd hst (by decide +kernel)
      obtain ⟨n, rfl⟩ : ∃ k, n = k + 1 := ⟨n - 1, by omega⟩
      have hok2 := step_ok hr hok
      have hrun2 : (ds ++ [lineD (step r c)]) ++ runs r n (step r c) = runs r most c₀ := by
        rw [← hrun]
        show _ = ds ++ (if c.st = 2 then _ else _)
        rw [if_neg (by omega), List.append_assoc]
        rfl
      obtain ⟨left, head, right, st⟩ := c
      obtain ⟨hl, hh, hri, _, hll, hrl⟩ := hok
      dsimp only at hst hl hh hri hll hrl F8
      have hds : ds.length ≤ 16 := by omega
      clear hrun e1 e2 e3 e4
      obtain ⟨ak, hk4, hak, hxi⟩ : ∃ ak, ix ⟨left, head, right, st⟩ < 4 ∧ ([.str (replyT (r.m 0) (r.w 0) (r.f 0)) a0, .str (replyT (r.m 1) (r.w 1) (r.f 1)) a1, .str (replyT (r.m 2) (r.w 2) (r.f 2)) a2, .str (replyT (r.m 3) (r.w 3) (r.f 3)) a3] : List Value)[ix ⟨left, head, right, st⟩]? = some (.str (replyT (r.m (ix ⟨left, head, right, st⟩)) (r.w (ix ⟨left, head, right, st⟩)) (r.f (ix ⟨left, head, right, st⟩))) ak) ∧
          2 * Txt.find (Str.ofString "AB") ⟨#[stC st]⟩ + Txt.find (Str.ofString " \"") ⟨#[head]⟩ = ((ix ⟨left, head, right, st⟩ : Nat) : Int) := by
        rcases hst with rfl | rfl <;> rcases hh with rfl | rfl
        · exact ⟨a0, (by show (0 : Nat) < 4; decide), rfl, by show _ = ((0 : Nat) : Int); decide +kernel⟩
        · exact ⟨a1, (by show (1 : Nat) < 4; decide), rfl, by show _ = ((1 : Nat) : Int); decide +kernel⟩
        · exact ⟨a2, (by show (2 : Nat) < 4; decide), rfl, by show _ = ((2 : Nat) : Int); decide +kernel⟩
        · exact ⟨a3, (by show (3 : Nat) < 4; decide), rfl, by show _ = ((3 : Nat) : Int); decide +kernel⟩
      generalize hx : ix ⟨left, head, right, st⟩ = k at *
      obtain ⟨hm, hw, hf⟩ := hr k
      generalize hM : r.m k = M at *
      generalize hW : r.w k = W at *
      generalize hF : r.f k = FF at *
      k_with "subscriptTail Name BinOp ref int" => (rename News _ _ _ _ => nS; refine sub_lstO (o := oR) (j := k) (vs := [.str (replyT (r.m 0) (r.w 0) (r.f 0)) a0, .str (replyT (r.m 1) (r.w 1) (r.f 1)) a1, .str (replyT (r.m 2) (r.w 2) (r.f 2)) a2, .str (replyT (r.m 3) (r.w 3) (r.f 3)) a3]) nS (by k_mem) hoR hxi (by omega) hak ?_)
      obtain hw0 | hw1 : W = 0 ∨ W = 1 := by omega
      · have es : step r ⟨left, head, right, st⟩ = ⟨left.tail, left.headD 32, sg M :: right, FF⟩ := by
          unfold step
          rw [hx, if_neg (by rw [hW, hw0]; decide), hM, hF]
        rw [es] at hok2 hrun2
        have hlh := hok2
        have hl5 := hok2.2.2.2.2.1
        have hl6 := hok2.2.2.2.2.2
        dsimp only at hlh hl5 hl6
        refine S_consA ?_
        k_with "binaryOp Add str str" => (first | ((with_reducible show wpAny _ _ (binaryOp Operator.Add (Value.str ⟨#[_]⟩ _) (Value.str (Str.ofString ".") _)) _ _ _); refine add_dot ?_; intro t6 k6) | ((with_reducible show wpAny _ _ (binaryOp Operator.Add (Value.str (_ ++ _) _) (Value.str (host _) _)) _ _ _); refine add_host (by omega) ?_; intro t6 k6) | ((with_reducible show wpAny _ _ (binaryOp Operator.Add (Value.str ⟨#[_]⟩ _) (Value.str ⟨List.toArray _⟩ _)) _ _ _); refine add_head (by omega) ?_; intro t6 k6) | ((with_reducible show wpAny _ _ (binaryOp Operator.Add (Value.str ⟨List.toArray _⟩ _) (Value.str ⟨List.toArray _⟩ _)) _ _ _); refine add_tape (by simp; omega) (by simp; omega) ?_; intro t6 k6))
        k_with "subscriptTail Name Constant str int" => (first | (refine sub3t (k := 0) (y := ⟨#[sg M]⟩) rfl (by decide) rfl ?_; intro t5 k5) | (refine sub3t (k := 1) rfl (by decide) (wc0 hw0) ?_; intro t5 k5) | (refine sub3t (k := 2) (y := ⟨#[stC FF]⟩) rfl (by decide) rfl ?_; intro t5 k5))
        k_with "call ref" => (first
          | ((with_reducible show wpAny _ _ (call (Value.ref 70) _) _ _ _); refine con_use0 (parse3 _ _ _ _ _ hm hw hf) (by k_asm) (by k_asm) (by k_asm) (by k_asm) (by k_asm) rfl (by ktr_room) (by ktr_units) ?_; intro r9 h9 tk9 F9 N9 e9; (refine Exists.elim e9 ?_; clear e9; intro t9 e9; subst e9); (try dsimp only); (try k_fold))
          | ((with_reducible show wpAny _ _ (call (Value.ref 122) _) _ _ _); refine con_use (takenH _ _ left hl (by omega)) (by k_asm) (by k_asm) (by k_asm) (by k_asm) (by k_asm) rfl (by ktr_room) (by ktr_units) ?_; intro r9 tl9 h9 tk9 F9 N9 o9 e9; (refine Exists.elim e9 ?_; clear e9; intro q9 e9; refine Exists.elim e9 ?_; clear e9; intro t91 e9; refine Exists.elim e9 ?_; clear e9; intro t92 e9); (have e91 := e9.1); (have e92 := e9.2); clear e9; subst e91; subst e92; (have N9 := perm_last N9); (have o91 := o9 _ (.head _) _ (.head _)); clear o9; (try dsimp only at o91); (try dsimp only); (try k_fold))
          | ((with_reducible show wpAny _ _ (call (Value.ref 129) _) _ _ _); (show wpAny _ _ (call (Value.ref 129) [.str (host left.tail) _]) _ _ _); refine con_use0 (signsH _ _ left.tail hlh.1 (by omega)) (by k_asm) (by k_asm) (by k_asm) (by k_asm) (by k_asm) rfl (by ktr_room) (by ktr_units) ?_; intro r9 h9 tk9 F9 N9 e9; (refine Exists.elim e9 ?_; clear e9; intro t9 e9; subst e9); (try dsimp only); (try k_fold))
          | ((with_reducible show wpAny _ _ (call (Value.ref 129) _) _ _ _); (show wpAny _ _ (call (Value.ref 129) [.str (host (sg M :: right)) _]) _ _ _); refine con_use0 (signsH _ _ (sg M :: right) hlh.2.2.1 (by omega)) (by k_asm) (by k_asm) (by k_asm) (by k_asm) (by k_asm) rfl (by ktr_room) (by ktr_units) ?_; intro r9 h9 tk9 F9 N9 e9; (refine Exists.elim e9 ?_; clear e9; intro t9 e9; subst e9); (try dsimp only); (try k_fold))
          | ((with_reducible show wpAny _ _ (call (Value.ref 38) _) _ _ _); refine con_use0 (c_comment _ _ _ (by show (List.toArray _).size ≤ 100; simp; omega)) (by k_asm) (by k_asm) (by k_asm) (by k_asm) (by k_asm) rfl (by ktr_room) (by ktr_units) ?_; intro r9 h9 tk9 F9 N9 e9; (refine Exists.elim e9 ?_; clear e9; intro t9 e9; subst e9); (try dsimp only); (try k_fold)))
        k_steps
        (try dsimp only)
        refine S_consA ?_
        k_steps
        (try dsimp only)
        refine S_consA ?_
        k_steps
        (try dsimp only)
        refine S_cons (S_Assign (S_BinOp (S_CallName ?_)))
        k_steps
        refine S_withRef (K := Mine.hd.heap_39 w.params) (by k_is) ?_
        k_steps
        refine conNS_use (turnedH _ _ (left.headD 32) left.tail hlh.2.1 hlh.1 (by omega)) (by k_asm) (by k_asm) (by k_asm) (by k_asm) (by k_asm) rfl (by ktr_room) (by ktr_units) ?_
        intro r9 tl9 h9 tk9 F9 N9 e9
        refine Exists.elim e9 ?_
        clear e9
        intro t9 e9
        subst e9
        have N9 := cb_drop N9 fun p hp => List.mem_append.mpr (.inl hp)
        (try dsimp only)
        (try k_fold)
        k_steps
        (try dsimp only)
        refine S_consA ?_
        k_with "call builtin:list.append" => (rename Fr _ _ _ _ => fA; rename News _ _ _ _ => nA; refine append_k fA nA (by k_upd) (by simp; omega) ?_; intro hA fA' nA'; clear fA nA)
        k_steps
        rename Fr _ _ _ _ => fA
        rename News _ _ _ _ => nA
        have z1 : @Ne Nat D R := hDR
        have z2 : @Ne Nat D Bt := hDB
        have z3 : @LT.lt Nat _ D q9 := o91
        refine append_k (its := vs.toArray) (n := z) fA nA (Upd.tail (by k_ne) (Upd.tail (by k_ne) (Upd.head (List.forall_mem_cons.mpr ⟨by k_ne, List.forall_mem_cons.mpr ⟨by k_ne, hoff⟩⟩)))) (by simp; omega) ?_
        intro hA fA' nA'
        clear fA nA
        (try dsimp only)
        refine S_nil ?_
        simp only [List.push_toArray] at nA'
        exact ⟨n, Nat.lt_succ_self n, fin n ⟨left.tail, left.headD 32, sg M :: right, FF⟩ ds vs tl D _ _ _ _ _ _ _ _ _ _ _ fA' nA' hdat hoff hDR hDB (neN (by omega)) rfl (by omega) hok2 hrun2 (lk (by with_unfolding_all rfl) rfl) (lk (by with_unfolding_all rfl) rfl) (lk (by with_unfolding_all rfl) rfl) (lk (by with_unfolding_all rfl) rfl) (by with_unfolding_all rfl) (by with_unfolding_all rfl) (by with_unfolding_all rfl)⟩
      · have es : step r ⟨left, head, right, st⟩ = ⟨sg M :: left, right.headD 32, right.tail, FF⟩ := by
          unfold step
          rw [hx, if_pos (hW.trans hw1), hM, hF]
        rw [es] at hok2 hrun2
        have hlh := hok2
        have hl5 := hok2.2.2.2.2.1
        have hl6 := hok2.2.2.2.2.2
        dsimp only at hlh hl5 hl6
        refine S_consA ?_
        k_with "binaryOp Add str str" => (first | ((with_reducible show wpAny _ _ (binaryOp Operator.Add (Value.str ⟨#[_]⟩ _) (Value.str (Str.ofString ".") _)) _ _ _); refine add_dot ?_; intro t6 k6) | ((with_reducible show wpAny _ _ (binaryOp Operator.Add (Value.str (_ ++ _) _) (Value.str (host _) _)) _ _ _); refine add_host (by omega) ?_; intro t6 k6) | ((with_reducible show wpAny _ _ (binaryOp Operator.Add (Value.str ⟨#[_]⟩ _) (Value.str ⟨List.toArray _⟩ _)) _ _ _); refine add_head (by omega) ?_; intro t6 k6) | ((with_reducible show wpAny _ _ (binaryOp Operator.Add (Value.str ⟨List.toArray _⟩ _) (Value.str ⟨List.toArray _⟩ _)) _ _ _); refine add_tape (by simp; omega) (by simp; omega) ?_; intro t6 k6))
        k_with "subscriptTail Name Constant str int" => (first | (refine sub3t (k := 0) (y := ⟨#[sg M]⟩) rfl (by decide) rfl ?_; intro t5 k5) | (refine sub3t (k := 1) rfl (by decide) (wc1 hw1) ?_; intro t5 k5) | (refine sub3t (k := 2) (y := ⟨#[stC FF]⟩) rfl (by decide) rfl ?_; intro t5 k5))
        k_with "call ref" => (first
          | ((with_reducible show wpAny _ _ (call (Value.ref 70) _) _ _ _); refine con_use0 (parse3 _ _ _ _ _ hm hw hf) (by k_asm) (by k_asm) (by k_asm) (by k_asm) (by k_asm) rfl (by ktr_room) (by ktr_units) ?_; intro r9 h9 tk9 F9 N9 e9; (refine Exists.elim e9 ?_; clear e9; intro t9 e9; subst e9); (try dsimp only); (try k_fold))
          | ((with_reducible show wpAny _ _ (call (Value.ref 122) _) _ _ _); refine con_use (takenH _ _ right hri (by omega)) (by k_asm) (by k_asm) (by k_asm) (by k_asm) (by k_asm) rfl (by ktr_room) (by ktr_units) ?_; intro r9 tl9 h9 tk9 F9 N9 o9 e9; (refine Exists.elim e9 ?_; clear e9; intro q9 e9; refine Exists.elim e9 ?_; clear e9; intro t91 e9; refine Exists.elim e9 ?_; clear e9; intro t92 e9); (have e91 := e9.1); (have e92 := e9.2); clear e9; subst e91; subst e92; (have N9 := perm_last N9); (have o91 := o9 _ (.head _) _ (.head _)); clear o9; (try dsimp only at o91); (try dsimp only); (try k_fold))
          | ((with_reducible show wpAny _ _ (call (Value.ref 129) _) _ _ _); (show wpAny _ _ (call (Value.ref 129) [.str (host (sg M :: left)) _]) _ _ _); refine con_use0 (signsH _ _ (sg M :: left) hlh.1 (by omega)) (by k_asm) (by k_asm) (by k_asm) (by k_asm) (by k_asm) rfl (by ktr_room) (by ktr_units) ?_; intro r9 h9 tk9 F9 N9 e9; (refine Exists.elim e9 ?_; clear e9; intro t9 e9; subst e9); (try dsimp only); (try k_fold))
          | ((with_reducible show wpAny _ _ (call (Value.ref 129) _) _ _ _); (show wpAny _ _ (call (Value.ref 129) [.str (host right.tail) _]) _ _ _); refine con_use0 (signsH _ _ right.tail hlh.2.2.1 (by omega)) (by k_asm) (by k_asm) (by k_asm) (by k_asm) (by k_asm) rfl (by ktr_room) (by ktr_units) ?_; intro r9 h9 tk9 F9 N9 e9; (refine Exists.elim e9 ?_; clear e9; intro t9 e9; subst e9); (try dsimp only); (try k_fold))
          | ((with_reducible show wpAny _ _ (call (Value.ref 38) _) _ _ _); refine con_use0 (c_comment _ _ _ (by show (List.toArray _).size ≤ 100; simp; omega)) (by k_asm) (by k_asm) (by k_asm) (by k_asm) (by k_asm) rfl (by ktr_room) (by ktr_units) ?_; intro r9 h9 tk9 F9 N9 e9; (refine Exists.elim e9 ?_; clear e9; intro t9 e9; subst e9); (try dsimp only); (try k_fold)))
        k_steps
        (try dsimp only)
        refine S_consA ?_
        k_steps
        (try dsimp only)
        refine S_consA ?_
        k_steps
        (try dsimp only)
        refine S_cons (S_Assign (S_BinOp (S_CallName ?_)))
        k_steps
        refine S_withRef (K := Mine.hd.heap_39 w.params) (by k_is) ?_
        k_steps
        refine conNS_use (turnedH _ _ (right.headD 32) (sg M :: left) hlh.2.1 hlh.1 (by omega)) (by k_asm) (by k_asm) (by k_asm) (by k_asm) (by k_asm) rfl (by ktr_room) (by ktr_units) ?_
        intro r9 tl9 h9 tk9 F9 N9 e9
        refine Exists.elim e9 ?_
        clear e9
        intro t9 e9
        subst e9
        have N9 := cb_drop N9 fun p hp => List.mem_append.mpr (.inl hp)
        (try dsimp only)
        (try k_fold)
        k_steps
        (try dsimp only)
        refine S_consA ?_
        k_with "call builtin:list.append" => (rename Fr _ _ _ _ => fA; rename News _ _ _ _ => nA; refine append_k fA nA (by k_upd) (by simp; omega) ?_; intro hA fA' nA'; clear fA nA)
        k_steps
        rename Fr _ _ _ _ => fA
        rename News _ _ _ _ => nA
        have z1 : @Ne Nat D R := hDR
        have z2 : @Ne Nat D Bt := hDB
        have z3 : @LT.lt Nat _ D q9 := o91
        refine append_k (its := vs.toArray) (n := z) fA nA (Upd.tail (by k_ne) (Upd.tail (by k_ne) (Upd.head (List.forall_mem_cons.mpr ⟨by k_ne, List.forall_mem_cons.mpr ⟨by k_ne, hoff⟩⟩)))) (by simp; omega) ?_
        intro hA fA' nA'
        clear fA nA
        (try dsimp only)
        refine S_nil ?_
        simp only [List.push_toArray] at nA'
        exact ⟨n, Nat.lt_succ_self n, fin n ⟨sg M :: left, right.headD 32, right.tail, FF⟩ ds vs tl D _ _ _ _ _ _ _ _ _ _ _ fA' nA' hdat hoff hDR hDB (neN (by omega)) rfl (by omega) hok2 hrun2 (lk (by with_unfolding_all rfl) rfl) (lk (by with_unfolding_all rfl) rfl) (lk (by with_unfolding_all rfl) rfl) (lk (by with_unfolding_all rfl) rfl) (by with_unfolding_all rfl) (by with_unfolding_all rfl) (by with_unfolding_all rfl)⟩
theorem c_run {w : World} {loose : List Str} {mean : ExcName → Option Value} {mg mb : Str → Option Value} (news : List (Addr × Obj)) (r : Rules) (hr : r.Ok) (R Bt : Addr) (zR zB : Nat) (u1 u2 tm : Tok) (a0 a1 a2 a3 : Tok) (bs : List Nat) (vb : List Value) (most : Nat) (hmost : most ≤ 16)
    (hb : (bs = [0] ∧ ∃ t, vb = [.int 0 t]) ∨ ∃ b0 b1 b2 b3 : Nat, bs = [b0, b1, b2, b3] ∧ (b0 < 2 ∧ b1 < 2 ∧ b2 < 2 ∧ b3 < 2) ∧ ∃ t0 t1 t2 t3, vb = [.int (b0 : Int) t0, .int (b1 : Int) t1, .int (b2 : Int) t2, .int (b3 : Int) t3])
    (hmine : ∀ q ∈ [(R, ({ cls := .type "list", data := .seq #[.str (replyT (r.m 0) (r.w 0) (r.f 0)) a0, .str (replyT (r.m 1) (r.w 1) (r.f 1)) a1, .str (replyT (r.m 2) (r.w 2) (r.f 2)) a2, .str (replyT (r.m 3) (r.w 3) (r.f 3)) a3] zR } : Obj)), (Bt, ({ cls := .type "list", data := .seq vb.toArray zB } : Obj))], q ∈ news) :
    ConNS PySem.Challenge.rw_zo0007_01.row.prog w (hd.heap_39 w.params) hd.view_39 loose mean mg mb 139 16 news [.ref R, .ref Bt, .int (most : Int) tm] (fun tl v => DatIn tl v (.list (runs r most ⟨[], sg (bs.headD 0), bs.tail.map sg, 0⟩))) :=
  c_runA news r hr R Bt zR zB u1 u2 tm a0 a1 a2 a3 bs vb most _ _ rfl rfl hmost hb hmine
end Mine
end

section
open PySem PySem.W PyProof.Rows PySem.Calls
namespace Mine
theorem not_dec {p : Prop} {inst : Decidable p} (h : p) : (!@decide p inst) = false := by cases inst with
  | isTrue _ => rfl
  | isFalse n => exact absurd h n
theorem yes_dec {p : Prop} {inst : Decidable p} (h : p) : @decide p inst = true := by cases inst with
  | isTrue _ => rfl
  | isFalse n => exact absurd h n
local macro_rules | `(tactic| walk_at "CompSrc") => `(tactic| k_extra "CompSrc")
local macro_rules | `(tactic| walk_at "binaryOp Pow int int") => `(tactic| k_extra "binaryOp Pow int int")
noncomputable def bitI (d : Int) (i : Nat) : Nat := (d.fmod 16).toNat / 2 ^ i % 2
theorem bitI_lt (d : Int) (i : Nat) : bitI d i < 2 := Nat.mod_lt _ (by decide)
theorem bitI_eq (d : Int) (i : Nat) : ((d.fmod 16).fdiv (2 ^ i)).fmod 2 = ((bitI d i : Nat) : Int) := by
  obtain ⟨k, hk⟩ : ∃ k : Nat, d.fmod 16 = (k : Int) := ⟨(d.fmod 16).toNat, by have := Int.fmod_nonneg_of_pos d (b := 16) (by decide); omega⟩
  unfold bitI
  rw [hk, show ((2 : Int) ^ i) = ((2 ^ i : Nat) : Int) by simp, fdiv_nat, show (2 : Int) = ((2 : Nat) : Int) from rfl, fmod_nat]
  rfl
theorem four_ints {ys : List Value} {f : Nat → Nat} (hl : ys.length = 4) (hy : ∀ (i : Nat) (y : Value), ys[i]? = some y → ∃ t, y = Value.int ((f i : Nat) : Int) t) :
    ∃ t0 t1 t2 t3, ys = [.int ((f 0 : Nat) : Int) t0, .int ((f 1 : Nat) : Int) t1, .int ((f 2 : Nat) : Int) t2, .int ((f 3 : Nat) : Int) t3] := by
  match ys, hl with
  | [a, b, c, d], _ =>
    obtain ⟨t0, rfl⟩ := hy 0 a rfl
    obtain ⟨t1, rfl⟩ := hy 1 b rfl
    obtain ⟨t2, rfl⟩ := hy 2 c rfl
    obtain ⟨t3, rfl⟩ := hy 3 d rfl
    exact ⟨_, _, _, _, rfl⟩
set_option maxRecDepth 100000 in
set_option maxHeartbeats 1000000 in
theorem law_tail {w : World} {loose : List Str} {mean : ExcName → Option Value} {mg mb : Str → Option Value} {params : Arguments} {body : List Stmt} {scope : Scope} (s₁ : Shared) (fa D lp lr D0 D1 D2 D3 : Addr) (cdv : Value) (d0 d1 : Int) (t0 t1 : Tok) (z zR zp : Nat) (x0 y0 z0 : Tok) (q0 : Nat) (x1 y1 z1 : Tok) (q1 : Nat) (x2 y2 z2 : Tok) (q2 : Nat) (x3 y3 z3 : Tok) (q3 : Nat) (p0 p1 p2 p3 : Tok) (r : Rules) (hr : r.Ok) (oP oR o0 o1 o2 o3 : Obj) (hoP : oP = ({ cls := .type "list", data := .seq #[.str (replyT (r.m 0) (r.w 0) (r.f 0)) p0, .str (replyT (r.m 1) (r.w 1) (r.f 1)) p1, .str (replyT (r.m 2) (r.w 2) (r.f 2)) p2, .str (replyT (r.m 3) (r.w 3) (r.f 3)) p3] zp } : Obj)) (hoR : oR = ({ cls := .type "list", data := .seq #[.ref D0, .ref D1, .ref D2, .ref D3] zR } : Obj)) (ho0 : o0 = ({ cls := .type "tuple", data := .seq #[.int ((r.m 0 : Nat) : Int) x0, .int ((r.w 0 : Nat) : Int) y0, .int ((r.f 0 : Nat) : Int) z0] q0 } : Obj)) (ho1 : o1 = ({ cls := .type "tuple", data := .seq #[.int ((r.m 1 : Nat) : Int) x1, .int ((r.w 1 : Nat) : Int) y1, .int ((r.f 1 : Nat) : Int) z1] q1 } : Obj)) (ho2 : o2 = ({ cls := .type "tuple", data := .seq #[.int ((r.m 2 : Nat) : Int) x2, .int ((r.w 2 : Nat) : Int) y2, .int ((r.f 2 : Nat) : Int) z2] q2 } : Obj)) (ho3 : o3 = ({ cls := .type "tuple", data := .seq #[.int ((r.m 3 : Nat) : Int) x3, .int ((r.w 3 : Nat) : Int) y3, .int ((r.f 3 : Nat) : Int) z3] q3 } : Obj)) (h₁ : Heap) (tk₁ : Nat) (m : Str → Option Value) (o : Obj) (Q : Flow → Shared → Prop) (E : Value → Shared → Prop)
    (hdef : PySem.Challenge.rw_zo0007_01.row.prog.theDef (Str.ofString "law") = some (params, body, scope)) :
    Below callerA s₁.heap [] s₁.heap → (hd.heap_39 w.params).In s₁.heap → Top hd.view_39 loose mean mg mb s₁.heap →
    Fr s₁.heap s₁.heap.objs.size h₁ m → m (Str.ofString "replies") = some (.ref lp) → m (Str.ofString "rules") = some (.ref lr) → o.data = .cell (some (.ref D)) →
    News s₁.heap s₁.heap.objs.size h₁ [(lp, oP), (s₁.heap.objs.size + 1, o), (D, listOf #[.int d0 t0, .int d1 t1] z), (lr, oR), (D0, o0), (D1, o1), (D2, o2), (D3, o3)] →
    (∀ h' tk' mm, Fr s₁.heap s₁.heap.objs.size h' mm → Q (.ret (.bool true)) { s₁ with heap := h', toks := tk' }) →
    wpS (model PySem.Challenge.rw_zo0007_01.row.prog w) (callerA.deeper (envOfC (Str.ofString "law") scope s₁.heap.objs.size fa cdv)) (execs (body.drop 6) (envOfC (Str.ofString "law") scope s₁.heap.objs.size fa cdv)) Q E { s₁ with heap := h₁, toks := tk₁ } := by
  w_on
  k_with_none
  k_fill
  have h0 : PySem.Challenge.rw_zo0007_01.row.prog.theDef (Str.ofString "law") = some (_, _, _) := rfl
  rw [h0] at hdef
  cases hdef
  clear h0
  intro B X T F2 g1 g2 dc N0 hQ
  simp only [List.drop_succ_cons, List.drop_zero]
  have F3 := fr_pin F2 [(Str.ofString "replies", .ref lp), (Str.ofString "rules", .ref lr)] (by
    intro p hp
    simp only [List.mem_cons, List.not_mem_nil, or_false] at hp
    rcases hp with rfl | rfl
    · exact g1
    · exact g2)
  simp only [kstB] at F3
  clear F2 g1 g2
  refine S_consA ?_
  refine LCg.Assign_ListComp_U (F₀ := F3) (by rfl) (by with_unfolding_all rfl) (by with_unfolding_all rfl) (by decide) (by rfl) (by decide) (by rfl) (by rfl) (by rfl) ?_
  k_with "CompSrc" => (refine stopM ?_)
  k_steps
  show LCg.CompSrc _ _ _ _ _ _ _ _ _ _ _ _ _ _
  rename Fr _ _ _ _ => fS
  rename News _ _ _ _ => nS
  refine LCg.CompSrc.range (n := 4) (by rfl) fS nS (by assumption) (by rfl) (by rfl) (by unfold sizeLine; decide) ?_
  intro g8
  refine comp_turnsL (S := fun _ => True) trivial (fun i y => ∃ t', y = .int ((bitI d1 i : Nat) : Int) t') ?turn ?fin
  case turn =>
    rintro i v I oI C' oC DD m₂ ys hh tk' E' hi ⟨tv, rfl⟩ hC' hx F9 N9 off ne
    k_with "binaryOp Pow int int" => (with_reducible refine pow_int_small (by decide) (by decide) (by decide) ?_)
    obtain rfl | rfl | rfl | rfl : i = 0 ∨ i = 1 ∨ i = 2 ∨ i = 3 := by omega
    · replace hx : m₂ (Str.ofString "k") = some (.int 0 tv) := hx
      k_steps
      exact LCg.CompEnd.intro F9 N9 _ (fun p hp => hp) off trivial ⟨rfl, _, congrArg (fun x => Value.int x _) (bitI_eq d1 0)⟩
    · replace hx : m₂ (Str.ofString "k") = some (.int 1 tv) := hx
      k_steps
      exact LCg.CompEnd.intro F9 N9 _ (fun p hp => hp) off trivial ⟨rfl, _, congrArg (fun x => Value.int x _) (bitI_eq d1 1)⟩
    · replace hx : m₂ (Str.ofString "k") = some (.int 2 tv) := hx
      k_steps
      exact LCg.CompEnd.intro F9 N9 _ (fun p hp => hp) off trivial ⟨rfl, _, congrArg (fun x => Value.int x _) (bitI_eq d1 2)⟩
    · replace hx : m₂ (Str.ofString "k") = some (.int 3 tv) := hx
      k_steps
      exact LCg.CompEnd.intro F9 N9 _ (fun p hp => hp) off trivial ⟨rfl, _, congrArg (fun x => Value.int x _) (bitI_eq d1 3)⟩
  case fin =>
    intro ys hl hy D7 h7 tk7 F7 N7 off7
    obtain ⟨u0, u1, u2, u3, rfl⟩ := four_ints hl hy
    clear hl hy
    dsimp only
    replace N7 : News _ _ _ ((D7, listOf (List.toArray [.int ((bitI d1 0 : Nat) : Int) u0, .int ((bitI d1 1 : Nat) : Int) u1, .int ((bitI d1 2 : Nat) : Int) u2, .int ((bitI d1 3 : Nat) : Int) u3]) 4) :: _) := N7
    simp only [] at F7
    k_with "call ref" => (refine stopM ?_)
    refine S_cons (S_Return (S_Compare1 (S_CallName ?_)))
    k_steps
    refine S_withRef (K := Mine.hd.heap_39 w.params) (by k_is) ?_
    k_steps
    refine conNS_use (c_runA _ r hr lp D7 zp 4 0 0 _ p0 p1 p2 p3 [bitI d1 0, bitI d1 1, bitI d1 2, bitI d1 3] [.int ((bitI d1 0 : Nat) : Int) u0, .int ((bitI d1 1 : Nat) : Int) u1, .int ((bitI d1 2 : Nat) : Int) u2, .int ((bitI d1 3 : Nat) : Int) u3] 8 oP _ hoP rfl (by decide) (.inr ⟨_, _, _, _, rfl, ⟨bitI_lt _ _, bitI_lt _ _, bitI_lt _ _, bitI_lt _ _⟩, u0, u1, u2, u3, rfl⟩) (List.forall_mem_cons.mpr ⟨.tail _ (.head _), List.forall_mem_cons.mpr ⟨.head _, List.forall_mem_nil _⟩⟩)) (by k_asm) (by k_asm) (by k_asm) (by k_asm) (by k_asm) rfl (by ktr_room) (by ktr_units) ?_
    intro r9 tl9 h9 tk9 F9 N9 o9
    obtain ⟨ll, vl, zl, rfl, ml, dl⟩ := list_inv o9
    replace N9 := kst_newsOf N9 (List.forall_mem_cons.mpr ⟨List.mem_append.mpr (.inr ml), fun q hq => hq⟩)
    clear o9 ml
    change DatAll tl9 vl (runs r 8 (cfg0 [bitI d1 0, bitI d1 1, bitI d1 2, bitI d1 3])) at dl
    simp only [List.cons_append, List.nil_append] at N9
    k_steps
    show wpAny _ _ _ _ _ _
    rename Fr _ _ _ _ => F8
    rename News _ _ _ _ => N8
    have h24 : ∀ b ∈ [bitI d1 0, bitI d1 1, bitI d1 2, bitI d1 3], b < 2 := by
      intro b hb
      simp only [List.mem_cons, List.not_mem_nil, or_false] at hb
      rcases hb with rfl | rfl | rfl | rfl <;> exact bitI_lt _ _
    refine conN_use (c_plainA _ r hr lr D7 D0 D1 D2 D3 zR 4 x0 y0 z0 q0 x1 y1 z1 q1 x2 y2 z2 q2 x3 y3 z3 q3 [bitI d1 0, bitI d1 1, bitI d1 2, bitI d1 3] [.int ((bitI d1 0 : Nat) : Int) u0, .int ((bitI d1 1 : Nat) : Int) u1, .int ((bitI d1 2 : Nat) : Int) u2, .int ((bitI d1 3 : Nat) : Int) u3] oR o0 o1 o2 o3 _ hoR ho0 ho1 ho2 ho3 rfl (.inr ⟨_, _, _, _, rfl, ⟨bitI_lt _ _, bitI_lt _ _, bitI_lt _ _, bitI_lt _ _⟩, u0, u1, u2, u3, rfl⟩) (List.forall_mem_cons.mpr ⟨by k_mem, List.forall_mem_cons.mpr ⟨by k_mem, List.forall_mem_cons.mpr ⟨by k_mem, List.forall_mem_cons.mpr ⟨by k_mem, List.forall_mem_cons.mpr ⟨by k_mem, List.forall_mem_cons.mpr ⟨.tail _ (.head _), List.forall_mem_nil _⟩⟩⟩⟩⟩⟩)) B F8 X N8 T rfl (by ktr_room) (by ktr_units) ?_
    intro r9 tl8 h9 tk9 F9 N9 o9
    obtain ⟨lq, vq, zq, rfl, mq, dq⟩ := list_inv o9
    replace N9 := kst_newsOf N9 (List.forall_mem_cons.mpr ⟨List.mem_append.mpr (.inr mq), fun q hq => hq⟩)
    clear o9 mq F8 N8
    change DatAll tl8 vq (pruns r 8 (ps0 [bitI d1 0, bitI d1 1, bitI d1 2, bitI d1 3])) at dq
    simp only [List.cons_append] at N9
    have e1 : runs r 8 (cfg0 [bitI d1 0, bitI d1 1, bitI d1 2, bitI d1 3]) = pruns r 8 (ps0 [bitI d1 0, bitI d1 1, bitI d1 2, bitI d1 3]) := law_runs hr _ (by simp) h24
    have ok0 : ∀ d ∈ runs r 8 (cfg0 [bitI d1 0, bitI d1 1, bitI d1 2, bitI d1 3]), kqdOk 8 d = true := runs_ok hr 8 _ 4 (c0_ok _ (by simp))
    dsimp only
    refine kqd_eq N9 (by k_mem) rfl rfl dl (fun p hp => by simp [hp]) (by k_mem) rfl rfl dq (fun p hp => by simp [hp]) ok0 (e1 ▸ ok0) (by ke_room) ?_
    rw [yes_dec e1]
    exact hQ _ _ _ F9
end Mine
end

section
open PySem PySem.W PyProof.Rows PySem.Calls
namespace Mine
section
variable {prog : Program} {w : World} {A : Around} {E : Value → Shared → Prop} {s : Shared} {h₀ : Heap} {L : Addr} {m : Str → Option Value} {news : List (Addr × Obj)} {value slice : PySem.Expr} {l : Addr} {vs : List Value} {Q : Value → Shared → Prop}
theorem sl_up {k : Int} {t : Tok} {a : Nat} (F : Fr h₀ L s.heap m) (N : News h₀ L s.heap news) (hm : s.heap.IsList l vs.toArray) (hk : k = (a : Int)) (hz : vs.length ≤ 100)
    (h : ∀ D' h', (∀ q ∈ news, q.1 < D') → Fr h₀ L h' m → News h₀ L h' ((D', listOf (vs.take a).toArray 0) :: news) → Q (.ref D') { s with heap := h' })
    (hs : subscripted slice false (.ref l) (.ref s.heap.objs.size) = operate [.ref s.heap.objs.size, .ref l] (getItem (.ref l) (.ref s.heap.objs.size)) := by with_unfolding_all rfl)
    (ht : ∀ r, letTemporaryGo value (.ref l) r = pure () := by intro _; with_unfolding_all rfl) :
    wpAny (model prog w) A (subscriptTail value slice (.ref l) (.ref s.heap.objs.size)) Q E { s with heap := s.heap.push { cls := .type "slice", data := .fields #[.none, .int k t, .none] } } := by
  subst hk
  refine slice_list F N hm .none (.int _ _) (fun h' F' N' => ?_) hs ht (by simpa using fits100 hz)
  rw [slicePick_upto'] at N'
  exact h _ h' (fun q hq => Nat.lt_succ_of_lt (Heap.lt_size (N q hq).1)) F' N'
theorem len_own {z : Nat} (N : News h₀ L s.heap news) (hm : (l, listOf vs.toArray z) ∈ news) (hz : vs.length ≤ 100) (h : ∀ t k, Q (.int (vs.length : Int) t) { s with toks := k }) : wpAny (model prog w) A (call (.builtin "len") [.ref l]) Q E s :=
  call_len_list ⟨_, (N _ hm).1, rfl, z, rfl⟩ (by simp; omega) (h _ _)
end
theorem drawn_two {vals : List Value} {ns : List Int} (hI : IntsAre vals ns) (u v : Tok) : ∃ d0 d1 t0 t1, vals.take 2 ++ List.drop ns.length [Value.int (Int.ofNat 19219) u, Value.int (Int.ofNat 11) v] = [.int d0 t0, .int d1 t1] := by
  cases hI with
  | nil => exact ⟨_, _, _, _, rfl⟩
  | cons i t h =>
    cases h with
    | nil => exact ⟨_, _, _, _, rfl⟩
    | cons j u h => exact ⟨i, j, t, u, by simp [List.take]⟩
theorem fmod_nat2 (d : Int) : ∃ n : Nat, d.fmod 20736 = (n : Int) ∧ n < 20736 := by
  have h1 : 0 ≤ d.fmod 20736 := Int.fmod_nonneg_of_pos _ (by decide)
  have h2 : d.fmod 20736 < 20736 := Int.fmod_lt_of_pos _ (by decide)
  exact ⟨(d.fmod 20736).toNat, by omega, by omega⟩
local macro_rules | `(tactic| walk_at "subscriptTail Name Slice ref ref") => `(tactic| k_extra "subscriptTail Name Slice ref ref")
local macro_rules | `(tactic| walk_at "compareOp NotEq ref ref") => `(tactic| k_extra "compareOp NotEq ref ref")
local macro_rules | `(tactic| walk_at "binaryOp Add ref ref") => `(tactic| k_extra "binaryOp Add ref ref")
set_option maxRecDepth 100000 in
set_option maxHeartbeats 4000000 in
theorem law_body {w : World} {loose : List Str} {mean : ExcName → Option Value} {mg mb : Str → Option Value} {params : Arguments} {body : List Stmt} {scope : Scope} (s₁ : Shared) (fa a0 : Addr) (cdv : Value) (h₁ : Heap) (tk₁ : Nat) (vals : List Value) (ns : List Int) (m : Str → Option Value) (oc : Obj) (Q : Flow → Shared → Prop) (E : Value → Shared → Prop)
    (hdef : PySem.Challenge.rw_zo0007_01.row.prog.theDef (Str.ofString "law") = some (params, body, scope)) :
    Below callerA s₁.heap [] s₁.heap → (hd.heap_39 w.params).In s₁.heap → Top hd.view_39 loose mean mg mb s₁.heap → s₁.heap.IsList a0 vals.toArray → IntsAre vals ns → ns.length ≤ 63 →
    Fr s₁.heap s₁.heap.objs.size h₁ m → m (Str.ofString "script") = some (.ref a0) → oc.data = .cell none → News s₁.heap s₁.heap.objs.size h₁ [(s₁.heap.objs.size + 1, oc)] →
    (∀ h' tk' mm, Fr s₁.heap s₁.heap.objs.size h' mm → Q (.ret (.bool true)) { s₁ with heap := h', toks := tk' }) →
    wpS (model PySem.Challenge.rw_zo0007_01.row.prog w) (callerA.deeper (envOfC (Str.ofString "law") scope s₁.heap.objs.size fa cdv)) (execs body (envOfC (Str.ofString "law") scope s₁.heap.objs.size fa cdv)) Q E { s₁ with heap := h₁, toks := tk₁ } := by
  w_on
  k_with_none
  k_fill
  have h0 : PySem.Challenge.rw_zo0007_01.row.prog.theDef (Str.ofString "law") = some (_, _, _) := rfl
  have hdef0 := hdef
  rw [h0] at hdef
  cases hdef
  clear h0
  intro B X T hL hI hlen F hm dc N0 hQ
  have F0 := fr_pin F [(Str.ofString "script", .ref a0)] (by
      intro p hp
      simp only [List.mem_cons, List.not_mem_nil, or_false] at hp
      rcases hp with rfl
      exact hm)
  simp only [kstB] at F0
  clear F hm
  refine S_cut 1 (fun (_ : Unit) s' => ∃ (d0 d1 : Int) (t0 t1 : Tok) (D : Addr) (z : Nat) (o : Obj) (h : Heap) (tk : Nat) (mm : Str → Option Value), s' = { s₁ with heap := h, toks := tk } ∧ Fr s₁.heap s₁.heap.objs.size h mm ∧ o.data = .cell (some (.ref D)) ∧
    News s₁.heap s₁.heap.objs.size h [(s₁.heap.objs.size + 1, o), (D, listOf #[.int d0 t0, .int d1 t1] z)] ∧ @LT.lt Nat _ (s₁.heap.objs.size + 1) D) ?loop ?init
  case init =>
    simp only [List.take_succ_cons, List.take_zero]
    have hsz : vals.length ≤ 100 := by rw [hI.length]; omega
    k_with "subscriptTail Name Slice ref ref" => (rename Fr _ _ _ _ => fS; rename News _ _ _ _ => nS; first
      | k_dflt ((refine sl_up (s := ⟨_, _, _, _, _⟩) (vs := vals) (a := 2) fS nS (fS.lst hL) rfl hsz ?_); intro D9 h9 l9 F9 N9; (have lD9 : @LT.lt Nat _ (s₁.heap.objs.size + 1) D9 := l9 (s₁.heap.objs.size + 1, oc) (.head _)); clear fS nS l9)
      | k_dflt ((refine slice_fr (s := ⟨_, _, _, _, _⟩) (vs := [_, _]) (a := ns.length) fS nS (by k_mem) (by first | rfl | omega) (by simp) ?_); intro D9 h9 l9 F9 N9; (have lD9 : @LT.lt Nat _ (s₁.heap.objs.size + 1) D9 := l9 (s₁.heap.objs.size + 1, oc) (by k_mem)); clear fS nS l9)
      | fail "no slice")
    k_with "binaryOp Add ref ref" => (rename Fr _ _ _ _ => fS; rename News _ _ _ _ => nS; k_dflt ((refine add_own fS nS (by k_mem) (by k_mem) (by simp; omega) ?_); intro D8 h8 l8 F8 N8; (have lD8 : @LT.lt Nat _ (s₁.heap.objs.size + 1) D8 := l8 (s₁.heap.objs.size + 1, oc) (by k_mem)); clear fS nS l8))
    k_steps
    rename Fr _ _ _ _ => fS; rename News _ _ _ _ => nS
    obtain ⟨d0, d1, t0, t1, hv⟩ := drawn_two hI (tk₁ + 1) (tk₁ + 1 + 1)
    have nS : News _ _ _ ((_, W.listOf (vals.take 2 ++ List.drop ns.length [Value.int (Int.ofNat 19219) (tk₁ + 1), Value.int (Int.ofNat 11) (tk₁ + 1 + 1)]).toArray 0) :: _) := nS
    rw [hv] at nS
    rename Obj.data _ = Data.cell (some (Value.ref _)) => dO
    refine ⟨rfl, (), d0, d1, t0, t1, _, 0, _, _, _, _, rfl, fS, dO, kst_newsOf nS ?n, ?l⟩
    case l => with_reducible assumption
    case n =>
      intro q hq
      rcases List.mem_cons.mp hq with rfl | hq
      · k_mem
      · rw [List.mem_singleton.mp hq]; k_mem
  case loop =>
    clear hL hI hlen F0 dc N0
    clear oc tk₁ h₁ vals ns
    rintro x s' ⟨d0, d1, t0, t1, D, z, o, h, tk, mm, rfl, F0, dc, N0, lD⟩
    simp only [List.drop_succ_cons, List.drop_zero]
    k_with "call ref" => (refine stopM ?_)
    refine S_consA ?_
    k_steps
    unfold StopM
    obtain ⟨n, hn, hn2⟩ := fmod_nat2 d0
    rw [show (([d0, d1] : List Int).getD (0 : Int).toNat 0).fmod 20736 = (n : Int) from hn]
    refine conN_use (c_rules _ n _ hn2) (by k_asm) (by k_asm) (by k_asm) (by k_asm) (by k_asm) rfl (by ktr_room) (by ktr_units) ?_
    rintro r9 tl h9 tk9 F9 N9 ⟨lr, rfl, o9⟩
    clear F0 N0
    obtain ⟨l, D0, D1, D2, D3, zR, x0, y0, z0, q0, x1, y1, z1, q1, x2, y2, z2, q2, x3, y3, z3, q3, e9, m9, m0, m1, m2, m3⟩ := rules_inv o9
    cases e9
    have hr : (rulesOf n).Ok := rulesOf_ok n
    generalize rulesOf n = r at *
    replace N9 := kst_newsOf N9 (List.forall_mem_cons.mpr ⟨List.mem_append.mpr (.inl (.head _)), List.forall_mem_cons.mpr ⟨List.mem_append.mpr (.inl (.tail _ (.head _))), List.forall_mem_cons.mpr ⟨List.mem_append.mpr (.inr m9), List.forall_mem_cons.mpr ⟨List.mem_append.mpr (.inr m0), List.forall_mem_cons.mpr ⟨List.mem_append.mpr (.inr m1), List.forall_mem_cons.mpr ⟨List.mem_append.mpr (.inr m2), List.forall_mem_cons.mpr ⟨List.mem_append.mpr (.inr m3), List.forall_mem_nil _⟩⟩⟩⟩⟩⟩⟩)
    clear o9 m9 m0 m1 m2 m3 hn hn2
    k_steps
    refine S_consA ?_
    k_steps
    unfold StopM
    refine conN_use (c_replies _ lr D0 D1 D2 D3 zR 0 (r.m 0) (r.w 0) (r.f 0) _ _ _ _ (hr 0).1 (hr 0).2.1 (hr 0).2.2 (r.m 1) (r.w 1) (r.f 1) _ _ _ _ (hr 1).1 (hr 1).2.1 (hr 1).2.2 (r.m 2) (r.w 2) (r.f 2) _ _ _ _ (hr 2).1 (hr 2).2.1 (hr 2).2.2 (r.m 3) (r.w 3) (r.f 3) _ _ _ _ (hr 3).1 (hr 3).2.1 (hr 3).2.2 (fun q hq => .tail _ (.tail _ hq))) (by k_asm) (by k_asm) (by k_asm) (by k_asm) (by k_asm) rfl (by ktr_room) (by ktr_units) ?_
    rintro r9 tl9 h9 tk9 F9 N9 ⟨lp, rfl, o9⟩
    obtain ⟨lq, zp, p0, p1, p2, p3, e9, m9⟩ := strs4_inv o9
    cases e9
    replace N9 := kst_newsOf N9 (List.forall_mem_cons.mpr ⟨List.mem_append.mpr (.inr m9), fun q hq => List.mem_append.mpr (.inl hq)⟩)
    clear o9 m9
    generalize hoP : ({ cls := .type "list", data := .seq #[.str (replyT (r.m 0) (r.w 0) (r.f 0)) p0, .str (replyT (r.m 1) (r.w 1) (r.f 1)) p1, .str (replyT (r.m 2) (r.w 2) (r.f 2)) p2, .str (replyT (r.m 3) (r.w 3) (r.f 3)) p3] zp } : Obj) = oP at N9
    generalize hoR : ({ cls := .type "list", data := .seq #[.ref D0, .ref D1, .ref D2, .ref D3] zR } : Obj) = oR at N9
    generalize ho0 : ({ cls := .type "tuple", data := .seq #[.int ((r.m 0 : Nat) : Int) x0, .int ((r.w 0 : Nat) : Int) y0, .int ((r.f 0 : Nat) : Int) z0] q0 } : Obj) = o0 at N9
    generalize ho1 : ({ cls := .type "tuple", data := .seq #[.int ((r.m 1 : Nat) : Int) x1, .int ((r.w 1 : Nat) : Int) y1, .int ((r.f 1 : Nat) : Int) z1] q1 } : Obj) = o1 at N9
    generalize ho2 : ({ cls := .type "tuple", data := .seq #[.int ((r.m 2 : Nat) : Int) x2, .int ((r.w 2 : Nat) : Int) y2, .int ((r.f 2 : Nat) : Int) z2] q2 } : Obj) = o2 at N9
    generalize ho3 : ({ cls := .type "tuple", data := .seq #[.int ((r.m 3 : Nat) : Int) x3, .int ((r.w 3 : Nat) : Int) y3, .int ((r.f 3 : Nat) : Int) z3] q3 } : Obj) = o3 at N9
    k_steps
    refine S_cons (S_Assign (S_CallName ?_))
    k_steps
    refine S_withRef (K := Mine.hd.heap_39 w.params) (by k_is) ?_
    k_steps
    refine conNS_use (c_runA _ r hr lp _ zp 0 0 0 _ p0 p1 p2 p3 [0] _ 16 oP _ hoP.symm rfl (by decide) (.inl ⟨rfl, _, rfl⟩) (List.forall_mem_cons.mpr ⟨.tail _ (.head _), List.forall_mem_cons.mpr ⟨.head _, List.forall_mem_nil _⟩⟩)) (by k_asm) (by k_asm) (by k_asm) (by k_asm) (by k_asm) rfl (by ktr_room) (by ktr_units) ?_
    intro r9 tl9 h9 tk9 F9 N9 o9
    obtain ⟨ll, vl, zl, rfl, ml, dl⟩ := list_inv o9
    replace N9 := kst_newsOf N9 (List.forall_mem_cons.mpr ⟨List.mem_append.mpr (.inr ml), fun q hq => hq⟩)
    clear o9 ml
    change DatAll tl9 vl (runs r 16 (cfg0 [0])) at dl
    simp only [List.cons_append] at N9
    have hvl : vl.length ≤ 16 := by rw [dl.length]; exact runs_len r 16 _
    k_steps
    refine S_consA ?_
    k_with_none
    k_with "call ref" => (refine stopM ?_)
    k_with "compareOp NotEq ref ref" => (refine stopM ?_)
    k_with "subscriptTail Name Slice ref ref" => (rename Fr _ _ _ _ => fS; rename News _ _ _ _ => nS; k_dflt ((refine slice_up (s := ⟨_, _, _, _, _⟩) (vs := vl) (a := 8) fS nS (by k_mem) rfl (by omega) ?_); intro DS hS lS FS NS; clear fS nS lS))
    k_steps
    unfold StopM
    rename Fr _ _ _ _ => F8
    rename News _ _ _ _ => N8
    refine conN_use (c_plainA _ r hr lr _ D0 D1 D2 D3 zR 0 x0 y0 z0 q0 x1 y1 z1 q1 x2 y2 z2 q2 x3 y3 z3 q3 [0] _ oR o0 o1 o2 o3 _ hoR.symm ho0.symm ho1.symm ho2.symm ho3.symm rfl (.inl ⟨rfl, _, rfl⟩) (List.forall_mem_cons.mpr ⟨by k_mem, List.forall_mem_cons.mpr ⟨by k_mem, List.forall_mem_cons.mpr ⟨by k_mem, List.forall_mem_cons.mpr ⟨by k_mem, List.forall_mem_cons.mpr ⟨by k_mem, List.forall_mem_cons.mpr ⟨.head _, List.forall_mem_nil _⟩⟩⟩⟩⟩⟩)) B F8 X N8 T rfl (by ktr_room) (by ktr_units) ?_
    intro r9 tl8 h9 tk9 F9 N9 o9
    obtain ⟨lq, vq, zq, rfl, mq, dq⟩ := list_inv o9
    replace N9 := kst_newsOf N9 (List.forall_mem_cons.mpr ⟨List.mem_append.mpr (.inr mq), fun q hq => hq⟩)
    clear o9 mq F8 N8
    change DatAll tl8 vq (pruns r 8 (ps0 [0])) at dq
    simp only [List.cons_append] at N9
    have e1 : (runs r 16 (cfg0 [0])).take 8 = pruns r 8 (ps0 [0]) := by
      rw [runs_take r 8 8, law_runs hr [0] (by decide) (by decide)]
    have ok0 : ∀ d ∈ runs r 16 (cfg0 [0]), kqdOk 8 d = true := runs_ok hr 16 _ 0 ⟨(fun _ h => nomatch h), .inl rfl, (fun _ h => nomatch h), by decide, by decide, by decide⟩
    have ok1 : ∀ d ∈ (runs r 16 (cfg0 [0])).take 8, kqdOk 8 d = true := fun d hd => ok0 d (List.mem_of_mem_take hd)
    dsimp only
    refine kqd_ne N9 (by k_mem) rfl rfl (datAll_take dl 8) (fun p hp => by simp [hp]) (by k_mem) rfl rfl dq (fun p hp => by simp [hp]) ok1 (e1 ▸ ok1) (by ke_room) ?_
    rw [not_dec e1]
    k_steps
    dsimp only
    refine S_cut 1 (fun (_ : Unit) s' => ∃ (h : Heap) (tk : Nat) (mm : Str → Option Value), s' = { s₁ with heap := h, toks := tk } ∧ Fr s₁.heap s₁.heap.objs.size h mm ∧ mm (Str.ofString "replies") = some (.ref lp) ∧ mm (Str.ofString "rules") = some (.ref lr) ∧
      News s₁.heap s₁.heap.objs.size h [(lp, oP), (s₁.heap.objs.size + 1, o), (D, listOf #[.int d0 t0, .int d1 t1] z), (lr, oR), (D0, o0), (D1, o1), (D2, o2), (D3, o3)]) ?loop2 ?init2
    case init2 =>
      simp only [List.take_succ_cons, List.take_zero]
      k_with "subscriptTail Name UnaryOp ref int" => (refine stopM ?_)
      k_with "call builtin:len" => (rename News _ _ _ _ => nS; refine len_own nS (vs := vl) (by k_mem) (by omega) ?_; intro t9 k9)
      k_steps
      · show wpAny _ _ _ _ _ _
        have hlen : 6 < vl.length := by omega
        obtain ⟨xl, k, hk, hx⟩ := last_law hr (by rw [← dl.length]; exact hlen)
        rw [← dl.length] at hx
        obtain ⟨v, hv, dv⟩ := datAll_get dl hx
        obtain ⟨T', tt, uu, qq, rfl, mT⟩ := tup2_inv dv
        rename News _ _ _ _ => nS
        replace nS : News _ _ _ ((T', ({ cls := .type "tuple", data := .seq #[.str xl tt, .str ⟨#[stC k]⟩ uu] qq } : Obj)) :: _) := List.forall_mem_cons.mpr ⟨nS (T', ({ cls := .type "tuple", data := .seq #[.str xl tt, .str ⟨#[stC k]⟩ uu] qq } : Obj)) (by simp [mT]), nS⟩
        refine kde_neg (j := vl.length - 1) ⟨_, (nS (ll, listOf vl.toArray zl) (by k_mem)).1, rfl, _, rfl⟩ (by decide) (by decide) (by unfold seqIndex?; simp; omega) hv ?_
        obtain rfl | rfl : k = 0 ∨ k = 1 := by omega
        · rw [show (⟨#[stC 0]⟩ : Str) = Str.ofString "A" by decide +kernel] at nS
          k_steps
          rename Fr _ _ _ _ => fS
          rename News _ _ _ _ => nS
          refine ⟨rfl, (), _, _, _, rfl, fS, by with_unfolding_all rfl, by with_unfolding_all rfl, kst_newsOf nS ?_⟩
          intro q hq
          simp only [List.mem_cons, List.not_mem_nil, or_false] at hq
          rcases hq with rfl | rfl | rfl | rfl | rfl | rfl | rfl | rfl <;> k_mem
        · rw [show (⟨#[stC 1]⟩ : Str) = Str.ofString "B" by decide +kernel] at nS
          k_steps
          rename Fr _ _ _ _ => fS
          rename News _ _ _ _ => nS
          refine ⟨rfl, (), _, _, _, rfl, fS, by with_unfolding_all rfl, by with_unfolding_all rfl, kst_newsOf nS ?_⟩
          intro q hq
          simp only [List.mem_cons, List.not_mem_nil, or_false] at hq
          rcases hq with rfl | rfl | rfl | rfl | rfl | rfl | rfl | rfl <;> k_mem
      · rename Fr _ _ _ _ => fS
        rename News _ _ _ _ => nS
        refine ⟨rfl, (), _, _, _, rfl, fS, by with_unfolding_all rfl, by with_unfolding_all rfl, kst_newsOf nS ?_⟩
        intro q hq
        simp only [List.mem_cons, List.not_mem_nil, or_false] at hq
        rcases hq with rfl | rfl | rfl | rfl | rfl | rfl | rfl | rfl <;> k_mem
    case loop2 =>
      clear F9 N9 dl dq hvl e1 ok0 ok1
      rintro xu s2 ⟨h2, tk2, mm2, rfl, F2, g1, g2, N2⟩
      exact law_tail (w := w) s₁ fa D lp lr D0 D1 D2 D3 cdv d0 d1 t0 t1 z zR zp x0 y0 z0 q0 x1 y1 z1 q1 x2 y2 z2 q2 x3 y3 z3 q3 p0 p1 p2 p3 r hr oP oR o0 o1 o2 o3 hoP.symm hoR.symm ho0.symm ho1.symm ho2.symm ho3.symm h2 tk2 mm2 o Q E hdef0 B X T F2 g1 g2 dc N2 hQ
end Mine
end

section
open PySem PySem.W PyProof.Rows PySem.Calls
namespace Mine
set_option maxRecDepth 100000 in
set_option maxHeartbeats 8000000 in
theorem hdS : PySem.Challenge.rw_zo0007_01.Holds := by
  w_on
  k_with_none
  refine hd ?_
  k_fill
  intro w s₀ s₁ mg mb G Y fa o pm cd doc dV kV ho hd hcd hD hmg hg args vals as hpre hlay hrd hwl hlo
  have KX := kIn_of Y
  refine Ground.open G ?_
  intro T B D TE TW
  obtain ⟨_, _, M⟩ := bmod_of_top T
  try (obtain ⟨_, _, he, B0⟩ := based_of_top T rfl hmg ho hd; have he' : cd = _ := he; subst he'; clear he)
  clear hmg
  wrow_args hpre hlay hrd hwl hlo
  have KX2 : (Mine.hd.heap_39 w.params).In s₁.heap := KX
  refine enter_callS ?_
  w_top on
  refine codeS_mono ?_ (fun _ _ g => GoodW.toG g)
  have he := Dflts.none hD rfl
  subst he
  have he := Dflts.noKw hD
  subst he
  refine codeS_cells (by decide) ho (fd_plain hd) (Top.nolimit T) hcd rfl (kinds_of (by kinds_ok)) (by decide) rfl rfl rfl fun h₁ tk₁ cells F N0 X0 => ?_
  obtain ⟨oc, he, hdc⟩ := CellsAre.one X0
  subst he
  clear X0
  refine law_body s₁ fa _ _ h₁ tk₁ _ _ _ oc _ _ rfl (below_caller _) KX2 T (by assumption) (by assumption) ?len F ?sc ?dc N0 ?fin
  case len => omega
  case sc => with_unfolding_all rfl
  case dc => exact hdc
  case fin =>
    intro h' tk' mm F'
    wrow_close
end Mine
end
theorem PySem.Challenge.cw_zo0007_01_holds : PySem.Challenge.rw_zo0007_01.Holds := by
  exact Mine.hdS
