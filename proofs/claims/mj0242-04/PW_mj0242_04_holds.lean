import PyProof.Rows.All
import Wide.All
import OpenK.AllK
import Wide.FinOn
import PySem.Challenge.RW_mj0242_04
open PySem PySem.W PyProof.Rows
set_option Elab.async false
set_option maxRecDepth 100000
set_option maxHeartbeats 8000000
namespace Mine
open_top hd for PySem.Challenge.rw_mj0242_04
end Mine
open PySem.Calls PySem.Spec
namespace Mine
noncomputable abbrev PG := PySem.Challenge.rw_mj0242_04.prog
noncomputable abbrev LS : List Str := looseW hd.view_39 [Str.ofString "UnsupportedOperation", Str.ofString "IOBase", Str.ofString "BufferedIOBase",
      Str.ofString "TextIOBase", Str.ofString "BytesIO", Str.ofString "StringIO", Str.ofString "shlex",
      Str.ofString "split"]
abbrev Led := List (Addr × Obj)
/-- what a call of the def at `f` gives back: from any frame, with any ledger -/
def Ctr (w : World) (mean : ExcName → Option Value) (mg mb : Str → Option Value) (f : Addr) (vs : List Value) (news : Led) (D U : Nat) (Post : Value → Led → Prop) : Prop :=
  ∀ (dp un : Nat) (gd : Option (List Code)) (cn : Str) (cs : Scope) (a : Addr) (ccd : Value) (cl : List (Str × Addr)) (outer : List Env) (A₀ : Around) (base h₀ : Heap) (L : Addr) (m : Str → Option Value) (s : Shared) (Q E : Value → Shared → Prop),
    Below A₀ base outer h₀ → Fr h₀ L s.heap m → (hd.heap_39 w.params).In h₀ → News h₀ L s.heap news → Top hd.view_39 LS mean mg mb h₀ → cs.kind = .function →
    dp + D < recursionLimit → un + U < cLine →
    (∀ v h' tk' news', Fr h₀ L h' m → News h₀ L h' news' → Post v news' → Q v { s with heap := h', toks := tk' }) →
      wpAny (model PG w) (ktrTop dp un gd cn cs L a ccd cl outer) (call (.ref f) vs) Q E s
theorem prog_here : PySem.Challenge.rw_mj0242_04.prog = PySem.Challenge.rw_mj0242_04.prog := rfl
structure Hold (P : Prop) : Prop where
  out : P
/-- a call that may raise a built-in exception of one argument -/
def CtrE (w : World) (mean : ExcName → Option Value) (mg mb : Str → Option Value) (f : Addr) (vs : List Value) (news : Led) (D U : Nat) (Post : Value → Led → Prop) (PostE : String → List Value → Led → Prop) : Prop :=
  ∀ (dp un : Nat) (gd : Option (List Code)) (cn : Str) (cs : Scope) (a : Addr) (ccd : Value) (cl : List (Str × Addr)) (outer : List Env) (A₀ : Around) (base h₀ : Heap) (L : Addr) (m : Str → Option Value) (s : Shared) (Q E : Value → Shared → Prop),
    Below A₀ base outer h₀ → Fr h₀ L s.heap m → (hd.heap_39 w.params).In h₀ → News h₀ L s.heap news → Top hd.view_39 LS mean mg mb h₀ → cs.kind = .function →
    dp + D < recursionLimit → un + U < cLine →
    (∀ v h' tk' news', Fr h₀ L h' m → News h₀ L h' news' → Post v news' → Q v { s with heap := h', toks := tk' }) →
    (∀ e t cls vs h' tk' news' g, RaisedS base g (envX cn cs L a ccd cl :: outer) e (.type cls) t vs news' h' → Fr h₀ L g m → g.UpToSlots h' → PostE cls vs news' → E (.ref e) { s with heap := h', toks := tk' }) →
      wpAny (model PG w) (ktrTop dp un gd cn cs L a ccd cl outer) (call (.ref f) vs) Q E s
section
variable {w : World} {mean : ExcName → Option Value} {mg mb : Str → Option Value} {f : Addr} {vs : List Value} {news : Led} {D U : Nat} {Post : Value → Led → Prop} {PostE : String → List Value → Led → Prop}
  {dp un : Nat} {gd : Option (List Code)} {cn : Str} {cs : Scope} {a : Addr} {ccd : Value} {cl : List (Str × Addr)} {outer : List Env} {A₀ : Around} {base h₀ : Heap} {L : Addr} {m : Str → Option Value} {s : Shared} {Q E : Value → Shared → Prop}
theorem ctr_use (C : Ctr w mean mg mb f vs news D U Post) (B : Below A₀ base outer h₀) (F : Fr h₀ L s.heap m) (X : (hd.heap_39 w.params).In h₀) (N : News h₀ L s.heap news) (T : Top hd.view_39 LS mean mg mb h₀) (hk : cs.kind = .function)
    (hdp : dp + D < recursionLimit) (hun : un + U < cLine) (ret : ∀ v h' tk' news', Fr h₀ L h' m → News h₀ L h' news' → Post v news' → Q v { s with heap := h', toks := tk' }) :
    wpAny (model PG w) (ktrTop dp un gd cn cs L a ccd cl outer) (call (.ref f) vs) Q E s := C _ _ _ _ _ _ _ _ _ _ _ _ _ _ _ _ _ B F X N T hk hdp hun ret
theorem ctrE_use (C : CtrE w mean mg mb f vs news D U Post PostE) (B : Below A₀ base outer h₀) (F : Fr h₀ L s.heap m) (X : (hd.heap_39 w.params).In h₀) (N : News h₀ L s.heap news) (T : Top hd.view_39 LS mean mg mb h₀) (hk : cs.kind = .function)
    (hdp : dp + D < recursionLimit) (hun : un + U < cLine) (ret : ∀ v h' tk' news', Fr h₀ L h' m → News h₀ L h' news' → Post v news' → Q v { s with heap := h', toks := tk' })
    (exc : ∀ e t cls vs h' tk' news' g, RaisedS base g (envX cn cs L a ccd cl :: outer) e (.type cls) t vs news' h' → Fr h₀ L g m → g.UpToSlots h' → PostE cls vs news' → E (.ref e) { s with heap := h', toks := tk' }) :
    wpAny (model PG w) (ktrTop dp un gd cn cs L a ccd cl outer) (call (.ref f) vs) Q E s := C _ _ _ _ _ _ _ _ _ _ _ _ _ _ _ _ _ B F X N T hk hdp hun ret exc
end
end Mine
namespace Mine
noncomputable abbrev en (w : World) (n : String) (t : Tok) (v : Value) : DictEntry := ⟨PyData.keyHash w.params (Str.ofString n), .str (Str.ofString n) t, v⟩
noncomputable abbrev ioDict (w : World) (κ : Nat → Tok) (u : Tok) (buf : Str) (ub : Tok) (pos : Int) (up : Tok) : Obj :=
  dictOf [en w "_StringIO__newline" (κ 20) (.str (Str.ofString "\n") u), en w "_StringIO__buf" (κ 21) (.str buf ub), en w "_StringIO__pos" (κ 22) (.int pos up)] 3
noncomputable abbrev lexDict (w : World) (κ υ : Nat → Tok) (I P Fk : Addr) (px : Bool) (vE : Value) (cm wc : Str) (vS : Value) (ln : Int) (ul : Tok) (tk : Str) (ut : Tok) : Obj :=
  dictOf [en w "instream" (κ 0) (.ref I), en w "infile" (κ 1) .none, en w "posix" (κ 2) (.bool px), en w "eof" (κ 3) vE, en w "commenters" (κ 4) (.str cm (υ 4)), en w "wordchars" (κ 5) (.str wc (υ 5)),
    en w "whitespace" (κ 6) (.str (Str.ofString " \t\r\n") (υ 6)), en w "whitespace_split" (κ 7) (.bool true), en w "quotes" (κ 8) (.str (Str.ofString "'\"") (υ 8)), en w "escape" (κ 9) (.str (Str.ofString "\\") (υ 9)),
    en w "escapedquotes" (κ 10) (.str (Str.ofString "\"") (υ 10)), en w "state" (κ 11) vS, en w "pushback" (κ 12) (.ref P), en w "lineno" (κ 13) (.int ln ul), en w "debug" (κ 14) (.int 0 (υ 14)), en w "token" (κ 15) (.str tk ut),
    en w "filestack" (κ 16) (.ref Fk), en w "source" (κ 17) .none, en w "_punctuation_chars" (κ 18) (.str (Str.ofString "") (υ 18))] 19
noncomputable abbrev lexLed (S dS I dI : Nat) (od oi : Obj) (news : Led) : Led := (S, instObj 729 dS) :: (dS, od) :: (I, instObj 594 dI) :: (dI, oi) :: news
/-- one sign as a text -/
def sg (c : Nat) : Str := ⟨#[c]⟩
/-- what is left of the text behind a place -/
def At (buf : Str) (pos : Int) (rest : List Nat) : Prop := 0 ≤ pos ∧ pos ≤ (buf.length : Int) ∧ buf.cps.toList.drop pos.toNat = rest
theorem At.nil {buf : Str} {pos : Int} (h : At buf pos []) : (buf.length : Int) ≤ pos := by
  obtain ⟨a, b, e⟩ := h
  have : buf.cps.toList.length ≤ pos.toNat := by simpa using e
  have h2 : buf.length = buf.cps.toList.length := by simp [Str.length]
  omega
theorem At.cons {buf : Str} {pos : Int} {c : Nat} {r : List Nat} (h : At buf pos (c :: r)) : pos < (buf.length : Int) ∧ At buf (pos + 1) r := by
  obtain ⟨a, b, e⟩ := h
  have h2 : buf.length = buf.cps.toList.length := by simp [Str.length]
  have h3 : pos.toNat < buf.cps.toList.length := by
    apply Nat.lt_of_not_le
    intro h
    rw [List.drop_of_length_le h] at e
    cases e
  refine ⟨by omega, by omega, by omega, ?_⟩
  have : (pos + 1).toNat = pos.toNat + 1 := by omega
  rw [this, ← List.drop_drop, e]
  rfl
end Mine
namespace Mine
theorem top_off_R04 : True := by
  w_top off
  exact trivial
local macro_rules | `(tactic| k_room) => `(tactic| ktr_room)
local macro_rules | `(tactic| k_units) => `(tactic| ktr_units)
local macro_rules | `(tactic| k_all) => `(tactic| assumption)
local macro_rules | `(tactic| walk_at "my enter") => `(tactic| k_dflt (refine' code_def ?k1 ?k2 ?k3 ?k4 ?k5 ?kA ?kF ?kK ?k6 ?k7 ?k8 ?k9 ?kB ?_ ?c2 ?c3 ?c4 ?c5; (case kA => exact rfl); (case kF => exact rfl); (case kK => assumption); (case k1 => k_asm); (case k2 => k_asm); (case k3 => k_asm); (case k4 => k_asm); (case k5 => k_asm); (case k6 => k_is); (case k7 => k_is); (case k8 => k_room); (case k9 => first | exact BindsTo.of_eq rfl | exact binds_K (by k_in) rfl (by k_is) rfl rfl rfl); (case c5 => decide); (case kB => exact locs rfl); (case c2 => exact rfl); (case c3 => exact rfl); (case c4 => exact rfl); k_whole; intro g' L' h' FG' F' N' B' X' T'; (try dsimp only); (try k_fold)))
local macro_rules | `(tactic| walk_at "leaving ref") => `(tactic| (k_here; first
  | (refine' leave_raiseS ?k1 (Heap.MadeExc.of (by assumption)) ?k2 ?k3 ?_; (case k1 => assumption); (case k2 => assumption); (case k3 => k_asm); k_whole; intro h' t' R' RK' U'; (try dsimp only at R' U' ⊢))
  | (refine' leave_onS ?k1 ?k2 ?k3 ?k4 ?_; (case k3 => assumption); (case k1 => assumption); (case k4 => assumption); (case k2 => assumption); k_whole; intro h' R' RK' U'; (try dsimp only at R' U' ⊢))))
theorem At.one {buf : Str} {pos : Int} {c : Nat} {r : List Nat} (h : At buf pos (c :: r)) : Txt.slice buf (some pos) (some (pos + 1)) = sg c := by
  have h2 : buf.length = buf.cps.toList.length := by simp [Str.length]
  have hc := h.cons
  obtain ⟨a, b, e⟩ := h
  refine (StrLaws.sliceText_plain (x := buf) (i := pos) (j := pos + 1) ⟨a, by omega, by omega⟩).trans ?_
  rw [e, show (pos + 1 - pos).toNat = 1 by omega]
  rfl
theorem read1 (w : World) (mean mg mb) (S dS I dI : Nat) (od : Obj) (κ : Nat → Tok) (u ub up u1 : Tok) (buf : Str) (pos : Int) (rest : List Nat) (news : Led) (hA : At buf pos rest) (hb : buf.length < 2 ^ 20)
   (o1 : dS < S) (o2 : S < dI) (o3 : dI < I) (hn1 : ∀ p ∈ news, p.1 ≠ dI) :
   Ctr w mean mg mb 540 [.ref I, .int 1 u1] (lexLed S dS I dI od (ioDict w κ u buf ub pos up) news) 3 24
     (fun v news' => ∃ t pos' up', v = .str (match rest with | [] => Str.ofString "" | c :: _ => sg c) t ∧ At buf pos' rest.tail ∧ news' = lexLed S dS I dI od (ioDict w κ u buf ub pos' up') news) := by
  have hpr := prog_here
  revert hpr
  unfold Ctr
  k_fill
  intro _ dp un gd cn cs a ccd cl outer A₀ base h₀ L m s Q E B F X N T hk hd hu hret
  have h0 := hA.1
  have h1 := hA.2.1
  refine wpAny_call ?_
  walk_at "my enter"
  k_steps
  · refine hret _ _ _ _ (by k_asm) (by k_asm) ?_
    cases rest with
    | nil => exact ⟨_, pos, up, rfl, hA, rfl⟩
    | cons c r => exfalso; have := hA.cons.1; simp only [decide_eq_true_eq] at *; omega
  · refine hret _ _ _ _ (by k_asm) (by k_asm) ?_
    cases rest with
    | nil => exfalso; have := hA.nil; simp only [decide_eq_true_eq, decide_eq_false_iff_not] at *; omega
    | cons c r => exact ⟨_, pos + 1, _, by rw [hA.one], hA.cons.2, rfl⟩
  · refine hret _ _ _ _ (by k_asm) (by k_asm) ?_
    cases rest with
    | nil => exfalso; have := hA.nil; simp only [decide_eq_true_eq, decide_eq_false_iff_not] at *; omega
    | cons c r =>
      have hp : (buf.length : Int) = pos + 1 := by have := hA.cons.1; simp only [decide_eq_true_eq, decide_eq_false_iff_not] at *; omega
      exact ⟨_, (buf.length : Int), _, by rw [hp, hA.one], by rw [hp]; exact hA.cons.2, rfl⟩
end Mine
namespace Mine
theorem top_off_RL04 : True := by
  w_top off
  exact trivial
local macro_rules | `(tactic| walk_at "none 0") => `(tactic| skip)
local macro_rules | `(tactic| k_room) => `(tactic| ktr_room)
local macro_rules | `(tactic| k_units) => `(tactic| ktr_units)
local macro_rules | `(tactic| k_all) => `(tactic| assumption)
local macro_rules | `(tactic| walk_at "my enter") => `(tactic| k_dflt (refine' code_def ?k1 ?k2 ?k3 ?k4 ?k5 ?kA ?kF ?kK ?k6 ?k7 ?k8 ?k9 ?kB ?_ ?c2 ?c3 ?c4 ?c5; (case kA => exact rfl); (case kF => exact rfl); (case kK => assumption); (case k1 => k_asm); (case k2 => k_asm); (case k3 => k_asm); (case k4 => k_asm); (case k5 => k_asm); (case k6 => k_is); (case k7 => k_is); (case k8 => k_room); (case k9 => first | exact BindsTo.of_eq rfl | exact binds_K (by k_in) rfl (by k_is) rfl rfl rfl); (case c5 => decide); (case kB => exact locs rfl); (case c2 => exact rfl); (case c3 => exact rfl); (case c4 => exact rfl); k_whole; intro g' L' h' FG' F' N' B' X' T'; (try dsimp only); (try k_fold)))
local macro_rules | `(tactic| walk_at "leaving ref") => `(tactic| (k_here; first
  | (refine' leave_raiseS ?k1 (Heap.MadeExc.of (by assumption)) ?k2 ?k3 ?_; (case k1 => assumption); (case k2 => assumption); (case k3 => k_asm); k_whole; intro h' t' R' RK' U'; (try dsimp only at R' U' ⊢))
  | (refine' leave_onS ?k1 ?k2 ?k3 ?k4 ?_; (case k3 => assumption); (case k1 => assumption); (case k4 => assumption); (case k2 => assumption); k_whole; intro h' R' RK' U'; (try dsimp only at R' U' ⊢))))
open Builtin Builtin.Str in
theorem gives_find4 (x y : Str) (i : Int) (t u v k : Tok) : Gives (Builtin.«str.find» ⟨[.str x t, .str y u, .int i v, .int (x.length : Int) k], []⟩) (.int (Txt.find3 x y i)) := by
  show Gives (match occurrences x y (fromIndex x.length i) (min (max 0 (if ((x.length : Nat) : Int) < 0 then ((x.length : Nat) : Int) + x.length else ((x.length : Nat) : Int))).toNat x.length) 1 with | k :: _ => retInt k | [] => (do rule "str.find.not-found"; retInt (-1))) _
  rw [show min (max 0 (if ((x.length : Nat) : Int) < 0 then ((x.length : Nat) : Int) + x.length else ((x.length : Nat) : Int))).toNat x.length = x.length by split <;> omega]
  unfold Txt.find3
  cases occurrences x y (fromIndex x.length i) x.length 1 with
  | nil => exact .rule (.of_eq rfl)
  | cons k _ => exact .of_eq rfl
theorem find4 {prog : Program} {w : World} {A : Around} {E : Value → Shared → Prop} {s : Shared} {x y : Str} {t u v k : Tok} {i : Int} {Q : Value → Shared → Prop} (hq : Q (.int (Txt.find3 x y i) s.toks) { s with toks := s.toks + 1 }) :
    wpAny (model prog w) A (call (.builtin "str.find") [.str x t, .str y u, .int i v, .int (x.length : Int) k]) Q E s :=
  call_gives F.slot_str_find (typeIs_str _ _ _) F.entry_str_find (F.args_str_find_4 _ _ _ _) (gives_find4 x y i t u v k) hq
def afterLine : List Nat → List Nat
  | [] => []
  | c :: r => if c = 10 then r else afterLine r
theorem afterLine_none : ∀ (l : List Nat), (∀ c ∈ l, c ≠ 10) → afterLine l = []
  | [], _ => rfl
  | c :: r, h => by
    unfold afterLine
    rw [if_neg (h c (.head _))]
    exact afterLine_none r fun x hx => h x (.tail _ hx)
theorem afterLine_at : ∀ (n : Nat) (l : List Nat), l[n]? = some 10 → (∀ v, v < n → l[v]? ≠ some 10) → afterLine l = l.drop (n + 1)
  | _, [], h, _ => by simp at h
  | 0, c :: r, h, _ => by
    have : c = 10 := by simpa using h
    simp [afterLine, this]
  | n + 1, c :: r, h, hv => by
    have h0 := hv 0 (by omega)
    have : c ≠ 10 := by intro e; subst e; simp at h0
    unfold afterLine
    rw [if_neg this]
    have := afterLine_at n r (by simpa using h) (fun v hl => by have := hv (v + 1) (by omega); simpa using this)
    simpa using this
theorem line_at {buf : Str} {pos : Int} {rest : List Nat} (h : At buf pos rest) : (Txt.find3 buf (Str.ofString "\n") pos = -1 ∧ afterLine rest = []) ∨ ∃ k : Nat, Txt.find3 buf (Str.ofString "\n") pos = (k : Int) ∧ k < buf.length ∧ At buf ((k : Int) + 1) (afterLine rest) := by
  obtain ⟨a, b, e⟩ := h
  have h2 : buf.length = buf.cps.toList.length := by simp [Str.length]
  have hf : fromIndex buf.length pos = pos.toNat := by
    unfold fromIndex
    rw [if_neg (by omega)]
    omega
  have hs : Str.ofString "\n" = ⟨#[10]⟩ := by decide +kernel
  rw [hs]
  rcases StrLaws.find3_spec buf 10 pos with ⟨h1, hn⟩ | ⟨k, h1, h3, h4, h5, h6⟩
  · refine .inl ⟨h1, afterLine_none _ fun c hc he => ?_⟩
    subst he
    rw [← e] at hc
    obtain ⟨j, hj⟩ := List.mem_iff_getElem?.mp hc
    rw [List.getElem?_drop] at hj
    have hlt : pos.toNat + j < buf.cps.toList.length := by
      apply Nat.lt_of_not_le
      intro hle
      rw [List.getElem?_eq_none hle] at hj
      cases hj
    exact hn (pos.toNat + j) (by omega) (by omega) (StrLaws.getD_of_getElem? hj)
  · rw [hf] at h3 h6
    refine .inr ⟨k, h1, h4, by omega, by omega, ?_⟩
    have hk := StrLaws.getElem?_of_getD h4 h5
    have := afterLine_at (k - pos.toNat) rest (by rw [← e, List.getElem?_drop, show pos.toNat + (k - pos.toNat) = k by omega]; exact hk) (fun v hv hq => by
      rw [← e, List.getElem?_drop] at hq
      exact h6 (pos.toNat + v) (by omega) (by omega) (StrLaws.getD_of_getElem? hq))
    rw [this, ← e, List.drop_drop]
    congr 1
    omega
local macro_rules | `(tactic| walk_at "call builtin:str.find") => `(tactic| (k_here; with_unfolding_all refine find4 ?_))
theorem readline (w : World) (mean mg mb) (S dS I dI : Nat) (od : Obj) (κ : Nat → Tok) (u ub up : Tok) (buf : Str) (pos : Int) (rest : List Nat) (news : Led) (hA : At buf pos rest) (hb : buf.length < 2 ^ 20)
   (o1 : dS < S) (o2 : S < dI) (o3 : dI < I) (hn1 : ∀ p ∈ news, p.1 ≠ dI) :
   Ctr w mean mg mb 548 [.ref I] (lexLed S dS I dI od (ioDict w κ u buf ub pos up) news) 3 24
     (fun _ news' => ∃ pos' up', At buf pos' (afterLine rest) ∧ news' = lexLed S dS I dI od (ioDict w κ u buf ub pos' up') news) := by
  have hpr := prog_here
  revert hpr
  unfold Ctr
  k_fill
  intro _ dp un gd cn cs a ccd cl outer A₀ base h₀ L m s Q E B F X N T hk hd hu hret
  have h0 := hA.1
  have h1 := hA.2.1
  have hlen : (Str.ofString "\n").length = 1 := by decide +kernel
  have hline := line_at hA
  refine wpAny_call ?_
  walk_at "my enter"
  k_steps
  · refine hret _ _ _ _ (by k_asm) (by k_asm) ?_
    cases rest with
    | nil => exact ⟨pos, up, hA, rfl⟩
    | cons c r => exfalso; have := hA.cons.1; simp only [decide_eq_true_eq] at *; omega
  · refine hret _ _ _ _ (by k_asm) (by k_asm) ?_
    rcases hline with ⟨h3, h4⟩ | ⟨k, h3, h4, h5⟩
    · exfalso; simp only [decide_eq_true_eq, decide_eq_false_iff_not] at *; omega
    · exact ⟨_, _, by rw [h3]; exact h5, rfl⟩
  · refine hret _ _ _ _ (by k_asm) (by k_asm) ?_
    rcases hline with ⟨h3, h4⟩ | ⟨k, h3, h4, h5⟩
    · refine ⟨_, _, ?_, rfl⟩
      rw [h4]
      exact ⟨by omega, by omega, by simp [Str.length]⟩
    · exfalso; simp only [decide_eq_true_eq, decide_eq_false_iff_not] at *; omega
end Mine
namespace Mine
/-- the object of a fresh deque -/
abbrev dqObj : Obj := { cls := .type "collections.deque", dict := none, data := .fields #[.none, .int 0 0] }
theorem dq_mro : mroOf (.type "collections.deque") = pure [.type "collections.deque", .type "object"] := by rw [mroOf_type]; kernel_rfl
theorem dq_new : typeLookup (.type "collections.deque") "__new__" = pure (some (.builtin "collections.deque.__new__")) := by rw [typeLookup_type, builtinLookup_eq_fast]; kernel_rfl
theorem dq_slot_init : Slot "collections.deque" "__init__" "collections.deque.__init__" :=
  .of (owner := "collections.deque") (n := "__init__") (by rw [typeLookup_type, builtinLookup_eq_fast]; kernel_rfl) (by decide +kernel) (by decide +kernel) (by decide +kernel)
    (by first | exact .inl (by decide +kernel) | exact .inr (by decide +kernel)) (by rw [isSubtype_type]; kernel_rfl)
theorem dq_slot_len : Slot "collections.deque" "__len__" "collections.deque.__len__" :=
  .of (owner := "collections.deque") (n := "__len__") (by rw [typeLookup_type, builtinLookup_eq_fast]; kernel_rfl) (by decide +kernel) (by decide +kernel) (by decide +kernel)
    (by first | exact .inl (by decide +kernel) | exact .inr (by decide +kernel)) (by rw [isSubtype_type]; kernel_rfl)
theorem dq_entry_len : entryFor table "collections.deque.__len__" = some Builtin.«collections.deque.__len__» := by first | exact entryFor_of_fast (by kernel_rfl) | exact entryFor_of_tree (by kernel_rfl)
theorem dq_entry_init : entryFor table "collections.deque.__init__" = some Builtin.«collections.deque.__init__» := by first | exact entryFor_of_fast (by kernel_rfl) | exact entryFor_of_tree (by kernel_rfl)
theorem dq_entry_new : entryFor table "collections.deque.__new__" = some Builtin.«collections.deque.__new__» := by first | exact entryFor_of_fast (by kernel_rfl) | exact entryFor_of_tree (by kernel_rfl)
theorem dq_args_len (a : Value) : argsOk "collections.deque.__len__" ⟨[a], []⟩ := by unfold argsOk; kernel_rfl
theorem dq_noBool : typeLookup (.type "collections.deque") "__bool__" = pure none := by rw [typeLookup_type, builtinLookup_eq_fast]; kernel_rfl
theorem dq_called : TypeCalled "collections.deque" "collections.deque.__new__" "collections.deque.__init__" :=
  ⟨by decide +kernel, by decide +kernel, ⟨_, _, dq_mro⟩, madeBy_type dq_mro dq_new (by decide +kernel), by decide +kernel, by rw [isSubtype_type]; kernel_rfl, dq_slot_init⟩
theorem dq_typeCall : checkTypeCall "collections.deque" ⟨[], []⟩ = pure () := by kernel_rfl
theorem dq_newCall : checkBuiltinCall "collections.deque.__new__" ⟨[.type "collections.deque"], []⟩ = pure () := by kernel_rfl
theorem dq_plain_new : plainId "collections.deque.__new__" = true := by decide +kernel
theorem dq_sub : isSubtype (.type "collections.deque") (.type "collections.deque") = pure true := by rw [isSubtype_type]; kernel_rfl
theorem dq_noDict : typeHasDict (.type "collections.deque") = false := by kernel_rfl
section
variable {prog : Program} {w : World} {A : Around} {E : Value → Shared → Prop} {s : Shared}
theorem dq_len_body {t : Addr} {Q : Value → Shared → Prop} (ho : s.heap.get? t = some dqObj)
    (h : Q (.int 0 (s.toks + 1)) { s with toks := s.toks + 1 + 1 }) : wpAny (model prog w) A (Builtin.«len» ⟨[.ref t], []⟩) (fun fin s' => ∃ r, fin = .done (.ret r) ∧ Q r s') E s := by
  have hT : s.TypeIs (.ref t) "collections.deque" := ⟨_, ho, rfl⟩
  unfold Builtin.«len»
  refine wpAny_bind (m := oneArg "len" _) (wpAny_pure ?_)
  refine wpAny_bind (m := callSpecial? (.ref t) (Str.ofString "__len__")) (wpAny_callSpecial?_slot (name := Str.ofString "__len__") hT dq_slot_len
    (wpAny_call_entry dq_slot_len hT dq_entry_len ?_ (dq_args_len _)))
  · unfold Builtin.«collections.deque.__len__»
    refine wpAny_bind (m := slotArgs "__len__" 0 _) (wpAny_pure ?_)
    unfold Builtin.Deque.size
    refine wpAny_bind (wpAny_bind (m := fieldsOf (.ref t)) ?_)
    refine wpAny_bind (wpAny_load ho ?_)
    refine wpAny_pure (wpAny_pure ?_)
    refine wpAny_bind (wpAny_mkInt (wpAny_pure ⟨_, rfl, ?_⟩))
    refine wpAny_bind (wpAny_holding (wpAny_pure ?_))
    refine wpAny_bind (wpAny_letGo ?_)
    show wpAny _ _ (if ((0 : Nat) : Int) < 0 then _ else _) _ _ _
    rw [if_neg (by omega)]
    show wpAny _ _ (if ((0 : Nat) : Int) ≥ 2 ^ 63 then _ else _) _ _ _
    rw [if_neg (by omega)]
    exact wpAny_bind (wpAny_mkInt (wpAny_pure ⟨_, rfl, h⟩))
theorem dq_truthy {t : Addr} {Q : Bool → Shared → Prop} (ho : s.heap.get? t = some dqObj)
    (h : Q false { s with toks := s.toks + 1 + 1 }) : wpAny (model prog w) A (truthy (.ref t)) Q E s := by
  have hT : s.TypeIs (.ref t) "collections.deque" := ⟨_, ho, rfl⟩
  have key : wpAny (model prog w) A (runValue (.builtin "len" ⟨[.ref t], []⟩)) (fun r s' => r = .int 0 (s.toks + 1) ∧ Q false s') E s := by
    refine wpAny_runValue (codeAny_builtin entry_len ?_)
    rw [Around.under_plainId plain_len _]
    exact wpAny_mono (dq_len_body (Q := fun r s' => r = .int 0 (s.toks + 1) ∧ Q false s') ho ⟨rfl, h⟩)
      (fun fin s' h' => by obtain ⟨r, rfl, hq⟩ := h'; exact hq) fun _ _ e => e
  unfold truthy
  first
    | refine wpAny_bind (wpAny_callSpecial?_none (name := Str.ofString "__bool__") hT dq_noBool ?_)
    | refine wpAny_bind (wpAny_pure (wpAny_bind (wpAny_callSpecial?_none (name := Str.ofString "__bool__") hT dq_noBool ?_)))
  first
    | refine wpAny_bind (wpAny_specialOf (name := Str.ofString "__len__") hT dq_slot_len.lookup ?_)
    | refine wpAny_bind (wpAny_pure (wpAny_bind (wpAny_specialOf (name := Str.ofString "__len__") hT dq_slot_len.lookup ?_)))
  first
    | exact wpAny_bind (wpAny_mono key (fun r s' h' => by obtain ⟨rfl, hq⟩ := h'; exact wpAny_pure hq) fun _ _ e => e)
    | exact wpAny_bind (wpAny_pure (wpAny_bind (wpAny_mono key (fun r s' h' => by obtain ⟨rfl, hq⟩ := h'; exact wpAny_pure hq) fun _ _ e => e)))
end
end Mine
namespace Mine
section
variable {prog : Program} {w : World} {A : Around} {E : Value → Shared → Prop} {s : Shared}
theorem dq_code_new {Q₁ : Value → Shared → Prop} (h : Q₁ (.ref s.heap.objs.size) { s with heap := s.heap.push dqObj }) :
    codeAny (model prog w) A (.call (.builtin "collections.deque.__new__") ⟨[.type "collections.deque"], []⟩) (wants Q₁ E) s := by
  refine codeAny_of_tree ?_
  show wpAny _ A.in1 (do checkBuiltinCall "collections.deque.__new__" ⟨[.type "collections.deque"], []⟩; again (.builtin "collections.deque.__new__" ⟨[.type "collections.deque"], []⟩)) _ _ s
  refine wpAny_bind (wpAny_of_eq dq_newCall (wpAny_pure ⟨plainId_quiet dq_plain_new _, codeAny_builtin dq_entry_new ?_⟩))
  rw [Around.under_plainId dq_plain_new _]
  unfold Builtin.«collections.deque.__new__» Builtin.Deque.newArgs Builtin.Deque.new
  have hsub := dq_sub
  have hnd := dq_noDict
  obtain ⟨hp, g, d, tk, os⟩ := s
  dsimp only [Builtin.Deque.ty]
  wp_walk
  exact h
theorem dq_args_init (a : Value) : argsOk "collections.deque.__init__" ⟨[a], []⟩ := by unfold argsOk; kernel_rfl
theorem dq_call {Q : Value → Shared → Prop} (h : ∀ h', (∀ b o, s.heap.get? b = some o → h'.get? b = some o) → h'.get? s.heap.objs.size = some dqObj → Q (.ref s.heap.objs.size) { s with heap := h' }) :
    wpAny (model prog w) A (call (.type "collections.deque") []) Q E s := by
  obtain ⟨c, tl, hmro⟩ := dq_called.mro
  have hmade := dq_called.made
  have hsub := dq_called.sub
  refine wpAny_call (codeAny_of_tree ?_)
  show wpAny _ _ (callAny (.type "collections.deque") _) _ _ _
  refine wpAny_pure ⟨Code.quiet_builtin _ (by decide +kernel), codeAny_builtin F.entry_type_call ?_⟩
  rw [Around.under_plain (weight_type_call_type "collections.deque" [] []) rfl]
  have h1 := dq_called.notType
  have h2 := dq_called.canCreate
  have hct := dq_typeCall
  repeat (any_goals (first | assumption | wp_step))
  refine codeAny_mono (dq_code_new (E := E) (Q₁ := fun obj s₁ => obj = .ref s.heap.objs.size ∧ s₁ = { s with heap := s.heap.push dqObj }) ⟨rfl, rfl⟩) fun r s₁ hr => ?_
  cases r with
  | error e => exact hr
  | ok fl =>
    cases fl with
    | ret obj =>
      obtain ⟨rfl, rfl⟩ := hr
      have hS : (s.heap.push dqObj).get? s.heap.objs.size = some dqObj := Heap.get?_push_size _ rfl
      have hT : Shared.TypeIs { s with heap := s.heap.push dqObj } (.ref s.heap.objs.size) "collections.deque" := ⟨_, hS, rfl⟩
      have hli := dq_called.init.lookup
      have hbi := dq_called.init.bind (.ref s.heap.objs.size)
      repeat (any_goals (first | assumption | wp_step))
      refine codeAny_mono (codeAny_call_builtin (R := wants (fun r s₂ => r = .none ∧ Q (.ref s.heap.objs.size) s₂) E) dq_called.init.plain dq_entry_init (dq_slot_init.check _ _ _ _ _ _ _ _ hT (dq_args_init _) ?_)) fun r₂ s₂ hr₂ => ?_
      · unfold Builtin.«collections.deque.__init__» Builtin.Deque.clear Builtin.Deque.items
        wp_walk
        refine ⟨rfl, h _ (fun b o e => ?_) ?_⟩
        · rw [Heap.get?_update_ne _ _ _ _ (Nat.ne_of_lt (Heap.lt_size e))]
          exact Heap.get?_push_of_some _ e
        · exact Heap.get?_update_self _ hS rfl
      · cases r₂ with
        | error e => exact hr₂
        | ok fl₂ =>
          cases fl₂ with
          | ret r =>
            obtain ⟨rfl, hq⟩ := hr₂
            repeat (any_goals (first | assumption | wp_step))
          | _ => exact hr₂.elim
    | _ => exact hr.elim
end
theorem deque_N {prog : Program} {w : World} {A : Around} {E : Value → Shared → Prop} {s : Shared} {h₀ : Heap} {L : Addr} {m : Str → Option Value} {news : Led} {Q : Value → Shared → Prop} (F : Fr h₀ L s.heap m) (N : News h₀ L s.heap news)
    (h : ∀ (D : Nat) h', Fr h₀ L h' m → News h₀ L h' ((D, dqObj) :: news) → (∀ q ∈ news, q.1 < D) → Q (.ref D) { s with heap := h' }) : wpAny (model prog w) A (call (.type "collections.deque") []) Q E s :=
  dq_call fun h' hk hD => h _ h' (F.keeps hk) (news_pushed F N hk hD rfl) fun _ hq => Heap.lt_size (N _ hq).1
theorem dq_truthyN {prog : Program} {w : World} {A : Around} {E : Value → Shared → Prop} {s : Shared} {h₀ : Heap} {L D : Addr} {news : Led} {Q : Bool → Shared → Prop} (N : News h₀ L s.heap news) (hm : (D, dqObj) ∈ news)
    (h : Q false { s with toks := s.toks + 1 + 1 }) : wpAny (model prog w) A (truthy (.ref D)) Q E s := dq_truthy (N.get hm) h
end Mine
namespace Mine
def isWs (c : Nat) : Bool := c == 32 || c == 9 || c == 13 || c == 10
def isQt (c : Nat) : Bool := c == 39 || c == 34
inductive SS where
  | dn | sp | wd
  | qt (c : Nat)
  | es (dq : Bool)
inductive RR where
  | out (tok : Str) (quoted fin : Bool) (rest : List Nat)
  | noClose | noEsc
theorem afterLine_le : ∀ l : List Nat, (afterLine l).length ≤ l.length
  | [] => Nat.le_refl _
  | c :: r => by
    unfold afterLine
    split
    · exact Nat.le_succ _
    · exact Nat.le_succ_of_le (afterLine_le r)
/-- what read_token makes of the signs that are left, by its state -/
def rt (px cm : Bool) : SS → Str → Bool → List Nat → RR
  | .dn, _, quoted, rest => .out (Str.ofString "") quoted true rest.tail
  | .sp, tok, quoted, [] => .out tok quoted true []
  | .sp, tok, quoted, c :: r =>
    if isWs c then rt px cm .sp tok quoted r
    else if cm && c == 35 then rt px cm .sp tok quoted (afterLine r)
    else if px && c == 92 then rt px cm (.es false) tok quoted r
    else if isQt c then rt px cm (.qt c) (if px then tok else sg c) quoted r
    else rt px cm .wd (sg c) quoted r
  | .wd, tok, quoted, [] => .out tok quoted true []
  | .wd, tok, quoted, c :: r =>
    if isWs c then .out tok quoted false r
    else if cm && c == 35 then (if px then .out tok quoted false (afterLine r) else rt px cm .wd tok quoted (afterLine r))
    else if px && isQt c then rt px cm (.qt c) tok quoted r
    else if px && c == 92 then rt px cm (.es false) tok quoted r
    else rt px cm .wd (tok ++ sg c) quoted r
  | .qt _, _, _, [] => .noClose
  | .qt q, tok, _, c :: r =>
    if c == q then (if px then rt px cm .wd tok true r else .out (tok ++ sg c) true false r)
    else if px && c == 92 && q == 34 then rt px cm (.es true) tok true r
    else rt px cm (.qt q) (tok ++ sg c) true r
  | .es _, _, _, [] => .noEsc
  | .es dq, tok, quoted, c :: r =>
    rt px cm (if dq then .qt 34 else .wd) ((if dq && !(c == 92) && !(c == 34) then tok ++ sg 92 else tok) ++ sg c) quoted r
termination_by _ _ _ rest => rest.length
decreasing_by all_goals (first | exact Nat.lt_succ_self _ | exact Nat.lt_succ_of_le (afterLine_le _))
end Mine
namespace Mine
def stStr : SS → Str
  | .dn => Str.ofString ""
  | .sp => Str.ofString " "
  | .wd => Str.ofString "a"
  | .qt c => sg c
  | .es _ => sg 92
def stVal (u : Tok) : SS → Value
  | .dn => .none
  | st => .str (stStr st) u
def StOk (px : Bool) (tok : Str) (quoted : Bool) (esS : Str) : SS → Prop
  | .dn => True
  | .sp => tok = Str.ofString "" ∧ quoted = false
  | .wd => tok.length ≠ 0 ∨ (px = true ∧ quoted = true)
  | .qt c => c = 39 ∨ c = 34
  | .es dq => px = true ∧ esS = (if dq then sg 34 else Str.ofString "a")
def esN : SS → Nat
  | .es dq => cond dq 1 0
  | .dn => 0
  | .sp => 0
  | .wd => 0
  | .qt _ => 0
def Inv (w : World) (S dS I dI P Fk : Nat) (κ υ : Nat → Tok) (u ub : Tok) (px cmb : Bool) (vE : Value) (cm wc buf : Str) (news : Led) (R : RR) (n : Nat) (m : Str → Option Value) (led : Led) : Prop :=
  ∃ (st : SS) (tok : Str) (quoted : Bool) (esS : Str) (te us ut ul up : Tok) (ln pos : Int) (rest : List Nat),
    n = rest.length ∧ rt px cmb st tok quoted rest = R ∧ At buf pos rest ∧ tok.length + esN st + rest.length ≤ buf.length ∧ StOk px tok quoted esS st ∧
    led = lexLed S dS I dI (lexDict w κ υ I P Fk px vE cm wc (stVal us st) ln ul tok ut) (ioDict w κ u buf ub pos up) news ∧
    m (Str.ofString "self") = some (.ref S) ∧ m (Str.ofString "quoted") = some (.bool quoted) ∧ m (Str.ofString "escapedstate") = some (.str esS te)
def inS (y : Str) (c : Nat) : Bool := decide (c ∈ y.cps.toList)
section
variable {prog : Program} {w : World} {A : Around} {E : Value → Shared → Prop} {s : Shared} {c d : Nat} {t u : Tok} {y : Str} {Q : Value → Shared → Prop}
theorem in_sg (h : Q (.bool (inS y c)) s) : wpAny (model prog w) A (compareOp .In (.str (sg c) t) (.str y u)) Q E s := by
  refine in_str ?_
  rw [show sg c = ⟨#[c]⟩ from rfl, StrLaws.found_one]
  exact h
theorem in_ws (h : Q (.bool (isWs c)) s) : wpAny (model prog w) A (compareOp .In (.str (sg c) t) (.str (Str.ofString " \t\r\n") u)) Q E s := by
  refine in_sg ?_
  have : inS (Str.ofString " \t\r\n") c = isWs c := by
    unfold inS isWs
    rw [show (Str.ofString " \t\r\n").cps.toList = [32, 9, 13, 10] by decide +kernel]
    simp [Bool.decide_or, Bool.or_assoc]
    rfl
  rw [this]; exact h
theorem in_qt (h : Q (.bool (isQt c)) s) : wpAny (model prog w) A (compareOp .In (.str (sg c) t) (.str (Str.ofString "'\"") u)) Q E s := by
  refine in_sg ?_
  have : inS (Str.ofString "'\"") c = isQt c := by
    unfold inS isQt
    rw [show (Str.ofString "'\"").cps.toList = [39, 34] by decide +kernel]
    simp [Bool.decide_or]
    rfl
  rw [this]; exact h
theorem in_bs (h : Q (.bool (c == 92)) s) : wpAny (model prog w) A (compareOp .In (.str (sg c) t) (.str (Str.ofString "\\") u)) Q E s := by
  refine in_sg ?_
  have : inS (Str.ofString "\\") c = (c == 92) := by
    unfold inS
    rw [show (Str.ofString "\\").cps.toList = [92] by decide +kernel]
    simp
    rfl
  rw [this]; exact h
theorem in_dq (h : Q (.bool (c == 34)) s) : wpAny (model prog w) A (compareOp .In (.str (sg c) t) (.str (Str.ofString "\"") u)) Q E s := by
  refine in_sg ?_
  have : inS (Str.ofString "\"") c = (c == 34) := by
    unfold inS
    rw [show (Str.ofString "\"").cps.toList = [34] by decide +kernel]
    simp
    rfl
  rw [this]; exact h
theorem in_none (h : Q (.bool false) s) : wpAny (model prog w) A (compareOp .In (.str (sg c) t) (.str (Str.ofString "") u)) Q E s := by
  refine in_sg ?_
  have : inS (Str.ofString "") c = false := by
    unfold inS
    rw [show (Str.ofString "").cps.toList = [] by decide +kernel]
    simp
  rw [this]; exact h
theorem in_a_qt (h : Q (.bool false) s) : wpAny (model prog w) A (compareOp .In (.str (Str.ofString "a") t) (.str (Str.ofString "'\"") u)) Q E s := by
  rw [show Str.ofString "a" = sg 97 by decide +kernel]
  exact in_qt h
theorem in_a_bs (h : Q (.bool false) s) : wpAny (model prog w) A (compareOp .In (.str (Str.ofString "a") t) (.str (Str.ofString "\\") u)) Q E s := by
  rw [show Str.ofString "a" = sg 97 by decide +kernel]
  exact in_bs h
theorem notin_none (h : Q (.bool true) s) : wpAny (model prog w) A (compareOp .NotIn (.str (sg c) t) (.str (Str.ofString "") u)) Q E s := by
  refine notIn_str ?_
  have : (!(!(Builtin.Str.occurrences (Str.ofString "") (sg c) 0 (Str.ofString "").length 1).isEmpty)) = true := by
    rw [show sg c = ⟨#[c]⟩ from rfl, StrLaws.found_one, show (Str.ofString "").cps.toList = [] by decide +kernel]
    simp
  rw [this]; exact h
theorem eq_sg (h : Q (.bool (c == d)) s) : wpAny (model prog w) A (compareOp .Eq (.str (sg c) t) (.str (sg d) u)) Q E s := by
  refine eq_str ?_
  have : (sg c == sg d) = (c == d) := by
    rw [Bool.eq_iff_iff, beq_iff_eq, beq_iff_eq]
    exact ⟨fun h => by injection h with h; simpa using h, fun h => by rw [h]⟩
  rw [this]; exact h
theorem ne_sg (h : Q (.bool (!(c == d))) s) : wpAny (model prog w) A (compareOp .NotEq (.str (sg c) t) (.str (sg d) u)) Q E s := by
  refine ne_str ?_
  have : (sg c != sg d) = !(c == d) := by
    have : (sg c == sg d) = (c == d) := by
      rw [Bool.eq_iff_iff, beq_iff_eq, beq_iff_eq]
      exact ⟨fun h => by injection h with h; simpa using h, fun h => by rw [h]⟩
    rw [bne, this]
  rw [this]; exact h
end
theorem truthy_sg {prog : Program} {w : World} {A : Around} {E : Value → Shared → Prop} {s : Shared} {c : Nat} {t : Tok} {Q : Bool → Shared → Prop} (h : Q true { s with toks := s.toks + 1 + 1 }) : wpAny (model prog w) A (truthy (.str (sg c) t)) Q E s :=
  P.truthy_str (by show ¬ ((1 : Nat) : Int) ≥ 2 ^ 63; decide) h
theorem iadd_sg {prog : Program} {w : World} {A : Around} {E : Value → Shared → Prop} {s : Shared} {x : Str} {c : Nat} {t u : Tok} {Q : Value → Shared → Prop} (hx : x.length < 2 ^ 21) (h : ∀ t' tk, Q (.str (x ++ sg c) t') { s with toks := tk }) :
    wpAny (model prog w) A (inplaceOp .Add (.str x t) (.str (sg c) u)) Q E s := iadd_str h (by show x.length + 1 ≤ sizeLine; rw [show sizeLine = 2 ^ 24 from rfl]; omega)
theorem in_ac {prog : Program} {w : World} {A : Around} {E : Value → Shared → Prop} {s : Shared} {h₀ : Heap} {L T : Addr} {t t1 t2 : Tok} {news : Led} {Q : Value → Shared → Prop}
    (N : News h₀ L s.heap ((T, { cls := .type "tuple", data := .seq [Value.str (Str.ofString "a") t1, Value.str (Str.ofString "c") t2].toArray }) :: news)) (h : News h₀ L s.heap news → Q (.bool true) s) :
    wpAny (model prog w) A (compareOp .In (.str (Str.ofString "a") t) (.ref T)) Q E s := by
  refine in_tuple_strs (N.isTup (.head _)) (.cons _ _ (.cons _ _ .nil)) ?_
  rw [show ([Str.ofString "a", Str.ofString "c"].any (· == Str.ofString "a")) = true by decide +kernel]
  exact h fun p hp => N p (.tail _ hp)
structure LnPost (h₀ : Heap) (L : Addr) (m : Str → Option Value) (s : Shared) (led : Int → Tok → Led) (f : Flow) (s' : Shared) : Prop where
  get : f = .next ∧ ∃ h' tk' ln ul, s' = { s with heap := h', toks := tk' } ∧ Fr h₀ L h' m ∧ News h₀ L h' (led ln ul)
theorem ln_cut {M : Model} {A : Around} {E : Value → Shared → Prop} {Q : Flow → Shared → Prop} {s : Shared} {h₀ : Heap} {L : Addr} {m : Str → Option Value} {t : Sem Flow} {w : World} {S dS I dI P Fk : Nat} {κ υ : Nat → Tok} {px : Bool} {vE : Value} {cm wc : Str} {vS : Value} {ln : Int} {ul : Tok} {tok : Str} {ut : Tok} {oi : Obj} {news : Led}
    (_F : Fr h₀ L s.heap m) (_N : News h₀ L s.heap (lexLed S dS I dI (lexDict w κ υ I P Fk px vE cm wc vS ln ul tok ut) oi news))
    (h1 : wpAny M A t (LnPost h₀ L m s fun ln ul => lexLed S dS I dI (lexDict w κ υ I P Fk px vE cm wc vS ln ul tok ut) oi news) E s)
    (h2 : ∀ h' tk' ln ul, Fr h₀ L h' m → News h₀ L h' (lexLed S dS I dI (lexDict w κ υ I P Fk px vE cm wc vS ln ul tok ut) oi news) → Q .next { s with heap := h', toks := tk' }) : wpAny M A t Q E s := by
  refine wpAny_mono h1 (fun f s' p => ?_) fun _ _ x => x
  obtain ⟨rfl, h', tk', ln, ul, rfl, F, N⟩ := p.get
  exact h2 h' tk' ln ul F N
section
variable {h₀ : Heap} {L : Addr} {m : Str → Option Value} {s : Shared} {w : World} {S dS I dI P Fk : Nat} {κ υ : Nat → Tok} {u ub us ut ul up te : Tok} {px cmb : Bool} {vE : Value} {cm wc buf : Str} {news : Led} {R : RR} {ln pos : Int} {rest : List Nat} {tok esS : Str} {quoted fin : Bool} {h' : Heap} {tk n : Nat} {c : Nat} {r : List Nat}
structure LoopPost (h₀ : Heap) (L : Addr) (s : Shared) (w : World) (S dS I dI P Fk : Nat) (κ υ : Nat → Tok) (u ub : Tok) (px : Bool) (vE : Value) (cm wc buf : Str) (news : Led) (R : RR) (f : Flow) (s' : Shared) : Prop where
  get : f = .next ∧ ∃ tok quoted fin rest us ut ul up ln pos m' h' tk', R = .out tok quoted fin rest ∧ s' = { s with heap := h', toks := tk' } ∧ Fr h₀ L h' m' ∧
    News h₀ L h' (lexLed S dS I dI (lexDict w κ υ I P Fk px vE cm wc (if fin = true then .none else .str (Str.ofString " ") us) ln ul tok ut) (ioDict w κ u buf ub pos up) news) ∧
    At buf pos rest ∧ tok.length ≤ buf.length ∧ m' (Str.ofString "self") = some (.ref S) ∧ m' (Str.ofString "quoted") = some (.bool quoted)
theorem ln_leaf {led : Int → Tok → Led} (F : Fr h₀ L h' m) (N : News h₀ L h' (led ln ul)) : LnPost h₀ L m s led .next { s with heap := h', toks := tk } := ⟨rfl, _, _, _, _, rfl, F, N⟩
theorem stepN {Q : Flow → Shared → Prop} (f : Flow) (hf : f = .next ∨ f = .cont) (st : SS) (F : Fr h₀ L h' m) (N : News h₀ L h' (lexLed S dS I dI (lexDict w κ υ I P Fk px vE cm wc (stVal us st) ln ul tok ut) (ioDict w κ u buf ub pos up) news))
    (hm1 : m (Str.ofString "self") = some (.ref S)) (hm2 : m (Str.ofString "quoted") = some (.bool quoted)) (hm3 : m (Str.ofString "escapedstate") = some (.str esS te))
    (hA : At buf pos rest) (hR : rt px cmb st tok quoted rest = R) (hsz : tok.length + esN st + rest.length ≤ buf.length) (hok : StOk px tok quoted esS st) (hlt : rest.length < n) :
    WhileStep2 h₀ L s (Inv w S dS I dI P Fk κ υ u ub px cmb vE cm wc buf news R) Q n f { s with heap := h', toks := tk } := by
  rcases hf with rfl | rfl
  · exact ⟨h', tk, m, _, rest.length, rfl, F, N, hlt, st, tok, quoted, esS, te, us, ut, ul, up, ln, pos, rest, rfl, hR, hA, hsz, hok, rfl, hm1, hm2, hm3⟩
  · exact ⟨h', tk, m, _, rest.length, rfl, F, N, hlt, st, tok, quoted, esS, te, us, ut, ul, up, ln, pos, rest, rfl, hR, hA, hsz, hok, rfl, hm1, hm2, hm3⟩
theorem breakT {J : Nat → (Str → Option Value) → Led → Prop} (F : Fr h₀ L h' m) (N : News h₀ L h' (lexLed S dS I dI (lexDict w κ υ I P Fk px vE cm wc .none ln ul tok ut) (ioDict w κ u buf ub pos up) news))
    (hm1 : m (Str.ofString "self") = some (.ref S)) (hm2 : m (Str.ofString "quoted") = some (.bool quoted)) (hA : At buf pos rest) (hR : R = .out tok quoted true rest) (hsz : tok.length ≤ buf.length) :
    WhileStep2 h₀ L s J (LoopPost h₀ L s w S dS I dI P Fk κ υ u ub px vE cm wc buf news R) n .brk { s with heap := h', toks := tk } :=
  ⟨rfl, tok, quoted, true, rest, 0, ut, ul, up, ln, pos, m, h', tk, hR, rfl, F, N, hA, hsz, hm1, hm2⟩
theorem breakF {J : Nat → (Str → Option Value) → Led → Prop} (F : Fr h₀ L h' m) (N : News h₀ L h' (lexLed S dS I dI (lexDict w κ υ I P Fk px vE cm wc (.str (Str.ofString " ") us) ln ul tok ut) (ioDict w κ u buf ub pos up) news))
    (hm1 : m (Str.ofString "self") = some (.ref S)) (hm2 : m (Str.ofString "quoted") = some (.bool quoted)) (hA : At buf pos rest) (hR : R = .out tok quoted false rest) (hsz : tok.length ≤ buf.length) :
    WhileStep2 h₀ L s J (LoopPost h₀ L s w S dS I dI P Fk κ υ u ub px vE cm wc buf news R) n .brk { s with heap := h', toks := tk } :=
  ⟨rfl, tok, quoted, false, rest, us, ut, ul, up, ln, pos, m, h', tk, hR, rfl, F, N, hA, hsz, hm1, hm2⟩
end
theorem loop_rule {w : World} {A : Around} {E : Value → Shared → Prop} {Q : Flow → Shared → Prop} {s : Shared} {env : Env} {h₀ : Heap} {L : Addr} {test : Expr} {body : List Stmt} {pos : Pos} {m : Str → Option Value} {led : Led} {n₀ : Nat} {S dS I dI P Fk : Nat} {κ υ : Nat → Tok} {u ub : Tok} {px cmb : Bool} {vE : Value} {cm wc buf : Str} {news : Led} (R : RR)
    (F : Fr h₀ L s.heap m) (N : News h₀ L s.heap led) (hJ : Inv w S dS I dI P Fk κ υ u ub px cmb vE cm wc buf news R n₀ m led)
    (turn : ∀ n m₁ news₁ h₁ tk₁, Fr h₀ L h₁ m₁ → News h₀ L h₁ news₁ → Inv w S dS I dI P Fk κ υ u ub px cmb vE cm wc buf news R n m₁ news₁ →
      wpAny (model PG w) A (isTrue test env (eval test env)) (fun b s₂ =>
        if b = true then wpAny (model PG w) A (execs body env) (WhileStep2 h₀ L s (Inv w S dS I dI P Fk κ υ u ub px cmb vE cm wc buf news R) (LoopPost h₀ L s w S dS I dI P Fk κ υ u ub px vE cm wc buf news R) n) E s₂ else LoopPost h₀ L s w S dS I dI P Fk κ υ u ub px vE cm wc buf news R .next s₂) E { s with heap := h₁, toks := tk₁ })
    (post : ∀ s', LoopPost h₀ L s w S dS I dI P Fk κ υ u ub px vE cm wc buf news R .next s' → Q .next s')
    (hE : PassesOwn (model PG w) A env E := by passes_own) : wpAny (model PG w) A (exec (.While test body [] pos) env) Q E s :=
  wpAny_mono (While_inv2 (Inv w S dS I dI P Fk κ υ u ub px cmb vE cm wc buf news R) F N hJ turn hE) (fun f s' p => by obtain rfl := p.get.1; exact post s' p) fun _ _ x => x
section
variable {px cm : Bool} {tok : Str} {q : Bool} {c d : Nat} {r : List Nat}
theorem rt_dn {l : List Nat} : rt px cm .dn tok q l = .out (Str.ofString "") q true l.tail := by rw [rt]
theorem rt_sp_nil : rt px cm .sp tok q [] = .out tok q true [] := by rw [rt]
theorem rt_sp_ws (hw : isWs c = true) : rt px cm .sp tok q (c :: r) = rt px cm .sp tok q r := by rw [rt, if_pos hw]
theorem rt_sp_cm (hw : isWs c = false) (hc : (cm && c == 35) = true) : rt px cm .sp tok q (c :: r) = rt px cm .sp tok q (afterLine r) := by rw [rt, if_neg (by simp [hw]), if_pos hc]
theorem rt_sp_es (hw : isWs c = false) (hc : (cm && c == 35) = false) (hp : px = true) (hb : (c == 92) = true) : rt px cm .sp tok q (c :: r) = rt px cm (.es false) tok q r := by
  rw [rt, if_neg (by simp [hw]), if_neg (by simp [hc]), if_pos (by simp [hp, hb])]
theorem rt_sp_qt (hw : isWs c = false) (hc : (cm && c == 35) = false) (hb : (px && c == 92) = false) (hq : isQt c = true) : rt px cm .sp tok q (c :: r) = rt px cm (.qt c) (if px then tok else sg c) q r := by
  rw [rt, if_neg (by simp [hw]), if_neg (by simp [hc]), if_neg (by simp [hb]), if_pos hq]
theorem rt_sp_qt1 (hw : isWs c = false) (hc : (cm && c == 35) = false) (hp : px = true) (hb : (c == 92) = false) (hq : isQt c = true) : rt px cm .sp tok q (c :: r) = rt px cm (.qt c) tok q r := by
  rw [rt_sp_qt hw hc (by rw [hb, Bool.and_false]) hq, hp]; rfl
theorem rt_sp_qt0 (hw : isWs c = false) (hc : (cm && c == 35) = false) (hp : px = false) (hq : isQt c = true) : rt px cm .sp tok q (c :: r) = rt px cm (.qt c) (sg c) q r := by
  rw [rt_sp_qt hw hc (by rw [hp]; rfl) hq, hp]; rfl
theorem qt_of (hq : isQt c = true) : c = 39 ∨ c = 34 := by simpa [isQt] using hq
theorem len_sg (c : Nat) : (sg c).length = 1 := rfl
theorem len_app (a b : Str) : (a ++ b).length = a.length + b.length := Str.length_append a b
theorem len_none : (Str.ofString "").length = 0 := by decide +kernel
theorem len_bs : (Str.ofString "\\").length = 1 := by decide +kernel
theorem rt_wd_nil : rt px cm .wd tok q [] = .out tok q true [] := by rw [rt]
theorem rt_wd_ws (hw : isWs c = true) : rt px cm .wd tok q (c :: r) = .out tok q false r := by rw [rt, if_pos hw]
theorem rt_wd_cm1 (hw : isWs c = false) (hc : (cm && c == 35) = true) (hp : px = true) : rt px cm .wd tok q (c :: r) = .out tok q false (afterLine r) := by rw [rt, if_neg (by simp [hw]), if_pos hc, if_pos hp]
theorem rt_wd_cm0 (hw : isWs c = false) (hc : (cm && c == 35) = true) (hp : px = false) : rt px cm .wd tok q (c :: r) = rt px cm .wd tok q (afterLine r) := by rw [rt, if_neg (by simp [hw]), if_pos hc, if_neg (by simp [hp])]
theorem rt_wd_qt (hw : isWs c = false) (hc : (cm && c == 35) = false) (hp : px = true) (hq : isQt c = true) : rt px cm .wd tok q (c :: r) = rt px cm (.qt c) tok q r := by
  rw [rt, if_neg (by simp [hw]), if_neg (by simp [hc]), if_pos (by simp [hp, hq])]
theorem rt_wd_es (hw : isWs c = false) (hc : (cm && c == 35) = false) (hp : px = true) (hq : isQt c = false) (hb : (c == 92) = true) : rt px cm .wd tok q (c :: r) = rt px cm (.es false) tok q r := by
  rw [rt, if_neg (by simp [hw]), if_neg (by simp [hc]), if_neg (by simp [hq]), if_pos (by simp [hp, hb])]
theorem rt_wd_wd1 (hw : isWs c = false) (hc : (cm && c == 35) = false) (hq : isQt c = false) (hb : (c == 92) = false) : rt px cm .wd tok q (c :: r) = rt px cm .wd (tok ++ sg c) q r := by
  rw [rt, if_neg (by simp [hw]), if_neg (by simp [hc]), if_neg (by simp [hq]), if_neg (by simp [hb])]
theorem rt_wd_wd0 (hw : isWs c = false) (hc : (cm && c == 35) = false) (hp : px = false) : rt px cm .wd tok q (c :: r) = rt px cm .wd (tok ++ sg c) q r := by
  rw [rt, if_neg (by simp [hw]), if_neg (by simp [hc]), if_neg (by simp [hp]), if_neg (by simp [hp])]
theorem rt_qt_nil : rt px cm (.qt d) tok q [] = .noClose := by rw [rt]
theorem rt_qt_end1 (hc : (c == d) = true) (hp : px = true) : rt px cm (.qt d) tok q (c :: r) = rt px cm .wd tok true r := by rw [rt, if_pos hc, if_pos hp]
theorem rt_qt_end0 (hc : (c == d) = true) (hp : px = false) : rt px cm (.qt d) tok q (c :: r) = .out (tok ++ sg c) true false r := by rw [rt, if_pos hc, if_neg (by simp [hp])]
theorem rt_qt_es (hc : (c == d) = false) (hp : px = true) (hb : (c == 92) = true) (hd : (d == 34) = true) : rt px cm (.qt d) tok q (c :: r) = rt px cm (.es true) tok true r := by
  rw [rt, if_neg (by simp [hc]), if_pos (by simp [hp, hb, hd])]
theorem rt_qt_in (hc : (c == d) = false) (hb : (px && c == 92 && d == 34) = false) : rt px cm (.qt d) tok q (c :: r) = rt px cm (.qt d) (tok ++ sg c) true r := by
  rw [rt, if_neg (by simp [hc]), if_neg (by simp [hb])]
theorem rt_es_nil {e : Bool} : rt px cm (.es e) tok q [] = .noEsc := by rw [rt]
theorem rt_es0 : rt px cm (.es false) tok q (c :: r) = rt px cm .wd (tok ++ sg c) q r := by rw [rt]; rfl
theorem rt_es1 (hb : (!(c == 92) && !(c == 34)) = true) : rt px cm (.es true) tok q (c :: r) = rt px cm (.qt 34) (tok ++ sg 92 ++ sg c) q r := by rw [rt]; simp only [Bool.true_and, hb, if_true]
theorem rt_es2 (hb : (!(c == 92) && !(c == 34)) = false) : rt px cm (.es true) tok q (c :: r) = rt px cm (.qt 34) (tok ++ sg c) q r := by rw [rt]; simp only [Bool.true_and, hb, if_true, Bool.false_eq_true, if_false]
theorem rt_sp_wd (hw : isWs c = false) (hc : (cm && c == 35) = false) (hb : (px && c == 92) = false) (hq : isQt c = false) : rt px cm .sp tok q (c :: r) = rt px cm .wd (sg c) q r := by
  rw [rt, if_neg (by simp [hw]), if_neg (by simp [hc]), if_neg (by simp [hb]), if_neg (by simp [hq])]
end

def rrMsg : RR → Option Str
  | .noClose => some (Str.ofString "No closing quotation")
  | .noEsc => some (Str.ofString "No escaped character")
  | .out _ _ _ _ => none
/-- what read_token hands back -/
def tokVal (px quoted : Bool) (tok : Str) (t : Tok) : Value := if (px && !quoted && tok == Str.ofString "") = true then .none else .str tok t
def stOf (fin : Bool) : SS := if fin = true then .dn else .sp
theorem At.len {buf : Str} {pos : Int} {rest : List Nat} (h : At buf pos rest) : rest.length ≤ buf.length := by
  obtain ⟨_, _, e⟩ := h
  rw [← e, List.length_drop]
  have h2 : buf.length = buf.cps.toList.length := by simp [Str.length]
  omega
end Mine
namespace Mine
/-- is it the end, as the lexer tells it -/
def isEnd (px quoted : Bool) (tok : Str) : Bool := if px then !quoted && tok == Str.ofString "" else tok == Str.ofString ""
def eofVal (px : Bool) (t : Tok) : Value := if px = true then .none else .str (Str.ofString "") t
end Mine
namespace Mine
theorem top_off_RT04 : True := by
  w_top off
  exact trivial
local macro_rules | `(tactic| k_room) => `(tactic| ktr_room)
local macro_rules | `(tactic| k_units) => `(tactic| ktr_units)
local macro_rules | `(tactic| k_all) => `(tactic| assumption)
local macro_rules | `(tactic| walk_at "my enter") => `(tactic| k_dflt (refine' code_def ?k1 ?k2 ?k3 ?k4 ?k5 ?kA ?kF ?kK ?k6 ?k7 ?k8 ?k9 ?kB ?_ ?c2 ?c3 ?c4 ?c5; (case kA => exact rfl); (case kF => exact rfl); (case kK => assumption); (case k1 => k_asm); (case k2 => k_asm); (case k3 => k_asm); (case k4 => k_asm); (case k5 => k_asm); (case k6 => k_is); (case k7 => k_is); (case k8 => k_room); (case k9 => first | exact BindsTo.of_eq rfl | exact binds_K (by k_in) rfl (by k_is) rfl rfl rfl); (case c5 => decide); (case kB => exact locs rfl); (case c2 => exact rfl); (case c3 => exact rfl); (case c4 => exact rfl); k_whole; intro g' L' h' FG' F' N' B' X' T'; (try dsimp only); (try k_fold)))
local macro_rules | `(tactic| walk_at "leaving ref") => `(tactic| (k_here; first
  | (refine' leave_raiseS ?k1 (Heap.MadeExc.of (by assumption)) ?k2 ?k3 ?_; (case k1 => assumption); (case k2 => assumption); (case k3 => k_asm); k_whole; intro h' t' R' RK' U'; (try dsimp only at R' U' ⊢))
  | (refine' leave_onS ?k1 ?k2 ?k3 ?k4 ?_; (case k3 => assumption); (case k1 => assumption); (case k4 => assumption); (case k2 => assumption); k_whole; intro h' R' RK' U'; (try dsimp only at R' U' ⊢))))
local macro_rules | `(tactic| walk_at "compareOp In str str") => `(tactic| (k_here; with_reducible refine in_sg ?_))
local macro_rules | `(tactic| walk_at "compareOp In str str") => `(tactic| (k_here; with_reducible (first | refine in_ws ?_ | refine in_qt ?_ | refine in_bs ?_ | refine in_dq ?_ | refine in_none ?_ | refine in_a_qt ?_ | refine in_a_bs ?_)))
local macro_rules | `(tactic| walk_at "compareOp Eq str str") => `(tactic| (k_here; with_reducible refine eq_sg ?_))
local macro_rules | `(tactic| walk_at "compareOp NotEq str str") => `(tactic| (k_here; with_reducible refine ne_sg ?_))
local macro_rules | `(tactic| walk_at "truthy str") => `(tactic| (k_here; (with_reducible refine truthy_sg ?_)))
local macro_rules | `(tactic| walk_at "exec While Constant cons nil") => `(tactic| (refine Hold.out ?_))
local macro_rules | `(tactic| walk_at "call ref") => `(tactic| (k_here; (with_reducible show wpAny _ _ (call (Value.ref 540) _) _ _ _); k_dflt (refine' ctr_use (read1 _ _ _ _ _ _ _ _ _ _ _ _ _ _ _ _ _ _ ?hA ?hb ?o1 ?o2 ?o3 ?hn1) ?k1 ?k2 ?k3 ?k4 ?k5 ?kK ?kd ?ku ?_; (case k1 => k_asm); (case k2 => k_asm); (case k3 => k_asm); (case k4 => k_asm); (case k5 => k_asm); (case kK => first | exact rfl | assumption); (case hA => assumption); (case hb => assumption); (case o1 => assumption); (case o2 => assumption); (case o3 => assumption); (case hn1 => assumption); (case kd => ktr_room); (case ku => ktr_units); intro v9 h9 tk9 n9 F9 N9 P9; (obtain ⟨t9, pos9, up9, e9, hA9, f9⟩ := P9); (subst e9); (subst f9); (dsimp only [List.tail] at hA9 ⊢); (try k_fold))))
local macro_rules | `(tactic| walk_at "call ref") => `(tactic| (k_here; (with_reducible show wpAny _ _ (call (Value.ref 548) _) _ _ _); k_dflt (refine' ctr_use (readline _ _ _ _ _ _ _ _ _ _ _ _ _ _ _ _ _ ?hA ?hb ?o1 ?o2 ?o3 ?hn1) ?k1 ?k2 ?k3 ?k4 ?k5 ?kK ?kd ?ku ?_; (case k1 => k_asm); (case k2 => k_asm); (case k3 => k_asm); (case k4 => k_asm); (case k5 => k_asm); (case kK => first | exact rfl | assumption); (case hA => assumption); (case hb => assumption); (case o1 => assumption); (case o2 => assumption); (case o3 => assumption); (case hn1 => assumption); (case kd => ktr_room); (case ku => ktr_units); intro v9 h9 tk9 n9 F9 N9 P9; (obtain ⟨pos9, up9, hA9, f9⟩ := P9); (subst f9); (try k_fold))))
local macro_rules | `(tactic| walk_at "exec If") => `(tactic| (k_here; (with_reducible show wpAny _ _ (exec (Stmt.If (Expr.Compare (Expr.Name _ _) [CmpOp.Eq] [Expr.Constant _ _ _] _) [Stmt.AugAssign _ _ _ _] [] _) _) _ _ _); (fail_if_success (with_reducible show wpAny _ _ _ (LnPost _ _ _ _ _) _ _)); k_dflt (refine' ln_cut ?k1 ?k2 ?_ ?_; (case k1 => k_asm); (case k2 => k_asm)); (rotate_left; (intro h9 tk9 ln9 ul9 F9 N9; (try dsimp only)); rotate_left)))
local macro_rules | `(tactic| walk_at "inplaceOp Add str str") => `(tactic| (k_here; (with_reducible refine' iadd_sg ?ka ?_); (case ka => ((try simp only [len_app, len_sg]); omega)); intro _ _))
local macro_rules | `(tactic| walk_at "compareOp In str ref") => `(tactic| (k_here; (rename News _ _ _ _ => nac9); (with_unfolding_all refine in_ac nac9 ?_); clear nac9; intro nac9))
local macro_rules | `(tactic| walk_at "compareOp NotIn str str") => `(tactic| (k_here; with_reducible refine notin_none ?_))
set_option linter.unusedSimpArgs false
theorem read_token (w : World) (mean mg mb) (S dS I dI P Fk : Nat) (κ υ : Nat → Tok) (u ub up ul ut us : Tok) (px cmb : Bool) (vE : Value) (cm wc : Str) (ln : Int) (buf : Str) (pos : Int) (rest : List Nat) (news : Led) (st₀ : SS) (hst : st₀ = .sp ∨ st₀ = .dn) (hA : At buf pos rest) (hb : buf.length < 2 ^ 20)
   (o1 : dS < S) (o2 : S < dI) (o3 : dI < I) (hn1 : ∀ p ∈ news, p.1 ≠ dI) (hn2 : ∀ p ∈ news, p.1 ≠ dS) (hcm : ∀ c, inS cm c = (cmb && c == 35)) (hwc : ∀ c, inS wc c = true → isQt c = false) :
   CtrE w mean mg mb 697 [.ref S] (lexLed S dS I dI (lexDict w κ υ I P Fk px vE cm wc (stVal us st₀) ln ul (Str.ofString "") ut) (ioDict w κ u buf ub pos up) news) 6 64
     (fun v news' => ∃ tok quoted fin rest' us' ut' ul' up' ln' pos' t, rt px cmb st₀ (Str.ofString "") false rest = .out tok quoted fin rest' ∧ v = tokVal px quoted tok t ∧ At buf pos' rest' ∧ tok.length ≤ buf.length ∧
       news' = lexLed S dS I dI (lexDict w κ υ I P Fk px vE cm wc (stVal us' (stOf fin)) ln' ul' (Str.ofString "") ut') (ioDict w κ u buf ub pos' up') news)
     (fun cls vs news' => cls = "ValueError" ∧ (∃ msg t, rrMsg (rt px cmb st₀ (Str.ofString "") false rest) = some msg ∧ vs = [.str msg t]) ∧ ∀ p ∈ news, p ∈ news') := by
  have hpr := prog_here
  revert hpr
  unfold CtrE
  k_fill
  intro _ dp un gd cn cs a ccd cl outer A₀ base h₀ L m s Q E B F X N T hk hd hu hret hexc
  refine wpAny_call ?_
  walk_at "my enter"
  k_steps
  refine ⟨?_⟩
  rename Fr _ _ _ _ => F1
  rename News _ _ _ _ => N1
  refine loop_rule (S := S) (dS := dS) (I := I) (dI := dI) (P := P) (Fk := Fk) (κ := κ) (υ := υ) (u := u) (ub := ub) (px := px) (cmb := cmb) (vE := vE) (cm := cm) (wc := wc) (buf := buf) (news := news) (rt px cmb st₀ (Str.ofString "") false rest) (n₀ := rest.length) F1 N1 ⟨st₀, _, false, _, _, _, _, _, _, _, _, rest, rfl, rfl, hA, ?_, ?_, rfl, rfl, rfl, rfl⟩ ?_ ?_
  · have := hA.len
    rcases hst with rfl | rfl <;> (rw [len_none]; simp only [esN]; omega)
  · rcases hst with rfl | rfl
    · exact ⟨rfl, rfl⟩
    · trivial
  rotate_left
  · intro s' p
    obtain ⟨_, tok, quoted, fin, rest', us', ut', ul', up', ln', pos', m', h', tk', hR, rfl, F', N', hA', hsz', hm1, hm2⟩ := p.get
    clear F1 N1 p
    have em : m' = fun y => if y = Str.ofString "self" then some (.ref S) else if y = Str.ofString "quoted" then some (.bool quoted) else m' y := by
      funext y
      split
      · subst_vars; exact hm1
      · split
        · subst_vars; exact hm2
        · rfl
    rw [em] at F'
    generalize m' = m₁' at F'
    clear em hm1 hm2
    generalize hv : (if fin = true then Value.none else Value.str (Str.ofString " ") us') = vS at N'
    have hv' : vS = stVal us' (stOf fin) := by rw [← hv]; cases fin <;> rfl
    clear hv
    dsimp only
    k_steps
    all_goals (try dsimp only)
    all_goals (
      refine hret _ _ _ _ (by k_asm) (by k_asm) ⟨tok, quoted, fin, rest', us', _, _, _, _, _, ut', hR, ?_, hA', hsz', by rw [hv']⟩
      first
        | exact (if_neg (by simp [*])).symm
        | exact (if_pos (by simp [*])).symm)
  rintro n m₁ led h₁ tk₁ F₂ N₂ ⟨st, tok, quoted, esS, te, us, ut, ul, up, ln, pos, rest, rfl, hR, hAt, hsz, hok, rfl, hm1, hm2, hm3⟩
  clear F1 N1
  have em : m₁ = fun y => if y = Str.ofString "self" then some (.ref S) else if y = Str.ofString "quoted" then some (.bool quoted) else if y = Str.ofString "escapedstate" then some (.str esS te) else m₁ y := by
    funext y
    split
    · subst_vars; exact hm1
    · split
      · subst_vars; exact hm2
      · split
        · subst_vars; exact hm3
        · rfl
  rw [em] at F₂
  generalize m₁ = m₁' at F₂
  clear em hm1 hm2 hm3
  cases st with
  | dn =>
    dsimp only [stVal, stStr] at N₂
    cases rest with
    | nil =>
      k_steps
      all_goals first | exact ln_leaf (by k_asm) (by k_asm) | skip
      all_goals (try dsimp only)
      all_goals first
        | exact breakT (by k_asm) (by k_asm) (by exact rfl) (by exact rfl) ‹At buf _ []› (hR.symm.trans rt_dn) (by rw [len_none]; omega)
    | cons c r =>
      k_steps
      all_goals first | exact ln_leaf (by k_asm) (by k_asm) | skip
      all_goals (try dsimp only)
      all_goals first
        | exact breakT (by k_asm) (by k_asm) (by exact rfl) (by exact rfl) ‹At buf _ r› (hR.symm.trans rt_dn) (by rw [len_none]; omega)
  | sp =>
    dsimp only [stVal, stStr] at N₂
    obtain ⟨rfl, rfl⟩ := hok
    cases rest with
    | nil =>
      k_steps
      all_goals first | exact ln_leaf (by k_asm) (by k_asm) | skip
      all_goals (try dsimp only)
      all_goals first
        | exact breakT (by k_asm) (by k_asm) (by exact rfl) (by exact rfl) ‹At buf _ []› (hR.symm.trans rt_sp_nil) (by rw [len_none]; omega)
    | cons c r =>
      have hsg : (sg c).length = 1 := rfl
      k_steps
      all_goals first | exact ln_leaf (by k_asm) (by k_asm) | skip
      all_goals (try dsimp only)
      all_goals first
        | exact stepN _ (by first | exact .inl rfl | exact .inr rfl) .sp (by k_asm) (by k_asm) (by exact rfl) (by exact rfl) (by exact rfl) ‹At buf _ r› ((rt_sp_ws ‹isWs c = true›).symm.trans hR) (by simp only [esN, cond_true, cond_false, List.length_cons, len_none, len_sg] at hsz ⊢; omega) ⟨rfl, rfl⟩ (Nat.lt_succ_self _)
        | exact stepN _ (by first | exact .inl rfl | exact .inr rfl) .sp (by k_asm) (by k_asm) (by exact rfl) (by exact rfl) (by exact rfl) ‹At buf _ (afterLine r)› ((rt_sp_cm ‹isWs c = false› ((hcm c).symm.trans ‹inS cm c = true›)).symm.trans hR) (by have := afterLine_le r; simp only [esN, cond_true, cond_false, List.length_cons, len_none, len_sg] at hsz ⊢; omega) ⟨rfl, rfl⟩ (Nat.lt_succ_of_le (afterLine_le _))
        | exact stepN _ (by first | exact .inl rfl | exact .inr rfl) .wd (by k_asm) (by k_asm) (by exact rfl) (by exact rfl) (by exact rfl) ‹At buf _ r› ((rt_sp_wd ‹isWs c = false› ((hcm c).symm.trans ‹inS cm c = false›) (by first | (rw [‹px = false›]; rfl) | (rw [‹(c == 92) = false›, Bool.and_false])) (by first | assumption | exact hwc c ‹_›)).symm.trans hR) (by simp only [esN, cond_true, cond_false, List.length_cons, len_none, len_sg] at hsz ⊢; omega) (.inl (by rw [len_sg]; decide)) (Nat.lt_succ_self _)
        | exact stepN _ (by first | exact .inl rfl | exact .inr rfl) (.qt c) (by k_asm) (by k_asm) (by exact rfl) (by exact rfl) (by exact rfl) ‹At buf _ r› ((rt_sp_qt1 ‹isWs c = false› ((hcm c).symm.trans ‹inS cm c = false›) ‹px = true› ‹(c == 92) = false› ‹isQt c = true›).symm.trans hR) (by simp only [esN, cond_true, cond_false, List.length_cons, len_none, len_sg] at hsz ⊢; omega) (qt_of ‹isQt c = true›) (Nat.lt_succ_self _)
        | exact stepN _ (by first | exact .inl rfl | exact .inr rfl) (.qt c) (by k_asm) (by k_asm) (by exact rfl) (by exact rfl) (by exact rfl) ‹At buf _ r› ((rt_sp_qt0 ‹isWs c = false› ((hcm c).symm.trans ‹inS cm c = false›) ‹px = false› ‹isQt c = true›).symm.trans hR) (by simp only [esN, cond_true, cond_false, List.length_cons, len_none, len_sg] at hsz ⊢; omega) (qt_of ‹isQt c = true›) (Nat.lt_succ_self _)
        | (have hc92 := ‹(c == 92) = true›
           have hes := rt_sp_es (tok := Str.ofString "") (q := false) (r := r) ‹isWs c = false› ((hcm c).symm.trans ‹inS cm c = false›) ‹px = true› hc92
           obtain rfl : c = 92 := by simpa using hc92
           exact stepN _ (by first | exact .inl rfl | exact .inr rfl) (.es false) (by k_asm) (by k_asm) (by exact rfl) (by exact rfl) (by exact rfl) ‹At buf _ r› (hes.symm.trans hR) (by simp only [esN, cond_true, cond_false, List.length_cons, len_none, len_sg] at hsz ⊢; omega) ⟨‹px = true›, rfl⟩ (Nat.lt_succ_self _))
  | wd =>
    dsimp only [stVal, stStr] at N₂
    have hok' : px = true → quoted = false → tok.length ≠ 0 := fun a b => hok.elim id fun x => by rw [x.2] at b; cases b
    have hok0 : px = false → tok.length ≠ 0 := fun a => hok.elim id fun x => by rw [x.1] at a; cases a
    cases rest with
    | nil =>
      k_steps
      all_goals first | exact ln_leaf (by k_asm) (by k_asm) | skip
      all_goals (try dsimp only)
      all_goals first
        | exact breakT (by k_asm) (by k_asm) (by exact rfl) (by exact rfl) ‹At buf _ []› (hR.symm.trans rt_wd_nil) (by simp only [esN, cond_true, cond_false, List.length_cons, List.length_nil, len_none, len_sg, len_app, len_bs] at hsz ⊢; omega)
    | cons c r =>
      have htl : tok.length + 1 ≤ buf.length := by simp only [List.length_cons] at hsz; omega
      k_steps
      all_goals first | exact ln_leaf (by k_asm) (by k_asm) | skip
      all_goals (try dsimp only)
      all_goals first
        | exact breakF (by k_asm) (by k_asm) (by exact rfl) (by exact rfl) ‹At buf _ r› (hR.symm.trans (rt_wd_ws ‹isWs c = true›)) (by simp only [esN, cond_true, cond_false, List.length_cons, List.length_nil, len_none, len_sg, len_app, len_bs] at hsz ⊢; omega)
        | exact breakF (by k_asm) (by k_asm) (by exact rfl) (by exact rfl) ‹At buf _ (afterLine r)› (hR.symm.trans (rt_wd_cm1 ‹isWs c = false› ((hcm c).symm.trans ‹inS cm c = true›) ‹px = true›)) (by have := afterLine_le r; simp only [esN, cond_true, cond_false, List.length_cons, List.length_nil, len_none, len_sg, len_app, len_bs] at hsz ⊢; omega)
        | exact stepN _ (by first | exact .inl rfl | exact .inr rfl) .wd (by k_asm) (by k_asm) (by exact rfl) (by exact rfl) (by exact rfl) ‹At buf _ (afterLine r)› ((rt_wd_cm0 ‹isWs c = false› ((hcm c).symm.trans ‹inS cm c = true›) ‹px = false›).symm.trans hR) (by have := afterLine_le r; simp only [esN, cond_true, cond_false, List.length_cons, List.length_nil, len_none, len_sg, len_app, len_bs] at hsz ⊢; omega) hok (Nat.lt_succ_of_le (afterLine_le _))
        | exact stepN _ (by first | exact .inl rfl | exact .inr rfl) (.qt c) (by k_asm) (by k_asm) (by exact rfl) (by exact rfl) (by exact rfl) ‹At buf _ r› ((rt_wd_qt ‹isWs c = false› ((hcm c).symm.trans ‹inS cm c = false›) ‹px = true› ‹isQt c = true›).symm.trans hR) (by simp only [esN, cond_true, cond_false, List.length_cons, List.length_nil, len_none, len_sg, len_app, len_bs] at hsz ⊢; omega) (qt_of ‹isQt c = true›) (Nat.lt_succ_self _)
        | exact stepN _ (by first | exact .inl rfl | exact .inr rfl) .wd (by k_asm) (by k_asm) (by exact rfl) (by exact rfl) (by exact rfl) ‹At buf _ r› ((rt_wd_wd1 ‹isWs c = false› ((hcm c).symm.trans ‹inS cm c = false›) ‹isQt c = false› ‹(c == 92) = false›).symm.trans hR) (by simp only [esN, cond_true, cond_false, List.length_cons, List.length_nil, len_none, len_sg, len_app, len_bs] at hsz ⊢; omega) (.inl (by rw [len_app, len_sg]; omega)) (Nat.lt_succ_self _)
        | exact stepN _ (by first | exact .inl rfl | exact .inr rfl) .wd (by k_asm) (by k_asm) (by exact rfl) (by exact rfl) (by exact rfl) ‹At buf _ r› ((rt_wd_wd0 ‹isWs c = false› ((hcm c).symm.trans ‹inS cm c = false›) ‹px = false›).symm.trans hR) (by simp only [esN, cond_true, cond_false, List.length_cons, List.length_nil, len_none, len_sg, len_app, len_bs] at hsz ⊢; omega) (.inl (by rw [len_app, len_sg]; omega)) (Nat.lt_succ_self _)
        | (have hc92 := ‹(c == 92) = true›
           have hes := rt_wd_es (tok := tok) (q := quoted) (r := r) ‹isWs c = false› ((hcm c).symm.trans ‹inS cm c = false›) ‹px = true› ‹isQt c = false› hc92
           obtain rfl : c = 92 := by simpa using hc92
           exact stepN _ (by first | exact .inl rfl | exact .inr rfl) (.es false) (by k_asm) (by k_asm) (by exact rfl) (by exact rfl) (by exact rfl) ‹At buf _ r› (hes.symm.trans hR) (by simp only [esN, cond_true, cond_false, List.length_cons, List.length_nil, len_none, len_sg, len_app, len_bs] at hsz ⊢; omega) ⟨‹px = true›, rfl⟩ (Nat.lt_succ_self _))
        | exact absurd (by omega) (hok' ‹px = true› ‹quoted = false›)
        | exact absurd (by omega) (hok0 ‹px = false›)
  | qt d =>
    dsimp only [stVal, stStr] at N₂
    rcases hok with rfl | rfl
    · cases rest with
      | nil =>
        k_steps
        all_goals first | exact ln_leaf (by k_asm) (by k_asm) | skip
        all_goals (try dsimp only)
        all_goals exact hexc _ _ _ _ _ _ _ _ ‹RaisedS base _ _ _ _ _ _ _ _› ‹Fr h₀ L _ m› ‹_› ⟨rfl, ⟨_, _, by rw [← hR, rt_qt_nil]; rfl, rfl⟩, fun _ hp => .tail _ (.tail _ (.tail _ (.tail _ hp)))⟩
      | cons c r =>
        have htl : tok.length + 1 ≤ buf.length := by simp only [List.length_cons] at hsz; omega
        k_steps
        all_goals first | exact ln_leaf (by k_asm) (by k_asm) | skip
        all_goals (try dsimp only)
        all_goals first
          | exact stepN _ (by first | exact .inl rfl | exact .inr rfl) .wd (by k_asm) (by k_asm) (by exact rfl) (by exact rfl) (by exact rfl) ‹At buf _ r› ((rt_qt_end1 ‹(c == 39) = true› ‹px = true›).symm.trans hR) (by simp only [esN, cond_true, cond_false, List.length_cons, List.length_nil, len_none, len_sg, len_app, len_bs] at hsz ⊢; omega) (.inr ⟨‹px = true›, rfl⟩) (Nat.lt_succ_self _)
          | exact breakF (by k_asm) (by k_asm) (by exact rfl) (by exact rfl) ‹At buf _ r› (hR.symm.trans (rt_qt_end0 ‹(c == 39) = true› ‹px = false›)) (by simp only [esN, cond_true, cond_false, List.length_cons, List.length_nil, len_none, len_sg, len_app, len_bs] at hsz ⊢; omega)
          | exact stepN _ (by first | exact .inl rfl | exact .inr rfl) (.qt 39) (by k_asm) (by k_asm) (by exact rfl) (by exact rfl) (by exact rfl) ‹At buf _ r› ((rt_qt_in ‹(c == 39) = false› (by first | (rw [‹px = false›]; rfl) | (rw [‹(c == 92) = false›]; cases px <;> rfl) | (cases px <;> cases c == 92 <;> rfl))).symm.trans hR) (by simp only [esN, cond_true, cond_false, List.length_cons, List.length_nil, len_none, len_sg, len_app, len_bs] at hsz ⊢; omega) (by first | exact .inl rfl | exact .inr rfl) (Nat.lt_succ_self _)
          | (have hc92 := ‹(c == 92) = true›
             have hes := rt_qt_es (cm := cmb) (d := 39) (tok := tok) (q := quoted) (r := r) ‹(c == 39) = false› ‹px = true› hc92 (by rfl)
             obtain rfl : c = 92 := by simpa using hc92
             exact stepN _ (by first | exact .inl rfl | exact .inr rfl) (.es true) (by k_asm) (by k_asm) (by exact rfl) (by exact rfl) (by exact rfl) ‹At buf _ r› (hes.symm.trans hR) (by simp only [esN, cond_true, cond_false, List.length_cons, List.length_nil, len_none, len_sg, len_app, len_bs] at hsz ⊢; omega) ⟨‹px = true›, rfl⟩ (Nat.lt_succ_self _))
  
    · cases rest with
      | nil =>
        k_steps
        all_goals first | exact ln_leaf (by k_asm) (by k_asm) | skip
        all_goals (try dsimp only)
        all_goals exact hexc _ _ _ _ _ _ _ _ ‹RaisedS base _ _ _ _ _ _ _ _› ‹Fr h₀ L _ m› ‹_› ⟨rfl, ⟨_, _, by rw [← hR, rt_qt_nil]; rfl, rfl⟩, fun _ hp => .tail _ (.tail _ (.tail _ (.tail _ hp)))⟩
      | cons c r =>
        have htl : tok.length + 1 ≤ buf.length := by simp only [List.length_cons] at hsz; omega
        k_steps
        all_goals first | exact ln_leaf (by k_asm) (by k_asm) | skip
        all_goals (try dsimp only)
        all_goals first
          | exact stepN _ (by first | exact .inl rfl | exact .inr rfl) .wd (by k_asm) (by k_asm) (by exact rfl) (by exact rfl) (by exact rfl) ‹At buf _ r› ((rt_qt_end1 ‹(c == 34) = true› ‹px = true›).symm.trans hR) (by simp only [esN, cond_true, cond_false, List.length_cons, List.length_nil, len_none, len_sg, len_app, len_bs] at hsz ⊢; omega) (.inr ⟨‹px = true›, rfl⟩) (Nat.lt_succ_self _)
          | exact breakF (by k_asm) (by k_asm) (by exact rfl) (by exact rfl) ‹At buf _ r› (hR.symm.trans (rt_qt_end0 ‹(c == 34) = true› ‹px = false›)) (by simp only [esN, cond_true, cond_false, List.length_cons, List.length_nil, len_none, len_sg, len_app, len_bs] at hsz ⊢; omega)
          | exact stepN _ (by first | exact .inl rfl | exact .inr rfl) (.qt 34) (by k_asm) (by k_asm) (by exact rfl) (by exact rfl) (by exact rfl) ‹At buf _ r› ((rt_qt_in ‹(c == 34) = false› (by first | (rw [‹px = false›]; rfl) | (rw [‹(c == 92) = false›]; cases px <;> rfl) | (cases px <;> cases c == 92 <;> rfl))).symm.trans hR) (by simp only [esN, cond_true, cond_false, List.length_cons, List.length_nil, len_none, len_sg, len_app, len_bs] at hsz ⊢; omega) (by first | exact .inl rfl | exact .inr rfl) (Nat.lt_succ_self _)
          | (have hc92 := ‹(c == 92) = true›
             have hes := rt_qt_es (cm := cmb) (d := 34) (tok := tok) (q := quoted) (r := r) ‹(c == 34) = false› ‹px = true› hc92 (by rfl)
             obtain rfl : c = 92 := by simpa using hc92
             exact stepN _ (by first | exact .inl rfl | exact .inr rfl) (.es true) (by k_asm) (by k_asm) (by exact rfl) (by exact rfl) (by exact rfl) ‹At buf _ r› (hes.symm.trans hR) (by simp only [esN, cond_true, cond_false, List.length_cons, List.length_nil, len_none, len_sg, len_app, len_bs] at hsz ⊢; omega) ⟨‹px = true›, rfl⟩ (Nat.lt_succ_self _))
    | es dq =>
    dsimp only [stVal, stStr] at N₂
    obtain ⟨hpx, rfl⟩ := hok
    cases dq
    · simp only [Bool.false_eq_true, if_false, if_true] at F₂
      cases rest with
      | nil =>
        k_steps
        all_goals first | exact ln_leaf (by k_asm) (by k_asm) | skip
        all_goals (try dsimp only)
        all_goals exact hexc _ _ _ _ _ _ _ _ ‹RaisedS base _ _ _ _ _ _ _ _› ‹Fr h₀ L _ m› ‹_› ⟨rfl, ⟨_, _, by rw [← hR, rt_es_nil]; rfl, rfl⟩, fun _ hp => .tail _ (.tail _ (.tail _ (.tail _ hp)))⟩
      | cons c r =>
        have htl : tok.length + 1 ≤ buf.length := by simp only [List.length_cons] at hsz; omega
        k_steps
        all_goals first | exact ln_leaf (by k_asm) (by k_asm) | skip
        all_goals (try dsimp only)
        all_goals first
          | exact stepN _ (by first | exact .inl rfl | exact .inr rfl) .wd (by k_asm) (by k_asm) (by exact rfl) (by exact rfl) (by exact rfl) ‹At buf _ r› (rt_es0.symm.trans hR) (by simp only [esN, cond_true, cond_false, List.length_cons, List.length_nil, len_none, len_sg, len_app, len_bs] at hsz ⊢; omega) (.inl (by rw [len_app, len_sg]; omega)) (Nat.lt_succ_self _)
  
    · simp only [Bool.false_eq_true, if_false, if_true] at F₂
      cases rest with
      | nil =>
        k_steps
        all_goals first | exact ln_leaf (by k_asm) (by k_asm) | skip
        all_goals (try dsimp only)
        all_goals exact hexc _ _ _ _ _ _ _ _ ‹RaisedS base _ _ _ _ _ _ _ _› ‹Fr h₀ L _ m› ‹_› ⟨rfl, ⟨_, _, by rw [← hR, rt_es_nil]; rfl, rfl⟩, fun _ hp => .tail _ (.tail _ (.tail _ (.tail _ hp)))⟩
      | cons c r =>
        have htl : tok.length + 1 ≤ buf.length := by simp only [List.length_cons] at hsz; omega
        k_steps
        all_goals first | exact ln_leaf (by k_asm) (by k_asm) | skip
        all_goals (try dsimp only)
        all_goals first
          | exact stepN _ (by first | exact .inl rfl | exact .inr rfl) (.qt 34) (by k_asm) (by k_asm) (by exact rfl) (by exact rfl) (by exact rfl) ‹At buf _ r› ((rt_es2 (by first | (rw [‹(c == 92) = true›]; rfl) | (rw [‹(c == 34) = true›]; cases c == 92 <;> rfl) | assumption)).symm.trans hR) (by simp only [esN, cond_true, cond_false, List.length_cons, List.length_nil, len_none, len_sg, len_app, len_bs] at hsz ⊢; omega) (.inr rfl) (Nat.lt_succ_self _)
          | exact stepN _ (by first | exact .inl rfl | exact .inr rfl) (.qt 34) (by k_asm) (by k_asm) (by exact rfl) (by exact rfl) (by exact rfl) ‹At buf _ r› ((rt_es1 (by rw [‹(c == 92) = false›, ‹(c == 34) = false›]; rfl)).symm.trans hR) (by simp only [esN, cond_true, cond_false, List.length_cons, List.length_nil, len_none, len_sg, len_app, len_bs] at hsz ⊢; omega) (.inr rfl) (Nat.lt_succ_self _)
end Mine
namespace Mine
theorem top_off_GT04 : True := by
  w_top off
  exact trivial
local macro_rules | `(tactic| walk_at "none 0") => `(tactic| skip)
local macro_rules | `(tactic| walk_at "none 1") => `(tactic| skip)
local macro_rules | `(tactic| walk_at "none 2") => `(tactic| skip)
local macro_rules | `(tactic| walk_at "none 3") => `(tactic| skip)
local macro_rules | `(tactic| walk_at "none 4") => `(tactic| skip)
local macro_rules | `(tactic| walk_at "none 5") => `(tactic| skip)
local macro_rules | `(tactic| walk_at "none 6") => `(tactic| skip)
local macro_rules | `(tactic| walk_at "none 7") => `(tactic| skip)
local macro_rules | `(tactic| walk_at "none 8") => `(tactic| skip)
local macro_rules | `(tactic| walk_at "none 9") => `(tactic| skip)
local macro_rules | `(tactic| walk_at "none 10") => `(tactic| skip)
local macro_rules | `(tactic| walk_at "none 11") => `(tactic| skip)
local macro_rules | `(tactic| walk_at "none 12") => `(tactic| skip)
local macro_rules | `(tactic| k_room) => `(tactic| ktr_room)
local macro_rules | `(tactic| k_units) => `(tactic| ktr_units)
local macro_rules | `(tactic| k_all) => `(tactic| assumption)
local macro_rules | `(tactic| walk_at "my enter") => `(tactic| k_dflt (refine' code_def ?k1 ?k2 ?k3 ?k4 ?k5 ?kA ?kF ?kK ?k6 ?k7 ?k8 ?k9 ?kB ?_ ?c2 ?c3 ?c4 ?c5; (case kA => exact rfl); (case kF => exact rfl); (case kK => assumption); (case k1 => k_asm); (case k2 => k_asm); (case k3 => k_asm); (case k4 => k_asm); (case k5 => k_asm); (case k6 => k_is); (case k7 => k_is); (case k8 => k_room); (case k9 => first | exact BindsTo.of_eq rfl | exact binds_K (by k_in) rfl (by k_is) rfl rfl rfl); (case c5 => decide); (case kB => exact locs rfl); (case c2 => exact rfl); (case c3 => exact rfl); (case c4 => exact rfl); k_whole; intro g' L' h' FG' F' N' B' X' T'; (try dsimp only); (try k_fold)))
local macro_rules | `(tactic| walk_at "leaving ref") => `(tactic| (k_here; first
  | (refine' leave_raiseS ?k1 (Heap.MadeExc.of (by assumption)) ?k2 ?k3 ?_; (case k1 => assumption); (case k2 => assumption); (case k3 => k_asm); k_whole; intro h' t' R' RK' U'; (try dsimp only at R' U' ⊢))
  | (refine' leave_onS ?k1 ?k2 ?k3 ?k4 ?_; (case k3 => assumption); (case k1 => assumption); (case k4 => assumption); (case k2 => assumption); k_whole; intro h' R' RK' U'; (try dsimp only at R' U' ⊢))))
theorem while_once {prog : Program} {w : World} {A : Around} {E : Value → Shared → Prop} {Q : Flow → Shared → Prop} {s : Shared} {env : Env} {test : Expr} {body : List Stmt} {pos : Pos}
    (turn : wpAny (model prog w) A (isTrue test env (eval test env)) (fun b s₂ => if b = true then wpAny (model prog w) A (execs body env) (fun f s₃ => match f with | .ret v => Q (.ret v) s₃ | .brk => Q .next s₃ | _ => False) E s₂ else Q .next s₂) E s)
    (hE : PassesOwn (model prog w) A env E := by passes_own) : wpAny (model prog w) A (exec (.While test body [] pos) env) Q E s := by
  refine wpAny_While (codeAny_whileLoop (fun n s' => n = 0 ∧ s' = s) ?_ 0 ⟨rfl, rfl⟩)
  rintro n s' ⟨rfl, rfl⟩
  refine wpAny_mono turn (fun b s₂ h₂ => ?_) hE
  cases b with
  | false =>
    simp only [Bool.false_eq_true, if_false] at h₂ ⊢
    exact wpAny_execs_nil h₂
  | true =>
    simp only [if_true] at h₂ ⊢
    refine wpAny_mono h₂ (fun f s₃ h₃ => ?_) hE
    cases f with
    | next => exact h₃.elim
    | cont => exact h₃.elim
    | brk => exact h₃
    | ret v => exact h₃
theorem tokVal_cases {px q : Bool} {tok : Str} {t : Tok} {v : Value} (h : v = tokVal px q tok t) : ((px && !q && tok == Str.ofString "") = true ∧ v = .none) ∨ ((px && !q && tok == Str.ofString "") = false ∧ v = .str tok t) := by
  unfold tokVal at h
  split at h
  · rename_i hc; exact .inl ⟨hc, h⟩
  · rename_i hc; exact .inr ⟨by simpa using hc, h⟩
local macro_rules | `(tactic| walk_at "exec While Compare cons nil") => `(tactic| (k_here; refine while_once ?_))
local macro_rules | `(tactic| walk_at "truthy ref") => `(tactic| (k_here; k_dflt (refine' dq_truthyN ?k1 ?k2 ?_; (case k1 => k_asm); (case k2 => k_mem); k_whole)))
local macro_rules | `(tactic| walk_at "call ref") => `(tactic| (k_here; (with_reducible show wpAny _ _ (call (Value.ref 697) _) _ _ _); k_dflt (refine' ctrE_use (read_token _ _ _ _ _ _ _ _ _ _ _ _ _ _ _ _ _ _ _ _ _ _ _ _ _ _ _ _ _ ?hst ?hA ?hb ?o1 ?o2 ?o3 ?hn1 ?hn2 ?hcm ?hwc) ?k1 ?k2 ?k3 ?k4 ?k5 ?kK ?kd ?ku ?_ ?_; (case k1 => k_asm); (case k2 => k_asm); (case k3 => k_asm); (case k4 => k_asm); (case k5 => k_asm); (case kK => first | exact rfl | assumption); (case hst => assumption); (case hA => assumption); (case hb => assumption); (case o1 => assumption); (case o2 => assumption); (case o3 => assumption); (case hn1 => assumption); (case hn2 => assumption); (case hcm => assumption); (case hwc => assumption); (case kd => ktr_room); (case ku => ktr_units)); (rotate_left; (intro e9 t9 c9 v9 h9 tk9 n9 g9 R9 F9 U9 P9; (obtain ⟨e91, ⟨msg9, t91, hm91, hv91⟩, hs9⟩ := P9); (subst e91); (subst hv91); (try k_fold)); rotate_left; (intro v9 h9 tk9 n9 F9 N9 P9; (obtain ⟨tok9, q9, fin9, rest9, us9, ut9, ul9, up9, ln9, pos9, t9, hR9, hv9, hA9, hs9, hn9⟩ := P9); (subst hn9); (rcases tokVal_cases hv9 with ⟨hc9, hx9⟩ | ⟨hc9, hx9⟩ <;> (subst hx9; clear hv9)); (any_goals (try (exact absurd hc9 Bool.false_ne_true))); (try k_fold)))))
theorem get_token (w : World) (mean mg mb) (S dS I dI P Fk : Nat) (κ υ : Nat → Tok) (u ub up ul ut us te : Tok) (px cmb : Bool) (cm wc : Str) (ln : Int) (buf : Str) (pos : Int) (rest : List Nat) (news : Led) (st₀ : SS) (hst : st₀ = .sp ∨ st₀ = .dn) (hA : At buf pos rest) (hb : buf.length < 2 ^ 20)
   (o1 : dS < S) (o2 : S < dI) (o3 : dI < I) (hn1 : ∀ p ∈ (P, dqObj) :: (Fk, dqObj) :: news, p.1 ≠ dI) (hn2 : ∀ p ∈ (P, dqObj) :: (Fk, dqObj) :: news, p.1 ≠ dS) (hcm : ∀ c, inS cm c = (cmb && c == 35)) (hwc : ∀ c, inS wc c = true → isQt c = false) :
   CtrE w mean mg mb 690 [.ref S] (lexLed S dS I dI (lexDict w κ υ I P Fk px (eofVal px te) cm wc (stVal us st₀) ln ul (Str.ofString "") ut) (ioDict w κ u buf ub pos up) ((P, dqObj) :: (Fk, dqObj) :: news)) 8 80
     (fun v news' => ∃ tok quoted fin rest' us' ut' ul' up' ln' pos' t, rt px cmb st₀ (Str.ofString "") false rest = .out tok quoted fin rest' ∧ v = (if isEnd px quoted tok = true then eofVal px te else .str tok t) ∧ At buf pos' rest' ∧ tok.length ≤ buf.length ∧
       news' = lexLed S dS I dI (lexDict w κ υ I P Fk px (eofVal px te) cm wc (stVal us' (stOf fin)) ln' ul' (Str.ofString "") ut') (ioDict w κ u buf ub pos' up') ((P, dqObj) :: (Fk, dqObj) :: news))
     (fun cls vs news' => cls = "ValueError" ∧ (∃ msg t, rrMsg (rt px cmb st₀ (Str.ofString "") false rest) = some msg ∧ vs = [.str msg t]) ∧ ∀ p ∈ (P, dqObj) :: (Fk, dqObj) :: news, p ∈ news') := by
  have hpr := prog_here
  revert hpr
  unfold CtrE
  k_fill
  intro _ dp un gd cn cs a ccd cl outer A₀ base h₀ L m s Q E B F X N T hk hd hu hret hexc
  cases px
  · rw [show eofVal false te = Value.str (Str.ofString "") te from rfl] at N
    refine wpAny_call ?_
    walk_at "my enter"
    k_steps
    all_goals first
      | exact absurd ‹(false && _ && _) = true› Bool.false_ne_true
      | exact hexc _ _ _ _ _ _ _ _ ‹RaisedS base _ _ _ _ _ _ _ _› ‹Fr h₀ L _ m› ‹_› ⟨rfl, ⟨_, _, ‹rrMsg _ = some _›, rfl⟩, ‹∀ p ∈ _, p ∈ _›⟩
      | (refine hret _ _ _ _ (by k_asm) (by k_asm) ⟨_, _, _, _, _, _, _, _, _, _, 0, ‹rt _ _ _ _ _ _ = RR.out _ _ _ _›, (if_pos ?_).symm, ‹At buf _ _›, ‹_ ≤ buf.length›, rfl⟩; first | assumption | (simpa [isEnd] using ‹(true && _ && _) = true›))
      | (refine hret _ _ _ _ (by k_asm) (by k_asm) ⟨_, _, _, _, _, _, _, _, _, _, _, ‹rt _ _ _ _ _ _ = RR.out _ _ _ _›, (if_neg ?_).symm, ‹At buf _ _›, ‹_ ≤ buf.length›, rfl⟩; first | (simp only [isEnd, Bool.false_eq_true, if_false]; simp [*]; done) | (exact fun h => Bool.noConfusion ((show isEnd true _ _ = false from ‹(true && _ && _) = false›).symm.trans h)))
  · rw [show eofVal true te = Value.none from rfl] at N
    refine wpAny_call ?_
    walk_at "my enter"
    k_steps
    all_goals first
      | exact absurd ‹(false && _ && _) = true› Bool.false_ne_true
      | exact hexc _ _ _ _ _ _ _ _ ‹RaisedS base _ _ _ _ _ _ _ _› ‹Fr h₀ L _ m› ‹_› ⟨rfl, ⟨_, _, ‹rrMsg _ = some _›, rfl⟩, ‹∀ p ∈ _, p ∈ _›⟩
      | (refine hret _ _ _ _ (by k_asm) (by k_asm) ⟨_, _, _, _, _, _, _, _, _, _, 0, ‹rt _ _ _ _ _ _ = RR.out _ _ _ _›, (if_pos ?_).symm, ‹At buf _ _›, ‹_ ≤ buf.length›, rfl⟩; first | assumption | (simpa [isEnd] using ‹(true && _ && _) = true›))
      | (refine hret _ _ _ _ (by k_asm) (by k_asm) ⟨_, _, _, _, _, _, _, _, _, _, _, ‹rt _ _ _ _ _ _ = RR.out _ _ _ _›, (if_neg ?_).symm, ‹At buf _ _›, ‹_ ≤ buf.length›, rfl⟩; first | (simp only [isEnd, Bool.false_eq_true, if_false]; simp [*]; done) | (exact fun h => Bool.noConfusion ((show isEnd true _ _ = false from ‹(true && _ && _) = false›).symm.trans h)))
end Mine
namespace Mine
theorem top_off_NX04 : True := by
  w_top off
  exact trivial
local macro_rules | `(tactic| walk_at "none 0") => `(tactic| skip)
local macro_rules | `(tactic| walk_at "none 1") => `(tactic| skip)
local macro_rules | `(tactic| walk_at "none 2") => `(tactic| skip)
local macro_rules | `(tactic| walk_at "none 3") => `(tactic| skip)
local macro_rules | `(tactic| walk_at "none 4") => `(tactic| skip)
local macro_rules | `(tactic| walk_at "none 5") => `(tactic| skip)
local macro_rules | `(tactic| walk_at "none 6") => `(tactic| skip)
local macro_rules | `(tactic| walk_at "none 7") => `(tactic| skip)
local macro_rules | `(tactic| walk_at "none 8") => `(tactic| skip)
local macro_rules | `(tactic| walk_at "none 9") => `(tactic| skip)
local macro_rules | `(tactic| walk_at "none 10") => `(tactic| skip)
local macro_rules | `(tactic| walk_at "none 11") => `(tactic| skip)
local macro_rules | `(tactic| walk_at "none 12") => `(tactic| skip)
local macro_rules | `(tactic| walk_at "none 13") => `(tactic| skip)
local macro_rules | `(tactic| walk_at "none 14") => `(tactic| skip)
local macro_rules | `(tactic| walk_at "none 15") => `(tactic| skip)
local macro_rules | `(tactic| walk_at "none 16") => `(tactic| skip)
local macro_rules | `(tactic| k_room) => `(tactic| ktr_room)
local macro_rules | `(tactic| k_units) => `(tactic| ktr_units)
local macro_rules | `(tactic| k_all) => `(tactic| assumption)
local macro_rules | `(tactic| walk_at "my enter") => `(tactic| k_dflt (refine' code_def ?k1 ?k2 ?k3 ?k4 ?k5 ?kA ?kF ?kK ?k6 ?k7 ?k8 ?k9 ?kB ?_ ?c2 ?c3 ?c4 ?c5; (case kA => exact rfl); (case kF => exact rfl); (case kK => assumption); (case k1 => k_asm); (case k2 => k_asm); (case k3 => k_asm); (case k4 => k_asm); (case k5 => k_asm); (case k6 => k_is); (case k7 => k_is); (case k8 => k_room); (case k9 => first | exact BindsTo.of_eq rfl | exact binds_K (by k_in) rfl (by k_is) rfl rfl rfl); (case c5 => decide); (case kB => exact locs rfl); (case c2 => exact rfl); (case c3 => exact rfl); (case c4 => exact rfl); k_whole; intro g' L' h' FG' F' N' B' X' T'; (try dsimp only); (try k_fold)))
local macro_rules | `(tactic| walk_at "leaving ref") => `(tactic| (k_here; first
  | (refine' leave_raiseS ?k1 (Heap.MadeExc.of (by assumption)) ?k2 ?k3 ?_; (case k1 => assumption); (case k2 => assumption); (case k3 => k_asm); k_whole; intro h' t' R' RK' U'; (try dsimp only at R' U' ⊢))
  | (refine' leave_onS ?k1 ?k2 ?k3 ?k4 ?_; (case k3 => assumption); (case k1 => assumption); (case k4 => assumption); (case k2 => assumption); k_whole; intro h' R' RK' U'; (try dsimp only at R' U' ⊢))))
theorem ite_cases {c : Bool} {a b v : Value} (h : v = if c = true then a else b) : (c = true ∧ v = a) ∨ (c = false ∧ v = b) := by
  cases c
  · exact .inr ⟨rfl, h⟩
  · exact .inl ⟨rfl, h⟩
theorem get_token0 (w : World) (mean mg mb) (S dS I dI P Fk : Nat) (κ υ : Nat → Tok) (u ub up ul ut us te : Tok) (cmb : Bool) (cm wc : Str) (ln : Int) (buf : Str) (pos : Int) (rest : List Nat) (news : Led) (st₀ : SS) (hst : st₀ = .sp ∨ st₀ = .dn) (hA : At buf pos rest) (hb : buf.length < 2 ^ 20)
   (o1 : dS < S) (o2 : S < dI) (o3 : dI < I) (hn1 : ∀ p ∈ (P, dqObj) :: (Fk, dqObj) :: news, p.1 ≠ dI) (hn2 : ∀ p ∈ (P, dqObj) :: (Fk, dqObj) :: news, p.1 ≠ dS) (hcm : ∀ c, inS cm c = (cmb && c == 35)) (hwc : ∀ c, inS wc c = true → isQt c = false) :
   CtrE w mean mg mb 690 [.ref S] (lexLed S dS I dI (lexDict w κ υ I P Fk false (.str (Str.ofString "") te) cm wc (stVal us st₀) ln ul (Str.ofString "") ut) (ioDict w κ u buf ub pos up) ((P, dqObj) :: (Fk, dqObj) :: news)) 8 80
     (fun v news' => ∃ tok quoted fin rest' us' ut' ul' up' ln' pos' t, rt false cmb st₀ (Str.ofString "") false rest = .out tok quoted fin rest' ∧ v = (if isEnd false quoted tok = true then (.str (Str.ofString "") te) else .str tok t) ∧ At buf pos' rest' ∧ tok.length ≤ buf.length ∧
       news' = lexLed S dS I dI (lexDict w κ υ I P Fk false (.str (Str.ofString "") te) cm wc (stVal us' (stOf fin)) ln' ul' (Str.ofString "") ut') (ioDict w κ u buf ub pos' up') ((P, dqObj) :: (Fk, dqObj) :: news))
     (fun cls vs news' => cls = "ValueError" ∧ (∃ msg t, rrMsg (rt false cmb st₀ (Str.ofString "") false rest) = some msg ∧ vs = [.str msg t]) ∧ ∀ p ∈ (P, dqObj) :: (Fk, dqObj) :: news, p ∈ news') :=
  get_token w mean mg mb S dS I dI P Fk κ υ u ub up ul ut us te false cmb cm wc ln buf pos rest news st₀ hst hA hb o1 o2 o3 hn1 hn2 hcm hwc
theorem get_token1 (w : World) (mean mg mb) (S dS I dI P Fk : Nat) (κ υ : Nat → Tok) (u ub up ul ut us : Tok) (cmb : Bool) (cm wc : Str) (ln : Int) (buf : Str) (pos : Int) (rest : List Nat) (news : Led) (st₀ : SS) (hst : st₀ = .sp ∨ st₀ = .dn) (hA : At buf pos rest) (hb : buf.length < 2 ^ 20)
   (o1 : dS < S) (o2 : S < dI) (o3 : dI < I) (hn1 : ∀ p ∈ (P, dqObj) :: (Fk, dqObj) :: news, p.1 ≠ dI) (hn2 : ∀ p ∈ (P, dqObj) :: (Fk, dqObj) :: news, p.1 ≠ dS) (hcm : ∀ c, inS cm c = (cmb && c == 35)) (hwc : ∀ c, inS wc c = true → isQt c = false) :
   CtrE w mean mg mb 690 [.ref S] (lexLed S dS I dI (lexDict w κ υ I P Fk true .none cm wc (stVal us st₀) ln ul (Str.ofString "") ut) (ioDict w κ u buf ub pos up) ((P, dqObj) :: (Fk, dqObj) :: news)) 8 80
     (fun v news' => ∃ tok quoted fin rest' us' ut' ul' up' ln' pos' t, rt true cmb st₀ (Str.ofString "") false rest = .out tok quoted fin rest' ∧ v = (if isEnd true quoted tok = true then .none else .str tok t) ∧ At buf pos' rest' ∧ tok.length ≤ buf.length ∧
       news' = lexLed S dS I dI (lexDict w κ υ I P Fk true .none cm wc (stVal us' (stOf fin)) ln' ul' (Str.ofString "") ut') (ioDict w κ u buf ub pos' up') ((P, dqObj) :: (Fk, dqObj) :: news))
     (fun cls vs news' => cls = "ValueError" ∧ (∃ msg t, rrMsg (rt true cmb st₀ (Str.ofString "") false rest) = some msg ∧ vs = [.str msg t]) ∧ ∀ p ∈ (P, dqObj) :: (Fk, dqObj) :: news, p ∈ news') :=
  get_token w mean mg mb S dS I dI P Fk κ υ u ub up ul ut us 0 true cmb cm wc ln buf pos rest news st₀ hst hA hb o1 o2 o3 hn1 hn2 hcm hwc
local macro_rules | `(tactic| walk_at "call ref") => `(tactic| (k_here; (with_reducible show wpAny _ _ (call (Value.ref 690) _) _ _ _); k_dflt (refine' ctrE_use (get_token0 _ _ _ _ _ _ _ _ _ _ _ _ _ _ _ _ _ _ _ _ _ _ _ _ _ _ _ _ ?hst ?hA ?hb ?o1 ?o2 ?o3 ?hn1 ?hn2 ?hcm ?hwc) ?k1 ?k2 ?k3 ?k4 ?k5 ?kK ?kd ?ku ?_ ?_; (case k1 => k_asm); (case k2 => k_asm); (case k3 => k_asm); (case k4 => k_asm); (case k5 => k_asm); (case kK => first | exact rfl | assumption); (case hst => assumption); (case hA => assumption); (case hb => assumption); (case o1 => assumption); (case o2 => assumption); (case o3 => assumption); (case hn1 => assumption); (case hn2 => assumption); (case hcm => assumption); (case hwc => assumption); (case kd => ktr_room); (case ku => ktr_units)); (rotate_left; (intro e9 t9 c9 v9 h9 tk9 n9 g9 R9 F9 U9 P9; (obtain ⟨e91, ⟨msg9, t91, hm91, hv91⟩, hs9⟩ := P9); (subst e91); (subst hv91); (try k_fold)); rotate_left; (intro v9 h9 tk9 n9 F9 N9 P9; (obtain ⟨tok9, q9, fin9, rest9, us9, ut9, ul9, up9, ln9, pos9, t9, hR9, hv9, hA9, hs9, hn9⟩ := P9); (subst hn9); (rcases ite_cases hv9 with ⟨hc9, hx9⟩ | ⟨hc9, hx9⟩ <;> (subst hx9; clear hv9)); (try k_fold)))))
local macro_rules | `(tactic| walk_at "call ref") => `(tactic| (k_here; (with_reducible show wpAny _ _ (call (Value.ref 690) _) _ _ _); k_dflt (refine' ctrE_use (get_token1 _ _ _ _ _ _ _ _ _ _ _ _ _ _ _ _ _ _ _ _ _ _ _ _ _ _ _ ?hst ?hA ?hb ?o1 ?o2 ?o3 ?hn1 ?hn2 ?hcm ?hwc) ?k1 ?k2 ?k3 ?k4 ?k5 ?kK ?kd ?ku ?_ ?_; (case k1 => k_asm); (case k2 => k_asm); (case k3 => k_asm); (case k4 => k_asm); (case k5 => k_asm); (case kK => first | exact rfl | assumption); (case hst => assumption); (case hA => assumption); (case hb => assumption); (case o1 => assumption); (case o2 => assumption); (case o3 => assumption); (case hn1 => assumption); (case hn2 => assumption); (case hcm => assumption); (case hwc => assumption); (case kd => ktr_room); (case ku => ktr_units)); (rotate_left; (intro e9 t9 c9 v9 h9 tk9 n9 g9 R9 F9 U9 P9; (obtain ⟨e91, ⟨msg9, t91, hm91, hv91⟩, hs9⟩ := P9); (subst e91); (subst hv91); (try k_fold)); rotate_left; (intro v9 h9 tk9 n9 F9 N9 P9; (obtain ⟨tok9, q9, fin9, rest9, us9, ut9, ul9, up9, ln9, pos9, t9, hR9, hv9, hA9, hs9, hn9⟩ := P9); (subst hn9); (rcases ite_cases hv9 with ⟨hc9, hx9⟩ | ⟨hc9, hx9⟩ <;> (subst hx9; clear hv9)); (try k_fold)))))
theorem next_ (w : World) (mean mg mb) (S dS I dI P Fk : Nat) (κ υ : Nat → Tok) (u ub up ul ut us te : Tok) (px cmb : Bool) (cm wc : Str) (ln : Int) (buf : Str) (pos : Int) (rest : List Nat) (news : Led) (st₀ : SS) (hst : st₀ = .sp ∨ st₀ = .dn) (hA : At buf pos rest) (hb : buf.length < 2 ^ 20)
   (o1 : dS < S) (o2 : S < dI) (o3 : dI < I) (hn1 : ∀ p ∈ (P, dqObj) :: (Fk, dqObj) :: news, p.1 ≠ dI) (hn2 : ∀ p ∈ (P, dqObj) :: (Fk, dqObj) :: news, p.1 ≠ dS) (hcm : ∀ c, inS cm c = (cmb && c == 35)) (hwc : ∀ c, inS wc c = true → isQt c = false) :
   CtrE w mean mg mb 726 [.ref S] (lexLed S dS I dI (lexDict w κ υ I P Fk px (eofVal px te) cm wc (stVal us st₀) ln ul (Str.ofString "") ut) (ioDict w κ u buf ub pos up) ((P, dqObj) :: (Fk, dqObj) :: news)) 10 96
     (fun v news' => ∃ tok quoted fin rest' us' ut' ul' up' ln' pos' t, rt px cmb st₀ (Str.ofString "") false rest = .out tok quoted fin rest' ∧ isEnd px quoted tok = false ∧ v = .str tok t ∧ At buf pos' rest' ∧ tok.length ≤ buf.length ∧
       news' = lexLed S dS I dI (lexDict w κ υ I P Fk px (eofVal px te) cm wc (stVal us' (stOf fin)) ln' ul' (Str.ofString "") ut') (ioDict w κ u buf ub pos' up') ((P, dqObj) :: (Fk, dqObj) :: news))
     (fun cls vs news' => (∀ p ∈ news, p ∈ news') ∧ ((cls = "ValueError" ∧ ∃ msg t, rrMsg (rt px cmb st₀ (Str.ofString "") false rest) = some msg ∧ vs = [.str msg t]) ∨
       (cls = "StopIteration" ∧ vs = [] ∧ ∃ tok quoted fin rest', rt px cmb st₀ (Str.ofString "") false rest = .out tok quoted fin rest' ∧ isEnd px quoted tok = true))) := by
  have hpr := prog_here
  revert hpr
  unfold CtrE
  k_fill
  intro _ dp un gd cn cs a ccd cl outer A₀ base h₀ L m s Q E B F X N T hk hd hu hret hexc
  cases px
  · rw [show eofVal false te = Value.str (Str.ofString "") te from rfl] at N
    refine wpAny_call ?_
    walk_at "my enter"
    k_steps
    all_goals first
      | exact hexc _ _ _ _ _ _ _ _ ‹RaisedS base _ _ _ _ _ _ _ _› ‹Fr h₀ L _ m› ‹_› ⟨by first | exact fun p hp => ‹∀ p ∈ (P, dqObj) :: (Fk, dqObj) :: news, p ∈ _› p (.tail _ (.tail _ hp)) | exact fun _ hp => .tail _ (.tail _ (.tail _ (.tail _ (.tail _ (.tail _ hp))))), .inl ⟨rfl, _, _, ‹rrMsg _ = some _›, rfl⟩⟩
      | exact hret _ _ _ _ (by k_asm) (by k_asm) ⟨_, _, _, _, _, _, _, _, _, _, _, ‹rt _ _ _ _ _ _ = RR.out _ _ _ _›, ‹isEnd _ _ _ = false›, rfl, ‹At buf _ _›, ‹_ ≤ buf.length›, rfl⟩
      | exact absurd ((show isEnd false _ _ = true from ‹(_ == Str.ofString "") = true›).symm.trans ‹isEnd false _ _ = false›) (by decide)
      | exact hexc _ _ _ _ _ _ _ _ ‹RaisedS base _ _ _ _ _ _ _ _› ‹Fr h₀ L _ m› ‹_› ⟨by first | exact fun p hp => ‹∀ p ∈ (P, dqObj) :: (Fk, dqObj) :: news, p ∈ _› p (.tail _ (.tail _ hp)) | exact fun _ hp => .tail _ (.tail _ (.tail _ (.tail _ (.tail _ (.tail _ hp))))), .inr ⟨rfl, rfl, _, _, _, _, ‹rt _ _ _ _ _ _ = RR.out _ _ _ _›, ‹isEnd _ _ _ = true›⟩⟩
  · rw [show eofVal true te = Value.none from rfl] at N
    refine wpAny_call ?_
    walk_at "my enter"
    k_steps
    all_goals first
      | exact hexc _ _ _ _ _ _ _ _ ‹RaisedS base _ _ _ _ _ _ _ _› ‹Fr h₀ L _ m› ‹_› ⟨by first | exact fun p hp => ‹∀ p ∈ (P, dqObj) :: (Fk, dqObj) :: news, p ∈ _› p (.tail _ (.tail _ hp)) | exact fun _ hp => .tail _ (.tail _ (.tail _ (.tail _ (.tail _ (.tail _ hp))))), .inl ⟨rfl, _, _, ‹rrMsg _ = some _›, rfl⟩⟩
      | exact hret _ _ _ _ (by k_asm) (by k_asm) ⟨_, _, _, _, _, _, _, _, _, _, _, ‹rt _ _ _ _ _ _ = RR.out _ _ _ _›, ‹isEnd _ _ _ = false›, rfl, ‹At buf _ _›, ‹_ ≤ buf.length›, rfl⟩
      | exact absurd ((show isEnd false _ _ = true from ‹(_ == Str.ofString "") = true›).symm.trans ‹isEnd false _ _ = false›) (by decide)
      | exact hexc _ _ _ _ _ _ _ _ ‹RaisedS base _ _ _ _ _ _ _ _› ‹Fr h₀ L _ m› ‹_› ⟨by first | exact fun p hp => ‹∀ p ∈ (P, dqObj) :: (Fk, dqObj) :: news, p ∈ _› p (.tail _ (.tail _ hp)) | exact fun _ hp => .tail _ (.tail _ (.tail _ (.tail _ (.tail _ (.tail _ hp))))), .inr ⟨rfl, rfl, _, _, _, _, ‹rt _ _ _ _ _ _ = RR.out _ _ _ _›, ‹isEnd _ _ _ = true›⟩⟩
end Mine
namespace Mine
theorem rt_shrinks (px cm : Bool) : ∀ (n : Nat) (st : SS) (tok : Str) (q : Bool) (rest : List Nat), rest.length = n → ∀ tok' q' fin rest', rt px cm st tok q rest = .out tok' q' fin rest' →
    rest'.length ≤ rest.length ∧ (st ≠ .dn → fin = false → rest'.length < rest.length) := by
  intro n
  induction n using Nat.strongRecOn with
  | _ n ih =>
    intro st tok q rest hn tok' q' fin rest' h
    have go : ∀ st₁ tok₁ q₁ r₁, r₁.length < rest.length → st₁ ≠ .dn → rt px cm st₁ tok₁ q₁ r₁ = .out tok' q' fin rest' → rest'.length ≤ rest.length ∧ (st ≠ .dn → fin = false → rest'.length < rest.length) := by
      intro st₁ tok₁ q₁ r₁ hl hd e
      obtain ⟨a, b⟩ := ih r₁.length (by omega) st₁ tok₁ q₁ r₁ rfl tok' q' fin rest' e
      exact ⟨by omega, fun _ hf => by have := b hd hf; omega⟩
    cases st with
    | dn =>
      rw [rt_dn] at h
      injection h with _ _ _ h4
      subst h4
      exact ⟨by simp, fun x => absurd rfl x⟩
    | sp =>
      cases rest with
      | nil =>
        rw [rt_sp_nil] at h
        injection h with _ _ h3 h4
        subst h3 h4
        exact ⟨Nat.le_refl _, fun _ x => by cases x⟩
      | cons c r =>
        have hl : r.length < (c :: r).length := Nat.lt_succ_self _
        have hal : (afterLine r).length < (c :: r).length := Nat.lt_succ_of_le (afterLine_le r)
        rw [rt] at h
        (repeat' split at h) <;> first | exact go _ _ _ _ hl (by nofun) h | exact go _ _ _ _ hal (by nofun) h
    | wd =>
      cases rest with
      | nil =>
        rw [rt_wd_nil] at h
        injection h with _ _ h3 h4
        subst h3 h4
        exact ⟨Nat.le_refl _, fun _ x => by cases x⟩
      | cons c r =>
        have hl : r.length < (c :: r).length := Nat.lt_succ_self _
        have hal : (afterLine r).length < (c :: r).length := Nat.lt_succ_of_le (afterLine_le r)
        rw [rt] at h
        (repeat' split at h) <;> first
          | exact go _ _ _ _ hl (by nofun) h
          | exact go _ _ _ _ hal (by nofun) h
          | (injection h with _ _ h3 h4; subst h4; exact ⟨by omega, fun _ _ => by omega⟩)
    | qt d =>
      cases rest with
      | nil => rw [rt_qt_nil] at h; cases h
      | cons c r =>
        have hl : r.length < (c :: r).length := Nat.lt_succ_self _
        rw [rt] at h
        (repeat' split at h) <;> first
          | exact go _ _ _ _ hl (by nofun) h
          | (injection h with _ _ h3 h4; subst h4; exact ⟨by omega, fun _ _ => by omega⟩)
    | es e =>
      cases rest with
      | nil => rw [rt_es_nil] at h; cases h
      | cons c r =>
        have hl : r.length < (c :: r).length := Nat.lt_succ_self _
        rw [rt] at h
        exact go _ _ _ _ hl (by cases e <;> nofun) h
/-- the words that are left, or what the ValueError says -/
def wordsF (px cmb : Bool) : Nat → SS → List Nat → Except Str (List Str)
  | 0, _, _ => .ok []
  | n + 1, st, rest => match rt px cmb st (Str.ofString "") false rest with
    | .out tok q fin rest' => if isEnd px q tok = true then .ok [] else (match wordsF px cmb n (stOf fin) rest' with
      | .ok ws => .ok (tok :: ws)
      | .error e => .error e)
    | .noClose => .error (Str.ofString "No closing quotation")
    | .noEsc => .error (Str.ofString "No escaped character")
def meas : SS → List Nat → Nat
  | .sp, r => r.length + 1
  | _, _ => 0
theorem wordsF_end {px cmb : Bool} {n : Nat} {st : SS} {rest rest' : List Nat} {tok : Str} {q fin : Bool} (h : rt px cmb st (Str.ofString "") false rest = .out tok q fin rest') (he : isEnd px q tok = true) : wordsF px cmb (n + 1) st rest = .ok [] := by
  unfold wordsF; rw [h]; simp only [he, if_true]
theorem wordsF_msg {px cmb : Bool} {n : Nat} {st : SS} {rest : List Nat} {msg : Str} (h : rrMsg (rt px cmb st (Str.ofString "") false rest) = some msg) : wordsF px cmb (n + 1) st rest = .error msg := by
  unfold wordsF
  cases e : rt px cmb st (Str.ofString "") false rest with
  | out => rw [e] at h; cases h
  | noClose => rw [e] at h; cases h; rfl
  | noEsc => rw [e] at h; cases h; rfl
theorem wordsF_more {px cmb : Bool} {n : Nat} {st : SS} {rest rest' : List Nat} {tok : Str} {q fin : Bool} (h : rt px cmb st (Str.ofString "") false rest = .out tok q fin rest') (he : isEnd px q tok = false) :
    wordsF px cmb (n + 1) st rest = (match wordsF px cmb n (stOf fin) rest' with | .ok ws => .ok (tok :: ws) | .error e => .error e) := by
  conv => lhs; unfold wordsF
  rw [h]; simp only [he, Bool.false_eq_true, if_false]
theorem meas_next {px cmb : Bool} {n : Nat} {st : SS} {rest rest' : List Nat} {tok : Str} {q fin : Bool} (hst : st = .sp ∨ st = .dn) (h : rt px cmb st (Str.ofString "") false rest = .out tok q fin rest') (he : isEnd px q tok = false) (hm : meas st rest < n + 1) : meas (stOf fin) rest' < n := by
  rcases hst with rfl | rfl
  · have hs := rt_shrinks px cmb _ _ _ _ _ rfl _ _ _ _ h
    have h1 : meas .sp rest = rest.length + 1 := rfl
    cases fin with
    | true => show 0 < n; omega
    | false =>
      have := hs.2 (by nofun) rfl
      show rest'.length + 1 < n
      omega
  · rw [rt_dn] at h
    injection h with h1 h2 _ _
    subst h1 h2
    cases px <;> exact absurd he (by decide +kernel)
end Mine
namespace Mine
section
variable {M : Model} {A A₀ : Around} {E : Value → Shared → Prop} {s : Shared} {base h₀ G : Heap} {outer : List Env} {L a e t : Addr} {m : Str → Option Value} {name : Str} {scope : Scope} {cd : Value} {vs : List Value} {news : Led} {X : String}
/-- StopIteration that a built-in takes, in any frame -/
theorem stop_ground (R : RaisedS base G (envOf name scope L a cd :: outer) e (.type X) t vs news s.heap) (F : Fr h₀ L G m) (K : Below A₀ base outer h₀) (hsm : G.UpToSlots s.heap) :
    s.TypeIs (.ref e) X ∧ ∃ g', KtsTurn (outer.filterMap (·.frame)) h₀ g' ∧ Fr g' L s.heap m ∧ News g' L s.heap news ∧ Below A₀ base outer g' := by
  obtain ⟨⟨B, hB, hBG, hl, hfl, hnew⟩, htup⟩ := R
  have hL : B.get? L = none := by
    obtain ⟨_, ⟨L', _, hf, hn', _⟩, _⟩ := hfl.2.2.1
    obtain rfl : L = L' := Option.some.inj hf
    exact hn'
  obtain ⟨ob, hob, hobc⟩ := hfl.there
  obtain ⟨g', T', F', K'⟩ := kts_ground K F hBG hfl.1 hsm
  exact ⟨⟨ob, hob, hobc⟩, g', T', F', fun q hq => ⟨hfl.1 _ _ (hl q hq).1, (fun z => by have := (hl q hq).1; rw [z, hL] at this; cases this), T'.none_ _ (kts_none F.keep (hl q hq).2.1)⟩, K'⟩
end
theorem stop_sub : isSubtype (.type "StopIteration") (.type "StopIteration") = pure true := by rw [isSubtype_type]; kernel_rfl
theorem value_sub : isSubtype (.type "ValueError") (.type "StopIteration") = pure false := by rw [isSubtype_type]; kernel_rfl
theorem strs_snoc {x : Str} {t : Tok} : ∀ {vs : List Value} {ys : List Str}, StrsAre vs ys → StrsAre (vs ++ [.str x t]) (ys ++ [x])
  | _, _, .nil => .cons _ _ .nil
  | _, _, .cons y u h => .cons y u (strs_snoc h)
noncomputable abbrev fullLed (w : World) (κ υ : Nat → Tok) (S dS I dI P Fk X : Nat) (u ub te : Tok) (px : Bool) (cm wc buf : Str) (st : SS) (us ul ut up : Tok) (ln pos : Int) (its : Array Value) (c : Nat) (news : Led) : Led :=
  lexLed S dS I dI (lexDict w κ υ I P Fk px (eofVal px te) cm wc (stVal us st) ln ul (Str.ofString "") ut) (ioDict w κ u buf ub pos up) ((P, dqObj) :: (Fk, dqObj) :: (X, listOf its c) :: news)
theorem lex_loop (w : World) (mean mg mb) (S dS I dI P Fk X : Nat) (κ υ : Nat → Tok) (u ub te : Tok) (px cmb : Bool) (cm wc buf : Str) (news : Led) (hb : buf.length < 2 ^ 20)
    (o1 : dS < S) (o2 : S < dI) (o3 : dI < I) (o4 : I < P) (o5 : P < Fk) (o6 : Fk < X) (hnw : ∀ p ∈ news, p.1 < dS) (hcm : ∀ c, inS cm c = (cmb && c == 35)) (hwc : ∀ c, inS wc c = true → isQt c = false)
    (dp un : Nat) (gd : Option (List Code)) (cn : Str) (cs : Scope) (a : Addr) (ccd : Value) (outer : List Env) (A₀ : Around) (base h₀ : Heap) (L : Addr) (m : Str → Option Value) (R : Result → Shared → Prop)
    (B : Below A₀ base outer h₀) (K : (hd.heap_39 w.params).In h₀) (T : Top hd.view_39 LS mean mg mb h₀) (hk : cs.kind = .function) (hdp : dp + 11 < recursionLimit) (hun : un + 100 < cLine)
    (hnext : findIn (hd.heap_39 w.params) (.ref 729) "__next__" = some (some (.ref 726))) (hfn : isFn (hd.heap_39 w.params) (.ref 726) = true) :
    ∀ (n : Nat) (st : SS) (rest : List Nat) (us ul ut up : Tok) (ln pos : Int) (its : Array Value) (acc : List Str) (c : Nat) (s : Shared), meas st rest < n → (st = .sp ∨ st = .dn) → At buf pos rest → its.size + meas st rest ≤ 2 ^ 21 → StrsAre its.toList acc →
      Fr h₀ L s.heap m → News h₀ L s.heap (fullLed w κ υ S dS I dI P Fk X u ub te px cm wc buf st us ul ut up ln pos its c news) →
      (∀ h₀' h' tk' led' its' acc' c', KtsTurn (outer.filterMap (·.frame)) h₀ h₀' → Fr h₀' L h' m → News h₀' L h' ((X, listOf its' c') :: led') → (∀ p ∈ news, p ∈ led') → Below A₀ base outer h₀' → wordsF px cmb n st rest = .ok acc' → StrsAre its'.toList (acc ++ acc') → R (.ok (.ret .none)) { s with heap := h', toks := tk' }) →
      (∀ e t vs h' tk' news' g msg t1, RaisedS base g (envX cn cs L a ccd [] :: outer) e (.type "ValueError") t vs news' h' → Fr h₀ L g m → g.UpToSlots h' → wordsF px cmb n st rest = .error msg → vs = [.str msg t1] → (∀ p ∈ news, p ∈ news') → R (.error (.ref e)) { s with heap := h', toks := tk' }) →
      codeAny (model PG w) (ktrTop dp un gd cn cs L a ccd [] outer) (.builtin "list.extend.loop" ⟨[.ref X, .ref S, .none], []⟩) R s := by
  intro n
  induction n with
  | zero => intro st rest us ul ut up ln pos its acc c s hm; exact absurd hm (Nat.not_lt_zero _)
  | succ n ih =>
    intro st rest us ul ut up ln pos its acc c s hm hst hA hsz hits F N ret exc
    refine codeAny_builtin PySem.F.entry_extend_loop ?_
    rw [Around.under_plainId PySem.F.plain_extend_loop _]
    show wpAny _ (ktrTop dp (un + 1) gd cn cs L a ccd [] outer) (pyNext (.ref S) >>= _) _ _ s
    refine wpAny_bind ?_
    have hall : ∀ d : Nat, d < P → d ≠ S → d ≠ I → dS ≤ d → ∀ p ∈ (P, dqObj) :: (Fk, dqObj) :: (X, listOf its c) :: news, p.1 ≠ d := by
      intro d d1 d2 d3 d4 p hp
      rcases List.mem_cons.mp hp with rfl | hp
      · exact (Nat.ne_of_gt d1)
      rcases List.mem_cons.mp hp with rfl | hp
      · exact (Nat.ne_of_gt (Nat.lt_trans d1 o5))
      rcases List.mem_cons.mp hp with rfl | hp
      · exact (Nat.ne_of_gt (Nat.lt_trans d1 (Nat.lt_trans o5 o6)))
      · exact Nat.ne_of_lt (Nat.lt_of_lt_of_le (hnw p hp) d4)
    refine owit_next F K (InstAt.of_news N (.head _) (.tail _ (.head _))) hnext hfn ?_
    refine ctrE_use (next_ w mean mg mb S dS I dI P Fk κ υ u ub up ul ut us te px cmb cm wc ln buf pos rest ((X, listOf its c) :: news) st hst hA hb o1 o2 o3 (hall dI (Nat.lt_trans o3 o4) (Nat.ne_of_gt o2) (Nat.ne_of_lt o3) (Nat.le_of_lt (Nat.lt_trans o1 o2))) (hall dS (Nat.lt_trans o1 (Nat.lt_trans o2 (Nat.lt_trans o3 o4))) (Nat.ne_of_lt o1) (Nat.ne_of_lt (Nat.lt_trans o1 (Nat.lt_trans o2 o3))) (Nat.le_refl _)) hcm hwc)
      B F K N T hk (by omega) (by omega) ?_ ?_
    · rintro v h' tk' news' F' N' ⟨tok, quoted, fin, rest', us', ut', ul', up', ln', pos', t, hR, hend, rfl, hA', hl', rfl⟩
      have hX : h'.get? X = some (listOf its c) := (N' (X, listOf its c) (.tail _ (.tail _ (.tail _ (.tail _ (.tail _ (.tail _ (.head _)))))))).1
      have hmn := meas_next hst hR hend hm
      have hms : meas (stOf fin) rest' + 1 ≤ meas st rest := by
        have := meas_next (n := meas st rest) hst hR hend (Nat.lt_succ_self _)
        omega
      show wpAny _ (ktrTop dp (un + 1) gd cn cs L a ccd [] outer) (updateSeq X (·.push (.str tok t)) >>= _) _ _ _
      refine wpAny_bind (wpAny_updateSeq hX rfl ?_ (by show its.size ≤ sizeLine; rw [show sizeLine = 2 ^ 24 from rfl]; omega) (by show (its.push _).size ≤ sizeLine + 1; rw [Array.size_push, show sizeLine = 2 ^ 24 from rfl]; omega))
      have hup := news_upd (pre := [(S, instObj 729 dS), (dS, lexDict w κ υ I P Fk px (eofVal px te) cm wc (stVal us' (stOf fin)) ln' ul' (Str.ofString "") ut'), (I, instObj 594 dI), (dI, ioDict w κ u buf ub pos' up'), (P, dqObj), (Fk, dqObj)]) (d := X) (o := listOf its c) (post := news)
        (f := Obj.mapSeq (·.push (Value.str tok t))) (o' := listOf (its.push (.str tok t)) (c + 1)) F' N' (by
          intro p hp
          simp only [List.mem_cons, List.not_mem_nil, or_false] at hp
          rcases hp with rfl | rfl | rfl | rfl | rfl | rfl <;> (refine neN ?_; dsimp only; omega))
        (fun p hp => Nat.ne_of_lt (Nat.lt_trans (hnw p hp) (by omega))) (by
          show ({ cls := .type "list", data := .seq (its.push (.str tok t)) (if (its.push (Value.str tok t)).size == its.size then c else c + 1) } : Obj) = _
          rw [if_neg (by simp)]) rfl
      refine wpAny_pure ⟨plainId_quiet PySem.F.plain_extend_loop _, ?_⟩
      refine ih (stOf fin) rest' us' ul' ut' up' ln' pos' (its.push (.str tok t)) (acc ++ [tok]) (c + 1) _ hmn (by cases fin; exact .inl rfl; exact .inr rfl) hA' (by rw [Array.size_push]; omega) ?_ hup.1 hup.2 ?_ ?_
      · rw [Array.toList_push]
        exact strs_snoc hits
      · intro h₀' h'' tk'' led' its' acc' c' t1 f1 n1 l1 b1 w1 s1
        refine ret h₀' h'' tk'' led' its' (tok :: acc') c' t1 f1 n1 l1 b1 ?_ ?_
        · rw [wordsF_more hR hend, w1]
        · rw [List.append_assoc] at s1; exact s1
      · intro e' t' vs' h'' tk'' news'' g' msg t1 r1 f1 u1 w1 v1 l1
        refine exc e' t' vs' h'' tk'' news'' g' msg t1 r1 f1 u1 ?_ v1 l1
        rw [wordsF_more hR hend, w1]
    · rintro e t cls vs h' tk' news' g Rs Fg U ⟨hsub, hcase⟩
      unfold OwitStop
      obtain ⟨hT, g', T', F', N', B'⟩ := stop_ground (s := { s with heap := h', toks := tk' }) Rs Fg B U
      rcases hcase with ⟨rfl, msg, t1, hmsg, rfl⟩ | ⟨rfl, rfl, tok, quoted, fin, rest', hR, hend⟩
      · refine wpAny_isInstance hT value_sub ?_
        show (if false = true then _ else _)
        rw [if_neg (by decide)]
        exact exc e t _ h' tk' news' g msg t1 Rs Fg U (wordsF_msg hmsg) rfl fun p hp => hsub p (.tail _ hp)
      · refine wpAny_isInstance hT stop_sub ?_
        show (if true = true then _ else _)
        rw [if_pos rfl]
        refine wpAny_pure ?_
        refine ret g' h' tk' news' its [] c T' F' ?_ (fun p hp => hsub p (.tail _ hp)) B' (wordsF_end hR hend) (by rw [List.append_nil]; exact hits)
        intro q hq
        rcases List.mem_cons.mp hq with rfl | hq
        · exact N' _ (hsub _ (.head _))
        · exact N' _ hq
end Mine
namespace Mine
theorem top_off_LX04 : True := by
  w_top off
  exact trivial
local macro_rules | `(tactic| walk_at "none 0") => `(tactic| skip)
local macro_rules | `(tactic| walk_at "none 1") => `(tactic| skip)
local macro_rules | `(tactic| walk_at "none 2") => `(tactic| skip)
local macro_rules | `(tactic| walk_at "none 3") => `(tactic| skip)
local macro_rules | `(tactic| walk_at "none 4") => `(tactic| skip)
local macro_rules | `(tactic| walk_at "none 5") => `(tactic| skip)
local macro_rules | `(tactic| walk_at "none 6") => `(tactic| skip)
local macro_rules | `(tactic| walk_at "none 7") => `(tactic| skip)
local macro_rules | `(tactic| walk_at "none 8") => `(tactic| skip)
local macro_rules | `(tactic| walk_at "none 9") => `(tactic| skip)
local macro_rules | `(tactic| walk_at "none 10") => `(tactic| skip)
local macro_rules | `(tactic| walk_at "none 11") => `(tactic| skip)
local macro_rules | `(tactic| walk_at "none 12") => `(tactic| skip)
local macro_rules | `(tactic| walk_at "none 13") => `(tactic| skip)
local macro_rules | `(tactic| walk_at "none 14") => `(tactic| skip)
local macro_rules | `(tactic| walk_at "none 15") => `(tactic| skip)
local macro_rules | `(tactic| walk_at "none 16") => `(tactic| skip)
local macro_rules | `(tactic| walk_at "none 17") => `(tactic| skip)
local macro_rules | `(tactic| walk_at "none 18") => `(tactic| skip)
local macro_rules | `(tactic| walk_at "none 19") => `(tactic| skip)
local macro_rules | `(tactic| k_room) => `(tactic| ktr_room)
local macro_rules | `(tactic| k_units) => `(tactic| ktr_units)
local macro_rules | `(tactic| k_all) => `(tactic| assumption)
local macro_rules | `(tactic| walk_at "my enter") => `(tactic| k_dflt (refine' code_def ?k1 ?k2 ?k3 ?k4 ?k5 ?kA ?kF ?kK ?k6 ?k7 ?k8 ?k9 ?kB ?_ ?c2 ?c3 ?c4 ?c5; (case kA => exact rfl); (case kF => exact rfl); (case kK => assumption); (case k1 => k_asm); (case k2 => k_asm); (case k3 => k_asm); (case k4 => k_asm); (case k5 => k_asm); (case k6 => k_is); (case k7 => k_is); (case k8 => k_room); (case k9 => first | exact BindsTo.of_eq rfl | exact binds_K (by k_in) rfl (by k_is) rfl rfl rfl); (case c5 => decide); (case kB => exact locs rfl); (case c2 => exact rfl); (case c3 => exact rfl); (case c4 => exact rfl); k_whole; intro g' L' h' FG' F' N' B' X' T'; (try dsimp only); (try k_fold)))
local macro_rules | `(tactic| walk_at "leaving ref") => `(tactic| (k_here; first
  | (refine' leave_raiseS ?k1 (Heap.MadeExc.of (by assumption)) ?k2 ?k3 ?_; (case k1 => assumption); (case k2 => assumption); (case k3 => k_asm); k_whole; intro h' t' R' RK' U'; (try dsimp only at R' U' ⊢))
  | (refine' leave_onS ?k1 ?k2 ?k3 ?k4 ?_; (case k3 => assumption); (case k1 => assumption); (case k4 => assumption); (case k2 => assumption); k_whole; intro h' R' RK' U'; (try dsimp only at R' U' ⊢))))
theorem iter_ (w : World) (mean mg mb) (S : Nat) (news : Led) : Ctr w mean mg mb 719 [.ref S] news 1 8 (fun v news' => v = .ref S ∧ news' = news) := by
  have hpr := prog_here
  revert hpr
  unfold Ctr
  k_fill
  intro _ dp un gd cn cs a ccd cl outer A₀ base h₀ L m s Q E B F X N T hk hd hu hret
  refine wpAny_call ?_
  walk_at "my enter"
  k_steps
  exact hret _ _ _ _ (by k_asm) (by k_asm) ⟨rfl, rfl⟩
theorem lx_next (w : World) : findIn (hd.heap_39 w.params) (.ref 729) "__next__" = some (some (.ref 726)) := by kernel_rfl
theorem lx_nextF (w : World) : isFn (hd.heap_39 w.params) (.ref 726) = true := by kernel_rfl
theorem lx_iter (w : World) : findIn (hd.heap_39 w.params) (.ref 729) "__iter__" = some (some (.ref 719)) := by kernel_rfl
theorem lx_iterF (w : World) : isFn (hd.heap_39 w.params) (.ref 719) = true := by kernel_rfl
theorem lx_len (w : World) : findIn (hd.heap_39 w.params) (.ref 729) "__len__" = some none := by kernel_rfl
theorem lx_hint (w : World) : findIn (hd.heap_39 w.params) (.ref 729) "__length_hint__" = some none := by kernel_rfl
theorem list_lex (w : World) (mean mg mb) (S dS I dI P Fk : Nat) (κ υ : Nat → Tok) (u ub te us ul ut up : Tok) (px cmb : Bool) (cm wc buf : Str) (ln pos : Int) (rest : List Nat) (news : Led) (hb : buf.length < 2 ^ 20)
    (o1 : dS < S) (o2 : S < dI) (o3 : dI < I) (o4 : I < P) (o5 : P < Fk) (hnw : ∀ p ∈ news, p.1 < dS) (hcm : ∀ c, inS cm c = (cmb && c == 35)) (hwc : ∀ c, inS wc c = true → isQt c = false) (hA : At buf pos rest)
    (dp un : Nat) (gd : Option (List Code)) (cn : Str) (cs : Scope) (a : Addr) (ccd : Value) (outer : List Env) (A₀ : Around) (base h₀ : Heap) (L : Addr) (m : Str → Option Value) (s : Shared) (Q E : Value → Shared → Prop)
    (B : Below A₀ base outer h₀) (F : Fr h₀ L s.heap m) (K : (hd.heap_39 w.params).In h₀) (N : News h₀ L s.heap (lexLed S dS I dI (lexDict w κ υ I P Fk px (eofVal px te) cm wc (.str (Str.ofString " ") us) ln ul (Str.ofString "") ut) (ioDict w κ u buf ub pos up) ((P, dqObj) :: (Fk, dqObj) :: news)))
    (T : Top hd.view_39 LS mean mg mb h₀) (hk : cs.kind = .function) (hdp : dp + 11 < recursionLimit) (hun : un + 110 < cLine)
    (ret : ∀ (D : Nat) h₀' h' tk' led' its ws c, KtsTurn (outer.filterMap (·.frame)) h₀ h₀' → Fr h₀' L h' m → News h₀' L h' ((D, listOf its c) :: led') → (∀ p ∈ news, p ∈ led') → (∀ p ∈ news, p.1 < D) → Below A₀ base outer h₀' → wordsF px cmb (rest.length + 2) .sp rest = .ok ws → StrsAre its.toList ws → Q (.ref D) { s with heap := h', toks := tk' })
    (exc : ∀ e t vs h' tk' news' g msg t1, RaisedS base g (envX cn cs L a ccd [] :: outer) e (.type "ValueError") t vs news' h' → Fr h₀ L g m → g.UpToSlots h' → wordsF px cmb (rest.length + 2) .sp rest = .error msg → vs = [.str msg t1] → (∀ p ∈ news, p ∈ news') → E (.ref e) { s with heap := h', toks := tk' }) :
    wpAny (model PG w) (ktrTop dp un gd cn cs L a ccd [] outer) (call (.type "list") [.ref S]) Q E s := by
  have hX : ∀ p ∈ (lexLed S dS I dI (lexDict w κ υ I P Fk px (eofVal px te) cm wc (.str (Str.ofString " ") us) ln ul (Str.ofString "") ut) (ioDict w κ u buf ub pos up) ((P, dqObj) :: (Fk, dqObj) :: news)), (p.1 : Nat) < s.heap.objs.size := fun p hp => Heap.lt_size (N p hp).1
  have o6 : Fk < s.heap.objs.size := hX (Fk, dqObj) (.tail _ (.tail _ (.tail _ (.tail _ (.tail _ (.head _))))))
  refine callType_codes (Q₁ := fun obj s₁ => obj = .ref s.heap.objs.size ∧ s₁ = { s with heap := s.heap.push (listOf #[] 0) }) PySem.F.called_list (PySem.F.typeCall_list_1 _) PySem.F.entry_list_init
    (code_list_new _ ⟨rfl, rfl⟩) fun obj s₁ h₁ => ?_
  obtain ⟨rfl, rfl⟩ := h₁
  have F₁ := F.push (listOf #[] 0)
  have N₁ := News.push F N (listOf #[] 0)
  generalize hXe : s.heap.objs.size = X at *
  generalize hH : s.heap.push (listOf #[] 0) = h1 at *
  have hS : h1.get? X = some (listOf #[] 0) := (N₁ _ (.head _)).1
  refine ⟨⟨_, hS, rfl⟩, PySem.F.args_list_init_2 _ _, ?_⟩
  show wpAny _ (ktrTop dp (un + 2) gd cn cs L a ccd [] outer) (do let old ← Builtin.List.listItems (.ref X); Builtin.List.listUpdate (.ref X) (fun _ => #[]); letGo old.toList.reverse; Builtin.List.listExtendWith (.ref X) (.ref S) .none) _ _ _
  refine wpAny_bind ?_
  unfold Builtin.List.listItems
  refine wpAny_bind (wpAny_seqItems hS rfl (wpAny_pure ?_))
  show wpAny _ (ktrTop dp (un + 2) gd cn cs L a ccd [] outer) (updateSeq X (fun _ => #[]) >>= fun _ => letGo (#[] : Array Value).toList.reverse >>= fun _ => Builtin.List.listExtendWith (.ref X) (.ref S) .none) _ _ _
  refine wpAny_bind (wpAny_updateSeq hS rfl ?_)
  have hne : ∀ p ∈ (lexLed S dS I dI (lexDict w κ υ I P Fk px (eofVal px te) cm wc (.str (Str.ofString " ") us) ln ul (Str.ofString "") ut) (ioDict w κ u buf ub pos up) ((P, dqObj) :: (Fk, dqObj) :: news)), p.1 ≠ X := fun p hp => Nat.ne_of_lt (hX p hp)
  obtain ⟨F₂, N₂⟩ := news_upd (pre := []) (d := X) (o := listOf #[] 0) (f := Obj.mapSeq (fun _ => (#[] : Array Value))) (o' := listOf #[] 0) F₁ N₁ (fun p hp => nomatch hp) hne rfl rfl
  refine wpAny_bind (wpAny_letGo ?_)
  generalize hH2 : Heap.update h1 X (Obj.mapSeq (fun _ => (#[] : Array Value))) = h2 at *
  have I₂ := InstAt.of_news N₂ (.tail _ (.head _)) (.tail _ (.tail _ (.head _)))
  have K₂ : (hd.heap_39 w.params).In h2 := K.keeps F₂.keep
  unfold Builtin.List.listExtendWith
  refine wpAny_bind (I₂.type.here ?_)
  have h1' : Builtin.List.listSameRef (.ref X) (.ref S) = false := by
    have : X ≠ S := by omega
    simp [Builtin.List.listSameRef, this]
  have h2' : (Value.ref 729 == Value.type "list") = false := by decide
  have h3' : (Value.ref 729 == Value.type "tuple") = false := by decide
  simp only [h1', h2', h3', Bool.or_false, Bool.false_eq_true, if_false]
  refine wpAny_bind (owit_iter F₂ K I₂ (lx_iter w) (lx_iterF w) ?_)
  refine ctr_use (iter_ w mean mg mb S _) B F₂ K N₂ T hk (by omega) (by omega) ?_
  rintro v h3 tk3 news3 F₃ N₃ ⟨rfl, rfl⟩
  have I₃ := InstAt.of_news N₃ (.tail _ (.head _)) (.tail _ (.tail _ (.head _)))
  refine owit_it F₃ K I₃ (lx_next w) ?_
  refine wpAny_bind (wpAny_holding ?_)
  unfold Builtin.List.listLengthHint
  refine wpAny_bind (wpAny_bind (I₃.type.here ((looks_findIn (K.keeps F₃.keep) (lx_len w)).here ?_)))
  show wpAny _ (ktrTop dp (un + 2) gd cn cs L a ccd [] outer) (specialOf (Value.ref S) (Str.ofString "__length_hint__") >>= _) _ _ _
  refine wpAny_bind (wpAny_bind (I₃.type.here ((looks_findIn (K.keeps F₃.keep) (lx_hint w)).here ?_)))
  refine wpAny_pure ?_
  show wpAny _ (ktrTop dp (un + 2) gd cn cs L a ccd [] outer) (rule "list.extend.makes-room" >>= fun _ => Builtin.List.listTouch (.ref X) >>= fun _ =>
    again (.builtin "list.extend.loop" ⟨[.ref X, .ref S, .none], []⟩)) _ _ _
  refine wpAny_bind (wpAny_rule ?_)
  refine wpAny_bind ?_
  show wpAny _ (ktrTop dp (un + 2) gd cn cs L a ccd [] outer) (updateSeq X (·.push .none) >>= fun _ => updateSeq X (·.pop)) _ _ _
  refine wpAny_bind (wpAny_updateSeq (N₃ _ (.head _)).1 rfl ?_)
  obtain ⟨F₄, N₄⟩ := news_upd (pre := []) (d := X) (o := listOf #[] 0) (f := Obj.mapSeq (·.push Value.none)) (o' := listOf #[.none] 1) F₃ N₃ (fun p hp => nomatch hp) hne rfl rfl
  refine wpAny_updateSeq (N₄ _ (.head _)).1 rfl ?_
  obtain ⟨F₅, N₅⟩ := news_upd (pre := []) (d := X) (o := listOf #[.none] 1) (f := Obj.mapSeq (·.pop)) (o' := listOf #[] 2) F₄ N₄ (fun p hp => nomatch hp) hne rfl rfl
  refine wpAny_pure ⟨plainId_quiet PySem.F.plain_extend_loop _, ?_⟩
  refine lex_loop w mean mg mb S dS I dI P Fk X κ υ u ub te px cmb cm wc buf news hb o1 o2 o3 o4 o5 o6 hnw hcm hwc dp (un + 1) gd cn cs a ccd outer A₀ base h₀ L m _ B K T hk hdp (by omega) (lx_next w) (lx_nextF w)
    (rest.length + 2) .sp rest us ul ut up ln pos #[] [] 2 _ (by show rest.length + 1 < rest.length + 2; omega) (.inl rfl) hA ?_ .nil F₅ ?_ ?_ ?_
  · have := hA.len
    show 0 + (rest.length + 1) ≤ 2 ^ 21
    omega
  · intro p hp
    rcases List.mem_cons.mp hp with rfl | hp
    · exact N₅ _ (.tail _ (.head _))
    rcases List.mem_cons.mp hp with rfl | hp
    · exact N₅ _ (.tail _ (.tail _ (.head _)))
    rcases List.mem_cons.mp hp with rfl | hp
    · exact N₅ _ (.tail _ (.tail _ (.tail _ (.head _))))
    rcases List.mem_cons.mp hp with rfl | hp
    · exact N₅ _ (.tail _ (.tail _ (.tail _ (.tail _ (.head _)))))
    rcases List.mem_cons.mp hp with rfl | hp
    · exact N₅ _ (.tail _ (.tail _ (.tail _ (.tail _ (.tail _ (.head _))))))
    rcases List.mem_cons.mp hp with rfl | hp
    · exact N₅ _ (.tail _ (.tail _ (.tail _ (.tail _ (.tail _ (.tail _ (.head _)))))))
    rcases List.mem_cons.mp hp with rfl | hp
    · exact N₅ _ (.head _)
    · exact N₅ _ (.tail _ (.tail _ (.tail _ (.tail _ (.tail _ (.tail _ (.tail _ hp)))))))
  · intro h₀' h' tk' led' its' acc' c' t1 f1 n1 l1 b1 w1 s1
    exact ⟨rfl, ret X h₀' h' tk' led' its' acc' c' t1 f1 n1 l1 (fun p hp => Nat.lt_trans (hnw p hp) (by omega)) b1 w1 s1⟩
  · intro e' t' vs' h'' tk'' news'' g' msg t1 r1 f1 u1 w1 v1 l1
    exact exc e' t' vs' h'' tk'' news'' g' msg t1 r1 f1 u1 w1 v1 l1
end Mine
namespace Mine
theorem top_off_SI04 : True := by
  w_top off
  exact trivial
local macro_rules | `(tactic| walk_at "none 0") => `(tactic| skip)
local macro_rules | `(tactic| walk_at "none 1") => `(tactic| skip)
local macro_rules | `(tactic| walk_at "none 2") => `(tactic| skip)
local macro_rules | `(tactic| walk_at "none 3") => `(tactic| skip)
local macro_rules | `(tactic| walk_at "none 4") => `(tactic| skip)
local macro_rules | `(tactic| walk_at "none 5") => `(tactic| skip)
local macro_rules | `(tactic| walk_at "none 6") => `(tactic| skip)
local macro_rules | `(tactic| walk_at "none 7") => `(tactic| skip)
local macro_rules | `(tactic| walk_at "none 8") => `(tactic| skip)
local macro_rules | `(tactic| walk_at "none 9") => `(tactic| skip)
local macro_rules | `(tactic| walk_at "none 10") => `(tactic| skip)
local macro_rules | `(tactic| walk_at "none 11") => `(tactic| skip)
local macro_rules | `(tactic| walk_at "none 12") => `(tactic| skip)
local macro_rules | `(tactic| walk_at "none 13") => `(tactic| skip)
local macro_rules | `(tactic| walk_at "none 14") => `(tactic| skip)
local macro_rules | `(tactic| walk_at "none 15") => `(tactic| skip)
local macro_rules | `(tactic| walk_at "none 16") => `(tactic| skip)
local macro_rules | `(tactic| walk_at "none 17") => `(tactic| skip)
local macro_rules | `(tactic| walk_at "none 18") => `(tactic| skip)
local macro_rules | `(tactic| walk_at "none 19") => `(tactic| skip)
local macro_rules | `(tactic| walk_at "none 20") => `(tactic| skip)
local macro_rules | `(tactic| k_room) => `(tactic| ktr_room)
local macro_rules | `(tactic| k_units) => `(tactic| ktr_units)
local macro_rules | `(tactic| k_all) => `(tactic| assumption)
local macro_rules | `(tactic| walk_at "my enter") => `(tactic| k_dflt (refine' code_def ?k1 ?k2 ?k3 ?k4 ?k5 ?kA ?kF ?kK ?k6 ?k7 ?k8 ?k9 ?kB ?_ ?c2 ?c3 ?c4 ?c5; (case kA => exact rfl); (case kF => exact rfl); (case kK => assumption); (case k1 => k_asm); (case k2 => k_asm); (case k3 => k_asm); (case k4 => k_asm); (case k5 => k_asm); (case k6 => k_is); (case k7 => k_is); (case k8 => k_room); (case k9 => first | exact BindsTo.of_eq rfl | exact binds_K (by k_in) rfl (by k_is) rfl rfl rfl); (case c5 => decide); (case kB => exact locs rfl); (case c2 => exact rfl); (case c3 => exact rfl); (case c4 => exact rfl); k_whole; intro g' L' h' FG' F' N' B' X' T'; (try dsimp only); (try k_fold)))
local macro_rules | `(tactic| walk_at "leaving ref") => `(tactic| (k_here; first
  | (refine' leave_raiseS ?k1 (Heap.MadeExc.of (by assumption)) ?k2 ?k3 ?_; (case k1 => assumption); (case k2 => assumption); (case k3 => k_asm); k_whole; intro h' t' R' RK' U'; (try dsimp only at R' U' ⊢))
  | (refine' leave_onS ?k1 ?k2 ?k3 ?k4 ?_; (case k3 => assumption); (case k1 => assumption); (case k4 => assumption); (case k2 => assumption); k_whole; intro h' R' RK' U'; (try dsimp only at R' U' ⊢))))
/-- a tree that reads the written part alone and makes two objects -/
def peek2 {α : Type} (K : Frag) (S : Setting) (t : Sem α) (a b : Addr) : Option (Obj × Obj × α) := match peekA K S t with
  | some (o1, g1) => (match peekA K S (g1 a) with
    | some (o2, g2) => (match peek K S (g2 b) with
      | some r => some (o1, o2, r)
      | none => none)
    | none => none)
  | none => none
theorem wp_of_peek2 {α : Type} {K : Frag} {M : Model} {A : Around} {E : Value → Shared → Prop} {Q : α → Shared → Prop} {s : Shared} {h₀ : Heap} {L : Addr} {m : Str → Option Value} {news : Led} {t : Sem α} {o1 : Obj} {o2 : Addr → Addr → Obj} {r : Addr → Addr → α}
    (F : Fr h₀ L s.heap m) (N : News h₀ L s.heap news) (X : K.In h₀) (e : ∀ a b, peek2 K ⟨M.prog, M.w.params⟩ t a b = some (o1, o2 a b, r a b)) (f1 : o1.isFreed = false) (f2 : ∀ a b, (o2 a b).isFreed = false)
    (h : ∀ (a b : Nat) h', Fr h₀ L h' m → News h₀ L h' ((b, o2 a b) :: (a, o1) :: news) → (∀ p ∈ news, p.1 < a) → a < b → Q (r a b) { s with heap := h' }) : wpAny M A t Q E s := by
  have e0 := fun b => e s.heap.objs.size b
  unfold peek2 at e0
  cases h1 : peekA K ⟨M.prog, M.w.params⟩ t with
  | none => have := e0 0; rw [h1] at this; cases this
  | some p =>
    obtain ⟨p1, g1⟩ := p
    simp only [h1] at e0
    have hp1 : p1 = o1 := by
      have := e0 0
      split at this
      · split at this
        · injection this with this; injection this
        · cases this
      · cases this
    subst hp1
    refine wp_of_peekA F N (X.keeps F.keep) f1 t g1 h1 fun h' F' N' hl => ?_
    cases h2 : peekA K ⟨M.prog, M.w.params⟩ (g1 s.heap.objs.size) with
    | none => have := e0 0; rw [h2] at this; cases this
    | some q =>
      obtain ⟨q1, g2⟩ := q
      simp only [h2] at e0
      have hsz : s.heap.objs.size < h'.objs.size := Heap.lt_size (N' _ (.head _)).1
      have e1 := e0 h'.objs.size
      split at e1
      · rename_i r' h3
        injection e1 with e1
        injection e1 with _ e1
        injection e1 with e2 e3
        subst e2 e3
        refine wp_of_peekA (s := { s with heap := h' }) F' N' (X.keeps F'.keep) (f2 _ _) _ g2 h2 fun h'' F'' N'' hl' => ?_
        exact fun Γ p hΓ => wp_of_peek (X.keeps F''.keep) (h s.heap.objs.size h'.objs.size h'' F'' N'' hl hsz) _ h3
      · cases e1
theorem on_check (w : World) : peek (hd.heap_39 w.params) ⟨PG, w.params⟩ (checkBuiltinCall "object.__new__" ⟨[.ref 594], []⟩) = some () := by kernel_rfl
theorem on_body (w : World) (a b : Addr) : peek2 (hd.heap_39 w.params) ⟨PG, w.params⟩ (Builtin.«object.__new__» ⟨[.ref 594], []⟩) a b = some (emptyDict, instObj 594 a, .done (.ret (.ref b))) := by kernel_rfl
theorem obj_new594 {w : World} {A : Around} {E : Value → Shared → Prop} {s : Shared} {h₀ : Heap} {L : Addr} {m : Str → Option Value} {news : Led} {Q : Value → Shared → Prop} (F : Fr h₀ L s.heap m) (N : News h₀ L s.heap news) (X : (hd.heap_39 w.params).In h₀)
    (h : ∀ (a b : Nat) h', Fr h₀ L h' m → News h₀ L h' ((b, instObj 594 a) :: (a, emptyDict) :: news) → (∀ p ∈ news, p.1 < a) → a < b → Q (.ref b) { s with heap := h' }) : wpAny (model PG w) A (call (.builtin "object.__new__") [.ref 594]) Q E s :=
  wpAny_call (codeAny_call_builtin_code (Code.quiet_builtin _ PySem.F.objNew.quiet) ((Looks.of_peek (X.keeps F.keep) (on_check w)).here (codeAny_builtin PySem.F.objNew.entry (wp_of_peek2 F N X (on_body w) rfl (fun _ _ => rfl) h))))
local macro_rules | `(tactic| walk_at "my both") => `(tactic| k_dflt (refine' kp_both ?k1 ?k2 ?k3 ?k4 ?k5 ?kA ?kF ?kK ?k6 ?k7 ?k8 ?kV ?kX ?kQ ?kM ?kN ?kD ?kR ?kP ?kS ?kT ?kB ?_ ?c2 ?c3 ?c4 ?c5; (case kA => exact rfl); (case kF => exact rfl); (case kK => assumption); (case k1 => k_asm); (case k2 => k_asm); (case k3 => k_asm); (case k4 => k_asm); (case k5 => k_asm); (case k6 => k_is); (case k7 => k_is); (case k8 => k_room); (case kV => kp_lit); (case kX => kp_lit); (case kQ => exact rfl); (case kM => exact rfl); (case kN => exact rfl); (case kD => kp_flats); (case kR => exact rfl); (case kP => exact rfl); (case kS => exact fun _ => rfl); (case kT => exact fun _ _ => rfl); (case kB => exact fun _ _ => locs rfl); (case c5 => decide); (case c2 => exact rfl); (case c3 => exact rfl); (case c4 => exact rfl); k_whole; intro C' D' o' g' L' h' tk' l1 l2 lo' hs' fs' FG' F' N' B' X' T'; (try k_lt l1); (try dsimp only); (try k_fold)))
local macro_rules | `(tactic| walk_at "call builtin:object.__new__") => `(tactic| (k_here; k_dflt (refine' obj_new594 ?k1 ?k2 ?k3 ?_; (case k1 => k_asm); (case k2 => k_asm); (case k3 => k_asm)); intro a9 b9 h9 F9 N9 l9 l8))
theorem new_ (w : World) (mean mg mb) (v : Value) (news : Led) : Ctr w mean mg mb 87 [.ref 594, v] news 3 30
    (fun r news' => ∃ (x dx : Nat), r = .ref x ∧ dx < x ∧ (∀ p ∈ news, (p.1 : Nat) < dx) ∧ ∀ p ∈ (x, instObj 594 dx) :: (dx, emptyDict) :: news, p ∈ news') := by
  have hpr := prog_here
  revert hpr
  unfold Ctr
  k_fill
  intro _ dp un gd cn cs a ccd cl outer A₀ base h₀ L m s Q E B F X N T hk hd hu hret
  refine wpAny_call ?_
  walk_at "my both"
  k_steps
  refine hret _ _ _ _ (by k_asm) (by k_asm) ⟨_, _, rfl, by assumption, fun p hp => (show ∀ p ∈ _ :: _ :: news, (p.1 : Nat) < _ by assumption) p (.tail _ (.tail _ hp)), fun p hp => ?_⟩
  rcases List.mem_cons.mp hp with rfl | hp
  · exact .head _
  rcases List.mem_cons.mp hp with rfl | hp
  · exact .tail _ (.head _)
  · exact .tail _ (.tail _ (.tail _ (.tail _ hp)))
theorem si_call (w : World) (v : Value) : peek (hd.heap_39 w.params) ⟨PG, w.params⟩ (callAny (.ref 594) ⟨[v], []⟩) = some (.again (.call (.builtin "type.__call__") ⟨[.ref 594, v], []⟩)) := by kernel_rfl
theorem si_check (w : World) (v : Value) : peek (hd.heap_39 w.params) ⟨PG, w.params⟩ (checkBuiltinCall "type.__call__" ⟨[.ref 594, v], []⟩) = some () := by kernel_rfl
theorem si_mro (w : World) : peek (hd.heap_39 w.params) ⟨PG, w.params⟩ (mroOf (.ref 594)) = some [.ref 594, .ref 117, .ref 90, .type "object"] := by kernel_rfl
theorem si_made (w : World) : peek (hd.heap_39 w.params) ⟨PG, w.params⟩ (Bind.madeBy (.ref 594)) = some none := by kernel_rfl
theorem si_reads (w : World) : readsIn (hd.heap_39 w.params) 594 (.type "type") = true := by kernel_rfl
theorem si_type (w : World) : typeIn (hd.heap_39 w.params) (.ref 594) = some (.type "type") := by kernel_rfl
theorem si_find (w : World) : findCls (hd.heap_39 w.params) (.ref 594) (.type "type") "__new__" = some (.get (.builtin "staticmethod.__get__") (.ref 91) .none (.ref 594)) := by kernel_rfl
theorem si_rec (w : World) : recIn (hd.heap_39 w.params) 91 "staticmethod" = some [.ref 87] := by kernel_rfl
theorem si_self (w : World) : mroIn (hd.heap_39 w.params) 594 (.ref 594) = some true := by kernel_rfl
theorem si_init (w : World) : findIn (hd.heap_39 w.params) (.ref 594) "__init__" = some (some (.ref 364)) := by kernel_rfl
theorem si_initF (w : World) : typeIn (hd.heap_39 w.params) (.ref 364) = some (.type "function") := by kernel_rfl
def k3 (a b c : Tok) : Nat → Tok
  | 20 => a
  | 21 => b
  | _ => c
theorem init_ (w : World) (mean mg mb) (x dx : Nat) (buf : Str) (ub : Tok) (news : Led) (hlt : dx < x) (hnl : ∀ p ∈ news, (p.1 : Nat) < dx) (hb : buf.length < 2 ^ 20) :
    Ctr w mean mg mb 364 [.ref x, .str buf ub] ((x, instObj 594 dx) :: (dx, dictOf [] 0) :: news) 5 40
    (fun v news' => v = .none ∧ ∃ (κ : Nat → Tok) (u up : Tok), news' = (x, instObj 594 dx) :: (dx, ioDict w κ u buf ub 0 up) :: news) := by
  have hpr := prog_here
  revert hpr
  unfold Ctr
  k_fill
  intro _ dp un gd cn cs a ccd cl outer A₀ base h₀ L m s Q E B F X N T hk hd hu hret
  have hn1 : ∀ p ∈ news, p.1 ≠ dx := fun p hp => Nat.ne_of_lt (hnl p hp)
  refine wpAny_call ?_
  walk_at "my enter"
  k_steps
  exact hret _ _ _ _ (by k_asm) (by k_asm) ⟨rfl, k3 _ _ _, _, _, rfl⟩
theorem stringio (w : World) (mean mg mb) (buf : Str) (ub : Tok) (news : Led) (hb : buf.length < 2 ^ 20) : Ctr w mean mg mb 594 [.str buf ub] news 8 60
    (fun v news' => ∃ (I dI : Nat) (κ : Nat → Tok) (u up : Tok), v = .ref I ∧ dI < I ∧ (∀ p ∈ news, (p.1 : Nat) < dI) ∧ ∀ p ∈ (I, instObj 594 dI) :: (dI, ioDict w κ u buf ub 0 up) :: news, p ∈ news') := by
  have hpr := prog_here
  revert hpr
  unfold Ctr
  k_fill
  intro _ dp un gd cn cs a ccd cl outer A₀ base h₀ L m s Q E B F X N T hk hd hu hret
  have XS := X.keeps F.keep
  refine wpAny_call (codeAny_of_tree ?_)
  refine (Looks.of_peek (M := model PG w) XS (si_call w (.str buf ub))).here ?_
  refine ⟨rfl, ?_⟩
  refine codeAny_call_builtin_code (Code.quiet_builtin _ (by decide +kernel)) ?_
  refine (Looks.of_peek (M := model PG w) XS (si_check w (.str buf ub))).here ?_
  refine codeAny_builtin PySem.F.entry_type_call ?_
  unfold Builtin.«type.__call__»
  have hm := Looks.of_peek (M := model PG w) XS (si_mro w)
  have hmade := Looks.of_peek (M := model PG w) XS (si_made w)
  obtain ⟨hh, gg, dd, tt, os⟩ := s
  dsimp only at *
  repeat (first | simp only [List.isEmpty_cons, Bool.false_eq_true, if_false] | with_reducible refine cls_sm F X (si_type w) (si_reads w) (si_find w) (si_rec w) rfl ?_ | ((with_reducible show wpAny _ _ (call (Value.ref 87) _) _ _ _); refine Hold.out ?_) | lk)
  refine ⟨?_⟩
  refine ctr_use (new_ w mean mg mb (.str buf ub) news) B F X N T hk (by show dp + 1 + 3 < recursionLimit; omega) ?_ ?_
  · exact (show un + 1 + 30 < cLine by omega)
  rintro r h' tk' news' F' N' ⟨x, dx, rfl, hlt, hnl, hsub⟩
  have N₁ : News h₀ L h' ((x, instObj 594 dx) :: (dx, emptyDict) :: news) := fun p hp => N' p (hsub p hp)
  have I₁ := InstAt.of_news N₁ (.head _) (.tail _ (.head _))
  have XS' := X.keeps F'.keep
  have s1 := looks_mroIn (M := model PG w) XS' (si_self w)
  unfold isInstance
  refine wpAny_bind (wpAny_bind (I₁.type.here (s1.here ?_)))
  rw [if_neg (by decide)]
  refine wpAny_bind (wpAny_holding (special_fn (name := "__init__") XS' I₁ (si_init w) (si_initF w) ?_))
  refine ctr_use (init_ w mean mg mb x dx buf ub news hlt hnl hb) B F' X N₁ T hk (by show dp + 1 + 5 < recursionLimit; omega) (show un + 1 + 40 < cLine by omega) ?_
  rintro r2 h2 tk2 news2 F₂ N₂ ⟨rfl, κ, u, up, rfl⟩
  dsimp only
  rw [if_neg (by decide)]
  refine wpAny_pure ?_
  exact hret _ _ _ _ F₂ N₂ ⟨x, dx, κ, u, up, rfl, hlt, hnl, fun p hp => hp⟩
end Mine
namespace Mine
/-- the frames that may turn -/
abbrev frs (outer : List Env) : List Addr := outer.filterMap (·.frame)
def LeaveT (fs : List Addr) (A₀ : Around) (base : Heap) (outer : List Env) (K : Frag) (p : Program) (loose : List Str) (mean : ExcName → Option Value) (mg mb : Str → Option Value) (g₀ : Heap) (L : Addr) (m : Str → Option Value) (g : Heap) (R : Result → Shared → Prop) (v : Value) (s' : Shared) : Prop :=
  ∃ g' L' m' news', KtsTurn fs g g' ∧ Fr g' L' s'.heap m' ∧ News g' L' s'.heap news' ∧ ∀ h₀', KtsTurn (frs outer) g₀ h₀' → Fr h₀' L s'.heap m → News h₀' L s'.heap news' → Below A₀ base outer h₀' → K.In h₀' → Top p loose mean mg mb h₀' →
    KtsDicts (frs outer) h₀' → R (.ok (.ret v)) s'
theorem mem_frs {env : Env} {L b : Addr} {outer : List Env} (hf : env.frame = some L) (hm : b ∈ frs (env :: outer)) : b = L ∨ b ∈ frs outer := by
  obtain ⟨e, he, hb⟩ := List.mem_filterMap.mp hm
  rcases List.mem_cons.mp he with rfl | he
  · rw [hf] at hb; exact .inl (Option.some.inj hb).symm
  · exact .inr (List.mem_filterMap.mpr ⟨e, he, hb⟩)
section
variable {prog : Program} {w : World} {A₀ A : Around} {s : Shared} {base h₀ g₀ : Heap} {outer : List Env} {L : Addr} {m : Str → Option Value} {env : Env} {news : Led} {K : Frag} {p : Program} {loose : List Str} {mean : ExcName → Option Value} {mg mb : Str → Option Value}
    {R : Result → Shared → Prop} {name qual : Str} {params : Arguments} {body : List Stmt} {scope : Scope} {dV kV doc pm cdv ct oc : Value} {an od : Option Addr} {osl : Array (Option Value)} {f : Addr} {args : Args} {binds : List (Str × Value)}
/-- what a turned callee's ground gives back to its caller -/
theorem backT (B : Below A₀ base outer h₀) (F : Fr h₀ L s.heap m) (N : News h₀ L s.heap news) (XB : K.In base) (TB : Top p loose mean mg mb base) (D : KtsDicts (frs outer) h₀) (T0 : KtsTurn (frs outer) g₀ h₀)
    (hf : env.frame = some L) {v : Value} {s' : Shared} (hl : LeaveT (frs (env :: outer)) A₀ base outer K p loose mean mg mb g₀ L m (hideAll s.heap (news.map (·.1))) R v s') : R (.ok (.ret v)) s' := by
  obtain ⟨g', L', m', news', T', F', N', k⟩ := hl
  have nm : ∀ b o, h₀.get? b = some o → b ∉ news.map (·.1) := fun b o e q => by
    obtain ⟨p, hp, rfl⟩ := List.mem_map.mp q
    rw [(N p hp).2.2] at e; cases e
  have st : h₀.StaysIn (hideAll s.heap (news.map (·.1))) := fun b o e => hideAll_get _ (F.keep b o e) (nm b o e)
  obtain ⟨oL, es, ep, hL, hLd, hLk, hLf⟩ := F.ns
  have nL : L ∉ news.map (·.1) := fun q => by
    obtain ⟨p, hp, e⟩ := List.mem_map.mp q
    exact (N p hp).2.1 e
  have hLg := hideAll_get (news.map (·.1)) hL nL
  have nL₀ : h₀.get? L = none := kts_self F
  obtain ⟨sl, hs⟩ := T'.up hLg
  obtain ⟨T₁, S₁⟩ := kts_turn_at (h := s'.heap) (fs := frs outer) (g := h₀)
    (fun b hb => by
      obtain ⟨_, o, ho', _⟩ := B.frames.mem hb
      exact ⟨o, ho'⟩)
    (fun b o e nmem => F'.keep b o (T'.other b o (st b o e) (fun q => by
      rcases mem_frs hf q with z | z
      · rw [z, nL₀] at e; cases e
      · exact nmem z)))
    (fun b o e _ => by
      obtain ⟨sl', hs'⟩ := T'.up (st b o e)
      exact ⟨sl', F'.keep _ _ hs'⟩)
  have B₃ : Below A₀ base outer (ktsHeap s'.heap (frs outer) h₀) := ⟨B.stack, fun b o e => T₁.other b o (B.stays b o e) (fun hm => by
    rw [(B.frames.mem hm).1] at e
    cases e), B.frames.of_keeps fun b o e _ => by
    obtain ⟨sl', hs'⟩ := T₁.up e
    exact ⟨_, hs', rfl⟩⟩
  refine k _ (T0.trans T₁) ⟨⟨_, es, ep, F'.keep _ _ hs, hLd, hLk, hLf⟩, S₁, by rw [T₁.size]; exact F.above⟩ (fun p hp => ⟨(N' p hp).1, fun q => ?_, ?_⟩) B₃ (XB.keeps B₃.stays) (TB.keeps B₃.stays) (D.turn T₁)
  · have := (N' p hp).2.2; rw [q, hs] at this; cases this
  · refine T₁.none_ _ ?_
    cases q : h₀.get? p.1 with
    | none => rfl
    | some o =>
      obtain ⟨sl', hs'⟩ := T'.up (st _ _ q)
      have := (N' p hp).2.2
      rw [hs'] at this
      cases this
theorem dictsT (F : Fr h₀ L s.heap m) (N : News h₀ L s.heap news) (D : KtsDicts (frs outer) h₀) (hf : env.frame = some L) : KtsDicts (frs (env :: outer)) (hideAll s.heap (news.map (·.1))) := fun b hb => by
  have nm : ∀ b o, h₀.get? b = some o → b ∉ news.map (·.1) := fun b o e q => by
    obtain ⟨p, hp, rfl⟩ := List.mem_map.mp q
    rw [(N p hp).2.2] at e; cases e
  rcases mem_frs hf hb with rfl | hb
  · obtain ⟨oL, es, ep, hL, hLd, hLk, hLf⟩ := F.ns
    refine ⟨oL, es, ep, hideAll_get _ hL (fun q => ?_), hLd⟩
    obtain ⟨p, hp, e⟩ := List.mem_map.mp q
    exact (N p hp).2.1 e
  · obtain ⟨o, es', n', ho', hd'⟩ := D b hb
    exact ⟨o, es', n', hideAll_get _ (F.keep b o ho') (nm b o ho'), hd'⟩
/-- a def is entered, from a frame with or without cells; what it catches may turn the frames below -/
theorem code_defT (B : Below A₀ base outer h₀) (F : Fr h₀ L s.heap m) (X₀ : K.In h₀) (N : News h₀ L s.heap news) (T : Top p loose mean mg mb h₀) (XB : K.In base) (TB : Top p loose mean mg mb base) (D : KtsDicts (frs outer) h₀)
    (T0 : KtsTurn (frs outer) g₀ h₀) (hA : A.frames = some (env :: outer)) (hf : env.frame = some L) (hke : env.scope.kind = .function)
    (ho : K.lookup f = some ⟨oc, od, .func (fnOf name qual params body scope dV kV doc pm an cdv ct), osl⟩) (hcd : codeIn K cdv qual = true) (hroom : A.depth < recursionLimit)
    (hbind : BindsTo s (fnOf name qual params body scope dV kV doc pm an cdv ct) args binds) (hloc : ∀ y ∈ binds, scope.names.lookup y.1 = some .local)
    (h : ∀ g L' h₁, Fr h₀ L g m → Fr g L' h₁ (fun y => binds.reverse.lookup y) → News g L' h₁ news → Below A base (env :: outer) g → K.In g → Top p loose mean mg mb g → KtsDicts (frs (env :: outer)) g → (∀ p ∈ news, (p.1 : Nat) < L') →
      wpAny (model prog w) (A.deeper (envOf qual scope L' f cdv)) (execs body (envOf qual scope L' f cdv))
        (fun fl s' => LeaveT (frs (env :: outer)) A₀ base outer K p loose mean mg mb g₀ L m g R (match fl with | .ret v => v | _ => .none) s')
        (fun e s' => wpAny (model prog w) (A.deeper (envOf qual scope L' f cdv)) (leaving (envOf qual scope L' f cdv) e) (fun _ s'' => R (.error e) s'') (fun e' s'' => R (.error e') s'') s')
        { s with heap := h₁, toks := s.toks + binds.length })
    (hco : scope.isCoroutine = false) (hgen : scope.isGenerator = false) (hk : scope.kind = .function)
    (hcell : ∀ x ∈ scope.names, x.2 ≠ .cell) : codeAny (model prog w) A (.call (.ref f) args) R s := by
  have X := X₀.keeps F.keep
  obtain ⟨FG, BG, st, _⟩ := groundX (R := R) B F N hA hf hke
  refine codeAny_call_def (fd := fnOf name qual params body scope dV kV doc pm an cdv ct) (body := body) (binds := binds) hroom (X _ _ ho) rfl (T.nolimit.keeps F.keep) (codeRec_of X hcd) rfl hbind hcell hloc (fun h₁ hns hk₁ => ?_) hco hgen hk
  exact wpAny_mono (h _ s.heap.objs.size h₁ FG ⟨hns, fun b o e => hk₁ b o (of_hideAll _ e), Nat.le_of_eq (hideAll_size _ _)⟩
    (fun p hp => ⟨hk₁ _ _ (N p hp).1, Nat.ne_of_lt (Heap.lt_size (N p hp).1), hideAll_none _ (List.mem_map_of_mem hp)⟩) BG (X₀.keeps st) (T.keeps st) (dictsT F N D hf) (fun p hp => Heap.lt_size (N p hp).1))
    (fun fl s' hl => backT B F N XB TB D T0 hf hl) fun _ _ y => y
end
/-- a call that may turn the frames' slots below, and may raise -/
def CtrS (w : World) (mean : ExcName → Option Value) (mg mb : Str → Option Value) (f : Addr) (vs : List Value) (news : Led) (D U : Nat) (Post : Value → Led → Prop) (PostE : String → List Value → Led → Prop) : Prop :=
  ∀ (dp un : Nat) (gd : Option (List Code)) (cn : Str) (cs : Scope) (a : Addr) (ccd : Value) (cl : List (Str × Addr)) (outer : List Env) (A₀ : Around) (base g₀ h₀ : Heap) (L : Addr) (m : Str → Option Value) (s : Shared) (Q E : Value → Shared → Prop),
    Below A₀ base outer h₀ → Fr h₀ L s.heap m → (hd.heap_39 w.params).In h₀ → News h₀ L s.heap news → Top hd.view_39 LS mean mg mb h₀ → (hd.heap_39 w.params).In base → Top hd.view_39 LS mean mg mb base → KtsDicts (frs outer) h₀ → KtsTurn (frs outer) g₀ h₀ → cs.kind = .function →
    dp + D < recursionLimit → un + U < cLine →
    (∀ v h₀' h' tk' news', KtsTurn (frs outer) g₀ h₀' → Fr h₀' L h' m → News h₀' L h' news' → Below A₀ base outer h₀' → (hd.heap_39 w.params).In h₀' → Top hd.view_39 LS mean mg mb h₀' → KtsDicts (frs outer) h₀' → Post v news' → Q v { s with heap := h', toks := tk' }) →
    (∀ e t cls vs h' tk' news' g, RaisedS base g (envX cn cs L a ccd cl :: outer) e (.type cls) t vs news' h' → Fr h₀ L g m → g.UpToSlots h' → PostE cls vs news' → E (.ref e) { s with heap := h', toks := tk' }) →
      wpAny (model PG w) (ktrTop dp un gd cn cs L a ccd cl outer) (call (.ref f) vs) Q E s
section
variable {w : World} {mean : ExcName → Option Value} {mg mb : Str → Option Value} {f : Addr} {vs : List Value} {news : Led} {D U : Nat} {Post : Value → Led → Prop} {PostE : String → List Value → Led → Prop}
  {dp un : Nat} {gd : Option (List Code)} {cn : Str} {cs : Scope} {a : Addr} {ccd : Value} {cl : List (Str × Addr)} {outer : List Env} {A₀ : Around} {base g₀ h₀ : Heap} {L : Addr} {m : Str → Option Value} {s : Shared} {Q E : Value → Shared → Prop}
theorem ctrS_use (C : CtrS w mean mg mb f vs news D U Post PostE) (B : Below A₀ base outer h₀) (F : Fr h₀ L s.heap m) (X : (hd.heap_39 w.params).In h₀) (N : News h₀ L s.heap news) (T : Top hd.view_39 LS mean mg mb h₀)
    (XB : (hd.heap_39 w.params).In base) (TB : Top hd.view_39 LS mean mg mb base) (Dk : KtsDicts (frs outer) h₀) (T0 : KtsTurn (frs outer) g₀ h₀) (hk : cs.kind = .function)
    (hdp : dp + D < recursionLimit) (hun : un + U < cLine)
    (ret : ∀ v h₀' h' tk' news', KtsTurn (frs outer) g₀ h₀' → Fr h₀' L h' m → News h₀' L h' news' → Below A₀ base outer h₀' → (hd.heap_39 w.params).In h₀' → Top hd.view_39 LS mean mg mb h₀' → KtsDicts (frs outer) h₀' → Post v news' → Q v { s with heap := h', toks := tk' })
    (exc : ∀ e t cls vs h' tk' news' g, RaisedS base g (envX cn cs L a ccd cl :: outer) e (.type cls) t vs news' h' → Fr h₀ L g m → g.UpToSlots h' → PostE cls vs news' → E (.ref e) { s with heap := h', toks := tk' }) :
    wpAny (model PG w) (ktrTop dp un gd cn cs L a ccd cl outer) (call (.ref f) vs) Q E s := C _ _ _ _ _ _ _ _ _ _ _ _ _ _ _ _ _ _ B F X N T XB TB Dk T0 hk hdp hun ret exc
/-- a plain contract, in a frame that may have turned -/
theorem Ctr.toS (C : Ctr w mean mg mb f vs news D U Post) : CtrS w mean mg mb f vs news D U Post PostE := fun _ _ _ _ _ _ _ _ _ _ _ _ _ _ _ _ _ _ B F X N T _ _ Dk T0 hk hdp hun ret _ =>
  C _ _ _ _ _ _ _ _ _ _ _ _ _ _ _ _ _ B F X N T hk hdp hun fun v h' tk' news' F' N' P' => ret v _ h' tk' news' T0 F' N' B X T Dk P'
end
end Mine
namespace Mine
theorem top_off_MK04 : True := by
  w_top off
  exact trivial
local macro_rules | `(tactic| walk_at "none 0") => `(tactic| skip)
local macro_rules | `(tactic| walk_at "none 1") => `(tactic| skip)
local macro_rules | `(tactic| walk_at "none 2") => `(tactic| skip)
local macro_rules | `(tactic| walk_at "none 3") => `(tactic| skip)
local macro_rules | `(tactic| walk_at "none 4") => `(tactic| skip)
local macro_rules | `(tactic| walk_at "none 5") => `(tactic| skip)
local macro_rules | `(tactic| walk_at "none 6") => `(tactic| skip)
local macro_rules | `(tactic| walk_at "none 7") => `(tactic| skip)
local macro_rules | `(tactic| walk_at "none 8") => `(tactic| skip)
local macro_rules | `(tactic| walk_at "none 9") => `(tactic| skip)
local macro_rules | `(tactic| walk_at "none 10") => `(tactic| skip)
local macro_rules | `(tactic| walk_at "none 11") => `(tactic| skip)
local macro_rules | `(tactic| walk_at "none 12") => `(tactic| skip)
local macro_rules | `(tactic| walk_at "none 13") => `(tactic| skip)
local macro_rules | `(tactic| walk_at "none 14") => `(tactic| skip)
local macro_rules | `(tactic| walk_at "none 15") => `(tactic| skip)
local macro_rules | `(tactic| walk_at "none 16") => `(tactic| skip)
local macro_rules | `(tactic| walk_at "none 17") => `(tactic| skip)
local macro_rules | `(tactic| walk_at "none 18") => `(tactic| skip)
local macro_rules | `(tactic| walk_at "none 19") => `(tactic| skip)
local macro_rules | `(tactic| walk_at "none 20") => `(tactic| skip)
local macro_rules | `(tactic| walk_at "none 21") => `(tactic| skip)
local macro_rules | `(tactic| walk_at "none 22") => `(tactic| skip)
local macro_rules | `(tactic| walk_at "none 23") => `(tactic| skip)
local macro_rules | `(tactic| k_room) => `(tactic| ktr_room)
local macro_rules | `(tactic| k_units) => `(tactic| ktr_units)
local macro_rules | `(tactic| k_all) => `(tactic| assumption)
local macro_rules | `(tactic| walk_at "my enter") => `(tactic| k_dflt (refine' code_def ?k1 ?k2 ?k3 ?k4 ?k5 ?kA ?kF ?kK ?k6 ?k7 ?k8 ?k9 ?kB ?_ ?c2 ?c3 ?c4 ?c5; (case kA => exact rfl); (case kF => exact rfl); (case kK => assumption); (case k1 => k_asm); (case k2 => k_asm); (case k3 => k_asm); (case k4 => k_asm); (case k5 => k_asm); (case k6 => k_is); (case k7 => k_is); (case k8 => k_room); (case k9 => first | exact BindsTo.of_eq rfl | exact binds_K (by k_in) rfl (by k_is) rfl rfl rfl); (case c5 => decide); (case kB => exact locs rfl); (case c2 => exact rfl); (case c3 => exact rfl); (case c4 => exact rfl); k_whole; intro g' L' h' FG' F' N' B' X' T'; (try dsimp only); (try k_fold)))
local macro_rules | `(tactic| walk_at "leaving ref") => `(tactic| (k_here; first
  | (refine' leave_raiseS ?k1 (Heap.MadeExc.of (by assumption)) ?k2 ?k3 ?_; (case k1 => assumption); (case k2 => assumption); (case k3 => k_asm); k_whole; intro h' t' R' RK' U'; (try dsimp only at R' U' ⊢))
  | (refine' leave_onS ?k1 ?k2 ?k3 ?k4 ?_; (case k3 => assumption); (case k1 => assumption); (case k4 => assumption); (case k2 => assumption); k_whole; intro h' R' RK' U'; (try dsimp only at R' U' ⊢))))
theorem units_under9 (A : Around) (C : Addr) (vals : List Value) (kw : List (Str × Value)) : (A.under (.builtin "type.__call__" ⟨.ref C :: vals, kw⟩)).units = A.units + 1 := rfl
theorem News.drop9 {h₀ h : Heap} {L : Addr} {news news' : Led} (N : News h₀ L h news') (hs : ∀ p ∈ news, p ∈ news') : News h₀ L h news := fun p hp => N p (hs p hp)
local macro_rules | `(tactic| walk_at "call ref") => `(tactic| (k_here; (with_reducible show wpAny _ _ (call (Value.ref 594) _) _ _ _); k_dflt (refine' ctr_use (stringio _ _ _ _ _ _ _ ?hb) ?k1 ?k2 ?k3 ?k4 ?k5 ?kK ?kd ?ku ?_; (case k1 => k_asm); (case k2 => k_asm); (case k3 => k_asm); (case k4 => k_asm); (case k5 => k_asm); (case kK => first | exact rfl | assumption); (case hb => assumption); (case kd => ktr_room); (case ku => first | ktr_units | (have hcL9 := cLine_is; (simp only [units_in1, units_deeper, Around.mark_units, units_under9]); (try dsimp only [ktrTop]); omega))); (intro v9 h9 tk9 n9 F9 N9 P9; (obtain ⟨I9, dI9, κ9, u9, up9, e9, o9, l9, hs9⟩ := P9); (subst e9); (replace N9 := News.drop9 N9 hs9); (clear hs9); (try k_lt l9); (try k_fold))))
local macro_rules | `(tactic| walk_at "call type:collections.deque") => `(tactic| (k_here; k_dflt (refine' deque_N ?k1 ?k2 ?_; (case k1 => k_asm); (case k2 => k_asm)); intro D9 h9 F9 N9 l9; (try k_lt l9)))
def nthT : List Tok → Nat → Tok
  | [], _ => 0
  | a :: _, 0 => a
  | _ :: l, n + 1 => nthT l n
def kk (κ : Nat → Tok) (l : List Tok) (n : Nat) : Tok := cond (Nat.blt n 19) (nthT l n) (κ n)
noncomputable abbrev lexDict0 (w : World) (κ υ : Nat → Tok) (I P Fk : Addr) (px : Bool) (vE : Value) (wc : Str) (us ul ut : Tok) : Obj :=
  dictOf [en w "instream" (κ 0) (.ref I), en w "infile" (κ 1) .none, en w "posix" (κ 2) (.bool px), en w "eof" (κ 3) vE, en w "commenters" (κ 4) (.str (Str.ofString "#") (υ 4)), en w "wordchars" (κ 5) (.str wc (υ 5)),
    en w "whitespace" (κ 6) (.str (Str.ofString " \t\r\n") (υ 6)), en w "whitespace_split" (κ 7) (.bool false), en w "quotes" (κ 8) (.str (Str.ofString "'\"") (υ 8)), en w "escape" (κ 9) (.str (Str.ofString "\\") (υ 9)),
    en w "escapedquotes" (κ 10) (.str (Str.ofString "\"") (υ 10)), en w "state" (κ 11) (.str (Str.ofString " ") us), en w "pushback" (κ 12) (.ref P), en w "lineno" (κ 13) (.int 1 ul), en w "debug" (κ 14) (.int 0 (υ 14)), en w "token" (κ 15) (.str (Str.ofString "") ut),
    en w "filestack" (κ 16) (.ref Fk), en w "source" (κ 17) .none, en w "_punctuation_chars" (κ 18) (.str (Str.ofString "") (υ 18))] 19
theorem noq_of {x : Str} (h : x.cps.toList.all (fun c => !isQt c) = true) : ∀ c, inS x c = true → isQt c = false := by
  intro c hc
  have := List.all_eq_true.mp h c (of_decide_eq_true hc)
  simpa using this
theorem noq_app {x y : Str} (hx : ∀ c, inS x c = true → isQt c = false) (hy : ∀ c, inS y c = true → isQt c = false) : ∀ c, inS (x ++ y) c = true → isQt c = false := by
  intro c hc
  have h1 := of_decide_eq_true hc
  rw [Str.cps_append, Array.toList_append, List.mem_append] at h1
  rcases h1 with h1 | h1
  · exact hx c (decide_eq_true h1)
  · exact hy c (decide_eq_true h1)
theorem perm_lex {h₀ h : Heap} {L : Addr} {S dS I dI P Fk : Nat} {od oi : Obj} {news : Led} (N : News h₀ L h ((Fk, dqObj) :: (P, dqObj) :: (I, instObj 594 dI) :: (dI, oi) :: (S, instObj 729 dS) :: (dS, od) :: news)) :
    News h₀ L h (lexLed S dS I dI od oi ((P, dqObj) :: (Fk, dqObj) :: news)) := by
  intro p hp
  rcases List.mem_cons.mp hp with rfl | hp
  · exact N _ (.tail _ (.tail _ (.tail _ (.tail _ (.head _)))))
  rcases List.mem_cons.mp hp with rfl | hp
  · exact N _ (.tail _ (.tail _ (.tail _ (.tail _ (.tail _ (.head _))))))
  rcases List.mem_cons.mp hp with rfl | hp
  · exact N _ (.tail _ (.tail _ (.head _)))
  rcases List.mem_cons.mp hp with rfl | hp
  · exact N _ (.tail _ (.tail _ (.tail _ (.head _))))
  rcases List.mem_cons.mp hp with rfl | hp
  · exact N _ (.tail _ (.head _))
  rcases List.mem_cons.mp hp with rfl | hp
  · exact N _ (.head _)
  · exact N _ (.tail _ (.tail _ (.tail _ (.tail _ (.tail _ (.tail _ hp))))))
noncomputable abbrev lexDict9 (w : World) (k0 k1 k2 k3 k4 k5 k6 k7 k8 k9 k10 k11 k12 k13 k14 k15 k16 k17 k18 v4 v5 v6 v8 v9 v10 v14 v18 : Tok) (I P Fk : Addr) (px : Bool) (vE : Value) (wc : Str) (us ul ut : Tok) : Obj :=
  dictOf [en w "instream" k0 (.ref I), en w "infile" k1 .none, en w "posix" k2 (.bool px), en w "eof" k3 vE, en w "commenters" k4 (.str (Str.ofString "#") v4), en w "wordchars" k5 (.str wc v5),
    en w "whitespace" k6 (.str (Str.ofString " \t\r\n") v6), en w "whitespace_split" k7 (.bool false), en w "quotes" k8 (.str (Str.ofString "'\"") v8), en w "escape" k9 (.str (Str.ofString "\\") v9),
    en w "escapedquotes" k10 (.str (Str.ofString "\"") v10), en w "state" k11 (.str (Str.ofString " ") us), en w "pushback" k12 (.ref P), en w "lineno" k13 (.int 1 ul), en w "debug" k14 (.int 0 v14), en w "token" k15 (.str (Str.ofString "") ut),
    en w "filestack" k16 (.ref Fk), en w "source" k17 .none, en w "_punctuation_chars" k18 (.str (Str.ofString "") v18)] 19
theorem mk_lex9 (w : World) (mean mg mb) (px : Bool) (buf : Str) (ub : Tok) (news : Led) (hb : buf.length < 2 ^ 20)
    (dp un : Nat) (gd : Option (List Code)) (cn : Str) (cs : Scope) (a : Addr) (ccd : Value) (cl : List (Str × Addr)) (outer : List Env) (A₀ : Around) (base h₀ : Heap) (L : Addr) (m : Str → Option Value) (s : Shared) (Q E : Value → Shared → Prop)
    (B : Below A₀ base outer h₀) (F : Fr h₀ L s.heap m) (X : (hd.heap_39 w.params).In h₀) (N : News h₀ L s.heap news) (T : Top hd.view_39 LS mean mg mb h₀) (hk : cs.kind = .function) (hdp : dp + 14 < recursionLimit) (hun : un + 120 < cLine)
    (ret : ∀ (S dS I dI P Fk : Nat) (κ : Nat → Tok) (k0 k1 k2 k3 k4 k5 k6 k7 k8 k9 k10 k11 k12 k13 k14 k15 k16 k17 k18 v4 v5 v6 v8 v9 v10 v14 v18 : Tok) (u up te us ul ut : Tok) (wc : Str) h' tk', (∀ c, inS wc c = true → isQt c = false) → dS < S → S < dI → dI < I → I < P → P < Fk → (∀ p ∈ news, (p.1 : Nat) < dS) → Fr h₀ L h' m →
      News h₀ L h' (lexLed S dS I dI (lexDict9 w k0 k1 k2 k3 k4 k5 k6 k7 k8 k9 k10 k11 k12 k13 k14 k15 k16 k17 k18 v4 v5 v6 v8 v9 v10 v14 v18 I P Fk px (eofVal px te) wc us ul ut) (ioDict w κ u buf ub 0 up) ((P, dqObj) :: (Fk, dqObj) :: news)) → Q (.ref S) { s with heap := h', toks := tk' }) :
    PySem.Challenge.rw_mj0242_04.prog = PySem.Challenge.rw_mj0242_04.prog →
    wpAny (model PG w) (ktrTop dp un gd cn cs L a ccd cl outer) (call (.ref 729) [.str buf ub] [(Str.ofString "posix", .bool px)]) Q E s := by
  revert X
  k_fill
  intro X _
  k_dflt (refine' call_cls ?k1 ?k2 ?k3 ?k4 ?k5 ?k6 ?_; (case k1 => k_asm); (case k2 => k_asm); (case k3 => k_asm); (case k4 => k_is); (case k5 => k_is); (case k6 => k_is); k_whole; intro x' d' h' F' N' l1 l2; (have l0 := l1); (try k_lt l1); (try k_lt2 l2))
  walk_at "my enter"
  cases px
  · k_steps
    rename News h₀ L _ _ => NN
    rename Nat → Tok => κ9
    refine ret _ _ _ _ _ _ κ9 _ _ _ _ _ _ _ _ _ _ _ _ _ _ _ _ _ _ _ _ _ _ _ _ _ _ _ _ _ _ _ _ _ _ _ _ ?hw ?p1 ?p2 ?p3 ?p4 ?p5 ?pl ?hF (perm_lex NN)
    case hF => k_asm
    case pl => exact l0
    case hw => exact noq_of (by decide +kernel)
    all_goals omega
  · k_steps
    rename News h₀ L _ _ => NN
    rename Nat → Tok => κ9
    refine ret _ _ _ _ _ _ κ9 _ _ _ _ _ _ _ _ _ _ _ _ _ _ _ _ _ _ _ _ _ _ _ _ _ _ _ _ _ 0 _ _ _ _ _ _ ?zhw ?zp1 ?zp2 ?zp3 ?zp4 ?zp5 ?zpl ?zhF (perm_lex NN)
    case zhF => k_asm
    case zpl => exact l0
    case zhw => exact noq_of (by decide +kernel)
    all_goals omega
theorem mk_lex (w : World) (mean mg mb) (px : Bool) (buf : Str) (ub : Tok) (news : Led) (hb : buf.length < 2 ^ 20)
    (dp un : Nat) (gd : Option (List Code)) (cn : Str) (cs : Scope) (a : Addr) (ccd : Value) (cl : List (Str × Addr)) (outer : List Env) (A₀ : Around) (base h₀ : Heap) (L : Addr) (m : Str → Option Value) (s : Shared) (Q E : Value → Shared → Prop)
    (B : Below A₀ base outer h₀) (F : Fr h₀ L s.heap m) (X : (hd.heap_39 w.params).In h₀) (N : News h₀ L s.heap news) (T : Top hd.view_39 LS mean mg mb h₀) (hk : cs.kind = .function) (hdp : dp + 14 < recursionLimit) (hun : un + 120 < cLine)
    (ret : ∀ (S dS I dI P Fk : Nat) (κ υ : Nat → Tok) (u up te us ul ut : Tok) (wc : Str) h' tk', (∀ c, inS wc c = true → isQt c = false) → dS < S → S < dI → dI < I → I < P → P < Fk → (∀ p ∈ news, (p.1 : Nat) < dS) → Fr h₀ L h' m →
      News h₀ L h' (lexLed S dS I dI (lexDict0 w κ υ I P Fk px (eofVal px te) wc us ul ut) (ioDict w κ u buf ub 0 up) ((P, dqObj) :: (Fk, dqObj) :: news)) → Q (.ref S) { s with heap := h', toks := tk' }) :
    PySem.Challenge.rw_mj0242_04.prog = PySem.Challenge.rw_mj0242_04.prog →
    wpAny (model PG w) (ktrTop dp un gd cn cs L a ccd cl outer) (call (.ref 729) [.str buf ub] [(Str.ofString "posix", .bool px)]) Q E s := by
  refine mk_lex9 w mean mg mb px buf ub news hb dp un gd cn cs a ccd cl outer A₀ base h₀ L m s Q E B F X N T hk hdp hun ?_
  intro S dS I dI P Fk κ k0 k1 k2 k3 k4 k5 k6 k7 k8 k9 k10 k11 k12 k13 k14 k15 k16 k17 k18 v4 v5 v6 v8 v9 v10 v14 v18 u up te us ul ut wc h' tk' hw p1 p2 p3 p4 p5 pl hF hN
  exact ret S dS I dI P Fk (kk κ [k0, k1, k2, k3, k4, k5, k6, k7, k8, k9, k10, k11, k12, k13, k14, k15, k16, k17, k18]) (nthT [0, 0, 0, 0, v4, v5, v6, 0, v8, v9, v10, 0, 0, 0, v14, 0, 0, 0, v18]) u up te us ul ut wc h' tk' hw p1 p2 p3 p4 p5 pl hF hN
end Mine
namespace Mine
theorem top_off_SP04 : True := by
  w_top off
  exact trivial
local macro_rules | `(tactic| walk_at "none 0") => `(tactic| skip)
local macro_rules | `(tactic| walk_at "none 1") => `(tactic| skip)
local macro_rules | `(tactic| walk_at "none 2") => `(tactic| skip)
local macro_rules | `(tactic| walk_at "none 3") => `(tactic| skip)
local macro_rules | `(tactic| walk_at "none 4") => `(tactic| skip)
local macro_rules | `(tactic| walk_at "none 5") => `(tactic| skip)
local macro_rules | `(tactic| walk_at "none 6") => `(tactic| skip)
local macro_rules | `(tactic| walk_at "none 7") => `(tactic| skip)
local macro_rules | `(tactic| walk_at "none 8") => `(tactic| skip)
local macro_rules | `(tactic| walk_at "none 9") => `(tactic| skip)
local macro_rules | `(tactic| walk_at "none 10") => `(tactic| skip)
local macro_rules | `(tactic| walk_at "none 11") => `(tactic| skip)
local macro_rules | `(tactic| walk_at "none 12") => `(tactic| skip)
local macro_rules | `(tactic| walk_at "none 13") => `(tactic| skip)
local macro_rules | `(tactic| walk_at "none 14") => `(tactic| skip)
local macro_rules | `(tactic| walk_at "none 15") => `(tactic| skip)
local macro_rules | `(tactic| walk_at "none 16") => `(tactic| skip)
local macro_rules | `(tactic| walk_at "none 17") => `(tactic| skip)
local macro_rules | `(tactic| walk_at "none 18") => `(tactic| skip)
local macro_rules | `(tactic| walk_at "none 19") => `(tactic| skip)
local macro_rules | `(tactic| walk_at "none 20") => `(tactic| skip)
local macro_rules | `(tactic| walk_at "none 21") => `(tactic| skip)
local macro_rules | `(tactic| walk_at "none 22") => `(tactic| skip)
local macro_rules | `(tactic| walk_at "none 23") => `(tactic| skip)
local macro_rules | `(tactic| walk_at "none 24") => `(tactic| skip)
local macro_rules | `(tactic| walk_at "none 25") => `(tactic| skip)
local macro_rules | `(tactic| k_room) => `(tactic| ktr_room)
local macro_rules | `(tactic| k_units) => `(tactic| ktr_units)
local macro_rules | `(tactic| k_all) => `(tactic| assumption)
local macro_rules | `(tactic| walk_at "my enter") => `(tactic| k_dflt (refine' code_def ?k1 ?k2 ?k3 ?k4 ?k5 ?kA ?kF ?kK ?k6 ?k7 ?k8 ?k9 ?kB ?_ ?c2 ?c3 ?c4 ?c5; (case kA => exact rfl); (case kF => exact rfl); (case kK => assumption); (case k1 => k_asm); (case k2 => k_asm); (case k3 => k_asm); (case k4 => k_asm); (case k5 => k_asm); (case k6 => k_is); (case k7 => k_is); (case k8 => k_room); (case k9 => first | exact BindsTo.of_eq rfl | exact binds_K (by k_in) rfl (by k_is) rfl rfl rfl); (case c5 => decide); (case kB => exact locs rfl); (case c2 => exact rfl); (case c3 => exact rfl); (case c4 => exact rfl); k_whole; intro g' L' h' FG' F' N' B' X' T'; (try dsimp only); (try k_fold)))
local macro_rules | `(tactic| walk_at "leaving ref") => `(tactic| (k_here; first
  | (refine' leave_raiseS ?k1 (Heap.MadeExc.of (by assumption)) ?k2 ?k3 ?_; (case k1 => assumption); (case k2 => assumption); (case k3 => k_asm); k_whole; intro h' t' R' RK' U'; (try dsimp only at R' U' ⊢))
  | (refine' leave_onS ?k1 ?k2 ?k3 ?k4 ?_; (case k3 => assumption); (case k1 => assumption); (case k4 => assumption); (case k2 => assumption); k_whole; intro h' R' RK' U'; (try dsimp only at R' U' ⊢))))
local macro_rules | `(tactic| walk_at "my enterT") => `(tactic| k_dflt (refine' code_defT ?k1 ?k2 ?k3 ?k4 ?k5 ?XB ?TB ?kD ?T0 ?kA ?kF ?kK ?k6 ?k7 ?k8 ?k9 ?kB ?_ ?c2 ?c3 ?c4 ?c5; (case kA => exact rfl); (case kF => exact rfl); (case kK => assumption); (case k1 => k_asm); (case k2 => k_asm); (case k3 => k_asm); (case k4 => k_asm); (case k5 => k_asm); (case XB => assumption); (case TB => assumption); (case kD => assumption); (case T0 => assumption); (case k6 => k_is); (case k7 => k_is); (case k8 => k_room); (case k9 => first | exact BindsTo.of_eq rfl | exact binds_K (by k_in) rfl (by k_is) rfl rfl rfl); (case c5 => decide); (case kB => exact locs rfl); (case c2 => exact rfl); (case c3 => exact rfl); (case c4 => exact rfl); k_whole; intro g' L' h' FG' F' N' B' X' T' D' l0; (try dsimp only); (try k_fold)))
def up4 (υ : Nat → Tok) (uc : Tok) : Nat → Tok
  | 4 => uc
  | n => υ n
noncomputable abbrev lexDict4 (w : World) (κ υ : Nat → Tok) (uc : Tok) (I P Fk : Addr) (px : Bool) (vE : Value) (cm wc : Str) (us ul ut : Tok) : Obj :=
  dictOf [en w "instream" (κ 0) (.ref I), en w "infile" (κ 1) .none, en w "posix" (κ 2) (.bool px), en w "eof" (κ 3) vE, en w "commenters" (κ 4) (.str cm uc), en w "wordchars" (κ 5) (.str wc (υ 5)),
    en w "whitespace" (κ 6) (.str (Str.ofString " \t\r\n") (υ 6)), en w "whitespace_split" (κ 7) (.bool true), en w "quotes" (κ 8) (.str (Str.ofString "'\"") (υ 8)), en w "escape" (κ 9) (.str (Str.ofString "\\") (υ 9)),
    en w "escapedquotes" (κ 10) (.str (Str.ofString "\"") (υ 10)), en w "state" (κ 11) (.str (Str.ofString " ") us), en w "pushback" (κ 12) (.ref P), en w "lineno" (κ 13) (.int 1 ul), en w "debug" (κ 14) (.int 0 (υ 14)), en w "token" (κ 15) (.str (Str.ofString "") ut),
    en w "filestack" (κ 16) (.ref Fk), en w "source" (κ 17) .none, en w "_punctuation_chars" (κ 18) (.str (Str.ofString "") (υ 18))] 19
theorem At.zero (buf : Str) : At buf 0 buf.cps.toList := ⟨Int.le_refl _, Int.natCast_nonneg _, rfl⟩
theorem list_lex4 {w : World} {mean : ExcName → Option Value} {mg mb : Str → Option Value} {S dS I dI P Fk : Nat} {κ υ : Nat → Tok} {uc u ub te us ul ut up : Tok} {px : Bool} (cmb : Bool) {cm wc buf : Str} {news : Led} (hb : buf.length < 2 ^ 20)
    (o1 : dS < S) (o2 : S < dI) (o3 : dI < I) (o4 : I < P) (o5 : P < Fk) (hnw : ∀ p ∈ news, p.1 < dS) (hcm : ∀ c, inS cm c = (cmb && c == 35)) (hwc : ∀ c, inS wc c = true → isQt c = false)
    {dp un : Nat} {gd : Option (List Code)} {cn : Str} {cs : Scope} {a : Addr} {ccd : Value} {outer : List Env} {A₀ : Around} {base h₀ : Heap} {L : Addr} {m : Str → Option Value} {s : Shared} {Q E : Value → Shared → Prop}
    (B : Below A₀ base outer h₀) (F : Fr h₀ L s.heap m) (K : (hd.heap_39 w.params).In h₀) (N : News h₀ L s.heap (lexLed S dS I dI (lexDict4 w κ υ uc I P Fk px (eofVal px te) cm wc us ul ut) (ioDict w κ u buf ub 0 up) ((P, dqObj) :: (Fk, dqObj) :: news)))
    (T : Top hd.view_39 LS mean mg mb h₀) (hk : cs.kind = .function) (hdp : dp + 11 < recursionLimit) (hun : un + 110 < cLine)
    (ret : ∀ (D : Nat) h₀' h' tk' led' its ws c, KtsTurn (frs outer) h₀ h₀' → Fr h₀' L h' m → News h₀' L h' ((D, listOf its c) :: led') → (∀ p ∈ news, p ∈ led') → (∀ p ∈ news, p.1 < D) → Below A₀ base outer h₀' → wordsF px cmb (buf.length + 2) .sp buf.cps.toList = .ok ws → StrsAre its.toList ws → Q (.ref D) { s with heap := h', toks := tk' })
    (exc : ∀ e t vs h' tk' news' g msg t1, RaisedS base g (envX cn cs L a ccd [] :: outer) e (.type "ValueError") t vs news' h' → Fr h₀ L g m → g.UpToSlots h' → wordsF px cmb (buf.length + 2) .sp buf.cps.toList = .error msg → vs = [.str msg t1] → (∀ p ∈ news, p ∈ news') → E (.ref e) { s with heap := h', toks := tk' }) :
    wpAny (model PG w) (ktrTop dp un gd cn cs L a ccd [] outer) (call (.type "list") [.ref S]) Q E s :=
  list_lex w mean mg mb S dS I dI P Fk κ (up4 υ uc) u ub te us ul ut up px cmb cm wc buf 1 0 buf.cps.toList news hb o1 o2 o3 o4 o5 hnw hcm hwc (At.zero buf)
    dp un gd cn cs a ccd outer A₀ base h₀ L m s Q E B F K N T hk hdp hun ret exc
theorem inS_hash (c : Nat) : inS (Str.ofString "#") c = (true && c == 35) := by
  unfold inS
  rw [show (Str.ofString "#").cps.toList = [35] by decide +kernel]
  simp
  rfl
theorem inS_none (c : Nat) : inS (Str.ofString "") c = (false && c == 35) := by
  unfold inS
  rw [show (Str.ofString "").cps.toList = [] by decide +kernel]
  simp
def SplitPost (buf : Str) (px cmb : Bool) (news : Led) (v : Value) (news' : Led) : Prop :=
  ∃ (D : Nat) (its : Array Value) (ws : List Str) (c : Nat), v = .ref D ∧ wordsF px cmb (buf.length + 2) .sp buf.cps.toList = .ok ws ∧ StrsAre its.toList ws ∧ (D, listOf its c) ∈ news' ∧ (∀ p ∈ news, p ∈ news') ∧ ∀ p ∈ news, (p.1 : Nat) < D
def SplitExc (buf : Str) (px cmb : Bool) (news : Led) (cls : String) (vs : List Value) (news' : Led) : Prop :=
  cls = "ValueError" ∧ ∃ msg t1, vs = [.str msg t1] ∧ wordsF px cmb (buf.length + 2) .sp buf.cps.toList = .error msg ∧ ∀ p ∈ news, p ∈ news'
local macro_rules | `(tactic| walk_at "call ref") => `(tactic| (k_here; (with_reducible show wpAny _ _ (call (Value.ref 729) _ _) _ _ _); k_dflt (refine' mk_lex _ _ _ _ _ _ _ _ ?hb _ _ _ _ _ _ _ _ _ _ _ _ _ _ _ _ _ ?k1 ?k2 ?k3 ?k4 ?k5 ?kK ?kd ?ku ?_ ?pr; (case k1 => k_asm); (case k2 => k_asm); (case k3 => k_asm); (case k4 => k_asm); (case k5 => k_asm); (case kK => first | exact rfl | assumption); (case pr => exact rfl); (case hb => assumption); (case kd => ktr_room); (case ku => ktr_units)); (intro S9 dS9 I9 dI9 P9 Fk9 κ9 υ9 u9 up9 te9 us9 ul9 ut9 wc9 h9 tk9 w9 o1 o2 o3 o4 o5 l9 F9 N9; (try k_fold))))
local macro_rules | `(tactic| walk_at "call type:list") => `(tactic| (k_here; refine Hold.out ?_))
theorem split_ (w : World) (mean mg mb) (buf : Str) (ub : Tok) (news : Led) (hb : buf.length < 2 ^ 20) :
    CtrS w mean mg mb 741 [.str buf ub] news 20 200 (SplitPost buf true false news) (SplitExc buf true false news) := by
  have hpr := prog_here
  revert hpr
  unfold CtrS
  k_fill
  intro _ dp un gd cn cs a ccd cl outer A₀ base g₀ h₀ L m s Q E B F X N T XB TB D T0 hk hdp hun ret exc
  have XS := X.keeps F.keep
  refine wpAny_call ?_
  walk_at "my enterT"
  k_steps
  refine Hold.mk ?_
  k_dflt (refine' list_lex4 false hb ?o1 ?o2 ?o3 ?o4 ?o5 ?hn ?hc ?hw ?k1 ?k2 ?k3 ?k4 ?k5 ?kK ?kd ?ku ?_ ?_; (case k1 => k_asm); (case k2 => k_asm); (case k3 => k_asm); (case k4 => k_asm); (case k5 => k_asm); (case kK => exact rfl); (case o1 => assumption); (case o2 => assumption); (case o3 => assumption); (case o4 => assumption); (case o5 => assumption); (case hn => assumption); (case hc => exact inS_none); (case hw => assumption); (case kd => ktr_room); (case ku => ktr_units))
  · intro D1 h₀1 h1 tk1 led1 its1 ws1 c1 T1 F1 N1 s1 l1 B1 w1 a1
    refine ⟨h₀1, _, _, _, T1, F1, N1, fun h₀' kT kF kN kB kX kP kD => ret _ h₀' _ _ _ kT kF kN kB kX kP kD ⟨D1, its1, ws1, c1, rfl, w1, a1, .head _, fun p hp => .tail _ (s1 p hp), l1⟩⟩
  · intro e1 t1 vs1 h1 tk1 news1 g1 msg1 t2 R1 F1 U1 w1 v1 s1
    walk_at "leaving ref"
    refine exc _ _ _ _ _ _ _ _ (by assumption) (by assumption) (by assumption) ⟨rfl, msg1, t2, v1, w1, s1⟩
end Mine
namespace Mine
theorem top_off_TD04 : True := by
  w_top off
  exact trivial
local macro_rules | `(tactic| walk_at "none 0") => `(tactic| skip)
local macro_rules | `(tactic| walk_at "none 1") => `(tactic| skip)
local macro_rules | `(tactic| walk_at "none 2") => `(tactic| skip)
local macro_rules | `(tactic| walk_at "none 3") => `(tactic| skip)
local macro_rules | `(tactic| walk_at "none 4") => `(tactic| skip)
local macro_rules | `(tactic| walk_at "none 5") => `(tactic| skip)
local macro_rules | `(tactic| walk_at "none 6") => `(tactic| skip)
local macro_rules | `(tactic| walk_at "none 7") => `(tactic| skip)
local macro_rules | `(tactic| walk_at "none 8") => `(tactic| skip)
local macro_rules | `(tactic| walk_at "none 9") => `(tactic| skip)
local macro_rules | `(tactic| walk_at "none 10") => `(tactic| skip)
local macro_rules | `(tactic| walk_at "none 11") => `(tactic| skip)
local macro_rules | `(tactic| walk_at "none 12") => `(tactic| skip)
local macro_rules | `(tactic| walk_at "none 13") => `(tactic| skip)
local macro_rules | `(tactic| walk_at "none 14") => `(tactic| skip)
local macro_rules | `(tactic| walk_at "none 15") => `(tactic| skip)
local macro_rules | `(tactic| walk_at "none 16") => `(tactic| skip)
local macro_rules | `(tactic| walk_at "none 17") => `(tactic| skip)
local macro_rules | `(tactic| walk_at "none 18") => `(tactic| skip)
local macro_rules | `(tactic| walk_at "none 19") => `(tactic| skip)
local macro_rules | `(tactic| walk_at "none 20") => `(tactic| skip)
local macro_rules | `(tactic| walk_at "none 21") => `(tactic| skip)
local macro_rules | `(tactic| walk_at "none 22") => `(tactic| skip)
local macro_rules | `(tactic| walk_at "none 23") => `(tactic| skip)
local macro_rules | `(tactic| walk_at "none 24") => `(tactic| skip)
local macro_rules | `(tactic| walk_at "none 25") => `(tactic| skip)
local macro_rules | `(tactic| walk_at "none 26") => `(tactic| skip)
local macro_rules | `(tactic| walk_at "none 27") => `(tactic| skip)
local macro_rules | `(tactic| walk_at "none 28") => `(tactic| skip)
local macro_rules | `(tactic| k_room) => `(tactic| ktr_room)
local macro_rules | `(tactic| k_units) => `(tactic| ktr_units)
local macro_rules | `(tactic| k_all) => `(tactic| assumption)
local macro_rules | `(tactic| walk_at "my enter") => `(tactic| k_dflt (refine' code_def ?k1 ?k2 ?k3 ?k4 ?k5 ?kA ?kF ?kK ?k6 ?k7 ?k8 ?k9 ?kB ?_ ?c2 ?c3 ?c4 ?c5; (case kA => exact rfl); (case kF => exact rfl); (case kK => assumption); (case k1 => k_asm); (case k2 => k_asm); (case k3 => k_asm); (case k4 => k_asm); (case k5 => k_asm); (case k6 => k_is); (case k7 => k_is); (case k8 => k_room); (case k9 => first | exact BindsTo.of_eq rfl | exact binds_K (by k_in) rfl (by k_is) rfl rfl rfl); (case c5 => decide); (case kB => exact locs rfl); (case c2 => exact rfl); (case c3 => exact rfl); (case c4 => exact rfl); k_whole; intro g' L' h' FG' F' N' B' X' T'; (try dsimp only); (try k_fold)))
local macro_rules | `(tactic| walk_at "leaving ref") => `(tactic| (k_here; first
  | (refine' leave_raiseS ?k1 (Heap.MadeExc.of (by assumption)) ?k2 ?k3 ?_; (case k1 => assumption); (case k2 => assumption); (case k3 => k_asm); k_whole; intro h' t' R' RK' U'; (try dsimp only at R' U' ⊢))
  | (refine' leave_onS ?k1 ?k2 ?k3 ?k4 ?_; (case k3 => assumption); (case k1 => assumption); (case k4 => assumption); (case k2 => assumption); k_whole; intro h' R' RK' U'; (try dsimp only at R' U' ⊢))))
local macro_rules | `(tactic| walk_at "my enterT") => `(tactic| k_dflt (refine' code_defT ?k1 ?k2 ?k3 ?k4 ?k5 ?XB ?TB ?kD ?T0 ?kA ?kF ?kK ?k6 ?k7 ?k8 ?k9 ?kB ?_ ?c2 ?c3 ?c4 ?c5; (case kA => exact rfl); (case kF => exact rfl); (case kK => assumption); (case k1 => k_asm); (case k2 => k_asm); (case k3 => k_asm); (case k4 => k_asm); (case k5 => k_asm); (case XB => assumption); (case TB => assumption); (case kD => assumption); (case T0 => assumption); (case k6 => k_is); (case k7 => k_is); (case k8 => k_room); (case k9 => first | exact BindsTo.of_eq rfl | exact binds_K (by k_in) rfl (by k_is) rfl rfl rfl); (case c5 => decide); (case kB => exact locs rfl); (case c2 => exact rfl); (case c3 => exact rfl); (case c4 => exact rfl); k_whole; intro g' L' h' FG' F' N' B' X' T' D' l0; (try dsimp only); (try k_fold)))
def ToldPost (buf : Str) (px cmb : Bool) (news : Led) (v : Value) (news' : Led) : Prop :=
  SplitPost buf px cmb news v news' ∨ ∃ msg t, v = .str msg t ∧ wordsF px cmb (buf.length + 2) .sp buf.cps.toList = .error msg ∧ ∀ p ∈ news, p ∈ news'
theorem MadeL_of {h₀ h : Heap} {L : Addr} {news led : Led} (N : News h₀ L h led) (hs : ∀ p ∈ news, p ∈ led) : News h₀ L h news := fun p hp => N p (hs p hp)
local macro_rules | `(tactic| walk_at "call ref") => `(tactic| (k_here; (with_reducible show wpAny _ _ (call (Value.ref 741) _) _ _ _); refine Hold.out ?_))
local macro_rules | `(tactic| walk_at "call type:str") => `(tactic| (k_here; (rename Got _ _ _ _ _ => gX); (rename News _ _ _ _ => nX); refine Hold.out ?_))
theorem told_ (w : World) (mean mg mb) (buf : Str) (ub : Tok) (news : Led) (hb : buf.length < 2 ^ 20) :
    CtrS w mean mg mb 767 [.str buf ub] news 22 220 (ToldPost buf true false news) (fun _ _ _ => False) := by
  have hpr := prog_here
  revert hpr
  unfold CtrS
  k_fill
  intro _ dp un gd cn cs a ccd cl outer A₀ base g₀ h₀ L m s Q E B F X N T XB TB D T0 hk hdp hun ret exc
  have XS := X.keeps F.keep
  refine wpAny_call ?_
  walk_at "my enterT"
  k_steps
  refine Hold.mk ?_
  (refine' ctrS_use (split_ _ _ _ _ _ _ _ ?hb) ?k1 ?k2 ?k3 ?k4 ?k5 ?XB ?TB ?kD ?T0 ?kK ?kd ?ku ?_ ?_; (case k1 => k_asm); (case k2 => k_asm); (case k3 => k_asm); (case k4 => k_asm); (case k5 => k_asm); (case XB => assumption); (case TB => assumption); (case kD => assumption); (case T0 => first | assumption | exact KtsTurn.refl); (case kK => first | exact rfl | assumption); (case hb => assumption); (case kd => ktr_room); (case ku => ktr_units))
  · intro v9 g9 h9 tk9 n9 T9 F9 N9 B9 X9 Q9 D9 P9
    exact ⟨g9, _, _, n9, T9, F9, N9, fun h₀' kT kF kN kB kX kP kD => ret _ h₀' _ _ _ kT kF kN kB kX kP kD (.inl P9)⟩
  · intro e9 t9 c9 v9 h9 tk9 n9 g9 R9 F9 U9 P9
    obtain ⟨q1, msg9, t19, q2, w9, s9⟩ := P9
    subst q1
    subst q2
    try k_fold
    k_steps
    refine Hold.mk ?_
    refine' str_got_one (news := ?nn) PySem.F.excStr_ValueError ?kN ?kG ?ku ?_; (case kG => assumption); (case kN => assumption); (case ku => ktr_units)
    k_steps
    rename KtsTurn _ _ _ => T9
    rename Fr _ _ _ _ => F9
    rename News _ _ _ n9 => N9
    exact ⟨_, _, _, n9, T9, F9, N9, fun h₀' kT kF kN kB kX kP kD => ret _ h₀' _ _ _ kT kF kN kB kX kP kD (.inr ⟨msg9, t19, rfl, w9, s9⟩)⟩
end Mine
namespace Mine
theorem top_off_RP04 : True := by
  w_top off
  exact trivial
local macro_rules | `(tactic| walk_at "none 0") => `(tactic| skip)
local macro_rules | `(tactic| walk_at "none 1") => `(tactic| skip)
local macro_rules | `(tactic| walk_at "none 2") => `(tactic| skip)
local macro_rules | `(tactic| walk_at "none 3") => `(tactic| skip)
local macro_rules | `(tactic| walk_at "none 4") => `(tactic| skip)
local macro_rules | `(tactic| walk_at "none 5") => `(tactic| skip)
local macro_rules | `(tactic| walk_at "none 6") => `(tactic| skip)
local macro_rules | `(tactic| walk_at "none 7") => `(tactic| skip)
local macro_rules | `(tactic| walk_at "none 8") => `(tactic| skip)
local macro_rules | `(tactic| walk_at "none 9") => `(tactic| skip)
local macro_rules | `(tactic| walk_at "none 10") => `(tactic| skip)
local macro_rules | `(tactic| walk_at "none 11") => `(tactic| skip)
local macro_rules | `(tactic| walk_at "none 12") => `(tactic| skip)
local macro_rules | `(tactic| walk_at "none 13") => `(tactic| skip)
local macro_rules | `(tactic| walk_at "none 14") => `(tactic| skip)
local macro_rules | `(tactic| walk_at "none 15") => `(tactic| skip)
local macro_rules | `(tactic| walk_at "none 16") => `(tactic| skip)
local macro_rules | `(tactic| walk_at "none 17") => `(tactic| skip)
local macro_rules | `(tactic| walk_at "none 18") => `(tactic| skip)
local macro_rules | `(tactic| walk_at "none 19") => `(tactic| skip)
local macro_rules | `(tactic| walk_at "none 20") => `(tactic| skip)
local macro_rules | `(tactic| walk_at "none 21") => `(tactic| skip)
local macro_rules | `(tactic| walk_at "none 22") => `(tactic| skip)
local macro_rules | `(tactic| walk_at "none 23") => `(tactic| skip)
local macro_rules | `(tactic| walk_at "none 24") => `(tactic| skip)
local macro_rules | `(tactic| walk_at "none 25") => `(tactic| skip)
local macro_rules | `(tactic| walk_at "none 26") => `(tactic| skip)
local macro_rules | `(tactic| walk_at "none 27") => `(tactic| skip)
local macro_rules | `(tactic| walk_at "none 28") => `(tactic| skip)
local macro_rules | `(tactic| walk_at "none 29") => `(tactic| skip)
local macro_rules | `(tactic| walk_at "none 30") => `(tactic| skip)
local macro_rules | `(tactic| walk_at "none 31") => `(tactic| skip)
local macro_rules | `(tactic| walk_at "none 32") => `(tactic| skip)
local macro_rules | `(tactic| k_room) => `(tactic| ktr_room)
local macro_rules | `(tactic| k_units) => `(tactic| ktr_units)
local macro_rules | `(tactic| k_all) => `(tactic| assumption)
local macro_rules | `(tactic| walk_at "my enter") => `(tactic| k_dflt (refine' code_def ?k1 ?k2 ?k3 ?k4 ?k5 ?kA ?kF ?kK ?k6 ?k7 ?k8 ?k9 ?kB ?_ ?c2 ?c3 ?c4 ?c5; (case kA => exact rfl); (case kF => exact rfl); (case kK => assumption); (case k1 => k_asm); (case k2 => k_asm); (case k3 => k_asm); (case k4 => k_asm); (case k5 => k_asm); (case k6 => k_is); (case k7 => k_is); (case k8 => k_room); (case k9 => first | exact BindsTo.of_eq rfl | exact binds_K (by k_in) rfl (by k_is) rfl rfl rfl); (case c5 => decide); (case kB => exact locs rfl); (case c2 => exact rfl); (case c3 => exact rfl); (case c4 => exact rfl); k_whole; intro g' L' h' FG' F' N' B' X' T'; (try dsimp only); (try k_fold)))
local macro_rules | `(tactic| walk_at "leaving ref") => `(tactic| (k_here; first
  | (refine' leave_raiseS ?k1 (Heap.MadeExc.of (by assumption)) ?k2 ?k3 ?_; (case k1 => assumption); (case k2 => assumption); (case k3 => k_asm); k_whole; intro h' t' R' RK' U'; (try dsimp only at R' U' ⊢))
  | (refine' leave_onS ?k1 ?k2 ?k3 ?k4 ?_; (case k3 => assumption); (case k1 => assumption); (case k4 => assumption); (case k2 => assumption); k_whole; intro h' R' RK' U'; (try dsimp only at R' U' ⊢))))
/-- one pair of replace -/
def repl1 (x : Str) (p : Str × Str) : Str := Txt.join p.2 (Txt.split x p.1)
def replF (x : Str) (ps : List (Str × Str)) : Str := ps.foldl repl1 x
/-- nothing grows too far on the way, and each sought text has signs -/
def RepOk : Str → List (Str × Str) → Prop
  | x, [] => x.length < 2 ^ 20
  | x, p :: r => x.length < 2 ^ 20 ∧ p.1.length ≠ 0 ∧ p.2.length < 8 ∧ RepOk (repl1 x p) r
inductive PairsAre : List Value → List (Str × Str) → Prop
  | nil : PairsAre [] []
  | cons (a b : Str) (t u : Tok) {vs : List Value} {ps : List (Str × Str)} : PairsAre vs ps → PairsAre (.str a t :: .str b u :: vs) ((a, b) :: ps)
theorem PairsAre.len : ∀ {vs : List Value} {ps : List (Str × Str)}, PairsAre vs ps → vs.length = 2 * ps.length
  | _, _, .nil => rfl
  | _, _, .cons _ _ _ _ h => by simp only [List.length_cons]; rw [h.len]; omega
abbrev tupO (vs : List Value) : Obj := { cls := .type "tuple", data := .seq vs.toArray }
def RInv (R : Str) (news : Led) (n : Nat) (m : Str → Option Value) (led : Led) : Prop :=
  ∃ (x : Str) (tx : Tok) (T : Nat) (vs : List Value) (ps : List (Str × Str)) (own : Led), n = ps.length ∧ PairsAre vs ps ∧ ps.length ≤ 8 ∧ RepOk x ps ∧ replF x ps = R ∧ led = (T, tupO vs) :: own ∧ (∀ p ∈ news, p ∈ own) ∧
    m (Str.ofString "text") = some (.str x tx) ∧ m (Str.ofString "pairs") = some (.ref T)
structure RPost (h₀ : Heap) (L : Addr) (s : Shared) (R : Str) (news : Led) (f : Flow) (s' : Shared) : Prop where
  get : f = .next ∧ ∃ tx m' h' tk' led, s' = { s with heap := h', toks := tk' } ∧ Fr h₀ L h' m' ∧ News h₀ L h' led ∧ (∀ p ∈ news, p ∈ led) ∧ m' (Str.ofString "text") = some (.str R tx)
theorem rep_rule {w : World} {A : Around} {E : Value → Shared → Prop} {Q : Flow → Shared → Prop} {s : Shared} {env : Env} {h₀ : Heap} {L : Addr} {test : Expr} {body : List Stmt} {pos : Pos} {m : Str → Option Value} {led news : Led} {n₀ : Nat} (R : Str)
    (F : Fr h₀ L s.heap m) (N : News h₀ L s.heap led) (hJ : RInv R news n₀ m led)
    (turn : ∀ n m₁ led₁ h₁ tk₁, Fr h₀ L h₁ m₁ → News h₀ L h₁ led₁ → RInv R news n m₁ led₁ →
      wpAny (model PG w) A (isTrue test env (eval test env)) (fun b s₂ =>
        if b = true then wpAny (model PG w) A (execs body env) (WhileStep2 h₀ L s (RInv R news) (RPost h₀ L s R news) n) E s₂ else RPost h₀ L s R news .next s₂) E { s with heap := h₁, toks := tk₁ })
    (post : ∀ s', RPost h₀ L s R news .next s' → Q .next s')
    (hE : PassesOwn (model PG w) A env E := by passes_own) : wpAny (model PG w) A (exec (.While test body [] pos) env) Q E s :=
  wpAny_mono (While_inv2 (RInv R news) F N hJ turn hE) (fun f s' p => by obtain rfl := p.get.1; exact post s' p) fun _ _ x => x
section
variable {w : World} {A : Around} {E : Value → Shared → Prop} {s : Shared} {h₀ : Heap} {L : Addr} {m : Str → Option Value} {T : Nat} {v v1 : Value} {vs : List Value} {own : Led}
theorem tup_truthy {Q : Bool → Shared → Prop} (N : News h₀ L s.heap ((T, tupO (v :: vs)) :: own)) (hl : (v :: vs).length ≤ 100) (h : Q true { s with toks := s.toks + 1 + 1 }) : wpAny (model PG w) A (truthy (.ref T)) Q E s :=
  truthy_tuple (News.isTup N (.head _)) (by rw [List.size_toArray]; omega) (by simpa using h)
theorem tup_item0 {Q : Value → Shared → Prop} {value slice : Expr} {u : Tok} (N : News h₀ L s.heap ((T, tupO (v :: v1 :: vs)) :: own)) (h : Q v s)
    (hs : subscripted slice false (.ref T) (.int 0 u) = operate [.ref T, .int 0 u] (getItem (.ref T) (.int 0 u)) := by with_unfolding_all rfl) (hg : ∀ r, letTemporaryGo value (.ref T) r = pure () := by intro _; with_unfolding_all rfl) :
    wpAny (model PG w) A (subscriptTail value slice (.ref T) (.int 0 u)) Q E s :=
  item_tupleL (j := 0) (News.isTup N (.head _)) (by decide) (by decide) (seqIndex_of (by decide) (by simp only [List.length_cons]; omega)) rfl h hs hg
theorem tup_item1 {Q : Value → Shared → Prop} {value slice : Expr} {u : Tok} (N : News h₀ L s.heap ((T, tupO (v :: v1 :: vs)) :: own)) (h : Q v1 s)
    (hs : subscripted slice false (.ref T) (.int 1 u) = operate [.ref T, .int 1 u] (getItem (.ref T) (.int 1 u)) := by with_unfolding_all rfl) (hg : ∀ r, letTemporaryGo value (.ref T) r = pure () := by intro _; with_unfolding_all rfl) :
    wpAny (model PG w) A (subscriptTail value slice (.ref T) (.int 1 u)) Q E s :=
  item_tupleL (j := 1) (News.isTup N (.head _)) (by decide) (by decide) (seqIndex_of (by decide) (by simp only [List.length_cons]; omega)) rfl h hs hg
theorem tup_from2 {Q : Value → Shared → Prop} {value slice : Expr} {u : Tok} {news : Led} (F : Fr h₀ L s.heap m) (N : News h₀ L s.heap news) (hT : (T, tupO (v :: v1 :: vs)) ∈ news) (hl : (v :: v1 :: vs).length ≤ 100)
    (h : ∀ (D : Nat) h', Fr h₀ L h' m → News h₀ L h' ((D, tupO vs) :: news) → (∀ p ∈ news, (p.1 : Nat) < D) → Q (.ref D) { s with heap := h' })
    (hs : subscripted slice false (.ref T) (.ref s.heap.objs.size) = operate [.ref s.heap.objs.size, .ref T] (getItem (.ref T) (.ref s.heap.objs.size)) := by with_unfolding_all rfl)
    (hg : ∀ r, letTemporaryGo value (.ref T) r = pure () := by intro _; with_unfolding_all rfl) :
    wpAny (model PG w) A (subscriptTail value slice (.ref T) (.ref s.heap.objs.size)) Q E { s with heap := s.heap.push { cls := .type "slice", data := .fields #[.int 2 u, .none, .none] } } :=
  slice_tuple_from (a := 2) F N (News.isTup N hT) (by decide) (by rw [List.size_toArray]; simp only [List.length_cons]; omega) (fun h' F' N' => h _ h' F' N' fun p hp => Nat.lt_succ_of_lt (Heap.lt_size (N p hp).1)) hs hg (by rw [List.size_toArray, show sizeLine = 2 ^ 24 from rfl]; omega)
theorem split_K {Q : Value → Shared → Prop} {x y : Str} {t u : Tok} {news : Led} (F : Fr h₀ L s.heap m) (N : News h₀ L s.heap news) (hx : x.length < 2 ^ 20) (hy : y.length ≠ 0)
    (h : ∀ (D : Nat) l h' k, l.map (·.1) = Txt.split x y → Fr h₀ L h' m → News h₀ L h' ((D, { cls := .type "list", data := .seq (strValues l).toArray }) :: news) → (∀ p ∈ news, (p.1 : Nat) < D) → Q (.ref D) { s with heap := h', toks := k }) :
    wpAny (model PG w) A (call (.builtin "str.split") [.str x t, .str y u]) Q E s :=
  splitN1A F N (by simpa using hy) (fun l h' k e _ _ _ F' N' => h _ l h' k e F' N' fun p hp => Heap.lt_size (N p hp).1) (by rw [show sizeLine = 2 ^ 24 from rfl]; omega)
theorem join_K {Q : Value → Shared → Prop} {x y b : Str} {t : Tok} {news : Led} {D : Nat} {l : List (Str × Tok)} (N : News h₀ L s.heap ((D, { cls := .type "list", data := .seq (strValues l).toArray }) :: news)) (e : l.map (·.1) = Txt.split x y) (hx : x.length < 2 ^ 20) (hy : y.length ≠ 0) (hb : b.length < 8)
    (h : ∀ t k, Q (.str (repl1 x (y, b)) t) { s with toks := k }) : wpAny (model PG w) A (call (.builtin "str.join") [.str b t, .ref D]) Q E s := by
  have hw := split_weight x y (Nat.one_le_iff_ne_zero.mpr hy)
  have hm : (Txt.split x y).length * b.length ≤ (Txt.split x y).length * 7 := Nat.mul_le_mul_left _ (by omega)
  refine join_list (News.isList N (.head _)) (strsAre_of_values l) ?_ fun t k => ?_
  · rw [e]; omega
  · rw [e]; exact h t k
end
local macro_rules | `(tactic| walk_at "my rest") => `(tactic| k_dflt (refine' kp_rest ?k1 ?k2 ?k3 ?k4 ?k5 ?kA ?kF ?kK ?k6 ?k7 ?k8 ?kV ?kP ?kG ?kB ?_ ?c2 ?c3 ?c4 ?c5; (case kA => exact rfl); (case kF => exact rfl); (case kK => assumption); (case k1 => k_asm); (case k2 => k_asm); (case k3 => k_asm); (case k4 => k_asm); (case k5 => k_asm); (case k6 => k_is); (case k7 => k_is); (case k8 => k_room); (case kV => exact rfl); (case kP => exact rfl); (case kG => exact fun _ => rfl); (case kB => exact fun _ => locs rfl); (case c5 => decide); (case c2 => exact rfl); (case c3 => exact rfl); (case c4 => exact rfl); k_whole; intro D' g' L' h' l1 FG' F' N' B' X' T'; (try dsimp only); (try k_fold)))
local macro_rules | `(tactic| walk_at "exec While Name cons nil") => `(tactic| (k_here; refine Hold.out ?_))
local macro_rules | `(tactic| walk_at "truthy ref") => `(tactic| (k_here; k_dflt (refine' tup_truthy ?kN ?kl ?_; (case kN => k_asm); (case kl => assumption))))
local macro_rules | `(tactic| walk_at "subscriptTail Name Constant ref int") => `(tactic| (k_here; first
  | ((with_reducible show wpAny _ _ (subscriptTail _ _ _ (Value.int 0 _)) _ _ _); k_dflt (refine' tup_item0 ?kN ?_; (case kN => k_asm)))
  | ((with_reducible show wpAny _ _ (subscriptTail _ _ _ (Value.int 1 _)) _ _ _); k_dflt (refine' tup_item1 ?kN ?_; (case kN => k_asm)))))
local macro_rules | `(tactic| walk_at "call builtin:str.split") => `(tactic| (k_here; k_dflt (refine' split_K ?kF ?kN ?hx ?hy ?_; (case kF => k_asm); (case kN => k_asm); (case hx => assumption); (case hy => assumption)); (intro D9 l9 h9 k9 e9 F9 N9 o9)))
local macro_rules | `(tactic| walk_at "call builtin:str.join") => `(tactic| (k_here; k_dflt (refine' join_K ?kN ?ke ?hx ?hy ?hb ?_; (case kN => k_asm); (case ke => assumption); (case hx => assumption); (case hy => assumption); (case hb => assumption)); (intro t9 k9)))
local macro_rules | `(tactic| walk_at "subscriptTail Name Slice ref ref") => `(tactic| (k_here; k_dflt (refine' tup_from2 ?kF ?kN ?hT ?hl ?_; (case kF => k_asm); (case kN => k_asm); (case hT => k_mem); (case hl => assumption)); (intro D9 h9 F9 N9 o9)))
theorem replace_4 (w : World) (mean mg mb) (x a1 b1 a2 b2 a3 b3 a4 b4 : Str) (tx t1 u1 t2 u2 t3 u3 t4 u4 : Tok) (news : Led) (hok : RepOk x [(a1, b1), (a2, b2), (a3, b3), (a4, b4)]) :
    Ctr w mean mg mb 46 [.str x tx, .str a1 t1, .str b1 u1, .str a2 t2, .str b2 u2, .str a3 t3, .str b3 u3, .str a4 t4, .str b4 u4] news 2 24 (fun v news' => ∃ t, v = .str (replF x [(a1, b1), (a2, b2), (a3, b3), (a4, b4)]) t ∧ ∀ p ∈ news, p ∈ news') := by
  have hpr := prog_here
  revert hpr
  unfold Ctr
  k_fill
  intro _ dp un gd cn cs a ccd cl outer A₀ base h₀ L m s Q E B F X N T hk hd hu hret
  refine wpAny_call ?_
  walk_at "my rest"
  k_steps
  refine Hold.mk ?_
  rename Fr _ _ _ _ => F1
  rename News _ _ _ _ => N1
  refine rep_rule (news := news) (replF x [(a1, b1), (a2, b2), (a3, b3), (a4, b4)]) (n₀ := 4) F1 N1 ⟨x, tx, _, _, [(a1, b1), (a2, b2), (a3, b3), (a4, b4)], news, rfl, (.cons _ _ _ _ (.cons _ _ _ _ (.cons _ _ _ _ (.cons _ _ _ _ .nil)))), by simp, hok, rfl, rfl, fun p hp => hp, rfl, rfl⟩ ?_ ?_
  · rintro n m₁ led h₁ tk₁ F₂ N₂ ⟨x, tx, T, vs, ps, own, rfl, hps, hln, hok, hR, rfl, hown, hm1, hm2⟩
    clear F1 N1
    have em : m₁ = fun y => if y = Str.ofString "text" then some (.str x tx) else if y = Str.ofString "pairs" then some (.ref T) else m₁ y := by
      funext y
      split
      · subst_vars; exact hm1
      · split
        · subst_vars; exact hm2
        · rfl
    rw [em] at F₂
    generalize m₁ = m₂ at F₂
    clear em hm1 hm2
    cases hps with
    | nil =>
      k_steps
      exact ⟨rfl, tx, _, _, _, _, rfl, F₂, N₂, fun p hp => .tail _ (hown p hp), by rw [← hR]; rfl⟩
    | cons a b t u hps =>
      rename_i vs ps
      have hvl := hps.len
      obtain ⟨hx, hy, hbl, hok⟩ := hok
      dsimp only at hy hbl
      rw [List.length_cons] at hln
      have hvb : (Value.str a t :: Value.str b u :: vs).length ≤ 100 := by simp only [List.length_cons]; omega
      k_steps
      refine ⟨_, _, _, _, ps.length, rfl, by k_asm, by k_asm, Nat.lt_succ_self _, repl1 x (a, b), _, _, vs, ps, _, rfl, hps, by omega, hok, hR, rfl, fun p hp => .tail _ (.tail _ (hown p hp)), rfl, rfl⟩
  · intro s' p
    obtain ⟨_, tx', m', h', tk', led, rfl, F', N', hs, hm⟩ := p.get
    clear F1 N1 p
    have em : m' = fun y => if y = Str.ofString "text" then some (.str (replF x [(a1, b1), (a2, b2), (a3, b3), (a4, b4)]) tx') else m' y := by
      funext y
      split
      · subst_vars; exact hm
      · rfl
    rw [em] at F'
    generalize m' = m₂ at F'
    clear em hm
    dsimp only
    k_steps
    exact hret _ _ _ _ (by k_asm) (by k_asm) ⟨_, rfl, hs⟩
end Mine
namespace Mine
theorem top_off_SG04 : True := by
  w_top off
  exact trivial
local macro_rules | `(tactic| walk_at "none 0") => `(tactic| skip)
local macro_rules | `(tactic| walk_at "none 1") => `(tactic| skip)
local macro_rules | `(tactic| walk_at "none 2") => `(tactic| skip)
local macro_rules | `(tactic| walk_at "none 3") => `(tactic| skip)
local macro_rules | `(tactic| walk_at "none 4") => `(tactic| skip)
local macro_rules | `(tactic| walk_at "none 5") => `(tactic| skip)
local macro_rules | `(tactic| walk_at "none 6") => `(tactic| skip)
local macro_rules | `(tactic| walk_at "none 7") => `(tactic| skip)
local macro_rules | `(tactic| walk_at "none 8") => `(tactic| skip)
local macro_rules | `(tactic| walk_at "none 9") => `(tactic| skip)
local macro_rules | `(tactic| walk_at "none 10") => `(tactic| skip)
local macro_rules | `(tactic| walk_at "none 11") => `(tactic| skip)
local macro_rules | `(tactic| walk_at "none 12") => `(tactic| skip)
local macro_rules | `(tactic| walk_at "none 13") => `(tactic| skip)
local macro_rules | `(tactic| walk_at "none 14") => `(tactic| skip)
local macro_rules | `(tactic| walk_at "none 15") => `(tactic| skip)
local macro_rules | `(tactic| walk_at "none 16") => `(tactic| skip)
local macro_rules | `(tactic| walk_at "none 17") => `(tactic| skip)
local macro_rules | `(tactic| walk_at "none 18") => `(tactic| skip)
local macro_rules | `(tactic| walk_at "none 19") => `(tactic| skip)
local macro_rules | `(tactic| walk_at "none 20") => `(tactic| skip)
local macro_rules | `(tactic| walk_at "none 21") => `(tactic| skip)
local macro_rules | `(tactic| walk_at "none 22") => `(tactic| skip)
local macro_rules | `(tactic| walk_at "none 23") => `(tactic| skip)
local macro_rules | `(tactic| walk_at "none 24") => `(tactic| skip)
local macro_rules | `(tactic| walk_at "none 25") => `(tactic| skip)
local macro_rules | `(tactic| walk_at "none 26") => `(tactic| skip)
local macro_rules | `(tactic| walk_at "none 27") => `(tactic| skip)
local macro_rules | `(tactic| walk_at "none 28") => `(tactic| skip)
local macro_rules | `(tactic| walk_at "none 29") => `(tactic| skip)
local macro_rules | `(tactic| walk_at "none 30") => `(tactic| skip)
local macro_rules | `(tactic| walk_at "none 31") => `(tactic| skip)
local macro_rules | `(tactic| walk_at "none 32") => `(tactic| skip)
local macro_rules | `(tactic| walk_at "none 33") => `(tactic| skip)
local macro_rules | `(tactic| walk_at "none 34") => `(tactic| skip)
local macro_rules | `(tactic| walk_at "none 35") => `(tactic| skip)
local macro_rules | `(tactic| walk_at "none 36") => `(tactic| skip)
local macro_rules | `(tactic| walk_at "none 37") => `(tactic| skip)
local macro_rules | `(tactic| walk_at "none 38") => `(tactic| skip)
local macro_rules | `(tactic| walk_at "none 39") => `(tactic| skip)
local macro_rules | `(tactic| walk_at "none 40") => `(tactic| skip)
local macro_rules | `(tactic| k_room) => `(tactic| ktr_room)
local macro_rules | `(tactic| k_units) => `(tactic| ktr_units)
local macro_rules | `(tactic| k_all) => `(tactic| assumption)
local macro_rules | `(tactic| walk_at "my enter") => `(tactic| k_dflt (refine' code_def ?k1 ?k2 ?k3 ?k4 ?k5 ?kA ?kF ?kK ?k6 ?k7 ?k8 ?k9 ?kB ?_ ?c2 ?c3 ?c4 ?c5; (case kA => exact rfl); (case kF => exact rfl); (case kK => assumption); (case k1 => k_asm); (case k2 => k_asm); (case k3 => k_asm); (case k4 => k_asm); (case k5 => k_asm); (case k6 => k_is); (case k7 => k_is); (case k8 => k_room); (case k9 => first | exact BindsTo.of_eq rfl | exact binds_K (by k_in) rfl (by k_is) rfl rfl rfl); (case c5 => decide); (case kB => exact locs rfl); (case c2 => exact rfl); (case c3 => exact rfl); (case c4 => exact rfl); k_whole; intro g' L' h' FG' F' N' B' X' T'; (try dsimp only); (try k_fold)))
local macro_rules | `(tactic| walk_at "leaving ref") => `(tactic| (k_here; first
  | (refine' leave_raiseS ?k1 (Heap.MadeExc.of (by assumption)) ?k2 ?k3 ?_; (case k1 => assumption); (case k2 => assumption); (case k3 => k_asm); k_whole; intro h' t' R' RK' U'; (try dsimp only at R' U' ⊢))
  | (refine' leave_onS ?k1 ?k2 ?k3 ?k4 ?_; (case k3 => assumption); (case k1 => assumption); (case k4 => assumption); (case k2 => assumption); k_whole; intro h' R' RK' U'; (try dsimp only at R' U' ⊢))))
/-- the sign that _law_sign gives -/
def signF (k c : Int) : Str :=
  if k = 7 then (let z := (if c < 55296 then c else c + 2048).toNat; if z = 92 ∨ z = 48 ∨ z = 49 then sg 97 else sg z)
  else if k = 0 ∨ k = 4 then sg 39 else if k = 1 ∨ k = 5 then sg 34 else if k = 2 then sg 97 else if k = 3 then sg 32 else Str.ofString ""
theorem item_tab {w : World} {A : Around} {E : Value → Shared → Prop} {s : Shared} {h₀ : Heap} {L l : Addr} {its : Array Value} {n : Nat} {news : Led} {value slice : PySem.Expr} {k : Int} {u : Tok} {v : Value} {Q : Value → Shared → Prop}
    (N : News h₀ L s.heap ((l, listOf its n) :: news)) (h0 : 0 ≤ k) (hhi : k < 2 ^ 63) (hx : its[k.toNat]? = some v) (h : Q v s)
    (hs : subscripted slice false (.ref l) (.int k u) = operate [.ref l, .int k u] (getItem (.ref l) (.int k u)) := by with_unfolding_all rfl) :
    wpAny (model PG w) A (subscriptTail value slice (.ref l) (.int k u)) Q E s :=
  have hl : s.heap.IsList l its := News.isList N (.head _)
  tail_any hl.typeIs slot_list_getitem.lookup (wpAny_getItem_list hl h0 hhi hx h) hs
theorem occ_01 (z : Nat) : (Builtin.Str.occurrences (Str.ofString "\\01") ⟨#[z]⟩ 0 (Str.ofString "\\01").length 1).isEmpty = !decide (z = 92 ∨ z = 48 ∨ z = 49) := by
  have := StrLaws.found_one (Str.ofString "\\01") z
  rw [show (Str.ofString "\\01").cps.toList = [92, 48, 49] by decide +kernel] at this
  rw [← Bool.not_not (Builtin.Str.occurrences _ _ _ _ _).isEmpty, this]
  simp
theorem signF_lo {k c : Int} (h : k = 7) (hc : c < 55296) (ho : (Builtin.Str.occurrences (Str.ofString "\\01") ⟨#[c.toNat]⟩ 0 (Str.ofString "\\01").length 1).isEmpty = true) : (⟨#[c.toNat]⟩ : Str) = signF k c := by
  rw [occ_01] at ho
  simp only [Bool.not_eq_true', decide_eq_false_iff_not] at ho
  unfold signF
  rw [if_pos h, if_pos hc]
  exact (if_neg ho).symm
theorem signF_loa {k c : Int} (h : k = 7) (hc : c < 55296) (ho : (Builtin.Str.occurrences (Str.ofString "\\01") ⟨#[c.toNat]⟩ 0 (Str.ofString "\\01").length 1).isEmpty = false) : Str.ofString "a" = signF k c := by
  rw [occ_01] at ho
  simp only [Bool.not_eq_false', decide_eq_true_eq] at ho
  unfold signF
  rw [if_pos h, if_pos hc, show Str.ofString "a" = sg 97 by decide +kernel]
  exact (if_pos ho).symm
theorem signF_hi {k c : Int} (h : k = 7) (hc : ¬ c < 55296) (ho : (Builtin.Str.occurrences (Str.ofString "\\01") ⟨#[(c + 2048).toNat]⟩ 0 (Str.ofString "\\01").length 1).isEmpty = true) : (⟨#[(c + 2048).toNat]⟩ : Str) = signF k c := by
  rw [occ_01] at ho
  simp only [Bool.not_eq_true', decide_eq_false_iff_not] at ho
  unfold signF
  rw [if_pos h, if_neg hc]
  exact (if_neg ho).symm
theorem signF_hia {k c : Int} (h : k = 7) (hc : ¬ c < 55296) (ho : (Builtin.Str.occurrences (Str.ofString "\\01") ⟨#[(c + 2048).toNat]⟩ 0 (Str.ofString "\\01").length 1).isEmpty = false) : Str.ofString "a" = signF k c := by
  rw [occ_01] at ho
  simp only [Bool.not_eq_false', decide_eq_true_eq] at ho
  unfold signF
  rw [if_pos h, if_neg hc, show Str.ofString "a" = sg 97 by decide +kernel]
  exact (if_pos ho).symm
theorem ofS_a : Str.ofString "a" = sg 97 := by decide +kernel
theorem sign_ (w : World) (mean mg mb) (k c : Int) (tk tc : Tok) (news : Led) (hk0 : 0 ≤ k) (hk1 : k < 8) (hc0 : 0 ≤ c) (hc1 : c < 1112064) :
    Ctr w mean mg mb 748 [.int k tk, .int c tc] news 2 24 (fun v news' => ∃ t, v = .str (signF k c) t ∧ ∀ p ∈ news, p ∈ news') := by
  have hpr := prog_here
  revert hpr
  unfold Ctr
  k_fill
  intro _ dp un gd cn cs a ccd cl outer A₀ base h₀ L m s Q E B F X N T hk hd hu hret
  refine wpAny_call ?_
  walk_at "my enter"
  k_steps
  · refine hret _ _ _ _ (by k_asm) (by k_asm) ⟨_, congrArg (Value.str · _) (signF_lo ?_ ?_ ?_), fun p hp => hp⟩ <;> first | assumption | omega
  · refine hret _ _ _ _ (by k_asm) (by k_asm) ⟨_, congrArg (Value.str · _) (signF_loa ?_ ?_ ?_), fun p hp => hp⟩ <;> first | assumption | omega
  · refine hret _ _ _ _ (by k_asm) (by k_asm) ⟨_, congrArg (Value.str · _) (signF_hi ?_ ?_ ?_), fun p hp => hp⟩ <;> first | assumption | omega
  · refine hret _ _ _ _ (by k_asm) (by k_asm) ⟨_, congrArg (Value.str · _) (signF_hia ?_ ?_ ?_), fun p hp => hp⟩ <;> first | assumption | omega
  · have h7 : k = 0 ∨ k = 1 ∨ k = 2 ∨ k = 3 ∨ k = 4 ∨ k = 5 ∨ k = 6 := by omega
    rename News _ _ _ (_ :: _) => N9
    rcases h7 with rfl | rfl | rfl | rfl | rfl | rfl | rfl
    all_goals (
      refine item_tab N9 (by decide) (by decide) rfl ?_
      k_steps
      exact hret _ _ _ _ (by k_asm) (by k_asm) ⟨_, congrArg (Value.str · _) (by first | rfl | ((show _ = sg 39); decide +kernel) | ((show _ = sg 34); decide +kernel) | ((show _ = sg 97); decide +kernel) | ((show _ = sg 32); decide +kernel)), fun p hp => .tail _ hp⟩)
end Mine
namespace Mine
/-- how a turn of a loop ends: the ground may have turned; the iterator stands as it stood -/
def ForPost (L I : Addr) (o : Obj) (fp : List Addr) (h : Heap) (s : Shared) (J : Heap → (Str → Option Value) → Led → Prop) (Q : Flow → Shared → Prop) (f : Flow) (s₃ : Shared) : Prop :=
  match f with
  | .next | .cont => ∃ g' m' led' nx h' tk', s₃ = { s with heap := h', toks := tk' } ∧ Fr g' L h' m' ∧ News g' L h' nx ∧ (I, o) ∈ nx ∧ (∀ p ∈ led', p ∈ nx) ∧ (∀ p ∈ led', p.1 ≠ I) ∧ (∀ b ∈ fp, b ≠ I → ∀ o, h.get? b = some o → h'.get? b = some o) ∧ J g' m' led'
  | .brk => Q .next s₃
  | .ret v => Q (.ret v) s₃
section
variable {prog : Program} {w : World} {A : Around} {E : Value → Shared → Prop} {Q : Flow → Shared → Prop} {s : Shared} {env : Env}
theorem for_T {x : Str} {px : Pos} {body : List Stmt} {I : Addr} {fp : List Addr} {n : Nat} {P : Nat → Value → Prop} {St : Nat → Heap → Prop} {g : Heap} {m : Str → Option Value} {led : Led}
    (J : Nat → Heap → (Str → Option Value) → Led → Prop) (W : Walks prog w A I fp [I] n P St) (hSt : ∀ i h, St i h → ∃ o, h.get? I = some o) (hx : env.kindOf x = some .local) (hp : (env.scope.kind == .class || (env.scope.kind == .module && env.locals != env.globals)) = false)
    (hLf : env.locals ∉ fp) (hst : St 0 s.heap) (F : Fr g env.locals s.heap m) (N : News g env.locals s.heap led) (hI : g.get? I = none) (hoff : ∀ p ∈ led, p.1 ≠ I) (h0 : J 0 g m led)
    (turn : ∀ i v g m₁ led o h tk, i < n → P i v → J i g m₁ led → (∀ p ∈ led, p.1 ≠ I) → Fr g env.locals h (fun y => if y = x then some v else m₁ y) → News g env.locals h ((I, o) :: led) →
      wpAny (model prog w) A (execs body env) (ForPost env.locals I o fp h s (J (i + 1)) Q) E { s with heap := h, toks := tk })
    (done : ∀ g m₁ led h tk, J n g m₁ led → Fr g env.locals h m₁ → News g env.locals h led → Q .next { s with heap := h, toks := tk })
    (hE : PassesOwn (model prog w) A env E := by passes_own) :
    codeAny (model prog w) A (.forLoop (.Name x px) (.ref I) body [] env) (fun r s' => match r with | .ok f => Q f s' | .error e => cameBackBy (model prog w) A env E e s') s := by
  have hIf : I ∈ fp := W.sub I (.head _)
  have hLI : env.locals ≠ I := fun q => hLf (q ▸ hIf)
  refine codeAny_forLoop
    (fun k s' => ∃ h' tk m' led' g' i, s' = { s with heap := h', toks := tk } ∧ St i h' ∧ Fr g' env.locals h' m' ∧ News g' env.locals h' led' ∧ g'.get? I = none ∧ (∀ p ∈ led', p.1 ≠ I) ∧ J i g' m' led' ∧ i ≤ n ∧ k = n + 1 - i) ?_ (n + 1)
    ⟨s.heap, s.toks, m, led, g, 0, rfl, hst, F, N, hI, hoff, h0, Nat.zero_le _, rfl⟩
  rintro k s' ⟨h', tk, m', led', g', i, rfl, hst', F', N', hI', hoff', hJ, hi, rfl⟩
  have next : ∀ h₁ : Heap, (∀ b o, b ∉ [I] → h'.get? b = some o → h₁.get? b = some o) → Fr g' env.locals h₁ m' ∧ News g' env.locals h₁ led' := fun h₁ hk₁ =>
    ⟨⟨F'.ns.at' fun o e => hk₁ _ o (fun q => hLI (List.mem_singleton.mp q)) e, fun b o e => hk₁ b o (fun q => by rw [List.mem_singleton.mp q, hI'] at e; cases e) (F'.keep b o e), F'.above⟩,
      fun p hp => ⟨hk₁ _ _ (fun q => hoff' p hp (List.mem_singleton.mp q)) (N' p hp).1, (N' p hp).2⟩⟩
  by_cases hlt : i < n
  · refine W.item i _ _ _ hlt hst' fun v h₁ tk₁ hP hst₁ hk₁ => ?_
    obtain ⟨F₁, N₁⟩ := next h₁ hk₁
    refine wpAny_assign_Name (wpAny_storeName_local hx F₁.ns (fun h₂ hn₂ hs₂ => ?_) hp)
    have F₂ := F₁.set hn₂ hs₂
    have hst₂ : St (i + 1) h₂ := W.frame _ _ _ hst₁ fun b hb o e => (hs₂.2 b fun q => hLf (q ▸ hb)).trans e
    obtain ⟨o, ho⟩ := hSt _ _ hst₂
    have N₂ : News g' env.locals h₂ ((I, o) :: led') := fun p hp => by
      rcases List.mem_cons.mp hp with rfl | hp
      · exact ⟨ho, Ne.symm hLI, hI'⟩
      · exact (N₁.set hs₂) p hp
    refine wpAny_mono (turn i v g' m' led' o h₂ _ hlt hP hJ hoff' F₂ N₂) (fun f s₃ h₃ => ?_) hE
    have fin : (∃ g' m' led' nx h' tk', s₃ = { s with heap := h', toks := tk' } ∧ Fr g' env.locals h' m' ∧ News g' env.locals h' nx ∧ (I, o) ∈ nx ∧ (∀ p ∈ led', p ∈ nx) ∧ (∀ p ∈ led', p.1 ≠ I) ∧ (∀ b ∈ fp, b ≠ I → ∀ o, h₂.get? b = some o → h'.get? b = some o) ∧ J (i + 1) g' m' led') →
        ∃ m, m < n + 1 - i ∧ ∃ h' tk m' led' g' i, s₃ = { s with heap := h', toks := tk } ∧ St i h' ∧ Fr g' env.locals h' m' ∧ News g' env.locals h' led' ∧ g'.get? I = none ∧ (∀ p ∈ led', p.1 ≠ I) ∧ J i g' m' led' ∧ i ≤ n ∧ m = n + 1 - i := by
      rintro ⟨g₃, m₃, led₃, nx, k₃, tk₃, rfl, F₃, N₃, hIn, hsub, hoff₃, hfp, hJ₃⟩
      refine ⟨n + 1 - (i + 1), by omega, k₃, tk₃, m₃, led₃, g₃, i + 1, rfl, ?_, F₃, fun p hp => N₃ p (hsub p hp), (N₃ _ hIn).2.2, hoff₃, hJ₃, hlt, rfl⟩
      refine W.frame _ _ _ hst₂ fun b hb ob e => ?_
      by_cases q : b = I
      · subst q
        rw [ho] at e
        cases e
        exact (N₃ _ hIn).1
      · exact hfp b hb q ob e
    cases f with
    | ret v => exact h₃
    | brk => exact h₃
    | cont => exact fin h₃
    | next => exact fin h₃
  · have hin : i = n := by omega
    subst hin
    refine W.done _ _ _ hst' fun h₁ tk₁ hk₁ => wpAny_execs_nil ?_
    obtain ⟨F₁, N₁⟩ := next h₁ hk₁
    exact done g' m' led' h₁ tk₁ hJ F₁ N₁
/-- a for over a text -/
theorem for_str {x : Str} {px : Pos} {body : List Stmt} {g : Heap} {m : Str → Option Value} {led : Led} {txt : Str} {tt : Tok}
    (J : Nat → Heap → (Str → Option Value) → Led → Prop) (hh : A.handled = none) (hx : env.kindOf x = some .local) (hp : (env.scope.kind == .class || (env.scope.kind == .module && env.locals != env.globals)) = false)
    (F : Fr g env.locals s.heap m) (N : News g env.locals s.heap led) (h0 : J 0 g m led)
    (turn : ∀ (I : Nat) i c u g m₁ led o h tk, txt.cps.toList[i]? = some c → J i g m₁ led → (∀ p ∈ led, p.1 ≠ I) → Fr g env.locals h (fun y => if y = x then some (.str (sg c) u) else m₁ y) → News g env.locals h ((I, o) :: led) →
      wpAny (model prog w) A (execs body env) (ForPost env.locals I o [I] h s (J (i + 1)) Q) E { s with heap := h, toks := tk })
    (done : ∀ g m₁ led h tk, J txt.cps.toList.length g m₁ led → Fr g env.locals h m₁ → News g env.locals h led → Q .next { s with heap := h, toks := tk })
    (hE : PassesOwn (model prog w) A env E := by passes_own) :
    wpAny (model prog w) A (pyIter (.str txt tt)) (fun it s₂ => codeAny (model prog w) A (.forLoop (.Name x px) it body [] env) (fun r s' => match r with | .ok f => Q f s' | .error e => cameBackBy (model prog w) A env E e s') s₂) E s := by
  have hL : env.locals ≠ s.heap.objs.size := Nat.ne_of_lt F.ns.lt
  have hg : g.get? s.heap.objs.size = none := next_is_new F
  have go : ∀ (ob : Obj) (St : Nat → Heap → Prop), ob.isFreed = false → Walks prog w A s.heap.objs.size [s.heap.objs.size] [s.heap.objs.size] txt.cps.size (SignAt txt) St → (∀ i h, St i h → ∃ o, h.get? s.heap.objs.size = some o) → St 0 (s.heap.push ob) →
      codeAny (model prog w) A (.forLoop (.Name x px) (.ref s.heap.objs.size) body [] env) (fun r s' => match r with | .ok f => Q f s' | .error e => cameBackBy (model prog w) A env E e s') { s with heap := s.heap.push ob } := by
    intro ob St hf W hSt hst
    refine for_T (s := { s with heap := s.heap.push ob }) J W hSt hx hp (fun q => hL (List.mem_singleton.mp q)) hst (F.push ob) (N.pushKeep ob) hg (fun p hp => Nat.ne_of_lt (Heap.lt_size (N p hp).1)) h0 ?_ ?_ hE
    · rintro i v g m₁ led o h tk hi ⟨c, u, hc, rfl⟩ hJ hoff F₁ N₁
      exact turn _ i c u g m₁ led o h tk (by simpa using hc) hJ hoff F₁ N₁
    · intro g m₁ led h tk hJ F₁ N₁
      exact done g m₁ led h tk (by simpa using hJ) F₁ N₁
  cases ha : txt.cps.all (· < 128)
  · exact wpAny_pyIter_wide ha (go _ _ rfl (Walks.strWide hh _ txt tt) (fun _ _ st => let ⟨o, ho, _⟩ := st; ⟨o, ho⟩) ⟨_, Heap.get?_push_size _ rfl, rfl, rfl⟩)
  · exact wpAny_pyIter_ascii ha (go _ _ rfl (Walks.strAscii hh _ txt tt) (fun _ _ st => let ⟨o, ho, _⟩ := st; ⟨o, ho⟩) ⟨_, Heap.get?_push_size _ rfl, rfl, rfl⟩)
end
end Mine
namespace Mine
theorem top_off_LW04 : True := by
  w_top off
  exact trivial
local macro_rules | `(tactic| walk_at "none 0") => `(tactic| skip)
local macro_rules | `(tactic| walk_at "none 1") => `(tactic| skip)
local macro_rules | `(tactic| walk_at "none 2") => `(tactic| skip)
local macro_rules | `(tactic| walk_at "none 3") => `(tactic| skip)
local macro_rules | `(tactic| walk_at "none 4") => `(tactic| skip)
local macro_rules | `(tactic| walk_at "none 5") => `(tactic| skip)
local macro_rules | `(tactic| walk_at "none 6") => `(tactic| skip)
local macro_rules | `(tactic| walk_at "none 7") => `(tactic| skip)
local macro_rules | `(tactic| walk_at "none 8") => `(tactic| skip)
local macro_rules | `(tactic| walk_at "none 9") => `(tactic| skip)
local macro_rules | `(tactic| walk_at "none 10") => `(tactic| skip)
local macro_rules | `(tactic| walk_at "none 11") => `(tactic| skip)
local macro_rules | `(tactic| walk_at "none 12") => `(tactic| skip)
local macro_rules | `(tactic| walk_at "none 13") => `(tactic| skip)
local macro_rules | `(tactic| walk_at "none 14") => `(tactic| skip)
local macro_rules | `(tactic| walk_at "none 15") => `(tactic| skip)
local macro_rules | `(tactic| walk_at "none 16") => `(tactic| skip)
local macro_rules | `(tactic| walk_at "none 17") => `(tactic| skip)
local macro_rules | `(tactic| walk_at "none 18") => `(tactic| skip)
local macro_rules | `(tactic| walk_at "none 19") => `(tactic| skip)
local macro_rules | `(tactic| walk_at "none 20") => `(tactic| skip)
local macro_rules | `(tactic| walk_at "none 21") => `(tactic| skip)
local macro_rules | `(tactic| walk_at "none 22") => `(tactic| skip)
local macro_rules | `(tactic| walk_at "none 23") => `(tactic| skip)
local macro_rules | `(tactic| walk_at "none 24") => `(tactic| skip)
local macro_rules | `(tactic| walk_at "none 25") => `(tactic| skip)
local macro_rules | `(tactic| walk_at "none 26") => `(tactic| skip)
local macro_rules | `(tactic| walk_at "none 27") => `(tactic| skip)
local macro_rules | `(tactic| walk_at "none 28") => `(tactic| skip)
local macro_rules | `(tactic| walk_at "none 29") => `(tactic| skip)
local macro_rules | `(tactic| walk_at "none 30") => `(tactic| skip)
local macro_rules | `(tactic| walk_at "none 31") => `(tactic| skip)
local macro_rules | `(tactic| walk_at "none 32") => `(tactic| skip)
local macro_rules | `(tactic| walk_at "none 33") => `(tactic| skip)
local macro_rules | `(tactic| walk_at "none 34") => `(tactic| skip)
local macro_rules | `(tactic| walk_at "none 35") => `(tactic| skip)
local macro_rules | `(tactic| walk_at "none 36") => `(tactic| skip)
local macro_rules | `(tactic| k_room) => `(tactic| ktr_room)
local macro_rules | `(tactic| k_units) => `(tactic| ktr_units)
local macro_rules | `(tactic| k_all) => `(tactic| assumption)
local macro_rules | `(tactic| walk_at "my enter") => `(tactic| k_dflt (refine' code_def ?k1 ?k2 ?k3 ?k4 ?k5 ?kA ?kF ?kK ?k6 ?k7 ?k8 ?k9 ?kB ?_ ?c2 ?c3 ?c4 ?c5; (case kA => exact rfl); (case kF => exact rfl); (case kK => assumption); (case k1 => k_asm); (case k2 => k_asm); (case k3 => k_asm); (case k4 => k_asm); (case k5 => k_asm); (case k6 => k_is); (case k7 => k_is); (case k8 => k_room); (case k9 => first | exact BindsTo.of_eq rfl | exact binds_K (by k_in) rfl (by k_is) rfl rfl rfl); (case c5 => decide); (case kB => exact locs rfl); (case c2 => exact rfl); (case c3 => exact rfl); (case c4 => exact rfl); k_whole; intro g' L' h' FG' F' N' B' X' T'; (try dsimp only); (try k_fold)))
local macro_rules | `(tactic| walk_at "leaving ref") => `(tactic| (k_here; first
  | (refine' leave_raiseS ?k1 (Heap.MadeExc.of (by assumption)) ?k2 ?k3 ?_; (case k1 => assumption); (case k2 => assumption); (case k3 => k_asm); k_whole; intro h' t' R' RK' U'; (try dsimp only at R' U' ⊢))
  | (refine' leave_onS ?k1 ?k2 ?k3 ?k4 ?_; (case k3 => assumption); (case k1 => assumption); (case k4 => assumption); (case k2 => assumption); k_whole; intro h' R' RK' U'; (try dsimp only at R' U' ⊢))))
local macro_rules | `(tactic| walk_at "compareOp In str str") => `(tactic| (k_here; with_reducible refine in_sg ?_))
local macro_rules | `(tactic| walk_at "compareOp In str str") => `(tactic| (k_here; with_reducible (first | refine in_ws ?_ | refine in_qt ?_ | refine in_bs ?_ | refine in_dq ?_ | refine in_none ?_ | refine in_a_qt ?_ | refine in_a_bs ?_)))
local macro_rules | `(tactic| walk_at "compareOp Eq str str") => `(tactic| (k_here; with_reducible refine eq_sg ?_))
local macro_rules | `(tactic| walk_at "compareOp NotEq str str") => `(tactic| (k_here; with_reducible refine ne_sg ?_))
local macro_rules | `(tactic| walk_at "truthy str") => `(tactic| (k_here; (with_reducible refine truthy_sg ?_)))
theorem withD {P : Prop} {news : Led} {X : Addr} (_ : ∀ p ∈ news, p.1 < X) (h : ∀ D : Nat, D = X → P) : P := h X rfl
abbrev LwS := List Str × Option Str × Option Nat
def lwStep : LwS → Nat → LwS
  | (ws, b, some q), c => if c = q then (ws, b, none) else (ws, some (b.getD (Str.ofString "") ++ sg c), some q)
  | (ws, b, none), c => if isWs c then (match b with | some x => (ws ++ [x], none, none) | none => (ws, none, none))
    else if isQt c then (ws, some (b.getD (Str.ofString "")), some c) else (ws, some (b.getD (Str.ofString "") ++ sg c), none)
def lwEnd : LwS → List Str
  | (ws, none, _) => ws
  | (ws, some x, _) => ws ++ [x]
/-- what _law_words gives -/
def lwF (t : List Nat) : List Str := lwEnd (t.foldl lwStep ([], none, none))
def obV (t : Tok) : Option Str → Value
  | none => .none
  | some x => .str x t
def plV (t : Tok) : Option Nat → Value
  | none => .str (Str.ofString "") t
  | some q => .str (sg q) t
def LwJ (g₀ : Heap) (D : Nat) (txt : Str) (news : Led) (i : Nat) (g : Heap) (m : Str → Option Value) (led : Led) : Prop :=
  g = g₀ ∧ ∃ (ws : List Str) (b : Option Str) (pl : Option Nat) (its : Array Value) (n : Nat) (tb tp : Tok), (txt.cps.toList.take i).foldl lwStep ([], none, none) = (ws, b, pl) ∧ StrsAre its.toList ws ∧ (pl.isSome → b.isSome) ∧ (b.getD (Str.ofString "")).length ≤ i ∧ its.size ≤ i ∧
    led = (D, listOf its n) :: news ∧ m (Str.ofString "words") = some (.ref D) ∧ m (Str.ofString "begun") = some (obV tb b) ∧ m (Str.ofString "place") = some (plV tp pl)
theorem strs_snoc0 {x : Str} {t : Tok} : ∀ {vs : List Value} {ys : List Str}, StrsAre vs ys → StrsAre (vs ++ [.str x t]) (ys ++ [x])
  | _, _, .nil => .cons _ _ .nil
  | _, _, .cons y u h => .cons y u (strs_snoc0 h)
theorem lw_leaf {g₀ : Heap} {L I : Addr} {D i : Nat} {txt : Str} {news nx : Led} {o : Obj} {h h' : Heap} {s : Shared} {tk' : Nat} {Q : Flow → Shared → Prop} {f : Flow} {m' : Str → Option Value} {st : LwS} {c : Nat} {its₀ : Array Value} {n₀ : Nat} (ws' : List Str) (b' : Option Str) (pl' : Option Nat) {its' : Array Value} {n' : Nat} {tb tp : Tok}
    (hfold : (txt.cps.toList.take i).foldl lwStep ([], none, none) = st) (hc : txt.cps.toList[i]? = some c) (hoff : ∀ p ∈ (D, listOf its₀ n₀) :: news, p.1 ≠ I) (hstep : lwStep st c = (ws', b', pl')) (hf : f = .next ∨ f = .cont)
    (F : Fr g₀ L h' m') (N : News g₀ L h' nx) (hI : (I, o) ∈ nx) (hD : (D, listOf its' n') ∈ nx) (hn : ∀ p ∈ news, p ∈ nx) (hits : StrsAre its'.toList ws') (hpb : pl'.isSome → b'.isSome) (hbl : (b'.getD (Str.ofString "")).length ≤ i + 1) (hsz : its'.size ≤ i + 1)
    (hm1 : m' (Str.ofString "words") = some (.ref D)) (hm2 : m' (Str.ofString "begun") = some (obV tb b')) (hm3 : m' (Str.ofString "place") = some (plV tp pl')) :
    ForPost L I o [I] h s (LwJ g₀ D txt news (i + 1)) Q f { s with heap := h', toks := tk' } := by
  have fin : ForPost L I o [I] h s (LwJ g₀ D txt news (i + 1)) Q .next { s with heap := h', toks := tk' } := by
    refine ⟨g₀, m', (D, listOf its' n') :: news, nx, h', tk', rfl, F, N, hI, fun p hp => ?_, fun p hp => ?_, fun b hb q => absurd (List.mem_singleton.mp hb) q, rfl, ws', b', pl', its', n', tb, tp, ?_, hits, hpb, hbl, hsz, rfl, hm1, hm2, hm3⟩
    · rcases List.mem_cons.mp hp with rfl | hp
      · exact hD
      · exact hn p hp
    · rcases List.mem_cons.mp hp with rfl | hp
      · exact hoff (D, listOf its₀ n₀) (.head _)
      · exact hoff p (.tail _ hp)
    · rw [List.take_add_one, hc, Option.toList_some, List.foldl_append, hfold]
      exact hstep
  rcases hf with rfl | rfl
  · exact fin
  · exact fin
theorem add_sg {prog : Program} {w : World} {A : Around} {E : Value → Shared → Prop} {s : Shared} {x : Str} {c : Nat} {t u : Tok} {Q : Value → Shared → Prop} (hx : x.length < 2 ^ 21) (h : ∀ t' tk, Q (.str (x ++ sg c) t') { s with toks := tk }) :
    wpAny (model prog w) A (binaryOp .Add (.str x t) (.str (sg c) u)) Q E s := PyProof.Rows.add_str h (by show x.length + 1 ≤ sizeLine; rw [show sizeLine = 2 ^ 24 from rfl]; omega)
theorem app_none (x : Str) : x ++ Str.ofString "" = x := by
  refine Str.ext' (Array.toList_inj.mp ?_)
  rw [Str.cps_append, Array.toList_append, show (Str.ofString "").cps.toList = [] by decide +kernel, List.append_nil]
theorem none_of {x : Str} (h : (x.length : Int) = 0) : x = Str.ofString "" := by
  refine Str.ext' (Array.toList_inj.mp ?_)
  rw [show (Str.ofString "").cps.toList = [] by decide +kernel]
  have h2 : x.length = x.cps.toList.length := by simp [Str.length]
  exact List.eq_nil_of_length_eq_zero (by omega)
theorem ne_sg_none {prog : Program} {w : World} {A : Around} {E : Value → Shared → Prop} {s : Shared} {c : Nat} {t u : Tok} {Q : Value → Shared → Prop} (h : Q (.bool true) s) : wpAny (model prog w) A (compareOp .NotEq (.str (sg c) t) (.str (Str.ofString "") u)) Q E s := by
  refine ne_str ?_
  have : (sg c != Str.ofString "") = true := by
    rw [bne_iff_ne]
    intro e
    have := congrArg Str.length e
    rw [len_none] at this
    exact absurd (show (1 : Nat) = 0 from this) (by decide)
  rw [this]; exact h
local macro_rules | `(tactic| walk_at "compareOp NotEq str str") => `(tactic| (k_here; with_reducible refine ne_sg_none ?_))
local macro_rules | `(tactic| walk_at "exec For Name Name cons nil") => `(tactic| (k_here; refine Hold.out ?_))
local macro_rules | `(tactic| walk_at "pyIter str") => `(tactic| (k_here; refine Hold.out ?_))
local macro_rules | `(tactic| walk_at "binaryOp Add str str") => `(tactic| (k_here; (with_reducible refine' add_sg ?ka ?_); (case ka => omega); intro _ _))
theorem words_ (w : World) (mean mg mb) (txt : Str) (tt : Tok) (news : Led) (hb : txt.length < 2 ^ 20) :
    Ctr w mean mg mb 760 [.str txt tt] news 2 24 (fun v news' => ∃ (D : Nat) (its : Array Value) (n : Nat), v = .ref D ∧ StrsAre its.toList (lwF txt.cps.toList) ∧ (D, listOf its n) ∈ news' ∧ (∀ p ∈ news, p ∈ news') ∧ ∀ p ∈ news, (p.1 : Nat) < D) := by
  have hpr := prog_here
  revert hpr
  unfold Ctr
  k_fill
  intro _ dp un gd cn cs a ccd cl outer A₀ base h₀ L m s Q E B F X N T hk hd hu hret
  refine wpAny_call ?_
  walk_at "my enter"
  k_steps
  refine Hold.mk ?_
  refine wpAny_For ?_
  k_steps
  refine Hold.mk ?_
  rename Fr _ _ _ _ => F1
  rename News _ _ _ _ => N1
  rename (∀ (p : Addr × Obj), p ∈ news → p.fst < _) => o1
  refine withD o1 fun D hDe => ?_
  subst hDe
  have hn1 := fun p hp => Nat.ne_of_lt (o1 p hp)
  refine for_str (LwJ _ _ txt news) rfl rfl rfl F1 N1 ⟨rfl, [], none, none, #[], 0, 0, _, by simp, .nil, by nofun, by decide +kernel, by simp, rfl, rfl, rfl, rfl⟩ ?_ ?_
  · rintro I i c u g m₁ led o h tk hc ⟨rfl, ws, b, pl, its, n, tb, tp, hfold, hits, hpb, hbl, hsz, rfl, hm1, hm2, hm3⟩ hoff F₂ N₂
    clear F1 N1
    have em : m₁ = fun y => if y = Str.ofString "words" then some (.ref D) else if y = Str.ofString "begun" then some (obV tb b) else if y = Str.ofString "place" then some (plV tp pl) else m₁ y := by
      funext y
      split
      · subst_vars; exact hm1
      · split
        · subst_vars; exact hm2
        · split
          · subst_vars; exact hm3
          · rfl
    rw [em] at F₂
    generalize m₁ = m₂ at F₂
    clear em hm1 hm2 hm3
    have hDI : D ≠ I := hoff (D, listOf its n) (.head _)
    have hi : i < txt.length := by
      have := (List.getElem?_eq_some_iff.mp hc).1
      have h2 : txt.length = txt.cps.toList.length := by simp [Str.length]
      omega
    have hID : I ≠ D := Ne.symm hDI
    cases pl with
    | some q =>
      cases b with
      | none => exact absurd (hpb rfl) (by decide)
      | some x =>
        dsimp only [obV, plV] at F₂
        dsimp only [Option.getD] at hbl
        k_steps
        · exact lw_leaf ws (some x) none hfold hc hoff (by simp_all [lwStep]) (.inl rfl) (by k_asm) (by k_asm) (.head _) (.tail _ (.head _)) (fun p hp => .tail _ (.tail _ hp)) hits (by nofun) (Nat.le_succ_of_le hbl) (Nat.le_succ_of_le hsz) rfl rfl rfl
        · exact lw_leaf ws (some (x ++ sg c)) (some q) hfold hc hoff (by simp_all [lwStep]) (.inl rfl) (by k_asm) (by k_asm) (.head _) (.tail _ (.head _)) (fun p hp => .tail _ (.tail _ hp)) hits (fun _ => rfl) (by simp only [Option.getD, len_app, len_sg]; omega) (Nat.le_succ_of_le hsz) rfl rfl rfl
    | none =>
      cases b with
      | none =>
        dsimp only [obV, plV] at F₂
        k_steps
        · exact lw_leaf (tb := 0) ws none none hfold hc hoff (by simp_all [lwStep]) (.inl rfl) (by k_asm) (by k_asm) (.head _) (.tail _ (.head _)) (fun p hp => .tail _ (.tail _ hp)) hits (by nofun) (Nat.le_succ_of_le hbl) (Nat.le_succ_of_le hsz) rfl rfl rfl
        · exact lw_leaf ws (some (Str.ofString "")) (some c) hfold hc hoff (by simp_all [lwStep]) (.inl rfl) (by k_asm) (by k_asm) (.head _) (.tail _ (.head _)) (fun p hp => .tail _ (.tail _ hp)) hits (fun _ => rfl) (Nat.le_succ_of_le hbl) (Nat.le_succ_of_le hsz) rfl rfl rfl
        · exact lw_leaf ws (some (Str.ofString "" ++ sg c)) none hfold hc hoff (by simp_all [lwStep]) (.inl rfl) (by k_asm) (by k_asm) (.head _) (.tail _ (.head _)) (fun p hp => .tail _ (.tail _ hp)) hits (by nofun) (by simp only [Option.getD, len_app, len_sg, len_none]; omega) (Nat.le_succ_of_le hsz) rfl rfl rfl
      | some x =>
        dsimp only [obV, plV] at F₂
        dsimp only [Option.getD] at hbl
        k_steps
        · exact lw_leaf (tb := 0) (ws ++ [x]) none none hfold hc hoff (by simp_all [lwStep]) (.inl rfl) (by k_asm) (by k_asm) (.head _) (.tail _ (.head _)) (fun p hp => .tail _ (.tail _ hp)) (by rw [Array.toList_push]; exact strs_snoc0 hits) (by nofun) (by rw [show ((none : Option Str).getD (Str.ofString "")).length = 0 from len_none]; omega) (by rw [Array.size_push]; omega) rfl rfl rfl
        · exact lw_leaf ws (some (x ++ Str.ofString "")) (some c) hfold hc hoff (by simp_all [lwStep, app_none]) (.inl rfl) (by k_asm) (by k_asm) (.head _) (.tail _ (.head _)) (fun p hp => .tail _ (.tail _ hp)) hits (fun _ => rfl) (by simp only [Option.getD, app_none]; omega) (Nat.le_succ_of_le hsz) rfl rfl rfl
        · exact lw_leaf ws (some (x ++ sg c)) none hfold hc hoff (by simp_all [lwStep]) (.inl rfl) (by k_asm) (by k_asm) (.head _) (.tail _ (.head _)) (fun p hp => .tail _ (.tail _ hp)) hits (by nofun) (by simp only [Option.getD, len_app, len_sg]; omega) (Nat.le_succ_of_le hsz) rfl rfl rfl
        · have hx0 := none_of (by assumption)
          subst hx0
          exact lw_leaf ws (some (Str.ofString "")) (some c) hfold hc hoff (by simp_all [lwStep]) (.inl rfl) (by k_asm) (by k_asm) (.head _) (.tail _ (.head _)) (fun p hp => .tail _ (.tail _ hp)) hits (fun _ => rfl) (Nat.le_succ_of_le hbl) (Nat.le_succ_of_le hsz) rfl rfl rfl
        · have hx0 := none_of (by assumption)
          subst hx0
          exact lw_leaf ws (some (Str.ofString "" ++ sg c)) none hfold hc hoff (by simp_all [lwStep]) (.inl rfl) (by k_asm) (by k_asm) (.head _) (.tail _ (.head _)) (fun p hp => .tail _ (.tail _ hp)) hits (by nofun) (by simp only [Option.getD, len_app, len_sg, len_none]; omega) (Nat.le_succ_of_le hsz) rfl rfl rfl
  · rintro g m₁ led h tk ⟨rfl, ws, b, pl, its, n, tb, tp, hfold, hits, hpb, hbl, hsz, rfl, hm1, hm2, hm3⟩ F₂ N₂
    clear F1 N1
    rw [List.take_length] at hfold
    have em : m₁ = fun y => if y = Str.ofString "words" then some (.ref D) else if y = Str.ofString "begun" then some (obV tb b) else m₁ y := by
      funext y
      split
      · subst_vars; exact hm1
      · split
        · subst_vars; exact hm2
        · rfl
    rw [em] at F₂
    generalize m₁ = m₂ at F₂
    clear em hm1 hm2 hm3
    dsimp only
    cases b with
    | none =>
      dsimp only [obV] at F₂
      k_steps
      refine hret _ _ _ _ (by k_asm) (by k_asm) ⟨D, its, n, rfl, ?_, .head _, fun p hp => .tail _ hp, o1⟩
      show StrsAre its.toList (lwEnd _)
      rw [hfold]
      exact hits
    | some x =>
      dsimp only [obV] at F₂
      k_steps
      rename Fr _ _ _ _ => F3
      rename News _ _ _ _ => N3
      refine PyProof.Rows.add_arrays F3 N3 (News.isList N3 (.tail _ (.head _))) (News.isList N3 (.head _)) (fun h4 F4 N4 => ?_) ?_
      · have hlt : ∀ p ∈ news, (p.1 : Nat) < _ := fun p hp => Heap.lt_size (N3 p (.tail _ (.tail _ hp))).1
        k_steps
        refine hret _ _ _ _ (by k_asm) (by k_asm) ⟨_, _, 0, rfl, ?_, .head _, fun p hp => .tail _ (.tail _ (.tail _ hp)), hlt⟩
        show StrsAre _ (lwEnd _)
        rw [hfold]
        exact strs_snoc0 hits
      · have h2 : txt.length = txt.cps.toList.length := by simp [Str.length]
        rw [show sizeLine = 2 ^ 24 from rfl]
        show its.toList.length + 1 ≤ _
        rw [Array.length_toList]
        omega
end Mine
namespace Mine
section
variable {prog : Program} {w : World} {A : Around} {E : Value → Shared → Prop} {s : Shared} {h₀ : Heap} {L : Addr} {m : Str → Option Value} {env : Env} {elt : Expr} {x : Str} {scope : Scope} {cl : List (Str × Addr)}
/-- a comprehension's turns by an invariant -/
theorem comp_ind {S : Led → Prop} {P : Nat → Value → Prop} {Fin : List Value → Led → Prop} {news : Led} {n : Nat} (Inv : Nat → List Value → Led → Prop) (h0 : Inv 0 [] news)
    (step : ∀ (i : Nat) ys news v I oI C oC D m₂ h tk (E' : Value → Shared → Prop), i < n → Inv i ys news → P i v → LCg.NsObj oC m₂ → m₂ x = some v → Fr h₀ L h m → News h₀ L h ((I, oI) :: (C, oC) :: (D, LCg.lst ys) :: news) → LCg.Off3 I C D news → ((@Ne Nat I C) ∧ (@Ne Nat I D) ∧ (@Ne Nat C D)) →
      wpAny (model prog w) A (eval elt (compEnvC scope cl C env)) (LCg.CompEnd h₀ L m { s with heap := h, toks := tk } I oI C oC D (LCg.lst ys) S (fun y news' => Inv (i + 1) (ys ++ [y]) news')) E' { s with heap := h, toks := tk })
    (fin : ∀ ys news, Inv n ys news → Fin ys news) : LCg.CompRest prog w A h₀ L m env elt x scope cl s S P Fin n 0 [] news := by
  have key : ∀ k i ys news, i + k = n → Inv i ys news → LCg.CompRest prog w A h₀ L m env elt x scope cl s S P Fin k i ys news := by
    intro k
    induction k with
    | zero => intro i ys news e h; exact LCg.CompRest.zero (fin ys news ((show i = n from e) ▸ h))
    | succ k ih =>
      intro i ys news e h
      refine LCg.CompRest.succ fun v I oI C oC D m₂ h' tk E' hP hC hx F N off ne => ?_
      refine wpAny_mono (step i ys news v I oI C oC D m₂ h' tk E' (by omega) h hP hC hx F N off ne) (fun y s₂ p => ?_) fun _ _ e => e
      obtain ⟨h₂, tk₂, news₂, rfl, F₂, N₂, off₂, hS, hI⟩ := p
      exact ⟨h₂, tk₂, news₂, rfl, F₂, N₂, off₂, hS, ih (i + 1) (ys ++ [y]) news₂ (by omega) hI⟩
  exact key n 0 [] news (Nat.zero_add n) h0
/-- an element's end: the ledger's own part stands -/
theorem comp_end {S : Led → Prop} {rest : Value → Led → Prop} {I C D : Addr} {oI oC oD : Obj} {s₁ : Shared} {h' : Heap} {tk : Nat} {all news' : Led} {y : Value} (F : Fr h₀ L h' m) (N : News h₀ L h' all) (s1 : (I, oI) ∈ all) (s2 : (C, oC) ∈ all) (s3 : (D, oD) ∈ all) (s4 : ∀ p ∈ news', p ∈ all)
    (off : LCg.Off3 I C D news') (hS : S news') (r : rest y news') : LCg.CompEnd h₀ L m s₁ I oI C oC D oD S rest y { s₁ with heap := h', toks := tk } :=
  LCg.CompEnd.intro F N news' (fun p hp => by
    rcases List.mem_cons.mp hp with rfl | hp
    · exact s1
    rcases List.mem_cons.mp hp with rfl | hp
    · exact s2
    rcases List.mem_cons.mp hp with rfl | hp
    · exact s3
    · exact s4 p hp) off hS r
/-- an item of a list of ints of the ledger, at a place in bounds -/
theorem item_mem {led : Led} {l : Addr} {its : Array Value} {n : Nat} {ns : List Int} {value slice : Expr} {k : Int} {u : Tok} {Q : Value → Shared → Prop}
    (N : News h₀ L s.heap led) (hm : (l, listOf its n) ∈ led) (hi : IntsAre its.toList ns) (h0 : 0 ≤ k) (hk : k < (ns.length : Int)) (hs63 : k < 2 ^ 63) (h : ∀ t, Q (.int (ns.getD k.toNat 0) t) s)
    (hs : subscripted slice false (.ref l) (.int k u) = operate [.ref l, .int k u] (getItem (.ref l) (.int k u)) := by with_unfolding_all rfl) :
    wpAny (model prog w) A (subscriptTail value slice (.ref l) (.int k u)) Q E s := by
  have hl : s.heap.IsList l its := News.isList N hm
  have hlt : k.toNat < ns.length := by omega
  obtain ⟨t, ht⟩ := hi.get k.toNat ns[k.toNat] (by simp [hlt])
  refine tail_any hl.typeIs slot_list_getitem.lookup (wpAny_getItem_list hl h0 hs63 (by simpa using ht) ?_) hs
  have : ns.getD k.toNat 0 = ns[k.toNat] := by simp [List.getD, hlt]
  rw [← this]
  exact h t
end
end Mine
namespace Mine
theorem top_off_MV04 : True := by
  w_top off
  exact trivial
local macro_rules | `(tactic| walk_at "none 0") => `(tactic| skip)
local macro_rules | `(tactic| walk_at "none 1") => `(tactic| skip)
local macro_rules | `(tactic| walk_at "none 2") => `(tactic| skip)
local macro_rules | `(tactic| walk_at "none 3") => `(tactic| skip)
local macro_rules | `(tactic| walk_at "none 4") => `(tactic| skip)
local macro_rules | `(tactic| walk_at "none 5") => `(tactic| skip)
local macro_rules | `(tactic| walk_at "none 6") => `(tactic| skip)
local macro_rules | `(tactic| walk_at "none 7") => `(tactic| skip)
local macro_rules | `(tactic| walk_at "none 8") => `(tactic| skip)
local macro_rules | `(tactic| walk_at "none 9") => `(tactic| skip)
local macro_rules | `(tactic| walk_at "none 10") => `(tactic| skip)
local macro_rules | `(tactic| walk_at "none 11") => `(tactic| skip)
local macro_rules | `(tactic| walk_at "none 12") => `(tactic| skip)
local macro_rules | `(tactic| walk_at "none 13") => `(tactic| skip)
local macro_rules | `(tactic| walk_at "none 14") => `(tactic| skip)
local macro_rules | `(tactic| walk_at "none 15") => `(tactic| skip)
local macro_rules | `(tactic| walk_at "none 16") => `(tactic| skip)
local macro_rules | `(tactic| walk_at "none 17") => `(tactic| skip)
local macro_rules | `(tactic| walk_at "none 18") => `(tactic| skip)
local macro_rules | `(tactic| walk_at "none 19") => `(tactic| skip)
local macro_rules | `(tactic| walk_at "none 20") => `(tactic| skip)
local macro_rules | `(tactic| walk_at "none 21") => `(tactic| skip)
local macro_rules | `(tactic| walk_at "none 22") => `(tactic| skip)
local macro_rules | `(tactic| walk_at "none 23") => `(tactic| skip)
local macro_rules | `(tactic| walk_at "none 24") => `(tactic| skip)
local macro_rules | `(tactic| walk_at "none 25") => `(tactic| skip)
local macro_rules | `(tactic| walk_at "none 26") => `(tactic| skip)
local macro_rules | `(tactic| walk_at "none 27") => `(tactic| skip)
local macro_rules | `(tactic| walk_at "none 28") => `(tactic| skip)
local macro_rules | `(tactic| walk_at "none 29") => `(tactic| skip)
local macro_rules | `(tactic| walk_at "none 30") => `(tactic| skip)
local macro_rules | `(tactic| walk_at "none 31") => `(tactic| skip)
local macro_rules | `(tactic| walk_at "none 32") => `(tactic| skip)
local macro_rules | `(tactic| walk_at "none 33") => `(tactic| skip)
local macro_rules | `(tactic| walk_at "none 34") => `(tactic| skip)
local macro_rules | `(tactic| walk_at "none 35") => `(tactic| skip)
local macro_rules | `(tactic| walk_at "none 36") => `(tactic| skip)
local macro_rules | `(tactic| walk_at "none 37") => `(tactic| skip)
local macro_rules | `(tactic| walk_at "none 38") => `(tactic| skip)
local macro_rules | `(tactic| walk_at "none 39") => `(tactic| skip)
local macro_rules | `(tactic| walk_at "none 40") => `(tactic| skip)
local macro_rules | `(tactic| k_room) => `(tactic| ktr_room)
local macro_rules | `(tactic| k_units) => `(tactic| ktr_units)
local macro_rules | `(tactic| k_all) => `(tactic| assumption)
local macro_rules | `(tactic| walk_at "my enter") => `(tactic| k_dflt (refine' code_def ?k1 ?k2 ?k3 ?k4 ?k5 ?kA ?kF ?kK ?k6 ?k7 ?k8 ?k9 ?kB ?_ ?c2 ?c3 ?c4 ?c5; (case kA => exact rfl); (case kF => exact rfl); (case kK => assumption); (case k1 => k_asm); (case k2 => k_asm); (case k3 => k_asm); (case k4 => k_asm); (case k5 => k_asm); (case k6 => k_is); (case k7 => k_is); (case k8 => k_room); (case k9 => first | exact BindsTo.of_eq rfl | exact binds_K (by k_in) rfl (by k_is) rfl rfl rfl); (case c5 => decide); (case kB => exact locs rfl); (case c2 => exact rfl); (case c3 => exact rfl); (case c4 => exact rfl); k_whole; intro g' L' h' FG' F' N' B' X' T'; (try dsimp only); (try k_fold)))
local macro_rules | `(tactic| walk_at "leaving ref") => `(tactic| (k_here; first
  | (refine' leave_raiseS ?k1 (Heap.MadeExc.of (by assumption)) ?k2 ?k3 ?_; (case k1 => assumption); (case k2 => assumption); (case k3 => k_asm); k_whole; intro h' t' R' RK' U'; (try dsimp only at R' U' ⊢))
  | (refine' leave_onS ?k1 ?k2 ?k3 ?k4 ?_; (case k3 => assumption); (case k1 => assumption); (case k4 => assumption); (case k2 => assumption); k_whole; intro h' R' RK' U'; (try dsimp only at R' U' ⊢))))
local macro_rules | `(tactic| walk_at "compareOp In str str") => `(tactic| (k_here; with_reducible refine in_sg ?_))
local macro_rules | `(tactic| walk_at "compareOp In str str") => `(tactic| (k_here; with_reducible (first | refine in_ws ?_ | refine in_qt ?_ | refine in_bs ?_ | refine in_dq ?_ | refine in_none ?_ | refine in_a_qt ?_ | refine in_a_bs ?_)))
local macro_rules | `(tactic| walk_at "compareOp Eq str str") => `(tactic| (k_here; with_reducible refine eq_sg ?_))
local macro_rules | `(tactic| walk_at "compareOp NotEq str str") => `(tactic| (k_here; with_reducible refine ne_sg ?_))
local macro_rules | `(tactic| walk_at "truthy str") => `(tactic| (k_here; (with_reducible refine truthy_sg ?_)))
local macro_rules | `(tactic| walk_at "my enterC") => `(tactic| k_dflt (refine' code_defC ?k1 ?k2 ?k3 ?k4 ?k5 ?kA ?kF ?kK ?k6 ?k7 ?k8 ?k9 ?kB ?kD ?_ ?c2 ?c3 ?c4; (case kA => exact rfl); (case kF => exact rfl); (case kK => assumption); (case k1 => k_asm); (case k2 => k_asm); (case k3 => k_asm); (case k4 => k_asm); (case k5 => k_asm); (case k6 => k_is); (case k7 => k_is); (case k8 => k_room); (case k9 => first | exact BindsTo.of_eq rfl | exact binds_K (by k_in) rfl (by k_is) rfl rfl rfl); (case kB => exact rfl); (case kD => decide +kernel); (case c2 => exact rfl); (case c3 => exact rfl); (case c4 => exact rfl); k_whole; intro g' L' h' tk' cells' FG' F' N' Y' B' X' T' l1; k_cells Y'; (try simp only [List.cons_append, List.nil_append] at N'); (try dsimp only); (try k_fold)))
/-- a move: where the three places go -/
def mvStep (s1 s2 : List Int) (mv : List Int) (c : Nat) : List Int :=
  if c = 39 then mv.map fun p => s1.getD p.toNat 0 else if c = 34 then mv.map fun p => s2.getD p.toNat 0 else mv
def mvF (s1 s2 : List Int) (t : List Nat) : List Int := t.foldl (mvStep s1 s2) [0, 1, 2]
def Mv (l : List Int) : Prop := l.length = 3 ∧ ∀ x ∈ l, 0 ≤ x ∧ x < 3
theorem mvStep_Mv {s1 s2 mv : List Int} {c : Nat} (h1 : Mv s1) (h2 : Mv s2) (h : Mv mv) : Mv (mvStep s1 s2 mv c) := by
  have go : ∀ s : List Int, Mv s → Mv (mv.map fun p => s.getD p.toNat 0) := by
    intro s hs
    refine ⟨by rw [List.length_map]; exact h.1, fun x hx => ?_⟩
    obtain ⟨p, hp, rfl⟩ := List.mem_map.mp hx
    have := h.2 p hp
    have hl : p.toNat < s.length := by rw [hs.1]; omega
    have e : s.getD p.toNat 0 = s[p.toNat] := by simp [List.getD, hl]
    rw [e]
    exact hs.2 _ (List.getElem_mem hl)
  unfold mvStep
  split
  · exact go s1 h1
  · split
    · exact go s2 h2
    · exact h
theorem mvFold_Mv {s1 s2 : List Int} (h1 : Mv s1) (h2 : Mv s2) : ∀ (t : List Nat) (mv : List Int), Mv mv → Mv (t.foldl (mvStep s1 s2) mv)
  | [], _, h => h
  | _ :: t, _, h => mvFold_Mv h1 h2 t _ (mvStep_Mv h1 h2 h)
theorem mv012 : Mv [0, 1, 2] := ⟨rfl, by decide⟩
def MvJ (g₀ : Heap) (S1 S2 Cc : Nat) (l1 l2 : List Int) (txt : Str) (news : Led) (i : Nat) (g : Heap) (m : Str → Option Value) (led : Led) : Prop :=
  g = g₀ ∧ ∃ (D : Nat) (its : Array Value) (n : Nat) (oc : Obj) (cv : Option Value), IntsAre its.toList ((txt.cps.toList.take i).foldl (mvStep l1 l2) [0, 1, 2]) ∧ oc.data = .cell cv ∧ led = (D, listOf its n) :: (Cc, oc) :: news ∧ Cc ≠ D ∧ (∀ p ∈ news, p.1 ≠ D) ∧
    m (Str.ofString "move") = some (.ref D) ∧ m (Str.ofString "single") = some (.ref S1) ∧ m (Str.ofString "double") = some (.ref S2)
theorem mv_leaf {g₀ : Heap} {L I : Addr} {S1 S2 Cc i : Nat} {l1 l2 : List Int} {txt : Str} {news nx : Led} {o : Obj} {h h' : Heap} {s : Shared} {tk' : Nat} {Q : Flow → Shared → Prop} {m' : Str → Option Value} {c D' : Nat} {its' : Array Value} {n' : Nat} {oc' : Obj} {cv' : Option Value}
    (hc : txt.cps.toList[i]? = some c) (hIn : ∀ p ∈ news, p.1 ≠ I) (hIC : Cc ≠ I) (hID : D' ≠ I) (F : Fr g₀ L h' m') (N : News g₀ L h' nx) (hI : (I, o) ∈ nx) (hD : (D', listOf its' n') ∈ nx) (hC : (Cc, oc') ∈ nx) (hn : ∀ p ∈ news, p ∈ nx)
    (hits : IntsAre its'.toList (mvStep l1 l2 ((txt.cps.toList.take i).foldl (mvStep l1 l2) [0, 1, 2]) c)) (hcd : oc'.data = .cell cv') (hlt : Cc ≠ D') (hnd : ∀ p ∈ news, p.1 ≠ D')
    (hm1 : m' (Str.ofString "move") = some (.ref D')) (hm2 : m' (Str.ofString "single") = some (.ref S1)) (hm3 : m' (Str.ofString "double") = some (.ref S2)) :
    ForPost L I o [I] h s (MvJ g₀ S1 S2 Cc l1 l2 txt news (i + 1)) Q .next { s with heap := h', toks := tk' } := by
  refine ⟨g₀, m', (D', listOf its' n') :: (Cc, oc') :: news, nx, h', tk', rfl, F, N, hI, fun p hp => ?_, fun p hp => ?_, fun b hb q => absurd (List.mem_singleton.mp hb) q, rfl, D', its', n', oc', cv', ?_, hcd, rfl, hlt, hnd, hm1, hm2, hm3⟩
  · rcases List.mem_cons.mp hp with rfl | hp
    · exact hD
    rcases List.mem_cons.mp hp with rfl | hp
    · exact hC
    · exact hn p hp
  · rcases List.mem_cons.mp hp with rfl | hp
    · exact hID
    rcases List.mem_cons.mp hp with rfl | hp
    · exact hIC
    · exact hIn p hp
  · rw [List.take_add_one, hc, Option.toList_some, List.foldl_append]
    exact hits
theorem eq_lit {prog : Program} {w : World} {A : Around} {E : Value → Shared → Prop} {s : Shared} {c d : Nat} {y : Str} {t u : Tok} {Q : Value → Shared → Prop} (hy : y = sg d) (h : Q (.bool (c == d)) s) : wpAny (model prog w) A (compareOp .Eq (.str (sg c) t) (.str y u)) Q E s := by
  subst hy
  exact eq_sg h
theorem ints_at {vs : Array Value} {ns : List Int} {i : Nat} {v : Value} (h : IntsAre vs.toList ns) (e : vs[i]? = some v) : ∃ y t, ns[i]? = some y ∧ v = .int y t := by
  have hl : i < ns.length := by
    rw [← h.length, Array.length_toList]
    exact (Array.getElem?_eq_some_iff.mp e).1
  obtain ⟨t, ht⟩ := h.get i ns[i] (by simp [hl])
  refine ⟨ns[i], t, by simp [hl], ?_⟩
  have e' : vs.toList[i]? = some v := by simpa using e
  rw [e'] at ht
  exact Option.some.inj ht
theorem ints_snoc {x : Int} {t : Tok} : ∀ {vs : List Value} {ns : List Int}, IntsAre vs ns → IntsAre (vs ++ [.int x t]) (ns ++ [x])
  | _, _, .nil => .cons _ _ .nil
  | _, _, .cons y u h => .cons y u (ints_snoc h)
theorem mv_is1 {l1 l2 mv : List Int} {c : Nat} {ys : List Value} (h : (c == 39) = true) (hy : IntsAre ys (mv.map fun p => l1.getD p.toNat 0)) : IntsAre ys.toArray.toList (mvStep l1 l2 mv c) := by
  unfold mvStep
  rw [if_pos (by simpa using h)]
  exact hy
theorem mv_is2 {l1 l2 mv : List Int} {c : Nat} {ys : List Value} (hq : isQt c = true) (h : (c == 39) = false) (hy : IntsAre ys (mv.map fun p => l2.getD p.toNat 0)) : IntsAre ys.toArray.toList (mvStep l1 l2 mv c) := by
  have h39 : c ≠ 39 := by simpa using h
  have h34 : c = 34 := by simpa [isQt, h39] using hq
  unfold mvStep
  rw [if_neg h39, if_pos h34]
  exact hy
theorem mv_is0 {l1 l2 mv : List Int} {c : Nat} (hq : isQt c = false) : mvStep l1 l2 mv c = mv := by
  have : c ≠ 39 ∧ c ≠ 34 := by simpa [isQt] using hq
  unfold mvStep
  rw [if_neg this.1, if_neg this.2]
theorem off1_mem {D : Addr} : ∀ {l : Led}, LCg.Off1 D l → ∀ p ∈ l, p.1 ≠ D
  | [], _, _, h => nomatch h
  | _ :: _, x, p, h => by
    rcases List.mem_cons.mp h with rfl | h
    · exact x.1
    · exact off1_mem x.2 p h
theorem ofS_sq : Str.ofString "'" = sg 39 := by decide +kernel
theorem ofS_dq : Str.ofString "\"" = sg 34 := by decide +kernel
local macro_rules | `(tactic| walk_at "compareOp Eq str str") => `(tactic| (k_here; (with_reducible show wpAny _ _ (compareOp _ (Value.str (sg _) _) (Value.str (Str.ofString _) _)) _ _ _); first | refine eq_lit ofS_sq ?_ | refine eq_lit ofS_dq ?_))
local macro_rules | `(tactic| walk_at "exec For Name Name cons nil") => `(tactic| (k_here; refine Hold.out ?_))
local macro_rules | `(tactic| walk_at "pyIter str") => `(tactic| (k_here; refine Hold.out ?_))
local macro_rules | `(tactic| walk_at "exec Assign cons ListComp") => `(tactic| (k_here; refine Hold.out ?_))
local macro_rules | `(tactic| walk_at "subscriptTail Name Name ref int") => `(tactic| (k_here; (with_reducible show wpAny _ _ (subscriptTail _ _ (Value.ref _) (Value.int _ _)) _ _ _); k_dflt (refine' item_mem ?kN ?kM ?kI ?k0 ?k1 ?k2 ?_; (case k0 => assumption); (case k2 => assumption); (case kN => k_asm); (case kM => (repeat (first | assumption | apply List.mem_cons_of_mem))); (case kI => assumption); (case k1 => assumption)); intro t8))
theorem move_ (w : World) (mean mg mb) (txt : Str) (tt : Tok) (S1 S2 : Nat) (l1 l2 : List Int) (it1 it2 : Array Value) (n1 n2 : Nat) (news : Led) (hb : txt.length < 2 ^ 20) (hS1 : (S1, listOf it1 n1) ∈ news) (hS2 : (S2, listOf it2 n2) ∈ news)
    (hi1 : IntsAre it1.toList l1) (hi2 : IntsAre it2.toList l2) (hm1 : Mv l1) (hm2 : Mv l2) :
    Ctr w mean mg mb 753 [.str txt tt, .ref S1, .ref S2] news 2 24 (fun v news' => ∃ (D : Nat) (its : Array Value) (n : Nat), v = .ref D ∧ IntsAre its.toList (mvF l1 l2 txt.cps.toList) ∧ (D, listOf its n) ∈ news' ∧ (∀ p ∈ news, p ∈ news') ∧ ∀ p ∈ news, p.1 ≠ D) := by
  have hpr := prog_here
  revert hpr
  unfold Ctr
  k_fill
  intro _ dp un gd cn cs a ccd cl outer A₀ base h₀ L m s Q E B F X N T hk hd hu hret
  refine wpAny_call ?_
  walk_at "my enterC"
  k_steps
  refine Hold.mk ?_
  refine wpAny_For ?_
  k_steps
  refine Hold.mk ?_
  rename Fr _ _ _ _ => F1
  rename News _ _ _ _ => N1
  rename (∀ (p : Addr × Obj), p ∈ news → p.fst < _) => o1
  rename (_ < _ ∧ AllLt _ news) => o2
  rename (_ = Data.cell _) => hcell
  refine withD o1 fun D hDe => ?_
  subst hDe
  refine for_str (MvJ _ S1 S2 (D + 1) l1 l2 txt news) rfl rfl rfl F1 N1 ⟨rfl, _, _, _, _, _, .cons _ _ (.cons _ _ (.cons _ _ .nil)), hcell, rfl, Nat.ne_of_lt o2.1, fun p hp => Nat.ne_of_lt (Nat.lt_trans (o1 p hp) (Nat.lt_trans (Nat.lt_succ_self _) o2.1)), rfl, rfl, rfl⟩ ?_ ?_
  · rintro I i c u g m₁ led o h tk hc ⟨rfl, D', its, n, oc, cv, hits, hcd, rfl, hlt, hnd, e1, e2, e3⟩ hoff F₂ N₂
    clear F1 N1 hcell o2
    have em : m₁ = fun y => if y = Str.ofString "move" then some (.ref D') else if y = Str.ofString "single" then some (.ref S1) else if y = Str.ofString "double" then some (.ref S2) else m₁ y := by
      funext y
      split
      · subst_vars; exact e1
      · split
        · subst_vars; exact e2
        · split
          · subst_vars; exact e3
          · rfl
    rw [em] at F₂
    generalize m₁ = m₂ at F₂
    clear em e1 e2 e3
    have hn1 : ∀ p ∈ news, p.1 ≠ D + 1 := fun p hp => Nat.ne_of_lt (Nat.lt_succ_of_lt (o1 p hp))
    have hID : D' ≠ I := hoff (D', listOf its n) (.head _)
    have hIC : D + 1 ≠ I := hoff (D + 1, oc) (.tail _ (.head _))
    have hIn : ∀ p ∈ news, p.1 ≠ I := fun p hp => hoff p (.tail _ (.tail _ hp))
    generalize hmv : (txt.cps.toList.take i).foldl (mvStep l1 l2) [0, 1, 2] = mv at *
    have hMv : Mv mv := hmv ▸ mvFold_Mv hm1 hm2 _ _ mv012
    have hsz3 : its.size = 3 := by
      have := hits.length
      rw [hMv.1, Array.length_toList] at this
      exact this
    k_steps
    · refine Hold.mk ?_
      rename Fr _ _ _ _ => F4
      rename News _ _ _ _ => N4
      refine LCg.Assign_ListComp_U F4 rfl (by with_unfolding_all rfl) (by with_unfolding_all rfl) (by decide) (by rfl) (by decide) (by rfl) (by rfl) (by rfl) ?_
      refine nameX_L F4 (by rfl) ?_
      refine LCg.CompSrc.ledger rfl F4 N4 (by k_mem) (by rw [hsz3]; decide) fun g9 => comp_ind (fun i ys nw => nw = _ ∧ IntsAre ys ((mv.take i).map fun p => l1.getD p.toNat 0)) ⟨rfl, .nil⟩ ?_ ?_
      · rintro j ys nw v I9 oI C oC D9 m₉ h9 tk9 E' hj ⟨rfl, hys⟩ hv hC hx F9 N9 off ne
        obtain ⟨y, t9, hyj, rfl⟩ := ints_at hits hv
        have hy3 := hMv.2 y (List.mem_of_getElem? hyj)
        have hyl : y < (l1.length : Int) := by rw [hm1.1]; omega
        have hy0 := hy3.1
        have hy63 : y < 2 ^ 63 := by omega
        k_steps
        refine comp_end (by k_asm) (by k_asm) (.head _) (.tail _ (.head _)) (.tail _ (.tail _ (.head _))) (fun p hp => .tail _ (.tail _ (.tail _ hp))) off (.inr ⟨_, .tail _ (.head _), rfl, _, rfl⟩) ⟨rfl, ?_⟩
        rw [List.take_add_one, hyj, Option.toList_some, List.map_append]
        exact ints_snoc hys
      · rintro ys nw ⟨rfl, hys⟩ D9 h9 tk9 F9 N9 off9
        rw [hsz3, ← hMv.1, List.take_length] at hys
        dsimp only
        k_steps
        refine mv_leaf (D' := D9) hc hIn hIC (Ne.symm off9.1) (by k_asm) (by k_asm) (.tail _ (.head _)) (.head _) (.tail _ (.tail _ (.tail _ (.head _)))) (fun p hp => .tail _ (.tail _ (.tail _ (.tail _ hp)))) ?_ (by assumption) off9.2.2.1 (off1_mem off9.2.2.2) rfl rfl rfl
        rw [hmv]
        exact mv_is1 (by assumption) hys
    · refine Hold.mk ?_
      rename Fr _ _ _ _ => F4
      rename News _ _ _ _ => N4
      refine LCg.Assign_ListComp_U F4 rfl (by with_unfolding_all rfl) (by with_unfolding_all rfl) (by decide) (by rfl) (by decide) (by rfl) (by rfl) (by rfl) ?_
      refine nameX_L F4 (by rfl) ?_
      refine LCg.CompSrc.ledger rfl F4 N4 (by k_mem) (by rw [hsz3]; decide) fun g9 => comp_ind (fun i ys nw => nw = _ ∧ IntsAre ys ((mv.take i).map fun p => l2.getD p.toNat 0)) ⟨rfl, .nil⟩ ?_ ?_
      · rintro j ys nw v I9 oI C oC D9 m₉ h9 tk9 E' hj ⟨rfl, hys⟩ hv hC hx F9 N9 off ne
        obtain ⟨y, t9, hyj, rfl⟩ := ints_at hits hv
        have hy3 := hMv.2 y (List.mem_of_getElem? hyj)
        have hyl : y < (l2.length : Int) := by rw [hm2.1]; omega
        have hy0 := hy3.1
        have hy63 : y < 2 ^ 63 := by omega
        k_steps
        refine comp_end (by k_asm) (by k_asm) (.head _) (.tail _ (.head _)) (.tail _ (.tail _ (.head _))) (fun p hp => .tail _ (.tail _ (.tail _ hp))) off (.inr ⟨_, .tail _ (.head _), rfl, _, rfl⟩) ⟨rfl, ?_⟩
        rw [List.take_add_one, hyj, Option.toList_some, List.map_append]
        exact ints_snoc hys
      · rintro ys nw ⟨rfl, hys⟩ D9 h9 tk9 F9 N9 off9
        rw [hsz3, ← hMv.1, List.take_length] at hys
        dsimp only
        k_steps
        refine mv_leaf (D' := D9) hc hIn hIC (Ne.symm off9.1) (by k_asm) (by k_asm) (.tail _ (.head _)) (.head _) (.tail _ (.tail _ (.tail _ (.head _)))) (fun p hp => .tail _ (.tail _ (.tail _ (.tail _ hp)))) ?_ (by assumption) off9.2.2.1 (off1_mem off9.2.2.2) rfl rfl rfl
        rw [hmv]
        exact mv_is2 (by assumption) (by assumption) hys
    · refine mv_leaf hc hIn hIC hID (by k_asm) (by k_asm) (.head _) (.tail _ (.head _)) (.tail _ (.tail _ (.head _))) (fun p hp => .tail _ (.tail _ (.tail _ hp))) ?_ hcd hlt hnd rfl rfl rfl
      rw [hmv, mv_is0 (by assumption)]
      exact hits
  · rintro g m₁ led h tk ⟨rfl, D', its, n, oc, cv, hits, hcd, rfl, hlt, hnd, e1, e2, e3⟩ F₂ N₂
    clear F1 N1 hcell o2
    rw [List.take_length] at hits
    have em : m₁ = fun y => if y = Str.ofString "move" then some (.ref D') else m₁ y := by
      funext y
      split
      · subst_vars; exact e1
      · rfl
    rw [em] at F₂
    generalize m₁ = m₂ at F₂
    clear em e1 e2 e3
    dsimp only
    k_steps
    exact hret _ _ _ _ (by k_asm) (by k_asm) ⟨D', its, n, rfl, hits, .head _, fun p hp => .tail _ (.tail _ hp), hnd⟩
end Mine
namespace Mine
def StrsOk (ws : List Str) : Prop := ∀ x ∈ ws, PyData.strOk x = true
theorem cl_strs : ∀ ws : List Str, StrsOk ws → PyData.canLayAll0 (ws.map PyData.str) = true
  | [], _ => rfl
  | x :: r, h => by simp [PyData.canLayAll0, PyData.canLay0, cl_strs r fun y hy => h y (.tail _ hy), h x (.head _)]
theorem dp_strs : ∀ ws : List Str, PyData.depthAll (ws.map PyData.str) = 0
  | [] => rfl
  | _ :: r => by simp [PyData.depthAll, PyData.depth, dp_strs r]
theorem shaped_strs {ws : List Str} (h : StrsOk ws) : SeqAt.shaped (.list (ws.map PyData.str)) = true := by
  simp [SeqAt.shaped, PyData.canLay0, PyData.depth, cl_strs ws h, dp_strs]
theorem same_strsAll : ∀ ns ms : List Str, PySem.Spec.sameAll (ns.map PyData.str) (ms.map PyData.str) = decide (ns = ms)
  | [], [] => by simp [PySem.Spec.sameAll]
  | [], _ :: _ => by simp [PySem.Spec.sameAll]
  | _ :: _, [] => by simp [PySem.Spec.sameAll]
  | a :: r, b :: t => by
    simp only [List.map_cons, PySem.Spec.sameAll, PySem.Spec.same, same_strsAll r t]
    by_cases h : a = b <;> by_cases h' : r = t <;> simp [h, h']
theorem same_strs (ns ms : List Str) : PySem.Spec.same (.list (ns.map PyData.str)) (.list (ms.map PyData.str)) = decide (ns = ms) := by
  simp only [PySem.Spec.same]; exact same_strsAll ns ms
theorem carried_strs : ∀ {vs : List Value} {ns : List Str}, StrsAre vs ns → CarriedAll vs (ns.map PyData.str)
  | _, _, .nil => .nil
  | _, _, .cons _ t r => .cons (.str _ t) (carried_strs r)
section
variable {prog : Program} {w : World} {A : Around} {E : Value → Shared → Prop} {s : Shared} {h₀ : Heap} {L : Addr} {led : Led} {a b : Addr} {xs ys : Array Value} {n1 n2 : Nat} {ns ms : List Str} {Q : Value → Shared → Prop}
theorem eq_strs (N : News h₀ L s.heap led) (ha : (a, listOf xs n1) ∈ led) (hb : (b, listOf ys n2) ∈ led) (hi : StrsAre xs.toList ns) (hj : StrsAre ys.toList ms) (ok1 : StrsOk ns) (ok2 : StrsOk ms) (hu : A.units + 64 < cLine) (h : Q (.bool (decide (ns = ms))) s) :
    wpAny (model prog w) A (compareOp .Eq (.ref a) (.ref b)) Q E s :=
  eq_dataH_same (reads_newData (News.isList N ha) (carried_strs hi)) (reads_newData (News.isList N hb) (carried_strs hj)) (shaped_strs ok1) (shaped_strs ok2) hu (SeqAt.noMix_of_shape (.list .str) rfl _ _ (list_map_has fun _ => rfl) (list_map_has fun _ => rfl)) (by rw [same_strs]; exact h)
theorem ne_strs (N : News h₀ L s.heap led) (ha : (a, listOf xs n1) ∈ led) (hb : (b, listOf ys n2) ∈ led) (hi : StrsAre xs.toList ns) (hj : StrsAre ys.toList ms) (ok1 : StrsOk ns) (ok2 : StrsOk ms) (hu : A.units + 64 < cLine) (h : Q (.bool (!decide (ns = ms))) s) :
    wpAny (model prog w) A (compareOp .NotEq (.ref a) (.ref b)) Q E s :=
  ne_dataH_same (reads_newData (News.isList N ha) (carried_strs hi)) (reads_newData (News.isList N hb) (carried_strs hj)) (shaped_strs ok1) (shaped_strs ok2) hu (SeqAt.noMix_of_shape (.list .str) rfl _ _ (list_map_has fun _ => rfl) (list_map_has fun _ => rfl)) (by rw [same_strs]; exact h)
/-- an item of a list of texts of the ledger, at a place in bounds -/
theorem item_strs {l : Addr} {its : Array Value} {n : Nat} {xs : List Str} {value slice : Expr} {k : Int} {u : Tok}
    (N : News h₀ L s.heap led) (hm : (l, listOf its n) ∈ led) (hi : StrsAre its.toList xs) (h0 : 0 ≤ k) (hk : k < (xs.length : Int)) (hs63 : k < 2 ^ 63) (h : ∀ t, Q (.str (xs.getD k.toNat (Str.ofString "")) t) s)
    (hs : subscripted slice false (.ref l) (.int k u) = operate [.ref l, .int k u] (getItem (.ref l) (.int k u)) := by with_unfolding_all rfl) :
    wpAny (model prog w) A (subscriptTail value slice (.ref l) (.int k u)) Q E s := by
  have hl : s.heap.IsList l its := News.isList N hm
  have hlt : k.toNat < xs.length := by omega
  obtain ⟨t, ht⟩ := hi.get k.toNat xs[k.toNat] (by simp [hlt])
  refine tail_any hl.typeIs slot_list_getitem.lookup (wpAny_getItem_list hl h0 hs63 (by simpa using ht) ?_) hs
  have : xs.getD k.toNat (Str.ofString "") = xs[k.toNat] := by simp [List.getD, hlt]
  rw [← this]
  exact h t
end
section
variable {prog : Program} {w : World} {A : Around} {E : Value → Shared → Prop} {Q : Flow → Shared → Prop} {s : Shared} {env : Env}
/-- a for over a range from nought -/
theorem for_range {x : Str} {px : Pos} {body : List Stmt} {g : Heap} {m : Str → Option Value} {led : Led} {r : Addr} {b : Int} {t u v : Tok} {n : Nat}
    (J : Nat → Heap → (Str → Option Value) → Led → Prop) (hh : A.handled = none) (hr : IsRange s.heap r 0 b 1 t u v) (hsm : Builtin.Range.small 0 b 1 = true) (hn : Builtin.Range.rangeSize 0 b 1 = (n : Int)) (hx : env.kindOf x = some .local) (hp : (env.scope.kind == .class || (env.scope.kind == .module && env.locals != env.globals)) = false)
    (F : Fr g env.locals s.heap m) (N : News g env.locals s.heap led) (h0 : J 0 g m led)
    (turn : ∀ (I : Nat) i u g m₁ led o h tk, i < n → J i g m₁ led → (∀ p ∈ led, p.1 ≠ I) → Fr g env.locals h (fun y => if y = x then some (.int (i : Int) u) else m₁ y) → News g env.locals h ((I, o) :: led) →
      wpAny (model prog w) A (execs body env) (ForPost env.locals I o [I] h s (J (i + 1)) Q) E { s with heap := h, toks := tk })
    (done : ∀ g m₁ led h tk, J n g m₁ led → Fr g env.locals h m₁ → News g env.locals h led → Q .next { s with heap := h, toks := tk })
    (hE : PassesOwn (model prog w) A env E := by passes_own) :
    wpAny (model prog w) A (pyIter (.ref r)) (fun it s₂ => codeAny (model prog w) A (.forLoop (.Name x px) it body [] env) (fun r s' => match r with | .ok f => Q f s' | .error e => cameBackBy (model prog w) A env E e s') s₂) E s := by
  have hL : env.locals ≠ s.heap.objs.size := Nat.ne_of_lt F.ns.lt
  refine wpAny_pyIter_range hr hsm ?_
  refine for_T (s := { s with heap := s.heap.push _ }) J (LCg.range_walks hh 0 n) (fun i h st => ⟨_, st⟩) hx hp (fun q => hL (List.mem_singleton.mp q)) (by show IsRangeIter _ _ _ _ _; rw [hn]; simpa using Heap.get?_push_size _ rfl) (F.push _) (N.pushKeep _) (next_is_new F) (fun p hp => Nat.ne_of_lt (Heap.lt_size (N p hp).1)) h0 ?_ ?_ hE
  · rintro i v g m₁ led o h tk hi ⟨u, rfl⟩ hJ hoff F₁ N₁
    rw [Int.zero_add] at F₁
    exact turn _ i u g m₁ led o h tk hi hJ hoff F₁ N₁
  · intro g m₁ led h tk hJ F₁ N₁
    exact done g m₁ led h tk hJ F₁ N₁
end
end Mine
namespace Mine
theorem top_off_HL04 : True := by
  w_top off
  exact trivial
local macro_rules | `(tactic| walk_at "none 0") => `(tactic| skip)
local macro_rules | `(tactic| walk_at "none 1") => `(tactic| skip)
local macro_rules | `(tactic| walk_at "none 2") => `(tactic| skip)
local macro_rules | `(tactic| walk_at "none 3") => `(tactic| skip)
local macro_rules | `(tactic| walk_at "none 4") => `(tactic| skip)
local macro_rules | `(tactic| walk_at "none 5") => `(tactic| skip)
local macro_rules | `(tactic| walk_at "none 6") => `(tactic| skip)
local macro_rules | `(tactic| walk_at "none 7") => `(tactic| skip)
local macro_rules | `(tactic| walk_at "none 8") => `(tactic| skip)
local macro_rules | `(tactic| walk_at "none 9") => `(tactic| skip)
local macro_rules | `(tactic| walk_at "none 10") => `(tactic| skip)
local macro_rules | `(tactic| walk_at "none 11") => `(tactic| skip)
local macro_rules | `(tactic| walk_at "none 12") => `(tactic| skip)
local macro_rules | `(tactic| walk_at "none 13") => `(tactic| skip)
local macro_rules | `(tactic| walk_at "none 14") => `(tactic| skip)
local macro_rules | `(tactic| walk_at "none 15") => `(tactic| skip)
local macro_rules | `(tactic| walk_at "none 16") => `(tactic| skip)
local macro_rules | `(tactic| walk_at "none 17") => `(tactic| skip)
local macro_rules | `(tactic| walk_at "none 18") => `(tactic| skip)
local macro_rules | `(tactic| walk_at "none 19") => `(tactic| skip)
local macro_rules | `(tactic| walk_at "none 20") => `(tactic| skip)
local macro_rules | `(tactic| walk_at "none 21") => `(tactic| skip)
local macro_rules | `(tactic| walk_at "none 22") => `(tactic| skip)
local macro_rules | `(tactic| walk_at "none 23") => `(tactic| skip)
local macro_rules | `(tactic| walk_at "none 24") => `(tactic| skip)
local macro_rules | `(tactic| walk_at "none 25") => `(tactic| skip)
local macro_rules | `(tactic| walk_at "none 26") => `(tactic| skip)
local macro_rules | `(tactic| walk_at "none 27") => `(tactic| skip)
local macro_rules | `(tactic| walk_at "none 28") => `(tactic| skip)
local macro_rules | `(tactic| walk_at "none 29") => `(tactic| skip)
local macro_rules | `(tactic| walk_at "none 30") => `(tactic| skip)
local macro_rules | `(tactic| walk_at "none 31") => `(tactic| skip)
local macro_rules | `(tactic| walk_at "none 32") => `(tactic| skip)
local macro_rules | `(tactic| walk_at "none 33") => `(tactic| skip)
local macro_rules | `(tactic| walk_at "none 34") => `(tactic| skip)
local macro_rules | `(tactic| walk_at "none 35") => `(tactic| skip)
local macro_rules | `(tactic| walk_at "none 36") => `(tactic| skip)
local macro_rules | `(tactic| walk_at "none 37") => `(tactic| skip)
local macro_rules | `(tactic| walk_at "none 38") => `(tactic| skip)
local macro_rules | `(tactic| walk_at "none 39") => `(tactic| skip)
local macro_rules | `(tactic| walk_at "none 40") => `(tactic| skip)
local macro_rules | `(tactic| walk_at "none 41") => `(tactic| skip)
local macro_rules | `(tactic| walk_at "none 42") => `(tactic| skip)
local macro_rules | `(tactic| walk_at "none 43") => `(tactic| skip)
local macro_rules | `(tactic| walk_at "none 44") => `(tactic| skip)
local macro_rules | `(tactic| walk_at "none 45") => `(tactic| skip)
local macro_rules | `(tactic| walk_at "none 46") => `(tactic| skip)
local macro_rules | `(tactic| k_room) => `(tactic| ktr_room)
local macro_rules | `(tactic| k_units) => `(tactic| ktr_units)
local macro_rules | `(tactic| k_all) => `(tactic| assumption)
local macro_rules | `(tactic| walk_at "my enter") => `(tactic| k_dflt (refine' code_def ?k1 ?k2 ?k3 ?k4 ?k5 ?kA ?kF ?kK ?k6 ?k7 ?k8 ?k9 ?kB ?_ ?c2 ?c3 ?c4 ?c5; (case kA => exact rfl); (case kF => exact rfl); (case kK => assumption); (case k1 => k_asm); (case k2 => k_asm); (case k3 => k_asm); (case k4 => k_asm); (case k5 => k_asm); (case k6 => k_is); (case k7 => k_is); (case k8 => k_room); (case k9 => first | exact BindsTo.of_eq rfl | exact binds_K (by k_in) rfl (by k_is) rfl rfl rfl); (case c5 => decide); (case kB => exact locs rfl); (case c2 => exact rfl); (case c3 => exact rfl); (case c4 => exact rfl); k_whole; intro g' L' h' FG' F' N' B' X' T'; (try dsimp only); (try k_fold)))
local macro_rules | `(tactic| walk_at "leaving ref") => `(tactic| (k_here; first
  | (refine' leave_raiseS ?k1 (Heap.MadeExc.of (by assumption)) ?k2 ?k3 ?_; (case k1 => assumption); (case k2 => assumption); (case k3 => k_asm); k_whole; intro h' t' R' RK' U'; (try dsimp only at R' U' ⊢))
  | (refine' leave_onS ?k1 ?k2 ?k3 ?k4 ?_; (case k3 => assumption); (case k1 => assumption); (case k4 => assumption); (case k2 => assumption); k_whole; intro h' R' RK' U'; (try dsimp only at R' U' ⊢))))
local macro_rules | `(tactic| walk_at "compareOp In str str") => `(tactic| (k_here; with_reducible refine in_sg ?_))
local macro_rules | `(tactic| walk_at "compareOp In str str") => `(tactic| (k_here; with_reducible (first | refine in_ws ?_ | refine in_qt ?_ | refine in_bs ?_ | refine in_dq ?_ | refine in_none ?_ | refine in_a_qt ?_ | refine in_a_bs ?_)))
local macro_rules | `(tactic| walk_at "compareOp Eq str str") => `(tactic| (k_here; with_reducible refine eq_sg ?_))
local macro_rules | `(tactic| walk_at "compareOp NotEq str str") => `(tactic| (k_here; with_reducible refine ne_sg ?_))
local macro_rules | `(tactic| walk_at "truthy str") => `(tactic| (k_here; (with_reducible refine truthy_sg ?_)))
local macro_rules | `(tactic| walk_at "my enterT") => `(tactic| k_dflt (refine' code_defT ?k1 ?k2 ?k3 ?k4 ?k5 ?XB ?TB ?kD ?T0 ?kA ?kF ?kK ?k6 ?k7 ?k8 ?k9 ?kB ?_ ?c2 ?c3 ?c4 ?c5; (case kA => exact rfl); (case kF => exact rfl); (case kK => assumption); (case k1 => k_asm); (case k2 => k_asm); (case k3 => k_asm); (case k4 => k_asm); (case k5 => k_asm); (case XB => assumption); (case TB => assumption); (case kD => assumption); (case T0 => assumption); (case k6 => k_is); (case k7 => k_is); (case k8 => k_room); (case k9 => first | exact BindsTo.of_eq rfl | exact binds_K (by k_in) rfl (by k_is) rfl rfl rfl); (case c5 => decide); (case kB => exact locs rfl); (case c2 => exact rfl); (case c3 => exact rfl); (case c4 => exact rfl); k_whole; intro g' L' h' FG' F' N' B' X' T' D' l0; (try dsimp only); (try k_fold)))
structure Gd (w : World) (mean : ExcName → Option Value) (mg mb : Str → Option Value) (A₀ : Around) (base : Heap) (outer : List Env) (g₀ g : Heap) : Prop where
  T0 : KtsTurn (frs outer) g₀ g
  B : Below A₀ base outer g
  X : (hd.heap_39 w.params).In g
  P : Top hd.view_39 LS mean mg mb g
  D : KtsDicts (frs outer) g
def MK : List Str := [Str.ofString "", Str.ofString "'", Str.ofString "\""]
def wholeF (txt : Str) (p e : Nat) : Str := MK.getD p (Str.ofString "") ++ txt ++ MK.getD e (Str.ofString "")
def HoldsOk (txt : Str) (mv : List Int) : Prop := ∀ p e : Nat, p < 3 → e < 3 → StrsOk (lwF (wholeF txt p e).cps.toList) ∧
  wordsF true false ((wholeF txt p e).length + 2) .sp (wholeF txt p e).cps.toList = if mv.getD p 0 = (e : Int) then .ok (lwF (wholeF txt p e).cps.toList) else .error (Str.ofString "No closing quotation")
def HoM (txt : Str) (tt : Tok) (M Mk : Nat) (m : Str → Option Value) : Prop := m (Str.ofString "text") = some (.str txt tt) ∧ m (Str.ofString "move") = some (.ref M) ∧ m (Str.ofString "marks") = some (.ref Mk)
theorem news_cons {h₀ h : Heap} {L : Addr} {nx led : Led} {q : Addr × Obj} (N : News h₀ L h nx) (h1 : q ∈ nx) (h2 : ∀ p ∈ led, p ∈ nx) : News h₀ L h (q :: led) := fun p hp => by
  rcases List.mem_cons.mp hp with rfl | hp
  · exact N _ h1
  · exact N _ (h2 _ hp)
theorem mk_len (p : Nat) : (MK.getD p (Str.ofString "")).length ≤ 1 := by
  match p with
  | 0 => decide +kernel
  | 1 => decide +kernel
  | 2 => decide +kernel
  | n + 3 =>
    show (Str.ofString "").length ≤ 1
    decide +kernel
theorem mk_strs (t u v : Tok) : StrsAre (#[Value.str (Str.ofString "") t, Value.str (Str.ofString "'") u, Value.str (Str.ofString "\"") v] : Array Value).toList MK := .cons _ _ (.cons _ _ (.cons _ _ .nil))
theorem gen_led {P : Prop} {h₀ h : Heap} {L Mk : Addr} {t u v : Tok} {news : Led} (N : News h₀ L h ((Mk, listOf #[Value.str (Str.ofString "") t, Value.str (Str.ofString "'") u, Value.str (Str.ofString "\"") v] 0) :: news))
    (k : ∀ itsK : Array Value, StrsAre itsK.toList MK → News h₀ L h ((Mk, listOf itsK 0) :: news) → P) : P := k _ (mk_strs t u v) N
theorem whole_len (txt : Str) (p e : Nat) : (wholeF txt p e).length ≤ txt.length + 2 := by
  have h1 := mk_len p
  have h2 := mk_len e
  unfold wholeF
  rw [len_app, len_app]
  omega
theorem hom_eq {txt : Str} {tt : Tok} {M Mk : Nat} {m : Str → Option Value} (h : HoM txt tt M Mk m) : m = fun y => if y = Str.ofString "text" then some (.str txt tt) else if y = Str.ofString "move" then some (.ref M) else if y = Str.ofString "marks" then some (.ref Mk) else m y := by
  funext y
  split
  · subst_vars; exact h.1
  · split
    · subst_vars; exact h.2.1
    · split
      · subst_vars; exact h.2.2
      · rfl
def HoJ (w : World) (mean : ExcName → Option Value) (mg mb : Str → Option Value) (A₀ : Around) (base : Heap) (outer : List Env) (g₀ : Heap) (txt : Str) (tt : Tok) (M Mk : Nat) (led₀ : Led) (_ : Nat) (g : Heap) (m : Str → Option Value) (led : Led) : Prop :=
  Gd w mean mg mb A₀ base outer g₀ g ∧ led = led₀ ∧ HoM txt tt M Mk m
def HoI (w : World) (mean : ExcName → Option Value) (mg mb : Str → Option Value) (A₀ : Around) (base : Heap) (outer : List Env) (g₀ : Heap) (txt : Str) (tt : Tok) (M Mk : Nat) (led₀ : Led) (pl : Nat) (_ : Nat) (g : Heap) (m : Str → Option Value) (led : Led) : Prop :=
  Gd w mean mg mb A₀ base outer g₀ g ∧ led = led₀ ∧ HoM txt tt M Mk m ∧ ∃ tp, m (Str.ofString "place") = some (.int (pl : Int) tp)
local macro_rules | `(tactic| walk_at "exec For Name Call cons nil") => `(tactic| (k_here; refine Hold.out ?_))
local macro_rules | `(tactic| walk_at "pyIter ref") => `(tactic| (k_here; refine Hold.out ?_))
local macro_rules | `(tactic| walk_at "call ref") => `(tactic| (k_here; (with_reducible show wpAny _ _ (call (Value.ref 767) _) _ _ _); refine Hold.out ?_))
local macro_rules | `(tactic| walk_at "call ref") => `(tactic| (k_here; (with_reducible show wpAny _ _ (call (Value.ref 760) _) _ _ _); refine Hold.out ?_))
local macro_rules | `(tactic| walk_at "binaryOp Add str str") => `(tactic| (k_here; (refine' PyProof.Rows.add_str ?_ ?ka); (case ka => ((try simp only [len_app]); rw [show sizeLine = 2 ^ 24 from rfl]; omega)); intro _ _))
local macro_rules | `(tactic| walk_at "subscriptTail Name Name ref int") => `(tactic| (k_here; (with_reducible show wpAny _ _ (subscriptTail _ _ (Value.ref _) (Value.int _ _)) _ _ _); first
  | (k_dflt (refine' item_strs ?kN ?kM ?kI ?k0 ?k1 ?k2 ?_; (case kN => k_asm); (case kM => (repeat (first | exact List.mem_cons_self | assumption | apply List.mem_cons_of_mem))); (case kI => assumption); (case k0 => omega); (case k1 => ((show _ < (3 : Int)); omega)); (case k2 => omega)); intro t8; (try rw [Int.toNat_natCast]))
  | (k_dflt (refine' item_mem ?kN ?kM ?kI ?k0 ?k1 ?k2 ?_; (case kN => k_asm); (case kM => (repeat (first | exact List.mem_cons_self | assumption | apply List.mem_cons_of_mem))); (case kI => assumption); (case k0 => omega); (case k1 => omega); (case k2 => omega)); intro t8; (try rw [Int.toNat_natCast]))))
local macro_rules | `(tactic| walk_at "compareOp NotEq ref ref") => `(tactic| (k_here; k_dflt (refine' ne_strs ?kN ?ka ?kb ?ki ?kj ?k1 ?k2 ?ku ?_; (case kN => k_asm); (case ka => (repeat (first | exact List.mem_cons_self | assumption | apply List.mem_cons_of_mem))); (case kb => (repeat (first | exact List.mem_cons_self | assumption | apply List.mem_cons_of_mem))); (case ki => assumption); (case kj => assumption); (case k1 => assumption); (case k2 => assumption); (case ku => ktr_units)); (simp only [decide_true, Bool.not_true])))
theorem holds_ (w : World) (mean mg mb) (txt : Str) (tt : Tok) (M nM : Nat) (itm : Array Value) (mv : List Int) (news : Led) (hb : txt.length < 2 ^ 19) (hM : (M, listOf itm nM) ∈ news) (hi : IntsAre itm.toList mv) (hmv : Mv mv) (hlaw : HoldsOk txt mv) :
    CtrS w mean mg mb 774 [.str txt tt, .ref M] news 24 240 (fun v news' => v = .bool true ∧ ∀ p ∈ news, p ∈ news') (fun _ _ _ => False) := by
  have hpr := prog_here
  revert hpr
  unfold CtrS
  k_fill
  intro _ dp un gd cn cs a ccd cl outer A₀ base g₀ h₀ L m s Q E B F X N T XB TB D T0 hk hdp hun ret exc
  have XS := X.keeps F.keep
  refine wpAny_call ?_
  walk_at "my enterT"
  k_steps
  refine Hold.mk ?_
  refine wpAny_For ?_
  k_steps
  refine Hold.mk ?_
  rename Fr _ _ _ _ => F1
  rename News _ _ _ _ => N1
  rename IsRange _ _ _ _ _ _ _ _ => R1
  rename Below _ _ _ _ => B1
  rename KtsDicts _ _ => D1
  rename (∀ (p : Addr × Obj), p ∈ news → p.fst < _) => o1
  refine withD o1 fun Mk hDe => ?_
  subst hDe
  refine gen_led N1 fun itsK hks N1 => ?_
  have hml : (mv.length : Int) = 3 := by rw [hmv.1]; rfl
  refine for_range (HoJ w mean mg mb _ base _ _ txt tt M Mk (_ :: news)) rfl R1 (by decide) (n := 3) (by decide) rfl rfl F1 N1 ⟨⟨KtsTurn.refl, B1, by assumption, by assumption, D1⟩, rfl, rfl, rfl, rfl⟩ ?_ ?_
  · rintro I i u g m₁ led o h tk hi3 ⟨⟨Tg, Bg, Xg, Pg, Dg⟩, rfl, hm⟩ hoff F₂ N₂
    clear F1 N1 R1
    rw [hom_eq hm] at F₂
    clear hm
    generalize m₁ = m₂ at F₂
    k_steps
    refine Hold.mk ?_
    refine wpAny_For ?_
    k_steps
    refine Hold.mk ?_
    rename Fr _ _ _ _ => F1
    rename News _ _ _ _ => N1
    rename IsRange _ _ _ _ _ _ _ _ => R1
    refine for_range (HoI w mean mg mb _ base _ _ txt tt M Mk (_ :: _ :: news) i) rfl R1 (by decide) (n := 3) (by decide) rfl rfl F1 N1 ⟨⟨Tg, Bg, Xg, Pg, Dg⟩, rfl, ⟨rfl, rfl, rfl⟩, _, rfl⟩ ?_ ?_
    · clear F1 N1 R1 Tg Bg Xg Pg Dg
      rintro I2 e u2 g m₁ led o2 h tk he3 ⟨⟨Tg, Bg, Xg, Pg, Dg⟩, rfl, hm, tp, hpl⟩ hoff2 F₂ N₂
      have em : m₁ = fun y => if y = Str.ofString "place" then some (.int (i : Int) tp) else m₁ y := by
        funext y
        split
        · subst_vars; exact hpl
        · rfl
      rw [em, hom_eq hm] at F₂
      clear em hm hpl
      generalize m₁ = m₂ at F₂
      have h1 := mk_len i
      have h2 := mk_len e
      have hwl : (MK.getD i (Str.ofString "") ++ txt ++ MK.getD e (Str.ofString "")).length < 2 ^ 20 := by rw [len_app, len_app]; omega
      obtain ⟨hok, hl⟩ := hlaw i e hi3 he3
      unfold wholeF at hok hl
      k_steps
      · rw [if_pos (by assumption)] at hl
        refine Hold.mk ?_
        k_dflt (refine' ctr_use (words_ _ _ _ _ _ _ _ ?hb) ?k1 ?k2 ?k3 ?k4 ?k5 ?kK ?kd ?ku ?_; (case k1 => k_asm); (case k2 => k_asm); (case k3 => k_asm); (case k4 => k_asm); (case k5 => k_asm); (case kK => first | exact rfl | assumption); (case hb => assumption); (case kd => ktr_room); (case ku => ktr_units))
        rintro v9 h9 tk9 n9 F9 N9 ⟨D1, its1, n1, rfl, hits1, hm1, hs1, ho1⟩
        replace N9 := news_cons N9 hm1 hs1
        clear hm1 hs1
        k_steps
        refine Hold.mk ?_
        k_dflt (refine' ctrS_use (told_ _ _ _ _ _ _ _ ?hb) ?k1 ?k2 ?k3 ?k4 ?k5 ?XB ?TB ?kD ?T0 ?kK ?kd ?ku ?_ ?_; (case k1 => k_asm); (case k2 => k_asm); (case k3 => k_asm); (case k4 => k_asm); (case k5 => k_asm); (case XB => assumption); (case TB => assumption); (case kD => assumption); (case T0 => assumption); (case kK => first | exact rfl | assumption); (case hb => assumption); (case kd => ktr_room); (case ku => ktr_units))
        · rintro v8 g8 h8 tk8 n8 T8 F8 N8 B8 X8 P8 D8 (⟨D2, its2, ws, c2, rfl, hw, hs2, hm2, hsub, _⟩ | ⟨msg, t, rfl, hw, hsub⟩)
          · obtain rfl : ws = _ := by
              have := hw.symm.trans hl
              injection this
            replace N8 := news_cons N8 hm2 hsub
            clear hm2 hsub
            k_steps
            exact ⟨g8, _, _, _, _, _, rfl, (by k_asm), (by k_asm), .tail _ (.tail _ (.head _)), fun p hp => .tail _ (.tail _ (.tail _ hp)), hoff2, fun b hb q => absurd (List.mem_singleton.mp hb) q, ⟨T8, B8, X8, P8, D8⟩, rfl, ⟨rfl, rfl, rfl⟩, _, rfl⟩
          · exact absurd (hw.symm.trans hl) (by nofun)
        · intro e9 t9 c9 v9 h9 tk9 n9 g9 R9 F9 U9 P9
          exact P9.elim
      · rw [if_neg (by assumption)] at hl
        refine Hold.mk ?_
        k_dflt (refine' ctrS_use (told_ _ _ _ _ _ _ _ ?hb) ?k1 ?k2 ?k3 ?k4 ?k5 ?XB ?TB ?kD ?T0 ?kK ?kd ?ku ?_ ?_; (case k1 => k_asm); (case k2 => k_asm); (case k3 => k_asm); (case k4 => k_asm); (case k5 => k_asm); (case XB => assumption); (case TB => assumption); (case kD => assumption); (case T0 => assumption); (case kK => first | exact rfl | assumption); (case hb => assumption); (case kd => ktr_room); (case ku => ktr_units))
        · rintro v8 g8 h8 tk8 n8 T8 F8 N8 B8 X8 P8 D8 (⟨D2, its2, ws, c2, rfl, hw, hs2, hm2, hsub, _⟩ | ⟨msg, t, rfl, hw, hsub⟩)
          · exact absurd (hw.symm.trans hl) (by nofun)
          · obtain rfl : msg = _ := by
              have := hw.symm.trans hl
              injection this
            replace N8 := News.drop9 N8 hsub
            clear hsub
            k_steps
            exact ⟨g8, _, _, _, _, _, rfl, (by k_asm), (by k_asm), .head _, fun p hp => .tail _ hp, hoff2, fun b hb q => absurd (List.mem_singleton.mp hb) q, ⟨T8, B8, X8, P8, D8⟩, rfl, ⟨rfl, rfl, rfl⟩, _, rfl⟩
        · intro e9 t9 c9 v9 h9 tk9 n9 g9 R9 F9 U9 P9
          exact P9.elim
    · rintro g m₁ led h tk ⟨Gg, rfl, hm, tp, hpl⟩ F₂ N₂
      clear F1 N1 R1 Tg Bg Xg Pg Dg
      dsimp only
      k_steps
      exact ⟨g, m₁, _, _, h, tk, rfl, F₂, N₂, .head _, fun p hp => .tail _ hp, hoff, fun b hb q => absurd (List.mem_singleton.mp hb) q, Gg, rfl, hm⟩
  · rintro g m₁ led h tk ⟨⟨Tg, Bg, Xg, Pg, Dg⟩, rfl, hm⟩ F₂ N₂
    clear F1 N1 R1
    dsimp only
    k_steps
    exact ⟨g, _, _, _, Tg, F₂, N₂, fun h₀' kT kF kN kB kX kP kD => ret _ h₀' _ _ _ kT kF kN kB kX kP kD ⟨rfl, fun p hp => .tail _ hp⟩⟩
end Mine
namespace Mine
theorem cut {M : Model} {A : Around} {E : Value → Shared → Prop} {env : Env} {stmt : Stmt} {rest : List Stmt} {Q : Flow → Shared → Prop} {s : Shared} (Mid : Shared → Prop)
    (h1 : wpAny M A (exec stmt env) (fun f s' => f = .next ∧ Mid s') E s) (h2 : ∀ s', Mid s' → wpAny M A (execs rest env) Q E s') : wpAny M A (execs (stmt :: rest) env) Q E s :=
  wpAny_execs_cons (wpAny_mono h1 (fun f s' p => by obtain ⟨rfl, hm⟩ := p; exact h2 s' hm) fun _ _ e => e)
/-- the law's frame behind a statement -/
def Be (h₀ : Heap) (L : Addr) (s : Shared) (P : (Str → Option Value) → Led → Prop) (s' : Shared) : Prop := ∃ h' tk' m' led, s' = { s with heap := h', toks := tk' } ∧ Fr h₀ L h' m' ∧ News h₀ L h' led ∧ P m' led
abbrev cellsL (L : Nat) (oM oF oT oS : Obj) : Led := [(L + 1 + 1 + 1 + 1, oM), (L + 1 + 1 + 1, oF), (L + 1 + 1, oT), (L + 1, oS)]
def drawnF (ns : List Int) : List Int := if ns = [] then [456, 26, 65] else ns.take 6
def offC (L D : Nat) : Prop := D ≠ L + 1 + 1 + 1 + 1 ∧ D ≠ L + 1 + 1 + 1 ∧ D ≠ L + 1 + 1 ∧ D ≠ L + 1
def numsF (ns : List Int) : List Int := (drawnF ns).map (Int.fmod · 569376768)
def P1 (L : Nat) (ns : List Int) (m : Str → Option Value) (led : Led) : Prop :=
  ∃ (D : Nat) (its : Array Value) (n : Nat) (oM oF oT oS : Obj), m (Str.ofString "drawn") = some (.ref D) ∧ IntsAre its.toList (drawnF ns) ∧ led = (D, listOf its n) :: cellsL L oM oF oT oS ∧ offC L D ∧ oM.data = .cell none ∧ oF.data = .cell none ∧ oT.data = .cell none ∧ oS.data = .cell none
def P2 (L : Nat) (ns : List Int) (m : Str → Option Value) (led : Led) : Prop :=
  ∃ (D : Nat) (its : Array Value) (n : Nat) (oM oF oT oS : Obj), m (Str.ofString "numbers") = some (.ref D) ∧ IntsAre its.toList (numsF ns) ∧ led = (D, listOf its n) :: cellsL L oM oF oT oS ∧ offC L D ∧ oM.data = .cell none ∧ oF.data = .cell none ∧ oT.data = .cell none ∧ oS.data = .cell none
theorem be_intro {h₀ : Heap} {L : Addr} {s : Shared} {P : (Str → Option Value) → Led → Prop} {h' : Heap} {tk' : Nat} {m' : Str → Option Value} {led : Led} (nx : Led) (F : Fr h₀ L h' m') (N : News h₀ L h' nx) (hs : ∀ p ∈ led, p ∈ nx) (hP : P m' led) : Be h₀ L s P { s with heap := h', toks := tk' } :=
  ⟨h', tk', m', led, rfl, F, fun p hp => N p (hs p hp), hP⟩
theorem drawn_nil {ns : List Int} (h : decide (ns = []) = true) : drawnF ns = [456, 26, 65] := if_pos (of_decide_eq_true h)
theorem drawn_cons {ns : List Int} (h : decide (ns = []) = false) : drawnF ns = ns.take 6 := if_neg (of_decide_eq_false h)
theorem drawn_len (ns : List Int) : (drawnF ns).length ≤ 6 := by
  unfold drawnF
  split
  · decide
  · rw [List.length_take]; omega
theorem sub1 {a b : Addr × Obj} {l : Led} : ∀ p ∈ a :: l, p ∈ a :: b :: l := fun p hp => by
  rcases List.mem_cons.mp hp with rfl | hp
  · exact .head _
  · exact .tail _ (.tail _ hp)
theorem one_m {m : Str → Option Value} {x : Str} {v : Value} (h : m x = some v) : m = fun y => if y = x then some v else m y := by
  funext y
  split
  · subst_vars; exact h
  · rfl
theorem ints_size {vs : Array Value} {ns : List Int} (h : IntsAre vs.toList ns) : vs.size = ns.length := by
  have := h.length
  rw [Array.length_toList] at this
  exact this
theorem size6 {n : Nat} (h : n ≤ 200) : n ≤ sizeLine := by rw [show sizeLine = 2 ^ 24 from rfl]; omega
theorem nums_len (ns : List Int) : (numsF ns).length ≤ 6 := by rw [numsF, List.length_map]; exact drawn_len ns
theorem fmod_rng {y k : Int} (hk : 0 < k) : 0 ≤ y.fmod k ∧ y.fmod k < k := by
  rw [Int.fmod_eq_emod_of_nonneg _ (Int.le_of_lt hk)]
  exact ⟨Int.emod_nonneg _ (Int.ne_of_gt hk), Int.emod_lt_of_pos _ hk⟩
theorem code_rng {x : Int} (h : 0 ≤ x ∧ x < 569376768) : 0 ≤ x.fdiv 512 ∧ x.fdiv 512 < 1112064 := by
  rw [Int.fdiv_eq_ediv_of_nonneg _ (by decide)]
  omega
theorem nums_lt {ns : List Int} {x : Int} (h : x ∈ numsF ns) : 0 ≤ x ∧ x < 569376768 := by
  obtain ⟨y, _, rfl⟩ := List.mem_map.mp h
  exact fmod_rng (by decide)
def catF (ws : List Str) : Str := Txt.join (Str.ofString "") ws
def s1F (x : Int) : Str := signF (x.fmod 8) (x.fdiv 512)
def s2F (x : Int) : Str := signF ((x.fdiv 8).fmod 8) (x.fdiv 512)
def s3F (x : Int) : Str := signF ((x.fdiv 64 + 1).fmod 8) (x.fdiv 512)
def fstF (ns : List Int) : Str := catF ((numsF ns).map s1F)
def sndF (ns : List Int) : Str := catF (((numsF ns).take 3).map s2F)
def trdF (ns : List Int) : Str := catF (((numsF ns).take 3).map s3F)
def P3 (L : Nat) (ns : List Int) (m : Str → Option Value) (led : Led) : Prop :=
  ∃ (D : Nat) (its : Array Value) (n : Nat) (oM oF oT oS : Obj) (t1 : Tok), m (Str.ofString "numbers") = some (.ref D) ∧ m (Str.ofString "first") = some (.str (fstF ns) t1) ∧ IntsAre its.toList (numsF ns) ∧ led = (D, listOf its n) :: cellsL L oM oF oT oS ∧ offC L D ∧ oM.data = .cell none ∧ oF.data = .cell none ∧ oT.data = .cell none ∧ oS.data = .cell none
theorem sign_len (k c : Int) : (signF k c).length ≤ 1 := by
  unfold signF
  dsimp only
  repeat' split
  all_goals first | exact Nat.le_refl _ | exact Nat.le_of_lt (by decide +kernel)
theorem strs_snoc1 {x : Str} {t : Tok} {vs : List Value} {ys : List Str} (h : StrsAre vs ys) : StrsAre (vs ++ [.str x t]) (ys ++ [x]) := strs_snoc0 h
/-- join of a comprehension's list of short texts -/
theorem join_C {w : World} {A : Around} {E : Value → Shared → Prop} {s : Shared} {h₀ : Heap} {L : Addr} {Q : Value → Shared → Prop} {t : Tok} {news : Led} {D : Addr} {ys : List Value} {ws : List Str} (N : News h₀ L s.heap ((D, LCg.lst ys) :: news)) (hi : StrsAre ys ws) (hw : ws.length ≤ 200) (hl : ∀ x ∈ ws, x.length ≤ 200)
    (h : ∀ t k, Q (.str (catF ws) t) { s with toks := k }) : wpAny (model PG w) A (call (.builtin "str.join") [.str (Str.ofString "") t, .ref D]) Q E s := by
  refine join_list (News.isList N (.head _)) hi ?_ h
  have : ∀ ws : List Str, (∀ x ∈ ws, x.length ≤ 200) → (ws.map (·.length)).sum ≤ ws.length * 200 := by
    intro ws
    induction ws with
    | nil => intro _; exact Nat.le_refl _
    | cons x r ih =>
      intro hx
      have h1 := hx x (.head _)
      have h2 := ih fun y hy => hx y (.tail _ hy)
      simp only [List.map_cons, List.sum_cons, List.length_cons]
      omega
  have h1 := this ws hl
  rw [len_none]
  omega
theorem two_m {m : Str → Option Value} {x y : Str} {v u : Value} (h : m x = some v) (h' : m y = some u) : m = fun z => if z = x then some v else if z = y then some u else m z := by
  funext z
  split
  · subst_vars; exact h
  · split
    · subst_vars; exact h'
    · rfl
theorem map_len {f : Int → Str} (hf : ∀ x, (f x).length ≤ 1) {l : List Int} : ∀ y ∈ l.map f, y.length ≤ 200 := fun y hy => by
  obtain ⟨x, _, rfl⟩ := List.mem_map.mp hy
  have := hf x
  omega
def fthF (ns : List Int) : Str := catF ((fstF ns).cps.toList.map fun c => if c = 39 then sndF ns else if c = 34 then trdF ns else sg c)
def P4 (L : Nat) (ns : List Int) (m : Str → Option Value) (led : Led) : Prop :=
  ∃ (D : Nat) (its : Array Value) (n : Nat) (oM oF oT oS : Obj) (t1 t2 : Tok), m (Str.ofString "numbers") = some (.ref D) ∧ m (Str.ofString "first") = some (.str (fstF ns) t1) ∧ IntsAre its.toList (numsF ns) ∧ led = (D, listOf its n) :: cellsL L oM oF oT oS ∧ offC L D ∧ oM.data = .cell none ∧ oF.data = .cell none ∧ oT.data = .cell none ∧ oS.data = .cell (some (.str (sndF ns) t2))
def P5 (L : Nat) (ns : List Int) (m : Str → Option Value) (led : Led) : Prop :=
  ∃ (oM oF oT oS : Obj) (t1 t2 t3 : Tok), m (Str.ofString "first") = some (.str (fstF ns) t1) ∧ led = cellsL L oM oF oT oS ∧ oM.data = .cell none ∧ oF.data = .cell none ∧ oT.data = .cell (some (.str (trdF ns) t3)) ∧ oS.data = .cell (some (.str (sndF ns) t2))
def P6 (L : Nat) (ns : List Int) (m : Str → Option Value) (led : Led) : Prop :=
  ∃ (oM oF oT oS : Obj) (t1 t2 t3 t4 : Tok), m (Str.ofString "first") = some (.str (fstF ns) t1) ∧ led = cellsL L oM oF oT oS ∧ oM.data = .cell none ∧ oF.data = .cell (some (.str (fthF ns) t4)) ∧ oT.data = .cell (some (.str (trdF ns) t3)) ∧ oS.data = .cell (some (.str (sndF ns) t2))
theorem cat_cps : ∀ ws : List Str, (catF ws).cps.toList = (ws.map fun x => x.cps.toList).flatten := by
  have hj : ∀ ws : List Str, (Str.join (Str.ofString "") ws).cps.toList = (ws.map fun x => x.cps.toList).flatten := by
    intro ws
    induction ws with
    | nil => rfl
    | cons x r ih =>
      cases r with
      | nil => show x.cps.toList = _; simp
      | cons y t =>
        show (x ++ Str.ofString "" ++ Str.join (Str.ofString "") (y :: t)).cps.toList = _
        rw [app_none, Str.cps_append, Array.toList_append, ih]
        rfl
  intro ws
  show (Txt.join _ _).cps.toList = _
  unfold Txt.join
  rw [StrLaws.glued_eq_join]
  exact hj ws
theorem len_cps (x : Str) : x.length = x.cps.toList.length := by simp [Str.length]
theorem cat_len {ws : List Str} {k : Nat} (h : ∀ x ∈ ws, x.length ≤ k) : (catF ws).length ≤ ws.length * k := by
  rw [len_cps, cat_cps]
  induction ws with
  | nil => simp
  | cons x r ih =>
    have h1 := h x (.head _)
    rw [len_cps] at h1
    have h2 := ih fun y hy => h y (.tail _ hy)
    simp only [List.map_cons, List.flatten_cons, List.length_append, List.length_cons]
    rw [Nat.add_mul]
    omega
theorem fst_len (ns : List Int) : (fstF ns).length ≤ 6 := by
  have h := cat_len (k := 1) (ws := (numsF ns).map s1F) fun x hx => by
    obtain ⟨y, _, rfl⟩ := List.mem_map.mp hx
    exact sign_len _ _
  have h2 := nums_len ns
  rw [List.length_map] at h
  show (catF _).length ≤ 6
  omega
theorem snd_len (ns : List Int) : (sndF ns).length ≤ 3 := by
  have h := cat_len (k := 1) (ws := ((numsF ns).take 3).map s2F) fun x hx => by
    obtain ⟨y, _, rfl⟩ := List.mem_map.mp hx
    exact sign_len _ _
  rw [List.length_map, List.length_take] at h
  show (catF _).length ≤ 3
  omega
theorem trd_len (ns : List Int) : (trdF ns).length ≤ 3 := by
  have h := cat_len (k := 1) (ws := ((numsF ns).take 3).map s3F) fun x hx => by
    obtain ⟨y, _, rfl⟩ := List.mem_map.mp hx
    exact sign_len _ _
  rw [List.length_map, List.length_take] at h
  show (catF _).length ≤ 3
  omega
theorem put_len (ns : List Int) (c : Nat) : (if c = 39 then sndF ns else if c = 34 then trdF ns else sg c).length ≤ 3 := by
  have h1 := snd_len ns
  have h2 := trd_len ns
  split
  · exact h1
  · split
    · exact h2
    · exact (by decide : 1 ≤ 3)
theorem fth_len (ns : List Int) : (fthF ns).length ≤ 18 := by
  have h := cat_len (k := 3) (ws := (fstF ns).cps.toList.map fun c => if c = 39 then sndF ns else if c = 34 then trdF ns else sg c) fun x hx => by
    obtain ⟨y, _, rfl⟩ := List.mem_map.mp hx
    exact put_len ns y
  have h2 := fst_len ns
  rw [len_cps] at h2
  rw [List.length_map] at h
  show (catF _).length ≤ 18
  omega
theorem put1 {a b : Str} {c : Nat} {t : Tok} {ys : List Value} {l : List Str} (h : (c == 39) = true) (hy : StrsAre ys l) : StrsAre (ys ++ [.str a t]) (l ++ [if c = 39 then a else if c = 34 then b else sg c]) := by
  rw [if_pos (by simpa using h)]; exact strs_snoc1 hy
theorem put2 {a b : Str} {c : Nat} {t : Tok} {ys : List Value} {l : List Str} (h : (c == 39) = false) (h' : (c == 34) = true) (hy : StrsAre ys l) : StrsAre (ys ++ [.str b t]) (l ++ [if c = 39 then a else if c = 34 then b else sg c]) := by
  rw [if_neg (by simpa using h), if_pos (by simpa using h')]; exact strs_snoc1 hy
theorem put3 {a b : Str} {c : Nat} {t : Tok} {ys : List Value} {l : List Str} (h : (c == 39) = false) (h' : (c == 34) = false) (hy : StrsAre ys l) : StrsAre (ys ++ [.str (sg c) t]) (l ++ [if c = 39 then a else if c = 34 then b else sg c]) := by
  rw [if_neg (by simpa using h), if_neg (by simpa using h')]; exact strs_snoc1 hy
def repPs (ns : List Int) : List (Str × Str) := [(Str.ofString "'", Str.ofString "0"), (Str.ofString "\"", Str.ofString "1"), (Str.ofString "0", sndF ns), (Str.ofString "1", trdF ns)]
theorem ne_self {prog : Program} {w : World} {A : Around} {E : Value → Shared → Prop} {s : Shared} {x : Str} {t u : Tok} {Q : Value → Shared → Prop} (h : Q (.bool false) s) : wpAny (model prog w) A (compareOp .NotEq (.str x t) (.str x u)) Q E s := by
  refine ne_str ?_
  rw [show (x != x) = false by simp]
  exact h
def mv1F (ns : List Int) : List Int := mvF [1, 0, 2] [2, 1, 0] (sndF ns).cps.toList
def mv2F (ns : List Int) : List Int := mvF [1, 0, 2] [2, 1, 0] (trdF ns).cps.toList
def mvFF (ns : List Int) : List Int := mvF (mv1F ns) (mv2F ns) (fstF ns).cps.toList
theorem mv102 : Mv [1, 0, 2] := ⟨rfl, by decide⟩
theorem mv210 : Mv [2, 1, 0] := ⟨rfl, by decide⟩
theorem mv1_Mv (ns : List Int) : Mv (mv1F ns) := mvFold_Mv mv102 mv210 _ _ mv012
theorem mv2_Mv (ns : List Int) : Mv (mv2F ns) := mvFold_Mv mv102 mv210 _ _ mv012
theorem mv_Mv (ns : List Int) : Mv (mvFF ns) := mvFold_Mv (mv1_Mv ns) (mv2_Mv ns) _ _ mv012
def P8 (L : Nat) (ns : List Int) (m : Str → Option Value) (led : Led) : Prop :=
  ∃ (oM oF oT oS : Obj) (t1 t2 t3 t4 : Tok) (Dm D1 D2 : Nat) (i1 i2 : Array Value) (n0 n1 n2 : Nat), m (Str.ofString "first") = some (.str (fstF ns) t1) ∧ m (Str.ofString "moves") = some (.ref Dm) ∧
    led = (Dm, listOf #[.ref D1, .ref D2] n0) :: (D1, listOf i1 n1) :: (D2, listOf i2 n2) :: cellsL L oM oF oT oS ∧ offC L Dm ∧ offC L D1 ∧ offC L D2 ∧ IntsAre i1.toList (mv1F ns) ∧ IntsAre i2.toList (mv2F ns) ∧
    oM.data = .cell none ∧ oF.data = .cell (some (.str (fthF ns) t4)) ∧ oT.data = .cell (some (.str (trdF ns) t3)) ∧ oS.data = .cell (some (.str (sndF ns) t2))
/-- the moves that are made so far -/
def MvI (ns : List Int) (led₀ : Led) (i : Nat) (ys : List Value) (nw : Led) : Prop :=
  (i = 0 ∧ ys = [] ∧ nw = led₀) ∨ (i = 1 ∧ ∃ (D1 n1 : Nat) (i1 : Array Value), ys = [.ref D1] ∧ nw = (D1, listOf i1 n1) :: led₀ ∧ IntsAre i1.toList (mv1F ns) ∧ (∀ p ∈ led₀, p.1 ≠ D1)) ∨
  (i = 2 ∧ ∃ (D1 n1 : Nat) (i1 : Array Value) (D2 n2 : Nat) (i2 : Array Value), ys = [.ref D1, .ref D2] ∧ nw = (D2, listOf i2 n2) :: (D1, listOf i1 n1) :: led₀ ∧ IntsAre i1.toList (mv1F ns) ∧ IntsAre i2.toList (mv2F ns) ∧ (∀ p ∈ led₀, p.1 ≠ D1) ∧ ∀ p ∈ led₀, p.1 ≠ D2)
theorem off3_cons {I C D X : Addr} {o : Obj} {l : Led} (h : LCg.Off3 I C D l) (h1 : X ≠ I) (h2 : X ≠ C) (h3 : X ≠ D) : LCg.Off3 I C D ((X, o) :: l) := ⟨⟨h1, h2, h3⟩, h⟩
theorem move_i {w : World} {mean mg mb} {txt : Str} {tt : Tok} {S1 S2 : Nat} {l1 l2 : List Int} {it1 it2 : Array Value} {n1 n2 : Nat} {news : Led} (hb : txt.length < 2 ^ 20) (hS1 : (S1, listOf it1 n1) ∈ news) (hS2 : (S2, listOf it2 n2) ∈ news)
    (hi1 : IntsAre it1.toList l1) (hi2 : IntsAre it2.toList l2) (hm1 : Mv l1) (hm2 : Mv l2) :
    Ctr w mean mg mb 753 [.str txt tt, .ref S1, .ref S2] news 2 24 (fun v news' => ∃ (D : Nat) (its : Array Value) (n : Nat), v = .ref D ∧ IntsAre its.toList (mvF l1 l2 txt.cps.toList) ∧ (D, listOf its n) ∈ news' ∧ (∀ p ∈ news, p ∈ news') ∧ ∀ p ∈ news, p.1 ≠ D) :=
  move_ w mean mg mb txt tt S1 S2 l1 l2 it1 it2 n1 n2 news hb hS1 hS2 hi1 hi2 hm1 hm2
theorem holds_i {w : World} {mean mg mb} {txt : Str} {tt : Tok} {M nM : Nat} {itm : Array Value} {mv : List Int} {news : Led} (hb : txt.length < 2 ^ 19) (hM : (M, listOf itm nM) ∈ news) (hi : IntsAre itm.toList mv) (hmv : Mv mv) (hlaw : HoldsOk txt mv) :
    CtrS w mean mg mb 774 [.str txt tt, .ref M] news 24 240 (fun v news' => v = .bool true ∧ ∀ p ∈ news, p ∈ news') (fun _ _ _ => False) := holds_ w mean mg mb txt tt M nM itm mv news hb hM hi hmv hlaw
def P9 (L : Nat) (ns : List Int) (m : Str → Option Value) (led : Led) : Prop :=
  ∃ (oM oF oT oS : Obj) (t1 t2 t3 t4 : Tok) (Dm D1 D2 D3 : Nat) (i1 i2 i3 : Array Value) (n0 n1 n2 n3 : Nat), m (Str.ofString "moves") = some (.ref Dm) ∧
    led = (D3, listOf i3 n3) :: (Dm, listOf #[.ref D1, .ref D2] n0) :: (D1, listOf i1 n1) :: (D2, listOf i2 n2) :: cellsL L oM oF oT oS ∧ IntsAre i1.toList (mv1F ns) ∧ IntsAre i2.toList (mv2F ns) ∧ IntsAre i3.toList (mvFF ns) ∧
    oM.data = .cell (some (.ref D3)) ∧ oF.data = .cell (some (.str (fthF ns) t4)) ∧ oT.data = .cell (some (.str (trdF ns) t3)) ∧ oS.data = .cell (some (.str (sndF ns) t2))
/-- what is left to the holds -/
def P10 (L : Nat) (ns : List Int) (led : Led) : Prop :=
  ∃ (oM oF oT oS : Obj) (t4 : Tok) (D3 : Nat) (i3 : Array Value) (n3 : Nat), led = (D3, listOf i3 n3) :: cellsL L oM oF oT oS ∧ IntsAre i3.toList (mvFF ns) ∧ oM.data = .cell (some (.ref D3)) ∧ oF.data = .cell (some (.str (fthF ns) t4))
def revF (x : Str) : Str := catF (x.cps.toList.reverse.map sg)
def P11 (L : Nat) (ns : List Int) (m : Str → Option Value) (led : Led) : Prop := P10 L ns led ∧ ∃ t, m (Str.ofString "turned") = some (.str (revF (fthF ns)) t)
theorem rng_size (n : Nat) : Builtin.Range.rangeSize 0 (n : Int) 1 = (n : Int) := by
  rw [PyProof.Rows.rangeSize_nat, Int.sub_zero, Int.toNat_natCast]
theorem rng_fits {n : Nat} (h : n ≤ 200) : Builtin.Range.rangeFitsLong (n : Int) = true := by
  unfold Builtin.Range.rangeFitsLong
  simp
  omega
theorem rng_small {n : Nat} (h : n ≤ 200) : Builtin.Range.small 0 (n : Int) 1 = true := by
  have h0 : Builtin.Range.rangeFitsLong 0 = true := rng_fits (n := 0) (by decide)
  have h1 : Builtin.Range.rangeFitsLong 1 = true := rng_fits (n := 1) (by decide)
  unfold Builtin.Range.small
  rw [rng_size]
  simp [h0, h1, rng_fits h]
theorem rev_item {x : Str} {j : Nat} (h : j < x.length) : ∃ c, x.cps.toList.reverse[j]? = some c ∧ Txt.item x ((x.length : Int) - 1 - (j : Int)) = sg c := by
  rw [len_cps] at h
  have e : x.cps.toList.reverse[j]? = some x.cps.toList[x.cps.toList.length - 1 - j] := by
    rw [List.getElem?_reverse h]
    exact List.getElem?_eq_getElem (by omega)
  refine ⟨_, e, PyProof.Rows.item_meets (by rw [len_cps]; omega) ?_⟩
  have e2 : ((x.length : Int) - 1 - (j : Int)).toNat = x.cps.toList.length - 1 - j := by rw [len_cps]; omega
  rw [e2, ← Array.getElem?_toList]
  exact List.getElem?_eq_getElem (by omega)
theorem sg_len200 {l : List Nat} : ∀ y ∈ l.map sg, y.length ≤ 200 := fun y hy => by
  obtain ⟨x, _, rfl⟩ := List.mem_map.mp hy
  exact (by decide : 1 ≤ 200)
def invF (mv : List Int) : List Int := [0, 1, 2].map fun p => ((mv.idxOf p : Nat) : Int)
theorem lay3 {mv : List Int} (h : Mv mv) : PyData.layable0 (.list (mv.map .int)) = true := by
  obtain ⟨h1, h2⟩ := h
  match mv, h1 with
  | [a, b, c], _ =>
    have ha := h2 a (by simp)
    have hb := h2 b (by simp)
    have hc := h2 c (by simp)
    have ha' : a = 0 ∨ a = 1 ∨ a = 2 := by omega
    have hb' : b = 0 ∨ b = 1 ∨ b = 2 := by omega
    have hc' : c = 0 ∨ c = 1 ∨ c = 2 := by omega
    rcases ha' with rfl | rfl | rfl <;> rcases hb' with rfl | rfl | rfl <;> rcases hc' with rfl | rfl | rfl <;> decide +kernel
theorem index_C {w : World} {A : Around} {E : Value → Shared → Prop} {s : Shared} {h₀ : Heap} {L : Addr} {led : Led} {l : Addr} {its : Array Value} {n : Nat} {mv : List Int} {k : Int} {t : Tok} {Q : Value → Shared → Prop} (N : News h₀ L s.heap led) (hm : (l, listOf its n) ∈ led) (hi : IntsAre its.toList mv) (hv : Mv mv) (hk : k ∈ mv)
    (h : Q (.int (mv.idxOf k : Nat) s.toks) { s with toks := s.toks + 1 }) : wpAny (model PG w) A (call (.builtin "list.index") [.ref l, .int k t]) Q E s :=
  index_list_ints (vs := its.toList) (News.isList N hm) hi (lay3 hv) hk h
theorem inv_at {mv : List Int} {j : Nat} (h : j < 3) : (invF mv)[j]? = some ((mv.idxOf (j : Int) : Nat) : Int) := by
  match j, h with
  | 0, _ => rfl
  | 1, _ => rfl
  | 2, _ => rfl
theorem inv_Mv {mv : List Int} (h : Mv mv) (hp : ∀ j : Nat, j < 3 → (j : Int) ∈ mv) : Mv (invF mv) := by
  refine ⟨rfl, fun x hx => ?_⟩
  obtain ⟨p, hp', rfl⟩ := List.mem_map.mp hx
  have hm : p ∈ mv := by
    simp only [List.mem_cons, List.not_mem_nil, or_false] at hp'
    rcases hp' with rfl | rfl | rfl
    · exact hp 0 (by decide)
    · exact hp 1 (by decide)
    · exact hp 2 (by decide)
  have := List.idxOf_lt_length_iff.mpr hm
  rw [h.1] at this
  omega
theorem rev_len (x : Str) : (revF x).length = x.length := by
  rw [len_cps, revF, cat_cps, List.map_map, len_cps]
  have : ∀ l : List Nat, (l.map ((fun x : Str => x.cps.toList) ∘ sg)).flatten = l := by
    intro l
    induction l with
    | nil => rfl
    | cons a r ih => simp only [List.map_cons, List.flatten_cons, ih]; rfl
  rw [this, List.length_reverse]
def rep6 (x : Str) : Str := Txt.mul x 6
def arF (x : Str) (k : Nat) : Str := MK.getD k (Str.ofString "") ++ rep6 x ++ MK.getD k (Str.ofString "")
def P13 (L : Nat) (ns : List Int) (wh : Nat → Str) (m : Str → Option Value) (led : Led) : Prop :=
  ∃ (oM oF oT oS : Obj) (Da : Nat) (ia : Array Value) (na : Nat), m (Str.ofString "around") = some (.ref Da) ∧ led = (Da, listOf ia na) :: cellsL L oM oF oT oS ∧ StrsAre ia.toList [wh 0, wh 1, wh 2]
/-- a list of lists of texts, made so far -/
def RefI (W : Nat → List Str) (led₀ : Led) (i : Nat) (ys : List Value) (nw : Led) : Prop :=
  (∀ p ∈ led₀, p ∈ nw) ∧ ys.length = i ∧ ∀ k, k < i → ∃ (D : Nat) (its : Array Value) (n : Nat), ys[k]? = some (.ref D) ∧ (D, listOf its n) ∈ nw ∧ StrsAre its.toList (W k)
theorem RefI.nil {W : Nat → List Str} {led₀ : Led} : RefI W led₀ 0 [] led₀ := ⟨fun _ h => h, rfl, fun _ h => absurd h (Nat.not_lt_zero _)⟩
theorem RefI.snoc {W : Nat → List Str} {led₀ nw : Led} {i : Nat} {ys : List Value} {D n : Nat} {its : Array Value} (h : RefI W led₀ i ys nw) (hs : StrsAre its.toList (W i)) : RefI W led₀ (i + 1) (ys ++ [.ref D]) ((D, listOf its n) :: nw) := by
  obtain ⟨h1, h2, h3⟩ := h
  refine ⟨fun p hp => .tail _ (h1 p hp), by rw [List.length_append, h2]; rfl, fun k hk => ?_⟩
  by_cases e : k < i
  · obtain ⟨D', its', n', e1, e2, e3⟩ := h3 k e
    exact ⟨D', its', n', by rw [List.getElem?_append_left (by omega)]; exact e1, .tail _ e2, e3⟩
  · have : k = i := by omega
    subst this
    refine ⟨D, its, n, ?_, .head _, hs⟩
    rw [List.getElem?_append_right (by omega), h2, Nat.sub_self]
    rfl
def dat3 (W : Nat → List Str) : PyData := .list [.list ((W 0).map .str), .list ((W 1).map .str), .list ((W 2).map .str)]
theorem ref_reads {h₀ : Heap} {L : Addr} {h : Heap} {W : Nat → List Str} {led₀ nw nx : Led} {ys : List Value} {A : Addr} (N : News h₀ L h nx) (hA : (A, LCg.lst ys) ∈ nx) (hs : ∀ p ∈ nw, p ∈ nx) (hR : RefI W led₀ 3 ys nw) : ∃ as, Reads h (.ref A) (dat3 W) as := by
  obtain ⟨_, h2, h3⟩ := hR
  obtain ⟨D0, i0, n0, e0, m0, s0⟩ := h3 0 (by decide)
  obtain ⟨D1, i1, n1, e1, m1, s1⟩ := h3 1 (by decide)
  obtain ⟨D2, i2, n2, e2, m2, s2⟩ := h3 2 (by decide)
  match ys, h2, e0, e1, e2 with
  | [a, b, c], _, e0, e1, e2 =>
    obtain rfl : a = .ref D0 := by simpa using e0
    obtain rfl : b = .ref D1 := by simpa using e1
    obtain rfl : c = .ref D2 := by simpa using e2
    exact ⟨_, reads_list_at (N.get hA) rfl rfl (.cons (reads_newData (News.isList N (hs _ m0)) (carried_strs s0)) (.cons (reads_newData (News.isList N (hs _ m1)) (carried_strs s1)) (.cons (reads_newData (News.isList N (hs _ m2)) (carried_strs s2)) .nil)))⟩
theorem dat3_shaped {W : Nat → List Str} (h : ∀ k, k < 3 → StrsOk (W k)) : SeqAt.shaped (dat3 W) = true := by
  have h0 := cl_strs _ (h 0 (by decide))
  have h1 := cl_strs _ (h 1 (by decide))
  have h2 := cl_strs _ (h 2 (by decide))
  simp [dat3, SeqAt.shaped, PyData.canLay0, PyData.canLayAll0, PyData.depth, PyData.depthAll, h0, h1, h2, dp_strs]
theorem rep6_cps (x : Str) : (rep6 x).cps.toList = (List.replicate 6 x.cps.toList).flatten := by
  unfold rep6 Txt.mul
  rw [if_neg (by decide)]
  by_cases h : x.length = 0
  · have hx : x.cps.toList = [] := List.eq_nil_of_length_eq_zero (by rw [← len_cps]; exact h)
    rw [if_pos (by simp [h]), hx]
    rfl
  · rw [if_neg (by simp [h])]
    show ((List.replicate 6 x.cps).foldl (· ++ ·) #[]).toList = _
    simp [List.replicate]
theorem rep6_len (x : Str) : (rep6 x).length = 6 * x.length := by
  rw [len_cps, rep6_cps, len_cps]
  simp [List.replicate]
  omega
theorem mul6_C {w : World} {A : Around} {E : Value → Shared → Prop} {s : Shared} {x : Str} {t u : Tok} {Q : Value → Shared → Prop} (hx : x.length ≤ 18) (h : ∀ t' k, Q (.str (rep6 x) t') { s with toks := k }) : wpAny (model PG w) A (binaryOp .Mult (.str x t) (.int 6 u)) Q E s := by
  refine SB.mul (mulOk_of 1048576 16 (by omega) (by omega) (by omega) (by decide) (by decide)) ?_
  intro t' k
  exact h t' k
theorem strs_at {vs : Array Value} {xs : List Str} {i : Nat} {v : Value} (h : StrsAre vs.toList xs) (e : vs[i]? = some v) : ∃ y t, xs[i]? = some y ∧ v = .str y t := by
  have hl : i < xs.length := by
    rw [← h.length, Array.length_toList]
    exact (Array.getElem?_eq_some_iff.mp e).1
  obtain ⟨t, ht⟩ := h.get i xs[i] (by simp [hl])
  refine ⟨xs[i], t, by simp [hl], ?_⟩
  have e' : vs.toList[i]? = some v := by simpa using e
  rw [e'] at ht
  exact Option.some.inj ht
theorem mk_at {i : Nat} {y : Str} (h : MK[i]? = some y) : y = MK.getD i (Str.ofString "") ∧ ([0, 1, 2] : List Nat)[i]? = some i := by
  match i, h with
  | 0, h => exact ⟨(Option.some.inj h).symm, rfl⟩
  | 1, h => exact ⟨(Option.some.inj h).symm, rfl⟩
  | 2, h => exact ⟨(Option.some.inj h).symm, rfl⟩
theorem ar_at {wh : Nat → Str} {i : Nat} {y : Str} (h : [wh 0, wh 1, wh 2][i]? = some y) : y = wh i ∧ i < 3 := by
  match i, h with
  | 0, h => exact ⟨(Option.some.inj h).symm, by decide⟩
  | 1, h => exact ⟨(Option.some.inj h).symm, by decide⟩
  | 2, h => exact ⟨(Option.some.inj h).symm, by decide⟩
theorem ar_len {x : Str} {k : Nat} (h : x.length ≤ 18) : (arF x k).length < 2 ^ 20 := by
  have h1 := mk_len k
  have h2 := rep6_len x
  unfold arF
  rw [len_app, len_app]
  omega
end Mine
namespace Mine
section
variable {prog : Program} {w : World} {A : Around} {E : Value → Shared → Prop} {s : Shared} {h₀ : Heap} {L : Addr} {m : Str → Option Value} {env : Env}
/-- a list comprehension over a text -/
theorem ListComp_S {elt iter : Expr} {x : Str} {px : Pos} {scope : Scope} {cl : List (Str × Addr)} {pos : Pos} {Q : Value → Shared → Prop} (_F₀ : Fr h₀ L s.heap m)
    (hclos : closureFor scope env = pure cl) (hcell : ∀ y ∈ scope.names, y.2 ≠ .cell) (hkind : scope.kind = .function)
    (hnames : ∀ y ∈ scope.names, y.2 = .local → scope.names.lookup y.1 = some .local) (hx : scope.names.lookup x = some .local)
    (h : wpAny (model prog w) A (eval iter env) (fun xv s₁ => ∃ txt tt news, xv = .str txt tt ∧ A.handled = none ∧ Fr h₀ L s₁.heap m ∧ News h₀ L s₁.heap news ∧ txt.cps.size ≤ sizeLine ∧
      ∀ s₂ : Shared, (∃ h, s₂ = { s₁ with heap := h }) → LCg.CompRest prog w A h₀ L m env elt x scope cl s₂ (fun _ => True) (SignAt txt) (LCg.FinE h₀ L m s₂ Q) txt.cps.size 0 [] news) E s)
    (hs : ∀ x, foldedSetIterable iter env x = pure x := by intro _; rfl) :
    wpAny (model prog w) A (eval (.ListComp elt [⟨.Name x px, iter, [], 0⟩] scope pos) env) Q E s := by
  rw [eval_ListComp]
  refine wpAny_comprehension_free (use := none) rfl hs hclos hkind hnames (wpAny_mono h (fun xv s₁ h₁ => ?_) fun _ _ e => e)
  obtain ⟨txt, tt, news, rfl, hh, F, N, hsz, R⟩ := h₁
  have go : ∀ (ob : Obj) (ty : String), Walks prog w A s₁.heap.objs.size [s₁.heap.objs.size] [s₁.heap.objs.size] txt.cps.size (SignAt txt) (fun i h => h.IsStrIter s₁.heap.objs.size ty txt tt i) → (s₁.heap.push ob).IsStrIter s₁.heap.objs.size ty txt tt 0 →
      wpAny (model prog w) A (newList []) (fun acc s₃ => wpAny (model prog w) A (newFunctionEnv scope env.globals cl [] env.qual none .none (some env)) (fun cenv s₄ =>
        codeAny (model prog w) A (.compStart (.ListComp elt [⟨.Name x px, iter, [], 0⟩] scope pos) 0 (.ref s₁.heap.objs.size) acc { cenv with scope := relabel scope env }) (compPost (model prog w) A E none Q acc cenv.locals) s₄) E s₃) E { s₁ with heap := s₁.heap.push ob } := by
    intro ob ty W hst
    refine LCg.block_U (s₂ := { s₁ with heap := s₁.heap.push ob }) (h₀ := h₀) (L := L) (m := m) (S := fun _ => True) (news := news) (RR := fun acc C => compPost (model prog w) A E none Q acc C) W hsz (fun i h st => let ⟨o, ho, _⟩ := st; ⟨o, ho⟩)
      (fun i h h' o nw st e e' _ _ _ => by obtain ⟨o', q, r⟩ := st; rw [e] at q; cases q; exact ⟨o, e', r⟩) hcell hkind hx hst (fun b hb => ?_)
      (F.keeps fun _ _ e => Heap.get?_push_of_some _ e) (N.grown fun _ _ e => Heap.get?_push_of_some _ e) (Nat.ne_of_lt F.ns.lt) (next_is_new F) (fun p hp => Nat.ne_of_lt (Heap.lt_size (N p hp).1)) trivial (R _ ⟨_, rfl⟩) ?_
    · rw [List.mem_singleton.mp hb]
      show s₁.heap.objs.size < (s₁.heap.push _).objs.size
      rw [Heap.size_push]; exact Nat.lt_succ_self _
    · intro D C h tk m' ys news' F' N' o1 hn hC₀ hD₀ hCL hDL hCD offC fin
      refine ⟨m', hn, fun h'' hs'' => fin D h'' tk (F'.change hs'' hCL hC₀) (fun p hp => ?_) o1⟩
      refine ⟨hs''.extBut _ _ ?_ (N' p hp).1, (N' p hp).2⟩
      rcases List.mem_cons.mp hp with rfl | hp
      · exact Ne.symm hCD
      · exact offC p hp
  cases ha : txt.cps.all (· < 128)
  · exact wpAny_pyIter_wide ha (go _ _ (Walks.strWide hh _ txt tt) ⟨_, Heap.get?_push_size _ rfl, rfl, rfl⟩)
  · exact wpAny_pyIter_ascii ha (go _ _ (Walks.strAscii hh _ txt tt) ⟨_, Heap.get?_push_size _ rfl, rfl, rfl⟩)
end
theorem slice_3 {prog : Program} {w : World} {A : Around} {E : Value → Shared → Prop} {s : Shared} {h₀ : Heap} {L l : Addr} {m : Str → Option Value} {led : Led} {value slice : Expr} {its : Array Value} {n : Nat} {ns : List Int} {u : Tok} {Q : Value → Shared → Prop}
    (F : Fr h₀ L s.heap m) (N : News h₀ L s.heap led) (hm : (l, listOf its n) ∈ led) (hi : IntsAre its.toList ns) (hz : ns.length ≤ 200)
    (h : ∀ (D : Nat) ws h', Fr h₀ L h' m → News h₀ L h' ((D, listOf (List.toArray ws) 0) :: led) → (∀ p ∈ led, (p.1 : Nat) < D) → IntsAre ws (ns.take 3) → Q (.ref D) { s with heap := h' })
    (hs : subscripted slice false (.ref l) (.ref s.heap.objs.size) = operate [.ref s.heap.objs.size, .ref l] (getItem (.ref l) (.ref s.heap.objs.size))) (ht : ∀ r, letTemporaryGo value (.ref l) r = pure ()) :
    wpAny (model prog w) A (subscriptTail value slice (.ref l) (.ref s.heap.objs.size)) Q E { s with heap := s.heap.push { cls := .type "slice", data := .fields #[.none, .int 3 u, .none] } } := by
  have hsz : its.size = ns.length := by
    have := hi.length
    rw [Array.length_toList] at this
    exact this
  refine kmk_slice (lo := none) (hi := some 3) F N (News.isList N hm) .none (.int _ _) (fun D h' F' N' l1 => ?_) hs ht (by rw [hsz, show sizeLine = 2 ^ 24 from rfl]; omega)
  have h1 := kmk_upto (y := 3) hi (by decide)
  rw [Array.toArray_toList] at h1
  refine h D (slicePick its none (some 3) none).toList h' F' ?_ l1 h1
  rw [Array.toArray_toList]
  exact N'
theorem ctrS_top {w : World} {mean : ExcName → Option Value} {mg mb : Str → Option Value} {f : Addr} {vs : List Value} {news : Led} {D U : Nat} {Post : Value → Led → Prop}
  {dp un : Nat} {gd : Option (List Code)} {cn : Str} {cs : Scope} {a : Addr} {ccd : Value} {cl : List (Str × Addr)} {A₀ : Around} {h₀ : Heap} {L : Addr} {m : Str → Option Value} {s : Shared} {Q E : Value → Shared → Prop}
    (C : CtrS w mean mg mb f vs news D U Post (fun _ _ _ => False)) (B : Below A₀ h₀ [] h₀) (F : Fr h₀ L s.heap m) (X : (hd.heap_39 w.params).In h₀) (N : News h₀ L s.heap news) (T : Top hd.view_39 LS mean mg mb h₀) (hk : cs.kind = .function)
    (hdp : dp + D < recursionLimit) (hun : un + U < cLine) (ret : ∀ v h' tk' news', Fr h₀ L h' m → News h₀ L h' news' → Post v news' → Q v { s with heap := h', toks := tk' }) :
    wpAny (model PG w) (ktrTop dp un gd cn cs L a ccd cl []) (call (.ref f) vs) Q E s := by
  refine ctrS_use (g₀ := h₀) C B F X N T X T ktsDicts_nil KtsTurn.refl hk hdp hun ?_ (fun e t cls vs h' tk' news' g _ _ _ p => p.elim)
  intro v h₀' h' tk' news' T' F' N' B' X' P' D' hp
  have kp : ∀ b o, h₀.get? b = some o → h₀'.get? b = some o := fun b o e => T'.other b o e (by simp [frs])
  exact ret v h' tk' news' ⟨F'.ns, fun b o e => F'.keep b o (kp b o e), by rw [← T'.size]; exact F'.above⟩ (fun p hp => ⟨(N' p hp).1, (N' p hp).2.1, kts_none kp (N' p hp).2.2⟩) hp
end Mine
namespace Mine
/-- where a place goes by a sign: 0 outside, 1 within '..', 2 within ".." -/
def dl (p c : Nat) : Nat := if c = 39 then (if p = 0 then 1 else if p = 1 then 0 else p) else if c = 34 then (if p = 0 then 2 else if p = 2 then 0 else p) else p
def dS (p : Nat) (t : List Nat) : Nat := t.foldl dl p
def plOf : Nat → Option Nat
  | 0 => none
  | 1 => some 39
  | _ => some 34
theorem dl_lt {p : Nat} (c : Nat) (h : p < 3) : dl p c < 3 := by
  unfold dl
  repeat' split
  all_goals omega
theorem dS_lt : ∀ (t : List Nat) {p : Nat}, p < 3 → dS p t < 3
  | [], _, h => h
  | c :: t, _, h => dS_lt t (dl_lt c h)
theorem dS_app (p : Nat) (a b : List Nat) : dS p (a ++ b) = dS (dS p a) b := List.foldl_append
theorem dl_dl {p : Nat} (c : Nat) (h : p < 3) : dl (dl p c) c = p := by
  have : p = 0 ∨ p = 1 ∨ p = 2 := by omega
  unfold dl
  rcases this with rfl | rfl | rfl
  all_goals (by_cases h1 : c = 39 <;> by_cases h2 : c = 34 <;> simp_all)
theorem dS_rev : ∀ (t : List Nat) {p : Nat}, p < 3 → dS (dS p t) t.reverse = p
  | [], _, _ => rfl
  | c :: t, p, h => by
    rw [List.reverse_cons, dS_app]
    show dS (dS (dS (dl p c) t) t.reverse) [c] = p
    rw [dS_rev t (dl_lt c h)]
    exact dl_dl c h
theorem dS_rev' (t : List Nat) {p : Nat} (h : p < 3) : dS (dS p t.reverse) t = p := by
  have := dS_rev t.reverse h
  rwa [List.reverse_reverse] at this
theorem qt_cases {c : Nat} (h : isQt c = true) : c = 39 ∨ c = 34 := qt_of h
theorem ws_not {c : Nat} (h : isWs c = true) : c ≠ 39 ∧ c ≠ 34 := by
  have : c = 32 ∨ c = 9 ∨ c = 13 ∨ c = 10 := by simpa [isWs, or_assoc] using h
  omega
theorem lw_some (ws : List Str) (b : Option Str) (q c : Nat) : lwStep (ws, b, some q) c = if c = q then (ws, b, none) else (ws, some (b.getD (Str.ofString "") ++ sg c), some q) := rfl
theorem lw_none (ws : List Str) (b : Option Str) (c : Nat) : lwStep (ws, b, none) c = if isWs c = true then (match b with | some x => (ws ++ [x], none, none) | none => (ws, none, none))
    else if isQt c = true then (ws, some (b.getD (Str.ofString "")), some c) else (ws, some (b.getD (Str.ofString "") ++ sg c), none) := rfl
theorem lw_pl (ws : List Str) (b : Option Str) {p : Nat} (c : Nat) (h : p < 3) : (lwStep (ws, b, plOf p) c).2.2 = plOf (dl p c) := by
  have hp : p = 0 ∨ p = 1 ∨ p = 2 := by omega
  rcases hp with rfl | rfl | rfl
  · show (lwStep (ws, b, none) c).2.2 = _
    rw [lw_none]
    by_cases hw : isWs c = true
    · have := ws_not hw
      rw [if_pos hw]
      cases b <;> simp [dl, this, plOf]
    · rw [if_neg hw]
      by_cases hq : isQt c = true
      · rw [if_pos hq]
        rcases qt_cases hq with rfl | rfl <;> rfl
      · rw [if_neg hq]
        have : c ≠ 39 ∧ c ≠ 34 := by simpa [isQt] using hq
        simp [dl, this, plOf]
  · show (lwStep (ws, b, some 39) c).2.2 = _
    rw [lw_some]
    by_cases hc : c = 39
    · subst hc; rfl
    · rw [if_neg hc]
      by_cases h2 : c = 34
      · subst h2; rfl
      · simp [dl, hc, h2, plOf]
  · show (lwStep (ws, b, some 34) c).2.2 = _
    rw [lw_some]
    by_cases hc : c = 34
    · subst hc; rfl
    · rw [if_neg hc]
      by_cases h2 : c = 39
      · subst h2; rfl
      · simp [dl, hc, h2, plOf]
theorem lw_place : ∀ (t : List Nat) (s : LwS) (p : Nat), p < 3 → s.2.2 = plOf p → (t.foldl lwStep s).2.2 = plOf (dS p t)
  | [], _, _, _, h => h
  | c :: t, (ws, b, pl), p, hp, h => by
    have h' : pl = plOf p := h
    subst h'
    exact lw_place t (lwStep (ws, b, plOf p) c) (dl p c) (dl_lt c hp) (lw_pl ws b c hp)
theorem lw_one (ws : List Str) (b : Option Str) (pl : Option Nat) (c : Nat) : lwStep (ws, b, pl) c = (ws ++ (lwStep ([], b, pl) c).1, (lwStep ([], b, pl) c).2) := by
  cases pl with
  | some q =>
    rw [lw_some, lw_some]
    split <;> simp
  | none =>
    rw [lw_none, lw_none]
    split
    · cases b <;> simp
    · split <;> simp
theorem lw_pre : ∀ (t : List Nat) (ws : List Str) (b : Option Str) (pl : Option Nat), t.foldl lwStep (ws, b, pl) = (ws ++ (t.foldl lwStep ([], b, pl)).1, (t.foldl lwStep ([], b, pl)).2)
  | [], ws, b, pl => by simp
  | c :: t, ws, b, pl => by
    have h1 := lw_one ws b pl c
    obtain ⟨⟨w', b', pl'⟩, hs⟩ : ∃ x, lwStep ([], b, pl) c = x := ⟨_, rfl⟩
    rw [hs] at h1
    show t.foldl lwStep (lwStep (ws, b, pl) c) = (ws ++ (t.foldl lwStep (lwStep ([], b, pl) c)).1, (t.foldl lwStep (lwStep ([], b, pl) c)).2)
    rw [h1, hs]
    show t.foldl lwStep (ws ++ w', b', pl') = _
    rw [lw_pre t (ws ++ w') b' pl', lw_pre t w' b' pl']
    simp [List.append_assoc]
def contF (n : Nat) : RR → Except Str (List Str)
  | .out tok q fin rest' => if isEnd true q tok = true then .ok [] else (match wordsF true false n (stOf fin) rest' with
      | .ok ws => .ok (tok :: ws)
      | .error e => .error e)
  | .noClose => .error (Str.ofString "No closing quotation")
  | .noEsc => .error (Str.ofString "No escaped character")
theorem cont_out (n : Nat) (tok : Str) (q fin : Bool) (rest' : List Nat) : contF n (.out tok q fin rest') = if isEnd true q tok = true then .ok [] else (match wordsF true false n (stOf fin) rest' with
      | .ok ws => .ok (tok :: ws)
      | .error e => .error e) := rfl
theorem words_cont (n : Nat) (st : SS) (rest : List Nat) : wordsF true false (n + 1) st rest = contF n (rt true false st (Str.ofString "") false rest) := by
  conv => lhs; unfold wordsF
  cases rt true false st (Str.ofString "") false rest <;> rfl
def RF (b : Option Str) (pl : Option Nat) (t : List Nat) : Except Str (List Str) :=
  if (t.foldl lwStep ([], b, pl)).2.2 = none then .ok (lwEnd (t.foldl lwStep ([], b, pl))) else .error (Str.ofString "No closing quotation")
theorem RF_cons {b b' : Option Str} {pl pl' : Option Nat} {c : Nat} {r : List Nat} (h : lwStep ([], b, pl) c = ([], b', pl')) : RF b pl (c :: r) = RF b' pl' r := by
  unfold RF
  rw [List.foldl_cons, h]
theorem none_app (x : Str) : Str.ofString "" ++ x = x := by
  refine Str.ext' (Array.toList_inj.mp ?_)
  rw [Str.cps_append, Array.toList_append, show (Str.ofString "").cps.toList = [] by decide +kernel, List.nil_append]
theorem end_no {q : Bool} {tok : Str} (h : tok.length ≠ 0 ∨ q = true) : isEnd true q tok = false := by
  unfold isEnd
  rcases h with h | h
  · have : tok ≠ Str.ofString "" := fun e => h (by rw [e]; exact len_none)
    simp [this]
  · simp [h]
theorem words_dn (n : Nat) : wordsF true false (n + 1) .dn [] = .ok [] := wordsF_end rt_dn (by decide +kernel)
theorem lwEnd_cons (x : Str) (s : LwS) : lwEnd (x :: s.1, s.2) = x :: lwEnd s := by
  obtain ⟨ws, b, pl⟩ := s
  cases b <;> rfl
theorem main : ∀ (t : List Nat), (∀ c ∈ t, c ≠ 92) → ∀ n, t.length < n →
    contF n (rt true false .sp (Str.ofString "") false t) = RF none none t ∧
    (∀ tok q, (tok.length ≠ 0 ∨ q = true) → contF n (rt true false .wd tok q t) = RF (some tok) none t) ∧
    (∀ d tok q, isQt d = true → contF n (rt true false (.qt d) tok q t) = RF (some tok) (some d) t) := by
  intro t
  induction t with
  | nil =>
    intro _ n hn
    obtain ⟨m, rfl⟩ : ∃ m, n = m + 1 := ⟨n - 1, by have : 0 < n := hn; omega⟩
    refine ⟨?_, fun tok q h => ?_, fun d tok q h => ?_⟩
    · rw [rt_sp_nil]
      rw [cont_out]
      rw [if_pos (show isEnd true false (Str.ofString "") = true by decide +kernel)]
      rfl
    · rw [rt_wd_nil]
      rw [cont_out]
      rw [end_no h, if_neg (by decide)]
      show (match wordsF true false (m + 1) .dn [] with | .ok ws => Except.ok (tok :: ws) | .error e => .error e) = _
      rw [words_dn]
      rfl
    · rw [rt_qt_nil]
      rfl
  | cons c r ih =>
    intro hb n hn
    have hb' : ∀ c ∈ r, c ≠ 92 := fun x hx => hb x (.tail _ hx)
    have h92 : (c == 92) = false := by simpa using hb c (.head _)
    have hcm : (false && c == 35) = false := rfl
    have hn' : r.length + 1 < n := hn
    obtain ⟨i1, i2, i3⟩ := ih hb' n (by omega)
    refine ⟨?_, fun tok q h => ?_, fun d tok q h => ?_⟩
    · by_cases hw : isWs c = true
      · rw [rt_sp_ws hw, i1, RF_cons (b' := none) (pl' := none)]
        show lwStep ([], none, none) c = _
        rw [lw_none]
        rw [if_pos hw]
      · have hw' : isWs c = false := by simpa using hw
        by_cases hq : isQt c = true
        · rw [rt_sp_qt1 hw' hcm rfl h92 hq, i3 c _ _ hq, RF_cons (b' := some (Str.ofString "")) (pl' := some c)]
          show lwStep ([], none, none) c = _
          rw [lw_none]
          rw [if_neg hw, if_pos hq]
          rfl
        · have hq' : isQt c = false := by simpa using hq
          rw [rt_sp_wd hw' hcm (by rw [h92]; rfl) hq', i2 _ _ (.inl (by rw [len_sg]; decide)), RF_cons (b' := some (sg c)) (pl' := none)]
          show lwStep ([], none, none) c = _
          rw [lw_none]
          rw [if_neg hw, if_neg hq]
          show ([], some (Str.ofString "" ++ sg c), none) = _
          rw [none_app]
    · by_cases hw : isWs c = true
      · rw [rt_wd_ws hw]
        rw [cont_out]
        rw [end_no h, if_neg (by decide)]
        obtain ⟨m, rfl⟩ : ∃ m, n = m + 1 := ⟨n - 1, by omega⟩
        show (match wordsF true false (m + 1) .sp r with | .ok ws => Except.ok (tok :: ws) | .error e => .error e) = _
        rw [words_cont, (ih hb' m (by omega)).1]
        have hs : lwStep ([], some tok, none) c = ([tok], none, none) := by
          rw [lw_none]
          rw [if_pos hw]
          rfl
        unfold RF
        rw [List.foldl_cons, hs, lw_pre r [tok] none none]
        by_cases hp : (r.foldl lwStep ([], none, none)).2.2 = none
        · rw [if_pos hp, if_pos hp]
          exact congrArg Except.ok (lwEnd_cons tok _).symm
        · rw [if_neg hp, if_neg hp]
      · have hw' : isWs c = false := by simpa using hw
        by_cases hq : isQt c = true
        · rw [rt_wd_qt hw' hcm rfl hq, i3 c _ _ hq, RF_cons (b' := some tok) (pl' := some c)]
          rw [lw_none]
          rw [if_neg hw, if_pos hq]
          rfl
        · have hq' : isQt c = false := by simpa using hq
          rw [rt_wd_wd1 hw' hcm hq' h92, i2 _ _ (.inl (by rw [len_app, len_sg]; omega)), RF_cons (b' := some (tok ++ sg c)) (pl' := none)]
          rw [lw_none]
          rw [if_neg hw, if_neg hq]
          rfl
    · by_cases hc : c = d
      · rw [rt_qt_end1 (by simpa using hc) rfl, i2 _ _ (.inr rfl), RF_cons (b' := some tok) (pl' := none)]
        rw [lw_some]
        rw [if_pos hc]
      · rw [rt_qt_in (by simpa using hc) (by rw [h92]; rfl), i3 d _ _ h, RF_cons (b' := some (tok ++ sg c)) (pl' := some d)]
        rw [lw_some]
        rw [if_neg hc]
        rfl
theorem words_plain {t : List Nat} (h : ∀ c ∈ t, c ≠ 92) : wordsF true false (t.length + 2) .sp t = if dS 0 t = 0 then .ok (lwF t) else .error (Str.ofString "No closing quotation") := by
  rw [words_cont, (main t h (t.length + 1) (Nat.lt_succ_self _)).1]
  unfold RF
  rw [lw_place t ([], none, none) 0 (by decide) rfl]
  have hlt := dS_lt t (p := 0) (by decide)
  have : dS 0 t = 0 ∨ dS 0 t = 1 ∨ dS 0 t = 2 := by omega
  rcases this with e | e | e
  · rw [e, if_pos (show plOf 0 = none from rfl), if_pos rfl]; rfl
  · rw [e, if_neg (by decide), if_neg (by decide)]
  · rw [e, if_neg (by decide), if_neg (by decide)]
end Mine
namespace Mine
def GoodC (z : Nat) : Prop := z ≠ 92 ∧ z ≠ 48 ∧ z ≠ 49 ∧ z < 1114112
theorem sg_cps (c : Nat) : (sg c).cps.toList = [c] := rfl
theorem none_cps : (Str.ofString "").cps.toList = [] := by decide +kernel
theorem sign_good {k c : Int} (h0 : 0 ≤ c) (h1 : c < 1112064) : ∀ z ∈ (signF k c).cps.toList, GoodC z := by
  intro z hz
  have hz0 : (if c < 55296 then c else c + 2048).toNat < 1114112 := by split <;> omega
  unfold signF at hz
  dsimp only at hz
  generalize (if c < 55296 then c else c + 2048).toNat = z0 at hz hz0
  split at hz
  · split at hz
    · rw [sg_cps, List.mem_singleton] at hz
      subst hz
      exact ⟨by decide, by decide, by decide, by decide⟩
    · rename_i hn
      rw [sg_cps, List.mem_singleton] at hz
      subst hz
      exact ⟨fun e => hn (.inl e), fun e => hn (.inr (.inl e)), fun e => hn (.inr (.inr e)), hz0⟩
  · repeat' split at hz
    all_goals first
      | (rw [sg_cps, List.mem_singleton] at hz; subst hz; exact ⟨by decide, by decide, by decide, by decide⟩)
      | (rw [none_cps] at hz; exact absurd hz (by simp))
theorem cat_mem {ws : List Str} {z : Nat} (h : z ∈ (catF ws).cps.toList) : ∃ x ∈ ws, z ∈ x.cps.toList := by
  rw [cat_cps] at h
  obtain ⟨l, hl, hz⟩ := List.mem_flatten.mp h
  obtain ⟨x, hx, rfl⟩ := List.mem_map.mp hl
  exact ⟨x, hx, hz⟩
theorem fst_good (ns : List Int) : ∀ z ∈ (fstF ns).cps.toList, GoodC z := fun z hz => by
  obtain ⟨x, hx, hz⟩ := cat_mem hz
  obtain ⟨y, hy, rfl⟩ := List.mem_map.mp hx
  have := code_rng (nums_lt hy)
  exact sign_good this.1 this.2 z hz
theorem snd_good (ns : List Int) : ∀ z ∈ (sndF ns).cps.toList, GoodC z := fun z hz => by
  obtain ⟨x, hx, hz⟩ := cat_mem hz
  obtain ⟨y, hy, rfl⟩ := List.mem_map.mp hx
  have := code_rng (nums_lt (List.mem_of_mem_take hy))
  exact sign_good this.1 this.2 z hz
theorem trd_good (ns : List Int) : ∀ z ∈ (trdF ns).cps.toList, GoodC z := fun z hz => by
  obtain ⟨x, hx, hz⟩ := cat_mem hz
  obtain ⟨y, hy, rfl⟩ := List.mem_map.mp hx
  have := code_rng (nums_lt (List.mem_of_mem_take hy))
  exact sign_good this.1 this.2 z hz
def putL (ns : List Int) (c : Nat) : List Nat := if c = 39 then (sndF ns).cps.toList else if c = 34 then (trdF ns).cps.toList else [c]
theorem fth_cps (ns : List Int) : (fthF ns).cps.toList = (fstF ns).cps.toList.flatMap (putL ns) := by
  rw [fthF, cat_cps, List.map_map, List.flatMap_def]
  congr 1
  refine List.map_congr_left fun c _ => ?_
  show (if c = 39 then sndF ns else if c = 34 then trdF ns else sg c).cps.toList = _
  unfold putL
  split
  · rfl
  · split <;> rfl
theorem fth_good (ns : List Int) : ∀ z ∈ (fthF ns).cps.toList, GoodC z := fun z hz => by
  rw [fth_cps] at hz
  obtain ⟨c, hc, hz⟩ := List.mem_flatMap.mp hz
  unfold putL at hz
  split at hz
  · exact snd_good ns z hz
  · split at hz
    · exact trd_good ns z hz
    · rw [List.mem_singleton] at hz
      subst hz
      exact fst_good ns _ hc
theorem rev_cps (x : Str) : (revF x).cps.toList = x.cps.toList.reverse := by
  rw [revF, cat_cps, List.map_map]
  have : ∀ l : List Nat, (l.map ((fun x : Str => x.cps.toList) ∘ sg)).flatten = l := by
    intro l
    induction l with
    | nil => rfl
    | cons a r ih => simp only [List.map_cons, List.flatten_cons, ih]; rfl
  exact this _
/-- the marks as signs -/
def mkL (p : Nat) : List Nat := (MK.getD p (Str.ofString "")).cps.toList
theorem mkL_0 : mkL 0 = [] := by decide +kernel
theorem mkL_1 : mkL 1 = [39] := by decide +kernel
theorem mkL_2 : mkL 2 = [34] := by decide +kernel
theorem dS_mk {p : Nat} (h : p < 3) : dS 0 (mkL p) = p := by
  have : p = 0 ∨ p = 1 ∨ p = 2 := by omega
  rcases this with rfl | rfl | rfl
  · rw [mkL_0]; rfl
  · rw [mkL_1]; rfl
  · rw [mkL_2]; rfl
theorem dS_mk2 {q e : Nat} (hq : q < 3) (he : e < 3) : dS q (mkL e) = 0 ↔ q = e := by
  have h1 : q = 0 ∨ q = 1 ∨ q = 2 := by omega
  have h2 : e = 0 ∨ e = 1 ∨ e = 2 := by omega
  rcases h2 with rfl | rfl | rfl
  · rw [mkL_0]; exact Iff.rfl
  · rw [mkL_1]; rcases h1 with rfl | rfl | rfl <;> decide
  · rw [mkL_2]; rcases h1 with rfl | rfl | rfl <;> decide
theorem mkL_good {e : Nat} (he : e < 3) : ∀ z ∈ mkL e, z ≠ 92 ∧ z < 1114112 := by
  have h2 : e = 0 ∨ e = 1 ∨ e = 2 := by omega
  rcases h2 with rfl | rfl | rfl
  · rw [mkL_0]; decide
  · rw [mkL_1]; decide
  · rw [mkL_2]; decide
theorem ok_app {a b : Str} (h1 : PyData.strOk a = true) (h2 : PyData.strOk b = true) : PyData.strOk (a ++ b) = true := by
  unfold PyData.strOk at *
  rw [Str.cps_append, Array.all_append, h1, h2]
  rfl
theorem ok_none : PyData.strOk (Str.ofString "") = true := by decide +kernel
theorem ok_sg {c : Nat} (h : c < 1114112) : PyData.strOk (sg c) = true := by
  unfold PyData.strOk
  simp [sg]
  omega
theorem ok_getD {b : Option Str} (h : ∀ x, b = some x → PyData.strOk x = true) : PyData.strOk (b.getD (Str.ofString "")) = true := by
  cases b with
  | none => exact ok_none
  | some x => exact h x rfl
theorem lw_ok : ∀ (t : List Nat) (s : LwS), (∀ c ∈ t, c < 1114112) → StrsOk s.1 → (∀ x, s.2.1 = some x → PyData.strOk x = true) → StrsOk (lwEnd (t.foldl lwStep s))
  | [], (ws, b, pl), _, h1, h2 => by
    cases b with
    | none => exact h1
    | some x =>
      intro y hy
      rcases List.mem_append.mp hy with h | h
      · exact h1 y h
      · rw [List.mem_singleton.mp h]; exact h2 x rfl
  | c :: t, (ws, b, pl), hc, h1, h2 => by
    have hc1 := hc c (.head _)
    have hct : ∀ c ∈ t, c < 1114112 := fun x hx => hc x (.tail _ hx)
    show StrsOk (lwEnd (t.foldl lwStep (lwStep (ws, b, pl) c)))
    have hg := ok_getD (b := b) h2
    cases pl with
    | some q =>
      rw [lw_some]
      split
      · exact lw_ok t _ hct h1 h2
      · exact lw_ok t _ hct h1 fun x hx => by
          injection hx with hx
          subst hx
          exact ok_app hg (ok_sg hc1)
    | none =>
      rw [lw_none]
      split
      · cases b with
        | none => exact lw_ok t _ hct h1 (fun x hx => by cases hx)
        | some y =>
          refine lw_ok t _ hct (fun z hz => ?_) (fun x hx => by cases hx)
          rcases List.mem_append.mp hz with h | h
          · exact h1 z h
          · rw [List.mem_singleton.mp h]; exact h2 y rfl
      · split
        · exact lw_ok t _ hct h1 fun x hx => by
            injection hx with hx
            subst hx
            exact hg
        · exact lw_ok t _ hct h1 fun x hx => by
            injection hx with hx
            subst hx
            exact ok_app hg (ok_sg hc1)
theorem lwF_ok {t : List Nat} (h : ∀ c ∈ t, c < 1114112) : StrsOk (lwF t) := lw_ok t ([], none, none) h (fun _ h => nomatch h) fun _ h => nomatch h
theorem whole_cps (x : Str) (p e : Nat) : (wholeF x p e).cps.toList = mkL p ++ x.cps.toList ++ mkL e := by
  unfold wholeF mkL
  rw [Str.cps_append, Array.toList_append, Str.cps_append, Array.toList_append]
theorem good_whole {t : List Nat} {p e : Nat} (hp : p < 3) (he : e < 3) (ht : ∀ z ∈ t, GoodC z) : ∀ z ∈ mkL p ++ t ++ mkL e, z ≠ 92 ∧ z < 1114112 := fun z hz => by
  rcases List.mem_append.mp hz with h | h
  · rcases List.mem_append.mp h with h | h
    · exact mkL_good hp z h
    · exact ⟨(ht z h).1, (ht z h).2.2.2⟩
  · exact mkL_good he z h
theorem holds_of {x : Str} {mv : List Int} (hx : ∀ z ∈ x.cps.toList, GoodC z) (hm : ∀ p : Nat, p < 3 → mv.getD p 0 = (dS p x.cps.toList : Int)) : HoldsOk x mv := by
  intro p e hp he
  have hg := good_whole (t := x.cps.toList) hp he hx
  rw [len_cps, whole_cps]
  refine ⟨lwF_ok fun c hc => (hg c hc).2, ?_⟩
  rw [words_plain fun c hc => (hg c hc).1, dS_app, dS_app, dS_mk hp, hm p hp]
  have hq := dS_lt x.cps.toList hp
  by_cases h : dS p x.cps.toList = e
  · rw [if_pos ((dS_mk2 hq he).mpr h), if_pos (by rw [h])]
  · rw [if_neg fun h' => h ((dS_mk2 hq he).mp h'), if_neg (by omega)]
/-- a move's fold is the places' walk -/
theorem mv_fold {s1 s2 : List Int} {f : Nat → List Nat} (hf : ∀ c p : Nat, p < 3 → (if c = 39 then s1.getD p 0 else if c = 34 then s2.getD p 0 else (p : Int)) = (dS p (f c) : Int)) :
    ∀ (t : List Nat) (l : List Nat), (∀ p ∈ l, p < 3) → t.foldl (mvStep s1 s2) (l.map fun (p : Nat) => (p : Int)) = l.map fun (p : Nat) => ((dS p (t.flatMap f) : Nat) : Int)
  | [], l, _ => rfl
  | c :: t, l, hl => by
    have h1 : mvStep s1 s2 (l.map fun (p : Nat) => (p : Int)) c = (l.map fun p => dS p (f c)).map fun (p : Nat) => (p : Int) := by
      rw [List.map_map]
      unfold mvStep
      by_cases c1 : c = 39
      · rw [if_pos c1, List.map_map]
        refine List.map_congr_left fun p hp => ?_
        have := hf c p (hl p hp)
        rw [if_pos c1] at this
        exact this
      · rw [if_neg c1]
        by_cases c2 : c = 34
        · rw [if_pos c2, List.map_map]
          refine List.map_congr_left fun p hp => ?_
          have := hf c p (hl p hp)
          rw [if_neg c1, if_pos c2] at this
          exact this
        · rw [if_neg c2]
          refine List.map_congr_left fun p hp => ?_
          have := hf c p (hl p hp)
          rw [if_neg c1, if_neg c2] at this
          exact this
    rw [List.foldl_cons, h1, mv_fold hf t _ (fun q hq => by
      obtain ⟨p, hp, rfl⟩ := List.mem_map.mp hq
      exact dS_lt _ (hl p hp)), List.map_map]
    refine List.map_congr_left fun p _ => ?_
    show ((dS (dS p (f c)) (t.flatMap f) : Nat) : Int) = _
    rw [List.flatMap_cons, dS_app]
theorem mv_base (t : List Nat) : mvF [1, 0, 2] [2, 1, 0] t = [(dS 0 t : Int), (dS 1 t : Int), (dS 2 t : Int)] := by
  have := mv_fold (s1 := [1, 0, 2]) (s2 := [2, 1, 0]) (f := fun c => [c]) (fun c p hp => by
    have h : p = 0 ∨ p = 1 ∨ p = 2 := by omega
    show _ = ((dl p c : Nat) : Int)
    unfold dl
    rcases h with rfl | rfl | rfl <;> (by_cases c1 : c = 39 <;> by_cases c2 : c = 34 <;> simp_all)) t [0, 1, 2] (by decide)
  rw [show t.flatMap (fun c => [c]) = t by simp] at this
  exact this
theorem mv1_at (ns : List Int) {p : Nat} (hp : p < 3) : (mv1F ns).getD p 0 = (dS p (sndF ns).cps.toList : Int) := by
  have h : p = 0 ∨ p = 1 ∨ p = 2 := by omega
  unfold mv1F
  rw [mv_base]
  rcases h with rfl | rfl | rfl <;> rfl
theorem mv2_at (ns : List Int) {p : Nat} (hp : p < 3) : (mv2F ns).getD p 0 = (dS p (trdF ns).cps.toList : Int) := by
  have h : p = 0 ∨ p = 1 ∨ p = 2 := by omega
  unfold mv2F
  rw [mv_base]
  rcases h with rfl | rfl | rfl <;> rfl
theorem mv_all (ns : List Int) : mvFF ns = [(dS 0 (fthF ns).cps.toList : Int), (dS 1 (fthF ns).cps.toList : Int), (dS 2 (fthF ns).cps.toList : Int)] := by
  have := mv_fold (s1 := mv1F ns) (s2 := mv2F ns) (f := putL ns) (fun c p hp => by
    unfold putL
    by_cases c1 : c = 39
    · rw [if_pos c1, if_pos c1, mv1_at ns hp]
    · rw [if_neg c1, if_neg c1]
      by_cases c2 : c = 34
      · rw [if_pos c2, if_pos c2, mv2_at ns hp]
      · rw [if_neg c2, if_neg c2]
        show _ = ((dl p c : Nat) : Int)
        unfold dl
        rw [if_neg c1, if_neg c2]) (fstF ns).cps.toList [0, 1, 2] (by decide)
  rw [← fth_cps] at this
  exact this
theorem mv_at (ns : List Int) {p : Nat} (hp : p < 3) : (mvFF ns).getD p 0 = (dS p (fthF ns).cps.toList : Int) := by
  have h : p = 0 ∨ p = 1 ∨ p = 2 := by omega
  rw [mv_all]
  rcases h with rfl | rfl | rfl <;> rfl
theorem hh1 (ns : List Int) : HoldsOk (sndF ns) (mv1F ns) := holds_of (snd_good ns) fun _ hp => mv1_at ns hp
theorem hh2 (ns : List Int) : HoldsOk (trdF ns) (mv2F ns) := holds_of (trd_good ns) fun _ hp => mv2_at ns hp
theorem hh3 (ns : List Int) : HoldsOk (fthF ns) (mvFF ns) := holds_of (fth_good ns) fun _ hp => mv_at ns hp
theorem hprm (ns : List Int) : ∀ j : Nat, j < 3 → (j : Int) ∈ mvFF ns := fun j hj => by
  have h1 := dS_lt (fthF ns).cps.toList.reverse hj
  have h2 := dS_rev' (fthF ns).cps.toList hj
  have h : dS j (fthF ns).cps.toList.reverse = 0 ∨ dS j (fthF ns).cps.toList.reverse = 1 ∨ dS j (fthF ns).cps.toList.reverse = 2 := by omega
  rw [mv_all]
  rcases h with h | h | h <;> (rw [h] at h2; rw [h2]; simp)
end Mine
namespace Mine
theorem idx3 : ∀ a b c p q : Fin 3, a ≠ b → a ≠ c → b ≠ c → ([a, b, c].getD q.val 0) = p → ([(a.val : Int), (b.val : Int), (c.val : Int)].idxOf (p.val : Int)) = q.val := by decide +kernel
theorem six3 : ∀ a b c p : Fin 3, a ≠ b → a ≠ c → b ≠ c → (let f := fun x : Fin 3 => [a, b, c].getD x.val 0; f (f (f (f (f (f p))))) = p) := by decide +kernel
theorem dS_inj (t : List Nat) {p q : Nat} (hp : p < 3) (hq : q < 3) (h : dS p t = dS q t) : p = q := by
  rw [← dS_rev t hp, ← dS_rev t hq, h]
def fF (t : List Nat) (p : Fin 3) : Fin 3 := ⟨dS p.val t, dS_lt t p.isLt⟩
theorem fF_ne (t : List Nat) {p q : Fin 3} (h : p ≠ q) : fF t p ≠ fF t q := fun e => h (Fin.ext (dS_inj t p.isLt q.isLt (congrArg Fin.val e)))
theorem fF_get (t : List Nat) (p : Fin 3) : [fF t 0, fF t 1, fF t 2].getD p.val 0 = fF t p := by
  have : p = 0 ∨ p = 1 ∨ p = 2 := by
    have := p.isLt
    rcases (show p.val = 0 ∨ p.val = 1 ∨ p.val = 2 by omega) with h | h | h
    · exact .inl (Fin.ext h)
    · exact .inr (.inl (Fin.ext h))
    · exact .inr (.inr (Fin.ext h))
  rcases this with rfl | rfl | rfl <;> rfl
theorem inv_is (ns : List Int) {p : Nat} (hp : p < 3) : (invF (mvFF ns)).getD p 0 = (dS p (fthF ns).cps.toList.reverse : Int) := by
  have h0 : (invF (mvFF ns)).getD p 0 = (((mvFF ns).idxOf (p : Int) : Nat) : Int) := by
    have h : p = 0 ∨ p = 1 ∨ p = 2 := by omega
    rcases h with rfl | rfl | rfl <;> rfl
  rw [h0, mv_all]
  have h1 := dS_lt (fthF ns).cps.toList.reverse hp
  have h2 := dS_rev' (fthF ns).cps.toList hp
  have := idx3 (fF (fthF ns).cps.toList 0) (fF (fthF ns).cps.toList 1) (fF (fthF ns).cps.toList 2) ⟨p, hp⟩ ⟨dS p (fthF ns).cps.toList.reverse, h1⟩ (fF_ne _ (by decide)) (fF_ne _ (by decide)) (fF_ne _ (by decide))
    (by rw [fF_get]; exact Fin.ext h2)
  exact congrArg (fun n : Nat => (n : Int)) this
theorem hh4 (ns : List Int) : HoldsOk (revF (fthF ns)) (invF (mvFF ns)) := by
  refine holds_of (fun z hz => ?_) fun p hp => ?_
  · rw [rev_cps] at hz
    exact fth_good ns z (List.mem_reverse.mp hz)
  · rw [rev_cps]
    exact inv_is ns hp
theorem dS_six (t : List Nat) {p : Nat} (hp : p < 3) : dS p (List.replicate 6 t).flatten = p := by
  have e : (List.replicate 6 t).flatten = t ++ (t ++ (t ++ (t ++ (t ++ t)))) := by simp [List.replicate]
  rw [e]
  simp only [dS_app]
  have := six3 (fF t 0) (fF t 1) (fF t 2) ⟨p, hp⟩ (fF_ne _ (by decide)) (fF_ne _ (by decide)) (fF_ne _ (by decide))
  dsimp only at this
  rw [show [fF t 0, fF t 1, fF t 2].getD p 0 = fF t ⟨p, hp⟩ from fF_get t ⟨p, hp⟩] at this
  simp only [fF_get] at this
  exact congrArg Fin.val this
theorem ar_cps (x : Str) (k : Nat) : (arF x k).cps.toList = mkL k ++ (List.replicate 6 x.cps.toList).flatten ++ mkL k := by
  unfold arF mkL
  rw [Str.cps_append, Array.toList_append, Str.cps_append, Array.toList_append, rep6_cps]
theorem hla (ns : List Int) : ∀ k : Nat, k < 3 → StrsOk (lwF (arF (fthF ns) k).cps.toList) ∧ wordsF true false ((arF (fthF ns) k).length + 2) .sp (arF (fthF ns) k).cps.toList = .ok (lwF (arF (fthF ns) k).cps.toList) := by
  intro k hk
  have hg := good_whole (t := (List.replicate 6 (fthF ns).cps.toList).flatten) hk hk fun z hz => by
    obtain ⟨l, hl, hz⟩ := List.mem_flatten.mp hz
    rw [(List.mem_replicate.mp hl).2] at hz
    exact fth_good ns z hz
  rw [len_cps, ar_cps]
  refine ⟨lwF_ok fun c hc => (hg c hc).2, ?_⟩
  rw [words_plain fun c hc => (hg c hc).1, dS_app, dS_app, dS_mk hk, dS_six _ hk, if_pos ((dS_mk2 hk hk).mpr rfl)]
theorem free_flat {c : Nat} {z : Str} {l : List Nat} (h : c ∉ l) : (l.flatMap fun d => if d = c then z.cps.toList else [d]) = l := by
  induction l with
  | nil => rfl
  | cons a r ih =>
    have h1 : a ≠ c := fun e => h (by rw [e]; exact .head _)
    have h2 := ih fun hm => h (.tail _ hm)
    rw [List.flatMap_cons, h2, if_neg h1]
    rfl
theorem flat_congr {l : List Nat} {f g : Nat → List Nat} (h : ∀ d ∈ l, f d = g d) : l.flatMap f = l.flatMap g := by
  induction l with
  | nil => rfl
  | cons a r ih => rw [List.flatMap_cons, List.flatMap_cons, h a (.head _), ih fun d hd => h d (.tail _ hd)]
/-- one pair of replace, sign by sign -/
theorem join_flat (c : Nat) (z : Str) : ∀ parts : List Str, (∀ p ∈ parts, c ∉ p.cps.toList) → (Str.join z parts).cps.toList = (Str.join ⟨#[c]⟩ parts).cps.toList.flatMap fun d => if d = c then z.cps.toList else [d]
  | [], _ => rfl
  | [x], h => by
    have hx := h x (.head _)
    show x.cps.toList = x.cps.toList.flatMap _
    exact (free_flat hx).symm
  | x :: y :: r, h => by
    have hx := h x (.head _)
    have ih := join_flat c z (y :: r) fun p hp => h p (.tail _ hp)
    show (x ++ z ++ Str.join z (y :: r)).cps.toList = (x ++ ⟨#[c]⟩ ++ Str.join ⟨#[c]⟩ (y :: r)).cps.toList.flatMap _
    rw [Str.cps_append, Array.toList_append, Str.cps_append, Array.toList_append, Str.cps_append, Array.toList_append, Str.cps_append, Array.toList_append, List.flatMap_append, List.flatMap_append, ih, free_flat hx]
    simp
theorem rep_flat (x z : Str) (c : Nat) : (repl1 x (sg c, z)).cps.toList = x.cps.toList.flatMap fun d => if d = c then z.cps.toList else [d] := by
  show (Txt.join z (Txt.split x (sg c))).cps.toList = _
  unfold Txt.join
  rw [StrLaws.glued_eq_join, show sg c = ⟨#[c]⟩ from rfl, join_flat c z _ (StrLaws.split_free x c), StrLaws.join_split]
theorem ofS_0 : Str.ofString "0" = sg 48 := by decide +kernel
theorem ofS_1 : Str.ofString "1" = sg 49 := by decide +kernel
theorem flat_id {l : List Nat} {f : Nat → List Nat} (h : ∀ d ∈ l, f d = [d]) : l.flatMap f = l := by
  induction l with
  | nil => rfl
  | cons a r ih => rw [List.flatMap_cons, h a (.head _), ih fun d hd => h d (.tail _ hd)]; rfl
theorem hrep (ns : List Int) : replF (fstF ns) (repPs ns) = fthF ns := by
  refine Str.ext' (Array.toList_inj.mp ?_)
  unfold repPs
  rw [ofS_sq, ofS_dq, ofS_0, ofS_1]
  show (repl1 (repl1 (repl1 (repl1 (fstF ns) (sg 39, sg 48)) (sg 34, sg 49)) (sg 48, sndF ns)) (sg 49, trdF ns)).cps.toList = _
  rw [rep_flat, rep_flat, rep_flat, rep_flat, fth_cps, List.flatMap_assoc, List.flatMap_assoc, List.flatMap_assoc]
  refine flat_congr fun c hc => ?_
  have hg := fst_good ns c hc
  have hs : ((sndF ns).cps.toList.flatMap fun d => if d = 49 then (trdF ns).cps.toList else [d]) = (sndF ns).cps.toList := flat_id fun d hd => if_neg (snd_good ns d hd).2.2.1
  unfold putL
  by_cases c1 : c = 39
  · subst c1
    simp [sg_cps, hs]
  · by_cases c2 : c = 34
    · subst c2
      simp [sg_cps]
    · simp [c1, c2, hg.2.1, hg.2.2.1]
theorem flat_len {l : List Nat} {f : Nat → List Nat} {k : Nat} (h : ∀ d, (f d).length ≤ k) : (l.flatMap f).length ≤ l.length * k := by
  induction l with
  | nil => simp
  | cons a r ih =>
    have := h a
    rw [List.flatMap_cons, List.length_append, List.length_cons, Nat.add_mul]
    omega
theorem rep_len (x z : Str) (c : Nat) {k : Nat} (hk : 1 ≤ k) (hz : z.length ≤ k) : (repl1 x (sg c, z)).length ≤ x.length * k := by
  rw [len_cps, rep_flat, len_cps x]
  refine flat_len fun d => ?_
  split
  · rw [← len_cps]; exact hz
  · exact hk
theorem hrok (ns : List Int) : RepOk (fstF ns) (repPs ns) := by
  unfold repPs
  rw [ofS_sq, ofS_dq, ofS_0, ofS_1]
  have h0 := fst_len ns
  have hs := snd_len ns
  have ht := trd_len ns
  have h1 := rep_len (fstF ns) (sg 48) 39 (k := 1) (by decide) (by decide)
  have h2 := rep_len (repl1 (fstF ns) (sg 39, sg 48)) (sg 49) 34 (k := 1) (by decide) (by decide)
  have h3 := rep_len (repl1 (repl1 (fstF ns) (sg 39, sg 48)) (sg 34, sg 49)) (sndF ns) 48 (k := 3) (by decide) hs
  have h4 := rep_len (repl1 (repl1 (repl1 (fstF ns) (sg 39, sg 48)) (sg 34, sg 49)) (sg 48, sndF ns)) (trdF ns) 49 (k := 3) (by decide) ht
  refine ⟨by omega, by decide, by decide, by omega, by decide, by decide, by omega, (by decide : 1 ≠ 0), ?_, by omega, (by decide : 1 ≠ 0), ?_, by show _ < _; omega⟩
  · show (sndF ns).length < 8; omega
  · show (trdF ns).length < 8; omega
end Mine
namespace Mine
theorem top_off_LA04 : True := by
  w_top off
  exact trivial
local macro_rules | `(tactic| walk_at "none 0") => `(tactic| skip)
local macro_rules | `(tactic| walk_at "none 1") => `(tactic| skip)
local macro_rules | `(tactic| walk_at "none 2") => `(tactic| skip)
local macro_rules | `(tactic| walk_at "none 3") => `(tactic| skip)
local macro_rules | `(tactic| walk_at "none 4") => `(tactic| skip)
local macro_rules | `(tactic| walk_at "none 5") => `(tactic| skip)
local macro_rules | `(tactic| walk_at "none 6") => `(tactic| skip)
local macro_rules | `(tactic| walk_at "none 7") => `(tactic| skip)
local macro_rules | `(tactic| walk_at "none 8") => `(tactic| skip)
local macro_rules | `(tactic| walk_at "none 9") => `(tactic| skip)
local macro_rules | `(tactic| walk_at "none 10") => `(tactic| skip)
local macro_rules | `(tactic| walk_at "none 11") => `(tactic| skip)
local macro_rules | `(tactic| walk_at "none 12") => `(tactic| skip)
local macro_rules | `(tactic| walk_at "none 13") => `(tactic| skip)
local macro_rules | `(tactic| walk_at "none 14") => `(tactic| skip)
local macro_rules | `(tactic| walk_at "none 15") => `(tactic| skip)
local macro_rules | `(tactic| walk_at "none 16") => `(tactic| skip)
local macro_rules | `(tactic| walk_at "none 17") => `(tactic| skip)
local macro_rules | `(tactic| walk_at "none 18") => `(tactic| skip)
local macro_rules | `(tactic| walk_at "none 19") => `(tactic| skip)
local macro_rules | `(tactic| walk_at "none 20") => `(tactic| skip)
local macro_rules | `(tactic| walk_at "none 21") => `(tactic| skip)
local macro_rules | `(tactic| walk_at "none 22") => `(tactic| skip)
local macro_rules | `(tactic| walk_at "none 23") => `(tactic| skip)
local macro_rules | `(tactic| walk_at "none 24") => `(tactic| skip)
local macro_rules | `(tactic| walk_at "none 25") => `(tactic| skip)
local macro_rules | `(tactic| walk_at "none 26") => `(tactic| skip)
local macro_rules | `(tactic| walk_at "none 27") => `(tactic| skip)
local macro_rules | `(tactic| walk_at "none 28") => `(tactic| skip)
local macro_rules | `(tactic| walk_at "none 29") => `(tactic| skip)
local macro_rules | `(tactic| walk_at "none 30") => `(tactic| skip)
local macro_rules | `(tactic| walk_at "none 31") => `(tactic| skip)
local macro_rules | `(tactic| walk_at "none 32") => `(tactic| skip)
local macro_rules | `(tactic| walk_at "none 33") => `(tactic| skip)
local macro_rules | `(tactic| walk_at "none 34") => `(tactic| skip)
local macro_rules | `(tactic| walk_at "none 35") => `(tactic| skip)
local macro_rules | `(tactic| walk_at "none 36") => `(tactic| skip)
local macro_rules | `(tactic| walk_at "none 37") => `(tactic| skip)
local macro_rules | `(tactic| walk_at "none 38") => `(tactic| skip)
local macro_rules | `(tactic| walk_at "none 39") => `(tactic| skip)
local macro_rules | `(tactic| walk_at "none 40") => `(tactic| skip)
local macro_rules | `(tactic| walk_at "none 41") => `(tactic| skip)
local macro_rules | `(tactic| walk_at "none 42") => `(tactic| skip)
local macro_rules | `(tactic| walk_at "none 43") => `(tactic| skip)
local macro_rules | `(tactic| walk_at "none 44") => `(tactic| skip)
local macro_rules | `(tactic| walk_at "none 45") => `(tactic| skip)
local macro_rules | `(tactic| walk_at "none 46") => `(tactic| skip)
local macro_rules | `(tactic| walk_at "none 47") => `(tactic| skip)
local macro_rules | `(tactic| walk_at "none 48") => `(tactic| skip)
local macro_rules | `(tactic| walk_at "none 49") => `(tactic| skip)
local macro_rules | `(tactic| walk_at "none 50") => `(tactic| skip)
local macro_rules | `(tactic| walk_at "none 51") => `(tactic| skip)
local macro_rules | `(tactic| walk_at "none 52") => `(tactic| skip)
local macro_rules | `(tactic| walk_at "none 53") => `(tactic| skip)
local macro_rules | `(tactic| walk_at "none 54") => `(tactic| skip)
local macro_rules | `(tactic| walk_at "none 55") => `(tactic| skip)
local macro_rules | `(tactic| k_room) => `(tactic| ktr_room)
local macro_rules | `(tactic| k_units) => `(tactic| ktr_units)
local macro_rules | `(tactic| k_all) => `(tactic| assumption)
local macro_rules | `(tactic| walk_at "my enter") => `(tactic| k_dflt (refine' code_def ?k1 ?k2 ?k3 ?k4 ?k5 ?kA ?kF ?kK ?k6 ?k7 ?k8 ?k9 ?kB ?_ ?c2 ?c3 ?c4 ?c5; (case kA => exact rfl); (case kF => exact rfl); (case kK => assumption); (case k1 => k_asm); (case k2 => k_asm); (case k3 => k_asm); (case k4 => k_asm); (case k5 => k_asm); (case k6 => k_is); (case k7 => k_is); (case k8 => k_room); (case k9 => first | exact BindsTo.of_eq rfl | exact binds_K (by k_in) rfl (by k_is) rfl rfl rfl); (case c5 => decide); (case kB => exact locs rfl); (case c2 => exact rfl); (case c3 => exact rfl); (case c4 => exact rfl); k_whole; intro g' L' h' FG' F' N' B' X' T'; (try dsimp only); (try k_fold)))
local macro_rules | `(tactic| walk_at "leaving ref") => `(tactic| (k_here; first
  | (refine' leave_raiseS ?k1 (Heap.MadeExc.of (by assumption)) ?k2 ?k3 ?_; (case k1 => assumption); (case k2 => assumption); (case k3 => k_asm); k_whole; intro h' t' R' RK' U'; (try dsimp only at R' U' ⊢))
  | (refine' leave_onS ?k1 ?k2 ?k3 ?k4 ?_; (case k3 => assumption); (case k1 => assumption); (case k4 => assumption); (case k2 => assumption); k_whole; intro h' R' RK' U'; (try dsimp only at R' U' ⊢))))
local macro_rules | `(tactic| walk_at "compareOp In str str") => `(tactic| (k_here; with_reducible refine in_sg ?_))
local macro_rules | `(tactic| walk_at "compareOp In str str") => `(tactic| (k_here; with_reducible (first | refine in_ws ?_ | refine in_qt ?_ | refine in_bs ?_ | refine in_dq ?_ | refine in_none ?_ | refine in_a_qt ?_ | refine in_a_bs ?_)))
local macro_rules | `(tactic| walk_at "compareOp Eq str str") => `(tactic| (k_here; with_reducible refine eq_sg ?_))
local macro_rules | `(tactic| walk_at "compareOp NotEq str str") => `(tactic| (k_here; with_reducible refine ne_sg ?_))
local macro_rules | `(tactic| walk_at "truthy str") => `(tactic| (k_here; (with_reducible refine truthy_sg ?_)))
local macro_rules | `(tactic| walk_at "exec Assign cons ListComp") => `(tactic| (k_here; refine Hold.out ?_))
local macro_rules | `(tactic| walk_at "eval ListComp") => `(tactic| (k_here; refine Hold.out ?_))
local macro_rules | `(tactic| walk_at "call ref") => `(tactic| (k_here; (with_reducible show wpAny _ _ (call (Value.ref 748) _) _ _ _); refine Hold.out ?_))
local macro_rules | `(tactic| walk_at "CompSrc") => `(tactic| (refine Hold.out ?_))
local macro_rules | `(tactic| walk_at "subscriptTail Name Slice ref ref") => `(tactic| (k_here; (with_reducible show wpAny _ _ (subscriptTail (Expr.Name (Str.ofString "numbers") _) _ (Value.ref _) (Value.ref _)) _ _ _); k_dflt (refine' slice_3 ?F ?N ?hm ?hi ?hz ?_ ?s ?t; (case F => k_asm); (case N => k_asm); (case hm => exact List.mem_cons_self); (case hi => assumption); (case hz => assumption); (case s => with_unfolding_all rfl); (case t => exact fun _ => rfl)); intro D' ws' h' F' N' l1 hI'))
local macro_rules | `(tactic| walk_at "compareOp Eq str str") => `(tactic| (k_here; (with_reducible show wpAny _ _ (compareOp _ (Value.str (sg _) _) (Value.str (Str.ofString _) _)) _ _ _); first | refine eq_lit ofS_sq ?_ | refine eq_lit ofS_dq ?_))
local macro_rules | `(tactic| walk_at "call ref") => `(tactic| (k_here; (with_reducible show wpAny _ _ (call (Value.ref 46) _) _ _ _); refine Hold.out ?_))
local macro_rules | `(tactic| walk_at "compareOp NotEq str str") => `(tactic| (k_here; with_reducible refine ne_self ?_))
local macro_rules | `(tactic| walk_at "call ref") => `(tactic| (k_here; (with_reducible show wpAny _ _ (call (Value.ref 753) _) _ _ _); refine Hold.out ?_))
local macro_rules | `(tactic| walk_at "call ref") => `(tactic| (k_here; (with_reducible show wpAny _ _ (call (Value.ref 774) _) _ _ _); k_dflt (refine' ctrS_top (holds_i ?hb ?hm ?hi ?hv ?hl) ?k1 ?k2 ?k3 ?k4 ?k5 ?kK ?kd ?ku ?_; (case k1 => assumption); (case k2 => k_asm); (case k3 => k_asm); (case k4 => k_asm); (case k5 => k_asm); (case kK => first | exact rfl | assumption); (case hb => assumption); (case hm => (repeat (first | exact List.mem_cons_self | assumption | apply List.mem_cons_of_mem))); (case hi => assumption); (case hv => assumption); (case hl => assumption); (case kd => ktr_room); (case ku => ktr_units)); (intro v9 h9 tk9 n9 F9 N9 P9; (obtain ⟨e9, s9⟩ := P9); (subst e9); (replace N9 := News.drop9 N9 s9); (clear s9); (try k_fold))))
local macro_rules | `(tactic| walk_at "binaryOp Mult str int") => `(tactic| (k_here; (refine' mul6_C ?ka ?_); (case ka => assumption); intro _ _))
local macro_rules | `(tactic| walk_at "binaryOp Add str str") => `(tactic| (k_here; (refine' PyProof.Rows.add_str ?_ ?ka); (case ka => ((try simp only [len_app]); rw [show sizeLine = 2 ^ 24 from rfl]; omega)); intro _ _))
local macro_rules | `(tactic| walk_at "call ref") => `(tactic| (k_here; (with_reducible show wpAny _ _ (call (Value.ref 767) _) _ _ _); refine Hold.out ?_))
local macro_rules | `(tactic| walk_at "call ref") => `(tactic| (k_here; (with_reducible show wpAny _ _ (call (Value.ref 760) _) _ _ _); refine Hold.out ?_))
local macro_rules | `(tactic| walk_at "compareOp Eq ref ref") => `(tactic| (k_here; refine Hold.out ?_))
theorem law0 : PySem.Challenge.rw_mj0242_04.Holds := hd (by
  k_go0
  rename_i w s0 s1 mg mb G Y fa o pm doc ho hg KX X V GL T B TE TW w13 w12 M cdv w10 hcd ns hs hlay0 hL1 hr1 hl2 w8 w7 sl vs w4 hL ra w1 r0 hI hr hcond1 hcond K0 hD h1 tk1 F oM oF oT oS cM cF cT cS N0 X0
  have hgood : ∀ (h' : Heap) (tk' : Nat) (m' : Str → Option Value), Fr s1.heap s1.heap.objs.size h' m' → GoodW PySem.Challenge.rw_mj0242_04.row.claim (classAt s0.heap) (ExcName.means s0.heap) [ofPy (PyData.list (List.map PyData.int ns))] s1 (Except.ok (Flow.ret (.bool true))) { heap := h', gens := s1.gens, drawn := s1.drawn, toks := tk', os := s1.os } := by
    intro h' tk' m' F'
    clear F
    k_steps
  obtain ⟨m0, F0, hm0⟩ : ∃ m0, Fr s1.heap s1.heap.objs.size h1 m0 ∧ m0 (Str.ofString "script") = some (.ref sl) := ⟨_, F, rfl⟩
  have dM : oM.data = .cell none := cM
  have dF : oF.data = .cell none := cF
  have dT : oT.data = .cell none := cT
  have dS : oS.data = .cell none := cS
  have K1 : Below callerA s1.heap [] s1.heap := K0
  clear F cM cF cT cS X0 hD hcd G Y ho hg X V GL B TE TW M hs hlay0 hL1 hr1 hl2 ra w1 r0 hr hcond K0
  clear o pm doc w13 w12 w10 w8 w7 w4
  rw [one_m hm0] at F0
  clear hm0
  have hlen : ns.length ≤ 63 := by omega
  have hvl : vs.length ≤ 63 := by rw [hI.length]; exact hlen
  dsimp only
  have hpr := prog_here
  show wpAny (model PG w) _ _ _ _ _
  generalize hLs : s1.heap.objs.size = L at *
  refine cut (Be s1.heap L s1 (P1 L ns)) ?_ ?_
  · k_steps
    · trivial
    · refine be_intro _ (by k_asm) (by k_asm) sub1 ⟨_, _, _, oM, oF, oT, oS, rfl, ?_, rfl, ⟨by omega, by omega, by omega, by omega⟩, dM, dF, dT, dS⟩
      rw [drawn_nil (by assumption)]
      exact .cons _ _ (.cons _ _ (.cons _ _ .nil))
    · trivial
    · refine be_intro _ (by k_asm) (by k_asm) sub1 ⟨_, _, _, oM, oF, oT, oS, rfl, ?_, rfl, ⟨by omega, by omega, by omega, by omega⟩, dM, dF, dT, dS⟩
      rw [drawn_cons (by assumption)]
      assumption
  clear F0 N0 dM dF dT dS hL hI hcond1 hlen hvl
  rintro s' ⟨h2, tk2, m2, led, rfl, F2, N2, D, its, n, oM, oF, oT, oS, hm, hits, rfl, ⟨e1, e2, e3, e4⟩, dM, dF, dT, dS⟩
  rw [one_m hm] at F2
  clear hm
  refine cut (Be s1.heap L s1 (P2 L ns)) ?_ ?_
  · k_steps
    refine Hold.mk ?_
    refine LCg.Assign_ListComp_U F2 rfl (by with_unfolding_all rfl) (by with_unfolding_all rfl) (by decide) (by rfl) (by decide) (by rfl) (by rfl) (by rfl) ?_
    refine nameX_L F2 (by rfl) ?_
    refine LCg.CompSrc.ledger rfl F2 N2 (.head _) (size6 (by have := drawn_len ns; rw [ints_size hits]; omega)) fun g9 => comp_ind (fun i ys nw => nw = _ ∧ IntsAre ys (((drawnF ns).take i).map (Int.fmod · 569376768))) ⟨rfl, .nil⟩ ?_ ?_
    · rintro j ys nw v I9 oI C oC D9 m₉ h9 tk9 E' hj ⟨rfl, hys⟩ hv hC hx F9 N9 off ne
      obtain ⟨y, t9, hyj, rfl⟩ := ints_at hits hv
      k_steps
      refine comp_end (by k_asm) (by k_asm) (.head _) (.tail _ (.head _)) (.tail _ (.tail _ (.head _))) (fun p hp => .tail _ (.tail _ (.tail _ hp))) off (.inr ⟨_, .head _, rfl, _, rfl⟩) ⟨rfl, ?_⟩
      rw [List.take_add_one, hyj, Option.toList_some, List.map_append]
      exact ints_snoc hys
    · rintro ys nw ⟨rfl, hys⟩ D9 h9 tk9 F9 N9 off9
      rw [ints_size hits, List.take_length] at hys
      exact ⟨rfl, be_intro _ F9 N9 sub1 ⟨D9, _, _, oM, oF, oT, oS, rfl, hys, rfl, ⟨Ne.symm off9.2.1, Ne.symm off9.2.2.1, Ne.symm off9.2.2.2.1, Ne.symm off9.2.2.2.2.1⟩, dM, dF, dT, dS⟩⟩
  clear F2 N2 e1 e2 e3 e4 dM dF dT dS hits
  rintro s' ⟨h2, tk2, m2, led, rfl, F2, N2, D, its, n, oM, oF, oT, oS, hm, hits, rfl, ⟨e1, e2, e3, e4⟩, dM, dF, dT, dS⟩
  rw [one_m hm] at F2
  clear hm
  refine cut (Be s1.heap L s1 (P3 L ns)) ?_ ?_
  · k_steps
    refine Hold.mk ?_
    refine LCg.ListComp_U F2 (by with_unfolding_all rfl) (by decide) (by rfl) (by decide) (by rfl) ?_
    refine nameX_L F2 (by rfl) ?_
    refine LCg.CompSrc.ledger rfl F2 N2 (.head _) (size6 (by have := nums_len ns; rw [ints_size hits]; omega)) fun g9 => comp_ind (fun i ys nw => nw = _ ∧ StrsAre ys (((numsF ns).take i).map s1F)) ⟨rfl, .nil⟩ ?_ ?_
    · rintro j ys nw v I9 oI C oC D9 m₉ h9 tk9 E' hj ⟨rfl, hys⟩ hv hC hx F9 N9 off ne
      obtain ⟨y, t9, hyj, rfl⟩ := ints_at hits hv
      have hy := nums_lt (List.mem_of_getElem? hyj)
      k_steps
      refine Hold.mk ?_
      k_dflt (refine' ctr_use (sign_ _ _ _ _ _ _ _ _ _ (fmod_rng (by decide)).1 (fmod_rng (by decide)).2 (code_rng hy).1 (code_rng hy).2) ?k1 ?k2 ?k3 ?k4 ?k5 ?kK ?kd ?ku ?_; (case k1 => k_asm); (case k2 => k_asm); (case k3 => k_asm); (case k4 => k_asm); (case k5 => k_asm); (case kK => first | exact rfl | assumption); (case kd => ktr_room); (case ku => ktr_units))
      rintro v8 h8 tk8 n8 F8 N8 ⟨t8, rfl, hs8⟩
      refine comp_end F8 N8 (hs8 _ (.head _)) (hs8 _ (.tail _ (.head _))) (hs8 _ (.tail _ (.tail _ (.head _)))) (fun p hp => hs8 _ (.tail _ (.tail _ (.tail _ hp)))) off (.inr ⟨_, .head _, rfl, _, rfl⟩) ⟨rfl, ?_⟩
      rw [List.take_add_one, hyj, Option.toList_some, List.map_append]
      exact strs_snoc1 hys
    · rintro ys nw ⟨rfl, hys⟩ D9 h9 tk9 F9 N9 off9
      rw [ints_size hits, List.take_length] at hys
      k_steps
      refine join_C N9 hys (by have := nums_len ns; rw [List.length_map]; omega) (map_len fun x => sign_len _ _) fun t8 k8 => ?_
      k_steps
      · trivial
      · exact be_intro _ (by k_asm) (by k_asm) (fun p hp => .tail _ hp) ⟨D, its, n, oM, oF, oT, oS, t8, rfl, rfl, hits, rfl, ⟨e1, e2, e3, e4⟩, dM, dF, dT, dS⟩
  clear F2 N2 e1 e2 e3 e4 dM dF dT dS hits
  rintro s' ⟨h2, tk2, m2, led, rfl, F2, N2, D, its, n, oM, oF, oT, oS, t1, hm, hm', hits, rfl, ⟨e1, e2, e3, e4⟩, dM, dF, dT, dS⟩
  rw [two_m hm hm'] at F2
  clear hm hm'
  have hz6 : (numsF ns).length ≤ 200 := Nat.le_trans (nums_len ns) (by decide)
  refine cut (Be s1.heap L s1 (P4 L ns)) ?_ ?_
  · k_steps
    refine Hold.mk ?_
    refine LCg.ListComp_U F2 (by with_unfolding_all rfl) (by decide) (by rfl) (by decide) (by rfl) ?_
    k_steps
    refine Hold.mk ?_
    rename Fr _ _ _ _ => F3
    rename News _ _ _ _ => N3
    rename IntsAre _ (List.take 3 _) => hit3
    refine LCg.CompSrc.ledger rfl F3 N3 (.head _) (size6 (by have := hit3.length; rw [List.length_take] at this; rw [List.size_toArray]; omega)) fun g9 => comp_ind (fun i ys nw => nw = _ ∧ StrsAre ys ((((numsF ns).take 3).take i).map s2F)) ⟨rfl, .nil⟩ ?_ ?_
    · rintro j ys nw v I9 oI C oC D9 m₉ h9 tk9 E' hj ⟨rfl, hys⟩ hv hC hx F9 N9 off ne
      obtain ⟨y, t9, hyj, rfl⟩ := ints_at hit3 hv
      have hy := nums_lt (List.mem_of_mem_take (List.mem_of_getElem? hyj))
      k_steps
      refine Hold.mk ?_
      k_dflt (refine' ctr_use (sign_ _ _ _ _ _ _ _ _ _ (fmod_rng (by decide)).1 (fmod_rng (by decide)).2 (code_rng hy).1 (code_rng hy).2) ?k1 ?k2 ?k3 ?k4 ?k5 ?kK ?kd ?ku ?_; (case k1 => k_asm); (case k2 => k_asm); (case k3 => k_asm); (case k4 => k_asm); (case k5 => k_asm); (case kK => first | exact rfl | assumption); (case kd => ktr_room); (case ku => ktr_units))
      rintro v8 h8 tk8 n8 F8 N8 ⟨t8, rfl, hs8⟩
      refine comp_end F8 N8 (hs8 _ (.head _)) (hs8 _ (.tail _ (.head _))) (hs8 _ (.tail _ (.tail _ (.head _)))) (fun p hp => hs8 _ (.tail _ (.tail _ (.tail _ hp)))) off (.inr ⟨_, .head _, rfl, _, rfl⟩) ⟨rfl, ?_⟩
      rw [List.take_add_one, hyj, Option.toList_some, List.map_append]
      exact strs_snoc1 hys
    · rintro ys nw ⟨rfl, hys⟩ D9 h9 tk9 F9 N9 off9
      rw [show (List.toArray _).size = _ from ints_size hit3, List.take_length] at hys
      k_steps
      refine join_C N9 hys (by have := nums_len ns; rw [List.length_map, List.length_take]; omega) (map_len fun x => sign_len _ _) fun t8 k8 => ?_
      replace N9 := News.drop9 (news := (D, listOf its n) :: cellsL L oM oF oT oS) N9 fun p hp => .tail _ (.tail _ hp)
      dsimp only [cellsL] at N9
      clear off9
      k_steps
      · trivial
      · exact be_intro _ (by k_asm) (by k_asm) (fun p hp => hp) ⟨D, its, n, oM, oF, oT, _, t1, t8, rfl, rfl, hits, rfl, ⟨e1, e2, e3, e4⟩, dM, dF, dT, by assumption⟩
  clear F2 N2 e1 e2 e3 e4 dM dF dT dS hits
  rintro s' ⟨h2, tk2, m2, led, rfl, F2, N2, D, its, n, oM, oF, oT, oS, t1, t2, hm, hm', hits, rfl, ⟨e1, e2, e3, e4⟩, dM, dF, dT, dS⟩
  rw [two_m hm hm'] at F2
  clear hm hm'
  refine cut (Be s1.heap L s1 (P5 L ns)) ?_ ?_
  · k_steps
    refine Hold.mk ?_
    refine LCg.ListComp_U F2 (by with_unfolding_all rfl) (by decide) (by rfl) (by decide) (by rfl) ?_
    k_steps
    refine Hold.mk ?_
    rename Fr _ _ _ _ => F3
    rename News _ _ _ _ => N3
    rename IntsAre _ (List.take 3 _) => hit3
    refine LCg.CompSrc.ledger rfl F3 N3 (.head _) (size6 (by have := hit3.length; rw [List.length_take] at this; rw [List.size_toArray]; omega)) fun g9 => comp_ind (fun i ys nw => nw = _ ∧ StrsAre ys ((((numsF ns).take 3).take i).map s3F)) ⟨rfl, .nil⟩ ?_ ?_
    · rintro j ys nw v I9 oI C oC D9 m₉ h9 tk9 E' hj ⟨rfl, hys⟩ hv hC hx F9 N9 off ne
      obtain ⟨y, t9, hyj, rfl⟩ := ints_at hit3 hv
      have hy := nums_lt (List.mem_of_mem_take (List.mem_of_getElem? hyj))
      k_steps
      refine Hold.mk ?_
      k_dflt (refine' ctr_use (sign_ _ _ _ _ _ _ _ _ _ (fmod_rng (by decide)).1 (fmod_rng (by decide)).2 (code_rng hy).1 (code_rng hy).2) ?k1 ?k2 ?k3 ?k4 ?k5 ?kK ?kd ?ku ?_; (case k1 => k_asm); (case k2 => k_asm); (case k3 => k_asm); (case k4 => k_asm); (case k5 => k_asm); (case kK => first | exact rfl | assumption); (case kd => ktr_room); (case ku => ktr_units))
      rintro v8 h8 tk8 n8 F8 N8 ⟨t8, rfl, hs8⟩
      refine comp_end F8 N8 (hs8 _ (.head _)) (hs8 _ (.tail _ (.head _))) (hs8 _ (.tail _ (.tail _ (.head _)))) (fun p hp => hs8 _ (.tail _ (.tail _ (.tail _ hp)))) off (.inr ⟨_, .head _, rfl, _, rfl⟩) ⟨rfl, ?_⟩
      rw [List.take_add_one, hyj, Option.toList_some, List.map_append]
      exact strs_snoc1 hys
    · rintro ys nw ⟨rfl, hys⟩ D9 h9 tk9 F9 N9 off9
      rw [show (List.toArray _).size = _ from ints_size hit3, List.take_length] at hys
      k_steps
      refine join_C N9 hys (by have := nums_len ns; rw [List.length_map, List.length_take]; omega) (map_len fun x => sign_len _ _) fun t8 k8 => ?_
      replace N9 := News.drop9 (news := cellsL L oM oF oT oS) N9 fun p hp => .tail _ (.tail _ (.tail _ hp))
      dsimp only [cellsL] at N9
      clear off9
      k_steps
      · trivial
      · exact be_intro _ (by k_asm) (by k_asm) (fun p hp => hp) ⟨oM, oF, _, oS, t1, t2, t8, rfl, rfl, dM, dF, by assumption, dS⟩
  clear F2 N2 e1 e2 e3 e4 dM dF dT dS hits
  rintro s' ⟨h2, tk2, m2, led, rfl, F2, N2, oM, oF, oT, oS, t1, t2, t3, hm, rfl, dM, dF, dT, dS⟩
  rw [one_m hm] at F2
  clear hm
  dsimp only [cellsL] at N2
  refine cut (Be s1.heap L s1 (P6 L ns)) ?_ ?_
  · k_steps
    refine Hold.mk ?_
    refine ListComp_S F2 (by with_unfolding_all rfl) (by decide) (by rfl) (by decide) (by rfl) ?_
    refine nameX_L F2 (by rfl) ?_
    refine ⟨_, _, _, rfl, rfl, F2, N2, ?_, ?_⟩
    · exact size6 (Nat.le_trans (fst_len ns) (by decide))
    · rintro s9 ⟨g9, rfl⟩
      refine comp_ind (fun i ys nw => nw = _ ∧ StrsAre ys (((fstF ns).cps.toList.take i).map fun c => if c = 39 then sndF ns else if c = 34 then trdF ns else sg c)) ⟨rfl, .nil⟩ ?_ ?_
      · rintro j ys nw v I9 oI C oC D9 m₉ h9 tk9 E' hj ⟨rfl, hys⟩ ⟨c, u, hcj, rfl⟩ hC hx F9 N9 off ne
        replace hx : m₉ _ = some (.str (sg c) u) := hx
        have hcj' : (fstF ns).cps.toList[j]? = some c := by simpa using hcj
        k_steps
        · refine comp_end (by k_asm) (by k_asm) (.head _) (.tail _ (.head _)) (.tail _ (.tail _ (.head _))) (fun p hp => .tail _ (.tail _ (.tail _ hp))) off trivial ⟨rfl, ?_⟩
          rw [List.take_add_one, hcj', Option.toList_some, List.map_append]
          exact put1 (by assumption) hys
        · refine comp_end (by k_asm) (by k_asm) (.head _) (.tail _ (.head _)) (.tail _ (.tail _ (.head _))) (fun p hp => .tail _ (.tail _ (.tail _ hp))) off trivial ⟨rfl, ?_⟩
          rw [List.take_add_one, hcj', Option.toList_some, List.map_append]
          exact put2 (by assumption) (by assumption) hys
        · refine comp_end (by k_asm) (by k_asm) (.head _) (.tail _ (.head _)) (.tail _ (.tail _ (.head _))) (fun p hp => .tail _ (.tail _ (.tail _ hp))) off trivial ⟨rfl, ?_⟩
          rw [List.take_add_one, hcj', Option.toList_some, List.map_append]
          exact put3 (by assumption) (by assumption) hys
      · rintro ys nw ⟨rfl, hys⟩ D9 h9 tk9 F9 N9 off9
        rw [show (fstF ns).cps.size = (fstF ns).cps.toList.length by simp, List.take_length] at hys
        k_steps
        refine join_C N9 hys (by have := fst_len ns; rw [len_cps] at this; rw [List.length_map]; omega) (fun x hx => by obtain ⟨y, _, rfl⟩ := List.mem_map.mp hx; exact Nat.le_trans (put_len ns y) (by decide)) fun t8 k8 => ?_
        replace N9 := News.drop9 (news := cellsL L oM oF oT oS) N9 fun p hp => .tail _ hp
        dsimp only [cellsL] at N9
        clear off9
        k_steps
        · trivial
        · exact be_intro _ (by k_asm) (by k_asm) (fun p hp => hp) ⟨oM, _, oT, oS, t1, t2, t3, t8, rfl, rfl, dM, by assumption, dT, dS⟩
  clear F2 N2 dM dF dT dS
  rintro s' ⟨h2, tk2, m2, led, rfl, F2, N2, oM, oF, oT, oS, t1, t2, t3, t4, hm, rfl, dM, dF, dT, dS⟩
  rw [one_m hm] at F2
  clear hm
  dsimp only [cellsL] at N2
  have hrok : RepOk (fstF ns) (repPs ns) := Mine.hrok ns
  have hrep : replF (fstF ns) (repPs ns) = fthF ns := Mine.hrep ns
  unfold repPs at hrok hrep
  refine cut (Be s1.heap L s1 (P6 L ns)) ?_ ?_
  · k_steps
    refine Hold.mk ?_
    k_dflt (refine' ctr_use (replace_4 _ _ _ _ _ _ _ _ _ _ _ _ _ _ _ _ _ _ _ _ _ _ _ ?hok) ?k1 ?k2 ?k3 ?k4 ?k5 ?kK ?kd ?ku ?_; (case k1 => k_asm); (case k2 => k_asm); (case k3 => k_asm); (case k4 => k_asm); (case k5 => k_asm); (case kK => first | exact rfl | assumption); (case hok => assumption); (case kd => ktr_room); (case ku => ktr_units))
    rintro v8 h8 tk8 n8 F8 N8 ⟨t8, rfl, hs8⟩
    replace N8 := News.drop9 N8 hs8
    clear hs8
    rw [hrep]
    k_steps
    exact be_intro _ (by k_asm) (by k_asm) (fun p hp => hp) ⟨oM, oF, oT, oS, t1, t2, t3, t4, rfl, rfl, dM, dF, dT, dS⟩
  clear F2 N2 dM dF dT dS hrok hrep
  rintro s' ⟨h2, tk2, m2, led, rfl, F2, N2, oM, oF, oT, oS, t1, t2, t3, t4, hm, rfl, dM, dF, dT, dS⟩
  rw [one_m hm] at F2
  clear hm
  dsimp only [cellsL] at N2
  refine cut (Be s1.heap L s1 (P8 L ns)) ?_ ?_
  · k_steps
    refine Hold.mk ?_
    refine LCg.Assign_ListComp_U F2 rfl (by with_unfolding_all rfl) (by with_unfolding_all rfl) (by decide) (by rfl) (by decide) (by rfl) (by rfl) (by rfl) ?_
    k_steps
    refine Hold.mk ?_
    rename Fr _ _ _ _ => F3
    rename News _ _ _ _ => N3
    refine LCg.CompSrc.ledger rfl F3 N3 (.head _) (size6 (show (2 : Nat) ≤ 200 by decide)) fun g9 => comp_ind (MvI ns _) (.inl ⟨rfl, rfl, rfl⟩) ?_ ?_
    · rintro j ys nw v I9 oI C oC D9 m₉ h9 tk9 E' hj hI hv hC hx F9 N9 off ne
      rcases hI with ⟨rfl, rfl, rfl⟩ | ⟨rfl, D1, n1, i1, rfl, rfl, hi1, ho1⟩ | ⟨rfl, _⟩
      · obtain rfl : Value.str _ _ = v := Option.some.inj hv
        k_steps
        refine Hold.mk ?_
        k_dflt (refine' ctr_use (move_i ?hb ?m1 ?m2 ?i1 ?i2 mv102 mv210) ?k1 ?k2 ?k3 ?k4 ?k5 ?kK ?kd ?ku ?_; (case k1 => k_asm); (case k2 => k_asm); (case k3 => k_asm); (case k4 => k_asm); (case k5 => k_asm); (case kK => first | exact rfl | assumption); (case hb => (have := snd_len ns; omega)); (case m1 => exact .tail _ (.head _)); (case m2 => exact .head _); (case i1 => exact .cons _ _ (.cons _ _ (.cons _ _ .nil))); (case i2 => exact .cons _ _ (.cons _ _ (.cons _ _ .nil))); (case kd => ktr_room); (case ku => ktr_units))
        rintro v8 h8 tk8 n8 F8 N8 ⟨D8, it8, nn8, rfl, hits8, hm8, hs8, ho8⟩
        refine comp_end (news' := (D8, listOf it8 nn8) :: _) F8 N8 (hs8 _ (.tail _ (.tail _ (.head _)))) (hs8 _ (.tail _ (.tail _ (.tail _ (.head _))))) (hs8 _ (.tail _ (.tail _ (.tail _ (.tail _ (.head _)))))) (fun p hp => ?_)
          (off3_cons off (Ne.symm (ho8 _ (.tail _ (.tail _ (.head _))))) (Ne.symm (ho8 _ (.tail _ (.tail _ (.tail _ (.head _)))))) (Ne.symm (ho8 _ (.tail _ (.tail _ (.tail _ (.tail _ (.head _)))))))) (.inr ⟨_, .tail _ (.head _), rfl, _, rfl⟩)
          (.inr (.inl ⟨rfl, D8, nn8, it8, rfl, rfl, hits8, fun p hp => ho8 p (.tail _ (.tail _ (.tail _ (.tail _ (.tail _ hp)))))⟩))
        rcases List.mem_cons.mp hp with rfl | hp
        · exact hm8
        · exact hs8 p (.tail _ (.tail _ (.tail _ (.tail _ (.tail _ hp)))))
      · obtain rfl : Value.str _ _ = v := Option.some.inj hv
        k_steps
        refine Hold.mk ?_
        k_dflt (refine' ctr_use (move_i ?hb ?m1 ?m2 ?i1 ?i2 mv102 mv210) ?k1 ?k2 ?k3 ?k4 ?k5 ?kK ?kd ?ku ?_; (case k1 => k_asm); (case k2 => k_asm); (case k3 => k_asm); (case k4 => k_asm); (case k5 => k_asm); (case kK => first | exact rfl | assumption); (case hb => (have := trd_len ns; omega)); (case m1 => exact .tail _ (.head _)); (case m2 => exact .head _); (case i1 => exact .cons _ _ (.cons _ _ (.cons _ _ .nil))); (case i2 => exact .cons _ _ (.cons _ _ (.cons _ _ .nil))); (case kd => ktr_room); (case ku => ktr_units))
        rintro v8 h8 tk8 n8 F8 N8 ⟨D8, it8, nn8, rfl, hits8, hm8, hs8, ho8⟩
        refine comp_end (news' := (D8, listOf it8 nn8) :: _) F8 N8 (hs8 _ (.tail _ (.tail _ (.head _)))) (hs8 _ (.tail _ (.tail _ (.tail _ (.head _))))) (hs8 _ (.tail _ (.tail _ (.tail _ (.tail _ (.head _)))))) (fun p hp => ?_)
          (off3_cons off (Ne.symm (ho8 _ (.tail _ (.tail _ (.head _))))) (Ne.symm (ho8 _ (.tail _ (.tail _ (.tail _ (.head _)))))) (Ne.symm (ho8 _ (.tail _ (.tail _ (.tail _ (.tail _ (.head _)))))))) (.inr ⟨_, .tail _ (.tail _ (.head _)), rfl, _, rfl⟩)
          (.inr (.inr ⟨rfl, D1, n1, i1, D8, nn8, it8, rfl, rfl, hi1, hits8, ho1, fun p hp => ho8 p (.tail _ (.tail _ (.tail _ (.tail _ (.tail _ (.tail _ hp))))))⟩))
        rcases List.mem_cons.mp hp with rfl | hp
        · exact hm8
        · exact hs8 p (.tail _ (.tail _ (.tail _ (.tail _ (.tail _ hp)))))
      · exact absurd (show (2 : Nat) < 2 from hj) (by decide)
    · rintro ys nw hI D9 h9 tk9 F9 N9 off9
      rcases hI with ⟨h, _⟩ | ⟨h, _⟩ | ⟨_, D1, n1, i1, D2, n2, i2, rfl, rfl, hi1, hi2, ho1, ho2⟩
      · exact absurd (show (2 : Nat) = 0 from h) (by decide)
      · exact absurd (show (2 : Nat) = 1 from h) (by decide)
      refine ⟨rfl, be_intro _ F9 N9 (fun p hp => ?_) ⟨oM, oF, oT, oS, t1, t2, t3, t4, D9, D1, D2, i1, i2, 2, n1, n2, rfl, rfl, rfl, ?_, ?_, ?_, hi1, hi2, dM, dF, dT, dS⟩⟩
      · rcases List.mem_cons.mp hp with rfl | hp
        · exact .head _
        rcases List.mem_cons.mp hp with rfl | hp
        · exact .tail _ (.tail _ (.head _))
        rcases List.mem_cons.mp hp with rfl | hp
        · exact .tail _ (.head _)
        · exact .tail _ (.tail _ (.tail _ (.tail _ hp)))
      · exact ⟨Ne.symm off9.2.2.2.1, Ne.symm off9.2.2.2.2.1, Ne.symm off9.2.2.2.2.2.1, Ne.symm off9.2.2.2.2.2.2.1⟩
      · exact ⟨Ne.symm (ho1 _ (.tail _ (.head _))), Ne.symm (ho1 _ (.tail _ (.tail _ (.head _)))), Ne.symm (ho1 _ (.tail _ (.tail _ (.tail _ (.head _))))), Ne.symm (ho1 _ (.tail _ (.tail _ (.tail _ (.tail _ (.head _))))))⟩
      · exact ⟨Ne.symm (ho2 _ (.tail _ (.head _))), Ne.symm (ho2 _ (.tail _ (.tail _ (.head _)))), Ne.symm (ho2 _ (.tail _ (.tail _ (.tail _ (.head _))))), Ne.symm (ho2 _ (.tail _ (.tail _ (.tail _ (.tail _ (.head _))))))⟩
  clear F2 N2 dM dF dT dS
  rintro s' ⟨h2, tk2, m2, led, rfl, F2, N2, oM, oF, oT, oS, t1, t2, t3, t4, Dm, D1, D2, i1, i2, n0, n1, n2, hm, hm', rfl, ⟨a1, a2, a3, a4⟩, ⟨b1, b2, b3, b4⟩, ⟨c1, c2, c3, c4⟩, hi1, hi2, dM, dF, dT, dS⟩
  rw [two_m hm hm'] at F2
  clear hm hm'
  dsimp only [cellsL] at N2
  refine cut (Be s1.heap L s1 (P9 L ns)) ?_ ?_
  · k_steps
    refine Hold.mk ?_
    k_dflt (refine' ctr_use (move_i ?hb ?m1 ?m2 hi1 hi2 (mv1_Mv ns) (mv2_Mv ns)) ?k1 ?k2 ?k3 ?k4 ?k5 ?kK ?kd ?ku ?_; (case k1 => k_asm); (case k2 => k_asm); (case k3 => k_asm); (case k4 => k_asm); (case k5 => k_asm); (case kK => first | exact rfl | assumption); (case hb => (have := fst_len ns; omega)); (case m1 => exact .tail _ (.head _)); (case m2 => exact .tail _ (.tail _ (.head _))); (case kd => ktr_room); (case ku => ktr_units))
    rintro v8 h8 tk8 n8 F8 N8 ⟨D8, it8, nn8, rfl, hits8, hm8, hs8, ho8⟩
    replace N8 := news_cons N8 hm8 hs8
    have q1 : L + 1 + 1 + 1 + 1 ≠ D8 := ho8 _ (.tail _ (.tail _ (.tail _ (.head _))))
    clear hm8 hs8 ho8
    k_steps
    · trivial
    · exact be_intro _ (by k_asm) (by k_asm) (fun p hp => hp) ⟨_, oF, oT, oS, t1, t2, t3, t4, Dm, D1, D2, D8, i1, i2, it8, n0, n1, n2, nn8, rfl, rfl, hi1, hi2, hits8, by assumption, dF, dT, dS⟩
  clear F2 N2 dM dF dT dS hi1 hi2 a1 a2 a3 a4 b1 b2 b3 b4 c1 c2 c3 c4
  rintro s' ⟨h2, tk2, m2, led, rfl, F2, N2, oM, oF, oT, oS, t1, t2, t3, t4, Dm, D1, D2, D3, i1, i2, i3, n0, n1, n2, n3, hm, rfl, hi1, hi2, hi3, dM, dF, dT, dS⟩
  rw [one_m hm] at F2
  clear hm
  dsimp only [cellsL] at N2
  have hh1 : HoldsOk (sndF ns) (mv1F ns) := Mine.hh1 ns
  have hh2 : HoldsOk (trdF ns) (mv2F ns) := Mine.hh2 ns
  have hh3 : HoldsOk (fthF ns) (mvFF ns) := Mine.hh3 ns
  have hl1 : (sndF ns).length < 2 ^ 19 := by have := snd_len ns; omega
  have hl2 : (trdF ns).length < 2 ^ 19 := by have := trd_len ns; omega
  have hl3 : (fthF ns).length < 2 ^ 19 := by have := fth_len ns; omega
  have hv1 := mv1_Mv ns
  have hv2 := mv2_Mv ns
  have hv3 := mv_Mv ns
  refine cut (Be s1.heap L s1 (fun _ led => P10 L ns led)) ?_ ?_
  · k_steps
    refine be_intro _ (by k_asm) (by k_asm) (fun p hp => ?_) ⟨oM, oF, oT, oS, t4, D3, i3, n3, rfl, hi3, dM, dF⟩
    rcases List.mem_cons.mp hp with rfl | hp
    · exact .head _
    · exact .tail _ (.tail _ (.tail _ (.tail _ hp)))
  clear F2 N2 dM dF dT dS hi1 hi2 hi3 hh1 hh2 hh3 hl1 hl2 hl3 hv1 hv2 hv3
  rintro s' ⟨h2, tk2, m2, led, rfl, F2, N2, oM, oF, oT, oS, t4, D3, i3, n3, rfl, hi3, dM, dF⟩
  dsimp only [cellsL] at N2
  have hl3 : (fthF ns).length ≤ 18 := fth_len ns
  refine cut (Be s1.heap L s1 (P11 L ns)) ?_ ?_
  · k_steps
    refine Hold.mk ?_
    refine LCg.ListComp_U F2 (by with_unfolding_all rfl) (by decide) (by rfl) (by decide) (by rfl) ?_
    k_steps
    refine Hold.mk ?_
    rename Fr _ _ _ _ => F3
    rename News _ _ _ _ => N3
    rename IsRange _ _ _ _ _ _ _ _ => R3
    refine LCg.CompSrc.range rfl F3 N3 R3 (rng_small (by omega)) (rng_size _) (size6 (by omega)) fun g9 => comp_ind (fun i ys nw => nw = _ ∧ StrsAre ys (((fthF ns).cps.toList.reverse.take i).map sg)) ⟨rfl, .nil⟩ ?_ ?_
    · rintro j ys nw v I9 oI C oC D9 m₉ h9 tk9 E' hj ⟨rfl, hys⟩ ⟨t9, rfl⟩ hC hx F9 N9 off ne
      rw [Int.zero_add] at hx
      k_steps
      obtain ⟨c, hcj, hci⟩ := rev_item hj
      rw [hci]
      refine comp_end (by k_asm) (by k_asm) (.head _) (.tail _ (.head _)) (.tail _ (.tail _ (.head _))) (fun p hp => .tail _ (.tail _ (.tail _ hp))) off trivial ⟨rfl, ?_⟩
      rw [List.take_add_one, hcj, Option.toList_some, List.map_append]
      exact strs_snoc1 hys
    · rintro ys nw ⟨rfl, hys⟩ D9 h9 tk9 F9 N9 off9
      rw [show (fthF ns).length = (fthF ns).cps.toList.reverse.length by rw [len_cps, List.length_reverse], List.take_length] at hys
      k_steps
      refine join_C N9 hys (by rw [len_cps] at hl3; rw [List.length_map, List.length_reverse]; omega) sg_len200 fun t8 k8 => ?_
      replace N9 := News.drop9 (news := (D3, listOf i3 n3) :: cellsL L oM oF oT oS) N9 fun p hp => .tail _ hp
      dsimp only [cellsL] at N9
      clear off9
      k_steps
      · trivial
      · exact be_intro _ (by k_asm) (by k_asm) (fun p hp => hp) ⟨⟨oM, oF, oT, oS, t4, D3, i3, n3, rfl, hi3, dM, dF⟩, t8, rfl⟩
  clear F2 N2 dM dF hi3
  rintro s' ⟨h2, tk2, m2, led, rfl, F2, N2, ⟨oM, oF, oT, oS, t4, D3, i3, n3, rfl, hi3, dM, dF⟩, t5, hm⟩
  dsimp only [cellsL] at N2
  rw [one_m hm] at F2
  clear hm
  have hh4 : HoldsOk (revF (fthF ns)) (invF (mvFF ns)) := Mine.hh4 ns
  have hprm : ∀ j : Nat, j < 3 → (j : Int) ∈ mvFF ns := Mine.hprm ns
  have hv3 := mv_Mv ns
  have hv4 := inv_Mv hv3 hprm
  have hl4 : (revF (fthF ns)).length < 2 ^ 19 := by rw [rev_len]; omega
  refine cut (Be s1.heap L s1 (fun _ led => P10 L ns led)) ?_ ?_
  · k_steps
    refine Hold.mk ?_
    refine LCg.ListComp_U F2 (by with_unfolding_all rfl) (by decide) (by rfl) (by decide) (by rfl) ?_
    k_steps
    refine Hold.mk ?_
    rename Fr _ _ _ _ => F3
    rename News _ _ _ _ => N3
    rename IsRange _ _ _ _ _ _ _ _ => R3
    refine LCg.CompSrc.range (n := 3) rfl F3 N3 R3 (by decide) (by decide) (size6 (by decide)) fun g9 => comp_ind (fun i ys nw => nw = _ ∧ IntsAre ys ((invF (mvFF ns)).take i)) ⟨rfl, .nil⟩ ?_ ?_
    · rintro j ys nw v I9 oI C oC D9 m₉ h9 tk9 E' hj ⟨rfl, hys⟩ ⟨t9, rfl⟩ hC hx F9 N9 off ne
      rw [Int.zero_add] at hx
      k_steps
      refine index_C (by k_asm) (.tail _ (.tail _ (.tail _ (.head _)))) hi3 hv3 (hprm j hj) ?_
      refine comp_end (by k_asm) (by k_asm) (.head _) (.tail _ (.head _)) (.tail _ (.tail _ (.head _))) (fun p hp => .tail _ (.tail _ (.tail _ hp))) off trivial ⟨rfl, ?_⟩
      rw [List.take_add_one, inv_at hj, Option.toList_some]
      exact ints_snoc hys
    · rintro ys nw ⟨rfl, hys⟩ D9 h9 tk9 F9 N9 off9
      replace hys : IntsAre ys.toArray.toList (invF (mvFF ns)) := hys
      k_steps
      exact be_intro _ (by k_asm) (by k_asm) (fun p hp => .tail _ hp) ⟨oM, oF, oT, oS, t4, D3, i3, n3, rfl, hi3, dM, dF⟩
  clear F2 N2 dM dF hi3 hh4 hprm hv3 hv4 hl4
  rintro s' ⟨h2, tk2, m2, led, rfl, F2, N2, oM, oF, oT, oS, t4, D3, i3, n3, rfl, hi3, dM, dF⟩
  dsimp only [cellsL] at N2
  refine cut (Be s1.heap L s1 (P13 L ns (arF (fthF ns)))) ?_ ?_
  · k_steps
    refine Hold.mk ?_
    refine LCg.Assign_ListComp_U F2 rfl (by with_unfolding_all rfl) (by with_unfolding_all rfl) (by decide) (by rfl) (by decide) (by rfl) (by rfl) (by rfl) ?_
    k_steps
    refine Hold.mk ?_
    rename Fr _ _ _ _ => F3
    rename News _ _ _ _ => N3
    have hks := mk_strs
    refine gen_led N3 fun itsK hks N3 => ?_
    refine LCg.CompSrc.ledger rfl F3 N3 (.head _) (size6 (by have := hks.length; rw [Array.length_toList] at this; rw [this]; decide)) fun g9 => comp_ind (fun i ys nw => nw = _ ∧ StrsAre ys (([0, 1, 2].take i).map (arF (fthF ns)))) ⟨rfl, .nil⟩ ?_ ?_
    · rintro j ys nw v I9 oI C oC D9 m₉ h9 tk9 E' hj ⟨rfl, hys⟩ hv hC hx F9 N9 off ne
      obtain ⟨y, t9, hyj, rfl⟩ := strs_at hks hv
      obtain ⟨rfl, hj0⟩ := mk_at hyj
      have hk1 := mk_len j
      have hr6 := rep6_len (fthF ns)
      k_steps
      refine comp_end (by k_asm) (by k_asm) (.head _) (.tail _ (.head _)) (.tail _ (.tail _ (.head _))) (fun p hp => .tail _ (.tail _ (.tail _ hp))) off (.inr ⟨_, .head _, rfl, _, rfl⟩) ⟨rfl, ?_⟩
      rw [List.take_add_one, hj0, Option.toList_some, List.map_append]
      exact strs_snoc1 hys
    · rintro ys nw ⟨rfl, hys⟩ D9 h9 tk9 F9 N9 off9
      have h3 : itsK.size = 3 := by have := hks.length; rw [Array.length_toList] at this; rw [this]; rfl
      rw [h3] at hys
      refine ⟨rfl, be_intro _ F9 N9 (fun p hp => ?_) ⟨oM, oF, oT, oS, D9, ys.toArray, ys.length, rfl, rfl, hys⟩⟩
      rcases List.mem_cons.mp hp with rfl | hp
      · exact .head _
      · exact .tail _ (.tail _ (.tail _ hp))
  clear F2 N2 dM dF hi3
  rintro s' ⟨h2, tk2, m2, led, rfl, F2, N2, oM, oF, oT, oS, Da, ia, na, hm, rfl, hia⟩
  dsimp only [cellsL] at N2
  rw [one_m hm] at F2
  clear hm
  have hla : ∀ k : Nat, k < 3 → StrsOk (lwF (arF (fthF ns) k).cps.toList) ∧ wordsF true false ((arF (fthF ns) k).length + 2) .sp (arF (fthF ns) k).cps.toList = .ok (lwF (arF (fthF ns) k).cps.toList) := Mine.hla ns
  k_steps
  refine Hold.mk ?_
  refine LCg.ListComp_U F2 (by with_unfolding_all rfl) (by decide) (by rfl) (by decide) (by rfl) ?_
  refine nameX_L F2 (by rfl) ?_
  refine LCg.CompSrc.ledger rfl F2 N2 (.head _) (size6 (by have := hia.length; rw [Array.length_toList] at this; rw [this]; exact (by decide : 3 ≤ 200))) fun g9 => comp_ind (RefI (fun k => lwF (arF (fthF ns) k).cps.toList) _) RefI.nil ?_ ?_
  · rintro j ys nw v I9 oI C oC D9 m₉ h9 tk9 E' hj hR hv hC hx F9 N9 off ne
    obtain ⟨y, t9, hyj, rfl⟩ := strs_at hia hv
    obtain ⟨rfl, hj3⟩ := ar_at hyj
    k_steps
    refine Hold.mk ?_
    k_dflt (refine' ctrS_top (told_ _ _ _ _ _ _ _ (ar_len hl3)) ?k1 ?k2 ?k3 ?k4 ?k5 ?kK ?kd ?ku ?_; (case k1 => assumption); (case k2 => k_asm); (case k3 => k_asm); (case k4 => k_asm); (case k5 => k_asm); (case kK => first | exact rfl | assumption); (case kd => ktr_room); (case ku => ktr_units))
    rintro v8 h8 tk8 n8 F8 N8 (⟨D2, its2, ws, c2, rfl, hw, hs2, hm2, hsub, hlt⟩ | ⟨msg, t, rfl, hw, hsub⟩)
    · obtain rfl : ws = _ := by
        have := hw.symm.trans (hla j hj3).2
        injection this
      refine comp_end (news' := (D2, listOf its2 c2) :: nw) F8 N8 (hsub _ (.head _)) (hsub _ (.tail _ (.head _))) (hsub _ (.tail _ (.tail _ (.head _)))) (fun p hp => ?_)
        (off3_cons off (Nat.ne_of_gt (hlt _ (.head _))) (Nat.ne_of_gt (hlt _ (.tail _ (.head _)))) (Nat.ne_of_gt (hlt _ (.tail _ (.tail _ (.head _)))))) (.inr ⟨_, .tail _ (hR.1 _ (.head _)), rfl, _, rfl⟩) (hR.snoc hs2)
      rcases List.mem_cons.mp hp with rfl | hp
      · exact hm2
      · exact hsub p (.tail _ (.tail _ (.tail _ hp)))
    · exact absurd (hw.symm.trans (hla j hj3).2) (by nofun)
  · rintro ys nw hR D9 h9 tk9 F9 N9 off9
    rw [show ia.size = 3 by have := hia.length; rw [Array.length_toList] at this; rw [this]; rfl] at hR
    k_steps
    refine Hold.mk ?_
    refine LCg.ListComp_U F9 (by with_unfolding_all rfl) (by decide) (by rfl) (by decide) (by rfl) ?_
    refine nameX_L F9 (by rfl) ?_
    refine LCg.CompSrc.ledger rfl F9 N9 (.tail _ (hR.1 _ (.head _))) (size6 (by have := hia.length; rw [Array.length_toList] at this; rw [this]; exact (by decide : 3 ≤ 200))) fun g8 => comp_ind (RefI (fun k => lwF (arF (fthF ns) k).cps.toList) _) RefI.nil ?_ ?_
    · rintro j ys2 nw2 v I9 oI C oC D8 m₉ h9 tk9 E' hj hR2 hv hC hx F9 N9 off ne
      obtain ⟨y, t9, hyj, rfl⟩ := strs_at hia hv
      obtain ⟨rfl, hj3⟩ := ar_at hyj
      k_steps
      refine Hold.mk ?_
      k_dflt (refine' ctr_use (words_ _ _ _ _ _ _ _ (ar_len hl3)) ?k1 ?k2 ?k3 ?k4 ?k5 ?kK ?kd ?ku ?_; (case k1 => k_asm); (case k2 => k_asm); (case k3 => k_asm); (case k4 => k_asm); (case k5 => k_asm); (case kK => first | exact rfl | assumption); (case kd => ktr_room); (case ku => ktr_units))
      rintro v8 h8 tk8 n8 F8 N8 ⟨D2, its2, c2, rfl, hs2, hm2, hsub, hlt⟩
      refine comp_end (news' := (D2, listOf its2 c2) :: nw2) F8 N8 (hsub _ (.head _)) (hsub _ (.tail _ (.head _))) (hsub _ (.tail _ (.tail _ (.head _)))) (fun p hp => ?_)
        (off3_cons off (Nat.ne_of_gt (hlt _ (.head _))) (Nat.ne_of_gt (hlt _ (.tail _ (.head _)))) (Nat.ne_of_gt (hlt _ (.tail _ (.tail _ (.head _)))))) (.inr ⟨_, .tail _ (hR2.1 _ (.tail _ (hR.1 _ (.head _)))), rfl, _, rfl⟩) (hR2.snoc hs2)
      rcases List.mem_cons.mp hp with rfl | hp
      · exact hm2
      · exact hsub p (.tail _ (.tail _ (.tail _ hp)))
    · rintro ys2 nw2 hR2 D8 h8 tk8 F8 N8 off8
      rw [show ia.size = 3 by have := hia.length; rw [Array.length_toList] at this; rw [this]; rfl] at hR2
      obtain ⟨as1, r1⟩ := ref_reads N8 (.tail _ (hR2.1 _ (.head _))) (fun p hp => .tail _ (hR2.1 _ (.tail _ hp))) hR
      obtain ⟨as2, r2⟩ := ref_reads N8 (.head _) (fun p hp => .tail _ hp) hR2
      have hsh := dat3_shaped (W := fun k => lwF (arF (fthF ns) k).cps.toList) fun k hk => (hla k hk).1
      k_steps
      refine Hold.mk ?_
      refine eq_dataH r1 r2 hsh hsh (by ktr_units) ?_
      rw [PySem.SeqAt.eqv_refl _ (PySem.SeqAt.canLay_of_shaped hsh)]
      exact hgood _ _ _ F8)
end Mine
theorem PySem.Challenge.cw_mj0242_04_holds : PySem.Challenge.rw_mj0242_04.Holds :=
  Mine.law0
