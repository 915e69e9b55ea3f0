import PyProof.Rows.All
import Wide.All
import OpenK.AllK
import Wide.FinOn
import PySem.Challenge.RW_il0168_01
local macro_rules | `(tactic| omega) => `(tactic| first | decide | lia)
set_option hygiene false in
local macro_rules | `(tactic| walk_at "eval Name") => `(tactic| first
  | refine nm_local ‹_› (by walk_at "nv") ?_ | refine nm_local (Live.fr ‹_›) (by walk_at "nv") ?_ | refine nm_local (frNs (Ini.F ‹_›)) (by walk_at "nv") ?_ | refine nm_local (frNs ‹_›) (by walk_at "nv") ?_ | refine nm_cell ‹_› ?_
  | refine nm_global (Heap.Ns.keeps (Glob.g ‹_›) (Fr.keep ‹_›)) ‹_› ?_ | refine nm_global (Glob.g (Ctx0.G (Live.X ‹_›))) ‹_› ?_ | refine nm_global (Glob.g (Ctx0.G (Ini.X ‹_›))) ‹_› ?_ | refine nm_global (Glob.g (Ctx0.G ‹_›)) ‹_› ?_
  | refine nm_local (Lw.fr ‹_›) (by walk_at "nv") ?_ | refine nm_global (Glob.g (Ctx0.G (Lw.X ‹_›))) ‹_› ?_)
local macro_rules | `(tactic| walk_at "nv") => `(tactic| first | rfl | assumption | (simp; done))
set_option hygiene false in
local macro_rules | `(tactic| x_close) => `(tactic| first
  | exact hQ _ _ _ _ (kept_of D) (fresh_of D 0 rfl) (fresh_of D 1 rfl) (D.at 0 _ _ rfl) (D.at 1 _ _ rfl)
  | exact hQ _ _ _ (kept_of D) (fresh_of D 0 rfl) (D.at 0 _ _ rfl) | exact hQ _ _ _ (kept_of D) (fresh_of D 1 rfl) (D.at 1 _ _ rfl)
  | exact hQ _ _ (kept_of D) | exact hQ _ _ (fun _ _ e => e) | exact hQ _ _ | exact hQ _)
section
open PySem PySem.W PyProof.Rows
set_option Elab.async false
set_option maxRecDepth 100000
namespace Mine
open PySem.Sre PySem.Builtin.Re

noncomputable def pcode : Array Nat := #[14, 17, 4, 1, 1, 21, 9, 0, 604043296, 1, 0, 0, 0, 0, 0, 8, 4, 0, 13, 14, 21, 9, 0, 604043296, 1, 0, 0, 0, 0, 0, 8, 4, 0, 1]
noncomputable def bits (c : Nat) : Nat := #[0, 604043296, 1, 0, 0, 0, 0, 0].getD (c / 32) 0
noncomputable def riskC (c : Nat) : Bool := !((c < 256 && (bits c).testBit (c % 32)) || isWord c)

theorem bits_at (c i : Nat) (h : c < 256) (hi : i = 6 ∨ i = 21) : pcode.getD (i + (1 + c / 32)) 0 = bits c := by
  have hk : c / 32 < 8 := by omega
  unfold bits
  generalize c / 32 = k at hk
  rcases hi with rfl | rfl <;>
    (rcases (by omega : k = 0 ∨ k = 1 ∨ k = 2 ∨ k = 3 ∨ k = 4 ∨ k = 5 ∨ k = 6 ∨ k = 7) with h | h | h | h | h | h | h | h <;> subst h <;> rfl)

theorem inSet_is (c i : Nat) (hi : i = 5 ∨ i = 20) (sn : Sre.Seen) : ∃ sn', inSet pcode c 34 i true sn = .ok (riskC c, sn') := by
  have e1 : inSet pcode c 34 i true sn = inSet pcode c 33 (i + 1) false (sn.add 21) := by
    rcases hi with rfl | rfl <;> rfl
  have e2 : inSet pcode c 33 (i + 1) false (sn.add 21) =
      (if (c < 256 && (pcode.getD ((i + 1) + (1 + c / 32)) 0).testBit (c % 32)) = true then .ok (false, (sn.add 21).add 9) else inSet pcode c 32 (i + 10) false ((sn.add 21).add 9)) := by
    rcases hi with rfl | rfl <;> rfl
  have e3 : inSet pcode c 32 (i + 10) false ((sn.add 21).add 9) =
      (do if ← category 4 c then pure (false, (((sn.add 21).add 9).add 8).add 59) else inSet pcode c 31 (i + 12) false ((((sn.add 21).add 9).add 8).add 59)) := by
    rcases hi with rfl | rfl <;> rfl
  have e4 : category 4 c = .ok (isWord c) := by
    show (Except.ok (isWord c)).map (· != (4 % 2 == 1)) = _
    show Except.ok (isWord c != false) = _
    cases isWord c <;> rfl
  have e5 : ∀ z, inSet pcode c 31 (i + 12) false z = .ok (true, z.add 0) := by
    intro z; rcases hi with rfl | rfl <;> rfl
  rw [e1, e2, e3, e4]
  unfold riskC
  by_cases hc : c < 256
  · have hb : pcode.getD (i + 1 + (1 + c / 32)) 0 = bits c := bits_at c (i + 1) hc (by omega)
    rw [hb]
    cases hq : (decide (c < 256) && (bits c).testBit (c % 32)) with
    | true => rw [if_pos rfl]; exact ⟨(sn.add 21).add 9, by simp⟩
    | false =>
      rw [if_neg (by decide)]
      cases hw : isWord c with
      | true => exact ⟨_, rfl⟩
      | false => exact ⟨_, e5 _⟩
  · have hd : decide (c < 256) = false := decide_eq_false hc
    rw [hd, Bool.false_and, if_neg (by decide), Bool.false_and]
    cases hw : isWord c with
    | true => exact ⟨_, rfl⟩
    | false => exact ⟨_, e5 _⟩

noncomputable def firstUnsafe (text : Array Nat) (lim : Nat) : (fuel s : Nat) → Option Nat
  | 0, _ => none
  | fuel + 1, s => if s ≥ lim then none else if riskC (text.getD s 0) then some s else firstUnsafe text lim fuel (s + 1)

theorem admitted_is (m : M) (hm : m.code = pcode) : ∀ (fuel s : Nat) (sn : Sre.Seen), ∃ sn', M.admitted m fuel s sn = .ok (firstUnsafe m.text m.lim fuel s, sn')
  | 0, s, sn => ⟨sn, rfl⟩
  | fuel + 1, s, sn => by
    unfold M.admitted firstUnsafe
    by_cases h : s ≥ m.lim
    · rw [if_pos h, if_pos h]; exact ⟨_, rfl⟩
    · rw [if_neg h, if_neg h, hm]
      obtain ⟨sn', e⟩ := inSet_is (m.text.getD s 0) 5 (.inl rfl) sn
      have hz : pcode.size = 34 := rfl
      rw [hz, e]
      cases hq : riskC (m.text.getD s 0) with
      | true => exact ⟨sn', rfl⟩
      | false =>
        obtain ⟨sn'', e'⟩ := admitted_is m hm fuel (s + 1) sn'
        exact ⟨sn'', by simpa using e'⟩

theorem firstUnsafe_some {text : Array Nat} {lim : Nat} : ∀ {fuel s i : Nat}, firstUnsafe text lim fuel s = some i → i < lim ∧ riskC (text.getD i 0) = true
  | 0, _, _, h => nomatch h
  | fuel + 1, s, i, h => by
    unfold firstUnsafe at h
    split at h
    · cases h
    · split at h
      · cases h; exact ⟨by omega, by assumption⟩
      · exact firstUnsafe_some h

section
variable {M : Model} {A : Around} {E : Value → Shared → Prop} {s : Shared}

theorem rules_loop {f : Nat → PUnit → Sem (ForInStep PUnit)} (hf : ∀ i u, f i u = pure (.yield ⟨⟩) ∨ ∃ t, f i u = (rule t >>= fun _ => pure (.yield ⟨⟩))) : ∀ (l : List Nat) {Q : PUnit → Shared → Prop}, Q ⟨⟩ s → wpAny M A (forIn l ⟨⟩ f) Q E s
  | [], Q, h => by rw [List.forIn_nil]; exact wpAny_pure h
  | x :: l, Q, h => by
    rw [List.forIn_cons]
    rcases hf x ⟨⟩ with e | ⟨t, e⟩
    · rw [e]; exact wpAny_bind (wpAny_pure (rules_loop hf l h))
    · rw [e]; exact wpAny_bind (wpAny_bind (wpAny_rule (wpAny_pure (rules_loop hf l h))))

theorem runToEnd_of {m m' : Sre.M} (h : m.runFor 4 = m') (ho : m'.outcome.isSome = true) {Q : Option Sre.M → Shared → Prop}
    (hq : wpAny M A (match m'.outcome with
      | some .matched => pure (some m')
      | some .failed => pure none
      | some (.stuck why) => unsupported s!"_sre:{why}"
      | none => unsupported "internal:sre:no-outcome" : Sem (Option Sre.M)) Q E s) : wpAny M A (reRunToEnd m) Q E s := by
  unfold reRunToEnd
  have e : (2 : Nat) ^ 64 = (2 ^ 64 - 1) + 1 := rfl
  rw [e]
  have hd : ∀ k, reDrive (k + 1) m = pure m' := by
    intro k
    show (if (m.runFor reTurnSteps).outcome.isSome then pure (m.runFor reTurnSteps) else _) = _
    show (if (m.runFor 4).outcome.isSome then pure (m.runFor 4) else _) = _
    rw [h, ho]; rfl
  rw [hd]
  refine wpAny_bind (wpAny_pure ?_)
  refine wpAny_bind (rules_loop (fun i u => ?_) _ hq)
  cases m'.seen.has i with
  | true => exact .inr ⟨_, rfl⟩
  | false => exact .inl rfl
end

theorem fs_eq (text : Array Nat) (hs : 0 < text.size) : ∃ m : Sre.M, forSearch pcode text 0 0 text.size false = M.attemptFrom m 0 true ∧ m.code = pcode ∧ m.text = text ∧ m.lim = text.size ∧ m.pc = 18 ∧ m.weight = 0 ∧ m.frames = [] ∧ m.answer = none ∧ m.outcome = none ∧ m.wholeText = false ∧ m.mustAdvance = false := by
  refine ⟨{ code := pcode, text, lim := text.size, start := 0, pc := 18, pos := 0, handed := 0, marks := Array.replicate 0 none, mustAdvance := false, seen := ({} : Sre.Seen).add 14, lastStart := text.size }, ?_, ?_⟩
  · unfold forSearch
    rw [if_neg]
    · rfl
    · show ¬ ((decide (0 > text.size) || decide (text.size - 0 < 1)) = true)
      have a : decide (0 > text.size) = false := decide_eq_false (by omega)
      have b : decide (text.size - 0 < 1) = false := decide_eq_false (by omega)
      rw [a, b]; decide
  · exact ⟨rfl, rfl, rfl, rfl, rfl, rfl, rfl, rfl, rfl, rfl⟩

theorem search_none (text : Array Nat) (hs : 0 < text.size) (h : firstUnsafe text text.size (text.size + 1) 0 = none) :
    ∃ m', (forSearch pcode text 0 0 text.size false).runFor 4 = m' ∧ m'.outcome = some .failed := by
  obtain ⟨m, e, hc, ht, hl, hp, hw, hf, ha, ho, hwt, hma⟩ := fs_eq text hs
  rw [e]
  obtain ⟨sn, ea⟩ := admitted_is m hc (m.lim + 1 - 0) 0 m.seen
  rw [ht, hl, Nat.sub_zero, h] at ea
  have e1 : M.attemptFrom m 0 true = { m with seen := sn }.say false := by
    unfold M.attemptFrom
    have hh : m.hasFirstSet = true := by unfold M.hasFirstSet; rw [hc]; rfl
    rw [hh, hl, Nat.sub_zero, ea]; rfl
  rw [e1]
  refine ⟨_, rfl, ?_⟩
  have e2 : ({ m with seen := sn }.say false).step = { ({ m with seen := sn }.say false) with outcome := some .failed } := by
    unfold M.step M.say
    simp [ho, hf]
  have e3 : M.runFor 4 ({ m with seen := sn }.say false) = M.runFor 3 (({ m with seen := sn }.say false).step) := by
    show (if ({ m with seen := sn }.say false).outcome.isSome then _ else _) = _
    rw [if_neg]; show ¬ (m.outcome.isSome = true); rw [ho]; decide
  rw [e3, e2]
  rfl
theorem search_some (text : Array Nat) (hs : 0 < text.size) {i : Nat} (h : firstUnsafe text text.size (text.size + 1) 0 = some i) :
    ∃ m', (forSearch pcode text 0 0 text.size false).runFor 4 = m' ∧ m'.outcome = some .matched := by
  obtain ⟨m, e, hc, ht, hl, hp, hw, hf, ha, ho, hwt, hma⟩ := fs_eq text hs
  obtain ⟨hi, hu⟩ := firstUnsafe_some h
  rw [e]
  obtain ⟨sn, ea⟩ := admitted_is m hc (m.lim + 1 - 0) 0 m.seen
  rw [ht, hl, Nat.sub_zero, h] at ea
  obtain ⟨code, text', lim, start, lastStart, wholeText, mustAdvance, pc, pos, handed, outermost, marks, lastmark, lastindex, loops, inner, frames, weight, answer, seen, outcome⟩ := m
  dsimp only at hc ht hl hp hw hf ha ho hwt hma
  subst hc ht hl hp hw hf ha ho hwt hma
  have e1 : ∀ m : Sre.M, M.hasFirstSet m = true → M.admitted m (m.lim + 1 - 0) 0 m.seen = .ok (some i, sn) → M.attemptFrom m 0 true = { m with mustAdvance := false, seen := sn }.attemptAt i true := by
    intro m hh ea
    unfold M.attemptFrom
    rw [hh, ea]; rfl
  rw [e1 _ rfl ea]
  obtain ⟨sn2, e2⟩ := inSet_is (text'.getD i 0) 20 (.inr rfl) (sn.add 13)
  rw [hu] at e2
  generalize hM1 : M.attemptAt _ i true = M1
  have f1 : M1.code = pcode ∧ M1.text = text' ∧ M1.lim = text'.size ∧ M1.pc = 18 ∧ M1.pos = i ∧ M1.outermost = true ∧ M1.answer = none ∧ M1.outcome = none ∧ M1.wholeText = false ∧ M1.mustAdvance = false ∧ M1.seen = sn ∧ (∃ f : Sre.Frame, f.wait = .nextStart ∧ M1.frames = [f]) := by
    subst hM1
    exact ⟨rfl, rfl, rfl, rfl, rfl, rfl, rfl, rfl, rfl, rfl, rfl, _, rfl, rfl⟩
  clear hM1
  obtain ⟨code, text, lim, start, lastStart, wholeText, mustAdvance, pc, pos, handed, outermost, marks, lastmark, lastindex, loops, inner, frames, weight, answer, seen, outcome⟩ := M1
  dsimp only at f1
  obtain ⟨rfl, rfl, rfl, rfl, rfl, rfl, rfl, rfl, rfl, rfl, rfl, f, hw, rfl⟩ := f1
  have r : ∀ (n : Nat) (m : Sre.M), m.outcome = none → M.runFor (n + 1) m = M.runFor n m.step := by
    intro n m h
    show (if m.outcome.isSome then m else _) = _
    rw [h]; rfl
  refine ⟨_, rfl, ?_⟩
  rw [r 3 _ rfl]
  have s1 : M.step ⟨pcode, text, text.size, start, lastStart, false, false, 18, pos, handed, true, marks, lastmark, lastindex, loops, inner, [f], weight, none, seen, none⟩ =
      ⟨pcode, text, text.size, start, lastStart, false, false, 33, pos + 1, handed, true, marks, lastmark, lastindex, loops, inner, [f], weight, none, sn2, none⟩ := by
    show (if pos ≥ text.size then _ else match inSet pcode (text.getD pos 0) 34 20 true (seen.add 13) with | .error why => _ | .ok (false, seen) => _ | .ok (true, seen) => _) = _
    rw [if_neg (by omega), e2]; rfl
  rw [s1, r 2 _ rfl]
  have s2 : ∀ p, M.step ⟨pcode, text, text.size, start, lastStart, false, false, 33, p, handed, true, marks, lastmark, lastindex, loops, inner, [f], weight, none, sn2, none⟩ =
      ⟨pcode, text, text.size, start, lastStart, false, false, 33, p, p, true, marks, lastmark, lastindex, loops, inner, [f], weight, some true, sn2.add 1, none⟩ := fun p => rfl
  rw [s2, r 1 _ rfl]
  obtain ⟨wt, fpc, fpos, fo, fc, fk, fl, fb⟩ := f
  dsimp only at hw
  subst hw
  rfl
end Mine
end
section
open PySem PySem.W PyProof.Rows PySem.Calls
set_option Elab.async false
set_option maxRecDepth 100000
namespace Mine
theorem mx0 (n : Nat) : (max (0 : Int) (n : Int)).toNat = n := by rw [Int.max_eq_right (Int.natCast_nonneg n)]; rfl
theorem mn0 {k n : Nat} (h : k ≤ n) : max (0 : Int) (min (k : Int) (n : Int)) = (k : Int) := by rw [Int.min_eq_left (Int.ofNat_le.mpr h), Int.max_eq_right (Int.natCast_nonneg k)]
theorem mx1 {k n : Nat} (h : k ≤ n) : (max (k : Int) (n : Int)).toNat = n := by rw [Int.max_eq_right (Int.ofNat_le.mpr h)]; rfl
theorem tn1 {n : Nat} (h : 0 < n) : ((-1 : Int) + (n : Nat)).toNat = n - 1 := by
  obtain ⟨k, rfl⟩ : ∃ k, n = k + 1 := ⟨n - 1, (Nat.sub_add_cancel h).symm⟩
  rw [show (-1 : Int) + ((k + 1 : Nat) : Int) = (k : Int) by omega]; rfl
theorem tri2 {b md gr : Int} (hb : b = 2 ∨ b = 3) (hm : md = b * 2 ∨ md = b * 3) (hg : gr = md * 2 ∨ gr = md * 3) : (2 ≤ b ∧ b ≤ 27) ∧ (2 ≤ md ∧ md ≤ 27) ∧ (2 ≤ gr ∧ gr ≤ 27) := by
  have h1 : 2 ≤ b ∧ b ≤ 3 := by rcases hb with h | h <;> rw [h] <;> decide
  have h2 : 2 ≤ md ∧ md ≤ 9 := by rcases hm with h | h <;> rw [h] <;> omega
  have h3 : 2 ≤ gr ∧ gr ≤ 27 := by rcases hg with h | h <;> rw [h] <;> omega
  exact ⟨⟨h1.1, Int.le_trans h1.2 (by decide)⟩, ⟨h2.1, Int.le_trans h2.2 (by decide)⟩, h3⟩
theorem ex8 {a b c d e f g h : Type} {P : a → b → c → d → e → f → g → h → Prop} (x1 : a) (x2 : b) (x3 : c) (x4 : d) (x5 : e) (x6 : f) (x7 : g) (x8 : h) (p : P x1 x2 x3 x4 x5 x6 x7 x8) : ∃ x1 x2 x3 x4 x5 x6 x7 x8, P x1 x2 x3 x4 x5 x6 x7 x8 := ⟨x1, x2, x3, x4, x5, x6, x7, x8, p⟩
theorem ex9 {a b c d e f g h i : Type} {P : a → b → c → d → e → f → g → h → i → Prop} (x1 : a) (x2 : b) (x3 : c) (x4 : d) (x5 : e) (x6 : f) (x7 : g) (x8 : h) (x9 : i) (p : P x1 x2 x3 x4 x5 x6 x7 x8 x9) : ∃ x1 x2 x3 x4 x5 x6 x7 x8 x9, P x1 x2 x3 x4 x5 x6 x7 x8 x9 := ⟨x1, x2, x3, x4, x5, x6, x7, x8, x9, p⟩
theorem hideQ {α : Type} {M : Model} {A : Around} {c : Sem α} {Q : α → Shared → Prop} {E : Value → Shared → Prop} {s : Shared} (h : ∀ Q' : α → Shared → Prop, (∀ r s, Q r s → Q' r s) → wpAny M A c Q' E s) : wpAny M A c Q E s := h Q fun _ _ h => h
theorem hideS {M : Model} {A : Around} {st : Stmt} {env : Env} {Q : Flow → Shared → Prop} {E : Value → Shared → Prop} {hh : Heap} {g : Array GenState} {d : Drawn} {t : Nat} {os : OsState} (h : ∀ (Q' : Flow → Shared → Prop) (E' : Value → Shared → Prop) (t' : Nat), (∀ r s, Q r s → Q' r s) → wpAny M A (exec st env) Q' E' ⟨hh, g, d, t', os⟩) : wpAny M A (exec st env) Q E ⟨hh, g, d, t, os⟩ := h Q E t fun _ _ h => h
theorem hideR {M : Model} {A : Around} {c : Code} {Q : Result → Shared → Prop} {s : Shared} (h : ∀ Q' : Result → Shared → Prop, (∀ r s, Q r s → Q' r s) → codeAny M A c Q' s) : codeAny M A c Q s := h Q fun _ _ h => h
theorem shows {α : Type} {P Q : α → Shared → Prop} {r : α} {s : Shared} (h : ∀ r s, P r s → Q r s) (p : P r s) : Q r s := h r s p
noncomputable abbrev pw : Program := PySem.Challenge.pw_il0168_01
noncomputable def stm (i : Nat) : Stmt := pw.main.body.getD i (.Pass default)
noncomputable def fParams : Stmt → Arguments | .FunctionDef _ a _ _ _ _ _ _ _ _ => a | _ => default
noncomputable def fBody : Stmt → List Stmt | .FunctionDef _ _ b _ _ _ _ _ _ _ => b | .ClassDef _ _ _ b _ _ _ _ _ _ _ => b | _ => []
noncomputable def fScope : Stmt → Scope | .FunctionDef _ _ _ _ _ _ s _ _ _ => s | .ClassDef _ _ _ _ _ _ s _ _ _ _ => s | _ => default
noncomputable def sub (s : Stmt) (i : Nat) : Stmt := (fBody s).getD i (.Pass default)
noncomputable abbrev NoE : Value → Shared → Prop := fun _ _ => False

noncomputable def fdTop (name : Str) (i : Nat) (pm cd : Value) : FuncData := docDef name (fParams (stm i)) (fBody (stm i)) (fScope (stm i)) pm cd .none

structure Room (A : Around) (d u : Nat) : Prop where
  handled : A.handled = none
  depth : A.depth + d < recursionLimit
  units : A.units + u < cLine
theorem Room.deeper {A : Around} {d u : Nat} (r : Room A (d + 1) (u + 3)) (env : Env) : Room (A.deeper env) d u :=
  ⟨r.handled, by have := r.depth; show A.depth + 1 + d < _; omega, by have := r.units; show A.units + 3 + u < _; omega⟩
theorem Room.less {A : Around} {d u d' u' : Nat} (r : Room A d u) (hd : d' ≤ d := by omega) (hu : u' ≤ u := by omega) : Room A d' u' :=
  ⟨r.handled, by have := r.depth; omega, by have := r.units; omega⟩
theorem Room.d {A : Around} {d u : Nat} (r : Room A d u) : A.depth < recursionLimit := by have := r.depth; omega
theorem Room.u {A : Around} {d u : Nat} (r : Room A d u) : A.units < cLine := by have := r.units; omega

section
variable {prog : Program} {w : World} {A : Around} {E : Value → Shared → Prop} {s : Shared} {env : Env} {h₀ : Heap} {m : Str → Option Value}

theorem call_fn {a : Addr} {o : Obj} {fd : FuncData} {body : List Stmt} {args : List Value} {kw : List (Str × Value)} {binds : List (Str × Value)} {Q : Value → Shared → Prop} {d u : Nat}
    (r : Room A d u) (ho : s.heap.get? a = some o) (hdata : o.data = .func fd) (hlim : s.heap.NoLimit) (hcd : s.heap.CodeRec fd.code fd.qualname)
    (hbody : fd.body = .stmts body) (hbind : BindsTo s fd ⟨args, kw⟩ binds)
    (h : ∀ h₁, Fr s.heap s.heap.objs.size h₁ (fun x => binds.reverse.lookup x) →
      wpAny (model prog w) (A.deeper (callEnv fd s.heap.objs.size a)) (execs body (callEnv fd s.heap.objs.size a)) (fun f s' => Q (match f with | .ret v => v | _ => .none) s') NoE
        { s with heap := h₁, toks := s.toks + binds.length })
    (hcell : (fd.scope.names.all fun x => x.2 != .cell) = true := by rfl) (hloc : (binds.all fun x => fd.scope.names.lookup x.1 == some .local) = true := by rfl)
    (hco : fd.scope.isCoroutine = false := by rfl) (hgen : fd.scope.isGenerator = false := by rfl) (hk : fd.scope.kind = .function := by rfl) :
    wpAny (model prog w) A (call (.ref a) args kw) Q E s :=
  wpAny_call (codeAny_call_def r.d ho hdata hlim hcd hbody hbind (fun x hx => by have := List.all_eq_true.mp hcell x hx; simpa using this) (fun x hx => by have := List.all_eq_true.mp hloc x hx; simpa using this) (fun h₁ hn hk => wpAny_mono (h h₁ ⟨hn, hk, Nat.le_refl _⟩) (fun _ _ q => q) fun _ _ x => x.elim) hco hgen hk)

theorem nm_local {x : Str} {pos : Pos} {v : Value} {Q : Value → Shared → Prop} (F : Fr h₀ env.locals s.heap m) (hv : m x = some v) (h : Q v s)
    (hk : env.scope.kind = .function := by rfl) (hl : env.kindOf x = some .local := by rfl) (hd : (x == ("__debug__" : Str)) = false := by decide) :
    wpAny (model prog w) A (eval (.Name x pos) env) Q E s := wpAny_Name (wpAny_loadName_local hk hl F.ns hv h) hd
theorem nm_global {x : Str} {pos : Pos} {v : Value} {mg : Str → Option Value} {Q : Value → Shared → Prop} (hg : s.heap.Ns env.globals mg) (hv : mg x = some v) (h : Q v s)
    (hk : env.scope.kind = .function := by rfl) (hl : env.kindOf x = some .globalImplicit := by rfl) (hd : (x == ("__debug__" : Str)) = false := by decide) :
    wpAny (model prog w) A (eval (.Name x pos) env) Q E s := Name_function_global hk hl (loadGlobal_global hg hv h) hd
theorem nm_builtin {x : Str} {pos : Pos} {v : Value} {mg mb : Str → Option Value} {Q : Value → Shared → Prop} (hg : s.heap.Ns env.globals mg) (hm : mg x = none) (hb : s.heap.Ns env.builtins mb) (hv : mb x = some v) (h : Q v s)
    (hk : env.scope.kind = .function := by rfl) (hl : env.kindOf x = some .globalImplicit := by rfl) (hd : (x == ("__debug__" : Str)) = false := by decide) :
    wpAny (model prog w) A (eval (.Name x pos) env) Q E s := Name_function_global hk hl (loadGlobal_builtin hg hm hb hv h) hd
theorem st_local {x : Str} {v : Value} {Q : Unit → Shared → Prop} (F : Fr h₀ env.locals s.heap m)
    (h : ∀ h', Fr h₀ env.locals h' (fun y => if y = x then some v else m y) → Heap.SameBut env.locals s.heap h' → Q () { s with heap := h', toks := s.toks + 1 })
    (hk : env.scope.kind = .function := by rfl) (hl : env.kindOf x = some .local := by rfl) :
    wpAny (model prog w) A (storeName env x v) Q E s :=
  wpAny_storeName_local hl F.ns (fun h' hn hs => h h' (F.set hn hs) hs) (by rw [hk]; rfl)
end

/-! the bound search -/
section
variable {prog : Program} {w : World} {A : Around} {E : Value → Shared → Prop} {s : Shared}
theorem entry_search : entryFor table "re.Pattern.search" = some Builtin.«re.Pattern.search» := entryFor_of_tree (by kernel_rfl)
theorem plain_search : plainId "re.Pattern.search" = true := by decide +kernel
theorem kind_search : builtinKind "re.Pattern.search" = some .method := by decide +kernel
theorem sig_search : ∃ sig, Manifest.signature? "re.Pattern.search" = some sig ∧ ∀ a b, Bind.checkArgs "re.Pattern.search" { sig with full := s!"{Bind.lastOf "re.Pattern"}.{Bind.lastOf "re.Pattern.search"}" } ⟨[a, b], []⟩ = pure () := by
  have key : ∀ a b, (match Manifest.signature? "re.Pattern.search" with | some sig => Bind.checkArgs "re.Pattern.search" { sig with full := s!"{Bind.lastOf "re.Pattern"}.{Bind.lastOf "re.Pattern.search"}" } ⟨[a, b], []⟩ | none => unsupported "") = pure () := by
    intro a b; kernel_rfl
  cases h : Manifest.signature? "re.Pattern.search" with
  | none => have := key .none .none; rw [h] at this; cases this
  | some sig => exact ⟨sig, rfl, fun a b => by have := key a b; rw [h] at this; exact this⟩
theorem vara_search : Manifest.varargsMethods.contains "re.Pattern.search" = false := by decide +kernel
theorem sub_pm : isSubtype (.type "re.Pattern") (.type "module") = pure false := by rw [isSubtype_type]; kernel_rfl
noncomputable abbrev RetP (Q : Value → Shared → Prop) (E : Value → Shared → Prop) : Result → Shared → Prop := fun r s' => match r with | .ok (.ret v) => Q v s' | .ok _ => False | .error e => E e s'
noncomputable abbrev FinP (M : Model) (A : Around) (Q : Value → Shared → Prop) (E : Value → Shared → Prop) : PySem.Fin → Shared → Prop := fun fin s' => match fin with
  | .done f => RetP Q E (.ok f) s'
  | .again c' => c'.quiet = true ∧ codeAny M A c' (RetP Q E) s'

theorem call_boundobj {q : Addr} {o : Obj} {id : String} {b : Builtin} {self : Value} {args : List Value} {kw : List (Str × Value)} {Q : Value → Shared → Prop}
    (ho : s.heap.get? q = some o) (hc : o.cls = .type "builtin_function_or_method") (hd : o.data = .fields #[.builtin id, self])
    (hp : plainId id = true) (hb : entryFor table id = some b)
    (h : wpAny (model prog w) A.in1 (checkBoundCall id ⟨self :: args, kw⟩) (fun _ s₁ => wpAny (model prog w) A.in1 (b ⟨self :: args, kw⟩) (FinP (model prog w) A Q E) E s₁) E s) :
    wpAny (model prog w) A (call (.ref q) args kw) Q E s := by
  refine wpAny_call (codeAny_of_tree ?_)
  rw [Around.under_plain (c := .call (.ref q) ⟨args, kw⟩) rfl rfl]
  show wpAny _ _ (callAny (.ref q) ⟨args, kw⟩) _ _ _
  simp only [callAny]
  refine wpAny_bind (wpAny_load ho ?_)
  rw [hd]
  dsimp only
  rw [hc, if_pos (by decide +kernel)]
  show wpAny _ _ (if (Value.type "builtin_function_or_method" != Value.type "method") = true then _ else _) _ _ _
  rw [if_pos (by decide +kernel)]
  refine wpAny_bind (wpAny_mono h (fun _ s₁ h₁ => wpAny_pure ?_) fun _ _ x => x)
  refine ⟨plainId_quiet hp _, codeAny_builtin hb ?_⟩
  rw [Around.under_plainId hp]
  exact h₁

structure PatAt (h : Heap) : Prop where
  m : ∃ o, h.get? 51 = some o ∧ o.cls = .type "builtin_function_or_method" ∧ o.data = .fields #[.builtin "re.Pattern.search", .ref 43]
  p : ∃ o p0 t0 t1 t2 t3, h.get? 43 = some o ∧ o.cls = .type "re.Pattern" ∧ o.data = .fields #[.str p0 t0, .int 256 t1, .int 0 t2, .none, .none, .ref 42, .int 0 t3]
  c : ∃ o vs n, h.get? 42 = some o ∧ o.data = .seq vs n ∧ (vs.map Builtin.Re.reRawOf).map (·.toNat) = pcode
theorem PatAt.keeps {h h' : Heap} (x : PatAt h) (k : ∀ b o, h.get? b = some o → h'.get? b = some o) : PatAt h' where
  m := let ⟨o, a, r⟩ := x.m; ⟨o, k _ _ a, r⟩
  p := let ⟨o, p0, t0, t1, t2, t3, a, r⟩ := x.p; ⟨o, p0, t0, t1, t2, t3, k _ _ a, r⟩
  c := let ⟨o, vs, n, a, r⟩ := x.c; ⟨o, vs, n, k _ _ a, r⟩

theorem named_search (v : Value) : Builtin.Re.reNamed "re.Pattern.search" "search" ["string", "pos", "endpos"] 1 [v] [] = pure [some v, none, none] := by
  rfl

noncomputable def riskT (t : Str) : Bool := (firstUnsafe t.cps t.cps.size (t.cps.size + 1) 0).isSome


theorem search_call {t : Str} {u : Tok} {Q : Value → Shared → Prop} (P : PatAt s.heap) (ht : 0 < t.cps.size) (hfit : t.cps.size < 2 ^ 62)
    (h0 : riskT t = false → Q .none s)
    (h1 : riskT t = true → ∀ a h' tk, (∀ b o, s.heap.get? b = some o → h'.get? b = some o) → Q (.ref a) { s with heap := h', toks := tk }) :
    wpAny (model prog w) A (call (.ref 51) [.str t u]) Q E s := by
  obtain ⟨om, hm1, hm2, hm3⟩ := P.m
  obtain ⟨op, p0, t0, t1, t2, t3, hp1, hp2, hp3⟩ := P.p
  obtain ⟨oc, vs, nn, hc1, hc2, hc3⟩ := P.c
  obtain ⟨sig, hsig, hck⟩ := sig_search
  have hty : s.TypeIs (.ref 43) "re.Pattern" := ⟨op, hp1, hp2⟩
  refine call_boundobj hm1 hm2 hm3 plain_search entry_search ?_
  have chk : ∀ {Q' : Unit → Shared → Prop}, Q' () s → wpAny (model prog w) A.in1 (checkBoundCall "re.Pattern.search" ⟨[.ref 43, .str t u], []⟩) Q' E s := by
    intro Q' hq
    unfold checkBoundCall
    rw [hsig, kind_search]
    dsimp only
    rw [if_neg (by decide)]
    refine wpAny_bind (wpAny_isInstance hty sub_pm ?_)
    rw [vara_search, if_neg (by decide)]
    have hnc : ∀ cd, op.data ≠ .cls cd := by intro cd e; rw [hp3] at e; cases e
    refine wpAny_bind (wpAny_bind (m := loadHead 43) (wpAny_loadPart hp1 (wpAny_pure ?_)))
    rw [hp3]
    dsimp only
    rw [if_neg (by decide)]
    refine wpAny_bind (wpAny_typeOf hty ?_)
    dsimp only
    exact wpAny_of_eq (hck _ _) hq
  refine chk ?_
  unfold Builtin.«re.Pattern.search»
  have tgt : ∀ {Q' : Builtin.Re.ReTarget → Shared → Prop}, (Q' { pattern := .ref 43, string := .str t u, code := pcode, text := t.cps, kind := 0, groups := 0, pos := 0, lim := t.cps.size } s) → wpAny (model prog w) A.in1 (Builtin.Re.reTarget "re.Pattern.search" "search" ⟨[.ref 43, .str t u], []⟩) Q' E s := by
    intro Q' hq
    unfold Builtin.Re.reTarget
    dsimp only
    rw [named_search]
    refine wpAny_bind (wpAny_pure ?_)
    dsimp only
    refine wpAny_bind (wpAny_pure ?_)
    refine wpAny_bind (wpAny_pure ?_)
    refine wpAny_bind (wpAny_fieldsOf hp1 hp3 ?_)
    have txt : Builtin.Re.reTextOf (.str t u) = pure (t.cps, 0) := rfl
    rw [txt]
    refine wpAny_bind (wpAny_pure ?_)
    dsimp only
    show wpAny _ _ (if (false = true) then _ else _) _ _ _
    rw [if_neg Bool.false_ne_true]
    show wpAny _ _ (if (false = true) then _ else _) _ _ _
    rw [if_neg Bool.false_ne_true]
    show wpAny _ _ (Builtin.Re.reNoCollectionInside (.str t u) 0 >>= _) _ _ _
    refine wpAny_bind (m := Builtin.Re.reNoCollectionInside (.str t u) 0) (wpAny_pure ?_)
    refine wpAny_bind (m := Builtin.Re.reRawItems (.ref 42)) (wpAny_bind (wpAny_seqItems hc1 hc2 (wpAny_pure ?_)))
    refine wpAny_pure ?_
    have e1 : (Array.map (fun x => x.toNat) (Array.map Builtin.Re.reRawOf ((some vs).getD #[]))) = pcode := hc3
    rw [e1]
    have e2 : min (2 ^ 63 - 1 : Int).toNat t.cps.size = t.cps.size := by
      have : (2 ^ 63 - 1 : Int).toNat = 9223372036854775807 := by decide
      rw [this]; omega
    rw [e2]
    have e3 : min (0 : Int).toNat t.cps.size = 0 := by simp
    rw [e3]
    exact hq
  refine wpAny_bind (tgt ?_)
  unfold Builtin.Re.reAnswer
  dsimp only
  cases hu : riskT t with
  | false =>
    have hn : firstUnsafe t.cps t.cps.size (t.cps.size + 1) 0 = none := by
      unfold riskT at hu
      cases h : firstUnsafe t.cps t.cps.size (t.cps.size + 1) 0 with
      | none => rfl
      | some i => rw [h] at hu; cases hu
    obtain ⟨m', hm', ho'⟩ := search_none t.cps ht hn
    refine wpAny_bind (runToEnd_of hm' (by rw [ho']; rfl) ?_)
    rw [ho']
    exact wpAny_pure (wpAny_pure (h0 hu))
  | true =>
    have hn : ∃ i, firstUnsafe t.cps t.cps.size (t.cps.size + 1) 0 = some i := by
      unfold riskT at hu
      cases h : firstUnsafe t.cps t.cps.size (t.cps.size + 1) 0 with
      | none => rw [h] at hu; cases hu
      | some i => exact ⟨i, rfl⟩
    obtain ⟨i, hn⟩ := hn
    obtain ⟨m', hm', ho'⟩ := search_some t.cps ht hn
    refine wpAny_bind (runToEnd_of hm' (by rw [ho']; rfl) ?_)
    rw [ho']
    refine wpAny_pure ?_
    unfold Builtin.Re.reNewMatch
    show wpAny _ _ (((do let x ← newTuple [rawInt m'.start, rawInt m'.handed]; newFields "re.Match" [Value.str t u, Value.ref 43, rawInt 0, rawInt t.cps.size, rawInt m'.lastindex, x]) : Sem Value) >>= fun v => ret v) _ _ _
    refine wpAny_bind (wpAny_bind (wpAny_newObj_type (wpAny_newObj_type (wpAny_pure ?_))))
    exact h1 hu _ _ _ fun b o e => Heap.get?_push_of_some _ (Heap.get?_push_of_some _ e)
end
end Mine
end
section
open PySem PySem.W PyProof.Rows PySem.Calls
set_option Elab.async false
set_option maxRecDepth 100000
namespace Mine
noncomputable def Tabs : List Addr := [45, 177, 184, 221, 258]
noncomputable abbrev topSize : Nat := 262

structure Names (mg mb : Str → Option Value) : Prop where
  join : mg "join" = some (.ref 50)
  fu : mg "_find_unsafe" = some (.ref 51)
  quote : mg "quote" = some (.ref 58)
  empty : ∃ t, mg "EMPTYSTRING" = some (.str "" t)
  vf : mg "_ValueFormatter" = some (.ref 131)
  acc : mg "_Accumulator" = some (.ref 215)
  ctk : mg "cmp_to_key" = some (.ref 226)
  im : mg "_initial_missing" = some (.ref 227)
  red : mg "reduce" = some (.ref 235)
  word : mg "_law_word" = some (.ref 242)
  laid : mg "_law_laid" = some (.ref 249)
  written : mg "_law_written" = some (.ref 256)
  nameB : ∃ x t, mg "__name__" = some (.str x t)
  free : ∀ x ∈ (["sum", "range", "len", "sorted", "super", "str", "iter", "object"] : List Str), mg x = none
  b : ∀ x : Str, x ≠ "__name__" → mb x = bootBuiltins x

structure Glob (mg mb : Str → Option Value) (h : Heap) : Prop where
  g : h.Ns mainGlobals mg
  b : h.Ns builtinsNs mb
  nolimit : h.NoLimit
  names : Names mg mb
  pat : PatAt h
  f_quote : ∃ o pm, h.get? 58 = some o ∧ o.data = .func (fdTop "quote" 6 pm (.ref 57))
  c_quote : h.CodeRec (.ref 57) "quote"
  f_join : ∃ o pm, h.get? 50 = some o ∧ o.data = .func (fdTop "join" 4 pm (.ref 49))
  c_join : h.CodeRec (.ref 49) "join"
  f_word : ∃ o pm, h.get? 242 = some o ∧ o.data = .func (fdTop "_law_word" 17 pm (.ref 241))
  c_word : h.CodeRec (.ref 241) "_law_word"

theorem NoLimit.keeps' {h h' : Heap} (x : h.NoLimit) (k : ∀ b o, h.get? b = some o → h'.get? b = some o) : h'.NoLimit :=
  let ⟨m, a, b⟩ := x; ⟨m, a.keeps k, b⟩
theorem fnKeeps {h h' : Heap} {a : Addr} {F : Value → FuncData} (x : ∃ o pm, h.get? a = some o ∧ o.data = .func (F pm)) (k : ∀ b o, h.get? b = some o → h'.get? b = some o) : ∃ o pm, h'.get? a = some o ∧ o.data = .func (F pm) :=
  let ⟨o, pm, a, b⟩ := x; ⟨o, pm, k _ _ a, b⟩
theorem Glob.keeps {mg mb : Str → Option Value} {h h' : Heap} (G : Glob mg mb h) (k : ∀ b o, h.get? b = some o → h'.get? b = some o) : Glob mg mb h' where
  g := G.g.keeps k
  b := G.b.keeps k
  nolimit := NoLimit.keeps' G.nolimit k
  names := G.names
  pat := G.pat.keeps k
  f_quote := fnKeeps G.f_quote k
  c_quote := G.c_quote.keeps k
  f_join := fnKeeps G.f_join k
  c_join := G.c_join.keeps k
  f_word := fnKeeps G.f_word k
  c_word := G.c_word.keeps k
section
variable {M : Model} {h : Heap}
theorem keeper_fn {a : Addr} {o : Obj} {fd : FuncData} (e : h.get? a = some o) (d : o.data = .func fd) : Looks M h (keeperOf (.ref a)) .frame := by
  refine (Looks.ld (part := none) e).andThen ?_
  rw [d]; exact .now
theorem keeper_bound {a : Addr} {o : Obj} {vs : Array Value} (e : h.get? a = some o) (c : o.cls = .type "builtin_function_or_method") (d : o.data = .fields vs) : Looks M h (keeperOf (.ref a)) .machine := by
  refine (Looks.ld (part := none) e).andThen ?_
  rw [d]
  show Looks M h (if o.cls != .type "method" then _ else _) _
  rw [c, if_pos (by decide +kernel), if_pos (by decide +kernel)]
  exact .now
theorem keeper_builtin {id : String} : Looks M h (keeperOf (.builtin id)) .machine := Looks.of_pure rfl
theorem keeper_type {n : String} : Looks M h (keeperOf (.type n)) .machine := Looks.of_pure rfl
end
noncomputable abbrev KeepOk (M : Model) (h : Heap) (f : Value) : Prop := ∃ k, (k = Keeper.frame ∨ k = Keeper.machine ∨ k = Keeper.boundFrame) ∧ Looks M h (keeperOf f) k
section
variable {M : Model} {A : Around} {E : Value → Shared → Prop} {s : Shared} {env : Env} {pos : Pos} {f : Value} {first : List Value} {Q : Value → Shared → Prop}
theorem cw {e : Expr} {rest : List Expr} (h : wpAny M A (spliced (backTo pos (starEach (e :: rest) env))) (fun vs s₁ => KeepOk M s₁.heap f ∧ wpAny M A (call f (first ++ vs)) Q E s₁) E s)
    (he : starEach (e :: rest) env = (false, eval e env) :: starEach rest env := by rfl) (hplain : (backTo pos (starEach rest env)).any (·.1) = false := by rfl) :
    wpAny M A (callWith pos f first (backTo pos (starEach (e :: rest) env)) []) Q E s := by
  rw [he] at h ⊢
  exact callWith_of (P := fun h => KeepOk M h f) (by show ((false || (backTo pos (starEach rest env)).any (·.1)) || false) = false; rw [hplain]; rfl) (fun _ x => x) (evalArgs_plain h)
theorem cw0 (hk : KeepOk M s.heap f) (h : wpAny M A (call f first) Q E s) : wpAny M A (callWith pos f first (backTo pos (starEach [] env)) []) Q E s :=
  callWith_of (P := fun h => KeepOk M h f) rfl (fun _ x => x) (evalArgs_nil3 ⟨hk, by rw [List.append_nil]; exact h⟩)
end
theorem Glob.keepFn {mg mb : Str → Option Value} {M : Model} {h : Heap} {a : Addr} {F : Value → FuncData} (_ : Glob mg mb h) (x : ∃ o pm, h.get? a = some o ∧ o.data = .func (F pm)) : KeepOk M h (.ref a) := let ⟨_, _, e, d⟩ := x; ⟨_, .inl rfl, keeper_fn e d⟩
end Mine
end
section
open PySem PySem.W PyProof.Rows PySem.Calls
set_option Elab.async false
set_option maxRecDepth 100000
namespace Mine
noncomputable def rep (c : Nat) (z l : List Nat) : List Nat := l.flatMap fun k => if k = c then z else [k]
theorem rep_append (c : Nat) (z a b : List Nat) : rep c z (a ++ b) = rep c z a ++ rep c z b := by simp [rep]
theorem rep_free (c : Nat) (z : List Nat) : ∀ l : List Nat, c ∉ l → rep c z l = l
  | [], _ => rfl
  | k :: r, h => by
    have h1 : ¬ k = c := fun e => h (e ▸ List.mem_cons_self ..)
    have h2 : c ∉ r := fun m => h (List.mem_cons_of_mem _ m)
    have := rep_free c z r h2
    simp only [rep, List.flatMap_cons, if_neg h1] at this ⊢
    rw [this]; rfl
theorem rep_one (c : Nat) (z : List Nat) : rep c z [c] = z := by simp [rep]
theorem rep_join (c : Nat) (z : Str) : ∀ parts : List Str, (∀ p ∈ parts, c ∉ p.cps.toList) → rep c z.cps.toList (Str.join ⟨#[c]⟩ parts).cps.toList = (Str.join z parts).cps.toList
  | [], _ => rfl
  | [p], h => rep_free c _ _ (h p (List.mem_singleton.mpr rfl))
  | p :: q :: r, h => by
    have ih := rep_join c z (q :: r) fun a ha => h a (List.mem_cons_of_mem _ ha)
    show rep c _ (p ++ ⟨#[c]⟩ ++ Str.join ⟨#[c]⟩ (q :: r)).cps.toList = (p ++ z ++ Str.join z (q :: r)).cps.toList
    simp only [Str.cps_append, Array.toList_append]
    rw [rep_append, rep_append, ih, rep_free c _ _ (h p (List.mem_cons_self ..))]
    show p.cps.toList ++ rep c _ [c] ++ _ = _
    rw [rep_one]
theorem replace_rep (x z : Str) (c : Nat) : (Txt.replace x ⟨#[c]⟩ z).cps.toList = rep c z.cps.toList x.cps.toList := by
  rw [StrLaws.replace_one, ← rep_join c z _ (StrLaws.split_free x c), StrLaws.join_split]
theorem rep_length (c : Nat) (z : List Nat) (hz : 1 ≤ z.length) : ∀ l : List Nat, (rep c z l).length ≤ l.length * z.length
  | [] => by simp [rep]
  | k :: r => by
    have ih := rep_length c z hz r
    have e : rep c z (k :: r) = (if k = c then z else [k]) ++ rep c z r := by simp [rep]
    rw [e, List.length_append, List.length_cons, Nat.add_mul, Nat.one_mul]
    split
    · omega
    · simp; omega
noncomputable def quoteF (t : Str) : Str := if t.cps.size = 0 then "''" else if riskT t = true then (("'" : Str) ++ Txt.replace t "'" "'\"'\"'") ++ "'" else t
section
variable {w : World} {A : Around} {E : Value → Shared → Prop} {s : Shared} {mg mb : Str → Option Value}
set_option maxHeartbeats 1000000 in
theorem quote_spec {t : Str} {tk : Tok} {Q : Value → Shared → Prop} (G : Glob mg mb s.heap) (r : Room A 3 20) (hsz : t.cps.size ≤ 1000)
    (hQ : ∀ s' u, Keeps s s' → Q (.str (quoteF t) u) s') : wpAny (model pw w) A (call (.ref 58) [.str t tk]) Q E s := by
  obtain ⟨o, pm, ho, hd⟩ := G.f_quote
  have hb : ∀ v, bindArgs (fdTop "quote" 6 pm (.ref 57)) ⟨[v], []⟩ = (pure [(("s" : Str), v)] : Sem (List (Str × Value))) := fun v => by rfl
  refine call_fn r ho hd G.nolimit G.c_quote rfl (BindsTo.of_eq (hb _)) (fun h₁ F => ?_)
  have hE : ∀ h' k u, (∀ b o, s.heap.get? b = some o → h'.get? b = some o) → Q (.str (quoteF t) u) { s with heap := h', toks := k } := fun h' k u kp => hQ _ _ ⟨h', k, rfl, kp⟩
  iterate 5 (walk1; (try dsimp only))
  have hlen : t.length = t.cps.size := rfl
  refine P.truthy_str (by rw [hlen]; omega) ?_
  by_cases h0 : t.cps.size = 0
  · have e : ((t.length : Int) != 0) = false := by rw [hlen, h0]; rfl
    rw [e]
    refine ite_tt ?_
    iterate 3 (walk1; (try dsimp only))
    have hq : quoteF t = "''" := by simp [quoteF, h0]
    rw [hq] at hE
    exact hE _ _ _ F.keep
  · have e : ((t.length : Int) != 0) = true := by rw [hlen]; simpa using h0
    rw [e]
    refine ite_ff ?_
    iterate 4 (walk1; (try dsimp only))
    have hm := G.names.fu
    refine Call_ ?_
    refine nm_global (G.g.keeps F.keep) hm ?_
    refine cw ?_
    iterate 3 (walk1; (try dsimp only))
    have P := G.pat.keeps F.keep
    refine ⟨let ⟨o, a, b, c⟩ := P.m; ⟨_, .inr (.inl rfl), keeper_bound a b c⟩, ?_⟩
    refine search_call P (by omega) (by omega) (fun hu => ?_) (fun hu a h₂ k₂ k12 => ?_)
    · (walk1; (try dsimp only))
      refine is_none ?_
      iterate 2 (walk1; (try dsimp only))
      have hq : quoteF t = t := by simp [quoteF, h0, hu]
      rw [hq] at hE
      iterate 3 (walk1; (try dsimp only))
      exact hE _ _ _ F.keep
    · (walk1; (try dsimp only))
      refine is_none ?_
      have F2 : Fr s.heap s.heap.objs.size h₂ _ := ⟨F.ns.keeps k12, fun b o e => k12 _ _ (F.keep _ _ e), F.above⟩
      clear F P
      have e2 : (Value.ref a == Value.none) = false := by simp
      rw [e2]
      iterate 11 (walk1; (try dsimp only))
      refine cw ?_
      iterate 5 (walk1; (try dsimp only))
      refine ⟨⟨_, .inr (.inl rfl), keeper_builtin⟩, ?_⟩
      refine SC.replace ?_ ?_ ?_ ?_ ?_ (fun t3 k3 => ?_)
      · exact Nat.succ_ne_zero _
      · exact Nat.succ_ne_zero _
      · exact Nat.ne_of_lt (Nat.lt_succ_self _)
      · decide +kernel
      · have e1 : (("'\"'\"'" : Str).length) = 5 := by decide +kernel
        rw [e1, hlen]; omega
      have hl : (Txt.replace t "'" "'\"'\"'").length ≤ 5000 := by
        have q1 : (("'" : Str)) = ⟨#[39]⟩ := by decide +kernel
        have q2 := replace_rep t "'\"'\"'" 39
        have q3 : ("'\"'\"'" : Str).cps.toList = [39, 34, 39, 34, 39] := by decide +kernel
        have q4 := rep_length 39 [39, 34, 39, 34, 39] (by decide) t.cps.toList
        rw [q3] at q2
        rw [q1]
        show (Txt.replace t ⟨#[39]⟩ "'\"'\"'").cps.size ≤ 5000
        rw [← Array.length_toList, q2]
        have : t.cps.toList.length = t.cps.size := by simp
        simp at q4; omega
      have q5 : ("'" : Str).length = 1 := by decide +kernel
      have hz : sizeLine = 16777216 := by decide
      try dsimp only
      refine SBL.add (fun t4 k4 => ?_) (by rw [q5, hz]; omega)
      try dsimp only
      iterate 2 (walk1; (try dsimp only))
      refine SBL.add (fun t5 k5 => ?_) (by
        rw [Str.length_append, q5, hz]; omega)
      have hq : quoteF t = (("'" : Str) ++ Txt.replace t "'" "'\"'\"'") ++ "'" := by simp [quoteF, h0, hu]
      rw [hq] at hE
      exact fun _ => hE _ _ _ F2.keep
end
end Mine
end
section
open PySem PySem.W PyProof.Rows PySem.Calls
set_option Elab.async false
set_option maxRecDepth 100000
namespace Mine
theorem if_yes {c : Prop} [Decidable c] {P Q : Prop} (h : c) (x : P) : if c then P else Q := by rw [if_pos h]; exact x
theorem if_no {c : Prop} [Decidable c] {P Q : Prop} (h : ¬ c) (x : Q) : if c then P else Q := by rw [if_neg h]; exact x
theorem endS {Q : Value → Shared → Prop} {a b : Str} {u : Tok} {s : Shared} (h : Q (.str a u) s) (e : a = b) : Q (.str b u) s := e ▸ h
noncomputable def sgn (j : Int) : Str := Txt.item "aZ1@%+=:,./-_" j
noncomputable def wordF (kind j n : Int) : Str := if kind = 0 ∧ n = 2 then "" else if kind = 1 ∧ 2 < n then " " ++ Txt.mul (sgn j) (n - 3) else if kind = 2 ∧ 2 < n then Txt.mul (sgn j) (n - 3) ++ "\n" else if kind = 3 ∧ 6 < n then Txt.mul (sgn j) (n - 7) ++ "'" else Txt.mul (sgn j) n
theorem len_signs : ("aZ1@%+=:,./-_" : Str).length = 13 := by decide +kernel
theorem len_sgn (j : Int) : (sgn j).length = 1 := len_item _ _
local macro_rules | `(tactic| walk_at "ite") => `(tactic| first
  | (refine if_yes (by simp only [decide_eq_true_eq, beq_iff_eq, Bool.not_eq_true', Bool.not_true, Bool.not_false]; first | done | omega) ?_)
  | (refine if_no (by simp only [decide_eq_true_eq, beq_iff_eq, Bool.not_eq_true', Bool.not_true, Bool.not_false]; first | done | omega) ?_))
local macro_rules | `(tactic| walk_at "storeName") => `(tactic| (refine st_local (by assumption) ?_; intro _ _ _))
section
variable {w : World} {A : Around} {E : Value → Shared → Prop} {s : Shared} {mg mb : Str → Option Value}
set_option maxHeartbeats 1000000 in
theorem word_spec {x n : Int} {tk tn : Tok} {Q : Value → Shared → Prop} (G : Glob mg mb s.heap) (r : Room A 3 20) (hx : x.natAbs.log2 < 2 ^ 26) (h1 : 1 ≤ n) (h2 : n ≤ 30)
    (hQ : ∀ s' u, Keeps s s' → Q (.str (wordF ((x.fdiv 3).fmod 4) ((x.fdiv 12).fmod 13) n) u) s') : wpAny (model pw w) A (call (.ref 242) [.int x tk, .int n tn]) Q E s := by
  obtain ⟨o, pm, ho, hd⟩ := G.f_word
  have hb : ∀ u v, bindArgs (fdTop "_law_word" 17 pm (.ref 241)) ⟨[u, v], []⟩ = (pure [(("x" : Str), u), (("length" : Str), v)] : Sem (List (Str × Value))) := fun u v => by rfl
  refine call_fn r ho hd G.nolimit G.c_word rfl (BindsTo.of_eq (hb _ _)) (fun h₁ F => ?_)
  iterate 9 (walk1; (try dsimp only))
  have hk0 := Int.fmod_nonneg_of_pos (x.fdiv 3) (show (0 : Int) < 4 by decide)
  have hk1 := Int.fmod_lt_of_pos (x.fdiv 3) (show (0 : Int) < 4 by decide)
  generalize (x.fdiv 3).fmod 4 = kind at hk0 hk1 hQ ⊢
  iterate 12 (walk1; (try dsimp only))
  have hj0 := Int.fmod_nonneg_of_pos (x.fdiv 12) (show (0 : Int) < 13 by decide)
  have hj1 := Int.fmod_lt_of_pos (x.fdiv 12) (show (0 : Int) < 13 by decide)
  generalize (x.fdiv 12).fmod 13 = j at hj0 hj1 hQ ⊢
  have hE : ∀ h' k u, (∀ b o, s.heap.get? b = some o → h'.get? b = some o) → Q (.str (wordF kind j n) u) { s with heap := h', toks := k } := fun h' k u kp => hQ _ _ ⟨h', k, rfl, kp⟩
  have hz : sizeLine = 16777216 := by decide
  have hone := len_sgn j
  refine item_str (fitsSsize_of (N := 9223372036854775808) (by omega) (by omega) (Int.le_refl _)) (by rw [len_signs]; omega) (by rw [len_signs]; omega) (fun _ => ?_)
  show wpAny _ _ (storeName _ _ (.str (sgn j) _)) _ _ _
  have hm3 : MulOk (sgn j) (n - 3) := mulOk_of 1 1048576 (by omega) (by omega) (by omega) (by decide) (by decide)
  have hm7 : MulOk (sgn j) (n - 7) := mulOk_of 1 1048576 (by omega) (by omega) (by omega) (by decide) (by decide)
  have hm0 : MulOk (sgn j) n := mulOk_of 1 1048576 (by omega) (by omega) (by omega) (by decide) (by decide)
  have hlm : ∀ m : Int, m ≤ 30 → (Txt.mul (sgn j) m).length ≤ 30 := fun m hm => by have := len_mul_leN (x := sgn j) (n := m) (L := 1) (N := 30) (by omega) (by omega); omega
  have h3 := hlm (n - 3) (by omega)
  have h7 := hlm (n - 7) (by omega)
  clear hlm
  generalize hsg : sgn j = sg at *
  repeat' (walk1; (try dsimp only))
  all_goals (refine endS (hE _ _ _ (Fr.keep (by assumption))) ?_; clear hE hQ; unfold wordF; rw [hsg])
  all_goals (repeat' split) <;> first | rfl | omega
end
end Mine
end
section
open PySem PySem.W
set_option maxRecDepth 100000
set_option maxHeartbeats 0
namespace Mine
local macro_rules | `(tactic| k_head) => `(tactic| x_head)
open_top hd for PySem.Challenge.rw_il0168_01
end Mine
end
section
open PySem PySem.W PyProof.Rows PySem.Calls
set_option maxRecDepth 100000
set_option Elab.async false
namespace Mine
noncomputable abbrev BigA (l : Option (List Env)) : Around := { depth := 500, units := 5000, frames := l }
structure Near (A : Around) : Prop where
  handled : A.handled = none
  depth : A.depth ≤ 500
  units : A.units ≤ 5000

theorem wpAny_big {α : Type} {M : Model} {A : Around} {t : Sem α} {Q : α → Shared → Prop} {E : Value → Shared → Prop} {s : Shared} {l : Option (List Env)} (r : Near A) (hl : ∀ x, l = some x → A.frames = some x) (h : wpAny M (BigA l) t Q E s) : wpAny M A t Q E s := by
  intro Γ p hΓ
  refine h Γ p ⟨hΓ.1.trans r.handled, Nat.le_trans hΓ.2.1 r.depth, fun x hx => hΓ.2.2.1 x (hl x hx), fun g hg => (by cases hg), Nat.le_trans hΓ.2.2.2.2 r.units⟩
noncomputable def KN (P : Params) : Frag := (hd.heap_39 P).filter fun p => !(Tabs.contains p.1)
noncomputable def obK (a : Addr) (P : Params) : Obj := ((hd.heap_39 P).lookup a).getD default
theorem kept_of {h h' : Heap} {news : List (Addr × Obj)} (D : X.Mem h h' [] news) : ∀ b o, h.get? b = some o → h'.get? b = some o := fun b o ho => D.keep b o ho (by rw [show X.away [] b = true from rfl, Bool.or_true])
theorem fresh_of {h h' : Heap} {chg news : List (Addr × Obj)} (D : X.Mem h h' chg news) (i : Nat) {a : Addr} {o : Obj} (e : news[i]? = some (a, o)) : h.get? a = none := (D.nw _ (List.mem_of_getElem? e)).2
noncomputable def tokOf : Value → Tok | .str _ t => t | .int _ t => t | _ => 0
noncomputable def entK (o : Obj) (i : Nat) : Tok := match o.data with | .dict es _ => tokOf ((es[i]?).map (·.key) |>.getD .none) | _ => 0
noncomputable def entH (o : Obj) (i : Nat) : Int := match o.data with | .dict es _ => ((es[i]?).map (·.hash) |>.getD 0) | _ => 0
noncomputable def entV (o : Obj) (i : Nat) : Tok := match o.data with | .dict es _ => tokOf ((es[i]?).map (·.val) |>.getD .none) | _ => 0
noncomputable def fld (o : Obj) (i : Nat) : Value := match o.data with | .fields vs => (vs[i]?).getD .none | _ => .none
noncomputable def slt (o : Obj) (i : Nat) : Value := ((o.slots[i]?).getD none).getD .none
noncomputable def codeN (q : Str) (o : Obj) : Obj := ⟨.type "code", none, .fields #[fld o 0, .str q (tokOf (fld o 1)), fld o 2, fld o 3, fld o 4, fld o 5, fld o 6, fld o 7, fld o 8, fld o 9, fld o 10, fld o 11, fld o 12, fld o 13, fld o 14, fld o 15, fld o 16, fld o 17, fld o 18], #[]⟩

noncomputable def clsK : Stmt := sub (stm 13) 0
noncomputable def fnK (i : Nat) (nm q : Str) (clo : List (Str × Addr)) (pm cd ct : Value) : FuncData :=
  { name := nm, qualname := q, params := fParams (sub clsK i), body := .stmts (fBody (sub clsK i)), scope := fScope (sub clsK i), globals := 3, closure := clo, defaults := .none, kwdefaults := .none, doc := .none, pyModule := pm, annotations := none, code := cd, closureTuple := ct, builtins := 0 }
noncomputable def pmOf (o : Obj) : Value := match o.data with | .func f => f.pyModule | _ => .none
noncomputable def ctOf (o : Obj) : Value := match o.data with | .func f => f.closureTuple | _ => .none
noncomputable def fnKN (i : Nat) (nm q : Str) (clo : List (Str × Addr)) (cd : Addr) (o : Obj) : Obj := ⟨.type "function", none, .func (fnK i nm q clo (pmOf o) (.ref cd) (ctOf o)), #[]⟩
noncomputable def clsKN (C N : Addr) (o : Obj) : Obj := ⟨.type "type", none, .cls { name := "K", bases := [.type "object"], mro := [.ref C, .type "object"], ns := N, qualname := "cmp_to_key.<locals>.K", hasDict := false, slotNames := ["obj"] },
  #[some (slt o 0), none, some (.str "K" (tokOf (slt o 2))), some (.str "cmp_to_key.<locals>.K" (tokOf (slt o 3))), some (.builtin "object.__new__"), some (.bool false)]⟩
noncomputable def desKN (C : Addr) (o : Obj) : Obj := ⟨.type "member_descriptor", none, .fields #[.str "obj" (tokOf (fld o 0)), .ref C, .builtin "proto.slot", .builtin "proto.slot#set", .int 0 0], #[]⟩
noncomputable def nsKN (sl fi fl fg fe fle fge st d : Addr) (o : Obj) : Obj := ⟨.type "dict", none, .dict #[⟨entH o 0, .str "__module__" (entK o 0), .str "cpy313.functools" (entV o 0)⟩,
  ⟨entH o 1, .str "__firstlineno__" (entK o 1), .int 124 (entV o 1)⟩, ⟨entH o 2, .str "__slots__" (entK o 2), .ref sl⟩, ⟨entH o 3, .str "__init__" (entK o 3), .ref fi⟩,
  ⟨entH o 4, .str "__lt__" (entK o 4), .ref fl⟩, ⟨entH o 5, .str "__gt__" (entK o 5), .ref fg⟩, ⟨entH o 6, .str "__eq__" (entK o 6), .ref fe⟩, ⟨entH o 7, .str "__le__" (entK o 7), .ref fle⟩,
  ⟨entH o 8, .str "__ge__" (entK o 8), .ref fge⟩, ⟨entH o 9, .str "__hash__" (entK o 9), .none⟩, ⟨entH o 10, .str "__static_attributes__" (entK o 10), .ref st⟩,
  ⟨entH o 11, .str "obj" (entK o 11), .ref d⟩, ⟨entH o 12, .str "__doc__" (entK o 12), .none⟩] 3, #[]⟩

inductive KAt (h : Heap) (C fi fl cell : Addr) (f : Value) : Prop
  | mk (N ci cl sl fg fe fle fge st d : Addr) (oC oN ofi ofl oci ocl od : Obj) (h1 : h.get? C = some (clsKN C N oC)) (h2 : h.get? N = some (nsKN sl fi fl fg fe fle fge st d oN)) (h3 : h.get? fi = some (fnKN 2 "__init__" "cmp_to_key.<locals>.K.__init__" [] ci ofi))
    (h4 : h.get? fl = some (fnKN 3 "__lt__" "cmp_to_key.<locals>.K.__lt__" [("mycmp", cell)] cl ofl)) (h5 : h.get? ci = some (codeN "cmp_to_key.<locals>.K.__init__" oci)) (h6 : h.get? cl = some (codeN "cmp_to_key.<locals>.K.__lt__" ocl))
    (h7 : h.get? d = some (desKN C od)) (h8 : h.get? cell = some ⟨.type "cell", none, .cell (some f), #[]⟩) : KAt h C fi fl cell f
end Mine
end
section
open PySem PySem.W PyProof.Rows PySem.Calls
set_option maxRecDepth 100000
set_option maxHeartbeats 0
set_option Elab.async false
namespace Mine
noncomputable def KInst (h : Heap) (o C : Addr) (v : Value) : Prop := ∃ dx, h.get? o = some ⟨.ref C, some dx, .plain, #[some v]⟩ ∧ h.get? dx = some ⟨.type "dict", none, .dict #[] 0, #[]⟩
theorem KInst.keeps {h h' : Heap} {o C : Addr} {v : Value} (x : KInst h o C v) (k : ∀ b ob, h.get? b = some ob → h'.get? b = some ob) : KInst h' o C v := let ⟨dx, a, b⟩ := x; ⟨dx, k _ _ a, k _ _ b⟩
theorem KAt.keeps {h h' : Heap} {C fi fl cell : Addr} {f : Value} (x : KAt h C fi fl cell f) (k : ∀ b ob, h.get? b = some ob → h'.get? b = some ob) : KAt h' C fi fl cell f := by
  obtain ⟨N, ci, cl, sl, fg, fe, fle, fge, st, d, oC, oN, ofi, ofl, oci, ocl, od, h1, h2, h3, h4, h5, h6, h7, h8⟩ := x
  exact ⟨N, ci, cl, sl, fg, fe, fle, fge, st, d, oC, oN, ofi, ofl, oci, ocl, od, k _ _ h1, k _ _ h2, k _ _ h3, k _ _ h4, k _ _ h5, k _ _ h6, k _ _ h7, k _ _ h8⟩
end Mine
end
section
open PySem PySem.W PyProof.Rows PySem.Calls
set_option maxRecDepth 100000
set_option maxHeartbeats 0
set_option Elab.async false
namespace Mine
noncomputable def KcF (C N d fl : Addr) (oC oN od ofl : Obj) : Frag := [(C, oC), (N, oN), (d, od), (fl, ofl)]
section
variable {C N d fl : Addr} {oC oN od ofl : Obj}
theorem kc_C : (KcF C N d fl oC oN od ofl).lookup C = some oC := by simp [KcF]
theorem kc_N (h : N ≠ C) : (KcF C N d fl oC oN od ofl).lookup N = some oN := by
  have : (N == C) = false := by simpa using h
  simp [KcF, List.lookup, this]
theorem kc_d (h : d ≠ C) (h2 : d ≠ N) : (KcF C N d fl oC oN od ofl).lookup d = some od := by
  have a : (d == C) = false := by simpa using h
  have b : (d == N) = false := by simpa using h2
  simp [KcF, List.lookup, a, b]
theorem kc_f (h : fl ≠ C) (h2 : fl ≠ N) (h3 : fl ≠ d) : (KcF C N d fl oC oN od ofl).lookup fl = some ofl := by
  have a : (fl == C) = false := by simpa using h
  have b : (fl == N) = false := by simpa using h2
  have c : (fl == d) = false := by simpa using h3
  simp [KcF, List.lookup, a, b, c]
theorem kc_in {h : Heap} (h1 : h.get? C = some oC) (h2 : h.get? N = some oN) (h3 : h.get? d = some od) (h4 : h.get? fl = some ofl) : (KcF C N d fl oC oN od ofl).In h := by
  intro a o e
  simp only [KcF, List.lookup] at e
  split at e
  · rename_i q; cases e; rw [beq_iff_eq.mp q]; exact h1
  · split at e
    · rename_i q; cases e; rw [beq_iff_eq.mp q]; exact h2
    · split at e
      · rename_i q; cases e; rw [beq_iff_eq.mp q]; exact h3
      · split at e
        · rename_i q; cases e; rw [beq_iff_eq.mp q]; exact h4
        · cases e
noncomputable def ownOfNs (o : Obj) (name : Str) : Option (Option Value) := match o with
  | ⟨_, _, .dict es _, _⟩ => (match es.toList.find? (·.key.isStr name) with
      | some e => some (some e.val)
      | none => if es.toList.any (·.refKey) then none else some none)
  | _ => none
theorem kc_own {name : Str} {r : Option Value} {cd : ClassData} {a : Option Addr} {c : Value} {sl : Array (Option Value)} (hC : oC = ⟨c, a, .cls cd, sl⟩) (hn : cd.ns = N) (h : N ≠ C) (e : ownOfNs oN name = some r) : ownIn (KcF C N d fl oC oN od ofl) name (.ref C) = some r := by
  subst hC
  unfold ownIn
  simp only [kc_C]
  subst hn
  unfold nsIn
  rw [kc_N h]
  obtain ⟨c, a, dt, sl⟩ := oN
  cases dt <;> first | exact e | cases e
theorem kc_find {name : Str} {v : Value} {cd : ClassData} {a : Option Addr} {c : Value} {sl : Array (Option Value)} {rest : List Value} (hC : oC = ⟨c, a, .cls cd, sl⟩) (hm : cd.mro = .ref C :: rest) (hn : cd.ns = N) (h : N ≠ C) (e : ownOfNs oN name = some (some v)) :
    findIn (KcF C N d fl oC oN od ofl) (.ref C) name = some (some v) := by
  have o := kc_own (C := C) (d := d) (od := od) (fl := fl) (ofl := ofl) hC hn h e
  unfold findIn
  simp only [kc_C, hC]
  rw [hC] at o
  simp only [hm, alongIn, o]
theorem kc_find0 {name : Str} {r : Option Value} {cd : ClassData} {a : Option Addr} {c : Value} {sl : Array (Option Value)} {rest : List Value} (hC : oC = ⟨c, a, .cls cd, sl⟩) (hm : cd.mro = .ref C :: rest) (hn : cd.ns = N) (h : N ≠ C) (e : ownOfNs oN name = some none)
    (e2 : alongIn (KcF C N d fl oC oN od ofl) name rest = some r) :
    findIn (KcF C N d fl oC oN od ofl) (.ref C) name = some r := by
  have o := kc_own (C := C) (d := d) (od := od) (fl := fl) (ofl := ofl) hC hn h e
  unfold findIn
  subst hC
  simp only [kc_C]
  simp only [hm, alongIn, o]
  exact e2
end

structure KLook (h : Heap) (C d fl : Addr) (K : Frag) : Prop where
  X : K.In h
  hga : findIn K (.ref C) "__getattribute__" = some (some (.builtin "object.__getattribute__"))
  hgt : findIn K (.ref C) "__getattr__" = some none
  obj : findIn K (.ref C) "obj" = some (some (.ref d))
  lt : findIn K (.ref C) "__lt__" = some (some (.ref fl))
  dg : specialIn K (.ref d) "__get__" = some (some (.builtin "member_descriptor.__get__"))
  ds : takesIn K (.ref d) = some true
  sl : slotIn K d C = some 0
  cls : (clsIn K C).isSome = true
  fn : isFn K (.ref fl) = true

theorem ne_of_cls {h : Heap} {a b : Addr} {x y : Obj} (ha : h.get? a = some x) (hb : h.get? b = some y) (e : (x.cls == y.cls) = false) : a ≠ b := by
  rintro rfl; rw [ha] at hb; cases hb; simp at e
theorem KAt.look {h : Heap} {C fi fl cell : Addr} {f : Value} (hK : KAt h C fi fl cell f) : ∃ d K, KLook h C d fl K := by
  obtain ⟨N, ci, cl, sl, fg, fe, fle, fge, st, d, oC, oN, ofi, ofl, oci, ocl, od, h1, h2, h3, h4, h5, h6, h7, h8⟩ := hK
  have n1 : N ≠ C := ne_of_cls h2 h1 rfl
  have n2 : d ≠ C := ne_of_cls h7 h1 rfl
  have n3 : d ≠ N := ne_of_cls h7 h2 rfl
  have n4 : fl ≠ C := ne_of_cls h4 h1 rfl
  have n5 : fl ≠ N := ne_of_cls h4 h2 rfl
  have n6 : fl ≠ d := ne_of_cls h4 h7 rfl
  refine ⟨d, KcF C N d fl (clsKN C N oC) (nsKN sl fi fl fg fe fle fge st d oN) (desKN C od) (fnKN 3 "__lt__" "cmp_to_key.<locals>.K.__lt__" [("mycmp", cell)] cl ofl), kc_in h1 h2 h7 h4, ?_, ?_, ?_, ?_, ?_, ?_, ?_, ?_, ?_⟩
  · exact kc_find0 rfl rfl rfl n1 (by kernel_rfl) (by kernel_rfl)
  · exact kc_find0 rfl rfl rfl n1 (by kernel_rfl) (by kernel_rfl)
  · exact kc_find rfl rfl rfl n1 (by kernel_rfl)
  · exact kc_find rfl rfl rfl n1 (by kernel_rfl)
  · dsimp only [specialIn, typeIn]
    rw [kc_d n2 n3]
    kernel_rfl
  · have e : specialIn (KcF C N d fl (clsKN C N oC) (nsKN sl fi fl fg fe fle fge st d oN) (desKN C od) (fnKN 3 "__lt__" "cmp_to_key.<locals>.K.__lt__" [("mycmp", cell)] cl ofl)) (.ref d) "__set__" = some (some (.builtin "member_descriptor.__set__")) := by
      dsimp only [specialIn, typeIn]
      rw [kc_d n2 n3]
      kernel_rfl
    unfold takesIn
    rw [e]
  · have e1 : recIn (KcF C N d fl (clsKN C N oC) (nsKN sl fi fl fg fe fle fge st d oN) (desKN C od) (fnKN 3 "__lt__" "cmp_to_key.<locals>.K.__lt__" [("mycmp", cell)] cl ofl)) d "member_descriptor" = some [.str "obj" (tokOf (fld od 0)), .ref C, .builtin "proto.slot", .builtin "proto.slot#set", .int 0 0] := by
      unfold recIn
      rw [kc_d n2 n3]
      kernel_rfl
    unfold slotIn
    rw [e1]
    unfold clsIn
    rw [kc_C]
    simp [clsKN]
  · unfold clsIn
    rw [kc_C]
    rfl
  · unfold isFn typeIn
    dsimp only
    rw [kc_f n4 n5 n6]
    rfl

section
variable {w : World} {A : Around} {E : Value → Shared → Prop} {s : Shared} {C fi fl cell o : Addr} {f v : Value}
theorem k_obj {Q : Value → Shared → Prop} {expr : Bool} (hK : KAt s.heap C fi fl cell f) (ho : KInst s.heap o C v) (hv : handedIn v = true) (h : Q v { s with toks := s.toks + 1 }) :
    wpAny (model pw w) A (getAttr (.ref o) "obj" expr) Q E s := by
  obtain ⟨d, K, L⟩ := hK.look
  obtain ⟨dx, h1, h2⟩ := ho
  have I : InstAt s.heap o ⟨.ref C, some dx, .plain, #[some v]⟩ C (some ⟨.type "dict", none, .dict #[] 0, #[]⟩) := ⟨h1, rfl, rfl, h2⟩
  exact get_bind L.X I L.hga (findObj_data L.cls L.obj L.dg L.ds) L.hgt (wpAny_call (slot_get (s := { s with toks := s.toks + 1 }) L.X I L.sl rfl (handed_on hv h)))
end

theorem code_fn0 {prog : Program} {w : World} {A : Around} {s : Shared} {a : Addr} {o : Obj} {fd : FuncData} {body : List Stmt} {args : Args} {binds : List (Str × Value)} {R : Result → Shared → Prop}
    (r : A.depth < recursionLimit) (ho : s.heap.get? a = some o) (hdata : o.data = .func fd) (hlim : s.heap.NoLimit) (hcd : s.heap.CodeRec fd.code fd.qualname)
    (hbody : fd.body = .stmts body) (hbind : BindsTo s fd args binds)
    (h : ∀ h₁, Fr s.heap s.heap.objs.size h₁ (fun x => binds.reverse.lookup x) →
      wpAny (model prog w) (A.deeper (callEnv fd s.heap.objs.size a)) (execs body (callEnv fd s.heap.objs.size a)) (fun f s' => R (.ok (.ret (match f with | .ret v => v | _ => .none))) s') NoE
        { s with heap := h₁, toks := s.toks + binds.length })
    (hcell : (fd.scope.names.all fun x => x.2 != .cell) = true := by rfl) (hloc : (binds.all fun x => fd.scope.names.lookup x.1 == some .local) = true := by rfl)
    (hco : fd.scope.isCoroutine = false := by rfl) (hgen : fd.scope.isGenerator = false := by rfl) (hk : fd.scope.kind = .function := by rfl) :
    codeAny (model prog w) A (.call (.ref a) args) R s :=
  codeAny_call_def r ho hdata hlim hcd hbody hbind (fun x hx => by have := List.all_eq_true.mp hcell x hx; simpa using this) (fun x hx => by have := List.all_eq_true.mp hloc x hx; simpa using this) (fun h₁ hn hk => wpAny_mono (h h₁ ⟨hn, hk, Nat.le_refl _⟩) (fun _ _ q => q) fun _ _ x => x.elim) hco hgen hk
theorem k_set {w : World} {A : Around} {E : Value → Shared → Prop} {s : Shared} {K : Frag} {C x dx d L : Addr} {h₀ : Heap} {m : Str → Option Value} {v : Value} {Q : Unit → Shared → Prop} (F : Fr h₀ L s.heap m) (N : News h₀ L s.heap ([] ++ (x, instObj C dx) :: [(dx, emptyDict)])) (X : K.In s.heap) (I : InstAt s.heap x (instObj C dx) C (some emptyDict))
    (hsa : findIn K (.ref C) "__setattr__" = some (some (.builtin "object.__setattr__"))) (hpo : plainOver K C = true) (htk : takerIn K C "obj" = some (some (.ref d))) (hT : typeIn K (.ref d) = some (.type "member_descriptor")) (hsl : slotIn K d C = some 0) (hne : dx ≠ x)
    (h : ∀ h' tk, Fr h₀ L h' m → News h₀ L h' ([] ++ (x, ⟨.ref C, some dx, .plain, #[some v]⟩) :: [(dx, emptyDict)]) → Q () ⟨h', s.gens, s.drawn, tk, s.os⟩) :
    wpAny (model pw w) A (setAttr (.ref x) "obj" v) Q E s := by
  have SF := PySem.F.store_object
  obtain ⟨hh, g, dr, t, os⟩ := s
  dsimp only at F N X I
  have LS : Looks (model pw w) hh (specialOf (.ref x) "__setattr__") (some (.builtin "object.__setattr__")) := I.type.andThen (looks_findIn X hsa)
  unfold setAttr
  refine wpAny_bind (wpAny_mkText ?_)
  unfold callSpecial?
  refine wpAny_bind (wpAny_bind (LS.here ?_))
  dsimp only
  refine wpAny_holding ?_
  rw [SF.slot.bind]
  refine wpAny_bind (wpAny_pure ?_)
  dsimp only
  refine wpAny_bind (wpAny_call ?_)
  show codeAny _ _ (.call (.builtin "object.__setattr__") ⟨[.ref x, .str "obj" t, v], []⟩) _ _
  refine osa_descr (s := ⟨hh, g, dr, t + 1, os⟩) KF.slot_mset X I hpo htk hT ?_
  refine slot_set (s := ⟨hh, g, dr, t + 1, os⟩) (pre := []) (post := [(dx, emptyDict)]) F N X I hsl (by decide) (by simp) (by simpa using hne) rfl rfl (fun h' F' N' => ?_)
  exact wpAny_pure (wpAny_pure (h h' _ F' N'))
theorem kc_makes {C N d fl : Addr} {oC oN od ofl : Obj} : makesIn (KcF C N d fl (clsKN C N oC) oN od ofl) C = true := by
  have hl : (KcF C N d fl (clsKN C N oC) oN od ofl).lookup C = some (clsKN C N oC) := kc_C
  have e1 : specialIn (KcF C N d fl (clsKN C N oC) oN od ofl) (.ref C) "__call__" = some (some (.builtin "type.__call__")) := by
    dsimp only [specialIn, typeIn]; rw [hl]; kernel_rfl
  have e2 : instIn (KcF C N d fl (clsKN C N oC) oN od ofl) (.ref C) (.type "type") = some true := by
    dsimp only [instIn, typeIn]; rw [hl]; kernel_rfl
  unfold makesIn
  rw [hl, e1, e2]
  simp [clsKN]
theorem tc_weight (C : Addr) (rest : List Value) (kw : List (Str × Value)) : Code.weight (.builtin "type.__call__" ⟨.ref C :: rest, kw⟩) = 1 := by kernel_rfl
theorem mkK0 {w : World} {s : Shared} {C fi fl cell : Addr} {f : Value} {v : Value} {Q : Value → Shared → Prop} (hlim : s.heap.NoLimit) (hK : KAt s.heap C fi fl cell f)
    (hQ : ∀ h' tk o, (∀ b ob, s.heap.get? b = some ob → h'.get? b = some ob) → s.heap.get? o = none → KInst h' o C v → Q (.ref o) ⟨h', s.gens, s.drawn, tk, s.os⟩) :
    wpAny (model pw w) (BigA none) (call (.ref C) [v] []) Q NoE s := by
  obtain ⟨N, ci, cl, sl, fg, fe, fle, fge, st, d, oC, oN, ofi, ofl, oci, ocl, od, h1, h2, h3, h4, h5, h6, h7, h8⟩ := hK
  have n1 : N ≠ C := ne_of_cls h2 h1 rfl
  have n2 : d ≠ C := ne_of_cls h7 h1 rfl
  have n3 : d ≠ N := ne_of_cls h7 h2 rfl
  have n4 : fi ≠ C := ne_of_cls h3 h1 rfl
  have n5 : fi ≠ N := ne_of_cls h3 h2 rfl
  have n6 : fi ≠ d := ne_of_cls h3 h7 rfl
  have X := kc_in h1 h2 h7 h3
  have hi : findIn (KcF C N d fi (clsKN C N oC) (nsKN sl fi fl fg fe fle fge st d oN) (desKN C od) (fnKN 2 "__init__" "cmp_to_key.<locals>.K.__init__" [] ci ofi)) (.ref C) "__init__" = some (some (.ref fi)) := kc_find rfl rfl rfl n1 (by kernel_rfl)
  have ho : findIn (KcF C N d fi (clsKN C N oC) (nsKN sl fi fl fg fe fle fge st d oN) (desKN C od) (fnKN 2 "__init__" "cmp_to_key.<locals>.K.__init__" [] ci ofi)) (.ref C) "obj" = some (some (.ref d)) := kc_find rfl rfl rfl n1 (by kernel_rfl)
  have hsa : findIn (KcF C N d fi (clsKN C N oC) (nsKN sl fi fl fg fe fle fge st d oN) (desKN C od) (fnKN 2 "__init__" "cmp_to_key.<locals>.K.__init__" [] ci ofi)) (.ref C) "__setattr__" = some (some (.builtin "object.__setattr__")) := kc_find0 rfl rfl rfl n1 (by kernel_rfl) (by kernel_rfl)
  have hf : typeIn (KcF C N d fi (clsKN C N oC) (nsKN sl fi fl fg fe fle fge st d oN) (desKN C od) (fnKN 2 "__init__" "cmp_to_key.<locals>.K.__init__" [] ci ofi)) (.ref fi) = some (.type "function") := by
    dsimp only [typeIn]; rw [kc_f n4 n5 n6]; rfl
  have hT : typeIn (KcF C N d fi (clsKN C N oC) (nsKN sl fi fl fg fe fle fge st d oN) (desKN C od) (fnKN 2 "__init__" "cmp_to_key.<locals>.K.__init__" [] ci ofi)) (.ref d) = some (.type "member_descriptor") := by
    dsimp only [typeIn]; rw [kc_d n2 n3]; rfl
  have hpo : plainOver (KcF C N d fi (clsKN C N oC) (nsKN sl fi fl fg fe fle fge st d oN) (desKN C od) (fnKN 2 "__init__" "cmp_to_key.<locals>.K.__init__" [] ci ofi)) C = true := by
    unfold plainOver clsIn; rw [kc_C]; rfl
  have hds : takesIn (KcF C N d fi (clsKN C N oC) (nsKN sl fi fl fg fe fle fge st d oN) (desKN C od) (fnKN 2 "__init__" "cmp_to_key.<locals>.K.__init__" [] ci ofi)) (.ref d) = some true := by
    have e : specialIn (KcF C N d fi (clsKN C N oC) (nsKN sl fi fl fg fe fle fge st d oN) (desKN C od) (fnKN 2 "__init__" "cmp_to_key.<locals>.K.__init__" [] ci ofi)) (.ref d) "__set__" = some (some (.builtin "member_descriptor.__set__")) := by
      dsimp only [specialIn, typeIn]
      rw [kc_d n2 n3]
      kernel_rfl
    unfold takesIn
    rw [e]
  have htk : takerIn (KcF C N d fi (clsKN C N oC) (nsKN sl fi fl fg fe fle fge st d oN) (desKN C od) (fnKN 2 "__init__" "cmp_to_key.<locals>.K.__init__" [] ci ofi)) C "obj" = some (some (.ref d)) := by
    unfold takerIn; rw [ho, Option.bind_some]; dsimp only; rw [hds]; rfl
  have hsl : slotIn (KcF C N d fi (clsKN C N oC) (nsKN sl fi fl fg fe fle fge st d oN) (desKN C od) (fnKN 2 "__init__" "cmp_to_key.<locals>.K.__init__" [] ci ofi)) d C = some 0 := by
    have e1 : recIn (KcF C N d fi (clsKN C N oC) (nsKN sl fi fl fg fe fle fge st d oN) (desKN C od) (fnKN 2 "__init__" "cmp_to_key.<locals>.K.__init__" [] ci ofi)) d "member_descriptor" = some [.str "obj" (tokOf (fld od 0)), .ref C, .builtin "proto.slot", .builtin "proto.slot#set", .int 0 0] := by
      unfold recIn
      rw [kc_d n2 n3]
      kernel_rfl
    unfold slotIn
    rw [e1]
    unfold clsIn
    rw [kc_C]
    simp [clsKN]
  have hm := kc_makes (C := C) (N := N) (d := d) (fl := fi) (oC := oC) (oN := nsKN sl fi fl fg fe fle fge st d oN) (od := desKN C od) (ofl := fnKN 2 "__init__" "cmp_to_key.<locals>.K.__init__" [] ci ofi)
  generalize KcF C N d fi (clsKN C N oC) (nsKN sl fi fl fg fe fle fge st d oN) (desKN C od) (fnKN 2 "__init__" "cmp_to_key.<locals>.K.__init__" [] ci ofi) = K at X hi ho hsa hf hT hpo hds htk hsl hm
  have hb : ∀ u v, bindArgs (fnK 2 "__init__" "cmp_to_key.<locals>.K.__init__" [] (pmOf ofi) (.ref ci) (ctOf ofi)) ⟨[u, v], []⟩ = (pure [(("self" : Str), u), (("obj" : Str), v)] : Sem (List (Str × Value))) := fun u v => by rfl
  have hcd : s.heap.CodeRec (.ref ci) "cmp_to_key.<locals>.K.__init__" := ⟨ci, _, _, _, rfl, h5, rfl, rfl⟩
  clear h1 h2 h4 h5 h6 h7 h8 ho hds n1 n2 n3 n4 n5 n6
  obtain ⟨h, g, dr, t, os⟩ := s
  refine wpAny_call (make_core (makes_of X hm) (looks_findIn X hi) (fun self => bind_fn X self hf) (.inl rfl) ?_)
  have kk : ∀ b o, h.get? b = some o → ((h.push emptyDict).push (instObj C h.objs.size)).get? b = some o := fun b o e => Heap.get?_push_of_some _ (Heap.get?_push_of_some _ e)
  have hx : ((h.push emptyDict).push (instObj C h.objs.size)).get? (h.objs.size + 1) = some (instObj C h.objs.size) := by heap_get
  have hd : ((h.push emptyDict).push (instObj C h.objs.size)).get? h.objs.size = some emptyDict := by heap_get
  have x0 : h.get? (h.objs.size + 1) = none := Heap.get?_none_of_le (Nat.le_succ _)
  have d0 : h.get? h.objs.size = none := Heap.get?_none_of_le (Nat.le_refl _)
  have hne : h.objs.size ≠ h.objs.size + 1 := Nat.ne_of_lt (Nat.lt_succ_self _)
  have hL : h.objs.size ≤ ((h.push emptyDict).push (instObj C h.objs.size)).objs.size := by rw [Heap.size_push, Heap.size_push]; exact Nat.le_add_right _ 2
  dsimp only at X hlim hcd h3 hQ
  generalize h.objs.size + 1 = x at hx x0 hne ⊢
  generalize hdx : h.objs.size = dx at hx hd d0 hne hL kk ⊢
  generalize (h.push emptyDict).push (instObj C dx) = h₂ at kk hx hd hL ⊢
  refine code_fn0 (s := ⟨h₂, g, dr, t, os⟩) (by show 500 + Code.weight _ < _; rw [tc_weight]; decide) (kk _ _ h3) rfl (NoLimit.keeps' hlim kk) (hcd.keeps kk) rfl (BindsTo.of_eq (hb _ _)) (fun h₃ F => ?_)
  have hlx := Heap.lt_size hx
  have hld := Heap.lt_size hd
  have X3 := X.keeps fun b o e => F.keep _ _ (kk _ _ e)
  have e3 := F.keep _ _ hx
  have e4 := F.keep _ _ hd
  have F0 : Fr h h₂.objs.size h₃ _ := ⟨F.ns, fun b o e => F.keep _ _ (kk _ _ e), by rw [hdx]; exact hL⟩
  have N0 : News h h₂.objs.size h₃ ([] ++ (x, instObj C dx) :: [(dx, emptyDict)]) := by
    intro p hp
    simp only [List.nil_append, List.mem_cons, List.not_mem_nil, or_false] at hp
    rcases hp with rfl | rfl
    · exact ⟨e3, Nat.ne_of_lt hlx, x0⟩
    · exact ⟨e4, Nat.ne_of_lt hld, d0⟩
  refine wpAny_execs_cons ?_
  refine plainObj_wpAny_Assign_Attribute ?_ (hs := rfl)
  refine nm_local F rfl ?_
  refine nm_local F rfl ?_
  refine k_set (s := ⟨h₃, g, dr, _, os⟩) F0 N0 X3 ⟨e3, rfl, rfl, e4⟩ hsa hpo htk hT hsl hne (fun h₄ tk F4 N4 => ?_)
  refine wpAny_execs_nil ?_
  exact ⟨rfl, hQ h₄ tk x F4.keep x0 ⟨dx, (N4 _ (.head _)).1, (N4 _ (.tail _ (.head _))).1⟩⟩
end Mine
end
section
open PySem PySem.W PyProof.Rows PySem.Calls
set_option maxRecDepth 100000
set_option Elab.async false
namespace Mine
noncomputable def lamE : Expr := match sub (stm 20) 12 with
  | .Assign _ (.Call _ _ (k :: _) _) _ => (match k.value with | .Call _ (l :: _) _ _ => l | _ => default)
  | _ => default
noncomputable def lamP : Arguments := match lamE with | .Lambda p _ _ _ => p | _ => default
noncomputable def lamB : Expr := match lamE with | .Lambda _ b _ _ => b | _ => default
noncomputable def lamS : Scope := match lamE with | .Lambda _ _ s _ => s | _ => default
noncomputable def LamAt (h : Heap) (a : Addr) : Prop := ∃ pm c ct, h.get? a = some (kla_obj "<lambda>" "law.<locals>.<lambda>" lamP lamB lamS [] pm c ct) ∧ h.CodeRec (.ref c) "law.<locals>.<lambda>"
theorem LamAt.keeps {h h' : Heap} {a : Addr} (x : LamAt h a) (k : ∀ b o, h.get? b = some o → h'.get? b = some o) : LamAt h' a := let ⟨pm, c, ct, e, r⟩ := x; ⟨pm, c, ct, k _ _ e, r.keeps k⟩
section
variable {prog : Program} {w : World} {A : Around} {E : Value → Shared → Prop} {s : Shared}
theorem call_lam {a : Addr} {o : Obj} {fd : FuncData} {e : Expr} {args : List Value} {kw : List (Str × Value)} {binds : List (Str × Value)} {Q : Value → Shared → Prop} {d u : Nat}
    (r : Room A d u) (ho : s.heap.get? a = some o) (hdata : o.data = .func fd) (hlim : s.heap.NoLimit) (hcd : s.heap.CodeRec fd.code fd.qualname)
    (hbody : fd.body = .expr e) (hbind : bindArgs fd ⟨args, kw⟩ = pure binds)
    (h : ∀ h₁, Fr s.heap s.heap.objs.size h₁ (fun x => binds.reverse.lookup x) →
      wpAny (model prog w) (A.deeper (callEnv fd s.heap.objs.size a)) (eval e (callEnv fd s.heap.objs.size a)) Q NoE { s with heap := h₁, toks := s.toks + binds.length })
    (hcell : (fd.scope.names.all fun x => x.2 != .cell) = true := by rfl) (hloc : (binds.all fun x => fd.scope.names.lookup x.1 == some .local) = true := by rfl)
    (hco : fd.scope.isCoroutine = false := by rfl) (hgen : fd.scope.isGenerator = false := by rfl) (hk : fd.scope.kind = .function := by rfl) :
    wpAny (model prog w) A (call (.ref a) args kw) Q E s := by
  refine wpAny_call (kla_callFunE r.d ho hdata hco hgen hbody hcd ?_)
  rw [hbind]
  refine wpAny_pure (wpAny_newFunctionEnv (fun x hx => by have := List.all_eq_true.mp hcell x hx; simpa using this) (fun x hx => by have := List.all_eq_true.mp hloc x hx; simpa using this) (fun h₁ hns hsb => ⟨hlim.fresh _ hsb, ?_⟩) hk)
  have hk₁ : ∀ b o, s.heap.get? b = some o → h₁.get? b = some o := fun b o e => hsb.extBut b o (Nat.ne_of_lt (Heap.lt_size e)) (Heap.get?_push_of_some _ e)
  exact kla_codeExpr (wpAny_mono (h h₁ ⟨hns, hk₁, Nat.le_refl _⟩) (fun v s' hl => hl) fun _ _ y => y.elim)
end
theorem frOn {h₀ h h' : Heap} {L : Addr} {m : Str → Option Value} (F : Fr h₀ L h m) (k : ∀ b o, h.get? b = some o → h'.get? b = some o) : Fr h₀ L h' m := ⟨F.ns.keeps k, fun b o e => k _ _ (F.keep _ _ e), F.above⟩
theorem Glob.bi {mg mb : Str → Option Value} {h : Heap} (G : Glob mg mb h) (x : Str) (v : Value) (hx : x ≠ "__name__") (e : bootBuiltins x = some v) : mb x = some v := (G.names.b x hx).trans e
theorem b_len : bootBuiltins "len" = some (.builtin "len") := by kernel_rfl
theorem b_sum : bootBuiltins "sum" = some (.builtin "sum") := by kernel_rfl
theorem b_range : bootBuiltins "range" = some (.type "range") := by kernel_rfl
theorem b_sorted : bootBuiltins "sorted" = some (.builtin "sorted") := by kernel_rfl
theorem b_super : bootBuiltins "super" = some (.type "super") := by kernel_rfl
theorem b_str : bootBuiltins "str" = some (.type "str") := by kernel_rfl
theorem b_iter : bootBuiltins "iter" = some (.builtin "iter") := by kernel_rfl
theorem b_object : bootBuiltins "object" = some (.type "object") := by kernel_rfl
theorem endB {Q : Value → Shared → Prop} {a b : Bool} {s : Shared} (h : Q (.bool a) s) (e : a = b) : Q (.bool b) s := e ▸ h
theorem len_quoteF (t : Str) : (quoteF t).length ≤ 5 * t.cps.size + 2 := by
  unfold quoteF
  split
  · have : ("''" : Str).length = 2 := by decide +kernel
    omega
  · split
    · have q1 : (("'" : Str)) = ⟨#[39]⟩ := by decide +kernel
      have q2 := replace_rep t "'\"'\"'" 39
      have q3 : ("'\"'\"'" : Str).cps.toList = [39, 34, 39, 34, 39] := by decide +kernel
      have q4 := rep_length 39 [39, 34, 39, 34, 39] (by decide) t.cps.toList
      rw [q3] at q2
      have q5 : ("'" : Str).length = 1 := by decide +kernel
      rw [Str.length_append, Str.length_append, q5]
      have : (Txt.replace t "'" "'\"'\"'").length ≤ 5 * t.cps.size := by
        rw [q1]
        show (Txt.replace t ⟨#[39]⟩ "'\"'\"'").cps.size ≤ _
        rw [← Array.length_toList, q2]
        simp at q4; omega
      omega
    · show t.cps.size ≤ _; omega
section
variable {w : World} {A : Around} {E : Value → Shared → Prop} {s : Shared} {mg mb : Str → Option Value}
set_option maxHeartbeats 1000000 in
theorem lam_spec {a : Addr} {t1 t2 : Str} {u1 u2 : Tok} {Q : Value → Shared → Prop} (G : Glob mg mb s.heap) (L : LamAt s.heap a) (r : Room A 6 40) (h1 : t1.cps.size ≤ 1000) (h2 : t2.cps.size ≤ 1000)
    (hQ : ∀ s' u, Keeps s s' → Q (.int ((quoteF t2).length - (quoteF t1).length) u) s') : wpAny (model pw w) A (call (.ref a) [.str t1 u1, .str t2 u2]) Q E s := by
  obtain ⟨pm, c, ct, ho, hcd⟩ := L
  have hb : ∀ u v, bindArgs (kla_fn "<lambda>" "law.<locals>.<lambda>" lamP lamB lamS [] pm (.ref c) ct) ⟨[u, v], []⟩ = (pure [(("one" : Str), u), (("two" : Str), v)] : Sem (List (Str × Value))) := fun u v => by rfl
  have hE : ∀ h' k u, (∀ b o, s.heap.get? b = some o → h'.get? b = some o) → Q (.int ((quoteF t2).length - (quoteF t1).length) u) { s with heap := h', toks := k } := fun h' k u kp => hQ _ _ ⟨h', k, rfl, kp⟩
  refine call_lam r ho rfl G.nolimit hcd rfl (hb _ _) (fun h₁ F => ?_)
  conv => arg 3; arg 1; whnf
  have hm := G.names.quote
  iterate 1 (walk1; (try dsimp only))
  refine Call_ ?_
  refine nm_builtin (G.g.keeps F.keep) (G.names.free _ (by simp)) (G.b.keeps F.keep) (G.bi _ _ (by decide) b_len) ?_
  refine cw ?_
  (walk1; (try dsimp only))
  refine Call_ ?_
  refine nm_global (G.g.keeps F.keep) hm ?_
  refine cw ?_
  iterate 3 (walk1; (try dsimp only))
  have G1 : Glob mg mb h₁ := G.keeps F.keep
  refine ⟨G1.keepFn G1.f_quote, ?_⟩
  refine quote_spec G1 (r.deeper _).less h2 (fun s1 v1 ⟨h₂, k₂, e₂, kp₂⟩ => ?_)
  subst e₂
  have F₂ := frOn F kp₂
  have G2 := G1.keeps kp₂
  clear F
  have l1 := len_quoteF t1
  have l2 := len_quoteF t2
  (walk1; (try dsimp only))
  refine ⟨⟨_, .inr (.inl rfl), keeper_builtin⟩, ?_⟩
  refine P.len_str (by omega) ?_
  refine Call_ ?_
  refine nm_builtin (G.g.keeps F₂.keep) (G.names.free _ (by simp)) (G.b.keeps F₂.keep) (G.bi _ _ (by decide) b_len) ?_
  refine cw ?_
  (walk1; (try dsimp only))
  refine Call_ ?_
  refine nm_global (G.g.keeps F₂.keep) hm ?_
  refine cw ?_
  iterate 3 (walk1; (try dsimp only))
  refine ⟨G2.keepFn G2.f_quote, ?_⟩
  refine quote_spec G2 (r.deeper _).less h1 (fun s2 v2 ⟨h₃, k₃, e₃, kp₃⟩ => ?_)
  subst e₃
  have F₃ := frOn F₂ kp₃
  (walk1; (try dsimp only))
  refine ⟨⟨_, .inr (.inl rfl), keeper_builtin⟩, ?_⟩
  refine P.len_str (by omega) ?_
  (walk1; (try dsimp only))
  exact hE _ _ _ F₃.keep
set_option maxHeartbeats 1000000 in
theorem klt_spec {C fi fl cell o1 o2 lm : Addr} {t1 t2 : Str} {u1 u2 : Tok} {Q : Value → Shared → Prop} (G : Glob mg mb s.heap) (hK : KAt s.heap C fi fl cell (.ref lm)) (L : LamAt s.heap lm)
    (i1 : KInst s.heap o1 C (.str t1 u1)) (i2 : KInst s.heap o2 C (.str t2 u2)) (r : Room A 9 60) (h1 : t1.cps.size ≤ 1000) (h2 : t2.cps.size ≤ 1000)
    (hQ : ∀ s', Keeps s s' → Q (.bool (decide ((quoteF t2).length < (quoteF t1).length))) s') : wpAny (model pw w) A (call (.ref fl) [.ref o1, .ref o2]) Q E s := by
  have hK' := hK
  obtain ⟨N, ci, cl, sl, fg, fe, fle, fge, st, d, oC, oN, ofi, ofl, oci, ocl, od, k1, k2, k3, k4, k5, k6, k7, k8⟩ := hK'
  have hb : ∀ u v, bindArgs (fnK 3 "__lt__" "cmp_to_key.<locals>.K.__lt__" [("mycmp", cell)] (pmOf ofl) (.ref cl) (ctOf ofl)) ⟨[u, v], []⟩ = (pure [(("self" : Str), u), (("other" : Str), v)] : Sem (List (Str × Value))) := fun u v => by rfl
  have hE : ∀ h' k, (∀ b o, s.heap.get? b = some o → h'.get? b = some o) → Q (.bool (decide ((quoteF t2).length < (quoteF t1).length))) { s with heap := h', toks := k } := fun h' k kp => hQ _ ⟨h', k, rfl, kp⟩
  have hcd : s.heap.CodeRec (.ref cl) "cmp_to_key.<locals>.K.__lt__" := ⟨cl, _, _, _, rfl, k6, rfl, rfl⟩
  refine call_fn r k4 rfl G.nolimit hcd rfl (BindsTo.of_eq (hb _ _)) (fun h₁ F => ?_)
  have G1 : Glob mg mb h₁ := G.keeps F.keep
  iterate 3 (walk1; (try dsimp only))
  refine Call_ ?_
  refine wpAny_Name (wpAny_loadName_free (c := cell) rfl rfl rfl ⟨_, F.keep _ _ k8, rfl⟩ ?_) (by decide)
  refine cw ?_
  iterate 1 (walk1; (try dsimp only))
  refine Attribute_name ?_
  (walk1; (try dsimp only))
  refine k_obj (hK.keeps F.keep) (i1.keeps F.keep) rfl ?_
  (walk1; (try dsimp only))
  refine Attribute_name ?_
  (walk1; (try dsimp only))
  refine k_obj (hK.keeps F.keep) (i2.keeps F.keep) rfl ?_
  (walk1; (try dsimp only))
  have L1 := L.keeps F.keep
  refine ⟨let ⟨_, _, _, e, _⟩ := L1; ⟨_, .inl rfl, keeper_fn e rfl⟩, ?_⟩
  refine lam_spec (s := { s with heap := h₁, toks := _ }) G1 L1 (r.deeper _).less h1 h2 (fun s1 v1 ⟨h₂, k₂, e₂, kp₂⟩ => ?_)
  subst e₂
  have F₂ := frOn F kp₂
  iterate 2 (walk1; (try dsimp only))
  refine endB (hE _ _ F₂.keep) ?_
  rw [decide_eq_decide]
  omega
end
end Mine
end
section
open PySem PySem.W PyProof.Rows PySem.Calls
set_option maxRecDepth 100000
set_option Elab.async false
namespace Mine
noncomputable def askRun {α : Type} (key : Nat → Int) : KasT α → α
  | .ret a => a
  | .ask i j k => askRun key (k (decide (key i < key j)))
theorem askRun_bind {α β : Type} (key : Nat → Int) (f : α → KasT β) : ∀ t : KasT α, askRun key (t.bind f) = askRun key (f (askRun key t))
  | .ret _ => rfl
  | .ask i j k => askRun_bind key f (k (decide (key i < key j)))
noncomputable def at' (p : Array Nat) (k : Nat) : Nat := p.getD k 0
theorem at_eq (p : Array Nat) (k : Nat) : at' p k = (p[k]?).getD 0 := by simp [at', Array.getD_eq_getD_getElem?]
theorem at_rev {p : Array Nat} {i j : Nat} (hj : j ≤ p.size) (k : Nat) : at' (kas_rev p i j) k = if i ≤ k ∧ k < j then at' p (i + j - 1 - k) else at' p k := by
  rw [at_eq, kas_rev, getElem?_mirror_all hj]
  split <;> simp [at_eq]
theorem at_bub {p : Array Nat} {k d : Nat} (hk : k < p.size) (hd : d ≤ k) (x : Nat) : at' (bubble p k d) x = if x = k - d then at' p k else if k - d < x ∧ x ≤ k then at' p (x - 1) else at' p x := by
  rw [at_eq, getElem?_bubble hk d hd]
  repeat' split
  all_goals simp [at_eq]
section
variable (key : Nat → Int)
noncomputable def pre (a b : Nat) : Prop := key a < key b ∨ (key a = key b ∧ a < b)
noncomputable def Srt (p : Array Nat) (m : Nat) : Prop := ∀ a b, a < b → b < m → pre key (at' p a) (at' p b)
noncomputable def Dsc (p : Array Nat) (m : Nat) : Prop := ∀ a b, a < b → b < m → pre key (at' p b) (at' p a)
end
theorem rv {i m a b : Nat} (h : a < b) (h2 : b < m) : i + m - 1 - b < i + m - 1 - a := Nat.sub_lt_sub_left (Nat.lt_of_lt_of_le h (Nat.le_sub_one_of_lt (Nat.lt_of_lt_of_le h2 (Nat.le_add_left m i)))) h
theorem rl {i m k : Nat} (h : k < m) (hi : i ≤ k) : i + m - 1 - k < m := by
  obtain ⟨c, rfl⟩ := Nat.le.dest hi
  rw [Nat.sub_sub, Nat.add_comm 1, Nat.add_assoc, Nat.add_sub_add_left]
  exact Nat.sub_lt (Nat.lt_of_le_of_lt (Nat.zero_le _) h) (Nat.succ_pos _)
theorem rg {i m b : Nat} (h : b < m) : i ≤ i + m - 1 - b := by
  rw [Nat.sub_sub, Nat.add_sub_assoc (by rw [Nat.add_comm]; exact h)]
  exact Nat.le_add_right _ _
theorem p1 {a b : Nat} (h : a < b) : b - 1 < b := Nat.sub_lt (Nat.lt_of_le_of_lt (Nat.zero_le _) h) Nat.one_pos
theorem pk {a b k : Nat} (h : a < b) (hb : b < k + 1) : b - 1 < k := Nat.lt_of_lt_of_le (p1 h) (Nat.le_of_lt_succ hb)
theorem pm {a b : Nat} (h : a < b) (e : ¬ a = b - 1) : a < b - 1 := Nat.lt_of_le_of_ne (Nat.le_sub_one_of_lt h) e
theorem ad {m n : Nat} (h : m ≤ n) : m + (n - m) = n := Nat.add_sub_cancel' h
structure Rest (p : Array Nat) (m n : Nat) : Prop where
  size : p.size = n
  perm : p.Perm (List.range n).toArray
  low : ∀ k, k < m → at' p k < m
  rst : ∀ k, m ≤ k → k < n → at' p k = k
variable {key : Nat → Int}
theorem Rest.succ {p : Array Nat} {m n : Nat} (r : Rest p m n) (h : m < n) : Rest p (m + 1) n := ⟨r.size, r.perm, fun k hk => by
  by_cases e : k = m
  · subst e; rw [r.rst _ (Nat.le_refl _) h]; omega
  · have := r.low k (by omega); omega, fun k h1 h2 => r.rst k (by omega) h2⟩
theorem asc_run {p : Array Nat} {n : Nat} : ∀ (f m : Nat), 1 ≤ m → m + f = n → Rest p m n → Srt key p m → ∃ m', askRun key (kas_asc p f m) = m' ∧ m ≤ m' ∧ m' ≤ n ∧ Rest p m' n ∧ Srt key p m' ∧ (m' = n ∨ key (at' p m') < key (at' p (m' - 1)))
  | 0, m, h1, hf, r, s => ⟨m, rfl, Nat.le_refl _, by omega, r, s, .inl (by omega)⟩
  | f + 1, m, h1, hf, r, s => by
    show ∃ m', askRun key (if decide (key (p.getD m 0) < key (p.getD (m - 1) 0)) = true then KasT.ret m else kas_asc p f (m + 1)) = m' ∧ _
    split
    · rename_i c
      exact ⟨m, rfl, Nat.le_refl _, by omega, r, s, .inr (of_decide_eq_true c)⟩
    · rename_i c
      have c : ¬ key (at' p m) < key (at' p (m - 1)) := fun x => c (decide_eq_true x)
      have s' : Srt key p (m + 1) := by
        intro a b hab hb
        by_cases e : b = m
        · subst e
          have h2 : key (at' p a) ≤ key (at' p (b - 1)) := by
            by_cases e2 : a = b - 1
            · rw [e2]; exact Int.le_refl _
            · rcases s a (b - 1) (pm hab e2) (p1 hab) with h | h
              · exact Int.le_of_lt h
              · exact Int.le_of_eq h.1
          have h3 := r.low a hab
          have h4 := r.rst b (Nat.le_refl _) (by omega)
          unfold pre
          omega
        · exact s a b hab (by omega)
      obtain ⟨m', e, q1, q2, q3, q4, q5⟩ := asc_run f (m + 1) (by omega) (by omega) (r.succ (by omega)) s'
      exact ⟨m', e, by omega, q2, q3, q4, q5⟩

structure DInv (key : Nat → Int) (p : Array Nat) (m q n : Nat) : Prop where
  rest : Rest p m n
  hq : q + 1 ≤ m
  hm : m ≤ n
  x : ∀ a b, a < b → b < m - (q + 1) → pre key (at' p b) (at' p a)
  xy : ∀ a b, a < m - (q + 1) → m - (q + 1) ≤ b → b < m → key (at' p b) < key (at' p a)
  y : ∀ a b, m - (q + 1) ≤ a → a < b → b < m → key (at' p a) = key (at' p b) ∧ at' p a < at' p b
theorem DInv.last {p : Array Nat} {m q n : Nat} (d : DInv key p m q n) {b : Nat} (h1 : m - (q + 1) ≤ b) (h2 : b < m) : key (at' p b) = key (at' p (m - 1)) := by
  by_cases e : b = m - 1
  · rw [e]
  · exact (d.y b (m - 1) h1 (pm h2 e) (p1 h2)).1
theorem Rest.rev {p : Array Nat} {m n i : Nat} (r : Rest p m n) (hm : m ≤ n) : Rest (kas_rev p i m) m n := by
  have hz : m ≤ p.size := by rw [r.size]; exact hm
  refine ⟨(kas_rev_size i m).trans r.size, (mirror_perm _ _ _ _).trans r.perm, fun k hk => ?_, fun k h1 h2 => ?_⟩
  · rw [at_rev hz]
    split
    · rename_i q
      exact r.low _ (rl q.2 q.1)
    · exact r.low _ hk
  · rw [at_rev hz, if_neg fun q => Nat.lt_irrefl _ (Nat.lt_of_lt_of_le q.2 h1)]
    exact r.rst k h1 h2
theorem DInv.full {p : Array Nat} {m q n : Nat} (d : DInv key p m q n) : Dsc key (kas_rev p (m - (q + 1)) m) m := by
  have hz : m ≤ p.size := by rw [d.rest.size]; exact d.hm
  have hq := d.hq
  intro a b hab hb
  rw [at_rev hz, at_rev hz]
  by_cases ha : m - (q + 1) ≤ a
  · have ham := Nat.lt_trans hab hb
    have hb' := Nat.le_trans ha (Nat.le_of_lt hab)
    rw [if_pos ⟨hb', hb⟩, if_pos ⟨ha, ham⟩]
    exact .inr (d.y _ _ (rg hb) (rv hab hb) (rl ham ha))
  · by_cases hb' : m - (q + 1) ≤ b
    · rw [if_pos ⟨hb', hb⟩, if_neg fun x => ha x.1]
      exact .inl (d.xy a _ (Nat.lt_of_not_le ha) (rg hb) (rl hb hb'))
    · rw [if_neg fun x => hb' x.1, if_neg fun x => ha x.1]
      exact d.x a b hab (Nat.lt_of_not_le hb')
theorem DInv.full0 {p : Array Nat} {m n : Nat} (d : DInv key p m 0 n) : Dsc key p m := by
  have hq := d.hq
  intro a b hab hb
  by_cases hb' : m - 1 ≤ b
  · exact .inl (d.xy a b (Nat.lt_of_lt_of_le hab (Nat.le_sub_one_of_lt hb)) hb' hb)
  · exact d.x a b hab (Nat.lt_of_not_le hb')
theorem Dsc.next {p : Array Nat} {m n : Nat} (r : Rest p m n) (hm : m < n) (h1 : 1 ≤ m) (d : Dsc key p m) (c : ∀ a, a < m → key (at' p m) < key (at' p a)) : DInv key p (m + 1) 0 n where
  rest := r.succ hm
  hq := by omega
  hm := by omega
  x := fun a b hab hb => d a b hab (by omega)
  xy := fun a b ha hb hb' => by
    have : b = m := by omega
    subst this
    exact c a (by omega)
  y := fun a b ha hab hb => by omega
theorem desc_run {n : Nat} : ∀ (f : Nat) (p : Array Nat) (m q : Nat), m + f = n → DInv key p m q n → ∃ p' m' q', askRun key (kas_desc f p m q) = (p', m', q') ∧ DInv key p' m' q' n
  | 0, p, m, q, hf, d => ⟨p, m, q, rfl, d⟩
  | f + 1, p, m, q, hf, d => by
    have hz : m ≤ p.size := by rw [d.rest.size]; exact d.hm
    have hq := d.hq
    have hmn : m < n := by omega
    have hq1 : m - (q + 1) ≤ m - 1 := Nat.sub_le_sub_left (Nat.le_add_left 1 q) m
    show ∃ p' m' q', askRun key (if decide (key (at' p m) < key (at' p (m - 1))) = true then (if q > 0 then kas_desc f (kas_rev p (m - (q + 1)) m) (m + 1) 0 else kas_desc f p (m + 1) 0)
      else .ask (at' p (m - 1)) (at' p m) fun d => if d = true then .ret (p, m, q) else kas_desc f p (m + 1) (q + 1)) = (p', m', q') ∧ _
    split
    · rename_i c
      have c := of_decide_eq_true c
      have c2 : ∀ a, a < m → key (at' p m) < key (at' p a) := by
        intro a ha
        by_cases h : m - (q + 1) ≤ a
        · rw [d.last h ha]; exact c
        · exact Int.lt_trans c (d.xy a (m - 1) (Nat.lt_of_not_le h) hq1 (p1 ha))
      split
      · refine desc_run f _ (m + 1) 0 (by omega) (Dsc.next (d.rest.rev d.hm) hmn (by omega) d.full ?_)
        intro a ha
        rw [at_rev hz, if_neg fun x => Nat.lt_irrefl _ x.2, at_rev hz]
        split
        · rename_i x
          exact c2 _ (rl x.2 x.1)
        · exact c2 _ ha
      · have : q = 0 := by omega
        subst this
        exact desc_run f _ (m + 1) 0 (by omega) (Dsc.next d.rest hmn (by omega) d.full0 c2)
    · rename_i c
      have c : ¬ key (at' p m) < key (at' p (m - 1)) := fun x => c (decide_eq_true x)
      show ∃ p' m' q', askRun key (if decide (key (at' p (m - 1)) < key (at' p m)) = true then KasT.ret (p, m, q) else kas_desc f p (m + 1) (q + 1)) = (p', m', q') ∧ _
      split
      · exact ⟨p, m, q, rfl, d⟩
      · rename_i c'
        have c' : ¬ key (at' p (m - 1)) < key (at' p m) := fun x => c' (decide_eq_true x)
        have es : m + 1 - (q + 1 + 1) = m - (q + 1) := Nat.add_sub_add_right m 1 (q + 1)
        refine desc_run f p (m + 1) (q + 1) (by omega) ⟨d.rest.succ hmn, by omega, hmn, fun a b hab hb => d.x a b hab (es ▸ hb), fun a b ha hb hb' => ?_, fun a b ha hab hb => ?_⟩
        · rw [es] at ha hb
          by_cases e : b = m
          · subst e
            exact Int.lt_of_le_of_lt (Int.not_lt.mp c') (d.xy a (b - 1) ha hq1 (p1 (Nat.lt_of_lt_of_le (Nat.zero_lt_succ q) hq)))
          · exact d.xy a b ha hb (Nat.lt_of_le_of_ne (Nat.le_of_lt_succ hb') e)
        · rw [es] at ha
          by_cases e : b = m
          · subst e
            have h1 := d.last (b := a) ha hab
            have h2 := d.rest.low a hab
            have h3 := d.rest.rst b (Nat.le_refl _) hmn
            exact ⟨h1.trans (Int.le_antisymm (Int.not_lt.mp c) (Int.not_lt.mp c')), by rw [h3]; exact h2⟩
          · exact d.y a b ha hab (Nat.lt_of_le_of_ne (Nat.le_of_lt_succ hb) e)
theorem tail_run {p : Array Nat} {m n : Nat} (r : Rest p m n) (hm : m ≤ n) (h1 : 1 ≤ m) (d : Dsc key p m) : ∃ m' p', askRun key (kas_tail3 m n p) = (m', p') ∧ m ≤ m' ∧ m' ≤ n ∧ Rest p' m' n ∧ Srt key p' m' := by
  have hz : m ≤ p.size := by rw [r.size]; exact hm
  have s : Srt key (kas_rev p 0 m) m := by
    intro a b hab hb
    rw [at_rev hz, at_rev hz, if_pos ⟨Nat.zero_le _, Nat.lt_trans hab hb⟩, if_pos ⟨Nat.zero_le _, hb⟩]
    exact d _ _ (rv hab hb) (rl (Nat.lt_trans hab hb) (Nat.zero_le _))
  obtain ⟨m', e, q1, q2, q3, q4, _⟩ := asc_run (key := key) (n - m) m h1 (ad hm) (r.rev hm) s
  refine ⟨m', _, ?_, q1, q2, q3, q4⟩
  unfold kas_tail3
  rw [askRun_bind, e]
  rfl
theorem descPart_run {p : Array Nat} {m n : Nat} (d : DInv key p (m + 1) 0 n) : ∃ m' p', askRun key (kas_descPart m n p) = (m', p') ∧ 1 ≤ m' ∧ m' ≤ n ∧ Rest p' m' n ∧ Srt key p' m' := by
  have hm := d.hm
  obtain ⟨p₁, m₁, q₁, e, d₁⟩ := desc_run (n - (m + 1)) p (m + 1) 0 (ad hm) d
  have hq := d₁.hq
  unfold kas_descPart
  rw [askRun_bind, e]
  dsimp only
  split
  · obtain ⟨m', p', e', a, b, c, d'⟩ := tail_run (key := key) (d₁.rest.rev (i := m₁ - (q₁ + 1)) d₁.hm) d₁.hm (by omega) d₁.full
    exact ⟨m', p', e', by omega, b, c, d'⟩
  · have : q₁ = 0 := by omega
    subst this
    obtain ⟨m', p', e', a, b, c, d'⟩ := tail_run (key := key) d₁.rest d₁.hm (by omega) d₁.full0
    exact ⟨m', p', e', by omega, b, c, d'⟩
theorem rest_range (n : Nat) : Rest (List.range n).toArray 0 n := by
  refine ⟨by simp, Array.Perm.refl _, fun k hk => by omega, fun k _ hk => ?_⟩
  rw [at_eq]
  simp [hk]
theorem count_run {n : Nat} (h2 : 2 ≤ n) : ∃ m p, askRun key (kas_count n (List.range n).toArray) = (m, p) ∧ 1 ≤ m ∧ m ≤ n ∧ Rest p m n ∧ Srt key p m := by
  have r0 := rest_range n
  have r1 := r0.succ (by omega)
  obtain ⟨m, e, q1, q2, q3, q4, q5⟩ := asc_run (key := key) (n - 1) 1 (Nat.le_refl _) (ad (Nat.le_of_succ_le h2)) r1 (fun a b hab hb => by omega)
  have hz : m ≤ (List.range n).toArray.size := by simp; omega
  have idx : ∀ k, k < n → at' (List.range n).toArray k = k := fun k hk => r0.rst k (Nat.zero_le _) hk
  unfold kas_count
  rw [askRun_bind, e]
  by_cases hn : (m == n) = true
  · rw [if_pos hn]
    exact ⟨m, _, rfl, q1, q2, q3, q4⟩
  · rw [if_neg hn]
    have hn' : m ≠ n := fun x => hn (by rw [x]; exact beq_self_eq_true _)
    have q5 : key (at' (List.range n).toArray m) < key (at' (List.range n).toArray (m - 1)) := q5.resolve_left hn'
    by_cases h1 : m > 1
    · rw [if_pos h1]
      show ∃ m' p', askRun key (if decide (key (at' (List.range n).toArray 0) < key (at' (List.range n).toArray (m - 1))) = true then KasT.ret (m, (List.range n).toArray) else kas_descPart m n (kas_rev (List.range n).toArray 0 m)) = (m', p') ∧ _
      split
      · exact ⟨m, _, rfl, q1, q2, q3, q4⟩
      · rename_i c
        have c : ¬ key (at' (List.range n).toArray 0) < key (at' (List.range n).toArray (m - 1)) := fun x => c (decide_eq_true x)
        have all : ∀ a, a < m → key (at' (List.range n).toArray a) = key (at' (List.range n).toArray (m - 1)) := by
          intro a ha
          have h3 : key (at' (List.range n).toArray 0) ≤ key (at' (List.range n).toArray a) := by
            by_cases e : a = 0
            · rw [e]; exact Int.le_refl _
            · rcases q4 0 a (Nat.pos_of_ne_zero e) ha with h | h
              · exact Int.le_of_lt h
              · exact Int.le_of_eq h.1
          have h4 : key (at' (List.range n).toArray a) ≤ key (at' (List.range n).toArray (m - 1)) := by
            by_cases e : a = m - 1
            · rw [e]; exact Int.le_refl _
            · rcases q4 a (m - 1) (pm ha e) (p1 ha) with h | h
              · exact Int.le_of_lt h
              · exact Int.le_of_eq h.1
          exact Int.le_antisymm h4 (Int.le_trans (Int.not_lt.mp c) h3)
        have hmn := Nat.lt_of_le_of_ne q2 hn'
        refine descPart_run (Dsc.next (q3.rev q2) hmn q1 (fun a b hab hb => ?_) (fun a ha => ?_))
        · have ham := Nat.lt_trans hab hb
          have la := rl (i := 0) ham (Nat.zero_le _)
          have lb := rl (i := 0) hb (Nat.zero_le _)
          rw [at_rev hz, at_rev hz, if_pos ⟨Nat.zero_le _, hb⟩, if_pos ⟨Nat.zero_le _, ham⟩]
          have e1 := all (0 + m - 1 - a) la
          have e2 := all (0 + m - 1 - b) lb
          refine .inr ⟨by rw [e1, e2], ?_⟩
          rw [idx _ (Nat.lt_trans la hmn), idx _ (Nat.lt_trans lb hmn)]
          exact rv hab hb
        · rw [at_rev hz, at_rev hz, if_neg fun x => Nat.lt_irrefl _ x.2, if_pos ⟨Nat.zero_le _, ha⟩]
          have e1 := all (0 + m - 1 - a) (rl ha (Nat.zero_le _))
          rw [e1]; exact q5
    · rw [if_neg h1]
      have : m = 1 := by omega
      subst this
      refine descPart_run (Dsc.next q3 (by omega) q1 (fun a b hab hb => by omega) (fun a ha => ?_))
      have : a = 0 := by omega
      subst this
      exact q5
theorem place_run {p : Array Nat} {k : Nat} (s : Srt key p k) : ∀ (f l r : Nat), l ≤ r → r ≤ k → r - l ≤ f → (∀ j, j < l → key (at' p j) ≤ key (at' p k)) → (∀ j, r ≤ j → j < k → key (at' p k) < key (at' p j)) →
    ∃ x, askRun key (kas_place p k f l r) = x ∧ x ≤ k ∧ (∀ j, j < x → key (at' p j) ≤ key (at' p k)) ∧ (∀ j, x ≤ j → j < k → key (at' p k) < key (at' p j))
  | 0, l, r, h1, h2, h3, a, b => ⟨l, rfl, by omega, a, fun j hj hk => b j (by omega) hk⟩
  | f + 1, l, r, h1, h2, h3, a, b => by
    unfold kas_place
    split
    · exact ⟨l, rfl, by omega, a, fun j hj hk => b j (by omega) hk⟩
    · rename_i hlr
      have hlr : l < r := Nat.lt_of_not_le hlr
      have mono : ∀ i j, i < j → j < k → key (at' p i) ≤ key (at' p j) := fun i j hij hj => by
        rcases s i j hij hj with h | h
        · exact Int.le_of_lt h
        · exact Int.le_of_eq h.1
      show ∃ x, askRun key (if decide (key (at' p k) < key (at' p ((l + r) / 2))) = true then kas_place p k f l ((l + r) / 2) else kas_place p k f ((l + r) / 2 + 1) r) = x ∧ _
      have m1 : l ≤ (l + r) / 2 := by omega
      have m2 : (l + r) / 2 < r := by omega
      generalize (l + r) / 2 = y at m1 m2 ⊢
      have hyk := Nat.lt_of_lt_of_le m2 h2
      split
      · rename_i c
        have c := of_decide_eq_true c
        refine place_run s f l _ m1 (Nat.le_of_lt hyk) (by omega) a (fun j hj hk => ?_)
        by_cases e : j = y
        · rw [e]; exact c
        · exact Int.lt_of_lt_of_le c (mono y j (Nat.lt_of_le_of_ne hj (Ne.symm e)) hk)
      · rename_i c
        have c : ¬ key (at' p k) < key (at' p y) := fun x => c (decide_eq_true x)
        refine place_run s f _ r m2 h2 (by omega) (fun j hj => ?_) b
        by_cases e : j = y
        · rw [e]; exact Int.not_lt.mp c
        · exact Int.le_trans (mono j y (Nat.lt_of_le_of_ne (Nat.le_of_lt_succ hj) e) hyk) (Int.not_lt.mp c)
theorem bin_run {n : Nat} : ∀ (f : Nat) (p : Array Nat) (k : Nat), k + f = n → Rest p k n → Srt key p k → ∃ p', askRun key (kas_bin f p k) = p' ∧ Rest p' n n ∧ Srt key p' n
  | 0, p, k, h, r, s => by
    have : k = n := by omega
    subst this
    exact ⟨p, rfl, r, s⟩
  | f + 1, p, k, h, r, s => by
    have hz : k < p.size := by rw [r.size]; omega
    unfold kas_bin
    rw [askRun_bind]
    obtain ⟨l, e, h1, h2, h3⟩ := place_run s k 0 k (Nat.zero_le _) (Nat.le_refl _) (by omega) (fun j hj => by omega) (fun j hj hk => by omega)
    rw [e]
    have hlow := r.low
    have hk := r.rst k (Nat.le_refl _) (by omega)
    have hb := at_bub (p := p) hz (Nat.sub_le k l)
    have ek : k - (k - l) = l := Nat.sub_sub_self h1
    rw [ek] at hb
    refine bin_run f _ (k + 1) (by omega) ⟨(bubble_size _ _ _).trans r.size, (bubble_perm _ _ _).trans r.perm, fun j hj => ?_, fun j hj hj' => ?_⟩ (fun a b hab hb' => ?_)
    · rw [hb]
      split
      · rw [hk]; exact Nat.lt_succ_self k
      · split
        · rename_i x
          exact Nat.lt_succ_of_lt (hlow (j - 1) (pk x.1 hj))
        · rename_i x y
          refine Nat.lt_succ_of_lt (hlow j ?_)
          omega
    · have hlj := Nat.lt_of_le_of_lt h1 hj
      rw [hb, if_neg (Nat.ne_of_gt hlj), if_neg fun x => Nat.lt_irrefl _ (Nat.lt_of_lt_of_le hj x.2)]
      exact r.rst j (Nat.le_of_lt hj) hj'
    · have hbk := Nat.le_of_lt_succ hb'
      have hak := Nat.lt_of_lt_of_le hab hbk
      rw [hb a, hb b]
      by_cases ea : a = l
      · subst ea
        rw [if_pos rfl, if_neg (Nat.ne_of_gt hab), if_pos ⟨hab, hbk⟩]
        exact .inl (h3 (b - 1) (Nat.le_sub_one_of_lt hab) (pk hab hb'))
      · rw [if_neg ea]
        by_cases eb : b = l
        · subst eb
          rw [if_pos rfl, if_neg fun x => Nat.lt_irrefl _ (Nat.lt_trans x.1 hab)]
          have q1 := h2 a hab
          have q2 := hlow a hak
          rcases Int.lt_or_eq_of_le q1 with z | z
          · exact .inl z
          · exact .inr ⟨z, by rw [hk]; exact q2⟩
        · rw [if_neg eb]
          by_cases al : l < a
          · rw [if_pos ⟨al, Nat.le_of_lt hak⟩, if_pos ⟨Nat.lt_trans al hab, hbk⟩]
            exact s _ _ (Nat.sub_lt_sub_right (Nat.le_trans (Nat.succ_le_succ (Nat.zero_le l)) al) hab) (pk hab hb')
          · rw [if_neg fun x => al x.1]
            by_cases bl : l < b
            · rw [if_pos ⟨bl, hbk⟩]
              exact s _ _ (Nat.lt_of_lt_of_le (Nat.lt_of_le_of_ne (Nat.le_of_not_lt al) ea) (Nat.le_sub_one_of_lt bl)) (pk bl hb')
            · rw [if_neg fun x => bl x.1]
              exact s _ _ hab (Nat.lt_of_lt_of_le (Nat.lt_of_le_of_ne (Nat.le_of_not_lt bl) eb) h1)
theorem sort_run {n : Nat} (h2 : 2 ≤ n) : Rest (askRun key (kas_sort n)) n n ∧ Srt key (askRun key (kas_sort n)) n := by
  obtain ⟨m, p, e, h1, h3, r, s⟩ := count_run (key := key) h2
  unfold kas_sort
  rw [askRun_bind, e]
  dsimp only
  split
  · have em : max m 1 = m := by omega
    rw [em]
    obtain ⟨p', e', r', s'⟩ := bin_run (key := key) (n - m) p m (ad h3) r s
    rw [e']; exact ⟨r', s'⟩
  · have : m = n := by omega
    subst this
    exact ⟨r, s⟩
end Mine
end
section
open PySem PySem.W PyProof.Rows PySem.Calls
set_option maxRecDepth 100000
set_option Elab.async false
namespace Mine
noncomputable def allP {α : Type} (n : Nat) (P : α → Prop) : KasT α → Prop
  | .ret a => P a
  | .ask i j k => i < n ∧ j < n ∧ ∀ b, allP n P (k b)
theorem allP_bind {α β : Type} {n : Nat} {P : α → Prop} {R : β → Prop} {f : α → KasT β} (hf : ∀ a, P a → allP n R (f a)) : ∀ t : KasT α, allP n P t → allP n R (t.bind f)
  | .ret a, h => hf a h
  | .ask _ _ k, h => ⟨h.1, h.2.1, fun b => allP_bind hf (k b) (h.2.2 b)⟩
noncomputable def Bd (n : Nat) (p : Array Nat) : Prop := 0 < n ∧ ∀ x ∈ p.toList, x < n
theorem Bd.at {n : Nat} {p : Array Nat} (b : Bd n p) (k : Nat) : p.getD k 0 < n := by
  show at' p k < n
  rw [at_eq]
  cases h : p[k]? with
  | none => exact b.1
  | some x =>
    obtain ⟨hk, rfl⟩ := Array.getElem?_eq_some_iff.mp h
    exact b.2 _ (by simp)
theorem Bd.perm {n : Nat} {p q : Array Nat} (b : Bd n p) (h : q.Perm p) : Bd n q := ⟨b.1, fun x hx => b.2 x ((Array.perm_iff_toList_perm.mp h).mem_iff.mp hx)⟩
theorem Bd.rev {n i j : Nat} {p : Array Nat} (b : Bd n p) : Bd n (kas_rev p i j) := b.perm (mirror_perm _ _ _ _)
theorem all_asc {n : Nat} {p : Array Nat} (b : Bd n p) : ∀ f m, allP n (fun _ => True) (kas_asc p f m)
  | 0, _ => trivial
  | f + 1, m => ⟨b.at _, b.at _, fun c => by dsimp only; split <;> first | trivial | exact all_asc b f _⟩
theorem all_desc {n : Nat} : ∀ f (p : Array Nat) m q, Bd n p → allP n (fun r : Array Nat × Nat × Nat => Bd n r.1) (kas_desc f p m q)
  | 0, _, _, _, b => b
  | f + 1, p, m, q, b => ⟨b.at _, b.at _, fun c => by
    dsimp only
    split
    · split
      · exact all_desc f _ _ _ b.rev
      · exact all_desc f _ _ _ b
    · refine ⟨b.at _, b.at _, fun d => ?_⟩
      dsimp only
      split
      · exact b
      · exact all_desc f _ _ _ b⟩
theorem all_tail {n m r : Nat} {p : Array Nat} (b : Bd n p) : allP n (fun x : Nat × Array Nat => Bd n x.2) (kas_tail3 m r p) := by
  unfold kas_tail3
  refine allP_bind (P := fun _ => True) (fun a _ => ?_) _ (all_asc b.rev _ _)
  exact b.rev
theorem all_descPart {n m r : Nat} {p : Array Nat} (b : Bd n p) : allP n (fun x : Nat × Array Nat => Bd n x.2) (kas_descPart m r p) := by
  unfold kas_descPart
  refine allP_bind (P := fun r : Array Nat × Nat × Nat => Bd n r.1) (fun a ha => ?_) _ (all_desc _ _ _ _ b)
  skip
  split
  · exact all_tail ha.rev
  · exact all_tail ha
theorem all_count {n r : Nat} {p : Array Nat} (b : Bd n p) : allP n (fun x : Nat × Array Nat => Bd n x.2) (kas_count r p) := by
  unfold kas_count
  refine allP_bind (P := fun _ => True) (fun a _ => ?_) _ (all_asc b _ _)
  skip
  split
  · exact b
  · split
    · refine ⟨b.at _, b.at _, fun c => ?_⟩
      dsimp only
      split
      · exact b
      · exact all_descPart b.rev
    · exact all_descPart b
theorem all_place {n : Nat} {p : Array Nat} (b : Bd n p) (k : Nat) : ∀ f l r, allP n (fun _ => True) (kas_place p k f l r)
  | 0, _, _ => trivial
  | f + 1, l, r => by
    unfold kas_place
    split
    · trivial
    · refine ⟨b.at _, b.at _, fun c => ?_⟩
      dsimp only
      split <;> exact all_place b k f _ _
theorem all_bin {n : Nat} : ∀ f (p : Array Nat) k, Bd n p → allP n (fun _ => True) (kas_bin f p k)
  | 0, _, _, _ => trivial
  | f + 1, p, k, b => by
    unfold kas_bin
    exact allP_bind (P := fun _ => True) (fun _ _ => all_bin f _ _ (b.perm (bubble_perm _ _ _))) _ (all_place b k _ _ _)
theorem all_sort {n : Nat} (h : 0 < n) : allP n (fun _ => True) (kas_sort n) := by
  unfold kas_sort
  refine allP_bind (P := fun x : Nat × Array Nat => Bd n x.2) (fun a ha => ?_) _ (all_count ⟨h, fun x hx => by simpa using hx⟩)
  skip
  split
  · exact all_bin _ _ _ ha
  · trivial
theorem kas_walk {α : Type} {n : Nat} {key : Nat → Int} {cmp : Nat → Nat → (Bool → Shared → Prop) → Shared → Prop} {I : Shared → Prop} {P : α → Prop}
    (ans : ∀ i j C s, i < n → j < n → I s → (∀ s', I s' → C (decide (key i < key j)) s') → cmp i j C s) {G : α → Shared → Prop} :
    ∀ (t : KasT α) (s : Shared), allP n P t → I s → (∀ s', I s' → G (askRun key t) s') → t.kasWp cmp G s
  | .ret _, s, _, hI, hG => hG s hI
  | .ask i j k, s, h, hI, hG => ans i j _ s h.1 h.2.1 hI fun s' hI' => kas_walk ans (k _) s' (h.2.2 _) hI' hG
end Mine
end
section
open PySem PySem.W PyProof.Rows PySem.Calls
set_option maxRecDepth 100000
set_option Elab.async false
namespace Mine
structure NearR (A : Around) (d u : Nat) : Prop where
  handled : A.handled = none
  depth : A.depth + d ≤ 500
  units : A.units + u ≤ 5000
theorem NearR.room {A : Around} {d u : Nat} (r : NearR A d u) : Room A d u := ⟨r.handled, by have := r.depth; simp only [recursionLimit]; omega, by have := r.units; simp only [cLine]; omega⟩
theorem NearR.near {A : Around} {d u : Nat} (r : NearR A d u) : Near A := ⟨r.handled, by have := r.depth; omega, by have := r.units; omega⟩
theorem NearR.deeper {A : Around} {d u : Nat} (r : NearR A (d + 1) (u + 3)) (env : Env) : NearR (A.deeper env) d u :=
  ⟨r.handled, by have := r.depth; show A.depth + 1 + d ≤ _; omega, by have := r.units; show A.units + 3 + u ≤ _; omega⟩
theorem NearR.in1 {A : Around} {d u : Nat} (r : NearR A d (u + 1)) : NearR A.in1 d u :=
  ⟨r.handled, r.depth, by have := r.units; show A.units + 1 + u ≤ _; omega⟩
theorem NearR.less {A : Around} {d u d' u' : Nat} (r : NearR A d u) (hd : d' ≤ d := by omega) (hu : u' ≤ u := by omega) : NearR A d' u' :=
  ⟨r.handled, by have := r.depth; omega, by have := r.units; omega⟩
theorem strs_get {vs : List Value} {ws : List Str} (h : StrsAre vs ws) : vs.length = ws.length ∧ ∀ i, i < ws.length → ∃ u, vs.getD i .none = .str (ws.getD i default) u := by
  induction h with
  | nil => exact ⟨rfl, fun i hi => absurd hi (by simp)⟩
  | cons y t _ ih =>
    refine ⟨by simp [ih.1], fun i hi => ?_⟩
    cases i with
    | zero => exact ⟨t, rfl⟩
    | succ i =>
      obtain ⟨u, hu⟩ := ih.2 i (by simpa using hi)
      exact ⟨u, by simpa using hu⟩
noncomputable abbrev KeepH (h h' : Heap) : Prop := ∀ b o, h.get? b = some o → h'.get? b = some o
theorem KeepH.none {h h' : Heap} (k : KeepH h h') {a : Addr} (e : h'.get? a = none) : h.get? a = none := by
  cases q : h.get? a with
  | none => rfl
  | some o => rw [k _ _ q] at e; cases e
theorem KInst.but {h h' : Heap} {o C k : Addr} {v : Value} {xs : Array Value} {n : Nat} (x : KInst h o C v) (s : Heap.SameBut k h h') (e : h.get? k = some (seqObj "list" xs n)) : KInst h' o C v := by
  obtain ⟨dx, a, b⟩ := x
  exact ⟨dx, (s.2 _ (ne_of_cls a e rfl)).trans a, (s.2 _ (ne_of_cls b e rfl)).trans b⟩
section
variable {w : World} {A : Around} {E : Value → Shared → Prop} {s : Shared} {mg mb : Str → Option Value} {C fi fl cell lm : Addr}
theorem klt_ask {o1 o2 : Addr} {t1 t2 : Str} {u1 u2 : Tok} {Q : Bool → Shared → Prop} (G : Glob mg mb s.heap) (hK : KAt s.heap C fi fl cell (.ref lm)) (L : LamAt s.heap lm)
    (i1 : KInst s.heap o1 C (.str t1 u1)) (i2 : KInst s.heap o2 C (.str t2 u2)) (r : Room A 9 60) (h1 : t1.cps.size ≤ 1000) (h2 : t2.cps.size ≤ 1000)
    (hQ : ∀ s', Keeps s s' → Q (decide ((quoteF t2).length < (quoteF t1).length)) s') : wpAny (model pw w) A (keyLt' oneType' (.ref o1) (.ref o2)) Q E s := by
  obtain ⟨d, K, KL⟩ := hK.look
  have i1' := i1
  obtain ⟨dx, e1, e2⟩ := i1
  have I : InstAt s.heap o1 ⟨.ref C, some dx, .plain, #[some (.str t1 u1)]⟩ C (some ⟨.type "dict", none, .dict #[] 0, #[]⟩) := ⟨e1, rfl, rfl, e2⟩
  rw [keyLt'_oneType, oneLt'_eq]
  simp only [if_true]
  refine wpAny_bind (wpAny_cRoomFor r.u ?_)
  refine wpAny_bind (ifBound_K KL.X I KL.lt KL.fn ?_)
  refine klt_spec G hK L i1' i2 r h1 h2 (fun s' k => ?_)
  exact wpAny_truthy_bool (hQ s' k)

noncomputable def keyS (ws : List Str) (i : Nat) : Int := -((quoteF (ws.getD i default)).length : Int)
structure SInv (s₀ : Shared) (h₀ : Heap) (C a kS : Addr) (e1 : Nat) (vs ks : List Value) (s' : Shared) : Prop where
  ex : ∃ h tk e, s' = { s₀ with heap := h, toks := tk } ∧ KeepH h₀ h ∧ h.get? a = some (seqObj "list" #[] e1) ∧ h.get? kS = some (seqObj "list" ks.toArray e) ∧ ∀ j, j < ks.length → ∃ o, ks.getD j .none = .ref o ∧ KInst h o C (vs.getD j .none)
theorem getD_append_lt {α : Type} {l r : List α} {d : α} {j : Nat} (h : j < l.length) : (l ++ r).getD j d = l.getD j d := by
  simp [List.getD, List.getElem?_append_left h]
theorem getD_append_len {α : Type} {l : List α} {x d : α} : (l ++ [x]).getD l.length d = x := by
  simp [List.getD]

set_option maxHeartbeats 2000000 in
theorem sort_end {a kS : Addr} {e1 : Nat} {vs ks : List Value} {ws : List Str} {h₀ : Heap} {P : PySem.Fin → Shared → Prop} (G : Glob mg mb h₀) (hK : KAt h₀ C fi fl cell (.ref lm)) (L : LamAt h₀ lm)
    (r : Room A 10 70) (hw : StrsAre vs ws) (h2 : 2 ≤ ws.length) (h64 : ws.length < 64) (hz : ∀ t ∈ ws, t.cps.size ≤ 1000) (hka : kS ≠ a) (hk0 : h₀.get? kS = none) (ha0 : h₀.get? a = none)
    (hks : ks.length = vs.length) {s₀ : Shared} (hI : SInv s₀ h₀ C a kS e1 vs ks s)
    (h : ∀ h' tk c, KeepH h₀ h' → h'.get? a = some (seqObj "list" ((askRun (keyS ws) (kas_sort ws.length)).map fun i => vs.getD i .none) c) → P (.done (.ret .none)) { s₀ with heap := h', toks := tk }) :
    wpAny (model pw w) A (ksk_end a false vs.toArray e1 (.ref kS) ks.toArray) P E s := by
  obtain ⟨hlen, hget⟩ := strs_get hw
  have hzs : (ks.toArray.zip vs.toArray).size = ws.length := by rw [Array.size_zip, List.size_toArray, List.size_toArray, hks, Nat.min_self, hlen]
  have item : ∀ i, i < ws.length → kas_item (ks.toArray.zip vs.toArray) i = (ks.getD i .none, vs.getD i .none) := by
    intro i hi
    have h1 : i < (ks.toArray.zip vs.toArray).size := by rw [hzs]; exact hi
    have h3 : i < ks.length := by omega
    have h4 : i < vs.length := by omega
    unfold kas_item
    have e : (ks.toArray.zip vs.toArray).getD i (Value.none, Value.none) = (ks.toArray.zip vs.toArray)[i] := by unfold Array.getD; rw [dif_pos h1]; rfl
    rw [e]
    simp [h3, h4]
  unfold ksk_end
  dsimp only
  have hn2 : ¬ vs.toArray.size < 2 := by rw [List.size_toArray]; omega
  rw [if_neg (by simp), if_neg hn2, if_neg hn2]
  have hI' := hI
  obtain ⟨hh, tk, e, rfl, kp, ea, ek, hin⟩ := hI'.ex
  refine wpAny_bind (kas_kind (T := .ref C) (by omega) (fun v hv => ?_) rfl (by simp) ?_)
  · obtain ⟨j, hj, rfl⟩ := List.getElem_of_mem hv
    obtain ⟨o, e1, e2⟩ := hin j hj
    have : ks.getD j .none = ks[j] := by simp [hj]
    rw [this] at e1
    rw [e1]
    obtain ⟨dx, e3, _⟩ := e2
    exact (Looks.ld e3).andThen .now
  have est : SortSt.mk' oneType' (ks.toArray.zip vs.toArray) #[] 7 none = kas_st oneType' (ks.toArray.zip vs.toArray) (List.toArray (List.range ws.length)) := by
    have e := kas_range (ks.toArray.zip vs.toArray)
    rw [hzs] at e
    show SortSt.mk' oneType' (ks.toArray.zip vs.toArray) #[] 7 none = SortSt.mk' oneType' ((List.toArray (List.range ws.length)).map (kas_item (ks.toArray.zip vs.toArray))) #[] 7 none
    rw [e]
  have run := kas_runs (prog := pw) (w := w) (A := A) (κ := oneType') (it := ks.toArray.zip vs.toArray) (E := E) (s := { s₀ with heap := hh, toks := tk }) (n := ws.length)
    (Q := fun _ st' s' => arrOf st' = (askRun (keyS ws) (kas_sort ws.length)).map (kas_item (ks.toArray.zip vs.toArray)) ∧ failedOf st' = none ∧ SInv s₀ h₀ C a kS e1 vs ks s')
    (G := fun p s' => p = askRun (keyS ws) (kas_sort ws.length) ∧ SInv s₀ h₀ C a kS e1 vs ks s')
    h2 h64 (fun p' st' s' a1 a2 a3 a4 => ⟨a4.1 ▸ a2, a3, a4.2⟩)
    (kas_walk (n := ws.length) (key := keyS ws) (I := SInv s₀ h₀ C a kS e1 vs ks) (fun i j D s' hi hj hI hD => by
      obtain ⟨h', tk', e', rfl, kp', ea', ek', hin'⟩ := hI.ex
      obtain ⟨oi, ei, ii⟩ := hin' i (by omega)
      obtain ⟨oj, ej, ij⟩ := hin' j (by omega)
      obtain ⟨ui, evi⟩ := hget i hi
      obtain ⟨uj, evj⟩ := hget j hj
      show wpAny _ _ (keyLt' oneType' (kas_item _ i).1 (kas_item _ j).1) _ _ _
      rw [item i hi, item j hj]
      dsimp only
      rw [ei, ej]
      rw [evi] at ii
      rw [evj] at ij
      refine klt_ask (s := { s₀ with heap := h', toks := tk' }) (G.keeps kp') (hK.keeps kp') (L.keeps kp') ii ij r.less (hz _ (by simp [hi])) (hz _ (by simp [hj])) (fun s'' ⟨h'', k'', e'', kp''⟩ => ?_)
      have ed : decide ((quoteF (ws.getD j default)).length < (quoteF (ws.getD i default)).length) = decide (keyS ws i < keyS ws j) := by
        unfold keyS
        rw [decide_eq_decide]; omega
      rw [ed]
      refine hD _ ⟨h'', k'', e', e'', fun b o q => kp'' _ _ (kp' _ _ q), kp'' _ _ ea', kp'' _ _ ek', fun j hj => ?_⟩
      obtain ⟨o, x1, x2⟩ := hin' j hj
      exact ⟨o, x1, x2.keeps kp''⟩) (kas_sort ws.length) _ (all_sort (by omega)) hI (fun s' hs' => ⟨rfl, hs'⟩))
  rw [← est] at run
  refine wpAny_bind (wpAny_mono run ?_ fun _ _ e => e)
  rintro ⟨⟨⟩, st'⟩ s' ⟨har, hf, hI₂⟩
  obtain ⟨h', tk', e', rfl, kp', ea', ek', hin'⟩ := hI₂.ex
  dsimp only at har hf ⊢
  have hR := sort_run (key := keyS ws) h2
  have hsz := hR.1.size
  have hout : (arrOf st').map (·.2) = (askRun (keyS ws) (kas_sort ws.length)).map fun i => vs.getD i .none := by
    rw [har, Array.map_map]
    apply Array.map_congr_left
    intro i hi
    have hi' : i < ws.length := by
      have := (Array.perm_iff_toList_perm.mp hR.1.perm).mem_iff.mp (by simpa using hi)
      simpa using this
    show (kas_item _ i).2 = _
    rw [item i hi']
  unfold ksk_tail
  try dsimp only
  have s1 := Heap.SameBut.update h' kS (Obj.mapSeq fun _ => (#[] : Array Value))
  have na1 : (h'.update kS (Obj.mapSeq fun _ => (#[] : Array Value))).get? a = some (seqObj "list" #[] e1) := (s1.2 a hka.symm).trans ea'
  have s2 := Heap.SameBut.update (h'.update kS (Obj.mapSeq fun _ => (#[] : Array Value))) a (Obj.mapSeq fun _ => (arrOf st').map (·.2))
  obtain ⟨c2, hc2⟩ : ∃ c2, ((h'.update kS (Obj.mapSeq fun _ => (#[] : Array Value))).update a (Obj.mapSeq fun _ => (arrOf st').map (·.2))).get? a = some (seqObj "list" ((arrOf st').map (·.2)) c2) := ⟨_, get?_update_seq na1 fun _ => (arrOf st').map (·.2)⟩
  refine wpAny_bind (listUpdate_at ek' rfl ?_ (by rw [List.size_toArray, sizeLine_eq]; omega) (Nat.zero_le _))
  refine wpAny_bind (wpAny_letGo ?_)
  refine wpAny_bind (seqEpoch_at na1 rfl ?_)
  refine wpAny_bind (listUpdate_at na1 rfl ?_ (Nat.zero_le _) (by
    rw [if_neg (by simp), hout, Array.size_map, hsz, sizeLine_eq]; omega))
  rw [hf]
  simp only [bne_self_eq_false, Bool.false_eq_true, if_false]
  refine wpAny_pure (h _ _ c2 (fun b o q => ?_) (hout ▸ hc2))
  have nb : b ≠ kS := fun x => by rw [x, hk0] at q; cases q
  have nb2 : b ≠ a := fun x => by rw [x, ha0] at q; cases q
  exact (s2.2 b nb2).trans ((s1.2 b nb).trans (kp' _ _ q))
end
end Mine
end
section
open PySem PySem.W PyProof.Rows PySem.Calls
set_option maxRecDepth 100000
set_option Elab.async false
namespace Mine
section
variable {w : World} {A : Around} {E : Value → Shared → Prop} {s : Shared} {mg mb : Str → Option Value} {C fi fl cell lm : Addr}
theorem same_set {h : Heap} {k : Addr} {f : Obj → Obj} : Heap.SameBut k h (h.update k f) := Heap.SameBut.update ..
set_option maxHeartbeats 2000000 in
theorem sort_rest {a kS : Addr} {e1 : Nat} {vs : List Value} {ws : List Str} {h₀ : Heap} {P : PySem.Fin → Shared → Prop} (KX : (KN w.params).In h₀) (G : Glob mg mb h₀) (hK : KAt h₀ C fi fl cell (.ref lm)) (L : LamAt h₀ lm)
    (r : NearR A 20 200) (hw : StrsAre vs ws) (h2 : 2 ≤ ws.length) (h64 : ws.length < 64) (hz : ∀ t ∈ ws, t.cps.size ≤ 1000) (hka : kS ≠ a) (hk0 : h₀.get? kS = none) (ha0 : h₀.get? a = none)
    (kp : KeepH h₀ s.heap) (ea : s.heap.get? a = some (seqObj "list" #[] e1)) (ek : s.heap.get? kS = some (seqObj "list" #[] 0))
    (h : ∀ h' tk c, KeepH h₀ h' → h'.get? a = some (seqObj "list" ((askRun (keyS ws) (kas_sort ws.length)).map fun i => vs.getD i .none) c) → P (.done (.ret .none)) { s with heap := h', toks := tk }) :
    wpAny (model pw w) A (ksk_rest a (.ref C) false vs.toArray e1 (.ref kS)) P E s := by
  obtain ⟨hlen, hget⟩ := strs_get hw
  unfold ksk_rest
  refine wpAny_bind (wpAny_rule ?_)
  first
    | rw [List.forIn_toArray]
    | (rw [← Array.forIn_toList]; simp only [List.toList_toArray])
    | rw [← Array.forIn_toList]
  refine wpAny_bind (ksk_fold (fun i s' => ∃ ks, ks.length = i ∧ SInv s h₀ C a kS e1 vs ks s') vs 0 s ⟨[], rfl, s.heap, s.toks, 0, rfl, kp, ea, ek, fun j hj => absurd hj (by simp)⟩ ?step ?done)
  case step =>
    rintro j x s' hx ⟨ks, hks, h', tk, e, rfl, kp', ea', ek', hin⟩
    simp only [Nat.zero_add] at hks ⊢
    have hj : j < vs.length := (List.getElem?_eq_some_iff.mp hx).1
    obtain ⟨u, hu⟩ := hget j (by omega)
    have hxe : x = .str (ws.getD j default) u := by rw [← hu]; simp [List.getD, hx]
    subst hxe
    refine wpAny_bind (wpAny_attempt (wpAny_big (l := none) r.near (fun _ e => by cases e) (wpAny_mono (mkK0 (s := { s with heap := h', toks := tk }) (C := C) (NoLimit.keeps' G.nolimit kp') (hK.keeps kp') (v := .str (ws.getD j default) u) (fun h₂ tk₂ o k₂ hn₂ i₂ => ?_)) (fun _ _ y => y) fun _ _ y => y.elim)))
    have s1 := same_set (h := h₂) (k := kS) (f := Obj.mapSeq (·.push (.ref o)))
    obtain ⟨c2, hc2⟩ : ∃ c2, (h₂.update kS (Obj.mapSeq (·.push (.ref o)))).get? kS = some (seqObj "list" (ks.toArray.push (.ref o)) c2) := ⟨_, get?_update_seq (k₂ _ _ ek') (·.push (.ref o))⟩
    have ekp : ks.toArray.push (.ref o) = (ks ++ [Value.ref o]).toArray := by simp
    refine wpAny_bind (listUpdate_at (k₂ _ _ ek') rfl ?_ (by rw [List.size_toArray, sizeLine_eq]; omega) (Nat.le_trans (Nat.le_of_eq (Array.size_push ..)) (by rw [List.size_toArray, sizeLine_eq]; omega)))
    refine wpAny_pure ⟨rfl, ks ++ [.ref o], by simp [hks], _, _, c2, rfl, fun b ob q => ?_, (s1.2 a hka.symm).trans (k₂ _ _ ea'), ekp ▸ hc2, fun i hi => ?_⟩
    · have nb : b ≠ kS := fun x => by rw [x, hk0] at q; cases q
      exact (s1.2 b nb).trans (k₂ _ _ (kp' _ _ q))
    · by_cases ei : i = ks.length
      · subst ei
        refine ⟨o, getD_append_len, ?_⟩
        rw [hks, hu]
        exact i₂.but s1 (k₂ _ _ ek')
      · have hi' : i < ks.length := by simp at hi; omega
        obtain ⟨oi, x1, x2⟩ := hin i hi'
        exact ⟨oi, (getD_append_lt hi').trans x1, (x2.keeps k₂).but s1 (k₂ _ _ ek')⟩
  case done =>
    rintro s' ⟨ks, hks, hI⟩
    have hI' := hI
    obtain ⟨h', tk, e, rfl, kp', ea', ek', hin⟩ := hI
    refine wpAny_bind (listItems_at ek' rfl ?_)
    exact sort_end G hK L r.room.less hw h2 h64 hz hka hk0 ha0 (by omega) hI' h
theorem sort_tree {a : Addr} {n : Nat} {vs : List Value} {ws : List Str} {h₀ : Heap} {P : PySem.Fin → Shared → Prop} (KX : (KN w.params).In h₀) (G : Glob mg mb h₀) (hK : KAt h₀ C fi fl cell (.ref lm)) (L : LamAt h₀ lm)
    (r : NearR A 20 200) (hw : StrsAre vs ws) (h2 : 2 ≤ ws.length) (h64 : ws.length < 64) (hz : ∀ t ∈ ws, t.cps.size ≤ 1000) (ha0 : h₀.get? a = none)
    (kp : KeepH h₀ s.heap) (ea : s.heap.get? a = some (seqObj "list" vs.toArray n))
    (h : ∀ h' tk c, KeepH h₀ h' → h'.get? a = some (seqObj "list" ((askRun (keyS ws) (kas_sort ws.length)).map fun i => vs.getD i .none) c) → P (.done (.ret .none)) { s with heap := h', toks := tk }) :
    wpAny (model pw w) A (ksk_tree a (.ref C) false) P E s := by
  obtain ⟨hlen, hget⟩ := strs_get hw
  have ha : a < s.heap.objs.size := Heap.lt_size ea
  have s1 := Heap.SameBut.update s.heap a (Obj.mapSeq fun _ => (#[] : Array Value))
  obtain ⟨e1, ho1⟩ : ∃ e1, (s.heap.update a (Obj.mapSeq fun _ => (#[] : Array Value))).get? a = some (seqObj "list" #[] e1) := ⟨_, get?_update_seq ea fun _ => #[]⟩
  have kp1 : KeepH h₀ (s.heap.update a (Obj.mapSeq fun _ => (#[] : Array Value))) := fun b o q => by
    have nb : b ≠ a := fun x => by rw [x, ha0] at q; cases q
    exact (s1.2 b nb).trans (kp _ _ q)
  have kp3 : KeepH h₀ (((s.heap.update a (Obj.mapSeq fun _ => (#[] : Array Value))).push (seqObj "tuple" vs.toArray 0)).push (seqObj "list" #[] 0)) := fun b o q => Heap.get?_push_of_some _ (Heap.get?_push_of_some _ (kp1 _ _ q))
  have hkS : ((s.heap.update a (Obj.mapSeq fun _ => (#[] : Array Value))).push (seqObj "tuple" vs.toArray 0)).objs.size = s.heap.objs.size + 1 := by rw [size_push', Heap.size_update]
  unfold ksk_tree
  refine wpAny_bind (listItems_at ea rfl ?_)
  refine wpAny_bind (listUpdate_at ea rfl ?_ (by rw [List.size_toArray, sizeLine_eq]; omega) (Nat.zero_le _))
  refine wpAny_bind (seqEpoch_at ho1 rfl ?_)
  refine wpAny_bind (wpAny_newTuple ?_ (by show vs.length ≤ _; rw [sizeLine_eq]; omega))
  refine wpAny_bind (wpAny_newList ?_ (Nat.zero_le _))
  refine wpAny_holding ?_
  have hk0 : h₀.get? ((s.heap.update a (Obj.mapSeq fun _ => (#[] : Array Value))).push (seqObj "tuple" vs.toArray 0)).objs.size = none := by
    refine KeepH.none (h' := (s.heap.update a (Obj.mapSeq fun _ => (#[] : Array Value))).push (seqObj "tuple" vs.toArray 0)) (fun b o q => Heap.get?_push_of_some _ (kp1 _ _ q)) ?_
    exact Heap.get?_none_of_le (Nat.le_refl _)
  exact sort_rest (s := { s with heap := ((s.heap.update a (Obj.mapSeq fun _ => (#[] : Array Value))).push (seqObj "tuple" vs.toArray 0)).push (seqObj "list" #[] 0) }) KX G hK L r hw h2 h64 hz
    (by rw [hkS]; exact Nat.ne_of_gt (Nat.lt_succ_of_lt ha)) hk0 ha0 kp3 (Heap.get?_push_of_some _ (Heap.get?_push_of_some _ ho1)) (Heap.get?_push_size _ rfl) h
set_option maxHeartbeats 1000000 in
theorem sorted_spec {l : Addr} {vs : List Value} {ws : List Str} {Q : Value → Shared → Prop} (KX : (KN w.params).In s.heap) (G : Glob mg mb s.heap) (hK : KAt s.heap C fi fl cell (.ref lm)) (L : LamAt s.heap lm)
    (r : NearR A 20 210) (hl : s.heap.IsList l vs.toArray) (hw : StrsAre vs ws) (h2 : 2 ≤ ws.length) (h64 : ws.length < 64) (hz : ∀ t ∈ ws, t.cps.size ≤ 1000)
    (h : ∀ h' tk D c, KeepH s.heap h' → s.heap.get? D = none → h'.get? D = some (seqObj "list" ((askRun (keyS ws) (kas_sort ws.length)).map fun i => vs.getD i .none) c) → Q (.ref D) { s with heap := h', toks := tk }) :
    wpAny (model pw w) A (call (.builtin "sorted") [.ref l] [("key", .ref C)]) Q E s := by
  obtain ⟨hlen, hget⟩ := strs_get hw
  refine call_function_entry_kw kind_sorted plain_sorted entry_sorted (ksk_s1 _ _) ?_
  unfold Builtin.«sorted»
  refine wpAny_bind (m := checkCount "sorted" 1 1 _) (wpAny_pure ?_)
  refine wpAny_bind (collect_list hl ?_ (by rw [sizeLine_eq]; omega))
  refine wpAny_bind (wpAny_newList ?_ (by rw [sizeLine_eq]; omega))
  have hsz : ((s.heap.push (seqObj "list" #[] 0)).update s.heap.objs.size (Obj.mapSeq (· ++ vs.toArray))).objs.size = s.heap.objs.size + 1 := by
    rw [Heap.size_update, size_push']
  have hoL : (((s.heap.push (seqObj "list" #[] 0)).update s.heap.objs.size (Obj.mapSeq (· ++ vs.toArray))).push (seqObj "list" vs.toArray 0)).get? (s.heap.objs.size + 1) = some (seqObj "list" vs.toArray 0) := by
    rw [← hsz]; exact Heap.get?_push_size _ rfl
  have keep : KeepH s.heap (((s.heap.push (seqObj "list" #[] 0)).update s.heap.objs.size (Obj.mapSeq (· ++ vs.toArray))).push (seqObj "list" vs.toArray 0)) := fun b o q => by
    have hlt : b < s.heap.objs.size := Heap.lt_size q
    rw [Heap.get?_push_ne _ _ _ (by rw [hsz]; exact Nat.ne_of_lt (Nat.lt_succ_of_lt hlt)), Heap.get?_update_ne _ _ _ _ (Nat.ne_of_lt hlt), Heap.get?_push_ne _ _ _ (Nat.ne_of_lt hlt)]
    exact q
  have hnone : s.heap.get? (s.heap.objs.size + 1) = none := Heap.get?_none_of_le (Nat.le_succ _)
  show wpAny _ _ _ _ _ { s with heap := ((s.heap.push (seqObj "list" #[] 0)).update s.heap.objs.size (Obj.mapSeq (· ++ vs.toArray))).push (seqObj "list" vs.toArray 0) }
  rw [hsz]
  refine wpAny_bind (wpAny_holding (wpAny_call_entry_kw slot_list_sort ⟨_, hoL, rfl⟩ entry_list_sort ?body (ksk_l1 _ _)))
  case body =>
    show wpAny (model pw w) A.in1.in1 (Builtin.«list.sort» ⟨[.ref (s.heap.objs.size + 1)], [(Str.ofString "key", .ref C)]⟩) _ _ _
    rw [ksk_t1]
    refine sort_tree (s := { s with heap := ((s.heap.push (seqObj "list" #[] 0)).update s.heap.objs.size (Obj.mapSeq (· ++ vs.toArray))).push (seqObj "list" vs.toArray 0) })
      KX G hK L (r.less (d' := 20) (u' := 202)).in1.in1 hw h2 h64 hz hnone keep hoL fun h' tk c k' e' => ⟨_, rfl, ?_⟩
    exact wpAny_pure ⟨_, rfl, h h' tk _ c k' hnone e'⟩
end
end Mine
end
section
open PySem PySem.W PyProof.Rows PySem.Calls
set_option maxRecDepth 100000
set_option Elab.async false
namespace Mine
noncomputable def TabO (h : Heap) : Prop := ∀ t ∈ Tabs, ∃ ps, h.get? t = some (tabObj ps) ∧ TriplesOk ps.toList
noncomputable abbrev KeepT (h h' : Heap) : Prop := ∀ b o, b ∉ Tabs → h.get? b = some o → h'.get? b = some o
structure Ctx0 (w : World) (mg mb : Str → Option Value) (h : Heap) : Prop where
  G : Glob mg mb h
  K : (KN w.params).In h
  T : TabO h
theorem kn_tabs {P : Params} {a : Addr} {o : Obj} (e : (KN P).lookup a = some o) : a ∉ Tabs := by
  have := mem_of_lookupK e
  unfold KN at this
  have := (List.mem_filter.mp this).2
  simpa using this
theorem kn_keepT {P : Params} {h h' : Heap} (Z : (KN P).In h) (k : KeepT h h') : (KN P).In h' := fun a o e => k _ _ (kn_tabs e) (Z _ _ e)
theorem fnKeepT {h h' : Heap} {a : Addr} {F : Value → FuncData} (x : ∃ o pm, h.get? a = some o ∧ o.data = .func (F pm)) (k : KeepT h h') (ha : a ∉ Tabs := by decide) : ∃ o pm, h'.get? a = some o ∧ o.data = .func (F pm) :=
  let ⟨o, pm, a, b⟩ := x; ⟨o, pm, k _ _ ha a, b⟩
theorem codeKeepT {h h' : Heap} {a : Addr} {q : Str} (x : h.CodeRec (.ref a) q) (k : KeepT h h') (ha : a ∉ Tabs := by decide) : h'.CodeRec (.ref a) q :=
  let ⟨c, o, vs, t, e, g, r⟩ := x; ⟨c, o, vs, t, e, k _ _ (by cases e; exact ha) g, r⟩
theorem Glob.keepT {mg mb : Str → Option Value} {h h' : Heap} (G : Glob mg mb h) (k : KeepT h h') : Glob mg mb h' where
  g := G.g.at' fun o e => k _ _ (by decide) e
  b := G.b.at' fun o e => k _ _ (by decide) e
  nolimit := let ⟨m, a, b⟩ := G.nolimit; ⟨m, a.at' fun o e => k _ _ (by decide) e, b⟩
  names := G.names
  pat := {
    m := let ⟨o, a, r⟩ := G.pat.m; ⟨o, k _ _ (by decide) a, r⟩
    p := let ⟨o, p0, t0, t1, t2, t3, a, r⟩ := G.pat.p; ⟨o, p0, t0, t1, t2, t3, k _ _ (by decide) a, r⟩
    c := let ⟨o, vs, n, a, r⟩ := G.pat.c; ⟨o, vs, n, k _ _ (by decide) a, r⟩ }
  f_quote := fnKeepT G.f_quote k
  c_quote := codeKeepT G.c_quote k
  f_join := fnKeepT G.f_join k
  c_join := codeKeepT G.c_join k
  f_word := fnKeepT G.f_word k
  c_word := codeKeepT G.c_word k
theorem Ctx0.on {w : World} {mg mb : Str → Option Value} {h h' : Heap} (c : Ctx0 w mg mb h) (k : KeepT h h') (t : TabO h') : Ctx0 w mg mb h' := ⟨c.G.keepT k, kn_keepT c.K k, t⟩

structure StepH (W : List Addr) (h h' : Heap) : Prop where
  keep : ∀ b o, b ∉ W → b ∉ Tabs → h.get? b = some o → h'.get? b = some o
  tabs : ∀ t ∈ Tabs, ∀ ps, h.get? t = some (tabObj ps) → TriplesOk ps.toList → ∃ more, h'.get? t = some (tabObj (ps ++ more)) ∧ TriplesOk (ps ++ more).toList
structure Step (W : List Addr) (s s' : Shared) : Prop where
  heap : StepH W s.heap s'.heap
  os : s'.os = s.os
  gens : AllBare s.gens → AllBare s'.gens
theorem StepH.refl (W : List Addr) (h : Heap) : StepH W h h := ⟨fun _ _ _ _ e => e, fun t _ ps e o => ⟨#[], by rw [Array.append_empty]; exact e, by rw [Array.append_empty]; exact o⟩⟩
theorem StepH.trans {W : List Addr} {h₁ h₂ h₃ : Heap} (a : StepH W h₁ h₂) (b : StepH W h₂ h₃) : StepH W h₁ h₃ where
  keep x o hx ht e := b.keep x o hx ht (a.keep x o hx ht e)
  tabs t ht ps e o := by
    obtain ⟨m1, e1, o1⟩ := a.tabs t ht ps e o
    obtain ⟨m2, e2, o2⟩ := b.tabs t ht _ e1 o1
    exact ⟨m1 ++ m2, by rw [← Array.append_assoc]; exact e2, by rw [← Array.append_assoc]; exact o2⟩
theorem StepH.of_keep {W : List Addr} {h h' : Heap} (k : KeepH h h') : StepH W h h' := ⟨fun _ _ _ _ e => k _ _ e, fun t _ ps e o => ⟨#[], by rw [Array.append_empty]; exact k _ _ e, by rw [Array.append_empty]; exact o⟩⟩
theorem StepH.mono {W W' : List Addr} {h h' : Heap} (a : StepH W h h') (s : ∀ b ∈ W, b ∈ W') : StepH W' h h' := ⟨fun b o hb ht e => a.keep b o (fun m => hb (s b m)) ht e, a.tabs⟩
theorem StepH.keepT {h h' : Heap} (a : StepH [] h h') : KeepT h h' := fun b o hb e => a.keep b o (by simp) hb e
theorem StepH.tabO {W : List Addr} {h h' : Heap} (a : StepH W h h') (t : TabO h) : TabO h' := fun x hx => by
  obtain ⟨ps, e, o⟩ := t x hx
  obtain ⟨m, e', o'⟩ := a.tabs x hx ps e o
  exact ⟨_, e', o'⟩
theorem Ctx0.step {w : World} {mg mb : Str → Option Value} {h h' : Heap} (c : Ctx0 w mg mb h) (a : StepH [] h h') : Ctx0 w mg mb h' := c.on a.keepT (a.tabO c.T)
theorem kn_get {P : Params} {h : Heap} (Z : (KN P).In h) (a : Addr) (e : (KN P).lookup a = some (obK a P)) : h.get? a = some (obK a P) := Z _ _ e
section
variable {M : Model} {A : Around} {E : Value → Shared → Prop} {s : Shared}
theorem gcode2 {env : Env} {c P : Addr} {pos : Pos} {qual : Str} {scope : Scope} {Q : Value → Shared → Prop} (hc : env.code = .ref c) (C : CodeHd s.heap c P) (hP : P ∈ Tabs) (T : TabO s.heap)
    (hQ : ∀ code h' tk, StepH [] s.heap h' → (∀ b o, b ≠ P → s.heap.get? b = some o → h'.get? b = some o) → Q code { s with heap := h', toks := tk }) : wpAny M A (genexprCode env pos qual scope) Q E s := by
  obtain ⟨ps, e, o⟩ := T P hP
  cases hf : codeAmong pos ps.toList with
  | some c' => exact wpAny_genexprCode_hit hc (C.code e o) hf (hQ c' s.heap s.toks (.refl _ _) (fun _ _ _ e => e))
  | none =>
    refine wpAny_genexprCodeX hc (C.code e o) (C.tab e) hf fun c' h' tk hx _ _ hi _ ht _ => hQ _ h' tk ⟨fun b o hb ht' e' => hx b o (fun q => ht' (q ▸ hP)) e', fun t ht' ps' e' o' => ?_⟩ hx
    by_cases q : t = P
    · subst q
      rw [e] at e'
      cases e'
      refine ⟨_, ht.2, ?_⟩
      obtain ⟨_, _, _, _, _, _, _, _, _, op, _, _, _, _, _, _, _, hop, hpd, htr, _⟩ := hi
      rw [ht.2] at hop
      cases hop
      cases hpd
      exact htr
    · exact ⟨#[], by rw [Array.append_empty]; exact hx _ _ q e', by rw [Array.append_empty]; exact o'⟩
theorem gcode {env : Env} {c P : Addr} {pos : Pos} {qual : Str} {scope : Scope} {Q : Value → Shared → Prop} (hc : env.code = .ref c) (C : CodeHd s.heap c P) (hP : P ∈ Tabs) (T : TabO s.heap)
    (hQ : ∀ code h' tk, StepH [] s.heap h' → Q code { s with heap := h', toks := tk }) : wpAny M A (genexprCode env pos qual scope) Q E s :=
  gcode2 hc C hP T fun code h' tk st _ => hQ code h' tk st
end
end Mine
end
section
open PySem PySem.W PyProof.Rows PySem.Calls
set_option maxRecDepth 100000
set_option Elab.async false
namespace Mine
section
variable {w : World} {A : Around} {E : Value → Shared → Prop} {s : Shared} {mg mb : Str → Option Value}
theorem isl_on {h h' : Heap} {l : Addr} {xs : Array Value} (x : h.IsList l xs) (k : ∀ o, h.get? l = some o → h'.get? l = some o) : h'.IsList l xs := let ⟨o, e, r⟩ := x; ⟨o, k _ e, r⟩
theorem isi_on {h h' : Heap} {l a : Addr} {i : Nat} (x : h.IsListIter a l i) (k : ∀ o, h.get? a = some o → h'.get? a = some o) : h'.IsListIter a l i := let ⟨o, e, r⟩ := x; ⟨o, k _ e, r⟩
theorem sum_le_mul : ∀ (l : List Nat) (c : Nat), (∀ x ∈ l, x ≤ c) → l.sum ≤ l.length * c
  | [], _, _ => by simp
  | x :: l, c, h => by
    have := sum_le_mul l c fun y hy => h y (List.mem_cons_of_mem _ hy)
    have := h x List.mem_cons_self
    rw [List.sum_cons, List.length_cons, Nat.add_mul]
    omega
theorem bf_look {M : Model} {h : Heap} (Z : (KN M.w.params).In h) : Looks M h (builtinsFor mainGlobals builtinsNs) builtinsNs := Looks.of_peek Z (by kernel_rfl)
theorem hd_join {P : Params} {h : Heap} (Z : (KN P).In h) : CodeHd h 49 45 := codeHd_of_K Z (by kernel_rfl)
set_option maxHeartbeats 1000000 in
theorem join_spec {l : Addr} {vs : List Value} {ws : List Str} {Q : Value → Shared → Prop} (X : Ctx0 w mg mb s.heap) (r : NearR A 10 60) (hl : s.heap.IsList l vs.toArray) (hw : StrsAre vs ws) (hz : ∀ t ∈ ws, t.cps.size ≤ 1000) (hn : ws.length ≤ 100)
    (hQ : ∀ s' u, Step [] s s' → (∀ b o, b ∈ Tabs → b ≠ 45 → s.heap.get? b = some o → s'.heap.get? b = some o) → Q (.str (Txt.join " " (ws.map quoteF)) u) s') : wpAny (model pw w) A (call (.ref 50) [.ref l]) Q E s := by
  obtain ⟨o, pm, ho, hd⟩ := X.G.f_join
  obtain ⟨hlen, hget⟩ := strs_get hw
  have hb : ∀ v, bindArgs (fdTop "join" 4 pm (.ref 49)) ⟨[v], []⟩ = (pure [(("split_command" : Str), v)] : Sem (List (Str × Value))) := fun v => by rfl
  refine call_fn r.room ho hd X.G.nolimit X.G.c_join rfl (BindsTo.of_eq (hb _)) (fun h₁ F => ?_)
  have G := X.G
  have X1 : Ctx0 w mg mb h₁ := X.step (.of_keep F.keep)
  have hl1 := isl_on hl (fun o e => F.keep _ _ e)
  have hz1 : ∀ t ∈ Tabs, h₁.get? t ≠ none := fun t ht e => by obtain ⟨ps, e', _⟩ := X1.T t ht; rw [e] at e'; cases e'
  have hI : h₁.objs.size ∉ Tabs := fun m => hz1 _ m (Heap.get?_none_of_le (Nat.le_refl _))
  have hlt : l < h₁.objs.size := let ⟨_, e, _⟩ := hl1; Heap.lt_size e
  iterate 5 (walk1; (try dsimp only))
  refine cw ?_
  iterate 1 (walk1; (try dsimp only))
  refine hideQ fun Q_ hQ_ => ?_
  refine wpAny_GeneratorExp_walksQD r.handled rfl (by rfl) (by decide) rfl rfl rfl (r.deeper (d := 9) (u := 57) _).room.d ?_ (fun x => rfl)
  iterate 1 (walk1; (try dsimp only))
  refine wpAny_pyIter_list hl1 ?_
  have k2 : KeepH h₁ (h₁.push { cls := .type "list_iterator", data := .fields #[.ref l, .int 0 0] }) := fun b o e => Heap.get?_push_of_some _ e
  have X2 := X1.step (.of_keep k2)
  have it2 : (h₁.push { cls := .type "list_iterator", data := .fields #[.ref l, .int 0 0] }).IsListIter h₁.objs.size l 0 := ⟨_, Heap.get?_push_size _ rfl, rfl, rfl⟩
  have hl2 := isl_on hl1 (fun o e => k2 _ _ e)
  refine ⟨X2.G.nolimit, ?_⟩
  refine gcode2 (c := 49) (P := 45) rfl (hd_join X2.K) (by decide) X2.T (fun code h₃ tk₃ st₃ hx₃ => ?_)
  have X3 := X2.step st₃
  have it3 : h₃.IsListIter h₁.objs.size l 0 := isi_on it2 fun o e => st₃.keepT _ _ hI e
  have hlT : l ∉ Tabs := fun m => by
    obtain ⟨ps, e', _⟩ := X.T _ m
    obtain ⟨ol, e, c, _⟩ := hl
    rw [e'] at e; cases e; cases c
  have hl3 : h₃.IsList l vs.toArray := isl_on hl2 fun o e => st₃.keepT _ _ hlT e
  refine (bf_look (M := model pw w) X3.K).here ?_
  have hi3 : h₁.objs.size < h₃.objs.size := let ⟨_, e, _⟩ := it3; Heap.lt_size e
  have hl3' : l < h₃.objs.size := let ⟨_, e, _⟩ := hl3; Heap.lt_size e
  refine ex8 h₁.objs.size [h₁.objs.size, l] [h₁.objs.size] vs.toArray.size (fun i v => vs.toArray[i]? = some v) _ (fun _ => true) (fun i y => ∃ u, y = .str (quoteF (ws.getD i default)) u) ⟨rfl,
    fun A' hA => Walks.list hA _ l (Nat.ne_of_lt hlt) vs.toArray, ⟨it3, hl3⟩, fun b hb => by
      simp only [List.mem_cons, List.not_mem_nil, or_false] at hb
      rcases hb with rfl | rfl
      · exact hi3
      · exact hl3', X3.G.nolimit, fun hm => ?_, fun href hk => ⟨fun A' E' i v s₂ m₂ hA hD hU hP hns hm hfp => ?_, fun A' E' i v s₂ m₂ hA hD hU hP hpz hns hm hfp => ?_⟩, fun a h₅ tk gs hgb hlt5 hsz5 k5 W5 st5 => ?_⟩
  · simp only [List.mem_cons, List.not_mem_nil, or_false] at hm
    obtain ⟨_, hns, _⟩ := X1.G.nolimit
    exact absurd hns.lt (by rw [hm]; exact Nat.lt_irrefl _)
  · rw [List.forIn_nil]
    exact wpAny_pure ⟨rfl, s₂.heap, s₂.toks, rfl, fun _ _ e => e⟩
  · dsimp only at hfp hk
    have kt : KeepT h₁ s₂.heap := fun b o hb e => by
      have hb1 : b ≠ h₁.objs.size := Nat.ne_of_lt (Heap.lt_size e)
      have e3 := st₃.keepT _ _ hb (k2 _ _ e)
      exact hfp b (List.mem_range.mpr (Heap.lt_size e3)) (by simpa using hb1) o (hk _ _ e3)
    have G4 := X1.G.keepT kt
    have hi : i < ws.length := by
      have := (Array.getElem?_eq_some_iff.mp hP).1
      rw [List.size_toArray] at this
      omega
    obtain ⟨u, hu⟩ := hget i hi
    have hv : v = .str (ws.getD i default) u := by
      rw [← hu]
      have : vs[i]? = some v := by simpa using hP
      simp [List.getD, this]
    subst hv
    have hD' : A'.depth ≤ A.depth + 2 := hD
    have hU' : A'.units ≤ A.units + 11 := hU
    have r' : Room A' 3 20 := ⟨hA, by have := r.depth; simp only [recursionLimit]; omega, by have := r.units; simp only [cLine]; omega⟩
    refine Call_ ?_
    refine nm_global G4.g X.G.names.quote ?_
    refine cw ?_
    (walk1; (try dsimp only))
    refine wpAny_Name (wpAny_loadName_local rfl rfl hns hm ?_) (by decide)
    (walk1; (try dsimp only))
    refine ⟨G4.keepFn G4.f_quote, ?_⟩
    exact quote_spec G4 r' (hz _ (by simp [hi])) (fun s' u' k' => ⟨⟨u', rfl⟩, k'⟩)
  · refine hQ_ _ _ ?_
    (walk1; (try dsimp only))
    refine ⟨⟨_, .inr (.inl rfl), keeper_builtin⟩, ?_⟩
    have hpass : ∀ n, passing (fun _ => true) n 0 = List.range n := fun n => by simp [passing]
    refine SC.joinGen (I := a) W5.of_in1.of_in1 (fun i s h => h.1.typeIs) st5 (fun b hb => ?_) (by simp) (fun i v h => ?_) (fun s' ll hm hit => ?_) ?_
    · have q1 : h₃.objs.size < a := hlt5
      have q2 : h₅.objs.size = a + 1 := hsz5
      have q3 : b = a ∨ b = h₃.objs.size ∨ b < h₃.objs.size := by simpa only [List.mem_cons, List.mem_range] using hb
      show b < h₅.objs.size
      rw [q2]
      rcases q3 with q3 | q3 | q3
      · rw [q3]; exact Nat.lt_succ_self _
      · rw [q3]; exact Nat.lt_succ_of_lt q1
      · exact Nat.lt_succ_of_lt (Nat.lt_trans q3 q1)
    · obtain ⟨i', _, u, rfl⟩ := h
      exact ⟨_, _, rfl⟩
    · have hll : ll.map (·.1) = ws.map quoteF := by
        obtain ⟨e1, e2⟩ := hit
        rw [hpass] at e1 e2
        simp only [List.size_toArray, List.length_range, strValues, List.length_map] at e1
        refine List.ext_getElem (by simp; omega) (fun j h1 h2 => ?_)
        have hj : j < ll.length := by simpa using h1
        obtain ⟨i', hi', u, hu⟩ := e2 j (.str ll[j].1 ll[j].2) (by simp [strValues, hj])
        have : i' = j := by
          rw [List.getElem?_range (by simp; omega)] at hi'
          exact (Option.some.inj hi').symm
        subst this
        have hw' : i' < ws.length := by simpa using h2
        simp only [Value.str.injEq] at hu
        simp only [List.getElem_map]
        rw [hu.1]
        simp [hw']
      rw [hll]
      refine ⟨?_, fun t' k => hQ _ _ ⟨⟨fun b o hb ht e => ?_, fun t ht ps e o => ?_⟩, hm.os, fun g => ?_⟩ (fun b o hbT hb e => ?_)⟩
      · unfold JoinOk
        rw [StrLaws.joinTotal]
        have hs : (List.map (fun x => x.length) (List.map quoteF ws)).sum ≤ (List.map (fun x => x.length) (List.map quoteF ws)).length * 5002 := sum_le_mul _ _ (fun x hx => by
          simp only [List.mem_map] at hx
          obtain ⟨y, ⟨t, ht, rfl⟩, rfl⟩ := hx
          have := len_quoteF t
          have := hz t ht
          omega)
        simp only [List.length_map] at hs ⊢
        have h1 : (" " : Str).length = 1 := by decide +kernel
        rw [h1]
        unfold Builtin.Str.tooLong
        rw [decide_eq_false (by rw [sizeLine_eq]; omega)]
        rfl
      · have e1 := F.keep _ _ e
        have b1 : b ≠ h₁.objs.size := Nat.ne_of_lt (Heap.lt_size e1)
        have e3 := st₃.keepT _ _ ht (k2 _ _ e1)
        have b3 : b ≠ h₃.objs.size := Nat.ne_of_lt (Heap.lt_size e3)
        exact hm.heap b o (fun m => by
          rcases List.mem_cons.mp m with m | m
          · exact b3 m
          · exact b1 (by simpa using m)) (k5 _ _ e3)
      · obtain ⟨more, e', o'⟩ := st₃.tabs t ht ps (k2 _ _ (F.keep _ _ e)) o
        refine ⟨more, hm.heap t _ (fun m => ?_) (k5 _ _ e'), o'⟩
        have b3 : t < h₃.objs.size := Heap.lt_size e'
        rcases List.mem_cons.mp m with m | m
        · exact absurd b3 (by rw [show t = h₃.objs.size from m]; exact Nat.lt_irrefl _)
        · exact hI ((by simpa using m : t = h₁.objs.size) ▸ ht)
      · exact AllBare.moved (g.push hgb) hm.gens
      · have e' := hx₃ b o hb (k2 _ _ (F.keep _ _ e))
        refine hm.heap b _ (fun m => ?_) (k5 _ _ e')
        have b3 : b < h₃.objs.size := Heap.lt_size e'
        rcases List.mem_cons.mp m with m | m
        · exact absurd b3 (by rw [show b = h₃.objs.size from m]; exact Nat.lt_irrefl _)
        · exact hI ((by simpa using m : b = h₁.objs.size) ▸ hbT)
    · rw [hpass]; simp [sizeLine]; omega
end
end Mine
end
section
open PySem PySem.W PyProof.Rows PySem.Calls
set_option maxRecDepth 100000
set_option Elab.async false
namespace Mine
noncomputable def SeqAt (h : Heap) (l : Addr) (xs : Array Value) : Prop := ∃ o n, h.get? l = some o ∧ o.data = .seq xs n
theorem SeqAt.on {h h' : Heap} {l : Addr} {xs : Array Value} (x : SeqAt h l xs) (k : ∀ o, h.get? l = some o → h'.get? l = some o) : SeqAt h' l xs := let ⟨o, n, e, d⟩ := x; ⟨o, n, k _ e, d⟩
theorem tup_on {h h' : Heap} {l : Addr} {xs : Array Value} (x : h.IsTuple l xs) (k : ∀ o, h.get? l = some o → h'.get? l = some o) : h'.IsTuple l xs := let ⟨o, e, r⟩ := x; ⟨o, k _ e, r⟩
section
variable {prog : Program} {w : World} {A : Around} {E : Value → Shared → Prop} {s : Shared}
theorem seq_next {it l : Addr} {i : Nat} {xs : Array Value} {Q : Option Value → Shared → Prop} (hit : s.heap.IsListIter it l i) (hl : SeqAt s.heap l xs)
    (h1 : ∀ x, xs[i]? = some x → ∀ h', h'.IsListIter it l (i + 1) → Heap.SameBut it s.heap h' → Q (some x) { s with heap := h' })
    (h0 : xs[i]? = none → A.handled = none ∧ ∀ h', Heap.ExtBut it s.heap h' → Q none { s with heap := h' }) : wpAny (model prog w) A (pyNext (.ref it)) Q E s := by
  obtain ⟨o, ho, hc, hd⟩ := id hit
  obtain ⟨ol, nl, hol, hdl⟩ := hl
  have body : wpAny (model prog w) A.in1 (do
      match (← seqItems? (.ref l)).bind (·[Int.toNat (i : Int)]?) with
      | some x => setField (.ref it) 1 (rawInt ((i : Int).toNat + 1)); ret x
      | none => rule "list_iterator.exhausted"; setField (.ref it) 0 .none; raiseNew (← newExc (.type "StopIteration") [])) (fun _ _ => True) (fun _ _ => True) s → True := fun _ => trivial
  clear body
  unfold pyNext
  refine wpAny_bind (wpAny_attempt (wpAny_callSpecial?_slot (name := Str.ofString "__next__") hit.typeIs slot_listiter_next
    (wpAny_call_entry slot_listiter_next hit.typeIs entry_listiter_next ?_ (args_listiter_next _))))
  show wpAny _ _ (field (.ref it) 0 >>= _) _ _ s
  refine wpAny_bind (wpAny_field ho hd (x := .ref l) rfl ?_)
  show wpAny _ _ (if (Value.ref l == Value.none) = true then _ else _) _ _ s
  rw [if_neg (show ¬ ((Value.ref l == Value.none) = true) from Bool.false_ne_true)]
  show wpAny _ _ (field (.ref it) 1 >>= _) _ _ s
  refine wpAny_bind (wpAny_field ho hd (x := .int i 0) rfl ?_)
  show wpAny _ _ (seqItems? (.ref l) >>= _) _ _ s
  refine wpAny_bind (wpAny_seqItems hol hdl ?_)
  cases hx : xs[i]? with
  | some x =>
    simp only [Int.toNat_natCast, hx]
    refine wpAny_bind (wpAny_setField ho hd (by simp) (wpAny_pure ⟨x, rfl, wpAny_pure (h1 x hx _ ?_ (Heap.SameBut.update ..))⟩))
    exact ⟨_, Heap.get?_update_self _ ho (Obj.isFreed_of_fields (Obj.data_mapFields hd _)), (Obj.cls_mapFields ..).trans hc, by
      rw [Obj.data_mapFields hd]; simp [rawInt]⟩
  | none =>
    obtain ⟨hh, hQ⟩ := h0 hx
    simp only [Int.toNat_natCast, hx]
    refine wpAny_bind (wpAny_rule (wpAny_bind (wpAny_setField ho hd (by simp) ?_)))
    show wpAny _ _ (newExc (.type "StopIteration") [] >>= _) _ _ _
    refine wpAny_bind ?_
    simp only [newExc, newTuple]
    refine wpAny_bind (wpAny_newObj_type ?_ (by size_fits))
    refine wpAny_bind (m := firstArgMember _ _) (wpAny_of_eq (a := Value.none) (by first | rfl | (simp only [firstArgMember]; rfl)) ?_)
    refine wpAny_newObj_type ?_ (by size_fits)
    simp only [raiseNew]
    refine wpAny_bind (wpAny_handled ?_)
    rw [show A.in1.handled = none from hh]
    refine wpAny_bind (wpAny_pure (wpAny_throw ?_))
    refine wpAny_bind (wpAny_isInstance (T := "StopIteration") (b := true) ⟨_, Heap.get?_push_size _ rfl, rfl⟩ isSubtype_stop ?_)
    exact wpAny_pure (hQ _ (((Heap.SameBut.update ..).extBut.push _).push _))
end
theorem walkTuples {prog : Program} {w : World} {A : Around} (hh : A.handled = none) (I ax : Addr) (hne : ax ≠ I) (items : Array Value) (Ts : Nat → Addr) (vals : Nat → Array Value)
    (hit : ∀ j, j < items.size → items[j]? = some (.ref (Ts j))) (hTI : ∀ j, j < items.size → Ts j ≠ I) :
    WalksU prog w A I (I :: ax :: (List.range items.size).map Ts) [I] items.size (fun j v => v = vals j)
      (fun j h => h.IsListIter I ax j ∧ SeqAt h ax items ∧ ∀ k, k < items.size → h.IsTuple (Ts k) (vals k))
      (fun j T h => (j < items.size ∧ T = Ts j) ∧ h.IsListIter I ax (j + 1) ∧ SeqAt h ax items ∧ ∀ k, k < items.size → h.IsTuple (Ts k) (vals k)) where
  sub b hb := by simp only [List.mem_singleton] at hb; rw [hb]; exact .head _
  frame _ h h' st hk := ⟨isi_on st.1 fun o e => hk I (.head _) o e, st.2.1.on fun o e => hk ax (.tail _ (.head _)) o e,
    fun k hk' => tup_on (st.2.2 k hk') fun o e => hk (Ts k) (.tail _ (.tail _ (List.mem_map.mpr ⟨k, List.mem_range.mpr hk', rfl⟩))) o e⟩
  item i s Q E hi st hQ := by
    refine seq_next st.1 st.2.1 (fun x hx h' hi' hs' => ?_) (fun e => ?_)
    · rw [hit i hi] at hx
      cases hx
      have tup : ∀ k, k < items.size → h'.IsTuple (Ts k) (vals k) := fun k hk' => tup_on (st.2.2 k hk') fun o e => (hs'.2 _ (hTI k hk')).trans e
      exact hQ (Ts i) (vals i) h' s.toks rfl (tup i hi) ⟨⟨hi, rfl⟩, hi', st.2.1.on fun o e => (hs'.2 _ hne).trans e, tup⟩ fun b o hb e => (hs'.2 b (fun q => hb (by rw [q]; exact .head _))).trans e
    · rw [hit i hi] at e; cases e
  go _ _ _ _ _ s Q _ hm hQ := wpAny_letOwnedTupleGo_listiter hm.2.1 (hQ s.heap hm.2 fun _ _ _ e => e)
  apart j T _ hm hmem := by
    simp only [List.mem_singleton] at hmem
    exact hTI j hm.1.1 (hm.1.2 ▸ hmem)
  done s Q E st hQ := seq_next st.1 st.2.1 (fun x hx => by simp at hx) (fun _ => ⟨hh, fun h' he => hQ h' s.toks fun b o hb e => he b o (fun q => hb (by rw [q]; exact .head _)) e⟩)
  self _ _ _ _ st hQ := wpAny_pyIter_listiter st.1 hQ
end Mine
end
section
open PySem PySem.W PyProof.Rows PySem.Calls
set_option maxRecDepth 100000
set_option maxHeartbeats 0
set_option Elab.async false
namespace Mine
structure Acc (h : Heap) (a ad : Addr) (xs : Array Value) (ps : List (Str × Str)) (k : Int) : Prop where
  obj : ∃ n, h.get? a = some ⟨.ref 215, some ad, .seq xs n, #[]⟩
  dict : ∃ hs t1 t2, h.get? ad = some ⟨.type "dict", none, .dict #[⟨hs, .str "_initial_size" t1, .int k t2⟩] 1, #[]⟩
  len : xs.size = ps.length
  items : ∀ j (hj : j < ps.length), ∃ T u u', xs[j]? = some (.ref T) ∧ h.IsTuple T #[.str ps[j].1 u, .str ps[j].2 u']
theorem acc_type {a ad : Addr} {xs : Array Value} {M : Model} {h : Heap} {n : Nat} (e : h.get? a = some ⟨.ref 215, some ad, .seq xs n, #[]⟩) : Looks M h (typeOf (.ref a)) (.ref 215) := (Looks.ld e).andThen .now
theorem kn_islist {P : Params} : mroIn (KN P) 215 (.type "list") = some true := by kernel_rfl
theorem lga_entry : entryFor table "list.__getattribute__" = some Builtin.«object.__getattribute__» := entryFor_alias (id' := "object.__getattribute__") (by kernel_rfl) rfl (by decide +kernel) (by kernel_rfl)
theorem lga_args (a : Value) (name : Str) (t : Tok) : argsOk "list.__getattribute__" ⟨[a, .str name t], []⟩ := by unfold argsOk; kernel_rfl
theorem lga_plain : plainId "list.__getattribute__" = true := by decide +kernel
theorem lga_kind : builtinKind "list.__getattribute__" = some .slot := by decide +kernel
theorem lga_split : splitId "list.__getattribute__" = some ("list", "__getattribute__") := by decide +kernel
theorem lga_find {w : World} {s : Shared} {A : Around} {E : Value → Shared → Prop} {a ad : Addr} {xs : Array Value} {n : Nat} {od : Obj} {name : Str} {t3 : Tok} {r : Builtin.ObjectAttr.Found} {Q : Value → Shared → Prop} (KX : (KN w.params).In s.heap)
    (h1 : s.heap.get? a = some ⟨.ref 215, some ad, .seq xs n, #[]⟩) (h2 : s.heap.get? ad = some od) (hf : findObj (KN w.params) 215 (some od) name = some r)
    (h : wpAny (model pw w) A.in1 (match r with | .value v => ret v | .bind g f => Builtin.ObjectAttr.bindTo g f (.ref a) (.ref 215) | .missing => unsupported "") (fun fin s' => ∃ v, fin = .done (.ret v) ∧ Q v s') E s) (hm : r ≠ .missing) :
    wpAny (model pw w) A (call (.builtin "list.__getattribute__") [.ref a, .str name t3] []) Q E s := by
  have I : InstAt s.heap a ⟨.ref 215, some ad, .seq xs n, #[]⟩ 215 (some od) := ⟨h1, rfl, rfl, h2⟩
  have L0 := acc_type (M := model pw w) h1
  have L1 := looks_find (M := model pw w) KX I hf
  have LI : Looks (model pw w) s.heap (isInstance (.ref a) (.type "list")) true := L0.andThen (looks_mroIn KX kn_islist)
  refine wpAny_call ?_
  refine codeAny_call_builtin lga_plain lga_entry ?_
  refine @check_slot (model pw w) _ _ _ "list.__getattribute__" "list" "__getattribute__" (.ref a) [.str name t3] [] _ lga_kind lga_split LI (lga_args _ _ _) ?_
  unfold Builtin.«object.__getattribute__»
  refine wpAny_bind ?_
  refine wpAny_of_eq (show _ = pure (Value.ref a, [Value.str name t3]) from rfl) ?_
  dsimp only
  refine wpAny_bind ?_
  refine wpAny_of_eq (show _ = pure name from rfl) ?_
  refine wpAny_bind (L0.here (wpAny_bind (L1.here ?_)))
  cases r with
  | missing => exact absurd rfl hm
  | value v => exact wpAny_mono h (fun fin s' z => by obtain ⟨v, rfl, q⟩ := z; exact q) fun _ _ z => z
  | bind g f => exact wpAny_mono h (fun fin s' z => by obtain ⟨v, rfl, q⟩ := z; exact q) fun _ _ z => z
theorem acc_ga0 {w : World} {s : Shared} {A : Around} {E : Value → Shared → Prop} {a ad : Addr} {xs : Array Value} {n : Nat} {k : Int} {hs : Int} {t1 t2 t3 : Tok} {Q : Value → Shared → Prop} (KX : (KN w.params).In s.heap)
    (h1 : s.heap.get? a = some ⟨.ref 215, some ad, .seq xs n, #[]⟩) (h2 : s.heap.get? ad = some ⟨.type "dict", none, .dict #[⟨hs, .str "_initial_size" t1, .int k t2⟩] 1, #[]⟩)
    (hQ : Q (.int k t2) s) :
    wpAny (model pw w) A (call (.builtin "list.__getattribute__") [.ref a, .str "_initial_size" t3] []) Q E s :=
  lga_find (r := .value (.int k t2)) KX h1 h2 (by kernel_rfl) (wpAny_pure ⟨_, rfl, hQ⟩) (by simp)
theorem lga_bind (self : Value) : bindSpecial (.builtin "list.__getattribute__") self = pure (.builtin "list.__getattribute__", [self]) :=
  (Slot.of (T := "list") (name := "__getattribute__") (owner := "list") (n := "__getattribute__") (by rw [typeLookup_type, builtinLookup_eq_fast]; kernel_rfl) (by decide +kernel) (by decide +kernel) (by decide +kernel)
    (by first | exact .inl (by decide +kernel) | exact .inr (by decide +kernel)) (by rw [isSubtype_type]; kernel_rfl)).bind self
section
variable {w : World} {A : Around} {E : Value → Shared → Prop} {s : Shared} {a ad : Addr} {xs : Array Value} {ps : List (Str × Str)} {k : Int}
theorem kn_lga {P : Params} : findIn (KN P) (.ref 215) "__getattribute__" = some (some (.builtin "list.__getattribute__")) := by kernel_rfl
theorem kn_gat {P : Params} : findIn (KN P) (.ref 215) "__getattr__" = some none := by kernel_rfl
theorem acc_init {Q : Value → Shared → Prop} {expr : Bool} (X : (KN w.params).In s.heap) (C : Acc s.heap a ad xs ps k) (r : Near A) (h : ∀ t tk, Q (.int k t) { s with toks := tk }) :
    wpAny (model pw w) A (getAttr (.ref a) "_initial_size" expr) Q E s := by
  obtain ⟨n, e1⟩ := C.obj
  obtain ⟨hs, t1, t2, e2⟩ := C.dict
  obtain ⟨hh, g, d, t, os⟩ := s
  have L0 := acc_type (M := model pw w) e1
  unfold getAttr getAttrBy
  refine wpAny_bind (wpAny_mkText (wpAny_holding (wpAny_bind (L0.at (wpAny_bind ((looks_findIn (M := model pw w) X kn_lga).at ?_))))))
  dsimp only
  rw [if_neg (by decide)]
  unfold getAttrByItsOwn hookBefore
  refine wpAny_bind ?_
  rw [if_pos (by rfl)]
  refine (looks_findIn (M := model pw w) X kn_gat).at ?_
  refine wpAny_bind (wpAny_attempt (wpAny_holding ?_))
  unfold callGetattribute
  rw [if_neg (by cases expr <;> decide)]
  unfold boundAndCalled
  rw [lga_bind]
  refine wpAny_bind (wpAny_pure ?_)
  refine acc_ga0 (s := ⟨hh, g, d, t + 1, os⟩) X e1 e2 ?_
  exact wpAny_pure (h t2 _)
theorem acc_look {name : Str} {hs : Int} {t1 t2 : Tok} {k : Int} (hn : (name == ("_initial_size" : Str)) = false) :
    lookIn name ⟨.type "dict", none, .dict #[⟨hs, .str "_initial_size" t1, .int k t2⟩] 1, #[]⟩ = some none := by
  have h2 : (("_initial_size" : Str) == name) = false := by
    rw [← Bool.not_eq_true, beq_iff_eq] at hn ⊢
    exact fun e => hn e.symm
  simp [lookIn, Value.isStr, h2, DictEntry.refKey]
noncomputable def methTy (t : Value) : Bool := t == .type "function" || t == .type "method_descriptor" || t == .type "wrapper_descriptor"
theorem acc_method {name : Str} {f t : Value} {pl : Sem Bool} {Q : Value × List Value → Shared → Prop} (X : (KN w.params).In s.heap) (C : Acc s.heap a ad xs ps k)
    (hf : findIn (KN w.params) (.ref 215) name = some (some f)) (ht : typeIn (KN w.params) f = some t) (hm : methTy t = true) (hn : (name == ("_initial_size" : Str)) = false) (h : Q (f, [.ref a]) s) :
    wpAny (model pw w) A (getMethod (.ref a) name pl) Q E s := by
  obtain ⟨n, e1⟩ := C.obj
  obtain ⟨hs, t1, t2, e2⟩ := C.dict
  have L0 := acc_type (M := model pw w) e1
  unfold getMethod specialOf
  refine wpAny_bind (wpAny_bind (L0.here ((looks_findIn X kn_lga).here ?_)))
  dsimp only
  rw [show Manifest.canonical "list.__getattribute__" = "object.__getattribute__" by decide +kernel, if_neg (by decide)]
  refine wpAny_bind (wpAny_bind (L0.here ((looks_findIn X kn_gat).here ?_)))
  refine wpAny_bind (wpAny_bind (L0.here ((looks_findIn X hf).here (wpAny_bind ((looks_typeIn X ht).here ?_)))))
  rw [if_neg (by unfold methTy at hm; simp only [Bool.or_eq_true, beq_iff_eq] at hm; rcases hm with (rfl | rfl) | rfl <;> decide +kernel)]
  refine wpAny_bind (wpAny_loadPart e1 ?_)
  dsimp only
  refine wpAny_bind (wpAny_bind (wpAny_loadPart e2 ?_))
  rw [nsLook_of (r := none) (acc_look hn)]
  exact wpAny_pure (wpAny_bind (wpAny_rule (wpAny_pure h)))
end
end Mine
end
section
open PySem PySem.W PyProof.Rows PySem.Calls
set_option maxRecDepth 100000
set_option maxHeartbeats 1000000
set_option Elab.async false
namespace Mine
noncomputable def fdM (nm q : Str) (st : Stmt) (clo : List (Str × Addr)) (pm cd ct dv : Value) : FuncData :=
  { name := nm, qualname := q, params := fParams st, body := .stmts (fBody st), scope := fScope st, globals := 3, closure := clo, defaults := dv, kwdefaults := .none, doc := .none, pyModule := pm, annotations := none, code := cd, closureTuple := ct, builtins := 0 }
structure FnAt' (P : Params) (a : Addr) (nm q : Str) (st : Stmt) (clo : List (Str × Addr)) (cd : Addr) (dv : Value) : Prop where
  there : (KN P).lookup a = some (obK a P)
  code : (KN P).lookup cd = some (obK cd P)
  data : (obK a P).data = .func (fdM nm q st clo (pmOf (obK a P)) (.ref cd) (ctOf (obK a P)) dv)
  rec_ : (match (obK cd P).data with | .fields vs => (match vs[1]? with | some (Value.str x _) => x == q | _ => false) | _ => false) = true
theorem FnAt'.get {P : Params} {a cd : Addr} {nm q : Str} {st : Stmt} {clo : List (Str × Addr)} {dv : Value} {h : Heap} (f : FnAt' P a nm q st clo cd dv) (Z : (KN P).In h) : h.get? a = some (obK a P) := Z _ _ f.there
theorem FnAt'.crec {P : Params} {a cd : Addr} {nm q : Str} {st : Stmt} {clo : List (Str × Addr)} {dv : Value} {h : Heap} (f : FnAt' P a nm q st clo cd dv) (Z : (KN P).In h) : h.CodeRec (.ref cd) q := by
  have e := Z _ _ f.code
  have r := f.rec_
  split at r
  · rename_i vs hd
    split at r
    · rename_i x t hx
      rw [beq_iff_eq.mp r] at hx
      exact ⟨cd, _, vs, t, rfl, e, hd, hx⟩
    · cases r
  · cases r
theorem FnAt'.keep {P : Params} {a cd : Addr} {nm q : Str} {st : Stmt} {clo : List (Str × Addr)} {dv : Value} {h : Heap} {M : Model} (f : FnAt' P a nm q st clo cd dv) (Z : (KN P).In h) : KeepOk M h (.ref a) := ⟨_, .inl rfl, keeper_fn (f.get Z) f.data⟩
theorem m_len (P : Params) : FnAt' P 182 "__len__" "_Accumulator.__len__" (sub (stm 11) 4) [] 181 .none := ⟨by kernel_rfl, by kernel_rfl, by kernel_rfl, by kernel_rfl⟩
theorem li_iargs (a : Value) : argsOk "list.__iter__" ⟨[a], []⟩ := by unfold argsOk; kernel_rfl
theorem li_iplain : plainId "list.__iter__" = true := by decide +kernel
theorem li_ikind : builtinKind "list.__iter__" = some .slot := by decide +kernel
theorem li_isplit : splitId "list.__iter__" = some ("list", "__iter__") := by decide +kernel
theorem acc_iter0 {w : World} {s : Shared} {A : Around} {E : Value → Shared → Prop} {a ad : Addr} {xs : Array Value} {n : Nat} {Q : Value → Shared → Prop} (KX : (KN w.params).In s.heap)
    (h1 : s.heap.get? a = some ⟨.ref 215, some ad, .seq xs n, #[]⟩)
    (hQ : ∀ h' tk I, KeepH s.heap h' → s.heap.get? I = none → h'.get? I = some { cls := .type "list_iterator", data := .fields #[.ref a, .int 0 0] } → Q (.ref I) ⟨h', s.gens, s.drawn, tk, s.os⟩) :
    wpAny (model pw w) A (call (.builtin "list.__iter__") [.ref a] []) Q E s := by
  have L0 := acc_type (M := model pw w) h1
  have LI : Looks (model pw w) s.heap (isInstance (.ref a) (.type "list")) true := L0.andThen (looks_mroIn KX kn_islist)
  refine wpAny_call ?_
  refine codeAny_call_builtin li_iplain entry_list_iter ?_
  refine @check_slot (model pw w) _ _ _ "list.__iter__" "list" "__iter__" (.ref a) [] [] _ li_ikind li_isplit LI (li_iargs _) ?_
  show wpAny _ _ (do ret (← newFields "list_iterator" [.ref a, rawInt 0])) _ _ s
  refine wpAny_bind (wpAny_newObj_type (wpAny_pure ?_))
  exact hQ _ _ _ (fun b o e => Heap.get?_push_of_some _ e) (Heap.get?_none_of_le (Nat.le_refl _)) (Heap.get?_push_size _ rfl)
theorem lit_bind (self : Value) : bindSpecial (.builtin "list.__iter__") self = pure (.builtin "list.__iter__", [self]) :=
  (Slot.of (T := "list") (name := "__iter__") (owner := "list") (n := "__iter__") (by rw [typeLookup_type, builtinLookup_eq_fast]; kernel_rfl) (by decide +kernel) (by decide +kernel) (by decide +kernel)
    (by first | exact .inl (by decide +kernel) | exact .inr (by decide +kernel)) (by rw [isSubtype_type]; kernel_rfl)).bind self
theorem kn_iter {P : Params} : findIn (KN P) (.ref 215) "__iter__" = some (some (.builtin "list.__iter__")) := by kernel_rfl
section
variable {w : World} {A : Around} {E : Value → Shared → Prop} {s : Shared} {a ad : Addr} {xs : Array Value} {ps : List (Str × Str)} {k : Int} {mg mb : Str → Option Value}
theorem acc_iter {Q : Value → Shared → Prop} (X : (KN w.params).In s.heap) (C : Acc s.heap a ad xs ps k) (r : Near A)
    (h : ∀ h' tk I, KeepH s.heap h' → s.heap.get? I = none → h'.IsListIter I a 0 → Q (.ref I) { s with heap := h', toks := tk }) :
    wpAny (model pw w) A (pyIter (.ref a)) Q E s := by
  obtain ⟨n, e1⟩ := C.obj
  have L0 := acc_type (M := model pw w) e1
  have LS : Looks (model pw w) s.heap (specialOf (.ref a) "__iter__") (some (.builtin "list.__iter__")) := L0.andThen (looks_findIn X kn_iter)
  have fin : wpAny (model pw w) A (call (.builtin "list.__iter__") [.ref a] []) (fun it s' => wpAny (model pw w) A (specialOf it "__next__" >>= fun r => match r with
      | none => (do rule "iter.non-iterator"; raiseError "TypeError" s!"iter() returned non-iterator of type '{← typeNameOf it}'")
      | some _ => pure it) Q E s') E s := by
    refine acc_iter0 X e1 (fun h' tk I k₁ n₁ i₁ => ?_)
    have it : h'.IsListIter I a 0 := ⟨_, i₁, rfl, rfl⟩
    exact wpAny_bind (wpAny_specialOf (s := { s with heap := h', toks := tk }) (T := "list_iterator") ⟨_, i₁, rfl⟩ slot_listiter_next.lookup (wpAny_pure (h h' tk I k₁ n₁ it)))
  unfold pyIter
  refine wpAny_bind (LS.here ?_)
  dsimp only
  unfold callSpecialIfBoundUnlessNone? bindSpecialIfBound?
  refine wpAny_bind (wpAny_holding (wpAny_bind (wpAny_bind (LS.here ?_))))
  dsimp only
  have nx : ∀ {Q' : Option (Value × List Value) → Shared → Prop} {E' : Value → Shared → Prop}, Q' (some (.builtin "list.__iter__", [.ref a])) s → wpAny (model pw w) A (bindSpecial (.builtin "list.__iter__") (.ref a) >>= fun x => pure (some x)) Q' E' s := by
    intro Q' E' hq
    rw [lit_bind]
    exact wpAny_bind (wpAny_pure (wpAny_pure hq))
  refine wpAny_bind (wpAny_askSetting ?_)
  split
  · refine nx ?_
    dsimp only
    rw [if_neg (by decide)]
    exact wpAny_bind (wpAny_mono fin (fun v s' h' => wpAny_pure h') fun _ _ y => y)
  · refine wpAny_tryCatch (nx ?_)
    dsimp only
    rw [if_neg (by decide)]
    exact wpAny_bind (wpAny_mono fin (fun v s' h' => wpAny_pure h') fun _ _ y => y)
end
end Mine
end
section
open PySem PySem.W PyProof.Rows PySem.Calls
set_option maxRecDepth 100000
set_option maxHeartbeats 1000000
set_option Elab.async false
namespace Mine
theorem WalksS.shift {prog : Program} {w : World} {A : Around} {I : Addr} {fp wr : List Addr} {G : Array GenState → Array GenState → Prop} {n : Nat} {P : Nat → Value → Prop} {St : Nat → Shared → Prop} (W : WalksS prog w A I fp wr G n P St) :
    WalksS prog w A I fp wr G (n + 1) (fun i v => match i with | 0 => False | j + 1 => P j v) (fun i s => match i with | 0 => False | j + 1 => St j s) where
  sub := W.sub
  grefl := W.grefl
  gtrans := W.gtrans
  frame i s h' tk st ht hk := match i, st with | j + 1, st => W.frame j s h' tk st ht hk
  item i s Q E hi st hQ := match i, st, hi, hQ with | j + 1, st, hi, hQ => W.item j s Q E (Nat.lt_of_succ_lt_succ hi) st (fun v s' hp hs => hQ v s' hp hs)
  done s Q E st hQ := W.done s Q E st hQ
  self i s Q E st hQ := match i, st with | j + 1, st => W.self j s Q E st hQ
theorem args_sum2 (a b : Value) : argsOk "sum" ⟨[a, b], []⟩ := by unfold argsOk; kernel_rfl
section
variable {prog : Program} {w : World} {A : Around} {E : Value → Shared → Prop} {s : Shared}
theorem call_sum2 {x : Value} {k : Int} {tk : Tok} {Q : Value → Shared → Prop} (hk : k = 0 ∨ k = 1)
    (h : wpAny (model prog w) A.in1 (pyIter x) (fun it s₂ => ∃ I fp wr G n P St val, it = .ref I ∧ WalksS prog w A.in1 I fp wr G n P St ∧ St 0 s₂ ∧ (∀ b ∈ fp, b < s₂.heap.objs.size) ∧
      (∀ i v, P i v → ∃ t, v = .int (val i) t) ∧
      ∀ s' t', Moved wr G s₂ s' → Q (.int (k + preSum val n) t') s') E s) :
    wpAny (model prog w) A (call (.builtin "sum") [x, .int k tk]) Q E s := by
  refine call_function_tree F.kind_sum F.plain_sum F.entry_sum (args_sum2 _ _) ?_
  unfold Builtin.«sum»
  simp only [List.length_cons, List.length_nil]
  rw [if_neg (by decide)]
  refine wpAny_bind (wpAny_of_eq (show Builtin.Builtins.bindParams "sum" ["start"] 0 ⟨[.int k tk], []⟩ = pure [some (.int k tk)] from rfl) ?_)
  refine wpAny_bind (wpAny_mono h (fun it s₂ h₂ => ?_) fun _ _ e => e)
  obtain ⟨I, fp, wr, G, n, P, St, val, rfl, W, hst, hfp, hval, hQ⟩ := h₂
  dsimp only
  rw [if_pos (by rcases hk with rfl | rfl <;> decide)]
  refine wpAny_bind (wpAny_rule (wpAny_bind (wpAny_mkInt (wpAny_bind (wpAny_pure ?_)))))
  simp only [List.forIn_cons, List.forIn_nil]
  refine wpAny_bind (wpAny_bind (wpAny_bind (wpAny_isInstance (T := "int") (b := false) (typeIs_int _ _ _) PySem.sub_int_str ?_)))
  simp only [Bool.false_eq_true, if_false]
  refine wpAny_pure (wpAny_bind (wpAny_bind (wpAny_isInstance (T := "int") (b := false) (typeIs_int _ _ _) PySem.sub_int_bytes ?_)))
  simp only [Bool.false_eq_true, if_false]
  refine wpAny_pure (wpAny_bind (wpAny_bind (wpAny_isInstance (T := "int") (b := false) (typeIs_int _ _ _) PySem.sub_int_bytearray ?_)))
  simp only [Bool.false_eq_true, if_false]
  refine wpAny_pure (wpAny_pure ?_)
  refine wpAny_bind (wpAny_newObj_type ?_)
  have hSf : s₂.heap.objs.size ∉ fp := fun hm => Nat.lt_irrefl _ (hfp _ hm)
  have hsh : ∀ j, preSum (fun i => match i with | 0 => k | j + 1 => val j) (j + 1) = k + preSum val j := by
    intro j
    induction j with
    | zero => simp [preSum]
    | succ j ih =>
      have e : preSum (fun i => match i with | 0 => k | j + 1 => val j) (j + 1 + 1) = preSum (fun i => match i with | 0 => k | j + 1 => val j) (j + 1) + val j := rfl
      rw [e, ih]
      show k + preSum val j + val j = k + (preSum val j + val j)
      omega
  have W' := WalksS.shift W
  refine wpAny_pure ⟨plainId_quiet F.plain_sum_loop _, codeAny_sum_loopAnyS W' (fun i => match i with | 0 => k | j + 1 => val j) (fun i v hp => by
    cases i with
    | zero => exact hp.elim
    | succ j => exact hval j v hp) s₂.heap.objs.size hSf n 1 _ s₂.toks 0 0 (.inl rfl) (by omega) (by omega)
    (W.frame 0 s₂ _ _ hst (by first | exact Nat.le_refl _ | exact Nat.le_succ _ | omega) fun b _ o e => Heap.get?_push_of_some _ e) (by
      have := hsh 0
      simp only [preSum, Int.add_zero] at this
      rw [show preSum (fun i => match i with | 0 => k | j + 1 => val j) 1 = k from by simp [preSum]]
      exact Heap.get?_push_size _ rfl) fun s' t' hm => ?_⟩
  rw [hsh n]
  exact hQ s' t' (hm.drop_new (by first | exact Nat.le_refl _ | exact Nat.le_succ _ | omega))
end
end Mine
end
section
open PySem PySem.W PyProof.Rows PySem.Calls
set_option maxRecDepth 100000
set_option maxHeartbeats 2000000
set_option Elab.async false
namespace Mine
theorem acc_choice {h : Heap} {a ad : Addr} {xs : Array Value} {ps : List (Str × Str)} {k : Int} (C : Acc h a ad xs ps k) :
    ∃ (Ts : Nat → Addr) (us us' : Nat → Tok), ∀ j, j < ps.length → xs[j]? = some (.ref (Ts j)) ∧ h.IsTuple (Ts j) #[.str (ps.getD j default).1 (us j), .str (ps.getD j default).2 (us' j)] := by
  refine ⟨fun j => if hj : j < ps.length then Classical.choose (C.items j hj) else 0, fun j => if hj : j < ps.length then Classical.choose (Classical.choose_spec (C.items j hj)) else 0,
    fun j => if hj : j < ps.length then Classical.choose (Classical.choose_spec (Classical.choose_spec (C.items j hj))) else 0, fun j hj => ?_⟩
  simp only [dif_pos hj]
  have := Classical.choose_spec (Classical.choose_spec (Classical.choose_spec (C.items j hj)))
  have e : ps.getD j default = ps[j] := by simp [hj]
  rw [e]
  exact this
theorem tabs_cls {h : Heap} (T : TabO h) {a : Addr} {o : Obj} (e : h.get? a = some o) (hc : (o.cls == .none) = false) : a ∉ Tabs := fun m => by
  obtain ⟨ps, e', _⟩ := T a m
  rw [e] at e'; cases e'; simp at hc
noncomputable def szAt (ps : List (Str × Str)) (j : Nat) : Int := ((ps.getD j default).1.length + (ps.getD j default).2.length : Nat)
noncomputable def tot (ps : List (Str × Str)) : Int := preSum (szAt ps) ps.length
theorem hd_len {P : Params} {h : Heap} (Z : (KN P).In h) : CodeHd h 181 177 := codeHd_of_K Z (by kernel_rfl)
section
variable {w : World} {A : Around} {E : Value → Shared → Prop} {s : Shared} {a ad : Addr} {xs : Array Value} {ps : List (Str × Str)} {k : Int} {mg mb : Str → Option Value}
theorem Acc.on {h h' : Heap} (C : Acc h a ad xs ps k) (T : TabO h) (kt : KeepT h h') : Acc h' a ad xs ps k where
  obj := let ⟨n, e⟩ := C.obj; ⟨n, kt _ _ (tabs_cls T e rfl) e⟩
  dict := let ⟨x, y, z, e⟩ := C.dict; ⟨x, y, z, kt _ _ (tabs_cls T e rfl) e⟩
  len := C.len
  items j hj := let ⟨t, u, u', e, i⟩ := C.items j hj; ⟨t, u, u', e, tup_on i fun o e => kt _ _ (let ⟨o', e', c, _⟩ := i; tabs_cls T e' (by rw [c]; rfl)) e⟩
theorem acc_len {Q : Value → Shared → Prop} (X : Ctx0 w mg mb s.heap) (C : Acc s.heap a ad xs ps k) (hk : k = 0 ∨ k = 1) (hz : ∀ p ∈ ps, p.1.length ≤ 10000 ∧ p.2.length ≤ 10000) (hn : ps.length ≤ 100) (r : NearR A 10 60)
    (hQ : ∀ s' u, Step [] s s' → Q (.int (k + tot ps) u) s') : wpAny (model pw w) A (call (.ref 182) [.ref a]) Q E s := by
  have fm := m_len w.params
  have hb : ∀ v, bindArgs (fdM "__len__" "_Accumulator.__len__" (sub (stm 11) 4) [] (pmOf (obK 182 w.params)) (.ref 181) (ctOf (obK 182 w.params)) .none) ⟨[v], []⟩ = (pure [(("self" : Str), v)] : Sem (List (Str × Value))) := fun v => by rfl
  refine call_fn r.room (fm.get X.K) fm.data X.G.nolimit (fm.crec X.K) rfl (BindsTo.of_eq (hb _)) (fun h₁ F => ?_)
  have G := X.G
  have X1 : Ctx0 w mg mb h₁ := X.step (.of_keep F.keep)
  have C1 := C.on X.T (fun b o _ e => F.keep b o e)
  have hsum := X.G.bi "sum" _ (by decide) b_sum
  iterate 2 (walk1; (try dsimp only))
  refine Call_ ?_
  refine nm_builtin (G.g.keeps F.keep) (G.names.free _ (by simp)) (G.b.keeps F.keep) hsum ?_
  refine cw ?_
  iterate 1 (walk1; (try dsimp only))
  refine hideQ fun Q_ hQ_ => ?_
  refine wpAny_GeneratorExp_walksQTD r.handled rfl (by rfl) (by decide) rfl rfl rfl (by decide) rfl (r.deeper (d := 9) (u := 57) _).room.d ?_ (fun x => rfl)
  iterate 1 (walk1; (try dsimp only))
  refine acc_iter (s := { s with heap := h₁, toks := _ }) X1.K C1 (r.deeper (d := 9) (u := 57) _).near (fun h₂ tk₂ I k₂ nI it₂ => ?_)
  have X2 : Ctx0 w mg mb h₂ := X1.step (.of_keep k₂)
  have C2 := C1.on X1.T (fun b o _ e => k₂ b o e)
  refine ⟨X2.G.nolimit, ?_⟩
  have hI : I ∉ Tabs := let ⟨o, e, c, _⟩ := it₂; tabs_cls X2.T e (by rw [c]; rfl)
  refine gcode (c := 181) (P := 177) rfl (hd_len X2.K) (by decide) X2.T (fun code h₃ tk₃ st₃ => ?_)
  have X3 := X2.step st₃
  have it3 : h₃.IsListIter I a 0 := isi_on it₂ fun o e => st₃.keepT _ _ hI e
  have C3 := C2.on X2.T st₃.keepT
  refine (bf_look (M := model pw w) X3.K).here ?_
  obtain ⟨Ts, us, us', hTs⟩ := acc_choice C3
  have nTI : ∀ j, j < ps.length → Ts j ≠ I := fun j hj e => by
    obtain ⟨_, ⟨o, e', c, _⟩⟩ := hTs j hj
    obtain ⟨o', e2, c2, _⟩ := it3
    rw [e, e2] at e'; cases e'; rw [c2] at c; exact absurd c (by simp)
  have naI : a ≠ I := fun e => by
    obtain ⟨n, e'⟩ := C3.obj
    obtain ⟨o', e2, c2, _⟩ := it3
    rw [e, e2] at e'; cases e'; cases c2
  have hsz := C.len
  have hIlt : I < h₃.objs.size := let ⟨_, e, _⟩ := it3; Heap.lt_size e
  have n1I : h₁.get? I = none := nI
  refine ex9 I (I :: a :: (List.range xs.size).map Ts) [I] xs.size (fun j v => v = #[.str (ps.getD j default).1 (us j), .str (ps.getD j default).2 (us' j)]) _ _ (fun _ => true) (fun i y => i < ps.length → ∃ t, y = .int (szAt ps i) t) ⟨rfl,
    fun A' hA => walkTuples hA I a naI xs Ts _ (fun j hj => (hTs j (by omega)).1) (fun j hj => nTI j (by omega)), fun i vals e => ⟨_, _, e⟩,
    ⟨it3, let ⟨n, e⟩ := C3.obj; ⟨_, n, e, rfl⟩, fun j hj => (hTs j (by omega)).2⟩, fun b hb => ?_, X3.G.nolimit, fun hm => ?_,
    fun href hk' => ⟨fun A' E' i va vb s₂ m₂ hA hD hU hP hns hma hmb hfp => ?_, fun A' E' i va vb s₂ m₂ hA hD hU hP hpz hns hma hmb hfp => ?_⟩, fun g h₅ tk gs hgb hlt5 hsz5 k5 W5 st5 => ?_⟩
  · rcases List.mem_cons.mp hb with rfl | hb
    · exact hIlt
    · rcases List.mem_cons.mp hb with rfl | hb
      · obtain ⟨n, e⟩ := C3.obj; exact Heap.lt_size e
      · obtain ⟨j, hj, rfl⟩ := List.mem_map.mp hb
        obtain ⟨_, ⟨o, e, _⟩⟩ := hTs j (by have := List.mem_range.mp hj; omega)
        exact Heap.lt_size e
  · have hm : cStatics = I := by simpa using hm
    obtain ⟨_, hns, _⟩ := X1.G.nolimit
    obtain ⟨o, _, _, e, _⟩ := hns
    rw [hm, n1I] at e; cases e
  · rw [List.forIn_nil]
    exact wpAny_pure ⟨rfl, s₂.heap, s₂.toks, rfl, fun _ _ e => e⟩
  · dsimp only at hfp hk'
    have kt : KeepT h₁ s₂.heap := fun b o hb e => by
      have hb1 : b ≠ I := fun q => by rw [q, n1I] at e; cases e
      have e3 := st₃.keepT _ _ hb (k₂ _ _ e)
      exact hfp b (List.mem_range.mpr (Heap.lt_size e3)) (by simpa using hb1) o (hk' _ _ e3)
    have G4 := X1.G.keepT kt
    have hP : va = .str (ps.getD i default).1 (us i) ∧ vb = .str (ps.getD i default).2 (us' i) := by simpa using hP
    obtain ⟨rfl, rfl⟩ := hP
    have hlen := G4.bi "len" _ (by decide) b_len
    have hzi : (ps.getD i default).1.length ≤ 10000 ∧ (ps.getD i default).2.length ≤ 10000 := by
      by_cases hi : i < ps.length
      · have : ps.getD i default = ps[i] := by simp [hi]
        rw [this]; exact hz _ (by simp)
      · have : ps.getD i default = default := by simp [Nat.le_of_not_lt hi]
        rw [this]
        exact ⟨by decide, by decide⟩
    (walk1; (try dsimp only))
    refine Call_ ?_
    refine nm_builtin G4.g (G.names.free _ (by simp)) G4.b hlen ?_
    refine cw ?_
    (walk1; (try dsimp only))
    refine wpAny_Name (wpAny_loadName_local rfl rfl hns hma ?_) (by decide)
    (walk1; (try dsimp only))
    refine ⟨⟨_, .inr (.inl rfl), keeper_builtin⟩, ?_⟩
    refine P.len_str (by omega) ?_
    refine Call_ ?_
    refine nm_builtin G4.g (G.names.free _ (by simp)) G4.b hlen ?_
    refine cw ?_
    (walk1; (try dsimp only))
    refine wpAny_Name (wpAny_loadName_local rfl rfl hns hmb ?_) (by decide)
    (walk1; (try dsimp only))
    refine ⟨⟨_, .inr (.inl rfl), keeper_builtin⟩, ?_⟩
    refine P.len_str (by omega) ?_
    (walk1; (try dsimp only))
    exact ⟨fun _ => ⟨_, congrArg (fun z => Value.int z _) (by unfold szAt; omega)⟩, s₂.heap, _, rfl, fun _ _ e => e⟩
  · have X5 : Ctx0 w mg mb h₅ := X3.step (.of_keep k5)
    have C5 := C3.on X3.T (fun b o _ e => k5 b o e)
    have hL : s.heap.objs.size ∉ Tabs := fun m => by
      obtain ⟨ps', e', _⟩ := X.T _ m
      exact absurd (Heap.lt_size e') (Nat.lt_irrefl _)
    have ns5 := F.ns.at' (h' := h₅) fun o e => k5 _ _ (st₃.keepT _ _ hL (k₂ _ _ e))
    have hpass : passing (fun _ => true) xs.size 0 = List.range xs.size := by simp [passing]
    rw [hpass] at W5
    refine hQ_ _ _ ?_
    (walk1; (try dsimp only))
    refine Attribute_name ?_
    refine wpAny_Name (wpAny_loadName_local rfl rfl ns5 rfl ?_) (by decide)
    refine wpAny_with_toks (Nat.le_refl _) ?_
    refine acc_init X5.K C5 (r.deeper (d := 9) (u := 57) _).near (fun t tk' => ?_)
    intro htk
    (walk1; (try dsimp only))
    refine ⟨⟨_, .inr (.inl rfl), keeper_builtin⟩, ?_⟩
    have WA := W5.of_in1.of_in1.of_in1
    have st6 := WA.frame 0 _ h₅ tk' st5 htk (fun b _ o e => e)
    refine call_sum2 hk (WA.self 0 _ _ _ st6 ⟨g, _, _, _, _, _, _, szAt ps, rfl, WA, st6, fun b hb => ?_, fun i v hp => ?_, fun s' t' hm => ?_⟩)
    · have q1 : h₃.objs.size < g := hlt5
      have q2 : h₅.objs.size = g + 1 := hsz5
      have q3 : b = g ∨ b = h₃.objs.size ∨ b < h₃.objs.size := by simpa only [List.mem_cons, List.mem_range] using hb
      show b < h₅.objs.size
      rw [q2]
      rcases q3 with q3 | q3 | q3
      · rw [q3]; exact Nat.lt_succ_self _
      · rw [q3]; exact Nat.lt_succ_of_lt q1
      · exact Nat.lt_succ_of_lt (Nat.lt_trans q3 q1)
    · obtain ⟨i', hi', hy⟩ := hp
      obtain ⟨hlt, e⟩ := List.getElem?_eq_some_iff.mp hi'
      have hlt' : i < xs.size := by simpa using hlt
      have : i' = i := by rw [← e]; simp
      subst this
      exact hy (by omega)
    · have hlen : (List.range xs.size).length = ps.length := by simp [hsz]
      rw [hlen]
      refine hQ _ _ ⟨⟨fun b o hb ht e => ?_, fun t ht ps e o => ?_⟩, hm.os, fun g => ?_⟩
      · have e1 := F.keep _ _ e
        have b1 : b ≠ I := fun q => by rw [q, n1I] at e1; cases e1
        have e3 := st₃.keepT _ _ ht (k₂ _ _ e1)
        have b3 : b ≠ h₃.objs.size := Nat.ne_of_lt (Heap.lt_size e3)
        exact hm.heap b o (fun m => by
          rcases List.mem_cons.mp m with m | m
          · exact b3 m
          · exact b1 (by simpa using m)) (k5 _ _ e3)
      · obtain ⟨more, e', o'⟩ := st₃.tabs t ht ps (k₂ _ _ (F.keep _ _ e)) o
        refine ⟨more, hm.heap t _ (fun m => ?_) (k5 _ _ e'), o'⟩
        have b3 : t < h₃.objs.size := Heap.lt_size e'
        rcases List.mem_cons.mp m with m | m
        · exact absurd b3 (by rw [show t = h₃.objs.size from m]; exact Nat.lt_irrefl _)
        · exact hI ((by simpa using m : t = I) ▸ ht)
      · exact AllBare.moved (g.push hgb) hm.gens
end
end Mine
end
section
open PySem PySem.W PyProof.Rows PySem.Calls
set_option maxRecDepth 100000
set_option maxHeartbeats 2000000
set_option Elab.async false
namespace Mine
noncomputable def pieceF (p : Str × Str) : Str := Txt.join "" [p.1, p.2]
noncomputable def lineF (ps : List (Str × Str)) : Str := Txt.join "" (ps.map pieceF)
theorem m_str (P : Params) : FnAt' P 189 "__str__" "_Accumulator.__str__" (sub (stm 11) 5) [] 188 .none := ⟨by kernel_rfl, by kernel_rfl, by kernel_rfl, by kernel_rfl⟩
theorem hd_str {P : Params} {h : Heap} (Z : (KN P).In h) : CodeHd h 188 184 := codeHd_of_K Z (by kernel_rfl)
section
variable {w : World} {A : Around} {E : Value → Shared → Prop} {s : Shared} {a ad : Addr} {xs : Array Value} {ps : List (Str × Str)} {k : Int} {mg mb : Str → Option Value}
theorem acc_str {Q : Value → Shared → Prop} (X : Ctx0 w mg mb s.heap) (C : Acc s.heap a ad xs ps k) (hz : ∀ p ∈ ps, p.1.length ≤ 10000 ∧ p.2.length ≤ 10000) (hn : ps.length ≤ 100) (r : NearR A 10 60)
    (hQ : ∀ s' u, Step [] s s' → Q (.str (lineF ps) u) s') : wpAny (model pw w) A (call (.ref 189) [.ref a]) Q E s := by
  have fm := m_str w.params
  have hb : ∀ v, bindArgs (fdM "__str__" "_Accumulator.__str__" (sub (stm 11) 5) [] (pmOf (obK 189 w.params)) (.ref 188) (ctOf (obK 189 w.params)) .none) ⟨[v], []⟩ = (pure [(("self" : Str), v)] : Sem (List (Str × Value))) := fun v => by rfl
  refine call_fn r.room (fm.get X.K) fm.data X.G.nolimit (fm.crec X.K) rfl (BindsTo.of_eq (hb _)) (fun h₁ F => ?_)
  have G := X.G
  have X1 : Ctx0 w mg mb h₁ := X.step (.of_keep F.keep)
  have C1 := C.on X.T (fun b o _ e => F.keep b o e)
  obtain ⟨te, hemp⟩ := X.G.names.empty
  iterate 5 (walk1; (try dsimp only))
  refine cw ?_
  iterate 1 (walk1; (try dsimp only))
  refine hideQ fun Q_ hQ_ => ?_
  refine wpAny_GeneratorExp_walksQTD r.handled rfl (by rfl) (by decide) rfl rfl rfl (by decide) rfl (r.deeper (d := 9) (u := 57) _).room.d ?_ (fun x => rfl)
  iterate 1 (walk1; (try dsimp only))
  refine acc_iter (s := { s with heap := h₁, toks := _ }) X1.K C1 (r.deeper (d := 9) (u := 57) _).near (fun h₂ tk₂ I k₂ nI it₂ => ?_)
  have X2 : Ctx0 w mg mb h₂ := X1.step (.of_keep k₂)
  have C2 := C1.on X1.T (fun b o _ e => k₂ b o e)
  refine ⟨X2.G.nolimit, ?_⟩
  have hI : I ∉ Tabs := let ⟨o, e, c, _⟩ := it₂; tabs_cls X2.T e (by rw [c]; rfl)
  refine gcode (c := 188) (P := 184) rfl (hd_str X2.K) (by decide) X2.T (fun code h₃ tk₃ st₃ => ?_)
  have X3 := X2.step st₃
  have it3 : h₃.IsListIter I a 0 := isi_on it₂ fun o e => st₃.keepT _ _ hI e
  have C3 := C2.on X2.T st₃.keepT
  refine (bf_look (M := model pw w) X3.K).here ?_
  obtain ⟨Ts, us, us', hTs⟩ := acc_choice C3
  have nTI : ∀ j, j < ps.length → Ts j ≠ I := fun j hj e => by
    obtain ⟨_, ⟨o, e', c, _⟩⟩ := hTs j hj
    obtain ⟨o', e2, c2, _⟩ := it3
    rw [e, e2] at e'; cases e'; rw [c2] at c; exact absurd c (by simp)
  have naI : a ≠ I := fun e => by
    obtain ⟨n, e'⟩ := C3.obj
    obtain ⟨o', e2, c2, _⟩ := it3
    rw [e, e2] at e'; cases e'; cases c2
  have hsz := C.len
  have hIlt : I < h₃.objs.size := let ⟨_, e, _⟩ := it3; Heap.lt_size e
  have n1I : h₁.get? I = none := nI
  refine ex9 I (I :: a :: (List.range xs.size).map Ts) [I] xs.size (fun j v => v = #[.str (ps.getD j default).1 (us j), .str (ps.getD j default).2 (us' j)]) _ _ (fun _ => true) (fun i y => ∃ t, y = .str (pieceF (ps.getD i default)) t) ⟨rfl,
    fun A' hA => walkTuples hA I a naI xs Ts _ (fun j hj => (hTs j (by omega)).1) (fun j hj => nTI j (by omega)), fun i vals e => ⟨_, _, e⟩,
    ⟨it3, let ⟨n, e⟩ := C3.obj; ⟨_, n, e, rfl⟩, fun j hj => (hTs j (by omega)).2⟩, fun b hb => ?_, X3.G.nolimit, fun hm => ?_,
    fun href hk' => ⟨fun A' E' i va vb s₂ m₂ hA hD hU hP hns hma hmb hfp => ?_, fun A' E' i va vb s₂ m₂ hA hD hU hP hpz hns hma hmb hfp => ?_⟩, fun g h₅ tk gs hgb hlt5 hsz5 k5 W5 st5 => ?_⟩
  · rcases List.mem_cons.mp hb with rfl | hb
    · exact hIlt
    · rcases List.mem_cons.mp hb with rfl | hb
      · obtain ⟨n, e⟩ := C3.obj; exact Heap.lt_size e
      · obtain ⟨j, hj, rfl⟩ := List.mem_map.mp hb
        obtain ⟨_, ⟨o, e, _⟩⟩ := hTs j (by have := List.mem_range.mp hj; omega)
        exact Heap.lt_size e
  · have hm : cStatics = I := by simpa using hm
    obtain ⟨_, hns, _⟩ := X1.G.nolimit
    obtain ⟨o, _, _, e, _⟩ := hns
    rw [hm, n1I] at e; cases e
  · rw [List.forIn_nil]
    exact wpAny_pure ⟨rfl, s₂.heap, s₂.toks, rfl, fun _ _ e => e⟩
  · dsimp only at hfp hk'
    have kt : KeepT h₁ s₂.heap := fun b o hb e => by
      have hb1 : b ≠ I := fun q => by rw [q, n1I] at e; cases e
      have e3 := st₃.keepT _ _ hb (k₂ _ _ e)
      exact hfp b (List.mem_range.mpr (Heap.lt_size e3)) (by simpa using hb1) o (hk' _ _ e3)
    have G4 := X1.G.keepT kt
    have hP : va = .str (ps.getD i default).1 (us i) ∧ vb = .str (ps.getD i default).2 (us' i) := by simpa using hP
    obtain ⟨rfl, rfl⟩ := hP
    have hzi : (ps.getD i default).1.length ≤ 10000 ∧ (ps.getD i default).2.length ≤ 10000 := by
      by_cases hi : i < ps.length
      · have : ps.getD i default = ps[i] := by simp [hi]
        rw [this]; exact hz _ (by simp)
      · have : ps.getD i default = default := by simp [Nat.le_of_not_lt hi]
        rw [this]
        exact ⟨by decide, by decide⟩
    (walk1; (try dsimp only))
    refine nm_global G4.g hemp ?_
    (walk1; (try dsimp only))
    refine cw ?_
    iterate 2 (walk1; (try dsimp only))
    (walk1; (try dsimp only))
    refine wpAny_Name (wpAny_loadName_local rfl rfl hns hma ?_) (by decide)
    (walk1; (try dsimp only))
    refine wpAny_Name (wpAny_loadName_local rfl rfl hns hmb ?_) (by decide)
    (walk1; (try dsimp only))
    refine wpAny_newTuple ?_ (by simp [sizeLine])
    (walk1; (try dsimp only))
    refine ⟨⟨_, .inr (.inl rfl), keeper_builtin⟩, ?_⟩
    refine join_tupleC (items := #[.str (ps.getD i default).1 (us i), .str (ps.getD i default).2 (us' i)]) (ys := [(ps.getD i default).1, (ps.getD i default).2]) ⟨_, Heap.get?_push_size _ rfl, rfl, 0, rfl⟩ (.cons _ _ (.cons _ _ .nil)) (by decide +kernel) (by show (ps.getD i default).1.length + ((ps.getD i default).2.length + 0) + 2 * 64 ≤ 16777216; omega) (fun t' k' => ?_)
    · exact ⟨⟨_, rfl⟩, _, _, rfl, fun b o e => Heap.get?_push_of_some _ e⟩
  · have X5 : Ctx0 w mg mb h₅ := X3.step (.of_keep k5)
    have hpass : passing (fun _ => true) xs.size 0 = List.range xs.size := by simp [passing]
    rw [hpass] at W5
    refine hQ_ _ _ ?_
    (walk1; (try dsimp only))
    refine ⟨⟨_, .inr (.inl rfl), keeper_builtin⟩, ?_⟩
    refine SC.joinGen (I := g) W5.of_in1.of_in1 (fun i s h => h.1.typeIs) st5 (fun b hb => ?_) (by simp) (fun i v h => ?_) (fun s' ll hm hit => ?_) ?_
    · have q1 : h₃.objs.size < g := hlt5
      have q2 : h₅.objs.size = g + 1 := hsz5
      have q3 : b = g ∨ b = h₃.objs.size ∨ b < h₃.objs.size := by simpa only [List.mem_cons, List.mem_range] using hb
      show b < h₅.objs.size
      rw [q2]
      rcases q3 with q3 | q3 | q3
      · rw [q3]; exact Nat.lt_succ_self _
      · rw [q3]; exact Nat.lt_succ_of_lt q1
      · exact Nat.lt_succ_of_lt (Nat.lt_trans q3 q1)
    · obtain ⟨i', _, u, rfl⟩ := h
      exact ⟨_, _, rfl⟩
    · have hll : ll.map (·.1) = ps.map pieceF := by
        obtain ⟨e1, e2⟩ := hit
        simp only [List.size_toArray, List.length_range, strValues, List.length_map] at e1
        refine List.ext_getElem (by simp; omega) (fun j h1 h2 => ?_)
        have hj : j < ll.length := by simpa using h1
        obtain ⟨i', hi', u, hu⟩ := e2 j (.str ll[j].1 ll[j].2) (by simp [strValues, hj])
        have : i' = j := by
          rw [List.getElem?_range (by omega)] at hi'
          exact (Option.some.inj hi').symm
        subst this
        have hw' : i' < ps.length := by simpa using h2
        simp only [Value.str.injEq] at hu
        simp only [List.getElem_map]
        rw [hu.1]
        simp [hw']
      rw [hll]
      refine ⟨?_, fun t' k => hQ _ _ ⟨⟨fun b o hb ht e => ?_, fun t ht ps e o => ?_⟩, hm.os, fun g => ?_⟩⟩
      · unfold JoinOk
        rw [StrLaws.joinTotal]
        have hs : (List.map (fun x => x.length) (List.map pieceF ps)).sum ≤ (List.map (fun x => x.length) (List.map pieceF ps)).length * 20000 := sum_le_mul _ _ (fun x hx => by
          simp only [List.mem_map] at hx
          obtain ⟨y, ⟨t, ht, rfl⟩, rfl⟩ := hx
          have h3 := hz t ht
          have : (pieceF t).length = t.1.length + t.2.length := by
            show (Builtin.Str.glued "" [t.1, t.2]).length = _
            rw [StrLaws.glued_eq_join]
            show (t.1 ++ ("" : Str) ++ t.2).length = _
            rw [Str.length_append, Str.length_append, show ("" : Str).length = 0 by decide +kernel]
            omega
          omega)
        simp only [List.length_map] at hs ⊢
        have h1 : ("" : Str).length = 0 := by decide +kernel
        rw [h1]
        unfold Builtin.Str.tooLong
        rw [decide_eq_false (by rw [sizeLine_eq]; omega)]
        rfl
      · have e1 := F.keep _ _ e
        have b1 : b ≠ I := fun q => by rw [q, n1I] at e1; cases e1
        have e3 := st₃.keepT _ _ ht (k₂ _ _ e1)
        have b3 : b ≠ h₃.objs.size := Nat.ne_of_lt (Heap.lt_size e3)
        exact hm.heap b o (fun m => by
          rcases List.mem_cons.mp m with m | m
          · exact b3 m
          · exact b1 (by simpa using m)) (k5 _ _ e3)
      · obtain ⟨more, e', o'⟩ := st₃.tabs t ht ps (k₂ _ _ (F.keep _ _ e)) o
        refine ⟨more, hm.heap t _ (fun m => ?_) (k5 _ _ e'), o'⟩
        have b3 : t < h₃.objs.size := Heap.lt_size e'
        rcases List.mem_cons.mp m with m | m
        · exact absurd b3 (by rw [show t = h₃.objs.size from m]; exact Nat.lt_irrefl _)
        · exact hI ((by simpa using m : t = I) ▸ ht)
      · exact AllBare.moved (g.push hgb) hm.gens
    · simp [sizeLine]; omega
end
end Mine
end
section
open PySem PySem.W PyProof.Rows PySem.Calls
set_option maxRecDepth 100000
set_option Elab.async false
namespace Mine
theorem str_ext {a b : Str} (h : a.cps.toList = b.cps.toList) : a = b := by
  obtain ⟨a⟩ := a; obtain ⟨b⟩ := b
  congr
  exact Array.toList_inj.mp h
theorem cps_append (a b : Str) : (a ++ b).cps.toList = a.cps.toList ++ b.cps.toList := by
  show (a.cps ++ b.cps).toList = _
  simp
theorem cps_empty : ("" : Str).cps.toList = [] := by decide +kernel
theorem len_cps (a : Str) : a.cps.toList.length = a.length := by show _ = a.cps.size; simp
theorem jn_nil (sep : Str) : Txt.join sep [] = "" := by
  show Builtin.Str.glued sep [] = _
  rw [StrLaws.glued_eq_join]; rfl
theorem jn_one (sep x : Str) : Txt.join sep [x] = x := by
  show Builtin.Str.glued sep [x] = _
  rw [StrLaws.glued_eq_join]; rfl
theorem jn_cons (sep x y : Str) (r : List Str) : Txt.join sep (x :: y :: r) = x ++ sep ++ Txt.join sep (y :: r) := by
  show Builtin.Str.glued sep _ = _ ++ Builtin.Str.glued sep _
  rw [StrLaws.glued_eq_join, StrLaws.glued_eq_join]; rfl
theorem jn0 : ∀ xs : List Str, (Txt.join "" xs).cps.toList = (xs.map (·.cps.toList)).flatten
  | [] => by rw [jn_nil, cps_empty]; rfl
  | [x] => by rw [jn_one]; simp
  | x :: y :: r => by rw [jn_cons, cps_append, cps_append, jn0 (y :: r), cps_empty]; simp
theorem pieceF_cps (p : Str × Str) : (pieceF p).cps.toList = p.1.cps.toList ++ p.2.cps.toList := by
  unfold pieceF; rw [jn0]; simp
theorem lineF_cps (ps : List (Str × Str)) : (lineF ps).cps.toList = (ps.map fun p => p.1.cps.toList ++ p.2.cps.toList).flatten := by
  unfold lineF; rw [jn0, List.map_map]
  congr 1
  exact List.map_congr_left fun p _ => pieceF_cps p
theorem lineF_snoc (ps : List (Str × Str)) (c p : Str) : lineF (ps ++ [(c, p)]) = lineF ps ++ (c ++ p) := by
  apply str_ext
  rw [cps_append, cps_append, lineF_cps, lineF_cps]; simp
theorem lineF_nil : lineF [] = "" := by unfold lineF; exact jn_nil _
theorem str_assoc (a b c : Str) : a ++ b ++ c = a ++ (b ++ c) := by apply str_ext; simp [cps_append]
theorem empty_app (a : Str) : ("" : Str) ++ a = a := by apply str_ext; rw [cps_append, cps_empty]; rfl
theorem len_app (a b : Str) : (a ++ b).length = a.length + b.length := by rw [← len_cps, cps_append, List.length_append, len_cps, len_cps]
theorem szAt_app (ps qs : List (Str × Str)) (j : Nat) (h : j < ps.length) : szAt (ps ++ qs) j = szAt ps j := by
  unfold szAt; simp [List.getElem?_append_left h]
theorem preSum_congr {f g : Nat → Int} : ∀ n, (∀ j, j < n → f j = g j) → preSum f n = preSum g n
  | 0, _ => rfl
  | n + 1, h => by
    show preSum f n + f n = preSum g n + g n
    rw [preSum_congr n (fun j hj => h j (by omega)), h n (by omega)]
theorem tot_nil : tot [] = 0 := rfl
theorem tot_snoc (ps : List (Str × Str)) (c p : Str) : tot (ps ++ [(c, p)]) = tot ps + ((c.length : Int) + p.length) := by
  unfold tot
  rw [List.length_append]
  show preSum _ ps.length + szAt (ps ++ [(c, p)]) ps.length = _
  rw [preSum_congr (g := szAt ps) _ (fun j hj => szAt_app _ _ _ hj)]
  congr 1
  simp [szAt]
theorem snoc_ind {α : Type} {P : List α → Prop} (h0 : P []) (h1 : ∀ l x, P l → P (l ++ [x])) : ∀ l, P l := by
  intro l
  have : ∀ n (l : List α), l.length = n → P l := by
    intro n
    induction n with
    | zero => intro l hl; rw [List.length_eq_zero_iff.mp hl]; exact h0
    | succ n ih =>
      intro l hl
      have hne : l ≠ [] := by intro q; rw [q] at hl; simp at hl
      rw [← List.dropLast_concat_getLast hne]
      exact h1 _ _ (ih _ (by simp [hl]))
  exact this _ _ rfl
theorem len_lineF (ps : List (Str × Str)) : ((lineF ps).length : Int) = tot ps := by
  induction ps using snoc_ind with
  | h0 => rw [lineF_nil, tot_nil]; decide +kernel
  | h1 l x ih => rw [lineF_snoc, tot_snoc, len_app, len_app, ← ih]; push_cast; omega
theorem isspace_false {t : Str} {c : Nat} (hc : c ∈ t.cps.toList) (h : Unicode.isSpace c = false) : Txt.isspace t = false := by
  unfold Txt.isspace
  rw [Bool.and_eq_false_iff]
  right
  rw [← Bool.not_eq_true, Array.all_eq_true_iff_forall_mem]
  intro q
  rw [q c (by simpa using hc)] at h; cases h
theorem isspace_some {t : Str} (h : Txt.isspace t = false) (hne : t ≠ "") : ∃ c ∈ t.cps.toList, Unicode.isSpace c = false := by
  unfold Txt.isspace at h
  rw [Bool.and_eq_false_iff] at h
  rcases h with h | h
  · exfalso
    apply hne
    apply str_ext
    rw [cps_empty]
    have : t.cps.toList.length = 0 := by rw [len_cps]; simpa using h
    exact List.length_eq_zero_iff.mp this
  · rw [← Bool.not_eq_true, Array.all_eq_true_iff_forall_mem] at h
    obtain ⟨c, hc⟩ := Classical.not_forall.mp h
    have := Classical.not_imp.mp hc
    exact ⟨c, by simpa using this.1, by simpa using this.2⟩
theorem lineF_isspace {ps : List (Str × Str)} {c p : Str} (h : Txt.isspace p = false) (hne : p ≠ "") : Txt.isspace (lineF (ps ++ [(c, p)])) = false := by
  obtain ⟨x, hx, hs⟩ := isspace_some h hne
  refine isspace_false (c := x) ?_ hs
  rw [lineF_snoc, cps_append, cps_append]
  simp [hx]
end Mine
end
section
open PySem PySem.W PyProof.Rows PySem.Calls
set_option maxRecDepth 100000
set_option maxHeartbeats 2000000
set_option Elab.async false
namespace Mine
section
variable {w : World} {A : Around} {E : Value → Shared → Prop} {s : Shared} {a ad : Addr} {xs : Array Value} {ps : List (Str × Str)} {k : Int} {mg mb : Str → Option Value}
theorem acc_call {id n : String} {b : Builtin} {rest : List Value} {Q : Value → Shared → Prop} (X : (KN w.params).In s.heap) (C : Acc s.heap a ad xs ps k) (hp : plainId id = true) (hb : entryFor table id = some b)
    (hk : builtinKind id = some .method ∨ builtinKind id = some .slot) (hs : splitId id = some ("list", n)) (ha : argsOk id ⟨.ref a :: rest, []⟩)
    (h : wpAny (model pw w) A.in1 (b ⟨.ref a :: rest, []⟩) (fun fin s' => ∃ v, fin = .done (.ret v) ∧ Q v s') E s) : wpAny (model pw w) A (call (.builtin id) (.ref a :: rest)) Q E s := by
  obtain ⟨m, e1⟩ := C.obj
  have LI : Looks (model pw w) s.heap (isInstance (.ref a) (.type "list")) true := (acc_type e1).andThen (looks_mroIn X kn_islist)
  refine wpAny_call (codeAny_call_builtin hp hb ?_)
  have chk : ∀ {Q' : Unit → Shared → Prop}, Q' () s → wpAny (model pw w) A.in1 (checkBuiltinCall id ⟨.ref a :: rest, []⟩) Q' E s := by
    intro Q' hq
    rcases hk with hk | hk <;>
    · simp only [checkBuiltinCall, hk, hs]
      refine wpAny_bind (LI.here ?_)
      simp only [Bool.not_true, Bool.false_eq_true, if_false]
      cases hsig : Manifest.signature? id with
      | none => exact wpAny_pure hq
      | some sig =>
        simp only [argsOk, hsig] at ha
        have h2 : Bind.checkArgs id sig ⟨.ref a :: rest, []⟩ = pure () := ha
        show wpAny _ _ (Bind.checkArgs id sig ⟨.ref a :: rest, []⟩) _ _ _
        rw [h2]; exact wpAny_pure hq
  refine chk (wpAny_mono h (fun fin s' h' => ?_) fun _ _ e => e)
  obtain ⟨v, rfl, hq⟩ := h'
  exact hq
theorem same_upd {h : Heap} {a : Addr} {c : Value} {d : Option Addr} {xs : Array Value} {n : Nat} {sl : Array (Option Value)} (f : Array Value → Array Value) (e : h.get? a = some ⟨c, d, .seq xs n, sl⟩) :
    ∃ n', (h.update a (Obj.mapSeq f)).get? a = some ⟨c, d, .seq (f xs) n', sl⟩ := ⟨_, Heap.get?_update_self _ e rfl⟩
theorem Acc.set {f : Array Value → Array Value} {ps' : List (Str × Str)} (C : Acc s.heap a ad xs ps k) (hl : (f xs).size = ps'.length)
    (hi : ∀ j (hj : j < ps'.length), ∃ T u u', (f xs)[j]? = some (.ref T) ∧ s.heap.IsTuple T #[.str ps'[j].1 u, .str ps'[j].2 u']) : Acc (s.heap.update a (Obj.mapSeq f)) a ad (f xs) ps' k := by
  obtain ⟨n, e1⟩ := C.obj
  obtain ⟨x, y, z, e2⟩ := C.dict
  have sb := same_set (h := s.heap) (k := a) (f := Obj.mapSeq f)
  refine ⟨same_upd f e1, ⟨x, y, z, (sb.2 _ (ne_of_cls e2 e1 rfl)).trans e2⟩, hl, fun j hj => ?_⟩
  obtain ⟨T, u, u', e, o, eo, c, r⟩ := hi j hj
  exact ⟨T, u, u', e, o, (sb.2 _ (fun q => by rw [q, e1] at eo; cases eo; cases c)).trans eo, c, r⟩
theorem stepH_upd {W : List Addr} {h : Heap} {a : Addr} {f : Obj → Obj} (ha : a ∈ W) (hT : a ∉ Tabs) : StepH W h (h.update a f) := by
  have sb := same_set (h := h) (k := a) (f := f)
  refine ⟨fun b o hb _ e => (sb.2 b (fun q => hb (q ▸ ha))).trans e, fun t ht ps e o => ⟨#[], ?_, by rw [Array.append_empty]; exact o⟩⟩
  rw [Array.append_empty]
  exact (sb.2 t (fun q => hT (q ▸ ht))).trans e
theorem ap_entry : entryFor table "list.append" = some Builtin.«list.append» := entryFor_of_tree (by kernel_rfl)
theorem ap_args (a b : Value) : argsOk "list.append" ⟨[a, b], []⟩ := by unfold argsOk; kernel_rfl
theorem acc_append {T : Addr} {f p : Str} {u u' : Tok} {Q : Value → Shared → Prop} (X : (KN w.params).In s.heap) (C : Acc s.heap a ad xs ps k) (hn : ps.length ≤ 1000) (hT : s.heap.IsTuple T #[.str f u, .str p u'])
    (h : Acc (s.heap.update a (Obj.mapSeq (·.push (.ref T)))) a ad (xs.push (.ref T)) (ps ++ [(f, p)]) k → Q .none { s with heap := s.heap.update a (Obj.mapSeq (·.push (.ref T))) }) :
    wpAny (model pw w) A (call (.builtin "list.append") [.ref a, .ref T]) Q E s := by
  have hsz := C.len
  refine acc_call (n := "append") X C (by decide +kernel) ap_entry (.inl (by decide +kernel)) (by decide +kernel) (ap_args _ _) ?_
  obtain ⟨n, e1⟩ := C.obj
  show wpAny _ _ (Builtin.List.listUpdate (.ref a) (·.push (.ref T)) >>= fun _ => ret .none) _ _ _
  refine wpAny_bind (listUpdate_at e1 rfl ?_ (by rw [sizeLine_eq]; omega) (by rw [Array.size_push, sizeLine_eq]; omega))
  refine wpAny_pure ⟨_, rfl, h (C.set (f := (·.push (.ref T))) (by simp [hsz]) (fun j hj => ?_))⟩
  by_cases e : j < ps.length
  · obtain ⟨T', v, v', e', t'⟩ := C.items j e
    exact ⟨T', v, v', by rw [Array.getElem?_push, if_neg (by omega)]; exact e', by rw [List.getElem_append_left e]; exact t'⟩
  · have : j = ps.length := by simp at hj; omega
    subst this
    exact ⟨T, u, u', by rw [Array.getElem?_push, if_pos (by omega)], by simpa using hT⟩
theorem kn_append {P : Params} : findIn (KN P) (.ref 215) "append" = some (some (.builtin "list.append")) := by kernel_rfl
theorem kn_tappend {P : Params} : typeIn (KN P) (.builtin "list.append") = some (.type "method_descriptor") := by kernel_rfl
theorem m_push (P : Params) : FnAt' P 159 "push" "_Accumulator.push" (sub (stm 11) 1) [] 158 .none := ⟨by kernel_rfl, by kernel_rfl, by kernel_rfl, by kernel_rfl⟩
theorem push_spec {f p : Str} {u u' : Tok} {Q : Value → Shared → Prop} (X : Ctx0 w mg mb s.heap) (C : Acc s.heap a ad xs ps k) (hn : ps.length ≤ 1000) (r : NearR A 10 60)
    (hQ : ∀ s' xs', Step [a] s s' → Acc s'.heap a ad xs' (ps ++ [(f, p)]) k → Q .none s') : wpAny (model pw w) A (call (.ref 159) [.ref a, .str f u, .str p u']) Q E s := by
  have fm := m_push w.params
  have hb : ∀ x y z, bindArgs (fdM "push" "_Accumulator.push" (sub (stm 11) 1) [] (pmOf (obK 159 w.params)) (.ref 158) (ctOf (obK 159 w.params)) .none) ⟨[x, y, z], []⟩ = (pure [(("self" : Str), x), (("fws" : Str), y), (("string" : Str), z)] : Sem (List (Str × Value))) := fun x y z => by rfl
  refine call_fn r.room (fm.get X.K) fm.data X.G.nolimit (fm.crec X.K) rfl (BindsTo.of_eq (hb _ _ _)) (fun h₁ F => ?_)
  have G := X.G
  have X1 : Ctx0 w mg mb h₁ := X.step (.of_keep F.keep)
  have C1 := C.on X.T (fun b o _ e => F.keep b o e)
  have haT : a ∉ Tabs := let ⟨_, e⟩ := C.obj; tabs_cls X.T e rfl
  iterate 4 (walk1; (try dsimp only))
  refine acc_method X1.K C1 kn_append kn_tappend rfl (by decide) ?_
  refine cw ?_
  iterate 7 (walk1; (try dsimp only))
  refine wpAny_newTuple (items := [.str f u, .str p u']) ?_ (by simp [sizeLine])
  have k2 : KeepH h₁ (h₁.push { cls := .type "tuple", data := .seq #[.str f u, .str p u'] }) := fun b o e => Heap.get?_push_of_some _ e
  have X2 := X1.step (.of_keep k2)
  have C2 := C1.on X1.T (fun b o _ e => k2 b o e)
  (walk1; (try dsimp only))
  refine ⟨⟨_, .inr (.inl rfl), keeper_builtin⟩, ?_⟩
  refine acc_append (f := f) (p := p) (u := u) (u' := u') (s := { s with heap := h₁.push { cls := .type "tuple", data := .seq #[.str f u, .str p u'] }, toks := _ }) X2.K C2 hn ⟨_, Heap.get?_push_size _ rfl, rfl, 0, rfl⟩ (fun C3 => ?_)
  iterate 1 (walk1; (try dsimp only))
  refine hQ _ _ ⟨((StepH.of_keep F.keep).trans (.of_keep k2)).trans (stepH_upd (.head _) haT), rfl, id⟩ C3
end
end Mine
end
section
open PySem PySem.W PyProof.Rows PySem.Calls
set_option maxRecDepth 100000
set_option maxHeartbeats 0
set_option Elab.async false
namespace Mine
theorem mdg0 {w : World} {s : Shared} {a ad : Addr} {xs : Array Value} {n : Nat} {Q : Value → Shared → Prop} (KX : (KN w.params).In s.heap)
    (h1 : s.heap.get? a = some ⟨.ref 215, some ad, .seq xs n, #[]⟩)
    (hQ : ∀ h' tk I, KeepH s.heap h' → s.heap.get? I = none → h'.get? I = some { cls := .type "builtin_function_or_method", data := .fields #[.builtin "list.pop", .ref a] } → Q (.ref I) ⟨h', s.gens, s.drawn, tk, s.os⟩) :
    wpAny (model pw w) (BigA none) (call (.builtin "method_descriptor.__get__") [.builtin "list.pop", .ref a, .ref 215] []) Q NoE s := by
  x_run
theorem wdg0 {w : World} {s : Shared} {a ad : Addr} {xs : Array Value} {n : Nat} {Q : Value → Shared → Prop} (KX : (KN w.params).In s.heap)
    (h1 : s.heap.get? a = some ⟨.ref 215, some ad, .seq xs n, #[]⟩)
    (hQ : ∀ h' tk I, KeepH s.heap h' → s.heap.get? I = none → h'.get? I = some { cls := .type "method-wrapper", data := .fields #[.builtin "list.__len__", .ref a] } → Q (.ref I) ⟨h', s.gens, s.drawn, tk, s.os⟩) :
    wpAny (model pw w) (BigA none) (call (.builtin "wrapper_descriptor.__get__") [.builtin "list.__len__", .ref a, .ref 215] []) Q NoE s := by
  x_run
theorem wdi0 {w : World} {s : Shared} {a ad : Addr} {xs : Array Value} {n : Nat} {Q : Value → Shared → Prop} (KX : (KN w.params).In s.heap)
    (h1 : s.heap.get? a = some ⟨.ref 215, some ad, .seq xs n, #[]⟩)
    (hQ : ∀ h' tk I, KeepH s.heap h' → s.heap.get? I = none → h'.get? I = some { cls := .type "method-wrapper", data := .fields #[.builtin "list.__init__", .ref a] } → Q (.ref I) ⟨h', s.gens, s.drawn, tk, s.os⟩) :
    wpAny (model pw w) (BigA none) (call (.builtin "wrapper_descriptor.__get__") [.builtin "list.__init__", .ref a, .ref 215] []) Q NoE s := by
  x_run
theorem mwl0 {w : World} {s : Shared} {a ad m : Addr} {xs : Array Value} {n : Nat} {Q : Value → Shared → Prop} (KX : (KN w.params).In s.heap) (hz : xs.size ≤ 1000)
    (h1 : s.heap.get? a = some ⟨.ref 215, some ad, .seq xs n, #[]⟩) (h2 : s.heap.get? m = some ⟨.type "method-wrapper", none, .fields #[.builtin "list.__len__", .ref a], #[]⟩)
    (hQ : ∀ t tk, Q (.int xs.size t) ⟨s.heap, s.gens, s.drawn, tk, s.os⟩) :
    wpAny (model pw w) (BigA none) (call (.ref m) [] []) Q NoE s := by
  x_run
end Mine
end
section
open PySem PySem.W PyProof.Rows PySem.Calls
set_option maxRecDepth 100000
set_option maxHeartbeats 2000000
set_option Elab.async false
namespace Mine
theorem kn_mro {P : Params} {M : Model} {h : Heap} (Z : (KN P).In h) (hM : M.w.params = P) : Looks M h (mroOf (.ref 215)) [.ref 215, .type "list", .type "object"] := by
  subst hM; exact Looks.of_peek Z (by kernel_rfl)
theorem kn_noop {P : Params} {M : Model} {h : Heap} (Z : (KN P).In h) (hM : M.w.params = P) : Looks M h (opaqueClassAbove (.ref 215)) none := by
  subst hM; exact Looks.of_peek Z (by kernel_rfl)
section
variable {w : World} {A : Around} {E : Value → Shared → Prop} {h : Heap} {g : Array GenState} {d : Drawn} {t : Nat} {os : OsState} {so a : Addr} {id gid T : String} {name : Str}
noncomputable abbrev supObj (a : Addr) : Obj := { cls := .type "super", dict := none, data := .fields #[.ref 215, .ref a, .ref 215], slots := #[] }
theorem sup_ga {tk : Tok} {Q : PySem.Fin → Shared → Prop} (hso : h.get? so = some (supObj a)) (X : (KN w.params).In h)
    (hf : alongIn (KN w.params) name [.type "list", .type "object"] = some (some (.builtin id))) (hT : typeOf (.builtin id) = pure (.type T)) (hg : typeLookup (.type T) "__get__" = pure (some (.builtin gid))) (ha : a ≠ 215)
    (hn : (name == ("__class__" : Str)) = false) (hq : wpAny (model pw w) A (call (.builtin gid) [.builtin id, .ref a, .ref 215]) (fun v s' => Q (.done (.ret v)) s') E ⟨h, g, d, t, os⟩) :
    wpAny (model pw w) A (Builtin.«super.__getattribute__» ⟨[.ref so, .str name tk], []⟩) Q E ⟨h, g, d, t, os⟩ := by
  have hne : (Value.ref a == Value.ref 215) = false := by simp [ha]
  have hdt : (supObj a).data = .fields #[.ref 215, .ref a, .ref 215] := rfl
  have f0 : (#[.ref 215, .ref a, .ref 215] : Array Value)[0]? = some (.ref 215) := rfl
  have f1 : (#[.ref 215, .ref a, .ref 215] : Array Value)[1]? = some (.ref a) := rfl
  have f2 : (#[.ref 215, .ref a, .ref 215] : Array Value)[2]? = some (.ref 215) := rfl
  have hC := kn_mro (M := model pw w) X rfl
  have hno := kn_noop (M := model pw w) X rfl
  have hl : (([.ref 215, .type "list", .type "object"] : List Value).dropWhile (· != .ref 215)).drop 1 = [.type "list", .type "object"] := by decide
  unfold Builtin.«super.__getattribute__»
  iterate 16 (first
    | (with_reducible refine wpAny_field hso hdt f0 ?_) | (with_reducible refine wpAny_field hso hdt f1 ?_) | (with_reducible refine wpAny_field hso hdt f2 ?_)
    | ((with_reducible show wpAny _ _ (notOfAnOpaqueClass _ _ _) _ _ _); refine PySem.ks_wpAny_notOpaque hno ?_)
    | (with_reducible refine Looks.at hC ?_; rw [hl])
    | (refine PySem.ks_forIn_along X (fun _ _ => rfl) rfl ?_ hf)
    | (rw [hT]; dsimp only)
    | (rw [hg]; dsimp only)
    | (simp only [hn, hne, Bool.or_false, Bool.false_eq_true, if_false])
    | wp_step
    | dsimp only)
  rw [if_neg (by decide)]
  refine wpAny_bind (PySem.ks_wpAny_notOpaque hno ?_)
  rw [if_neg (by decide)]
  refine wpAny_bind (Looks.at hC ?_)
  rw [hl]
  refine wpAny_bind (PySem.ks_forIn_along X (fun _ _ => rfl) rfl ?_ hf)
  dsimp only
  rw [hT]
  refine wpAny_bind (wpAny_pure ?_)
  rw [hg]
  refine wpAny_bind (wpAny_pure ?_)
  dsimp only
  refine wpAny_bind (wpAny_holding (wpAny_mono hq (fun v s' hv => ?_) fun _ _ e => e))
  exact wpAny_bind (wpAny_pure (wpAny_pure (wpAny_pure hv)))
theorem sup_method {pl : Sem Bool} {Q : Value × List Value → Shared → Prop} (hso : h.get? so = some (supObj a)) (X : (KN w.params).In h)
    (hf : alongIn (KN w.params) name [.type "list", .type "object"] = some (some (.builtin id))) (hT : typeOf (.builtin id) = pure (.type T)) (hg : typeLookup (.type T) "__get__" = pure (some (.builtin gid))) (ha : a ≠ 215)
    (hn : (name == ("__class__" : Str)) = false) (hq : wpAny (model pw w) A.in1 (call (.builtin gid) [.builtin id, .ref a, .ref 215]) (fun v s' => handedIn v = true ∧ Q (v, []) s') NoE ⟨h, g, d, t + 1, os⟩) :
    wpAny (model pw w) A (getMethod (.ref so) name pl) Q E ⟨h, g, d, t, os⟩ := by
  have hlk := PySem.F.ks_slot_super_ga.lookup
  have hTs : ∀ t', (⟨h, g, d, t', os⟩ : Shared).TypeIs (.ref so) "super" := fun _ => ⟨_, hso, rfl⟩
  unfold getMethod
  refine wpAny_bind (wpAny_specialOf (hTs _) hlk ?_)
  show wpAny _ _ (if (Manifest.canonical "super.__getattribute__" != "object.__getattribute__") = true then _ else _) _ _ _
  rw [if_pos PySem.F.ks_canon_super_ga]
  unfold getAttr getAttrBy
  refine wpAny_bind (wpAny_bind (wpAny_mkText (wpAny_holding (wpAny_bind (wpAny_typeOf (hTs _) (wpAny_bind (wpAny_of_eq hlk ?_)))))))
  show wpAny _ _ (getAttrByItsOwn (.ref so) (.str name t) (.type "super") (.builtin "super.__getattribute__") true false) _ _ _
  unfold getAttrByItsOwn hookBefore callGetattribute boundAndCalled
  refine wpAny_bind (wpAny_of_eq (show (if onTheHeap (.type "super") then typeLookup (.type "super") "__getattr__" else pure none) = pure none from rfl) ?_)
  refine wpAny_bind (wpAny_attempt (wpAny_holding ?_))
  show wpAny _ _ (bindSpecial (.builtin "super.__getattribute__") (.ref so) >>= _) _ _ _
  refine wpAny_bind (wpAny_of_eq (PySem.F.ks_slot_super_ga.bind _) ?_)
  refine wpAny_mono (Q := fun v s' => handedIn v = true ∧ Q (v, []) s') (E := fun _ _ => False)
    (wpAny_call_entry PySem.F.ks_slot_super_ga (hTs _) PySem.F.ks_entry_super_ga (sup_ga hso X hf hT hg ha hn (wpAny_mono hq (fun v s' hv => ⟨_, rfl, hv⟩) fun _ _ e => e)) (PySem.F.ks_gaArgs_super _ _)) (fun v s' hv => ?_) fun _ _ z => z.elim
  obtain ⟨h1, h2⟩ := hv
  show wpAny _ _ (handedOut v) _ _ _
  rw [handedOut_of h1]
  exact wpAny_pure (wpAny_pure h2)
end
end Mine
end
section
open PySem PySem.W PyProof.Rows PySem.Calls
set_option maxRecDepth 100000
set_option maxHeartbeats 2000000
set_option Elab.async false
namespace Mine
section
variable {prog : Program} {w : World} {A : Around} {E : Value → Shared → Prop} {s : Shared}
theorem call_fnAt {a : Addr} {o : Obj} {fd : FuncData} {body : List Stmt} {args : List Value} {kw : List (Str × Value)} {binds : List (Str × Value)} {Q : Value → Shared → Prop} {d u : Nat}
    (r : Room A d u) (ho : s.heap.get? a = some o) (hdata : o.data = .func fd) (hlim : s.heap.NoLimit) (hcd : s.heap.CodeRec fd.code fd.qualname)
    (hbody : fd.body = .stmts body) (hbind : BindsTo s fd ⟨args, kw⟩ binds)
    (h : ∀ h₁, Fr s.heap s.heap.objs.size h₁ (fun x => binds.reverse.lookup x) →
      PySem.wpAt (model prog w) (A.deeper (callEnv fd s.heap.objs.size a)) (.func body (callEnv fd s.heap.objs.size a)) (execs body (callEnv fd s.heap.objs.size a)) (fun f s' => Q (match f with | .ret v => v | _ => .none) s') NoE
        { s with heap := h₁, toks := s.toks + binds.length })
    (hcell : (fd.scope.names.all fun x => x.2 != .cell) = true := by rfl) (hloc : (binds.all fun x => fd.scope.names.lookup x.1 == some .local) = true := by rfl)
    (hco : fd.scope.isCoroutine = false := by rfl) (hgen : fd.scope.isGenerator = false := by rfl) (hk : fd.scope.kind = .function := by rfl) :
    wpAny (model prog w) A (call (.ref a) args kw) Q E s :=
  wpAny_call (PySem.ks_codeAny_call_defAt r.d ho hdata hlim hcd hbody hbind (fun x hx => by have := List.all_eq_true.mp hcell x hx; simpa using this) (fun x hx => by have := List.all_eq_true.mp hloc x hx; simpa using this)
    (fun h₁ hn hk => PySem.wpAt_mono (h h₁ ⟨hn, hk, Nat.le_refl _⟩) (fun _ _ q => q) fun _ _ x => x.elim) hco hgen hk)
theorem keeper_mw {M : Model} {h : Heap} {a : Addr} {o : Obj} {vs : Array Value} (e : h.get? a = some o) (c : o.cls = .type "method-wrapper") (d : o.data = .fields vs) : Looks M h (keeperOf (.ref a)) .machine := by
  refine (Looks.ld (part := none) e).andThen ?_
  rw [d]
  show Looks M h (if o.cls != .type "method" then _ else _) _
  rw [c, if_pos (by decide +kernel), if_pos (by decide +kernel)]
  exact .now
end
noncomputable def clsOf (o : Obj) : ClassData := match o.data with | .cls c => c | _ => default
theorem kn_len {P : Params} : alongIn (KN P) "__len__" [.type "list", .type "object"] = some (some (.builtin "list.__len__")) := by kernel_rfl
theorem kn_pop {P : Params} : alongIn (KN P) "pop" [.type "list", .type "object"] = some (some (.builtin "list.pop")) := by kernel_rfl
theorem ty_len : typeOf (.builtin "list.__len__") = pure (.type "wrapper_descriptor") := by show builtinType _ = _; rw [builtinType_eq_fast]; kernel_rfl
theorem ty_pop : typeOf (.builtin "list.pop") = pure (.type "method_descriptor") := by show builtinType _ = _; rw [builtinType_eq_fast]; kernel_rfl
theorem gt_wd : typeLookup (.type "wrapper_descriptor") "__get__" = pure (some (.builtin "wrapper_descriptor.__get__")) := by rw [typeLookup_type, builtinLookup_eq_fast]; kernel_rfl
theorem gt_md : typeLookup (.type "method_descriptor") "__get__" = pure (some (.builtin "method_descriptor.__get__")) := by rw [typeLookup_type, builtinLookup_eq_fast]; kernel_rfl
theorem m_pc (P : Params) : FnAt' P 212 "part_count" "_Accumulator.part_count" (sub (stm 11) 8) [("__class__", 139)] 211 .none := ⟨by kernel_rfl, by kernel_rfl, by kernel_rfl, by kernel_rfl⟩
theorem kn_issub {P : Params} : mroIn (KN P) 215 (.ref 215) = some true := by kernel_rfl
section
variable {w : World} {A : Around} {E : Value → Shared → Prop} {s : Shared} {a ad : Addr} {xs : Array Value} {ps : List (Str × Str)} {k : Int} {mg mb : Str → Option Value}
theorem acc_ne {h : Heap} (Z : (KN w.params).In h) (C : Acc h a ad xs ps k) : a ≠ 215 := fun e => by
  obtain ⟨n, e'⟩ := C.obj
  have := Z 215 _ (show (KN w.params).lookup 215 = some (obK 215 w.params) by kernel_rfl)
  rw [e, this] at e'
  have q : ((obK 215 w.params).cls == .ref 215) = false := by kernel_rfl
  rw [Option.some.inj e'] at q
  simp at q
theorem sup_base {fd : FuncData} {f L : Addr} {body : List Stmt} {p0 p1 : Pos} {attr : Str} {whole : Sem Value} {Q : Value → Shared → Prop} (X : Ctx0 w mg mb s.heap) (C : Acc s.heap a ad xs ps k)
    (F : s.heap.Ns L (fun x => [(("self" : Str), Value.ref a)].reverse.lookup x))
    (hks : (callEnv fd L f).kindOf "super" = some .globalImplicit) (hkc : (callEnv fd L f).kindOf "__class__" = some .free) (hkl : (callEnv fd L f).kindOf "self" = some .local) (hk : fd.scope.kind = .function) (hcl : fd.closure.lookup ("__class__" : Str) = some 139) (hat : (attr == ("__class__" : Str)) = false)
    (hf : s.heap.get? f = some (obK f w.params)) (hfd : (obK f w.params).data = .func fd) (hp : (fd.params.posonlyargs ++ fd.params.args).head?.map (·.arg) = some "self") (hgl : fd.globals = mainGlobals) (hbi : fd.builtins = builtinsNs)
    {cc : Addr} {vs : Array Value} {file : Str} {tf : Tok} (hco : fd.code = .ref cc) (hcc : s.heap.get? cc = some (obK cc w.params)) (hoc : (obK cc w.params).data = .fields vs) (hvs : vs[2]? = some (.str file tf)) (hfile : ((pw.main.file : Str) == file) = true)
    (h : ∀ h' so, KeepH s.heap h' → s.heap.get? so = none → h'.get? so = some (supObj a) → Q (.ref so) { s with heap := h' }) :
    PySem.wpAt (model pw w) A (.func body (callEnv fd L f)) (attributeBase (.Call (.Name "super" p0) [] [] p1) attr (callEnv fd L f) whole) Q E s := by
  obtain ⟨ar, har, harg⟩ := Option.map_eq_some_iff.mp hp
  have hC : s.heap.get? 215 = some (obK 215 w.params) := X.K _ _ (by kernel_rfl)
  have hcd : (obK 215 w.params).data = .cls (clsOf (obK 215 w.params)) := by kernel_rfl
  have hcell : s.heap.get? 139 = some (obK 139 w.params) := X.K _ _ (by kernel_rfl)
  have hcv : (obK 139 w.params).data = .cell (some (.ref 215)) := by kernel_rfl
  refine PySem.ks_wpAt_super_base hks hkc hat rfl hf hfd har hco hcc hoc hvs hfile (by kernel_rfl) ?_
  refine PySem.W.ks_loadName_global hk hks ?_
  have hg : s.heap.Ns (callEnv fd L f).globals mg := by show s.heap.Ns fd.globals mg; rw [hgl]; exact X.G.g
  have hbn : s.heap.Ns (callEnv fd L f).builtins mb := by show s.heap.Ns fd.builtins mb; rw [hbi]; exact X.G.b
  refine loadGlobal_builtin hg (X.G.names.free _ (by simp)) hbn (X.G.bi "super" _ (by decide) b_super) ⟨rfl, ?_⟩
  refine wpAny_loadName_free (c := 139) hk hkc hcl ⟨_, hcell, hcv⟩ ?_
  rw [harg]
  refine wpAny_loadName_local hk hkl F rfl ?_
  obtain ⟨n, e1⟩ := C.obj
  obtain ⟨hh, g, d, t, os⟩ := s
  refine PySem.ks_wpAny_isType_cls hC hcd ⟨rfl, ?_⟩
  refine PySem.ks_wpAny_call_super hC hcd e1 rfl (fun c e => by cases e) (looks_mroIn X.K kn_issub) (fun h' e k' => ?_)
  exact h h' _ k' (Heap.get?_none_of_le (Nat.le_refl _)) e
theorem pw_file : ((pw.main.file : Str) == ("/claim/cut.py" : Str)) = true := by kernel_rfl
theorem pc_spec {Q : Value → Shared → Prop} (X : Ctx0 w mg mb s.heap) (C : Acc s.heap a ad xs ps k) (hn : ps.length ≤ 1000) (r : NearR A 10 60)
    (hQ : ∀ s' u, Step [] s s' → Q (.int ps.length u) s') : wpAny (model pw w) A (call (.ref 212) [.ref a]) Q E s := by
  have fm := m_pc w.params
  have hb : ∀ x, bindArgs (fdM "part_count" "_Accumulator.part_count" (sub (stm 11) 8) [("__class__", 139)] (pmOf (obK 212 w.params)) (.ref 211) (ctOf (obK 212 w.params)) .none) ⟨[x], []⟩ = (pure [(("self" : Str), x)] : Sem (List (Str × Value))) := fun x => by rfl
  refine call_fnAt r.room (fm.get X.K) fm.data X.G.nolimit (fm.crec X.K) rfl (BindsTo.of_eq (hb _)) (fun h₁ F => ?_)
  have X1 : Ctx0 w mg mb h₁ := X.step (.of_keep F.keep)
  have C1 := C.on X.T (fun b o _ e => F.keep b o e)
  have hcc : h₁.get? 211 = some (obK 211 w.params) := X1.K _ _ fm.code
  refine PySem.ks_wpAt_execs_cons ?_
  refine PySem.ks_wpAt_Return_some ?_
  refine PySem.ks_wpAt_MethodCall ?_
  refine sup_base (s := { s with heap := h₁, toks := _ }) X1 C1 F.ns rfl rfl rfl rfl rfl (by decide) (fm.get X1.K) fm.data rfl rfl rfl (cc := 211) (vs := (match (obK 211 w.params).data with | .fields vs => vs | _ => #[])) (file := "/claim/cut.py") (tf := tokOf (fld (obK 211 w.params) 2)) rfl hcc (by kernel_rfl) (by kernel_rfl) pw_file (fun h₂ so k₂ n₂ e₂ => ?_)
  have X2 : Ctx0 w mg mb h₂ := X1.step (.of_keep k₂)
  have C2 := C1.on X1.T (fun b o _ e => k₂ b o e)
  obtain ⟨n, o2⟩ := C2.obj
  refine sup_method e₂ X2.K kn_len ty_len gt_wd (acc_ne X2.K C2) (by decide) ?_
  refine wpAny_big (l := none) (r.deeper (d := 9) (u := 57) _).in1.near (fun _ e => by cases e) (wdg0 (s := { s with heap := h₂, toks := _ }) X2.K o2 (fun h₃ tk₃ m k₃ n₃ e₃ => ⟨rfl, ?_⟩))
  have X3 : Ctx0 w mg mb h₃ := X2.step (.of_keep k₃)
  refine cw0 ⟨_, .inr (.inl rfl), keeper_mw e₃ rfl rfl⟩ ?_
  refine wpAny_big (l := none) (r.deeper (d := 9) (u := 57) _).near (fun _ e => by cases e) (mwl0 (s := { s with heap := h₃, toks := _ }) X3.K (by rw [C.len]; exact hn) (k₃ _ _ o2) e₃ (fun t tk => ?_))
  rw [C.len]
  exact hQ _ _ ⟨.of_keep fun b o e => k₃ _ _ (k₂ _ _ (F.keep _ _ e)), rfl, id⟩
end
end Mine
end
section
open PySem PySem.W PyProof.Rows PySem.Calls
set_option maxRecDepth 100000
set_option maxHeartbeats 2000000
set_option Elab.async false
namespace Mine
theorem pop_entry : entryFor table "list.pop" = some Builtin.«list.pop» := entryFor_of_tree (by kernel_rfl)
theorem pop_plain : plainId "list.pop" = true := by decide +kernel
theorem pop_kind : builtinKind "list.pop" = some .method := by decide +kernel
theorem pop_vara : Manifest.varargsMethods.contains "list.pop" = false := by decide +kernel
theorem pop_sig : ∃ sig, Manifest.signature? "list.pop" = some sig ∧ ∀ a, Bind.checkArgs "list.pop" { sig with full := s!"{("_Accumulator" : Str).toString}.{Bind.lastOf "list.pop"}" } ⟨[a], []⟩ = pure () := by
  have key : ∀ a, (match Manifest.signature? "list.pop" with | some sig => Bind.checkArgs "list.pop" { sig with full := s!"{("_Accumulator" : Str).toString}.{Bind.lastOf "list.pop"}" } ⟨[a], []⟩ | none => unsupported "") = pure () := by
    intro a; kernel_rfl
  cases h : Manifest.signature? "list.pop" with
  | none => have := key .none; rw [h] at this; cases this
  | some sig => exact ⟨sig, rfl, fun a => by have := key a; rw [h] at this; exact this⟩
theorem kn_nomod {P : Params} : mroIn (KN P) 215 (.type "module") = some false := by kernel_rfl
section
variable {w : World} {A : Around} {E : Value → Shared → Prop} {s : Shared} {a ad : Addr} {xs : Array Value} {ps : List (Str × Str)} {k : Int} {mg mb : Str → Option Value}
theorem acc_isType {M : Model} {h : Heap} {n : Nat} (e : h.get? a = some ⟨.ref 215, some ad, .seq xs n, #[]⟩) : Looks M h (isType (.ref a)) false := by
  unfold isType
  refine (Looks.ld (part := none) e).andThen ?_
  exact .now
theorem pop_bound {m : Addr} {f p : Str} {Q : Value → Shared → Prop} (X : (KN w.params).In s.heap) (C : Acc s.heap a ad xs (ps ++ [(f, p)]) k) (hn : ps.length ≤ 1000)
    (hm : s.heap.get? m = some { cls := .type "builtin_function_or_method", data := .fields #[.builtin "list.pop", .ref a] })
    (h : ∀ T xs' h', StepH [a] s.heap h' → Acc h' a ad xs' ps k → (∃ u u', h'.IsTuple T #[.str f u, .str p u']) → Q (.ref T) { s with heap := h' }) (haT : a ∉ Tabs) :
    wpAny (model pw w) A (call (.ref m) []) Q E s := by
  obtain ⟨sig, hsig, hck⟩ := pop_sig
  obtain ⟨n, e1⟩ := C.obj
  refine call_boundobj hm rfl rfl pop_plain pop_entry ?_
  have chk : ∀ {Q' : Unit → Shared → Prop}, Q' () s → wpAny (model pw w) A.in1 (checkBoundCall "list.pop" ⟨[.ref a], []⟩) Q' E s := by
    intro Q' hq
    unfold checkBoundCall
    rw [hsig, pop_kind]
    dsimp only
    rw [if_neg (by decide)]
    have LM : Looks (model pw w) s.heap (isInstance (.ref a) (.type "module")) false := (acc_type e1).andThen (looks_mroIn X kn_nomod)
    refine wpAny_bind (LM.here ?_)
    rw [pop_vara, if_neg (by decide)]
    refine wpAny_bind ((acc_isType e1).here ?_)
    rw [if_neg (by decide)]
    refine wpAny_bind ((acc_type e1).here ?_)
    dsimp only
    have hC : s.heap.get? 215 = some (obK 215 w.params) := X _ _ (by kernel_rfl)
    have LC : Looks (model pw w) s.heap (classData 215) (clsOf (obK 215 w.params)) := (Looks.ld (part := none) hC).andThen .now
    have LT : Looks (model pw w) s.heap (typeOf (.ref 215)) (.type "type") := (Looks.ld (part := none) hC).andThen .now
    refine wpAny_bind (LC.here ?_)
    refine wpAny_bind (LT.here ?_)
    rw [if_pos (by decide)]
    have hcc : (clsOf (obK 215 w.params)).qualname = "_Accumulator" := by kernel_rfl
    rw [hcc]
    refine wpAny_of_eq (hck _) ?_
    exact hq
  refine chk ?_
  unfold Builtin.«list.pop»
  have hsz := C.len
  obtain ⟨T, u, u', hx, hT⟩ := C.items ps.length (by simp)
  have hx' : xs.size = ps.length + 1 := by rw [hsz]; simp
  have hi : (seqIndex? (-1) xs.size) = some ps.length := by
    rw [hx']; unfold seqIndex?; simp; try omega
  show wpAny _ _ (Builtin.List.listItems (.ref a) >>= _) _ _ _
  refine wpAny_bind (listItems_at e1 rfl ?_)
  have he : ¬ xs.isEmpty = true := fun q => by
    rw [Array.isEmpty_iff_size_eq_zero] at q; omega
  have hee : xs.eraseIdxIfInBounds ps.length = xs.pop := by
    apply Array.ext_getElem?
    intro i
    unfold Array.eraseIdxIfInBounds
    rw [dif_pos (by omega), Array.getElem?_eraseIdx, Array.getElem?_pop]
    by_cases hlt : i < ps.length
    · rw [if_pos hlt, if_pos (by omega)]
    · rw [if_neg hlt, if_neg (by omega), Array.getElem?_eq_none (by omega)]
  rw [if_neg he]
  rw [hi]
  simp only [Option.bind_some, hx, Option.map_some]
  refine wpAny_bind (listUpdate_at e1 rfl ?_ (by rw [sizeLine_eq]; omega) (by rw [sizeLine_eq]; show (xs.eraseIdxIfInBounds ps.length).size ≤ _; rw [hee, Array.size_pop]; omega))
  refine wpAny_pure ?_
  refine h T (xs.eraseIdxIfInBounds ps.length) _ (stepH_upd (.head _) haT) (C.set (f := (·.eraseIdxIfInBounds ps.length)) (by simp [hee, hx']) (fun j hj => ?_)) ⟨u, u', tup_on (by simpa using hT) fun o e => ?_⟩
  rotate_left
  · have sb := same_set (h := s.heap) (k := a) (f := Obj.mapSeq (·.eraseIdxIfInBounds ps.length))
    obtain ⟨o', eo, ct, _⟩ := hT
    refine (sb.2 T (fun q => ?_)).trans e
    rw [q, e1] at eo; cases eo; cases ct
  obtain ⟨T', v, v', e', t'⟩ := C.items j (by simp; omega)
  refine ⟨T', v, v', ?_, ?_⟩
  · show (xs.eraseIdxIfInBounds ps.length)[j]? = _
    rw [hee, Array.getElem?_pop, if_pos (by omega)]; exact e'
  · rw [List.getElem_append_left hj] at t'; exact t'
end
end Mine
end
section
open PySem PySem.W PyProof.Rows PySem.Calls
set_option maxRecDepth 100000
set_option maxHeartbeats 2000000
set_option Elab.async false
namespace Mine
theorem m_pop (P : Params) : FnAt' P 175 "pop" "_Accumulator.pop" (sub (stm 11) 3) [("__class__", 139)] 174 .none := ⟨by kernel_rfl, by kernel_rfl, by kernel_rfl, by kernel_rfl⟩
theorem kn_pc {P : Params} : findIn (KN P) (.ref 215) "part_count" = some (some (.ref 212)) := by kernel_rfl
theorem kn_tpc {P : Params} : typeIn (KN P) (.ref 212) = some (.type "function") := by kernel_rfl
section
variable {w : World} {A : Around} {E : Value → Shared → Prop} {s : Shared} {a ad : Addr} {xs : Array Value} {ps : List (Str × Str)} {k : Int} {mg mb : Str → Option Value}
theorem ns_step {W : List Addr} {h h' : Heap} {L : Addr} {m : Str → Option Value} (F : h.Ns L m) (T : TabO h) (st : StepH W h h') (hW : L ∉ W) : h'.Ns L m := by
  obtain ⟨o, es, ep, ho, hd, r⟩ := F
  refine ⟨o, es, ep, st.keep _ _ hW (fun q => ?_) ho, hd, r⟩
  obtain ⟨ps, e, _⟩ := T _ q
  rw [e] at ho; cases ho; cases hd
theorem pop_spec {f p : Str} {Q : Value → Shared → Prop} (X : Ctx0 w mg mb s.heap) (C : Acc s.heap a ad xs (ps ++ [(f, p)]) k) (hn : ps.length ≤ 900) (r : NearR A 30 80)
    (hQ : ∀ s' T xs' u u', Step [a] s s' → Acc s'.heap a ad xs' ps k → s'.heap.IsTuple T #[.str f u, .str p u'] → Q (.ref T) s') : wpAny (model pw w) A (call (.ref 175) [.ref a]) Q E s := by
  have fm := m_pop w.params
  have hb : ∀ x, bindArgs (fdM "pop" "_Accumulator.pop" (sub (stm 11) 3) [("__class__", 139)] (pmOf (obK 175 w.params)) (.ref 174) (ctOf (obK 175 w.params)) .none) ⟨[x], []⟩ = (pure [(("self" : Str), x)] : Sem (List (Str × Value))) := fun x => by rfl
  have haT : a ∉ Tabs := let ⟨_, e⟩ := C.obj; tabs_cls X.T e rfl
  refine call_fnAt r.room (fm.get X.K) fm.data X.G.nolimit (fm.crec X.K) rfl (BindsTo.of_eq (hb _)) (fun h₁ F => ?_)
  have G := X.G
  have X1 : Ctx0 w mg mb h₁ := X.step (.of_keep F.keep)
  have C1 := C.on X.T (fun b o _ e => F.keep b o e)
  refine PySem.ks_wpAt_execs_cons ?_
  refine PySem.ks_wpAt_If (PySem.wpAt_of_wpAny ?_)
  iterate 3 (walk1; (try dsimp only))
  refine acc_method X1.K C1 kn_pc kn_tpc rfl (by decide) ?_
  refine cw0 ⟨_, .inl rfl, keeper_fn ((m_pc w.params).get X1.K) (m_pc w.params).data⟩ ?_
  refine pc_spec (s := { s with heap := h₁, toks := _ }) X1 C1 (by simp; omega) ((r.deeper (d := 29) (u := 77) _).less (by omega) (by omega)) (fun s₂ u₂ st₂ => ?_)
  obtain ⟨h₂, g₂, d₂, t₂, o₂⟩ := s₂
  have X2 : Ctx0 w mg mb h₂ := X1.step st₂.heap
  have F2 : h₂.Ns s.heap.objs.size (fun x => [(("self" : Str), Value.ref a)].reverse.lookup x) := ns_step F.ns X1.T st₂.heap (by simp)
  have C2 := C1.on X1.T (fun b o ht e => st₂.heap.keep b o (by simp) ht e)
  iterate 3 (walk1; (try dsimp only))
  rw [show ((↑(ps ++ [(f, p)]).length : Int) == 0) = false by simp; omega]
  iterate 3 (walk1; (try dsimp only))
  refine PySem.ks_wpAt_execs_cons ?_
  refine PySem.ks_wpAt_Return_some ?_
  refine PySem.ks_wpAt_MethodCall ?_
  refine sup_base (attr := "pop") (s := ⟨h₂, g₂, d₂, _, o₂⟩) X2 C2 F2 rfl rfl rfl rfl rfl (by decide) (fm.get X2.K) fm.data rfl rfl rfl (cc := 174) (vs := (match (obK 174 w.params).data with | .fields vs => vs | _ => #[])) (file := "/claim/cut.py") (tf := tokOf (fld (obK 174 w.params) 2)) rfl (X2.K _ _ fm.code) (by kernel_rfl) (by kernel_rfl) pw_file (fun h₃ so k₃ n₃ e₃ => ?_)
  have X3 : Ctx0 w mg mb h₃ := X2.step (.of_keep k₃)
  have C3 := C2.on X2.T (fun b o _ e => k₃ b o e)
  obtain ⟨n, o3⟩ := C3.obj
  refine sup_method e₃ X3.K kn_pop ty_pop gt_md (acc_ne X3.K C3) (by decide) ?_
  refine wpAny_big (l := none) (r.deeper (d := 29) (u := 77) _).in1.near (fun _ e => by cases e) (mdg0 (s := ⟨h₃, g₂, d₂, _, o₂⟩) X3.K o3 (fun h₄ tk₄ m k₄ n₄ e₄ => ⟨rfl, ?_⟩))
  have X4 : Ctx0 w mg mb h₄ := X3.step (.of_keep k₄)
  have C4 := C3.on X3.T (fun b o _ e => k₄ b o e)
  refine cw0 ⟨_, .inr (.inl rfl), keeper_bound e₄ rfl rfl⟩ ?_
  refine pop_bound (s := ⟨h₄, g₂, d₂, tk₄, o₂⟩) X4.K C4 (by omega) e₄ (fun T xs' h₅ st₅ C5 t₅ => ?_) haT
  obtain ⟨u, u', t₅⟩ := t₅
  exact hQ _ _ _ _ _ ⟨((((StepH.of_keep F.keep).trans st₂.heap).trans (.of_keep fun b o e => k₄ _ _ (k₃ _ _ e))).mono (by simp)).trans st₅, by rw [← st₂.os], fun e => st₂.gens e⟩ C5 t₅
end
end Mine
end
section
open PySem PySem.W PyProof.Rows PySem.Calls
set_option maxRecDepth 100000
set_option maxHeartbeats 2000000
set_option Elab.async false
namespace Mine
theorem lsi_bind (self : Value) : bindSpecial (.builtin "list.__setitem__") self = pure (.builtin "list.__setitem__", [self]) :=
  (Slot.of (T := "list") (name := "__setitem__") (owner := "list") (n := "__setitem__") (by rw [typeLookup_type, builtinLookup_eq_fast]; kernel_rfl) (by decide +kernel) (by decide +kernel) (by decide +kernel)
    (by first | exact .inl (by decide +kernel) | exact .inr (by decide +kernel)) (by rw [isSubtype_type]; kernel_rfl)).bind self
theorem sl_noindex : typeLookup (.type "slice") "__index__" = pure none := by rw [typeLookup_type, builtinLookup_eq_fast]; kernel_rfl
theorem kn_setitem {P : Params} : findIn (KN P) (.ref 215) "__setitem__" = some (some (.builtin "list.__setitem__")) := by kernel_rfl
theorem kn_nodeque {P : Params} : mroIn (KN P) 215 (.type "collections.deque") = some false := by kernel_rfl
theorem lsi_entry : entryFor table "list.__setitem__" = some Builtin.«list.__setitem__» := entryFor_of_tree (by kernel_rfl)
theorem lsi_args (a b c : Value) : argsOk "list.__setitem__" ⟨[a, b, c], []⟩ := by unfold argsOk; kernel_rfl
section
variable {w : World} {A : Around} {E : Value → Shared → Prop} {s : Shared} {a ad : Addr} {xs : Array Value} {ps : List (Str × Str)} {k : Int} {mg mb : Str → Option Value}
theorem acc_clear {sl nl : Addr} {Q : Unit → Shared → Prop} (X : (KN w.params).In s.heap) (C : Acc s.heap a ad xs ps k) (hn : ps.length ≤ 1000)
    (hs : s.heap.get? sl = some { cls := .type "slice", data := .fields #[.none, .none, .none] }) (hl : s.heap.IsList nl #[])
    (h : ∀ f, f xs = #[] → Acc (s.heap.update a (Obj.mapSeq f)) a ad #[] [] k → Q () { s with heap := s.heap.update a (Obj.mapSeq f) }) :
    wpAny (model pw w) A (setItem (.ref a) (.ref sl) (.ref nl)) Q E s := by
  obtain ⟨n, e1⟩ := C.obj
  have hsz := C.len
  have L0 := acc_type (M := model pw w) e1
  have LS : Looks (model pw w) s.heap (specialOf (.ref a) "__setitem__") (some (.builtin "list.__setitem__")) := L0.andThen (looks_findIn X kn_setitem)
  obtain ⟨ol, el, cl, nn, dl⟩ := hl
  unfold setItem
  refine wpAny_holding ?_
  unfold sequenceKey
  refine wpAny_bind (wpAny_bind (L0.here ?_))
  dsimp only
  refine wpAny_bind ?_
  unfold seqItemTypes
  simp only [List.anyM]
  refine wpAny_bind ((looks_mroIn X kn_nodeque).here ?_)
  refine wpAny_pure ?_
  rw [if_pos (by decide)]
  refine wpAny_pure ?_
  unfold callSpecial?
  refine wpAny_bind (wpAny_bind (LS.here ?_))
  dsimp only
  refine wpAny_holding ?_
  rw [lsi_bind]
  refine wpAny_bind (wpAny_pure ?_)
  dsimp only
  refine wpAny_bind (acc_call (n := "__setitem__") X C (by decide +kernel) lsi_entry (.inr (by decide +kernel)) (by decide +kernel) (lsi_args _ _ _) ?_)
  unfold Builtin.«list.__setitem__»
  show wpAny _ _ (Builtin.List.listSubscript? (.ref sl) >>= _) _ _ _
  unfold Builtin.List.listSubscript?
  have ts : s.TypeIs (.ref sl) "slice" := ⟨_, hs, rfl⟩
  refine wpAny_bind (wpAny_bind (wpAny_specialOf ts sl_noindex ?_))
  refine wpAny_pure ?_
  dsimp only
  refine wpAny_bind (wpAny_typeOf ts ?_)
  rw [if_neg (by decide)]
  unfold Builtin.List.listSliceParts
  refine wpAny_bind ?_
  refine wpAny_bind (wpAny_field (x := .none) hs rfl rfl ?_)
  refine wpAny_bind (wpAny_pure ?_)
  rw [if_neg (by decide)]
  refine wpAny_bind (wpAny_field (x := .none) hs rfl rfl ?_)
  refine wpAny_bind (wpAny_pure ?_)
  refine wpAny_bind (wpAny_field (x := .none) hs rfl rfl ?_)
  refine wpAny_bind (wpAny_pure ?_)
  refine wpAny_pure ?_
  dsimp only
  have hne : nl ≠ a := fun q => by rw [q, e1] at el; cases el; cases cl
  have hsr : Builtin.List.listSameRef (.ref a) (.ref nl) = false := by
    show (a == nl) = false
    simp [Ne.symm hne]
  rw [if_neg (by rw [hsr]; decide)]
  have LL : Looks (model pw w) s.heap (typeOf (.ref nl)) (.type "list") := by rw [← cl]; exact (Looks.ld (part := none) el).andThen .now
  unfold Builtin.List.listAllItems
  refine wpAny_bind (wpAny_bind (LL.here ?_))
  rw [if_pos (by decide)]
  refine listItems_at el dl ?_
  refine wpAny_bind (listItems_at e1 rfl ?_)
  have hsl : sliceIndices .none .none .none xs.size = pure ((0 : Int), (xs.size : Int), (1 : Int)) := by rfl
  rw [hsl]
  refine wpAny_bind (wpAny_pure ?_)
  rw [if_pos (by rfl)]
  refine wpAny_bind (wpAny_rule ?_)
  have htl : Builtin.List.listTooLong (xs.size + (#[] : Array Value).size) = false := by
    unfold Builtin.List.listTooLong
    rw [sizeLine_eq]; simp; omega
  rw [if_neg (by rw [htl]; decide)]
  have hf : (xs.extract 0 (0 : Int).toNat ++ (#[] : Array Value) ++ xs.extract (max (0 : Int) (xs.size : Int)).toNat xs.size) = #[] := by
    have := mx0 xs.size
    rw [this]; simp
  refine wpAny_bind (listUpdate_at e1 rfl ?_ (by rw [sizeLine_eq]; omega) (by rw [hf]; simp))
  refine wpAny_bind (wpAny_letGo ?_)
  refine wpAny_pure ?_
  refine ⟨_, rfl, wpAny_pure ?_⟩
  refine wpAny_pure ?_
  refine h (fun ys => ys.extract 0 (0 : Int).toNat ++ (#[] : Array Value) ++ ys.extract (max (0 : Int) (xs.size : Int)).toNat ys.size) hf ?_
  have := C.set (f := fun ys => ys.extract 0 (0 : Int).toNat ++ (#[] : Array Value) ++ ys.extract (max (0 : Int) (xs.size : Int)).toNat ys.size) (ps' := []) (by rw [hf]; rfl) (fun j hj => absurd hj (by simp))
  rw [hf] at this
  exact this
end
end Mine
end
section
open PySem PySem.W PyProof.Rows PySem.Calls
set_option maxRecDepth 100000
set_option maxHeartbeats 400000
set_option Elab.async false
namespace Mine
theorem kn_setattr {P : Params} : findIn (KN P) (.ref 215) "__setattr__" = some (some (.builtin "object.__setattr__")) := by kernel_rfl
theorem kn_isobj {P : Params} : mroIn (KN P) 215 (.type "object") = some true := by kernel_rfl
theorem kn_noinit {P : Params} : findIn (KN P) (.ref 215) "_initial_size" = some none := by kernel_rfl
theorem kn_hasdict {P : Params} : (clsIn (KN P) 215).any (·.hasDict) = true := by kernel_rfl
theorem acc_passes (self : Value) : refuseLoop self "__setattr__" [.ref 215, .type "list", .type "object"] = pure () := by
  rw [refuseLoop_ref]; kernel_rfl
section
variable {w : World} {A : Around} {E : Value → Shared → Prop} {s : Shared} {a ad : Addr} {xs : Array Value} {ps : List (Str × Str)} {k : Int} {mg mb : Str → Option Value}
noncomputable abbrev initName : Str := "_initial_size"
theorem acc_store {n m : Nat} {od : Obj} {es : List DictEntry} {v : Value} {Q : Unit → Shared → Prop} (X : (KN w.params).In s.heap) (e1 : s.heap.get? a = some ⟨.ref 215, some ad, .seq xs n, #[]⟩) (e2 : s.heap.get? ad = some od)
    (hl : (lookIn initName od).isSome = true) (he' : ∀ t, ∃ es, (Obj.putName initName (PyData.keyHash w.params initName) (.str initName t) v od).data = .dict es m ∧ es.size ≤ 1000)
    (h : ∀ t tk, Q () { s with heap := s.heap.update ad (Obj.putName initName (PyData.keyHash w.params initName) (.str initName t) v), toks := tk }) :
    wpAny (model pw w) A (setAttr (.ref a) initName v) Q E s := by
  obtain ⟨hh, g, d, t, os⟩ := s
  dsimp only at X e1 e2
  have L0 : Looks (model pw w) hh (typeOf (.ref a)) (.ref 215) := acc_type e1
  have SF := PySem.F.store_object
  have sub : ∀ t', Looks (model pw w) (⟨hh, g, d, t', os⟩ : Shared).heap (isInstance (.ref a) (.type "object")) true := fun _ => L0.andThen (looks_mroIn X kn_isobj)
  have LS : Looks (model pw w) hh (specialOf (.ref a) "__setattr__") (some (.builtin "object.__setattr__")) := L0.andThen (looks_findIn X kn_setattr)
  obtain ⟨cd, hc, hd'⟩ := any_some (kn_hasdict (P := w.params))
  unfold setAttr
  refine wpAny_bind (wpAny_mkText ?_)
  unfold callSpecial?
  refine wpAny_bind (wpAny_bind (LS.here ?_))
  dsimp only
  refine wpAny_holding ?_
  rw [SF.slot.bind]
  refine wpAny_bind (wpAny_pure ?_)
  dsimp only
  refine wpAny_bind (wpAny_call ?_)
  show codeAny _ _ (.call (.builtin "object.__setattr__") ⟨[.ref a, .str initName t, v], []⟩) _ _
  refine codeAny_call_builtin SF.slot.plain SF.entry (@check_slot (model pw w) _ _ _ "object.__setattr__" "object" "__setattr__" (.ref a) [.str initName t, v] [] _ SF.kind SF.split (sub (t + 1)) (SF.args (.ref a) (.str initName t) v) ?_)
  rw [osa_eq, refuse_eq]
  refine wpAny_bind (wpAny_bind (L0.here (wpAny_bind ((kn_mro X rfl).here ?_))))
  rw [acc_passes]
  refine wpAny_pure (wpAny_bind (L0.here (wpAny_bind ((looks_findIn X kn_noinit).here (wpAny_bind (wpAny_pure ?_))))))
  refine wpAny_bind (wpAny_pure (wpAny_bind (wpAny_bind (wpAny_loadPart e1 (wpAny_bind ((looks_clsIn X hc).here ?_))))))
  rw [hd']
  refine wpAny_pure (a := some ad) (wpAny_bind (wpAny_pure (wpAny_bind ?_)))
  unfold nsSet
  refine wpAny_bind (wpAny_bind (wpAny_askSetting (wpAny_pure (wpAny_bind (wpAny_mkText (wpAny_bind (wpAny_loadPart e2 ?_)))))))
  unfold lookIn at hl
  split at hl
  · rename_i es₀ n₀ q
    rw [q]
    dsimp only
    have c : (!es₀.any (·.key.isStr initName) && es₀.any (·.refKey)) = false := by
      rw [← Array.any_toList, ← Array.any_toList]
      split at hl
      · rename_i en he
        rw [List.any_eq_true.mpr ⟨en, List.mem_of_find?_eq_some he, List.find?_some he⟩]; rfl
      · split at hl
        · cases hl
        · rename_i z; rw [Bool.not_eq_true] at z; rw [z, Bool.and_false]
    rw [aRefKeyMayBeTheName_at, c]
    refine wpAny_updatePart e2 ?_
    obtain ⟨es1, he1, hz⟩ := he' (t + 1)
    have D' : (hh.update ad (Obj.putName initName (PyData.keyHash w.params initName) (.str initName (t + 1)) v)).get? ad = some (Obj.putName initName (PyData.keyHash w.params initName) (.str initName (t + 1)) v od) :=
      Heap.get?_update_self _ e2 (by generalize Obj.putName initName (PyData.keyHash w.params initName) (.str initName (t + 1)) v od = o at he1; obtain ⟨_, _, dd, _⟩ := o; cases he1; rfl)
    refine wpAny_bind (wpAny_lookBehind D' (by rw [he1]; obtain ⟨l⟩ := es1; exact pastItsLine_dict (by rw [sizeLine_eq]; omega)) ?_)
    exact wpAny_pure (wpAny_pure (wpAny_pure (h _ _)))
  · cases hl
end
end Mine
end
section
open PySem PySem.W PyProof.Rows PySem.Calls
set_option maxRecDepth 100000
set_option maxHeartbeats 800000
set_option Elab.async false
namespace Mine
noncomputable def Top (P : Params) (b : Addr) : Bool := ((KN P).lookup b).isSome || Tabs.contains b
theorem fnKeepO {Z : Addr → Bool} {h h' : Heap} {a : Addr} {F : Value → FuncData} (x : ∃ o pm, h.get? a = some o ∧ o.data = .func (F pm)) (k : ∀ b o, Z b = true → b ∉ Tabs → h.get? b = some o → h'.get? b = some o) (ha : Z a = true) (ht : a ∉ Tabs := by decide) : ∃ o pm, h'.get? a = some o ∧ o.data = .func (F pm) :=
  let ⟨o, pm, a, b⟩ := x; ⟨o, pm, k _ _ ha ht a, b⟩
theorem codeKeepO {Z : Addr → Bool} {h h' : Heap} {a : Addr} {q : Str} (x : h.CodeRec (.ref a) q) (k : ∀ b o, Z b = true → b ∉ Tabs → h.get? b = some o → h'.get? b = some o) (ha : Z a = true) (ht : a ∉ Tabs := by decide) : h'.CodeRec (.ref a) q :=
  let ⟨c, o, vs, t, e, g, r⟩ := x; ⟨c, o, vs, t, e, k _ _ (by cases e; exact ha) (by cases e; exact ht) g, r⟩
theorem Glob.keepO {P : Params} {mg mb : Str → Option Value} {h h' : Heap} (G : Glob mg mb h) (k : ∀ b o, Top P b = true → b ∉ Tabs → h.get? b = some o → h'.get? b = some o) : Glob mg mb h' where
  g := G.g.at' fun o e => k _ _ (by kernel_rfl) (by decide) e
  b := G.b.at' fun o e => k _ _ (by kernel_rfl) (by decide) e
  nolimit := let ⟨m, a, b⟩ := G.nolimit; ⟨m, a.at' fun o e => k _ _ (by kernel_rfl) (by decide) e, b⟩
  names := G.names
  pat := {
    m := let ⟨o, a, r⟩ := G.pat.m; ⟨o, k _ _ (by kernel_rfl) (by decide) a, r⟩
    p := let ⟨o, p0, t0, t1, t2, t3, a, r⟩ := G.pat.p; ⟨o, p0, t0, t1, t2, t3, k _ _ (by kernel_rfl) (by decide) a, r⟩
    c := let ⟨o, vs, n, a, r⟩ := G.pat.c; ⟨o, vs, n, k _ _ (by kernel_rfl) (by decide) a, r⟩ }
  f_quote := fnKeepO G.f_quote k (by kernel_rfl)
  c_quote := codeKeepO G.c_quote k (by kernel_rfl)
  f_join := fnKeepO G.f_join k (by kernel_rfl)
  c_join := codeKeepO G.c_join k (by kernel_rfl)
  f_word := fnKeepO G.f_word k (by kernel_rfl)
  c_word := codeKeepO G.c_word k (by kernel_rfl)
theorem Ctx0.stepW {W : List Addr} {w : World} {mg mb : Str → Option Value} {h h' : Heap} (c : Ctx0 w mg mb h) (st : StepH W h h') (hW : ∀ b ∈ W, Top w.params b = false) : Ctx0 w mg mb h' :=
  ⟨c.G.keepO (P := w.params) (fun b o hb ht e => st.keep b o (fun m => by rw [hW b m] at hb; cases hb) ht e),
   fun a o e => st.keep a o (fun m => by have := hW a m; unfold Top at this; rw [e] at this; cases this) (kn_tabs e) (c.K a o e), st.tabO c.T⟩
noncomputable def noAcc (P : Params) : Bool := (KN P).all fun p => !(p.2.cls == .ref 215) && (match p.2.data with | .dict es _ => !(es.size == 1 && es.toList.any fun e => e.key.isStr "_initial_size") | _ => true)
theorem kn_noAcc {P : Params} : noAcc P = true := by kernel_rfl
section
variable {w : World} {A : Around} {E : Value → Shared → Prop} {s : Shared} {a ad : Addr} {xs : Array Value} {ps : List (Str × Str)} {k : Int} {mg mb : Str → Option Value}
theorem acc_top {h : Heap} (X : Ctx0 w mg mb h) (C : Acc h a ad xs ps k) : ∀ b ∈ [a, ad], Top w.params b = false := by
  obtain ⟨n, e1⟩ := C.obj
  obtain ⟨hs, t1, t2, e2⟩ := C.dict
  have all := List.all_eq_true.mp (kn_noAcc (P := w.params))
  intro b hb
  have hT : Tabs.contains b = false := by
    rw [← Bool.not_eq_true]
    intro q
    have q' : b ∈ Tabs := by simpa using q
    simp at hb
    rcases hb with rfl | rfl
    · exact tabs_cls X.T e1 rfl q'
    · exact tabs_cls X.T e2 rfl q'
  unfold Top
  rw [hT, Bool.or_false, ← Bool.not_eq_true]
  intro ht
  obtain ⟨o, eo⟩ := Option.isSome_iff_exists.mp ht
  have h1 := X.K _ _ eo
  have h2 := all _ (mem_of_lookupK eo)
  simp at hb
  rcases hb with rfl | rfl
  · rw [e1] at h1; cases h1; simp at h2
  · rw [e2] at h1; cases h1; simp [Value.isStr] at h2
end
section
variable {w : World} {A : Around} {E : Value → Shared → Prop} {s : Shared} {a ad : Addr} {xs : Array Value} {ps : List (Str × Str)} {k : Int} {mg mb : Str → Option Value}
theorem put_one {hs h : Int} {t1 t2 t t' : Tok} {k k' : Int} : Obj.putName initName h (.str initName t) (.int k' t') ⟨.type "dict", none, .dict #[⟨hs, .str "_initial_size" t1, .int k t2⟩] 1, #[]⟩
    = ⟨.type "dict", none, .dict #[⟨hs, .str "_initial_size" t1, .int k' t'⟩] 1, #[]⟩ := by rfl
theorem acc_size {k' : Int} {t' : Tok} {Q : Unit → Shared → Prop} (X : (KN w.params).In s.heap) (T : TabO s.heap) (C : Acc s.heap a ad xs ps k)
    (h : ∀ h' tk, StepH [ad] s.heap h' → Acc h' a ad xs ps k' → Q () { s with heap := h', toks := tk }) : wpAny (model pw w) A (setAttr (.ref a) initName (.int k' t')) Q E s := by
  obtain ⟨n, e1⟩ := C.obj
  obtain ⟨hs, t1, t2, e2⟩ := C.dict
  refine acc_store (m := 1) (es := []) X e1 e2 (by rfl) (fun t => ?_) (fun t tk => ?_)
  · rw [put_one]; exact ⟨_, rfl, by simp⟩
  · have sb := same_set (h := s.heap) (k := ad) (f := Obj.putName initName (PyData.keyHash w.params initName) (.str initName t) (.int k' t'))
    refine h _ tk (stepH_upd (.head _) (tabs_cls T e2 rfl)) ⟨⟨n, (sb.2 _ (ne_of_cls e1 e2 rfl)).trans e1⟩, ⟨hs, t1, t', ?_⟩, C.len, fun j hj => ?_⟩
    · have := Heap.get?_update_self (Obj.putName initName (PyData.keyHash w.params initName) (.str initName t) (.int k' t')) e2 (by rw [put_one]; rfl)
      rw [put_one] at this; exact this
    · obtain ⟨T, u, u', e, o, eo, c, r⟩ := C.items j hj
      exact ⟨T, u, u', e, o, (sb.2 _ (fun q => by rw [q, e2] at eo; cases eo; simp at c)).trans eo, c, r⟩
theorem frNs {h : Heap} {L : Addr} {m : Str → Option Value} (F : h.Ns L m) : Fr { objs := #[] } L h m := ⟨F, fun b o e => by simp [Heap.get?] at e, Nat.zero_le _⟩
theorem m_reset (P : Params) : FnAt' P 197 "reset" "_Accumulator.reset" (sub (stm 11) 6) [] 196 (.ref 190) := ⟨by kernel_rfl, by kernel_rfl, by kernel_rfl, by kernel_rfl⟩
theorem reset_spec {Q : Value → Shared → Prop} (X : Ctx0 w mg mb s.heap) (C : Acc s.heap a ad xs ps k) (hn : ps.length ≤ 900) (r : NearR A 30 80)
    (hQ : ∀ s', Step [a, ad] s s' → Acc s'.heap a ad #[] [] 0 → Q .none s') : wpAny (model pw w) A (call (.ref 197) [.ref a]) Q E s := by
  have fm := m_reset w.params
  have hb : BindsTo s (fdM "reset" "_Accumulator.reset" (sub (stm 11) 6) [] (pmOf (obK 197 w.params)) (.ref 196) (ctOf (obK 197 w.params)) (.ref 190)) ⟨[.ref a], []⟩ [(("self" : Str), .ref a), (("startval" : Str), .none)] :=
    PySem.W.kp_binds X.K (fun S => by kernel_rfl)
  refine call_fn r.room (fm.get X.K) fm.data X.G.nolimit (fm.crec X.K) rfl hb (fun h₁ F => ?_)
  have G := X.G
  have X1 : Ctx0 w mg mb h₁ := X.step (.of_keep F.keep)
  have C1 := C.on X.T (fun b o _ e => F.keep b o e)
  have haT : a ∉ Tabs := let ⟨_, e⟩ := C.obj; tabs_cls X.T e rfl
  iterate 12 (walk1; (try dsimp only))
  refine wpAny_newList (items := []) ?_ (by simp)
  have k2 : KeepH h₁ (h₁.push { cls := .type "list", data := .seq #[] }) := fun b o e => Heap.get?_push_of_some _ e
  have l2 : (h₁.push { cls := .type "list", data := .seq #[] }).IsList h₁.objs.size #[] := ⟨_, Heap.get?_push_size _ rfl, rfl, 0, rfl⟩
  have hne : h₁.objs.size ≠ s.heap.objs.size := Nat.ne_of_gt F.ns.lt
  generalize h₁.objs.size = nl at l2 hne ⊢
  show wpAny _ _ _ _ _ { s with heap := h₁.push { cls := .type "list", data := .seq #[] }, toks := _ }
  generalize h₁.push { cls := .type "list", data := .seq #[] } = h₂ at k2 l2 ⊢
  have F2 := frOn F k2
  clear F
  refine st_local F2 (fun h₃ F3 sb => ?_)
  have l3 := isl_on l2 (fun o e => (sb.2 _ hne).trans e)
  have X3 : Ctx0 w mg mb h₃ := X.step (.of_keep F3.keep)
  have C3 := C.on X.T (fun b o _ e => F3.keep b o e)
  clear F2
  iterate 9 (walk1; (try dsimp only))
  have k4 : KeepH h₃ (h₃.push { cls := .type "slice", data := .fields #[.none, .none, .none] }) := fun b o e => Heap.get?_push_of_some _ e
  have e4 : (h₃.push { cls := .type "slice", data := .fields #[.none, .none, .none] }).get? h₃.objs.size = some { cls := .type "slice", data := .fields #[.none, .none, .none] } := Heap.get?_push_size _ rfl
  generalize h₃.objs.size = sl at e4 ⊢
  generalize h₃.push { cls := .type "slice", data := .fields #[.none, .none, .none] } = h₄ at k4 e4 ⊢
  have F4 := frOn F3 k4
  have l4 := isl_on l3 (fun o e => k4 _ _ e)
  have X4 : Ctx0 w mg mb h₄ := X.step (.of_keep F4.keep)
  have C4 := C.on X.T (fun b o _ e => F4.keep b o e)
  refine acc_clear (s := { s with heap := h₄, toks := _ }) X4.K C4 (by omega) e4 l4 (fun f _ C5 => ?_)
  have st5 : StepH [a] h₄ (h₄.update a (Obj.mapSeq f)) := stepH_upd (.head _) haT
  have aL : s.heap.objs.size ∉ [a] := by
    obtain ⟨_, e⟩ := C.obj
    have := Heap.lt_size e
    simp only [List.mem_singleton]; exact fun q => Nat.lt_irrefl _ (q ▸ this)
  have N5 := ns_step F4.ns X4.T st5 aL
  have X5 : Ctx0 w mg mb (h₄.update a (Obj.mapSeq f)) := X4.stepW st5 (fun b hb => acc_top X4 C4 b (by simp at hb ⊢; exact .inl hb))
  generalize h₄.update a (Obj.mapSeq f) = h₅ at C5 st5 N5 X5 ⊢
  have F5keep := F4.keep
  clear F3 F4
  have F5 := frNs N5
  iterate 1 (walk1; (try dsimp only))
  refine plainObj_wpAny_Assign_Attribute ?_ (hs := rfl)
  iterate 2 (walk1; (try dsimp only))
  refine acc_size (k' := 0) (s := { s with heap := h₅, toks := _ }) X5.K X5.T C5 (fun h₆ tk st6 C6 => ?_)
  iterate 1 (walk1; (try dsimp only))
  refine hQ _ ⟨((StepH.of_keep (W := [a, ad]) F5keep).trans (st5.mono (by simp))).trans (st6.mono (by simp)), rfl, id⟩ C6
end
end Mine
end
section
open PySem PySem.W PyProof.Rows PySem.Calls
set_option maxRecDepth 100000
set_option maxHeartbeats 800000
set_option Elab.async false
namespace Mine
theorem int_index : typeLookup (.type "int") "__index__" = pure (some (.builtin "int.__index__")) := by rw [typeLookup_type, builtinLookup_eq_fast]; kernel_rfl
section
variable {w : World} {A : Around} {E : Value → Shared → Prop} {s : Shared} {a ad : Addr} {xs : Array Value} {ps : List (Str × Str)} {k : Int} {mg mb : Str → Option Value}
theorem acc_fill {vs : Array Value} {ps' : List (Str × Str)} (hvs : vs.size = ps'.length) (hps : ps'.length ≤ 1000) {sl nl : Addr} {Q : Unit → Shared → Prop} (X : (KN w.params).In s.heap) (C : Acc s.heap a ad xs ps k) (hn : ps.length ≤ 1000)
    (hs : s.heap.get? sl = some { cls := .type "slice", data := .fields #[.none, .none, .none] }) (hl : s.heap.IsList nl vs) (hi : ∀ j (hj : j < ps'.length), ∃ T u u', vs[j]? = some (.ref T) ∧ s.heap.IsTuple T #[.str ps'[j].1 u, .str ps'[j].2 u'])
    (h : ∀ f, f xs = vs → Acc (s.heap.update a (Obj.mapSeq f)) a ad vs ps' k → Q () { s with heap := s.heap.update a (Obj.mapSeq f) }) :
    wpAny (model pw w) A (setItem (.ref a) (.ref sl) (.ref nl)) Q E s := by
  obtain ⟨n, e1⟩ := C.obj
  have hsz := C.len
  have L0 := acc_type (M := model pw w) e1
  have LS : Looks (model pw w) s.heap (specialOf (.ref a) "__setitem__") (some (.builtin "list.__setitem__")) := L0.andThen (looks_findIn X kn_setitem)
  obtain ⟨ol, el, cl, nn, dl⟩ := hl
  unfold setItem
  refine wpAny_holding ?_
  unfold sequenceKey
  refine wpAny_bind (wpAny_bind (L0.here ?_))
  dsimp only
  refine wpAny_bind ?_
  unfold seqItemTypes
  simp only [List.anyM]
  refine wpAny_bind ((looks_mroIn X kn_nodeque).here ?_)
  refine wpAny_pure ?_
  rw [if_pos (by decide)]
  refine wpAny_pure ?_
  unfold callSpecial?
  refine wpAny_bind (wpAny_bind (LS.here ?_))
  dsimp only
  refine wpAny_holding ?_
  rw [lsi_bind]
  refine wpAny_bind (wpAny_pure ?_)
  dsimp only
  refine wpAny_bind (acc_call (n := "__setitem__") X C (by decide +kernel) lsi_entry (.inr (by decide +kernel)) (by decide +kernel) (lsi_args _ _ _) ?_)
  unfold Builtin.«list.__setitem__»
  show wpAny _ _ (Builtin.List.listSubscript? (.ref sl) >>= _) _ _ _
  unfold Builtin.List.listSubscript?
  have ts : s.TypeIs (.ref sl) "slice" := ⟨_, hs, rfl⟩
  refine wpAny_bind (wpAny_bind (wpAny_specialOf ts sl_noindex ?_))
  refine wpAny_pure ?_
  dsimp only
  refine wpAny_bind (wpAny_typeOf ts ?_)
  rw [if_neg (by decide)]
  unfold Builtin.List.listSliceParts
  refine wpAny_bind ?_
  refine wpAny_bind (wpAny_field (x := .none) hs rfl rfl ?_)
  refine wpAny_bind (wpAny_pure ?_)
  rw [if_neg (by decide)]
  refine wpAny_bind (wpAny_field (x := .none) hs rfl rfl ?_)
  refine wpAny_bind (wpAny_pure ?_)
  refine wpAny_bind (wpAny_field (x := .none) hs rfl rfl ?_)
  refine wpAny_bind (wpAny_pure ?_)
  refine wpAny_pure ?_
  dsimp only
  have hne : nl ≠ a := fun q => by rw [q, e1] at el; cases el; cases cl
  have hsr : Builtin.List.listSameRef (.ref a) (.ref nl) = false := by
    show (a == nl) = false
    simp [Ne.symm hne]
  rw [if_neg (by rw [hsr]; decide)]
  have LL : Looks (model pw w) s.heap (typeOf (.ref nl)) (.type "list") := by rw [← cl]; exact (Looks.ld (part := none) el).andThen .now
  unfold Builtin.List.listAllItems
  refine wpAny_bind (wpAny_bind (LL.here ?_))
  rw [if_pos (by decide)]
  refine listItems_at el dl ?_
  refine wpAny_bind (listItems_at e1 rfl ?_)
  have hsl : sliceIndices .none .none .none xs.size = pure ((0 : Int), (xs.size : Int), (1 : Int)) := by rfl
  rw [hsl]
  refine wpAny_bind (wpAny_pure ?_)
  rw [if_pos (by rfl)]
  refine wpAny_bind (wpAny_rule ?_)
  have htl : Builtin.List.listTooLong (xs.size + vs.size) = false := by
    unfold Builtin.List.listTooLong
    rw [sizeLine_eq]; simp; omega
  rw [if_neg (by rw [htl]; decide)]
  have hf : (xs.extract 0 (0 : Int).toNat ++ vs ++ xs.extract (max (0 : Int) (xs.size : Int)).toNat xs.size) = vs := by
    have := mx0 xs.size
    rw [this]; simp
  refine wpAny_bind (listUpdate_at e1 rfl ?_ (by rw [sizeLine_eq]; omega) (by rw [hf, sizeLine_eq]; omega))
  refine wpAny_bind (wpAny_letGo ?_)
  refine wpAny_pure ?_
  refine ⟨_, rfl, wpAny_pure ?_⟩
  refine wpAny_pure ?_
  refine h (fun ys => ys.extract 0 (0 : Int).toNat ++ vs ++ ys.extract (max (0 : Int) (xs.size : Int)).toNat ys.size) hf ?_
  have := C.set (f := fun ys => ys.extract 0 (0 : Int).toNat ++ vs ++ ys.extract (max (0 : Int) (xs.size : Int)).toNat ys.size) (ps' := ps') (by rw [hf]; exact hvs) (fun j hj => by obtain ⟨T, u, u', e, t⟩ := hi j hj; exact ⟨T, u, u', by rw [hf]; exact e, t⟩)
  rw [hf] at this
  exact this
theorem acc_cut {f0 p0 : Str} {ti : Tok} {sl nl : Addr} {Q : Unit → Shared → Prop} (X : (KN w.params).In s.heap) (C : Acc s.heap a ad xs (ps ++ [(f0, p0)]) k) (hn : ps.length ≤ 1000)
    (hs : s.heap.get? sl = some { cls := .type "slice", data := .fields #[.int ps.length ti, .none, .none] }) (hl : s.heap.IsList nl #[])
    (h : ∀ f, f xs = xs.extract 0 ps.length → Acc (s.heap.update a (Obj.mapSeq f)) a ad (xs.extract 0 ps.length) ps k → Q () { s with heap := s.heap.update a (Obj.mapSeq f) }) :
    wpAny (model pw w) A (setItem (.ref a) (.ref sl) (.ref nl)) Q E s := by
  obtain ⟨n, e1⟩ := C.obj
  have hsz : xs.size = ps.length + 1 := by rw [C.len]; simp
  have L0 := acc_type (M := model pw w) e1
  have LS : Looks (model pw w) s.heap (specialOf (.ref a) "__setitem__") (some (.builtin "list.__setitem__")) := L0.andThen (looks_findIn X kn_setitem)
  obtain ⟨ol, el, cl, nn, dl⟩ := hl
  unfold setItem
  refine wpAny_holding ?_
  unfold sequenceKey
  refine wpAny_bind (wpAny_bind (L0.here ?_))
  dsimp only
  refine wpAny_bind ?_
  unfold seqItemTypes
  simp only [List.anyM]
  refine wpAny_bind ((looks_mroIn X kn_nodeque).here ?_)
  refine wpAny_pure ?_
  rw [if_pos (by decide)]
  refine wpAny_pure ?_
  unfold callSpecial?
  refine wpAny_bind (wpAny_bind (LS.here ?_))
  dsimp only
  refine wpAny_holding ?_
  rw [lsi_bind]
  refine wpAny_bind (wpAny_pure ?_)
  dsimp only
  refine wpAny_bind (acc_call (n := "__setitem__") X C (by decide +kernel) lsi_entry (.inr (by decide +kernel)) (by decide +kernel) (lsi_args _ _ _) ?_)
  unfold Builtin.«list.__setitem__»
  show wpAny _ _ (Builtin.List.listSubscript? (.ref sl) >>= _) _ _ _
  unfold Builtin.List.listSubscript?
  have ts : s.TypeIs (.ref sl) "slice" := ⟨_, hs, rfl⟩
  refine wpAny_bind (wpAny_bind (wpAny_specialOf ts sl_noindex ?_))
  refine wpAny_pure ?_
  dsimp only
  refine wpAny_bind (wpAny_typeOf ts ?_)
  rw [if_neg (by decide)]
  unfold Builtin.List.listSliceParts
  refine wpAny_bind ?_
  refine wpAny_bind (wpAny_field (x := .none) hs rfl rfl ?_)
  refine wpAny_bind (wpAny_pure ?_)
  rw [if_neg (by decide)]
  refine wpAny_bind (wpAny_field (x := .int ps.length ti) hs rfl rfl ?_)
  refine wpAny_bind ?_
  dsimp only
  rw [if_neg (by simp)]
  have ti' : s.TypeIs (.int ps.length ti) "int" := rfl
  refine wpAny_bind (wpAny_specialOf ti' int_index ?_)
  rw [if_neg (by decide)]
  refine wpAny_bind (wpAny_of_eq (show asIndex (.int ps.length ti) = pure (ps.length : Int) from rfl) ?_)
  refine wpAny_pure ?_
  refine wpAny_bind (wpAny_field (x := .none) hs rfl rfl ?_)
  refine wpAny_bind (wpAny_pure ?_)
  refine wpAny_pure ?_
  dsimp only
  have hne : nl ≠ a := fun q => by rw [q, e1] at el; cases el; cases cl
  have hsr : Builtin.List.listSameRef (.ref a) (.ref nl) = false := by
    show (a == nl) = false
    simp [Ne.symm hne]
  rw [if_neg (by rw [hsr]; decide)]
  have LL : Looks (model pw w) s.heap (typeOf (.ref nl)) (.type "list") := by rw [← cl]; exact (Looks.ld (part := none) el).andThen .now
  unfold Builtin.List.listAllItems
  refine wpAny_bind (wpAny_bind (LL.here ?_))
  rw [if_pos (by decide)]
  refine listItems_at el dl ?_
  refine wpAny_bind (listItems_at e1 rfl ?_)
  have hsl : sliceIndices (rawInt ps.length) .none .none xs.size = pure ((ps.length : Int), (xs.size : Int), (1 : Int)) := by
    have : max (0 : Int) (min (ps.length : Int) (xs.size : Int)) = (ps.length : Int) := mn0 (by omega)
    show (pure (max (0 : Int) (min (if (ps.length : Int) < 0 then (ps.length : Int) + (xs.size : Int) else (ps.length : Int)) (xs.size : Int)), (xs.size : Int), (1 : Int)) : Sem (Int × Int × Int)) = _
    rw [if_neg (by omega), this]
  rw [hsl]
  refine wpAny_bind (wpAny_pure ?_)
  rw [if_pos (by rfl)]
  refine wpAny_bind (wpAny_rule ?_)
  have htl : Builtin.List.listTooLong (xs.size + (#[] : Array Value).size) = false := by
    unfold Builtin.List.listTooLong
    rw [sizeLine_eq]; simp; omega
  rw [if_neg (by rw [htl]; decide)]
  have hf : (xs.extract 0 (ps.length : Int).toNat ++ (#[] : Array Value) ++ xs.extract (max (ps.length : Int) (xs.size : Int)).toNat xs.size) = xs.extract 0 ps.length := by
    have : (max (ps.length : Int) (xs.size : Int)).toNat = xs.size := mx1 (by omega)
    rw [this]; simp
  refine wpAny_bind (listUpdate_at e1 rfl ?_ (by rw [sizeLine_eq]; omega) (by rw [hf, sizeLine_eq]; simp; omega))
  refine wpAny_bind (wpAny_letGo ?_)
  refine wpAny_pure ?_
  refine ⟨_, rfl, wpAny_pure ?_⟩
  refine wpAny_pure ?_
  refine h (fun ys => ys.extract 0 (ps.length : Int).toNat ++ (#[] : Array Value) ++ ys.extract (max (ps.length : Int) (xs.size : Int)).toNat ys.size) hf ?_
  have := C.set (f := fun ys => ys.extract 0 (ps.length : Int).toNat ++ (#[] : Array Value) ++ ys.extract (max (ps.length : Int) (xs.size : Int)).toNat ys.size) (ps' := ps) (by rw [hf]; simp; omega) (fun j hj => by
    obtain ⟨T, u, u', e, t⟩ := C.items j (by simp; omega)
    exact ⟨T, u, u', by rw [hf, Array.getElem?_extract]; simp only [Nat.zero_add, Nat.sub_zero]; rw [if_pos (by omega)]; exact e, by rw [List.getElem_append_left hj] at t; exact t⟩)
  rw [hf] at this
  exact this
end
end Mine
end
section
open PySem PySem.W PyProof.Rows PySem.Calls
set_option maxRecDepth 100000
set_option maxHeartbeats 800000
set_option Elab.async false
namespace Mine
theorem lgi_bind (self : Value) : bindSpecial (.builtin "list.__getitem__") self = pure (.builtin "list.__getitem__", [self]) :=
  (SlotG.of (T := "list") (name := "__getitem__") (owner := "list") (n := "__getitem__") (by rw [typeLookup_type, builtinLookup_eq_fast]; kernel_rfl) (by decide +kernel) (by decide +kernel) (by decide +kernel)
    (by first | exact .inl (by decide +kernel) | exact .inr (by decide +kernel)) (by rw [isSubtype_type]; kernel_rfl)).bind self
theorem kn_getitem {P : Params} : findIn (KN P) (.ref 215) "__getitem__" = some (some (.builtin "list.__getitem__")) := by kernel_rfl
theorem lgi_entry : entryFor table "list.__getitem__" = some Builtin.«list.__getitem__» := entryFor_of_tree (by kernel_rfl)
theorem lgi_args (a b : Value) : argsOk "list.__getitem__" ⟨[a, b], []⟩ := by unfold argsOk; kernel_rfl
theorem lgi_kind : builtinKind "list.__getitem__" = some .method ∨ builtinKind "list.__getitem__" = some .slot := by first | exact .inl (by decide +kernel) | exact .inr (by decide +kernel)
section
variable {w : World} {A : Around} {E : Value → Shared → Prop} {s : Shared} {a ad : Addr} {xs : Array Value} {ps : List (Str × Str)} {k : Int} {mg mb : Str → Option Value}
theorem acc_get {i : Value} {Q : Value → Shared → Prop} (X : (KN w.params).In s.heap) (C : Acc s.heap a ad xs ps k)
    (h : wpAny (model pw w) A (call (.builtin "list.__getitem__") [.ref a, i]) Q E s) : wpAny (model pw w) A (getItem (.ref a) i) Q E s := by
  obtain ⟨n, e1⟩ := C.obj
  have L0 := acc_type (M := model pw w) e1
  have LS : Looks (model pw w) s.heap (specialOf (.ref a) "__getitem__") (some (.builtin "list.__getitem__")) := L0.andThen (looks_findIn X kn_getitem)
  unfold getItem
  refine wpAny_holding ?_
  unfold sequenceKey
  refine wpAny_bind (wpAny_bind (L0.here ?_))
  dsimp only
  refine wpAny_bind ?_
  unfold seqItemTypes
  simp only [List.anyM]
  refine wpAny_bind ((looks_mroIn X kn_nodeque).here ?_)
  refine wpAny_pure ?_
  rw [if_pos (by decide)]
  refine wpAny_pure ?_
  unfold callSpecial?
  refine wpAny_bind (wpAny_bind (LS.here ?_))
  dsimp only
  refine wpAny_holding ?_
  rw [lgi_bind]
  refine wpAny_bind (wpAny_pure ?_)
  dsimp only
  refine wpAny_bind (wpAny_mono h (fun v s' q => ?_) fun _ _ e => e)
  exact wpAny_pure (wpAny_pure q)
theorem acc_item {j : Nat} {v : Value} {t : Tok} {Q : Value → Shared → Prop} (X : (KN w.params).In s.heap) (C : Acc s.heap a ad xs ps k) (hn : ps.length ≤ 1000) (hv : xs[j]? = some v) (h : Q v s) :
    wpAny (model pw w) A (getItem (.ref a) (.int j t)) Q E s := by
  obtain ⟨n, e1⟩ := C.obj
  refine acc_get X C (acc_call (n := "__getitem__") X C (by decide +kernel) lgi_entry lgi_kind (by decide +kernel) (lgi_args _ _) ?_)
  have hj : j < xs.size := by
    rcases Nat.lt_or_ge j xs.size with h | h
    · exact h
    · rw [Array.getElem?_eq_none h] at hv; cases hv
  have := C.len
  have hfit : Builtin.List.listFitsIndex (j : Int) = true := fitsIndex_of (by omega) (by omega)
  obtain ⟨q, hq⟩ : ∃ q : Int, (j : Int) = q := ⟨_, rfl⟩
  rw [hq] at hfit ⊢
  show wpAny _ _ (Builtin.List.listSubscript? (.int q t) >>= _) _ _ s
  refine wpAny_bind (wpAny_listSubscript_int hfit ?_)
  clear hfit
  subst hq
  show wpAny _ _ ((seqItemAt a j >>= fun r => pure (r.map (j, ·))) >>= _) _ _ s
  refine wpAny_bind (wpAny_bind (wpAny_seqItemAt e1 rfl (wpAny_pure ?_)))
  rw [hv]
  first
    | exact wpAny_bind (wpAny_pure (wpAny_pure ⟨v, rfl, h⟩))
    | exact wpAny_pure ⟨v, rfl, h⟩
end
end Mine
end
section
open PySem PySem.W PyProof.Rows PySem.Calls
set_option maxRecDepth 100000
set_option maxHeartbeats 800000
set_option Elab.async false
namespace Mine
section
variable {w : World} {A : Around} {E : Value → Shared → Prop} {s : Shared} {a ad : Addr} {xs : Array Value} {ps : List (Str × Str)} {k : Int} {mg mb : Str → Option Value}
theorem acc_tail {f0 p0 : Str} {ti : Tok} {sl : Addr} {v : Value} {Q : Value → Shared → Prop} (X : (KN w.params).In s.heap) (C : Acc s.heap a ad xs (ps ++ [(f0, p0)]) k) (hn : ps.length ≤ 1000)
    (hs : s.heap.get? sl = some { cls := .type "slice", data := .fields #[.int ps.length ti, .none, .none] }) (hv : xs[ps.length]? = some v)
    (h : Q (.ref s.heap.objs.size) { s with heap := s.heap.push { cls := .type "list", data := .seq #[v] } }) :
    wpAny (model pw w) A (getItem (.ref a) (.ref sl)) Q E s := by
  obtain ⟨n, e1⟩ := C.obj
  have hsz : xs.size = ps.length + 1 := by rw [C.len]; simp
  refine acc_get X C (acc_call (n := "__getitem__") X C (by decide +kernel) lgi_entry lgi_kind (by decide +kernel) (lgi_args _ _) ?_)
  show wpAny _ _ (Builtin.List.listSubscript? (.ref sl) >>= _) _ _ _
  unfold Builtin.List.listSubscript?
  have ts : s.TypeIs (.ref sl) "slice" := ⟨_, hs, rfl⟩
  refine wpAny_bind (wpAny_bind (wpAny_specialOf ts sl_noindex ?_))
  refine wpAny_pure ?_
  dsimp only
  refine wpAny_bind (wpAny_typeOf ts ?_)
  rw [if_neg (by decide)]
  unfold Builtin.List.listSliceParts
  refine wpAny_bind ?_
  refine wpAny_bind (wpAny_field (x := .none) hs rfl rfl ?_)
  refine wpAny_bind (wpAny_pure ?_)
  rw [if_neg (by decide)]
  refine wpAny_bind (wpAny_field (x := .int ps.length ti) hs rfl rfl ?_)
  refine wpAny_bind ?_
  dsimp only
  rw [if_neg (by simp)]
  have ti' : s.TypeIs (.int ps.length ti) "int" := rfl
  refine wpAny_bind (wpAny_specialOf ti' int_index ?_)
  rw [if_neg (by decide)]
  refine wpAny_bind (wpAny_of_eq (show asIndex (.int ps.length ti) = pure (ps.length : Int) from rfl) ?_)
  refine wpAny_pure ?_
  refine wpAny_bind (wpAny_field (x := .none) hs rfl rfl ?_)
  refine wpAny_bind (wpAny_pure ?_)
  refine wpAny_pure ?_
  dsimp only
  refine wpAny_bind (listItems_at e1 rfl ?_)
  have hsl : sliceIndices (rawInt ps.length) .none .none xs.size = pure ((ps.length : Int), (xs.size : Int), (1 : Int)) := by
    have : max (0 : Int) (min (ps.length : Int) (xs.size : Int)) = (ps.length : Int) := mn0 (by omega)
    show (pure (max (0 : Int) (min (if (ps.length : Int) < 0 then (ps.length : Int) + (xs.size : Int) else (ps.length : Int)) (xs.size : Int)), (xs.size : Int), (1 : Int)) : Sem (Int × Int × Int)) = _
    rw [if_neg (by omega), this]
  rw [hsl]
  refine wpAny_bind (wpAny_pure ?_)
  dsimp only
  have hr : ((sliceRange (ps.length : Int) (xs.size : Int) 1).filterMap (xs[·]?)).toArray = #[v] := by
    have h1 : sliceRange (ps.length : Int) (xs.size : Int) 1 = [ps.length] := by
      unfold sliceRange
      have hc : (if (1 : Int) > 0 then (if (ps.length : Int) < (xs.size : Int) then ((xs.size : Int) - (ps.length : Int) + 1 - 1) / 1 else 0) else (if (ps.length : Int) > (xs.size : Int) then ((ps.length : Int) - (xs.size : Int) - 1 - 1) / (-1) else 0)) = 1 := by
        rw [if_pos (by decide), if_pos (by omega), Int.ediv_one]; omega
      show List.map _ (List.range (Int.toNat (if (1 : Int) > 0 then _ else _))) = _
      rw [hc]
      show [((ps.length : Int) + 1 * ((0 : Nat) : Int)).toNat] = _
      congr 1
    rw [h1]; simp [hv]
  rw [hr]
  refine wpAny_bind (wpAny_newObj_type ?_ (by show (#[v] : Array Value).size ≤ sizeLine; rw [sizeLine_eq]; simp))
  exact wpAny_pure ⟨_, rfl, h⟩
end
end Mine
end
section
open PySem PySem.W PyProof.Rows PySem.Calls
set_option maxRecDepth 100000
set_option maxHeartbeats 800000
set_option Elab.async false
namespace Mine
theorem m_popfrom (P : Params) : FnAt' P 167 "pop_from" "_Accumulator.pop_from" (sub (stm 11) 2) [] 166 (.ref 160) := ⟨by kernel_rfl, by kernel_rfl, by kernel_rfl, by kernel_rfl⟩
section
variable {w : World} {A : Around} {E : Value → Shared → Prop} {s : Shared} {a ad : Addr} {xs : Array Value} {ps : List (Str × Str)} {k : Int} {mg mb : Str → Option Value}
theorem acc_sub {value slice : Expr} {i : Value} {l : List Value} {Q : Value → Shared → Prop} (X : (KN w.params).In s.heap) (C : Acc s.heap a ad xs ps k) (h : wpAny (model pw w) A (getItem (.ref a) i) Q E s)
    (hs : subscripted slice false (.ref a) i = operate l (getItem (.ref a) i)) (ht : ∀ r, letTemporaryGo value (.ref a) r = pure ()) : wpAny (model pw w) A (subscriptTail value slice (.ref a) i) Q E s := by
  obtain ⟨n, e1⟩ := C.obj
  have L0 := acc_type (M := model pw w) e1
  have LS : Looks (model pw w) s.heap (specialOf (.ref a) "__getitem__") (some (.builtin "list.__getitem__")) := L0.andThen (looks_findIn X kn_getitem)
  unfold subscriptTail
  refine wpAny_bind ?_
  rw [getitemInPython_of_ne (by simp)]
  refine wpAny_bind (LS.here ?_)
  have fin : wpAny (model pw w) A (subscripted slice false (.ref a) i) (fun r s₃ => wpAny (model pw w) A (letTemporaryGo value (.ref a) r >>= fun _ => pure r) Q E s₃) E s := by
    rw [hs]
    exact wpAny_operating (wpAny_mono h (fun r s₃ h₃ => wpAny_bind (wpAny_of_eq (ht r) (wpAny_pure h₃))) fun _ _ x => x)
  first
    | exact wpAny_pure (wpAny_bind fin)
    | exact wpAny_bind (wpAny_pure (wpAny_bind fin))
    | exact wpAny_bind fin
theorem popfrom_spec {f p : Str} {ti : Tok} {Q : Value → Shared → Prop} (X : Ctx0 w mg mb s.heap) (C : Acc s.heap a ad xs (ps ++ [(f, p)]) k) (hn : ps.length ≤ 900) (r : NearR A 30 80)
    (hQ : ∀ s' R T xs' u u', Step [a] s s' → Acc s'.heap a ad xs' ps k → s.heap.get? R = none → s'.heap.IsList R #[.ref T] → s'.heap.IsTuple T #[.str f u, .str p u'] → Q (.ref R) s') : wpAny (model pw w) A (call (.ref 167) [.ref a, .int ps.length ti]) Q E s := by
  have fm := m_popfrom w.params
  have hb : ∀ i, BindsTo s (fdM "pop_from" "_Accumulator.pop_from" (sub (stm 11) 2) [] (pmOf (obK 167 w.params)) (.ref 166) (ctOf (obK 167 w.params)) (.ref 160)) ⟨[.ref a, i], []⟩ [(("self" : Str), .ref a), (("i" : Str), i)] :=
    fun i => PySem.W.kp_binds X.K (fun S => by kernel_rfl)
  refine call_fn r.room (fm.get X.K) fm.data X.G.nolimit (fm.crec X.K) rfl (hb _) (fun h₁ F => ?_)
  have G := X.G
  have X1 : Ctx0 w mg mb h₁ := X.step (.of_keep F.keep)
  have C1 := C.on X.T (fun b o _ e => F.keep b o e)
  have haT : a ∉ Tabs := let ⟨_, e⟩ := C.obj; tabs_cls X.T e rfl
  iterate 9 (walk1; (try dsimp only))
  have k2 : KeepH h₁ (h₁.push { cls := .type "slice", data := .fields #[.int ps.length ti, .none, .none] }) := fun b o e => Heap.get?_push_of_some _ e
  have e2 : (h₁.push { cls := .type "slice", data := .fields #[.int ps.length ti, .none, .none] }).get? h₁.objs.size = some { cls := .type "slice", data := .fields #[.int ps.length ti, .none, .none] } := Heap.get?_push_size _ rfl
  generalize h₁.objs.size = sl at e2 ⊢
  generalize h₁.push { cls := .type "slice", data := .fields #[.int ps.length ti, .none, .none] } = h₂ at k2 e2 ⊢
  have F2 := frOn F k2
  clear F
  have X2 : Ctx0 w mg mb h₂ := X.step (.of_keep F2.keep)
  have C2 := C.on X.T (fun b o _ e => F2.keep b o e)
  obtain ⟨T, u, u', hx, hT⟩ := C2.items ps.length (by simp)
  refine acc_sub (l := _) (s := { s with heap := h₂, toks := _ }) X2.K C2 (acc_tail (s := { s with heap := h₂, toks := _ }) X2.K C2 (by omega) e2 hx ?_) rfl (fun r => rfl)
  have hT' : h₂.IsTuple T #[.str f u, .str p u'] := by simpa using hT
  have k3 : KeepH h₂ (h₂.push { cls := .type "list", data := .seq #[.ref T] }) := fun b o e => Heap.get?_push_of_some _ e
  have l3 : (h₂.push { cls := .type "list", data := .seq #[.ref T] }).IsList h₂.objs.size #[.ref T] := ⟨_, Heap.get?_push_size _ rfl, rfl, 0, rfl⟩
  have hne : h₂.objs.size ≠ s.heap.objs.size := Nat.ne_of_gt F2.ns.lt
  have hR : s.heap.get? h₂.objs.size = none := Heap.get?_none_of_le (Nat.le_of_lt F2.ns.lt)
  show wpAny _ _ (storeName _ _ (.ref h₂.objs.size)) _ _ { s with heap := h₂.push { cls := .type "list", data := .seq #[.ref T] }, toks := _ }
  generalize h₂.objs.size = R at l3 hne hR ⊢
  generalize h₂.push { cls := .type "list", data := .seq #[.ref T] } = h₃ at k3 l3 ⊢
  have F3 := frOn F2 k3
  have hTL : T ≠ s.heap.objs.size := fun q => by
    obtain ⟨o, es, ep, eo, ed, _⟩ := F2.ns
    obtain ⟨o', eo', _, n', ed'⟩ := hT'
    rw [q] at eo'; rw [eo] at eo'; cases eo'; rw [ed] at ed'; cases ed'
  clear F2
  refine st_local F3 (fun h₄ F4 sb => ?_)
  have l4 := isl_on l3 (fun o e => (sb.2 _ hne).trans e)
  have hT4 := tup_on hT' (fun o e => (sb.2 _ hTL).trans (k3 _ _ e))
  have X4 : Ctx0 w mg mb h₄ := X.step (.of_keep F4.keep)
  have C4 := C.on X.T (fun b o _ e => F4.keep b o e)
  clear F3
  iterate 4 (walk1; (try dsimp only))
  refine wpAny_newList (items := []) ?_ (by simp)
  have k5 : KeepH h₄ (h₄.push { cls := .type "list", data := .seq #[] }) := fun b o e => Heap.get?_push_of_some _ e
  have l5 : (h₄.push { cls := .type "list", data := .seq #[] }).IsList h₄.objs.size #[] := ⟨_, Heap.get?_push_size _ rfl, rfl, 0, rfl⟩
  generalize h₄.objs.size = nl at l5 ⊢
  show wpAny _ _ _ _ _ { s with heap := h₄.push { cls := .type "list", data := .seq #[] }, toks := _ }
  generalize h₄.push { cls := .type "list", data := .seq #[] } = h₅ at k5 l5 ⊢
  have F5 := frOn F4 k5
  clear F4
  iterate 6 (walk1; (try dsimp only))
  have k6 : KeepH h₅ (h₅.push { cls := .type "slice", data := .fields #[.int ps.length ti, .none, .none] }) := fun b o e => Heap.get?_push_of_some _ e
  have e6 : (h₅.push { cls := .type "slice", data := .fields #[.int ps.length ti, .none, .none] }).get? h₅.objs.size = some { cls := .type "slice", data := .fields #[.int ps.length ti, .none, .none] } := Heap.get?_push_size _ rfl
  generalize h₅.objs.size = sl2 at e6 ⊢
  generalize h₅.push { cls := .type "slice", data := .fields #[.int ps.length ti, .none, .none] } = h₆ at k6 e6 ⊢
  have F6 := frOn F5 k6
  clear F5
  have X6 : Ctx0 w mg mb h₆ := X.step (.of_keep F6.keep)
  have C6 := C.on X.T (fun b o _ e => F6.keep b o e)
  have l6 := isl_on l4 (fun o e => k6 _ _ (k5 _ _ e))
  have hT6 := tup_on hT4 (fun o e => k6 _ _ (k5 _ _ e))
  refine acc_cut (s := { s with heap := h₆, toks := _ }) X6.K C6 (by omega) e6 (isl_on l5 fun o e => k6 _ _ e) (fun g hg C7 => ?_)
  have aL : s.heap.objs.size ∉ [a] := by
    obtain ⟨_, e⟩ := C.obj
    have := Heap.lt_size e
    simp only [List.mem_singleton]; exact fun q => Nat.lt_irrefl _ (q ▸ this)
  have st7 : StepH [a] h₆ (h₆.update a (Obj.mapSeq g)) := stepH_upd (.head _) haT
  have N7 := ns_step F6.ns X6.T st7 aL
  have keepF := F6.keep
  have hRa : R ≠ a := fun q => by rw [q] at hR; obtain ⟨_, e⟩ := C.obj; rw [e] at hR; cases hR
  clear F6
  have F7 := frNs N7
  iterate 3 (walk1; (try dsimp only))
  have sb7 := same_set (h := h₆) (k := a) (f := Obj.mapSeq g)
  have hTa : T ≠ a := fun q => by
    obtain ⟨_, e⟩ := C6.obj
    obtain ⟨o', eo', c', _⟩ := hT6
    rw [q, e] at eo'; cases eo'; cases c'
  exact hQ _ R T _ u u' ⟨(StepH.of_keep keepF).trans st7, rfl, id⟩ C7 hR (isl_on l6 fun o e => (sb7.2 _ hRa).trans e) (tup_on hT6 fun o e => (sb7.2 _ hTa).trans e)
end
end Mine
end
section
open PySem PySem.W PyProof.Rows PySem.Calls
set_option maxRecDepth 100000
set_option maxHeartbeats 800000
set_option Elab.async false
namespace Mine
section
variable {w : World} {A : Around} {E : Value → Shared → Prop} {s : Shared} {a ad : Addr} {xs : Array Value} {ps : List (Str × Str)} {k : Int} {mg mb : Str → Option Value}
theorem reset2_spec {R : Addr} {vs : Array Value} {ps' : List (Str × Str)} {Q : Value → Shared → Prop} (X : Ctx0 w mg mb s.heap) (C : Acc s.heap a ad xs ps k) (hn : ps.length ≤ 900) (hn' : ps'.length ≤ 900) (hl : s.heap.IsList R vs) (hvs : vs.size = ps'.length) (hi : ∀ j (hj : j < ps'.length), ∃ T u u', vs[j]? = some (.ref T) ∧ s.heap.IsTuple T #[.str ps'[j].1 u, .str ps'[j].2 u']) (r : NearR A 30 80)
    (hQ : ∀ s', Step [a, ad] s s' → Acc s'.heap a ad vs ps' 0 → Q .none s') : wpAny (model pw w) A (call (.ref 197) [.ref a, .ref R]) Q E s := by
  have fm := m_reset w.params
  have hb : BindsTo s (fdM "reset" "_Accumulator.reset" (sub (stm 11) 6) [] (pmOf (obK 197 w.params)) (.ref 196) (ctOf (obK 197 w.params)) (.ref 190)) ⟨[.ref a, .ref R], []⟩ [(("self" : Str), .ref a), (("startval" : Str), .ref R)] :=
    PySem.W.kp_binds X.K (fun S => by kernel_rfl)
  refine call_fn r.room (fm.get X.K) fm.data X.G.nolimit (fm.crec X.K) rfl hb (fun h₁ F => ?_)
  have G := X.G
  have X1 : Ctx0 w mg mb h₁ := X.step (.of_keep F.keep)
  have C1 := C.on X.T (fun b o _ e => F.keep b o e)
  have haT : a ∉ Tabs := let ⟨_, e⟩ := C.obj; tabs_cls X.T e rfl
  iterate 17 (walk1; (try dsimp only))
  have k4 : KeepH h₁ (h₁.push { cls := .type "slice", data := .fields #[.none, .none, .none] }) := fun b o e => Heap.get?_push_of_some _ e
  have e4 : (h₁.push { cls := .type "slice", data := .fields #[.none, .none, .none] }).get? h₁.objs.size = some { cls := .type "slice", data := .fields #[.none, .none, .none] } := Heap.get?_push_size _ rfl
  generalize h₁.objs.size = sl at e4 ⊢
  generalize h₁.push { cls := .type "slice", data := .fields #[.none, .none, .none] } = h₄ at k4 e4 ⊢
  have F4 := frOn F k4
  have l4 := isl_on hl (fun o e => k4 _ _ (F.keep _ _ e))
  have X4 : Ctx0 w mg mb h₄ := X.step (.of_keep F4.keep)
  have C4 := C.on X.T (fun b o _ e => F4.keep b o e)
  refine acc_fill (s := { s with heap := h₄, toks := _ }) hvs (by omega) X4.K C4 (by omega) e4 l4 (fun j hj => by obtain ⟨T, u, u', e, t⟩ := hi j hj; exact ⟨T, u, u', e, tup_on t fun o e => k4 _ _ (F.keep _ _ e)⟩) (fun f _ C5 => ?_)
  have st5 : StepH [a] h₄ (h₄.update a (Obj.mapSeq f)) := stepH_upd (.head _) haT
  have aL : s.heap.objs.size ∉ [a] := by
    obtain ⟨_, e⟩ := C.obj
    have := Heap.lt_size e
    simp only [List.mem_singleton]; exact fun q => Nat.lt_irrefl _ (q ▸ this)
  have N5 := ns_step F4.ns X4.T st5 aL
  have X5 : Ctx0 w mg mb (h₄.update a (Obj.mapSeq f)) := X4.stepW st5 (fun b hb => acc_top X4 C4 b (by simp at hb ⊢; exact .inl hb))
  generalize h₄.update a (Obj.mapSeq f) = h₅ at C5 st5 N5 X5 ⊢
  have F5keep := F4.keep
  clear F F4
  have F5 := frNs N5
  iterate 1 (walk1; (try dsimp only))
  refine plainObj_wpAny_Assign_Attribute ?_ (hs := rfl)
  iterate 2 (walk1; (try dsimp only))
  refine acc_size (k' := 0) (s := { s with heap := h₅, toks := _ }) X5.K X5.T C5 (fun h₆ tk st6 C6 => ?_)
  iterate 1 (walk1; (try dsimp only))
  refine hQ _ ⟨((StepH.of_keep (W := [a, ad]) F5keep).trans (st5.mono (by simp))).trans (st6.mono (by simp)), rfl, id⟩ C6
end
end Mine
end
section
open PySem PySem.W PyProof.Rows PySem.Calls
set_option maxRecDepth 100000
set_option maxHeartbeats 800000
set_option Elab.async false
namespace Mine
theorem kn_dlen {P : Params} : findIn (KN P) (.ref 215) "__len__" = some (some (.ref 182)) := by kernel_rfl
theorem kn_tlen {P : Params} : typeIn (KN P) (.ref 182) = some (.type "function") := by kernel_rfl
theorem kn_dbool {P : Params} : findIn (KN P) (.ref 215) "__bool__" = some none := by kernel_rfl
theorem pre_bound {val : Nat → Int} {B : Int} (h : ∀ i, 0 ≤ val i ∧ val i ≤ B) : ∀ n, 0 ≤ preSum val n ∧ preSum val n ≤ n * B
  | 0 => by simp [preSum]
  | n + 1 => by
    have := pre_bound h n
    have h1 := h n
    show 0 ≤ preSum val n + val n ∧ preSum val n + val n ≤ ((n + 1 : Nat) : Int) * B
    have e : ((n + 1 : Nat) : Int) * B = (n : Int) * B + B := by push_cast; rw [Int.add_mul, Int.one_mul]
    omega
theorem tot_bound {ps : List (Str × Str)} (hz : ∀ p ∈ ps, p.1.length ≤ 10000 ∧ p.2.length ≤ 10000) (hn : ps.length ≤ 100) : 0 ≤ tot ps ∧ tot ps ≤ 2000000 := by
  have := pre_bound (val := szAt ps) (B := 20000) (fun i => by
    unfold szAt
    have : (ps.getD i default).1.length ≤ 10000 ∧ (ps.getD i default).2.length ≤ 10000 := by
      by_cases hi : i < ps.length
      · have : ps.getD i default = ps[i] := by simp [hi]
        rw [this]; exact hz _ (by simp)
      · have : ps.getD i default = default := by simp [Nat.le_of_not_lt hi]
        rw [this]
        exact ⟨by decide, by decide⟩
    omega) ps.length
  unfold tot
  omega
section
variable {w : World} {A : Around} {E : Value → Shared → Prop} {s : Shared} {a ad : Addr} {xs : Array Value} {ps : List (Str × Str)} {k : Int} {mg mb : Str → Option Value}
theorem acc_inst {h : Heap} (C : Acc h a ad xs ps k) : ∃ n od, InstAt h a ⟨.ref 215, some ad, .seq xs n, #[]⟩ 215 (some od) := by
  obtain ⟨n, e1⟩ := C.obj
  obtain ⟨hs, t1, t2, e2⟩ := C.dict
  exact ⟨n, _, ⟨e1, rfl, rfl, e2⟩⟩
theorem acc_blen {Q : Value → Shared → Prop} (X : Ctx0 w mg mb s.heap) (C : Acc s.heap a ad xs ps k) (hk : k = 0 ∨ k = 1) (hz : ∀ p ∈ ps, p.1.length ≤ 10000 ∧ p.2.length ≤ 10000) (hn : ps.length ≤ 100) (r : NearR A 10 61)
    (hQ : ∀ s' u, Step [] s s' → Q (.int (k + tot ps) u) s') : wpAny (model pw w) A (call (.builtin "len") [.ref a]) Q E s := by
  obtain ⟨n, od, I⟩ := acc_inst C
  refine Calls.call_function_entry kind_len plain_len entry_len (args_len1 _) ?_
  unfold Builtin.«len»
  refine wpAny_bind (m := oneArg "len" _) (wpAny_pure ?_)
  refine wpAny_bind (m := callSpecial? (.ref a) (Str.ofString "__len__")) (special_fn X.K I kn_dlen kn_tlen (acc_len X C hk hz hn r.in1 (fun s' u st => ?_)))
  have tb := tot_bound hz hn
  generalize hv : k + tot ps = v at hQ ⊢
  have h0 : 0 ≤ v := by omega
  have h1 : v < 2 ^ 63 := by omega
  refine wpAny_bind (wpAny_holding (wpAny_pure ?_))
  refine wpAny_bind (wpAny_letGo ?_)
  show wpAny _ _ (if v < 0 then _ else _) _ _ _
  rw [if_neg (by omega)]
  show wpAny _ _ (if v ≥ 2 ^ 63 then _ else _) _ _ _
  rw [if_neg (by omega)]
  refine wpAny_bind (wpAny_mkInt (wpAny_pure ⟨_, rfl, hQ _ _ ⟨st.heap, st.os, st.gens⟩⟩))
end
end Mine
end
section
open PySem PySem.W PyProof.Rows PySem.Calls
set_option maxRecDepth 100000
set_option maxHeartbeats 800000
set_option Elab.async false
namespace Mine
theorem kn_dstr {P : Params} : findIn (KN P) (.ref 215) "__str__" = some (some (.ref 189)) := by kernel_rfl
theorem kn_fstr {P : Params} : isFn (KN P) (.ref 189) = true := by kernel_rfl
theorem m_ows (P : Params) : FnAt' P 204 "is_onlyws" "_Accumulator.is_onlyws" (sub (stm 11) 7) [] 203 .none := ⟨by kernel_rfl, by kernel_rfl, by kernel_rfl, by kernel_rfl⟩
section
variable {w : World} {A : Around} {E : Value → Shared → Prop} {s : Shared} {a ad : Addr} {xs : Array Value} {ps : List (Str × Str)} {k : Int} {mg mb : Str → Option Value}
theorem acc_truthy {Q : Bool → Shared → Prop} (X : Ctx0 w mg mb s.heap) (C : Acc s.heap a ad xs ps k) (hk : k = 0 ∨ k = 1) (hz : ∀ p ∈ ps, p.1.length ≤ 10000 ∧ p.2.length ≤ 10000) (hn : ps.length ≤ 100) (r : NearR A 10 61)
    (hQ : ∀ s', Step [] s s' → Q (k + tot ps != 0) s') : wpAny (model pw w) A (truthy (.ref a)) Q E s := by
  obtain ⟨n, od, I⟩ := acc_inst C
  have tb := tot_bound hz hn
  have key : wpAny (model pw w) A (runValue (.builtin "len" ⟨[.ref a], []⟩)) (fun r s' => ∃ u, r = .int (k + tot ps) u ∧ Q (k + tot ps != 0) s') E s := by
    refine wpAny_runValue (codeAny_builtin entry_len ?_)
    rw [Around.under_plainId plain_len _]
    unfold Builtin.«len»
    refine wpAny_bind (m := oneArg "len" _) (wpAny_pure ?_)
    refine wpAny_bind (m := callSpecial? (.ref a) (Str.ofString "__len__")) (special_fn X.K I kn_dlen kn_tlen (acc_len X C hk hz hn r.in1 (fun s' u st => ?_)))
    generalize hv : k + tot ps = v at hQ ⊢
    have h0 : 0 ≤ v := by omega
    have h1 : v < 2 ^ 63 := by omega
    refine wpAny_bind (wpAny_holding (wpAny_pure ?_))
    refine wpAny_bind (wpAny_letGo ?_)
    show wpAny _ _ (if v < 0 then _ else _) _ _ _
    rw [if_neg (by omega)]
    show wpAny _ _ (if v ≥ 2 ^ 63 then _ else _) _ _ _
    rw [if_neg (by omega)]
    refine wpAny_bind (wpAny_mkInt (wpAny_pure ⟨_, rfl, hQ _ ⟨st.heap, st.os, st.gens⟩⟩))
  unfold truthy
  refine wpAny_bind (m := callSpecial? (.ref a) (Str.ofString "__bool__")) (wpAny_bind (wpAny_bind (I.type.here ((looks_findIn X.K kn_dbool).here (wpAny_pure ?_)))))
  refine wpAny_bind (wpAny_bind (I.type.here ((looks_findIn X.K kn_dlen).here ?_)))
  refine wpAny_bind (wpAny_mono key (fun r s' h' => by obtain ⟨u, rfl, hq⟩ := h'; exact wpAny_pure hq) fun _ _ e => e)
theorem acc_cstr {Q : Value → Shared → Prop} (X : Ctx0 w mg mb s.heap) (C : Acc s.heap a ad xs ps k) (hz : ∀ p ∈ ps, p.1.length ≤ 10000 ∧ p.2.length ≤ 10000) (hn : ps.length ≤ 100) (r : NearR A 10 62)
    (hQ : ∀ s' u, Step [] s s' → Q (.str (lineF ps) u) s') : wpAny (model pw w) A (call (.type "str") [.ref a]) Q E s := by
  obtain ⟨n, od, I⟩ := acc_inst C
  refine kso_call r.in1.in1.room.u X.K I kn_dstr kn_fstr ?_
  refine acc_str X C hz hn r.in1.in1 (fun s' u st => hQ _ _ st)
theorem onlyws_spec {Q : Value → Shared → Prop} (X : Ctx0 w mg mb s.heap) (C : Acc s.heap a ad xs ps k) (hk : k = 0 ∨ k = 1) (hz : ∀ p ∈ ps, p.1.length ≤ 10000 ∧ p.2.length ≤ 10000) (hn : ps.length ≤ 100) (r : NearR A 30 80)
    (hp : 0 < tot ps) (hb : Txt.isspace (lineF ps) = false)
    (hQ : ∀ s', Step [] s s' → Q (.bool false) s') : wpAny (model pw w) A (call (.ref 204) [.ref a]) Q E s := by
  have fm := m_ows w.params
  have hbd : ∀ v, bindArgs (fdM "is_onlyws" "_Accumulator.is_onlyws" (sub (stm 11) 7) [] (pmOf (obK 204 w.params)) (.ref 203) (ctOf (obK 204 w.params)) .none) ⟨[v], []⟩ = (pure [(("self" : Str), v)] : Sem (List (Str × Value))) := fun v => by rfl
  refine call_fn r.room (fm.get X.K) fm.data X.G.nolimit (fm.crec X.K) rfl (BindsTo.of_eq (hbd _)) (fun h₁ F => ?_)
  have G := X.G
  have X1 : Ctx0 w mg mb h₁ := X.step (.of_keep F.keep)
  have C1 := C.on X.T (fun b o _ e => F.keep b o e)
  have hstr := X.G.bi "str" _ (by decide) b_str
  iterate 6 (walk1; (try dsimp only))
  refine acc_init (s := { s with heap := h₁, toks := _ }) X1.K C1 (r.deeper (d := 29) (u := 77) _).near (fun t tk => ?_)
  rcases hk with rfl | rfl
  · iterate 9 (walk1; (try dsimp only))
    refine acc_truthy (s := { s with heap := h₁, toks := _ }) X1 C1 (.inl rfl) hz hn ((r.deeper (d := 29) (u := 77) _).less (by omega) (by omega)) (fun s₂ st₂ => ?_)
    obtain ⟨h₂, g₂, d₂, t₂, o₂⟩ := s₂
    have X2 : Ctx0 w mg mb h₂ := X1.step st₂.heap
    have F2 : h₂.Ns s.heap.objs.size (fun x => [(("self" : Str), Value.ref a)].reverse.lookup x) := ns_step F.ns X1.T st₂.heap (by simp)
    have C2 := C1.on X1.T (fun b o ht e => st₂.heap.keep b o (by simp) ht e)
    rw [show (0 + tot ps != 0) = true by simp; omega]
    have F2 := frNs F2
    iterate 4 (walk1; (try dsimp only))
    refine Call_ ?_
    refine nm_builtin X2.G.g (X2.G.names.free _ (by simp)) X2.G.b hstr ?_
    refine cw ?_
    iterate 3 (walk1; (try dsimp only))
    refine ⟨⟨_, .inr (.inl rfl), keeper_type⟩, ?_⟩
    refine acc_cstr (s := ⟨h₂, g₂, d₂, _, o₂⟩) X2 C2 hz hn ((r.deeper (d := 29) (u := 77) _).less (by omega) (by omega)) (fun s₃ u₃ st₃ => ?_)
    obtain ⟨h₃, g₃, d₃, t₃, o₃⟩ := s₃
    iterate 3 (walk1; (try dsimp only))
    rw [hb]
    exact hQ _ ⟨((StepH.of_keep F.keep).trans st₂.heap).trans st₃.heap, st₃.os.trans st₂.os, fun x => st₃.gens (st₂.gens x)⟩
  · iterate 4 (walk1; (try dsimp only))
    exact hQ _ ⟨.of_keep F.keep, rfl, id⟩
end
end Mine
end
section
open PySem PySem.W PyProof.Rows PySem.Calls
set_option maxRecDepth 100000
set_option maxHeartbeats 800000
set_option Elab.async false
namespace Mine
inductive FDict (h : Heap) (fd : Addr) (wd : Int) (L a : Addr) : Prop
  | mk (n : Nat) (h0 h1 h2 h3 h4 h5 : Int) (t0 t1 t2 t3 t4 t5 u0 u1 u2 u3 : Tok) (e : h.get? fd = some ⟨.type "dict", none, .dict #[⟨h0, .str "_maxlen" t0, .int wd u0⟩, ⟨h1, .str "_continuation_ws" t1, .str "" u1⟩,
    ⟨h2, .str "_continuation_ws_len" t2, .int 0 u2⟩, ⟨h3, .str "_splitchars" t3, .str " " u3⟩, ⟨h4, .str "_lines" t4, .ref L⟩, ⟨h5, .str "_current_line" t5, .ref a⟩] n, #[]⟩) : FDict h fd wd L a
structure Fmt (P : Params) (h : Heap) (f fd L a : Addr) (wd : Int) (ls : List Str) : Prop where
  obj : h.get? f = some (instObj 131 fd)
  dict : FDict h fd wd L a
  lines : ∃ vs, PlainL h L vs.toArray ∧ StrsAre vs ls
  top : Top P L = false
theorem fn_ga {P : Params} : findIn (KN P) (.ref 131) "__getattribute__" = some (some (.builtin "object.__getattribute__")) := by kernel_rfl
theorem fn_gh {P : Params} : findIn (KN P) (.ref 131) "__getattr__" = some none := by kernel_rfl
section
variable {w : World} {A : Around} {E : Value → Shared → Prop} {s : Shared} {f fd L a : Addr} {wd : Int} {ls : List Str} {mg mb : Str → Option Value}
theorem fmt_get {Q : Value → Shared → Prop} {name : Str} {expr : Bool} {P : Value → Prop} (X : (KN w.params).In s.heap) (C : Fmt w.params s.heap f fd L a wd ls)
    (hf : ∀ n h0 h1 h2 h3 h4 h5 t0 t1 t2 t3 t4 t5 u0 u1 u2 u3, ∃ v, findObj (KN w.params) 131 (some ⟨.type "dict", none, .dict #[⟨h0, .str "_maxlen" t0, .int wd u0⟩, ⟨h1, .str "_continuation_ws" t1, .str "" u1⟩,
    ⟨h2, .str "_continuation_ws_len" t2, .int 0 u2⟩, ⟨h3, .str "_splitchars" t3, .str " " u3⟩, ⟨h4, .str "_lines" t4, .ref L⟩, ⟨h5, .str "_current_line" t5, .ref a⟩] n, #[]⟩) name = some (.value v) ∧ handedIn v = true ∧ P v)
    (hQ : ∀ v, P v → Q v { s with toks := s.toks + 1 }) : wpAny (model pw w) A (getAttr (.ref f) name expr) Q E s := by
  obtain ⟨n, h0, h1, h2, h3, h4, h5, t0, t1, t2, t3, t4, t5, u0, u1, u2, u3, e⟩ := C.dict
  obtain ⟨v, hv, hh, hp⟩ := hf n h0 h1 h2 h3 h4 h5 t0 t1 t2 t3 t4 t5 u0 u1 u2 u3
  exact get_value X ⟨C.obj, rfl, rfl, e⟩ fn_ga hv hh (hQ v hp)
theorem fmt_maxlen {Q : Value → Shared → Prop} {expr : Bool} (X : (KN w.params).In s.heap) (C : Fmt w.params s.heap f fd L a wd ls)
    (hQ : ∀ u, Q (.int wd u) { s with toks := s.toks + 1 }) : wpAny (model pw w) A (getAttr (.ref f) "_maxlen" expr) Q E s :=
  fmt_get (P := fun v => ∃ u, v = .int wd u) X C (fun n h0 h1 h2 h3 h4 h5 t0 t1 t2 t3 t4 t5 u0 u1 u2 u3 => ⟨.int wd u0, by kernel_rfl, rfl, u0, rfl⟩) (by rintro v ⟨u, rfl⟩; exact hQ u)
theorem fmt_split {Q : Value → Shared → Prop} {expr : Bool} (X : (KN w.params).In s.heap) (C : Fmt w.params s.heap f fd L a wd ls)
    (hQ : ∀ u, Q (.str " " u) { s with toks := s.toks + 1 }) : wpAny (model pw w) A (getAttr (.ref f) "_splitchars" expr) Q E s :=
  fmt_get (P := fun v => ∃ u, v = .str " " u) X C (fun n h0 h1 h2 h3 h4 h5 t0 t1 t2 t3 t4 t5 u0 u1 u2 u3 => ⟨.str " " u3, by kernel_rfl, rfl, u3, rfl⟩) (by rintro v ⟨u, rfl⟩; exact hQ u)
theorem fmt_lines {Q : Value → Shared → Prop} {expr : Bool} (X : (KN w.params).In s.heap) (C : Fmt w.params s.heap f fd L a wd ls)
    (hQ : Q (.ref L) { s with toks := s.toks + 1 }) : wpAny (model pw w) A (getAttr (.ref f) "_lines" expr) Q E s :=
  fmt_get (P := fun v => v = .ref L) X C (fun n h0 h1 h2 h3 h4 h5 t0 t1 t2 t3 t4 t5 u0 u1 u2 u3 => ⟨.ref L, by kernel_rfl, rfl, rfl⟩) (by rintro v rfl; exact hQ)
theorem fmt_line {Q : Value → Shared → Prop} {expr : Bool} (X : (KN w.params).In s.heap) (C : Fmt w.params s.heap f fd L a wd ls)
    (hQ : Q (.ref a) { s with toks := s.toks + 1 }) : wpAny (model pw w) A (getAttr (.ref f) "_current_line" expr) Q E s :=
  fmt_get (P := fun v => v = .ref a) X C (fun n h0 h1 h2 h3 h4 h5 t0 t1 t2 t3 t4 t5 u0 u1 u2 u3 => ⟨.ref a, by kernel_rfl, rfl, rfl⟩) (by rintro v rfl; exact hQ)
theorem fmt_method {g : Addr} {name : Str} {pl : Sem Bool} {Q : Value × List Value → Shared → Prop} (X : (KN w.params).In s.heap) (C : Fmt w.params s.heap f fd L a wd ls)
    (hf : findIn (KN w.params) (.ref 131) name = some (some (.ref g))) (ht : typeIn (KN w.params) (.ref g) = some (.type "function"))
    (hs : ∀ n h0 h1 h2 h3 h4 h5 t0 t1 t2 t3 t4 t5 u0 u1 u2 u3, shadowIn (some ⟨.type "dict", none, .dict #[⟨h0, .str "_maxlen" t0, .int wd u0⟩, ⟨h1, .str "_continuation_ws" t1, .str "" u1⟩,
    ⟨h2, .str "_continuation_ws_len" t2, .int 0 u2⟩, ⟨h3, .str "_splitchars" t3, .str " " u3⟩, ⟨h4, .str "_lines" t4, .ref L⟩, ⟨h5, .str "_current_line" t5, .ref a⟩] n, #[]⟩) name = some false)
    (h : Q (.ref g, [.ref f]) s) : wpAny (model pw w) A (getMethod (.ref f) name pl) Q E s := by
  obtain ⟨n, h0, h1, h2, h3, h4, h5, t0, t1, t2, t3, t4, t5, u0, u1, u2, u3, e⟩ := C.dict
  exact method_fn X ⟨C.obj, rfl, rfl, e⟩ fn_ga fn_gh hf ht (hs n h0 h1 h2 h3 h4 h5 t0 t1 t2 t3 t4 t5 u0 u1 u2 u3) h
theorem Fmt.noTab {h : Heap} (T : TabO h) (C : Fmt w.params h f fd L a wd ls) : f ∉ Tabs ∧ fd ∉ Tabs ∧ L ∉ Tabs := by
  obtain ⟨n, h0, h1, h2, h3, h4, h5, t0, t1, t2, t3, t4, t5, u0, u1, u2, u3, e⟩ := C.dict
  obtain ⟨vs, hpl, _⟩ := C.lines
  obtain ⟨o, eo, c, r⟩ := hpl.isList
  exact ⟨tabs_cls T C.obj rfl, tabs_cls T e rfl, tabs_cls T eo (by rw [c]; rfl)⟩
theorem Fmt.step {W : List Addr} {h h' : Heap} (T : TabO h) (C : Fmt w.params h f fd L a wd ls) (st : StepH W h h') (h1 : f ∉ W) (h2 : fd ∉ W) (h3 : L ∉ W) : Fmt w.params h' f fd L a wd ls := by
  obtain ⟨q1, q2, q3⟩ := C.noTab T
  obtain ⟨n, h0, h1', h2', h3', h4, h5, t0, t1, t2, t3, t4, t5, u0, u1, u2, u3, e⟩ := C.dict
  obtain ⟨vs, hl, hs⟩ := C.lines
  exact ⟨st.keep _ _ h1 q1 C.obj, ⟨n, h0, h1', h2', h3', h4, h5, t0, t1, t2, t3, t4, t5, u0, u1, u2, u3, st.keep _ _ h2 q2 e⟩, ⟨vs, let ⟨o, n, e, r⟩ := hl; ⟨o, n, st.keep _ _ h3 q3 e, r⟩, hs⟩, C.top⟩
theorem Fmt.apart {h : Heap} {ad : Addr} {xs : Array Value} {ps : List (Str × Str)} {k : Int} (C : Fmt w.params h f fd L a wd ls) (D : Acc h a ad xs ps k) : f ∉ [a, ad] ∧ fd ∉ [a, ad] ∧ L ∉ [a, ad] := by
  obtain ⟨n, h0, h1, h2, h3, h4, h5, t0, t1, t2, t3, t4, t5, u0, u1, u2, u3, e⟩ := C.dict
  obtain ⟨vs, hpl, _⟩ := C.lines
  obtain ⟨o, eo, c, r⟩ := hpl.isList
  obtain ⟨m, e1⟩ := D.obj
  obtain ⟨x, y, z, e2⟩ := D.dict
  have e0 := C.obj
  refine ⟨?_, ?_, ?_⟩ <;> simp only [List.mem_cons, List.not_mem_nil, or_false, not_or] <;> refine ⟨fun q => ?_, fun q => ?_⟩ <;> subst q
  · rw [e0] at e1; cases e1
  · rw [e0] at e2; cases e2
  · rw [e] at e1; cases e1
  · rw [e] at e2; cases e2
  · rw [eo] at e1; cases e1; cases c
  · rw [eo] at e2; cases e2; simp at c
theorem Fmt.apart2 {h : Heap} (C : Fmt w.params h f fd L a wd ls) : f ≠ L ∧ fd ≠ L ∧ f ≠ fd := by
  obtain ⟨n, h0, h1, h2, h3, h4, h5, t0, t1, t2, t3, t4, t5, u0, u1, u2, u3, e⟩ := C.dict
  obtain ⟨vs, hpl, _⟩ := C.lines
  obtain ⟨o, eo, c, r⟩ := hpl.isList
  have e0 := C.obj
  refine ⟨fun q => ?_, fun q => ?_, fun q => ?_⟩ <;> subst q
  · rw [e0] at eo; cases eo; cases c
  · rw [e] at eo; cases eo; simp at c
  · rw [e0] at e; cases e
theorem fmt_lines_ne {h : Heap} {ad : Addr} {xs : Array Value} {ps : List (Str × Str)} {k : Int} (C : Fmt w.params h f fd L a wd ls) (D : Acc h a ad xs ps k) : a ≠ L ∧ ad ≠ L :=
  ⟨fun q => (C.apart D).2.2 (q ▸ .head _), fun q => (C.apart D).2.2 (q ▸ .tail _ (.head _))⟩
end
end Mine
end
section
open PySem PySem.W PyProof.Rows PySem.Calls
set_option maxRecDepth 100000
set_option maxHeartbeats 800000
set_option Elab.async false
namespace Mine
section
variable {M : Model} {A : Around} {E : Value → Shared → Prop} {s : Shared}
theorem new_tup {vs : List Value} {Q : Value → Shared → Prop} (hs : vs.length ≤ 1000) (h : ∀ h' T, KeepH s.heap h' → s.heap.get? T = none → h'.IsTuple T vs.toArray → Q (.ref T) { s with heap := h' }) : wpAny M A (newTuple vs) Q E s :=
  wpAny_newTuple (h _ _ (fun b o e => Heap.get?_push_of_some _ e) (Heap.get?_none_of_le (Nat.le_refl _)) ⟨_, Heap.get?_push_size _ rfl, rfl, 0, rfl⟩) (by rw [sizeLine_eq]; omega)
theorem new_lst {vs : List Value} {Q : Value → Shared → Prop} (hs : vs.length ≤ 1000) (h : ∀ h' T, KeepH s.heap h' → s.heap.get? T = none → h'.IsList T vs.toArray → Q (.ref T) { s with heap := h' }) : wpAny M A (newList vs) Q E s :=
  wpAny_newList (items := vs) (h _ _ (fun b o e => Heap.get?_push_of_some _ e) (Heap.get?_none_of_le (Nat.le_refl _)) ⟨_, Heap.get?_push_size _ rfl, rfl, 0, rfl⟩) (by rw [sizeLine_eq]; omega)
end
theorem reads_tup {h : Heap} {T : Addr} {vs : Array Value} {xs : List PyData} {as : List Addr} (t : h.IsTuple T vs) (r : ReadsAll h vs.toList xs as) : Reads h (.ref T) (.tuple xs) as :=
  let ⟨_, e, c, _, d⟩ := t; reads_tuple_at e c d r
theorem star_tup {prog : Program} {w : World} {A : Around} {E : Value → Shared → Prop} {s : Shared} {T : Addr} {vs : Array Value} {Q : List Value → Shared → Prop} (t : s.heap.IsTuple T vs) (hz : vs.size ≤ 1000)
    (h : ∀ h', KeepH s.heap h' → Q vs.toList { s with heap := h' }) : StarOf (model prog w) A E (.ref T) Q s := by
  obtain ⟨o, e, c, n, d⟩ := t
  have hT' : s.TypeIs (.ref T) "tuple" := ⟨o, e, c⟩
  have z : wpAny (model prog w) A (collect (.ref T)) Q E s := wpAny_collect_seq (T := "tuple") T (.inr rfl) e c d (fun h' hk => h h' hk) (by rw [sizeLine_eq]; omega)
  unfold StarOf notIterableAtAll
  exact wpAny_bind (wpAny_specialOf hT' PySem.F.slot_tuple_iter.lookup (wpAny_pure ⟨rfl, z⟩))
theorem NearR.u64 {A : Around} {d u : Nat} (r : NearR A d u) (hu : 64 ≤ u) : A.units + 64 < cLine := by have := r.units; simp only [cLine]; omega
theorem stepH_same {h h' : Heap} {L : Addr} (sb : Heap.SameBut L h h') (hL : L ∉ Tabs) : StepH [L] h h' :=
  ⟨fun b o hb _ e => (sb.2 b (fun q => hb (q ▸ .head _))).trans e, fun t ht ps e o => ⟨#[], by rw [Array.append_empty]; exact (sb.2 t (fun q => hL (q ▸ ht))).trans e, by rw [Array.append_empty]; exact o⟩⟩
theorem StepH.trans_new {W : List Addr} {h0 h h' : Heap} {L0 : Addr} (a : StepH W h0 h) (b : StepH [L0] h h') (hn : h0.get? L0 = none) : StepH W h0 h' where
  keep x o hx ht e := b.keep x o (fun m => by simp at m; subst m; rw [hn] at e; cases e) ht (a.keep x o hx ht e)
  tabs t ht ps e o := by
    obtain ⟨m1, e1, o1⟩ := a.tabs t ht ps e o
    obtain ⟨m2, e2, o2⟩ := b.tabs t ht _ e1 o1
    exact ⟨m1 ++ m2, by rw [← Array.append_assoc]; exact e2, by rw [← Array.append_assoc]; exact o2⟩
section
variable {w : World} {f fd L a ad : Addr} {wd : Int} {ls : List Str} {xs : Array Value} {ps : List (Str × Str)} {k : Int} {mg mb : Str → Option Value}
theorem Acc.stepW {W : List Addr} {h h' : Heap} (C : Acc h a ad xs ps k) (st : StepH W h h') (T : TabO h) (ha : a ∉ W) (hd : ad ∉ W) (hi : ∀ b ∈ W, ∀ vs, ¬ h.IsTuple b vs) : Acc h' a ad xs ps k := by
  obtain ⟨n, e1⟩ := C.obj
  obtain ⟨x, y, z, e2⟩ := C.dict
  refine ⟨⟨n, st.keep _ _ ha (tabs_cls T e1 rfl) e1⟩, ⟨x, y, z, st.keep _ _ hd (tabs_cls T e2 rfl) e2⟩, C.len, fun j hj => ?_⟩
  obtain ⟨t, u, u', e, i⟩ := C.items j hj
  refine ⟨t, u, u', e, tup_on i fun o e => st.keep _ _ (fun m => hi _ m _ i) ?_ e⟩
  obtain ⟨o', e', c, _⟩ := i
  exact tabs_cls T e' (by rw [c]; rfl)
structure Live (w : World) (mg mb : Str → Option Value) (h0 : Heap) (L0 f fd L a ad : Addr) (wd : Int) (ls : List Str) (xs : Array Value) (ps : List (Str × Str)) (k : Int) (m : Str → Option Value) (h : Heap) : Prop where
  new : h0.get? L0 = none
  ne : L0 ∉ [f, fd, L, a, ad]
  top : Top w.params L0 = false
  X : Ctx0 w mg mb h
  D : Fmt w.params h f fd L a wd ls
  C : Acc h a ad xs ps k
  F : h.Ns L0 m
  st : StepH [a, ad, L] h0 h
variable {h0 h h' : Heap} {L0 : Addr} {m m' : Str → Option Value}
theorem top_new {h : Heap} (X : Ctx0 w mg mb h) {b : Addr} (hn : h.get? b = none) : Top w.params b = false := by
  unfold Top
  rw [Bool.or_eq_false_iff]
  constructor
  · cases e : (KN w.params).lookup b with
    | none => rfl
    | some o => have := X.K _ _ e; rw [hn] at this; cases this
  · rw [← Bool.not_eq_true]
    intro q
    obtain ⟨ps, e, _⟩ := X.T b (by simpa using q)
    rw [hn] at e; cases e
theorem Live.begin (X : Ctx0 w mg mb h0) (D : Fmt w.params h0 f fd L a wd ls) (C : Acc h0 a ad xs ps k) (F : Fr h0 h0.objs.size h m) : Live w mg mb h0 h0.objs.size f fd L a ad wd ls xs ps k m h := by
  have hn : h0.get? h0.objs.size = none := Heap.get?_none_of_le (Nat.le_refl _)
  refine ⟨hn, fun q => ?_, top_new X hn, X.step (.of_keep F.keep), D.step X.T (.of_keep (W := []) F.keep) (by simp) (by simp) (by simp), C.on X.T (fun b o _ e => F.keep b o e), F.ns, .of_keep F.keep⟩
  obtain ⟨_, _, _, _, _, _, _, _, _, _, _, _, _, _, _, _, _, e⟩ := D.dict
  obtain ⟨vs, hpl, _⟩ := D.lines
  obtain ⟨o, eo, _⟩ := hpl.isList
  obtain ⟨_, e1⟩ := C.obj
  obtain ⟨_, _, _, e2⟩ := C.dict
  have e0 := D.obj
  simp only [List.mem_cons, List.not_mem_nil, or_false] at q
  rcases q with q | q | q | q | q
  · rw [← q, hn] at e0; cases e0
  · rw [← q, hn] at e; cases e
  · rw [← q, hn] at eo; cases eo
  · rw [← q, hn] at e1; cases e1
  · rw [← q, hn] at e2; cases e2
theorem Live.noTab (V : Live w mg mb h0 L0 f fd L a ad wd ls xs ps k m h) : L0 ∉ Tabs := fun q => by
  have := V.top
  unfold Top at this
  rw [Bool.or_eq_false_iff] at this
  have h2 := this.2
  rw [← Bool.not_eq_true] at h2
  exact h2 (by simpa using q)
theorem ns_noTuple {h : Heap} {m : Str → Option Value} (F : h.Ns L0 m) (vs : Array Value) : ¬ h.IsTuple L0 vs := fun i => by
  obtain ⟨o, es, ep, eo, ed, _⟩ := F
  obtain ⟨o', eo', _, n', ed'⟩ := i
  rw [eo] at eo'; cases eo'; rw [ed] at ed'; cases ed'
theorem Live.loc (V : Live w mg mb h0 L0 f fd L a ad wd ls xs ps k m h) (sb : Heap.SameBut L0 h h') (hn : h'.Ns L0 m') : Live w mg mb h0 L0 f fd L a ad wd ls xs ps k m' h' := by
  have st := stepH_same sb V.noTab
  have n := V.ne
  simp only [List.mem_cons, List.not_mem_nil, or_false, not_or] at n
  refine ⟨V.new, V.ne, V.top, V.X.stepW st (by simp [V.top]), V.D.step V.X.T st (by simp [Ne.symm n.1]) (by simp [Ne.symm n.2.1]) (by simp [Ne.symm n.2.2.1]),
    V.C.stepW st V.X.T (by simp [Ne.symm n.2.2.2.1]) (by simp [Ne.symm n.2.2.2.2]) (fun b hb vs i => by simp at hb; subst hb; exact ns_noTuple V.F vs i), hn, V.st.trans_new st V.new⟩
theorem Live.step (V : Live w mg mb h0 L0 f fd L a ad wd ls xs ps k m h) (st : StepH [] h h') : Live w mg mb h0 L0 f fd L a ad wd ls xs ps k m h' :=
  ⟨V.new, V.ne, V.top, V.X.step st, V.D.step V.X.T st (by simp) (by simp) (by simp), V.C.on V.X.T st.keepT, ns_step V.F V.X.T st (by simp), V.st.trans (st.mono (by simp))⟩
theorem Live.keep (V : Live w mg mb h0 L0 f fd L a ad wd ls xs ps k m h) (kp : KeepH h h') : Live w mg mb h0 L0 f fd L a ad wd ls xs ps k m h' := V.step (.of_keep kp)
theorem Live.acc {xs' : Array Value} {ps' : List (Str × Str)} {k' : Int} (V : Live w mg mb h0 L0 f fd L a ad wd ls xs ps k m h) (st : StepH [a, ad] h h') (C' : Acc h' a ad xs' ps' k') : Live w mg mb h0 L0 f fd L a ad wd ls xs' ps' k' m h' := by
  have n := V.ne
  simp only [List.mem_cons, List.not_mem_nil, or_false, not_or] at n
  have ap := V.D.apart V.C
  exact ⟨V.new, V.ne, V.top, V.X.stepW st (acc_top V.X V.C), V.D.step V.X.T st ap.1 ap.2.1 ap.2.2, C', ns_step V.F V.X.T st (by simp [n.2.2.2.1, n.2.2.2.2]), V.st.trans (st.mono (by simp))⟩
theorem Live.lines {ls' : List Str} (V : Live w mg mb h0 L0 f fd L a ad wd ls xs ps k m h) (st : StepH [L] h h') (hl : ∃ vs, PlainL h' L vs.toArray ∧ StrsAre vs ls') : Live w mg mb h0 L0 f fd L a ad wd ls' xs ps k m h' := by
  have n := V.ne
  simp only [List.mem_cons, List.not_mem_nil, or_false, not_or] at n
  have ap := V.D.apart2
  have ap2 := fmt_lines_ne V.D V.C
  have q := V.D.noTab V.X.T
  obtain ⟨nn, h0', h1, h2, h3, h4, h5, t0, t1, t2, t3, t4, t5, u0, u1, u2, u3, e⟩ := V.D.dict
  have D' : Fmt w.params h' f fd L a wd ls' := ⟨st.keep _ _ (by simp [ap.1]) q.1 V.D.obj, ⟨nn, h0', h1, h2, h3, h4, h5, t0, t1, t2, t3, t4, t5, u0, u1, u2, u3, st.keep _ _ (by simp [ap.2.1]) q.2.1 e⟩, hl, V.D.top⟩
  refine ⟨V.new, V.ne, V.top, V.X.stepW st (by simp [V.D.top]), D', V.C.stepW st V.X.T (by simp [ap2.1]) (by simp [ap2.2]) (fun b hb vs i => ?_), ns_step V.F V.X.T st (by simp [n.2.2.1]), V.st.trans (st.mono (by simp))⟩
  simp at hb; subst hb
  obtain ⟨_, hpl, _⟩ := V.D.lines
  obtain ⟨o, eo, c, _⟩ := hpl.isList
  obtain ⟨o', eo', c', _⟩ := i
  rw [eo] at eo'; cases eo'; rw [c] at c'; simp at c'
theorem Live.fr (V : Live w mg mb h0 L0 f fd L a ad wd ls xs ps k m h) : Fr { objs := #[] } L0 h m := frNs V.F
theorem Live.tup {T : Addr} {vs : Array Value} (V : Live w mg mb h0 L0 f fd L a ad wd ls xs ps k m h) (t : h.IsTuple T vs) (sb : Heap.SameBut L0 h h') : h'.IsTuple T vs :=
  tup_on t fun o e => (sb.2 _ (fun q => ns_noTuple V.F vs (q ▸ t))).trans e
theorem Live.tupW {W : List Addr} {T : Addr} {vs : Array Value} (V : Live w mg mb h0 L0 f fd L a ad wd ls xs ps k m h) (t : h.IsTuple T vs) (st : StepH W h h') (hW : ∀ b ∈ W, b ∈ [a, ad, L]) : h'.IsTuple T vs := by
  refine tup_on t fun o e => st.keep _ _ (fun q => ?_) ?_ e
  · have hm := hW _ q
    obtain ⟨o', eo, c, n', d⟩ := t
    obtain ⟨vs, hpl, _⟩ := V.D.lines
    obtain ⟨oL, eL, cL, _⟩ := hpl.isList
    obtain ⟨n, e1⟩ := V.C.obj
    obtain ⟨x, y, z, e2⟩ := V.C.dict
    simp only [List.mem_cons, List.not_mem_nil, or_false] at hm
    rcases hm with rfl | rfl | rfl
    · rw [eo] at e1; cases e1; cases c
    · rw [eo] at e2; cases e2; simp at c
    · rw [eo] at eL; cases eL; rw [cL] at c; simp at c
  · obtain ⟨o', eo, c, n', d⟩ := t
    exact tabs_cls V.X.T eo (by rw [c]; rfl)
end
end Mine
end
section
open PySem PySem.W PyProof.Rows PySem.Calls
set_option maxRecDepth 100000
set_option maxHeartbeats 800000
set_option Elab.async false
namespace Mine
section
variable {prog : Program} {w : World} {A : Around} {E : Value → Shared → Prop} {s : Shared}
theorem code_fn {a : Addr} {o : Obj} {fd : FuncData} {body : List Stmt} {args : List Value} {kw : List (Str × Value)} {binds : List (Str × Value)} {Q : Value → Shared → Prop} {d u : Nat}
    (r : Room A d u) (ho : s.heap.get? a = some o) (hdata : o.data = .func fd) (hlim : s.heap.NoLimit) (hcd : s.heap.CodeRec fd.code fd.qualname)
    (hbody : fd.body = .stmts body) (hbind : BindsTo s fd ⟨args, kw⟩ binds)
    (h : ∀ h₁, Fr s.heap s.heap.objs.size h₁ (fun x => binds.reverse.lookup x) →
      wpAny (model prog w) (A.deeper (callEnv fd s.heap.objs.size a)) (execs body (callEnv fd s.heap.objs.size a)) (fun f s' => Q (match f with | .ret v => v | _ => .none) s') NoE
        { s with heap := h₁, toks := s.toks + binds.length })
    (hcell : (fd.scope.names.all fun x => x.2 != .cell) = true := by rfl) (hloc : (binds.all fun x => fd.scope.names.lookup x.1 == some .local) = true := by rfl)
    (hco : fd.scope.isCoroutine = false := by rfl) (hgen : fd.scope.isGenerator = false := by rfl) (hk : fd.scope.kind = .function := by rfl) :
    codeAny (model prog w) A (.call (.ref a) ⟨args, kw⟩) (RetP Q E) s :=
  codeAny_call_def r.d ho hdata hlim hcd hbody hbind (fun x hx => by have := List.all_eq_true.mp hcell x hx; simpa using this) (fun x hx => by have := List.all_eq_true.mp hloc x hx; simpa using this) (fun h₁ hn hk => wpAny_mono (h h₁ ⟨hn, hk, Nat.le_refl _⟩) (fun _ _ q => q) fun _ _ x => x.elim) hco hgen hk
theorem StarCall_ {M : Model} {env : Env} {o e : Expr} {name : Str} {apos p pos : Pos} {Q : Value → Shared → Prop}
    (h : wpAny M A (eval o env) (fun ov s₁ => wpAny M A (getAttr ov name true) (fun f s₂ => wpAny M A (callWith pos f [] (backTo pos (starEach [.Starred e p] env)) []) Q E s₂) E s₁) E s)
    (hb : attributeBase o name env (eval o env) = eval o env := by rfl) : wpAny M A (eval (.Call (.Attribute o name apos) [.Starred e p] [] pos) env) Q E s := by
  rw [arm_eval_Call, hb]
  refine wpAny_bind (wpAny_mono h (fun ov s₁ h₁ => wpAny_bind (wpAny_standAt ?_)) fun _ _ x => x)
  unfold methodCall
  show wpAny M A (holding [ov] (getAttr ov name true >>= fun x => pure (x, [])) >>= _) Q E s₁
  refine wpAny_bind (wpAny_holding (wpAny_bind (wpAny_mono h₁ (fun f s₂ h₂ => wpAny_pure ?_) fun _ _ x => x)))
  exact wpAny_bind (wpAny_pure h₂)
end
theorem acc_gp0 {w : World} {s : Shared} {A : Around} {E : Value → Shared → Prop} {a ad : Addr} {xs : Array Value} {n : Nat} {k : Int} {hs : Int} {t1 t2 t3 : Tok} {Q : Value → Shared → Prop} (KX : (KN w.params).In s.heap)
    (h1 : s.heap.get? a = some ⟨.ref 215, some ad, .seq xs n, #[]⟩) (h2 : s.heap.get? ad = some ⟨.type "dict", none, .dict #[⟨hs, .str "_initial_size" t1, .int k t2⟩] 1, #[]⟩)
    (hQ : ∀ h' tk m, KeepH s.heap h' → s.heap.get? m = none → h'.get? m = some { cls := .type "method", data := .fields #[.ref 159, .ref a] } → Q (.ref m) ⟨h', s.gens, s.drawn, tk, s.os⟩) :
    wpAny (model pw w) A (call (.builtin "list.__getattribute__") [.ref a, .str "push" t3] []) Q E s := by
  refine lga_find (r := .bind (.builtin "function.__get__") (.ref 159)) KX h1 h2 (by kernel_rfl) ?_ (by simp)
  refine wpAny_bind (wpAny_holding (wpAny_call (fn_get KX (by kernel_rfl) ?_)))
  exact wpAny_pure ⟨_, rfl, hQ _ _ _ (fun b o e => Heap.get?_push_of_some _ e) (Heap.get?_none_of_le (Nat.le_refl _)) (Heap.get?_push_size _ rfl)⟩
section
variable {w : World} {A : Around} {E : Value → Shared → Prop} {s : Shared} {a ad : Addr} {xs : Array Value} {ps : List (Str × Str)} {k : Int} {mg mb : Str → Option Value}
theorem acc_gpush {Q : Value → Shared → Prop} {expr : Bool} (X : (KN w.params).In s.heap) (C : Acc s.heap a ad xs ps k) (r : Near A)
    (h : ∀ h' tk m, KeepH s.heap h' → s.heap.get? m = none → h'.get? m = some { cls := .type "method", data := .fields #[.ref 159, .ref a] } → Q (.ref m) { s with heap := h', toks := tk }) :
    wpAny (model pw w) A (getAttr (.ref a) "push" expr) Q E s := by
  obtain ⟨n, e1⟩ := C.obj
  obtain ⟨hs, t1, t2, e2⟩ := C.dict
  obtain ⟨hh, g, d, t, os⟩ := s
  have L0 := acc_type (M := model pw w) e1
  unfold getAttr getAttrBy
  refine wpAny_bind (wpAny_mkText (wpAny_holding (wpAny_bind (L0.at (wpAny_bind ((looks_findIn (M := model pw w) X kn_lga).at ?_))))))
  dsimp only
  rw [if_neg (by decide)]
  unfold getAttrByItsOwn hookBefore
  refine wpAny_bind ?_
  rw [if_pos (by rfl)]
  refine (looks_findIn (M := model pw w) X kn_gat).at ?_
  refine wpAny_bind (wpAny_attempt (wpAny_holding ?_))
  unfold callGetattribute
  rw [if_neg (by cases expr <;> decide)]
  unfold boundAndCalled
  rw [lga_bind]
  refine wpAny_bind (wpAny_pure ?_)
  refine acc_gp0 (s := ⟨hh, g, d, t + 1, os⟩) X e1 e2 (fun h' tk m k₁ n₁ e => ?_)
  exact wpAny_pure (h h' tk m k₁ n₁ e)
theorem strs_snoc {x : Str} {u : Tok} : ∀ {vs : List Value} {xs : List Str}, StrsAre vs xs → StrsAre (vs ++ [.str x u]) (xs ++ [x])
  | _, _, .nil => .cons _ _ .nil
  | _, _, .cons y t r => .cons y t (strs_snoc r)
theorem keeper_meth {M : Model} {P : Params} {h : Heap} {m : Addr} (X : (KN P).In h) (e : h.get? m = some { cls := .type "method", data := .fields #[.ref 159, .ref a] }) : Looks M h (keeperOf (.ref m)) .boundFrame := by
  refine (Looks.ld (part := none) e).andThen ?_
  dsimp only
  rw [if_neg (by decide +kernel)]
  refine (Looks.ld (part := none) ((m_push P).get X)).andThen ?_
  rw [(m_push P).data]
  exact .now
theorem push_code {f p : Str} {u u' : Tok} {Q : Value → Shared → Prop} (X : Ctx0 w mg mb s.heap) (C : Acc s.heap a ad xs ps k) (hn : ps.length ≤ 1000) (r : NearR A 10 60)
    (hQ : ∀ s' xs', Step [a] s s' → Acc s'.heap a ad xs' (ps ++ [(f, p)]) k → Q .none s') : codeAny (model pw w) A (.call (.ref 159) ⟨[.ref a, .str f u, .str p u'], []⟩) (RetP Q E) s := by
  have fm := m_push w.params
  have hb : ∀ x y z, bindArgs (fdM "push" "_Accumulator.push" (sub (stm 11) 1) [] (pmOf (obK 159 w.params)) (.ref 158) (ctOf (obK 159 w.params)) .none) ⟨[x, y, z], []⟩ = (pure [(("self" : Str), x), (("fws" : Str), y), (("string" : Str), z)] : Sem (List (Str × Value))) := fun x y z => by rfl
  refine code_fn r.room (fm.get X.K) fm.data X.G.nolimit (fm.crec X.K) rfl (BindsTo.of_eq (hb _ _ _)) (fun h₁ F => ?_)
  have G := X.G
  have X1 : Ctx0 w mg mb h₁ := X.step (.of_keep F.keep)
  have C1 := C.on X.T (fun b o _ e => F.keep b o e)
  have haT : a ∉ Tabs := let ⟨_, e⟩ := C.obj; tabs_cls X.T e rfl
  iterate 4 (walk1; (try dsimp only))
  refine acc_method X1.K C1 kn_append kn_tappend rfl (by decide) ?_
  refine cw ?_
  iterate 7 (walk1; (try dsimp only))
  refine wpAny_newTuple (items := [.str f u, .str p u']) ?_ (by simp [sizeLine])
  have k2 : KeepH h₁ (h₁.push { cls := .type "tuple", data := .seq #[.str f u, .str p u'] }) := fun b o e => Heap.get?_push_of_some _ e
  have X2 := X1.step (.of_keep k2)
  have C2 := C1.on X1.T (fun b o _ e => k2 b o e)
  (walk1; (try dsimp only))
  refine ⟨⟨_, .inr (.inl rfl), keeper_builtin⟩, ?_⟩
  refine acc_append (f := f) (p := p) (u := u) (u' := u') (s := { s with heap := h₁.push { cls := .type "tuple", data := .seq #[.str f u, .str p u'] }, toks := _ }) X2.K C2 hn ⟨_, Heap.get?_push_size _ rfl, rfl, 0, rfl⟩ (fun C3 => ?_)
  iterate 1 (walk1; (try dsimp only))
  refine hQ _ _ ⟨((StepH.of_keep F.keep).trans (.of_keep k2)).trans (stepH_upd (.head _) haT), rfl, id⟩ C3
theorem push_meth {m : Addr} {f p : Str} {u u' : Tok} {Q : Value → Shared → Prop} (X : Ctx0 w mg mb s.heap) (C : Acc s.heap a ad xs ps k) (hn : ps.length ≤ 1000) (r : NearR A 10 60)
    (e : s.heap.get? m = some { cls := .type "method", data := .fields #[.ref 159, .ref a] })
    (hQ : ∀ s' xs', Step [a] s s' → Acc s'.heap a ad xs' (ps ++ [(f, p)]) k → Q .none s') : wpAny (model pw w) A (call (.ref m) [.str f u, .str p u']) Q E s :=
  wpAny_call (ks_codeAny_call_bound e (push_code X C hn r hQ))
end
end Mine
end
section
open PySem PySem.W PyProof.Rows PySem.Calls
set_option maxRecDepth 100000
set_option maxHeartbeats 800000
set_option Elab.async false
namespace Mine
theorem m_newline (P : Params) : FnAt' P 93 "newline" "_ValueFormatter.newline" (sub (stm 10) 3) [] 92 .none := ⟨by kernel_rfl, by kernel_rfl, by kernel_rfl, by kernel_rfl⟩
theorem kn_mpop {P : Params} : findIn (KN P) (.ref 215) "pop" = some (some (.ref 175)) := by kernel_rfl
theorem kn_tmpop {P : Params} : typeIn (KN P) (.ref 175) = some (.type "function") := by kernel_rfl
theorem kn_mpush {P : Params} : findIn (KN P) (.ref 215) "push" = some (some (.ref 159)) := by kernel_rfl
theorem kn_tmpush {P : Params} : typeIn (KN P) (.ref 159) = some (.type "function") := by kernel_rfl
theorem kn_mows {P : Params} : findIn (KN P) (.ref 215) "is_onlyws" = some (some (.ref 204)) := by kernel_rfl
theorem kn_tmows {P : Params} : typeIn (KN P) (.ref 204) = some (.type "function") := by kernel_rfl
theorem kn_mreset {P : Params} : findIn (KN P) (.ref 215) "reset" = some (some (.ref 197)) := by kernel_rfl
theorem kn_tmreset {P : Params} : typeIn (KN P) (.ref 197) = some (.type "function") := by kernel_rfl
theorem kn_mpopf {P : Params} : findIn (KN P) (.ref 215) "pop_from" = some (some (.ref 167)) := by kernel_rfl
theorem kn_tmpopf {P : Params} : typeIn (KN P) (.ref 167) = some (.type "function") := by kernel_rfl
section
variable {w : World} {A : Around} {E : Value → Shared → Prop} {s : Shared} {f fd L a ad : Addr} {wd : Int} {ls : List Str} {xs : Array Value} {ps : List (Str × Str)} {k : Int} {mg mb : Str → Option Value}
theorem newline_spec {f0 p0 : Str} {Q : Value → Shared → Prop} (X : Ctx0 w mg mb s.heap) (D : Fmt w.params s.heap f fd L a wd ls) (C : Acc s.heap a ad xs (ps ++ [(f0, p0)]) k) (hk : k = 0 ∨ k = 1)
    (hz : ∀ p ∈ ps ++ [(f0, p0)], p.1.length ≤ 10000 ∧ p.2.length ≤ 10000) (hn : ps.length ≤ 50) (hn2 : ls.length ≤ 100) (r : NearR A 40 100)
    (hne : p0 ≠ "") (hok : PyData.strOk f0 = true ∧ PyData.strOk p0 = true) (hp : 0 < tot (ps ++ [(f0, p0)])) (hb : Txt.isspace (lineF (ps ++ [(f0, p0)])) = false)
    (hQ : ∀ s', Step [a, ad, L] s s' → Fmt w.params s'.heap f fd L a wd (ls ++ [lineF (ps ++ [(f0, p0)])]) → Acc s'.heap a ad #[] [] 0 → Q .none s') : wpAny (model pw w) A (call (.ref 93) [.ref f]) Q E s := by
  have fm := m_newline w.params
  have hbd : ∀ v, bindArgs (fdM "newline" "_ValueFormatter.newline" (sub (stm 10) 3) [] (pmOf (obK 93 w.params)) (.ref 92) (ctOf (obK 93 w.params)) .none) ⟨[v], []⟩ = (pure [(("self" : Str), v)] : Sem (List (Str × Value))) := fun v => by rfl
  refine call_fn r.room (fm.get X.K) fm.data X.G.nolimit (fm.crec X.K) rfl (BindsTo.of_eq (hbd _)) (fun h₁ F => ?_)
  have V := Live.begin X D C F
  generalize s.heap.objs.size = L0 at V ⊢
  clear F
  have hr := (r.deeper (d := 39) (u := 97))
  iterate 5 ((repeat ((with_reducible refine shows (by assumption) ?_); (try dsimp only))); walk1; (try dsimp only); (repeat ((with_reducible refine shows (by assumption) ?_); (try dsimp only))); (try (refine hideS ?_; intro Q_ E_ tk_ hQ_)))
  refine fmt_line (s := { s with heap := h₁, toks := _ }) V.X.K V.D ?_
  refine acc_method (s := { s with heap := h₁, toks := _ }) V.X.K V.C kn_mpop kn_tmpop rfl (by decide) ?_
  refine cw0 ⟨_, .inl rfl, keeper_fn ((m_pop w.params).get V.X.K) (m_pop w.params).data⟩ ?_
  refine pop_spec (s := { s with heap := h₁, toks := _ }) V.X V.C (by omega) ((hr _).less (by omega) (by omega)) (fun s₂ T xs₂ u u' st₂ C2 hT => ?_)
  obtain ⟨h₂, g₂, d₂, t₂, o₂⟩ := s₂
  dsimp only at C2 hT st₂
  replace V := V.acc (st₂.heap.mono (by simp)) C2
  have os₂ := st₂.os
  have gs₂ := st₂.gens
  clear st₂ C2
  refine st_local V.fr (fun h₃ F3 sb => ?_)
  replace hT := V.tup hT sb
  replace V := V.loc sb F3.ns
  clear F3 sb
  iterate 10 ((repeat ((with_reducible refine shows (by assumption) ?_); (try dsimp only))); walk1; (try dsimp only); (repeat ((with_reducible refine shows (by assumption) ?_); (try dsimp only))); (try (refine hideS ?_; intro Q_ E_ tk_ hQ_)))
  refine new_tup (by simp) (fun h₄ T4 k4 _ t4 => ?_)
  have hT4 := tup_on hT fun o e => k4 _ _ e
  replace V := V.keep k4
  refine ne_dataH (da := .tuple [.str f0, .str p0]) (db := .tuple [.str " ", .str ""]) (reads_tup hT4 (ReadsAll.cons (Reads.str _ _) (ReadsAll.cons (Reads.str _ _) ReadsAll.nil))) (reads_tup t4 (ReadsAll.cons (Reads.str _ _) (ReadsAll.cons (Reads.str _ _) ReadsAll.nil)))
    (by simp [SeqAt.shaped, PyData.canLay0, PyData.canLayAll0, hok.1, hok.2, PyData.depth, PyData.depthAll]) (by kernel_rfl) ((hr _).u64 (by decide)) ?_
  have hv : (!PyData.eqv (.tuple [.str f0, .str p0]) (.tuple [.str " ", .str ""])) = true := by
    simp [PyData.eqv, PyData.eqvAll, hne]
  rw [hv]
  clear hv
  iterate 4 ((repeat ((with_reducible refine shows (by assumption) ?_); (try dsimp only))); walk1; (try dsimp only); (repeat ((with_reducible refine shows (by assumption) ?_); (try dsimp only))); (try (refine hideS ?_; intro Q_ E_ tk_ hQ_)))
  refine StarCall_ ?_
  iterate 2 ((repeat ((with_reducible refine shows (by assumption) ?_); (try dsimp only))); walk1; (try dsimp only); (repeat ((with_reducible refine shows (by assumption) ?_); (try dsimp only))); (try (refine hideS ?_; intro Q_ E_ tk_ hQ_)))
  refine fmt_line (s := ⟨h₄, g₂, d₂, _, o₂⟩) V.X.K V.D ?_
  refine acc_gpush (s := ⟨h₄, g₂, d₂, _, o₂⟩) V.X.K V.C (hr _).near (fun h₅ tk₅ m k5 _ em => ?_)
  replace V := V.keep k5
  refine ks_call (P := fun h => h.get? m = some { cls := .type "method", data := .fields #[.ref 159, .ref a] } ∧ (KN w.params).In h) rfl (fun h hp => ⟨_, .inr (.inr rfl), keeper_meth hp.2 hp.1⟩) (ks_lone ?_)
  ((repeat ((with_reducible refine shows (by assumption) ?_); (try dsimp only))); walk1; (try dsimp only); (repeat ((with_reducible refine shows (by assumption) ?_); (try dsimp only))); (try (refine hideS ?_; intro Q_ E_ tk_ hQ_)))
  refine star_tup (tup_on hT4 fun o e => k5 _ _ e) (by simp) (fun h₆ k6 => ?_)
  replace V := V.keep k6
  refine ⟨⟨k6 _ _ em, V.X.K⟩, ?_⟩
  refine push_meth (s := ⟨h₆, g₂, d₂, _, o₂⟩) V.X V.C (by omega) ((hr _).less (by omega) (by omega)) (k6 _ _ em) (fun s₆ xs₆ st₆ C6 => ?_)
  clear em k5 k6 k4 hT4 hT t4
  obtain ⟨h₇, g₆, d₆, t₆, o₆⟩ := s₆
  dsimp only at C6 st₆
  replace V := V.acc (st₆.heap.mono (by simp)) C6
  have os₆ := st₆.os
  have gs₆ := st₆.gens
  clear st₆ C6
  iterate 4 ((repeat ((with_reducible refine shows (by assumption) ?_); (try dsimp only))); walk1; (try dsimp only); (repeat ((with_reducible refine shows (by assumption) ?_); (try dsimp only))); (try (refine hideS ?_; intro Q_ E_ tk_ hQ_)))
  refine Call_ ?_
  refine nm_builtin V.X.G.g (V.X.G.names.free _ (by simp)) V.X.G.b (V.X.G.bi "len" _ (by decide) b_len) ?_
  refine cw ?_
  iterate 3 ((repeat ((with_reducible refine shows (by assumption) ?_); (try dsimp only))); walk1; (try dsimp only); (repeat ((with_reducible refine shows (by assumption) ?_); (try dsimp only))); (try (refine hideS ?_; intro Q_ E_ tk_ hQ_)))
  refine fmt_line (s := ⟨h₇, g₆, d₆, _, o₆⟩) V.X.K V.D ?_
  iterate 1 ((repeat ((with_reducible refine shows (by assumption) ?_); (try dsimp only))); walk1; (try dsimp only); (repeat ((with_reducible refine shows (by assumption) ?_); (try dsimp only))); (try (refine hideS ?_; intro Q_ E_ tk_ hQ_)))
  refine ⟨⟨_, .inr (.inl rfl), keeper_builtin⟩, ?_⟩
  refine acc_blen (s := ⟨h₇, g₆, d₆, _, o₆⟩) V.X V.C hk hz (by simp; omega) ((hr _).less (by omega) (by omega)) (fun s₈ u₈ st₈ => ?_)
  obtain ⟨h₈, g₈, d₈, t₈, o₈⟩ := s₈
  replace V := V.step st₈.heap
  have os₈ := st₈.os
  have gs₈ := st₈.gens
  clear st₈
  iterate 3 ((repeat ((with_reducible refine shows (by assumption) ?_); (try dsimp only))); walk1; (try dsimp only); (repeat ((with_reducible refine shows (by assumption) ?_); (try dsimp only))); (try (refine hideS ?_; intro Q_ E_ tk_ hQ_)))
  rw [show decide (0 < k + tot (ps ++ [(f0, p0)])) = true by simp; omega]
  iterate 4 ((repeat ((with_reducible refine shows (by assumption) ?_); (try dsimp only))); walk1; (try dsimp only); (repeat ((with_reducible refine shows (by assumption) ?_); (try dsimp only))); (try (refine hideS ?_; intro Q_ E_ tk_ hQ_)))
  iterate 4 ((repeat ((with_reducible refine shows (by assumption) ?_); (try dsimp only))); walk1; (try dsimp only); (repeat ((with_reducible refine shows (by assumption) ?_); (try dsimp only))); (try (refine hideS ?_; intro Q_ E_ tk_ hQ_)))
  refine fmt_line (s := ⟨h₈, g₈, d₈, _, o₈⟩) V.X.K V.D ?_
  refine acc_method (s := ⟨h₈, g₈, d₈, _, o₈⟩) V.X.K V.C kn_mows kn_tmows rfl (by decide) ?_
  refine cw0 ⟨_, .inl rfl, keeper_fn ((m_ows w.params).get V.X.K) (m_ows w.params).data⟩ ?_
  refine onlyws_spec (s := ⟨h₈, g₈, d₈, _, o₈⟩) V.X V.C hk hz (by simp; omega) ((hr _).less (by omega) (by omega)) hp hb (fun s₉ st₉ => ?_)
  obtain ⟨h₉, g₉, d₉, t₉, o₉⟩ := s₉
  replace V := V.step st₉.heap
  have os₉ := st₉.os
  have gs₉ := st₉.gens
  clear st₉
  iterate 5 ((repeat ((with_reducible refine shows (by assumption) ?_); (try dsimp only))); walk1; (try dsimp only); (repeat ((with_reducible refine shows (by assumption) ?_); (try dsimp only))); (try (refine hideS ?_; intro Q_ E_ tk_ hQ_)))
  iterate 3 ((repeat ((with_reducible refine shows (by assumption) ?_); (try dsimp only))); walk1; (try dsimp only); (repeat ((with_reducible refine shows (by assumption) ?_); (try dsimp only))); (try (refine hideS ?_; intro Q_ E_ tk_ hQ_)))
  refine fmt_lines (s := ⟨h₉, g₉, d₉, _, o₉⟩) V.X.K V.D ?_
  obtain ⟨vs, pl, sa⟩ := V.D.lines
  have pl0 := pl
  obtain ⟨oL, nL, eL, cL, dL, qL⟩ := pl0
  refine Calls.getMethod_list_append eL cL dL ?_
  refine cw ?_
  ((repeat ((with_reducible refine shows (by assumption) ?_); (try dsimp only))); walk1; (try dsimp only); (repeat ((with_reducible refine shows (by assumption) ?_); (try dsimp only))); (try (refine hideS ?_; intro Q_ E_ tk_ hQ_)))
  refine Call_ ?_
  refine nm_builtin V.X.G.g (V.X.G.names.free _ (by simp)) V.X.G.b (V.X.G.bi "str" _ (by decide) b_str) ?_
  refine cw ?_
  iterate 3 ((repeat ((with_reducible refine shows (by assumption) ?_); (try dsimp only))); walk1; (try dsimp only); (repeat ((with_reducible refine shows (by assumption) ?_); (try dsimp only))); (try (refine hideS ?_; intro Q_ E_ tk_ hQ_)))
  refine fmt_line (s := ⟨h₉, g₉, d₉, _, o₉⟩) V.X.K V.D ?_
  iterate 1 ((repeat ((with_reducible refine shows (by assumption) ?_); (try dsimp only))); walk1; (try dsimp only); (repeat ((with_reducible refine shows (by assumption) ?_); (try dsimp only))); (try (refine hideS ?_; intro Q_ E_ tk_ hQ_)))
  refine ⟨⟨_, .inr (.inl rfl), keeper_type⟩, ?_⟩
  refine acc_cstr (s := ⟨h₉, g₉, d₉, _, o₉⟩) V.X V.C hz (by simp; omega) ((hr _).less (by omega) (by omega)) (fun s₁₀ u₁₀ st₁₀ => ?_)
  obtain ⟨h₁₀, g₁₀, d₁₀, t₁₀, o₁₀⟩ := s₁₀
  replace V := V.step st₁₀.heap
  have os₁₀ := st₁₀.os
  have gs₁₀ := st₁₀.gens
  clear st₁₀ pl sa eL cL dL qL
  obtain ⟨vs, pl, sa⟩ := V.D.lines
  iterate 1 ((repeat ((with_reducible refine shows (by assumption) ?_); (try dsimp only))); walk1; (try dsimp only); (repeat ((with_reducible refine shows (by assumption) ?_); (try dsimp only))); (try (refine hideS ?_; intro Q_ E_ tk_ hQ_)))
  refine ⟨⟨_, .inr (.inl rfl), keeper_builtin⟩, ?_⟩
  refine list_append_plainL (s := ⟨h₁₀, g₁₀, d₁₀, _, o₁₀⟩) pl (fun h₁₁ pl₁ sb => ?_) (by have := sa.length; rw [sizeLine_eq]; simp; omega)
  replace V := V.lines (ls' := ls ++ [lineF (ps ++ [(f0, p0)])]) (stepH_same sb (V.D.noTab V.X.T).2.2) ⟨vs ++ [.str (lineF (ps ++ [(f0, p0)])) u₁₀], by simpa using pl₁, strs_snoc sa⟩
  clear pl pl₁ sb sa
  iterate 3 ((repeat ((with_reducible refine shows (by assumption) ?_); (try dsimp only))); walk1; (try dsimp only); (repeat ((with_reducible refine shows (by assumption) ?_); (try dsimp only))); (try (refine hideS ?_; intro Q_ E_ tk_ hQ_)))
  iterate 4 ((repeat ((with_reducible refine shows (by assumption) ?_); (try dsimp only))); walk1; (try dsimp only); (repeat ((with_reducible refine shows (by assumption) ?_); (try dsimp only))); (try (refine hideS ?_; intro Q_ E_ tk_ hQ_)))
  refine fmt_line (s := ⟨h₁₁, g₁₀, d₁₀, _, o₁₀⟩) V.X.K V.D ?_
  refine acc_method (s := ⟨h₁₁, g₁₀, d₁₀, _, o₁₀⟩) V.X.K V.C kn_mreset kn_tmreset rfl (by decide) ?_
  refine cw0 ⟨_, .inl rfl, keeper_fn ((m_reset w.params).get V.X.K) (m_reset w.params).data⟩ ?_
  refine reset_spec (s := ⟨h₁₁, g₁₀, d₁₀, _, o₁₀⟩) V.X V.C (by simp; omega) ((hr _).less (by omega) (by omega)) (fun s₁₂ st₁₂ C₁₂ => ?_)
  obtain ⟨h₁₂, g₁₂, d₁₂, t₁₂, o₁₂⟩ := s₁₂
  replace V := V.acc st₁₂.heap C₁₂
  have os₁₂ := st₁₂.os
  have gs₁₂ := st₁₂.gens
  clear st₁₂ C₁₂
  iterate 1 ((repeat ((with_reducible refine shows (by assumption) ?_); (try dsimp only))); walk1; (try dsimp only); (repeat ((with_reducible refine shows (by assumption) ?_); (try dsimp only))); (try (refine hideS ?_; intro Q_ E_ tk_ hQ_)))
  (repeat ((with_reducible refine shows (by assumption) ?_); (try dsimp only)))
  exact hQ _ ⟨V.st, by dsimp only at *; rw [os₁₂, os₁₀, os₉, os₈, os₆, os₂], fun x => gs₁₂ (gs₁₀ (gs₉ (gs₈ (gs₆ (gs₂ x)))))⟩ V.D V.C
end
end Mine
end
section
open PySem PySem.W PyProof.Rows PySem.Calls
set_option maxRecDepth 100000
set_option maxHeartbeats 1600000
set_option Elab.async false
namespace Mine
theorem m_chunk (P : Params) : FnAt' P 128 "_append_chunk" "_ValueFormatter._append_chunk" (sub (stm 10) 8) [] 127 .none := ⟨by kernel_rfl, by kernel_rfl, by kernel_rfl, by kernel_rfl⟩
theorem keep_scratch {h h₁ h₂ : Heap} {I : Addr} (k : KeepH h h₁) (hI : h.get? I = none) (sb : Heap.SameBut I h₁ h₂) : KeepH h h₂ :=
  fun b o e => (sb.2 b (fun q => by rw [q, hI] at e; cases e)).trans (k b o e)
section
variable {prog : Program} {w : World} {A : Around} {E : Value → Shared → Prop} {s : Shared} {env : Env}
theorem loop_once {R : Result → Shared → Prop} {x : Str} {px : Pos} {it : Value} {body orelse : List Stmt} {v : Value}
    (h : wpAny (model prog w) A (pyNext it) (fun r s₁ => r = some v ∧ wpAny (model prog w) A (storeName env x v) (fun _ s₂ => wpAny (model prog w) A (execs body env) (fun f s₃ => match f with
      | .brk => R (.ok .next) s₃
      | _ => False) (notedBy (model prog w) A env fun e s' => R (.error e) s') s₂) (notedBy (model prog w) A env fun e s' => R (.error e) s') s₁) (notedBy (model prog w) A env fun e s' => R (.error e) s') s) :
    codeAny (model prog w) A (.forLoop (.Name x px) it body orelse env) R s := by
  refine codeAny_forLoop (fun _ s' => s' = s) (fun n s' hs => ?_) 0 rfl
  subst hs
  refine wpAny_mono h (fun r s₁ h₁ => ?_) fun _ _ y => y
  obtain ⟨rfl, h₁⟩ := h₁
  refine wpAny_assign_Name (wpAny_mono h₁ (fun _ s₂ h₂ => wpAny_mono h₂ (fun f s₃ h₃ => ?_) fun _ _ y => y) fun _ _ y => y)
  cases f <;> first | exact h₃ | exact h₃.elim
end
theorem down_small : ∀ n, n < 51 → Builtin.Range.small (n : Nat) 0 (-1) = true := by decide +kernel
theorem down_size : ∀ n, n < 51 → Builtin.Range.rangeSize (n : Nat) 0 (-1) = (n : Nat) := by decide +kernel
section
variable {w : World} {A : Around} {E : Value → Shared → Prop} {s : Shared} {f fd L a ad : Addr} {wd : Int} {ls : List Str} {xs : Array Value} {ps : List (Str × Str)} {k : Int} {mg mb : Str → Option Value}
theorem ns_noList {h : Heap} {L0 : Addr} {m : Str → Option Value} (F : h.Ns L0 m) (vs : Array Value) : ¬ h.IsList L0 vs := fun i => by
  obtain ⟨o, es, ep, eo, ed, _⟩ := F
  obtain ⟨o', eo', _, n', ed'⟩ := i
  rw [eo] at eo'; cases eo'; rw [ed] at ed'; cases ed'
theorem Live.lst {h0 h h' : Heap} {L0 R : Addr} {m : Str → Option Value} {vs : Array Value} (V : Live w mg mb h0 L0 f fd L a ad wd ls xs ps k m h) (t : h.IsList R vs) (sb : Heap.SameBut L0 h h') : h'.IsList R vs :=
  isl_on t fun o e => (sb.2 _ (fun q => ns_noList V.F vs (q ▸ t))).trans e
theorem acc_sub2 {value slice : Expr} {i : Value} {l : List Value} {Q : Value → Shared → Prop} (X : (KN w.params).In s.heap) (C : Acc s.heap a ad xs ps k) (h : wpAny (model pw w) A (getItem (.ref a) i) Q E s)
    (hs : subscripted slice false (.ref a) i = operate l (getItem (.ref a) i)) : wpAny (model pw w) A (subscriptTail value slice (.ref a) i) Q E s := by
  obtain ⟨n, e1⟩ := C.obj
  have L0 := acc_type (M := model pw w) e1
  have LS : Looks (model pw w) s.heap (specialOf (.ref a) "__getitem__") (some (.builtin "list.__getitem__")) := L0.andThen (looks_findIn X kn_getitem)
  unfold subscriptTail
  refine wpAny_bind ?_
  rw [getitemInPython_of_ne (by simp)]
  refine wpAny_bind (LS.here ?_)
  have fin : wpAny (model pw w) A (subscripted slice false (.ref a) i) (fun r s₃ => wpAny (model pw w) A (letTemporaryGo value (.ref a) r >>= fun _ => pure r) Q E s₃) E s := by
    rw [hs]
    exact wpAny_operating (wpAny_mono h (fun r s₃ h₃ => wpAny_bind (wpAny_letTemporaryGo (wpAny_pure h₃))) fun _ _ x => x)
  first
    | exact wpAny_pure (wpAny_bind fin)
    | exact wpAny_bind (wpAny_pure (wpAny_bind fin))
    | exact wpAny_bind fin
theorem chunk_spec {c p : Str} {u u' : Tok} {Q : Value → Shared → Prop} (X : Ctx0 w mg mb s.heap) (D : Fmt w.params s.heap f fd L a wd ls) (C : Acc s.heap a ad xs ps k) (hk : k = 0 ∨ k = 1)
    (hz : ∀ q ∈ ps ++ [(c, p)], q.1.length ≤ 10000 ∧ q.2.length ≤ 10000) (hn : ps.length ≤ 50) (hn2 : ls.length ≤ 100) (r : NearR A 50 150)
    (hQ1 : k + tot (ps ++ [(c, p)]) ≤ wd → ∀ s' xs', Step [a, ad, L] s s' → Fmt w.params s'.heap f fd L a wd ls → Acc s'.heap a ad xs' (ps ++ [(c, p)]) k → Q .none s')
    (hc : wd < k + tot (ps ++ [(c, p)]) → c = " " ∧ ps ≠ [])
    (hQ2 : wd < k + tot (ps ++ [(c, p)]) → ∀ s' xs', Step [a, ad, L] s s' → Fmt w.params s'.heap f fd L a wd (ls ++ [lineF ps]) → Acc s'.heap a ad xs' [(c, p)] 0 → Q .none s') :
    wpAny (model pw w) A (call (.ref 128) [.ref f, .str c u, .str p u']) Q E s := by
  have fm := m_chunk w.params
  have hbd : ∀ v1 v2 v3, bindArgs (fdM "_append_chunk" "_ValueFormatter._append_chunk" (sub (stm 10) 8) [] (pmOf (obK 128 w.params)) (.ref 127) (ctOf (obK 128 w.params)) .none) ⟨[v1, v2, v3], []⟩ = (pure [(("self" : Str), v1), (("fws" : Str), v2), (("string" : Str), v3)] : Sem (List (Str × Value))) := fun v1 v2 v3 => by rfl
  refine call_fn r.room (fm.get X.K) fm.data X.G.nolimit (fm.crec X.K) rfl (BindsTo.of_eq (hbd _ _ _)) (fun h₁ F => ?_)
  have V := Live.begin X D C F
  generalize s.heap.objs.size = L0 at V ⊢
  clear F
  have hr := (r.deeper (d := 49) (u := 147))
  iterate 5 ((repeat ((with_reducible refine shows (by assumption) ?_); (try dsimp only))); walk1; (try dsimp only); (repeat ((with_reducible refine shows (by assumption) ?_); (try dsimp only))); (try (refine hideS ?_; intro Q_ E_ tk_ hQ_)))
  refine fmt_line (s := { s with heap := h₁, toks := _ }) V.X.K V.D ?_
  refine acc_method (s := { s with heap := h₁, toks := _ }) V.X.K V.C kn_mpush kn_tmpush rfl (by decide) ?_
  refine cw ?_
  iterate 5 ((repeat ((with_reducible refine shows (by assumption) ?_); (try dsimp only))); walk1; (try dsimp only); (repeat ((with_reducible refine shows (by assumption) ?_); (try dsimp only))); (try (refine hideS ?_; intro Q_ E_ tk_ hQ_)))
  refine ⟨⟨_, .inl rfl, keeper_fn ((m_push w.params).get V.X.K) (m_push w.params).data⟩, ?_⟩
  refine push_spec (s := { s with heap := h₁, toks := _ }) V.X V.C (by omega) ((hr _).less (by omega) (by omega)) (fun s₂ xs₂ st₂ C2 => ?_)
  obtain ⟨h₂, g₂, d₂, t₂, o₂⟩ := s₂
  replace V := V.acc (st₂.heap.mono (by simp)) C2
  have os₂ := st₂.os
  have gs₂ := st₂.gens
  clear st₂ C2
  iterate 3 ((repeat ((with_reducible refine shows (by assumption) ?_); (try dsimp only))); walk1; (try dsimp only); (repeat ((with_reducible refine shows (by assumption) ?_); (try dsimp only))); (try (refine hideS ?_; intro Q_ E_ tk_ hQ_)))
  refine Call_ ?_
  refine nm_builtin V.X.G.g (V.X.G.names.free _ (by simp)) V.X.G.b (V.X.G.bi "len" _ (by decide) b_len) ?_
  refine cw ?_
  iterate 3 ((repeat ((with_reducible refine shows (by assumption) ?_); (try dsimp only))); walk1; (try dsimp only); (repeat ((with_reducible refine shows (by assumption) ?_); (try dsimp only))); (try (refine hideS ?_; intro Q_ E_ tk_ hQ_)))
  refine fmt_line (s := ⟨h₂, g₂, d₂, _, o₂⟩) V.X.K V.D ?_
  iterate 1 ((repeat ((with_reducible refine shows (by assumption) ?_); (try dsimp only))); walk1; (try dsimp only); (repeat ((with_reducible refine shows (by assumption) ?_); (try dsimp only))); (try (refine hideS ?_; intro Q_ E_ tk_ hQ_)))
  refine ⟨⟨_, .inr (.inl rfl), keeper_builtin⟩, ?_⟩
  refine acc_blen (s := ⟨h₂, g₂, d₂, _, o₂⟩) V.X V.C hk hz (by simp; omega) ((hr _).less (by omega) (by omega)) (fun s₃ u₃ st₃ => ?_)
  obtain ⟨h₃, g₃, d₃, t₃, o₃⟩ := s₃
  replace V := V.step st₃.heap
  have os₃ := st₃.os
  have gs₃ := st₃.gens
  clear st₃
  iterate 2 ((repeat ((with_reducible refine shows (by assumption) ?_); (try dsimp only))); walk1; (try dsimp only); (repeat ((with_reducible refine shows (by assumption) ?_); (try dsimp only))); (try (refine hideS ?_; intro Q_ E_ tk_ hQ_)))
  refine fmt_maxlen (s := ⟨h₃, g₃, d₃, _, o₃⟩) V.X.K V.D (fun uw => ?_)
  iterate 2 ((repeat ((with_reducible refine shows (by assumption) ?_); (try dsimp only))); walk1; (try dsimp only); (repeat ((with_reducible refine shows (by assumption) ?_); (try dsimp only))); (try (refine hideS ?_; intro Q_ E_ tk_ hQ_)))
  by_cases hle : k + tot (ps ++ [(c, p)]) ≤ wd
  · rw [show decide (wd < k + tot (ps ++ [(c, p)])) = false by simp; omega]
    iterate 3 ((repeat ((with_reducible refine shows (by assumption) ?_); (try dsimp only))); walk1; (try dsimp only); (repeat ((with_reducible refine shows (by assumption) ?_); (try dsimp only))); (try (refine hideS ?_; intro Q_ E_ tk_ hQ_)))
    (repeat ((with_reducible refine shows (by assumption) ?_); (try dsimp only)))
    refine hQ1 hle _ _ ⟨V.st, ?_, ?_⟩ V.D V.C
    · dsimp only at *; rw [os₃, os₂]
    · exact fun x => gs₃ (gs₂ x)
  obtain ⟨rfl, hne⟩ := hc (by omega)
  replace hQ2 := hQ2 (by omega)
  clear hQ1 hc
  rw [show decide (wd < k + tot (ps ++ [((" " : Str), p)])) = true by simp; omega]
  iterate 2 ((repeat ((with_reducible refine shows (by assumption) ?_); (try dsimp only))); walk1; (try dsimp only); (repeat ((with_reducible refine shows (by assumption) ?_); (try dsimp only))); (try (refine hideS ?_; intro Q_ E_ tk_ hQ_)))
  refine wpAny_For ?_
  iterate 2 ((repeat ((with_reducible refine shows (by assumption) ?_); (try dsimp only))); walk1; (try dsimp only); (repeat ((with_reducible refine shows (by assumption) ?_); (try dsimp only))); (try (refine hideS ?_; intro Q_ E_ tk_ hQ_)))
  refine fmt_split (s := ⟨h₃, g₃, d₃, _, o₃⟩) V.X.K V.D (fun us => ?_)
  refine wpAny_pyIter_ascii (by kernel_rfl) ?_
  have k4 : KeepH h₃ (h₃.push { cls := .type "str_ascii_iterator", data := .fields #[.str " " us, .int 0 0] }) := fun b o e => Heap.get?_push_of_some _ e
  have i4 : (h₃.push { cls := .type "str_ascii_iterator", data := .fields #[.str " " us, .int 0 0] }).IsStrIter h₃.objs.size "str_ascii_iterator" " " us 0 := ⟨_, Heap.get?_push_size _ rfl, rfl, rfl⟩
  have n4 : h₃.get? h₃.objs.size = none := Heap.get?_none_of_le (Nat.le_refl _)
  dsimp only
  generalize h₃.objs.size = I at i4 n4 ⊢
  generalize h₃.push { cls := .type "str_ascii_iterator", data := .fields #[.str " " us, .int 0 0] } = h₄ at i4 k4 ⊢
  refine hideR fun R_ hR_ => ?_
  refine loop_once (v := .str " " (tk_ + 1)) ?_
  refine wpAny_pyNext_ascii_item (s := ⟨h₄, g₃, d₃, _, o₃⟩) i4 (c := 32) (by kernel_rfl) (fun h₅ _ sb5 => ⟨by kernel_rfl, ?_⟩)
  replace V := V.keep (keep_scratch k4 n4 sb5)
  clear k4 n4 sb5 i4
  refine st_local (s := ⟨h₅, g₃, d₃, _, o₃⟩) V.fr (fun h₆ F6 sb => ?_)
  replace V := V.loc sb F6.ns
  clear F6 sb
  iterate 1 ((repeat ((with_reducible refine shows (by assumption) ?_); (try dsimp only))); walk1; (try dsimp only); (repeat ((with_reducible refine shows (by assumption) ?_); (try dsimp only))); (try (refine hideS ?_; intro Q_ E_ tk_ hQ_)))
  refine wpAny_For ?_
  refine Call_ ?_
  refine nm_builtin V.X.G.g (V.X.G.names.free _ (by simp)) V.X.G.b (V.X.G.bi "range" _ (by decide) b_range) ?_
  refine cw ?_
  iterate 5 ((repeat ((with_reducible refine shows (by assumption) ?_); (try dsimp only))); walk1; (try dsimp only); (repeat ((with_reducible refine shows (by assumption) ?_); (try dsimp only))); (try (refine hideS ?_; intro Q_ E_ tk_ hQ_)))
  refine fmt_line (s := ⟨h₆, g₃, d₃, _, o₃⟩) V.X.K V.D ?_
  refine acc_method (s := ⟨h₆, g₃, d₃, _, o₃⟩) V.X.K V.C kn_pc kn_tpc rfl (by decide) ?_
  refine cw0 ⟨_, .inl rfl, keeper_fn ((m_pc w.params).get V.X.K) (m_pc w.params).data⟩ ?_
  refine pc_spec (s := ⟨h₆, g₃, d₃, _, o₃⟩) V.X V.C (by simp; omega) ((hr _).less (by omega) (by omega)) (fun s₇ u₇ st₇ => ?_)
  obtain ⟨h₇, g₇, d₇, t₇, o₇⟩ := s₇
  replace V := V.step st₇.heap
  have os₇ := st₇.os
  have gs₇ := st₇.gens
  clear st₇
  iterate 9 ((repeat ((with_reducible refine shows (by assumption) ?_); (try dsimp only))); walk1; (try dsimp only); (repeat ((with_reducible refine shows (by assumption) ?_); (try dsimp only))); (try (refine hideS ?_; intro Q_ E_ tk_ hQ_)))
  refine ⟨⟨_, .inr (.inl rfl), keeper_type⟩, ?_⟩
  have hlen : (((ps ++ [((" " : Str), p)]).length : Nat) : Int) - 1 = (ps.length : Nat) := by simp
  rw [hlen]
  clear hlen
  have hpos : 0 < ps.length := List.length_pos_iff.mpr hne
  refine call_range_3 (by decide) ?_
  have k8 : KeepH h₇ (h₇.push { cls := .type "range", data := .fields #[.int ps.length (t₇ + 1), .int 0 (t₇ + 1 + 1), .int (-1) (t₇ + 1 + 1 + 1 + 1)] }) := fun b o e => Heap.get?_push_of_some _ e
  have i8 : IsRange (h₇.push { cls := .type "range", data := .fields #[.int ps.length (t₇ + 1), .int 0 (t₇ + 1 + 1), .int (-1) (t₇ + 1 + 1 + 1 + 1)] }) h₇.objs.size ps.length 0 (-1) (t₇ + 1) (t₇ + 1 + 1) (t₇ + 1 + 1 + 1 + 1) := Heap.get?_push_size _ rfl
  dsimp only
  generalize h₇.objs.size = rg at i8 ⊢
  generalize h₇.push { cls := .type "range", data := .fields #[.int ps.length (t₇ + 1), .int 0 (t₇ + 1 + 1), .int (-1) (t₇ + 1 + 1 + 1 + 1)] } = h₈ at i8 k8 ⊢
  replace V := V.keep k8
  refine wpAny_pyIter_range i8 (down_small _ (by omega)) ?_
  rw [down_size _ (by omega)]
  clear k8 i8
  have k9 : KeepH h₈ (h₈.push { cls := .type "range_iterator", data := .fields #[rawInt ps.length, rawInt ps.length, rawInt (-1)] }) := fun b o e => Heap.get?_push_of_some _ e
  have i9 : IsRangeIter (h₈.push { cls := .type "range_iterator", data := .fields #[rawInt ps.length, rawInt ps.length, rawInt (-1)] }) h₈.objs.size ps.length ps.length (-1) := Heap.get?_push_size _ rfl
  have n9 : h₈.get? h₈.objs.size = none := Heap.get?_none_of_le (Nat.le_refl _)
  dsimp only
  generalize h₈.objs.size = I9 at i9 n9 ⊢
  generalize h₈.push { cls := .type "range_iterator", data := .fields #[rawInt ps.length, rawInt ps.length, rawInt (-1)] } = h₉ at i9 k9 ⊢
  refine hideR fun R_ hR_ => ?_
  refine loop_once (v := .int ps.length (t₇ + 1 + 1 + 1 + 1 + 1)) ?_
  refine wpAny_pyNext_range_item (s := ⟨h₉, g₇, d₇, _, o₇⟩) i9 (by omega) (fun h₁₀ _ sb10 => ⟨rfl, ?_⟩)
  replace V := V.keep (keep_scratch k9 n9 sb10)
  clear k9 n9 sb10 i9
  refine st_local (s := ⟨h₁₀, g₇, d₇, _, o₇⟩) V.fr (fun h₁₁ F sb => ?_)
  replace V := V.loc sb F.ns
  clear F sb
  iterate 7 ((repeat ((with_reducible refine shows (by assumption) ?_); (try dsimp only))); walk1; (try dsimp only); (repeat ((with_reducible refine shows (by assumption) ?_); (try dsimp only))); (try (refine hideS ?_; intro Q_ E_ tk_ hQ_)))
  refine KXw.isspace (b := true) (by kernel_rfl) ?_
  iterate 8 ((repeat ((with_reducible refine shows (by assumption) ?_); (try dsimp only))); walk1; (try dsimp only); (repeat ((with_reducible refine shows (by assumption) ?_); (try dsimp only))); (try (refine hideS ?_; intro Q_ E_ tk_ hQ_)))
  refine fmt_line (s := ⟨h₁₁, g₇, d₇, _, o₇⟩) V.X.K V.D ?_
  obtain ⟨T, q, q', hx, hT⟩ := V.C.items ps.length (by simp)
  have hT : h₁₁.IsTuple T #[.str " " q, .str p q'] := by simpa using hT
  iterate 1 ((repeat ((with_reducible refine shows (by assumption) ?_); (try dsimp only))); walk1; (try dsimp only); (repeat ((with_reducible refine shows (by assumption) ?_); (try dsimp only))); (try (refine hideS ?_; intro Q_ E_ tk_ hQ_)))
  refine acc_sub2 (l := _) (s := ⟨h₁₁, g₇, d₇, _, o₇⟩) V.X.K V.C (acc_item (j := ps.length) (s := ⟨h₁₁, g₇, d₇, _, o₇⟩) V.X.K V.C (by simp; omega) hx ?_) rfl
  iterate 1 ((repeat ((with_reducible refine shows (by assumption) ?_); (try dsimp only))); walk1; (try dsimp only); (repeat ((with_reducible refine shows (by assumption) ?_); (try dsimp only))); (try (refine hideS ?_; intro Q_ E_ tk_ hQ_)))
  refine subscriptTail_builtinR (x := .str " " q) (s := ⟨h₁₁, g₇, d₇, _, o₇⟩) (T := "tuple") (let ⟨o, e, c, _⟩ := hT; ⟨o, e, c⟩) slot_tuple_getitem.lookup (getItem_tuple (j := 0) (x := .str " " q) (s := ⟨h₁₁, g₇, d₇, _, o₇⟩) hT (by decide) (by decide) (by rfl) (by rfl) ⟨rfl, ?_⟩)
  clear hT hx
  refine st_local (s := ⟨h₁₁, g₇, d₇, _, o₇⟩) V.fr (fun h₁₂ F sb => ?_)
  replace V := V.loc sb F.ns
  clear F sb
  iterate 5 ((repeat ((with_reducible refine shows (by assumption) ?_); (try dsimp only))); walk1; (try dsimp only); (repeat ((with_reducible refine shows (by assumption) ?_); (try dsimp only))); (try (refine hideS ?_; intro Q_ E_ tk_ hQ_)))
  refine P.truthy_str (by decide +kernel) ?_
  rw [show ((((" " : Str).length : Nat) : Int) != 0) = true by decide +kernel]
  iterate 6 ((repeat ((with_reducible refine shows (by assumption) ?_); (try dsimp only))); walk1; (try dsimp only); (repeat ((with_reducible refine shows (by assumption) ?_); (try dsimp only))); (try (refine hideS ?_; intro Q_ E_ tk_ hQ_)))
  refine KXi.item (n := 1) (by decide +kernel) (by decide) (by decide) (by decide) (fun _ => ?_)
  rw [show Txt.item " " 0 = " " by decide +kernel]
  iterate 3 ((repeat ((with_reducible refine shows (by assumption) ?_); (try dsimp only))); walk1; (try dsimp only); (repeat ((with_reducible refine shows (by assumption) ?_); (try dsimp only))); (try (refine hideS ?_; intro Q_ E_ tk_ hQ_)))
  rw [show ((" " : Str) == (" " : Str)) = true by decide +kernel]
  iterate 12 ((repeat ((with_reducible refine shows (by assumption) ?_); (try dsimp only))); walk1; (try dsimp only); (repeat ((with_reducible refine shows (by assumption) ?_); (try dsimp only))); (try (refine hideS ?_; intro Q_ E_ tk_ hQ_)))
  refine fmt_line (s := ⟨h₁₂, g₇, d₇, _, o₇⟩) V.X.K V.D ?_
  refine acc_method (s := ⟨h₁₂, g₇, d₇, _, o₇⟩) V.X.K V.C kn_mpopf kn_tmpopf rfl (by decide) ?_
  refine cw ?_
  iterate 3 ((repeat ((with_reducible refine shows (by assumption) ?_); (try dsimp only))); walk1; (try dsimp only); (repeat ((with_reducible refine shows (by assumption) ?_); (try dsimp only))); (try (refine hideS ?_; intro Q_ E_ tk_ hQ_)))
  refine ⟨⟨_, .inl rfl, keeper_fn ((m_popfrom w.params).get V.X.K) (m_popfrom w.params).data⟩, ?_⟩
  refine popfrom_spec (s := ⟨h₁₂, g₇, d₇, _, o₇⟩) V.X V.C (by omega) ((hr _).less (by omega) (by omega)) (fun s₁₃ R T xs₁₃ v v' st₁₃ C₁₃ nR lR hT => ?_)
  obtain ⟨h₁₃, g₁₃, d₁₃, t₁₃, o₁₃⟩ := s₁₃
  dsimp only at nR lR hT C₁₃ st₁₃
  have hRL : R ≠ L := fun q => by obtain ⟨_, ⟨_, _, e, _⟩, _⟩ := V.D.lines; rw [← q, nR] at e; cases e
  replace V := V.acc (st₁₃.heap.mono (by simp)) C₁₃
  have os₁₃ := st₁₃.os
  have gs₁₃ := st₁₃.gens
  clear st₁₃ C₁₃ nR
  refine st_local (s := ⟨h₁₃, g₁₃, d₁₃, _, o₁₃⟩) V.fr (fun h₁₄ F sb => ?_)
  replace hT := V.tup hT sb
  replace lR := V.lst lR sb
  replace V := V.loc sb F.ns
  clear F sb
  iterate 5 ((repeat ((with_reducible refine shows (by assumption) ?_); (try dsimp only))); walk1; (try dsimp only); (repeat ((with_reducible refine shows (by assumption) ?_); (try dsimp only))); (try (refine hideS ?_; intro Q_ E_ tk_ hQ_)))
  refine fmt_lines (s := ⟨h₁₄, g₁₃, d₁₃, _, o₁₃⟩) V.X.K V.D ?_
  obtain ⟨vs, pl, sa⟩ := V.D.lines
  have pl0 := pl
  obtain ⟨oL, nL, eL, cL, dL, qL⟩ := pl0
  refine Calls.getMethod_list_append eL cL dL ?_
  refine cw ?_
  ((repeat ((with_reducible refine shows (by assumption) ?_); (try dsimp only))); walk1; (try dsimp only); (repeat ((with_reducible refine shows (by assumption) ?_); (try dsimp only))); (try (refine hideS ?_; intro Q_ E_ tk_ hQ_)))
  refine Call_ ?_
  refine nm_builtin V.X.G.g (V.X.G.names.free _ (by simp)) V.X.G.b (V.X.G.bi "str" _ (by decide) b_str) ?_
  refine cw ?_
  iterate 3 ((repeat ((with_reducible refine shows (by assumption) ?_); (try dsimp only))); walk1; (try dsimp only); (repeat ((with_reducible refine shows (by assumption) ?_); (try dsimp only))); (try (refine hideS ?_; intro Q_ E_ tk_ hQ_)))
  refine fmt_line (s := ⟨h₁₄, g₁₃, d₁₃, _, o₁₃⟩) V.X.K V.D ?_
  iterate 1 ((repeat ((with_reducible refine shows (by assumption) ?_); (try dsimp only))); walk1; (try dsimp only); (repeat ((with_reducible refine shows (by assumption) ?_); (try dsimp only))); (try (refine hideS ?_; intro Q_ E_ tk_ hQ_)))
  refine ⟨⟨_, .inr (.inl rfl), keeper_type⟩, ?_⟩
  refine acc_cstr (s := ⟨h₁₄, g₁₃, d₁₃, _, o₁₃⟩) V.X V.C (fun q hq => hz q (by simp [hq])) (by omega) ((hr _).less (by omega) (by omega)) (fun s₁₅ u₁₅ st₁₅ => ?_)
  obtain ⟨h₁₅, g₁₅, d₁₅, t₁₅, o₁₅⟩ := s₁₅
  replace hT := V.tupW hT st₁₅.heap (by simp)
  replace lR := isl_on lR fun o e => st₁₅.heap.keep _ _ (by simp) (by obtain ⟨o', eo', c', _⟩ := lR; exact tabs_cls V.X.T eo' (by rw [c']; rfl)) e
  replace V := V.step st₁₅.heap
  have os₁₅ := st₁₅.os
  have gs₁₅ := st₁₅.gens
  clear st₁₅ pl sa eL cL dL qL
  obtain ⟨vs, pl, sa⟩ := V.D.lines
  iterate 1 ((repeat ((with_reducible refine shows (by assumption) ?_); (try dsimp only))); walk1; (try dsimp only); (repeat ((with_reducible refine shows (by assumption) ?_); (try dsimp only))); (try (refine hideS ?_; intro Q_ E_ tk_ hQ_)))
  refine ⟨⟨_, .inr (.inl rfl), keeper_builtin⟩, ?_⟩
  refine list_append_plainL (s := ⟨h₁₅, g₁₅, d₁₅, _, o₁₅⟩) pl (fun h₁₆ pl₁ sb => ?_) (by have := sa.length; rw [sizeLine_eq]; simp; omega)
  replace hT := V.tupW hT (stepH_same sb (V.D.noTab V.X.T).2.2) (by simp)
  replace lR := isl_on lR fun o e => (sb.2 _ hRL).trans e
  replace V := V.lines (ls' := ls ++ [lineF ps]) (stepH_same sb (V.D.noTab V.X.T).2.2) ⟨vs ++ [.str (lineF ps) u₁₅], by simpa using pl₁, strs_snoc sa⟩
  clear pl pl₁ sb sa
  iterate 5 ((repeat ((with_reducible refine shows (by assumption) ?_); (try dsimp only))); walk1; (try dsimp only); (repeat ((with_reducible refine shows (by assumption) ?_); (try dsimp only))); (try (refine hideS ?_; intro Q_ E_ tk_ hQ_)))
  refine fmt_line (s := ⟨h₁₆, g₁₅, d₁₅, _, o₁₅⟩) V.X.K V.D ?_
  refine acc_method (s := ⟨h₁₆, g₁₅, d₁₅, _, o₁₅⟩) V.X.K V.C kn_mreset kn_tmreset rfl (by decide) ?_
  refine cw ?_
  iterate 3 ((repeat ((with_reducible refine shows (by assumption) ?_); (try dsimp only))); walk1; (try dsimp only); (repeat ((with_reducible refine shows (by assumption) ?_); (try dsimp only))); (try (refine hideS ?_; intro Q_ E_ tk_ hQ_)))
  refine ⟨⟨_, .inl rfl, keeper_fn ((m_reset w.params).get V.X.K) (m_reset w.params).data⟩, ?_⟩
  refine reset2_spec (ps' := [(" ", p)]) (s := ⟨h₁₆, g₁₅, d₁₅, _, o₁₅⟩) V.X V.C (by omega) (by simp) lR rfl (fun j hj => ?_) ((hr _).less (by omega) (by omega)) (fun s₁₇ st₁₇ C₁₇ => ?_)
  · have : j = 0 := by simp at hj; omega
    subst this
    exact ⟨T, v, v', rfl, hT⟩
  obtain ⟨h₁₇, g₁₇, d₁₇, t₁₇, o₁₇⟩ := s₁₇
  replace V := V.acc st₁₇.heap C₁₇
  have os₁₇ := st₁₇.os
  have gs₁₇ := st₁₇.gens
  clear st₁₇ C₁₇
  iterate 2 ((repeat ((with_reducible refine shows (by assumption) ?_); (try dsimp only))); walk1; (try dsimp only); (repeat ((with_reducible refine shows (by assumption) ?_); (try dsimp only))); (try (refine hideS ?_; intro Q_ E_ tk_ hQ_)))
  (repeat ((with_reducible refine shows (by assumption) ?_); (try dsimp only)))
  refine hQ2 _ _ ⟨V.st, ?_, ?_⟩ V.D V.C
  · dsimp only at *; rw [os₁₇, os₁₅, os₁₃, os₇, os₃, os₂]
  · exact fun x => gs₁₇ (gs₁₅ (gs₁₃ (gs₇ (gs₃ (gs₂ x)))))
end
end Mine
end
section
open PySem PySem.W PyProof.Rows PySem.Calls
set_option maxRecDepth 100000
set_option maxHeartbeats 1600000
set_option Elab.async false
namespace Mine
theorem m_fstr (P : Params) : FnAt' P 79 "_str" "_ValueFormatter._str" (sub (stm 10) 1) [] 78 .none := ⟨by kernel_rfl, by kernel_rfl, by kernel_rfl, by kernel_rfl⟩
theorem fn_newline {P : Params} : findIn (KN P) (.ref 131) "newline" = some (some (.ref 93)) := by kernel_rfl
theorem fn_tnewline {P : Params} : typeIn (KN P) (.ref 93) = some (.type "function") := by kernel_rfl
section
variable {w : World} {A : Around} {E : Value → Shared → Prop} {s : Shared} {f fd L a ad : Addr} {wd : Int} {ls : List Str} {xs : Array Value} {ps : List (Str × Str)} {k : Int} {mg mb : Str → Option Value}
theorem Live.full {h0 h h' : Heap} {L0 : Addr} {m : Str → Option Value} {ls' : List Str} {xs' : Array Value} {ps' : List (Str × Str)} {k' : Int} (V : Live w mg mb h0 L0 f fd L a ad wd ls xs ps k m h) (st : StepH [a, ad, L] h h')
    (D' : Fmt w.params h' f fd L a wd ls') (C' : Acc h' a ad xs' ps' k') : Live w mg mb h0 L0 f fd L a ad wd ls' xs' ps' k' m h' := by
  have n := V.ne
  simp only [List.mem_cons, List.not_mem_nil, or_false, not_or] at n
  refine ⟨V.new, V.ne, V.top, V.X.stepW st (fun b hb => ?_), D', C', ns_step V.F V.X.T st (by simp [n.2.2.1, n.2.2.2.1, n.2.2.2.2]), V.st.trans st⟩
  simp only [List.mem_cons, List.not_mem_nil, or_false] at hb
  rcases hb with rfl | rfl | rfl
  · exact acc_top V.X V.C _ (by simp)
  · exact acc_top V.X V.C _ (by simp)
  · exact V.D.top
theorem fstr_spec {f0 p0 sep : Str} {u : Tok} {Q : Value → Shared → Prop} (X : Ctx0 w mg mb s.heap) (D : Fmt w.params s.heap f fd L a wd ls) (C : Acc s.heap a ad xs (ps ++ [(f0, p0)]) k) (hk : k = 0 ∨ k = 1)
    (hz : ∀ p ∈ ps ++ [(f0, p0)], p.1.length ≤ 10000 ∧ p.2.length ≤ 10000) (hn : ps.length ≤ 50) (hn2 : ls.length ≤ 100) (r : NearR A 50 110)
    (hne : p0 ≠ "") (hok : PyData.strOk f0 = true ∧ PyData.strOk p0 = true) (hp : 0 < tot (ps ++ [(f0, p0)])) (hb : Txt.isspace (lineF (ps ++ [(f0, p0)])) = false)
    (hsep : sep.length ≤ 64) (hsum : ((ls ++ [lineF (ps ++ [(f0, p0)])]).map (·.length)).sum ≤ 1000000)
    (hQ : ∀ s' u', Step [a, ad, L] s s' → Q (.str (Txt.join sep (ls ++ [lineF (ps ++ [(f0, p0)])])) u') s') : wpAny (model pw w) A (call (.ref 79) [.ref f, .str sep u]) Q E s := by
  have fm := m_fstr w.params
  have hbd : ∀ v v', bindArgs (fdM "_str" "_ValueFormatter._str" (sub (stm 10) 1) [] (pmOf (obK 79 w.params)) (.ref 78) (ctOf (obK 79 w.params)) .none) ⟨[v, v'], []⟩ = (pure [(("self" : Str), v), (("linesep" : Str), v')] : Sem (List (Str × Value))) := fun v v' => by rfl
  refine call_fn r.room (fm.get X.K) fm.data X.G.nolimit (fm.crec X.K) rfl (BindsTo.of_eq (hbd _ _)) (fun h₁ F => ?_)
  have V := Live.begin X D C F
  generalize s.heap.objs.size = L0 at V ⊢
  clear F
  have hr := (r.deeper (d := 49) (u := 107))
  iterate 4 (walk1; (try dsimp only))
  refine fmt_method (s := { s with heap := h₁, toks := _ }) V.X.K V.D fn_newline fn_tnewline (fun _ _ _ _ _ _ _ _ _ _ _ _ _ _ _ _ _ => by kernel_rfl) ?_
  refine cw0 ⟨_, .inl rfl, keeper_fn ((m_newline w.params).get V.X.K) (m_newline w.params).data⟩ ?_
  refine newline_spec (s := { s with heap := h₁, toks := _ }) V.X V.D V.C hk hz hn hn2 ((hr _).less (by omega) (by omega)) hne hok hp hb (fun s₂ st₂ D₂ C₂ => ?_)
  obtain ⟨h₂, g₂, d₂, t₂, o₂⟩ := s₂
  replace V := V.full st₂.heap D₂ C₂
  have os₂ := st₂.os
  have gs₂ := st₂.gens
  clear st₂ D₂ C₂
  obtain ⟨vs, pl, sa⟩ := V.D.lines
  iterate 9 (walk1; (try dsimp only))
  refine fmt_lines (s := ⟨h₂, g₂, d₂, _, o₂⟩) V.X.K V.D ?_
  iterate 1 (walk1; (try dsimp only))
  refine join_listC (s := ⟨h₂, g₂, d₂, _, o₂⟩) pl.isList (by simpa using sa) hsep (by simp only [List.length_append, List.length_cons, List.length_nil]; omega) (fun t' k' => ?_)
  refine hQ _ _ ⟨V.st, ?_, ?_⟩
  · dsimp only at *; rw [os₂]
  · exact fun x => gs₂ x
end
end Mine
end
section
open PySem PySem.W PyProof.Rows PySem.Calls
set_option maxRecDepth 100000
set_option maxHeartbeats 0
set_option Elab.async false
namespace Mine
theorem acc_new0 {w : World} {s : Shared} {k : Int} {u : Tok} {Q : Value → Shared → Prop} (KX : (KN w.params).In s.heap)
    (hQ : ∀ h' tk a ad, KeepH s.heap h' → s.heap.get? a = none → s.heap.get? ad = none → h'.get? a = some ⟨.ref 215, some ad, .seq #[] 0, #[]⟩ → h'.get? ad = some emptyDict → Q (.ref a) ⟨h', s.gens, s.drawn, tk, s.os⟩) :
    wpAny (model pw w) (BigA none) (call (.builtin "list.__new__") [.ref 215, .int k u] []) Q NoE s := by
  x_run

theorem kn_sinit {P : Params} : alongIn (KN P) "__init__" [.type "list", .type "object"] = some (some (.builtin "list.__init__")) := by kernel_rfl
theorem ty_init : typeOf (.builtin "list.__init__") = pure (.type "wrapper_descriptor") := by show builtinType _ = _; rw [builtinType_eq_fast]; kernel_rfl
theorem li_entry : entryFor table "list.__init__" = some Builtin.«list.__init__» := entryFor_of_tree (by kernel_rfl)
theorem li_plain : plainId "list.__init__" = true := by decide +kernel
theorem li_kind : builtinKind "list.__init__" = some .slot := by decide +kernel
theorem li_sig : ∃ sig, Manifest.signature? "list.__init__" = some sig ∧ ∀ a, Bind.checkArgs "list.__init__" sig ⟨[a], []⟩ = pure () := by
  have key : ∀ a, (match Manifest.signature? "list.__init__" with | some sig => Bind.checkArgs "list.__init__" sig ⟨[a], []⟩ | none => unsupported "") = pure () := by
    intro a; kernel_rfl
  cases h : Manifest.signature? "list.__init__" with
  | none => have := key .none; rw [h] at this; cases this
  | some sig => exact ⟨sig, rfl, fun a => by have := key a; rw [h] at this; exact this⟩
theorem m_ainit (P : Params) : FnAt' P 152 "__init__" "_Accumulator.__init__" (sub (stm 11) 0) [("__class__", 139)] 151 (.ref 144) := ⟨by kernel_rfl, by kernel_rfl, by kernel_rfl, by kernel_rfl⟩
section
variable {w : World} {A : Around} {E : Value → Shared → Prop} {s : Shared} {a ad : Addr} {xs : Array Value} {ps : List (Str × Str)} {k : Int} {mg mb : Str → Option Value}
theorem sup_baseM {m : Str → Option Value} {fd : FuncData} {f L : Addr} {body : List Stmt} {p0 p1 : Pos} {attr : Str} {whole : Sem Value} {Q : Value → Shared → Prop} (X : Ctx0 w mg mb s.heap) (C : Acc s.heap a ad xs ps k)
    (F : s.heap.Ns L m) (hm : m "self" = some (.ref a))
    (hks : (callEnv fd L f).kindOf "super" = some .globalImplicit) (hkc : (callEnv fd L f).kindOf "__class__" = some .free) (hkl : (callEnv fd L f).kindOf "self" = some .local) (hk : fd.scope.kind = .function) (hcl : fd.closure.lookup ("__class__" : Str) = some 139) (hat : (attr == ("__class__" : Str)) = false)
    (hf : s.heap.get? f = some (obK f w.params)) (hfd : (obK f w.params).data = .func fd) (hp : (fd.params.posonlyargs ++ fd.params.args).head?.map (·.arg) = some "self") (hgl : fd.globals = mainGlobals) (hbi : fd.builtins = builtinsNs)
    {cc : Addr} {vs : Array Value} {file : Str} {tf : Tok} (hco : fd.code = .ref cc) (hcc : s.heap.get? cc = some (obK cc w.params)) (hoc : (obK cc w.params).data = .fields vs) (hvs : vs[2]? = some (.str file tf)) (hfile : ((pw.main.file : Str) == file) = true)
    (h : ∀ h' so, KeepH s.heap h' → s.heap.get? so = none → h'.get? so = some (supObj a) → Q (.ref so) { s with heap := h' }) :
    PySem.wpAt (model pw w) A (.func body (callEnv fd L f)) (attributeBase (.Call (.Name "super" p0) [] [] p1) attr (callEnv fd L f) whole) Q E s := by
  obtain ⟨ar, har, harg⟩ := Option.map_eq_some_iff.mp hp
  have hC : s.heap.get? 215 = some (obK 215 w.params) := X.K _ _ (by kernel_rfl)
  have hcd : (obK 215 w.params).data = .cls (clsOf (obK 215 w.params)) := by kernel_rfl
  have hcell : s.heap.get? 139 = some (obK 139 w.params) := X.K _ _ (by kernel_rfl)
  have hcv : (obK 139 w.params).data = .cell (some (.ref 215)) := by kernel_rfl
  refine PySem.ks_wpAt_super_base hks hkc hat rfl hf hfd har hco hcc hoc hvs hfile (by kernel_rfl) ?_
  refine PySem.W.ks_loadName_global hk hks ?_
  have hg : s.heap.Ns (callEnv fd L f).globals mg := by show s.heap.Ns fd.globals mg; rw [hgl]; exact X.G.g
  have hbn : s.heap.Ns (callEnv fd L f).builtins mb := by show s.heap.Ns fd.builtins mb; rw [hbi]; exact X.G.b
  refine loadGlobal_builtin hg (X.G.names.free _ (by simp)) hbn (X.G.bi "super" _ (by decide) b_super) ⟨rfl, ?_⟩
  refine wpAny_loadName_free (c := 139) hk hkc hcl ⟨_, hcell, hcv⟩ ?_
  rw [harg]
  refine wpAny_loadName_local hk hkl F hm ?_
  obtain ⟨n, e1⟩ := C.obj
  obtain ⟨hh, g, d, t, os⟩ := s
  refine PySem.ks_wpAny_isType_cls hC hcd ⟨rfl, ?_⟩
  refine PySem.ks_wpAny_call_super hC hcd e1 rfl (fun c e => by cases e) (looks_mroIn X.K kn_issub) (fun h' e k' => ?_)
  exact h h' _ k' (Heap.get?_none_of_le (Nat.le_refl _)) e

theorem minit_call {m : Addr} {Q : Value → Shared → Prop} (C : Acc s.heap a ad #[] [] k) (hm : s.heap.get? m = some { cls := .type "method-wrapper", data := .fields #[.builtin "list.__init__", .ref a] })
    (h : ∀ h', StepH [a] s.heap h' → Acc h' a ad #[] [] k → Q .none { s with heap := h' }) (haT : a ∉ Tabs) : wpAny (model pw w) A (call (.ref m) []) Q E s := by
  obtain ⟨sig, hsig, hck⟩ := li_sig
  obtain ⟨n, e1⟩ := C.obj
  refine wpAny_call (codeAny_of_tree ?_)
  rw [Around.under_plain (c := .call (.ref m) ⟨[], []⟩) rfl rfl]
  show wpAny _ _ (callAny (.ref m) ⟨[], []⟩) _ _ _
  simp only [callAny]
  refine wpAny_bind (wpAny_load hm ?_)
  dsimp only
  rw [if_pos (by decide +kernel)]
  show wpAny _ _ (if (Value.type "method-wrapper" != Value.type "method") = true then _ else _) _ _ _
  rw [if_pos (by decide +kernel)]
  have chk : ∀ {Q' : Unit → Shared → Prop} {E' : Value → Shared → Prop}, Q' () s → wpAny (model pw w) A.in1 (checkBoundCall "list.__init__" ⟨[.ref a], []⟩) Q' E' s := by
    intro Q' E' hq
    unfold checkBoundCall
    rw [hsig, li_kind]
    dsimp only
    rw [if_pos (by decide)]
    exact wpAny_of_eq (hck _) hq
  refine wpAny_bind (chk ?_)
  refine wpAny_pure ⟨plainId_quiet li_plain _, codeAny_builtin li_entry ?_⟩
  rw [Around.under_plainId li_plain]
  unfold Builtin.«list.__init__»
  show wpAny _ _ (Builtin.List.listItems (.ref a) >>= fun old => Builtin.List.listUpdate (.ref a) (fun _ => #[]) >>= fun _ => letGo old.toList.reverse >>= fun _ => ret .none) _ _ _
  refine wpAny_bind (listItems_at e1 rfl ?_)
  refine wpAny_bind (listUpdate_at e1 rfl ?_ (by rw [sizeLine_eq]; simp) (by rw [sizeLine_eq]; simp))
  refine wpAny_bind (wpAny_letGo ?_)
  exact wpAny_pure (h _ (stepH_upd (.head _) haT) (C.set (f := fun _ => #[]) rfl (fun j hj => by simp at hj)))
theorem put_none {h : Int} {t t' : Tok} {k' : Int} : Obj.putName initName h (.str initName t) (.int k' t') emptyDict = ⟨.type "dict", none, .dict #[⟨h, .str "_initial_size" t, .int k' t'⟩] 1, #[]⟩ := by rfl
theorem ainit_spec {n : Nat} {u : Tok} {Q : Value → Shared → Prop} (X : Ctx0 w mg mb s.heap) (e1 : s.heap.get? a = some ⟨.ref 215, some ad, .seq #[] n, #[]⟩) (e2 : s.heap.get? ad = some emptyDict) (ht : ∀ b ∈ [a, ad], Top w.params b = false) (r : NearR A 30 80)
    (hQ : ∀ s', Step [a, ad] s s' → Acc s'.heap a ad #[] [] k → Q .none s') : wpAny (model pw w) A (call (.ref 152) [.ref a, .int k u]) Q E s := by
  have fm := m_ainit w.params
  have hb : BindsTo s (fdM "__init__" "_Accumulator.__init__" (sub (stm 11) 0) [("__class__", 139)] (pmOf (obK 152 w.params)) (.ref 151) (ctOf (obK 152 w.params)) (.ref 144)) ⟨[.ref a, .int k u], []⟩ [(("self" : Str), .ref a), (("initial_size" : Str), .int k u)] :=
    PySem.W.kp_binds X.K (fun S => by kernel_rfl)
  have haT : a ∉ Tabs := tabs_cls X.T e1 rfl
  have hdT : ad ∉ Tabs := tabs_cls X.T e2 rfl
  have aL : s.heap.objs.size ∉ [a, ad] := by
    have l1 := Heap.lt_size e1
    have l2 := Heap.lt_size e2
    simp only [List.mem_cons, List.not_mem_nil, or_false, not_or]
    exact ⟨fun q => Nat.lt_irrefl _ (q ▸ l1), fun q => Nat.lt_irrefl _ (q ▸ l2)⟩
  refine call_fnAt r.room (fm.get X.K) fm.data X.G.nolimit (fm.crec X.K) rfl hb (fun h₁ F => ?_)
  have X1 : Ctx0 w mg mb h₁ := X.step (.of_keep F.keep)
  have G := X.G
  refine PySem.ks_wpAt_execs_cons (PySem.wpAt_of_wpAny ?_)
  refine plainObj_wpAny_Assign_Attribute ?_ (hs := rfl)
  iterate 2 (walk1; (try dsimp only))
  have e1' := F.keep _ _ e1
  have e2' := F.keep _ _ e2
  have hne : a ≠ ad := ne_of_cls e1 e2 rfl
  refine acc_store (m := 1) (es := []) (s := { s with heap := h₁, toks := _ }) X1.K e1' e2' (by rfl) (fun t => ?_) (fun t tk => ?_)
  · rw [put_none]; exact ⟨_, rfl, by simp⟩
  have sb := same_set (h := h₁) (k := ad) (f := Obj.putName initName (PyData.keyHash w.params initName) (.str initName t) (.int k u))
  have gt := Heap.get?_update_self (Obj.putName initName (PyData.keyHash w.params initName) (.str initName t) (.int k u)) e2' (by rw [put_none]; rfl)
  rw [put_none] at gt
  have st2 : StepH [ad] h₁ (h₁.update ad (Obj.putName initName (PyData.keyHash w.params initName) (.str initName t) (.int k u))) := stepH_upd (.head _) hdT
  dsimp only
  generalize h₁.update ad (Obj.putName initName (PyData.keyHash w.params initName) (.str initName t) (.int k u)) = h₂ at gt st2 sb ⊢
  have C2 : Acc h₂ a ad #[] [] k := ⟨⟨n, (sb.2 _ hne).trans e1'⟩, ⟨_, _, _, gt⟩, rfl, fun j hj => by simp at hj⟩
  have X2 : Ctx0 w mg mb h₂ := X1.stepW st2 (fun b hb => ht b (by simp at hb ⊢; exact .inr hb))
  have N2 := ns_step F.ns X1.T st2 (fun m => aL (by simp at m ⊢; exact .inr m))
  have K1 := F.keep
  clear F
  refine PySem.ks_wpAt_execs_cons ?_
  refine PySem.ks_wpAt_Expr_any ?_
  refine PySem.ks_wpAt_MethodCall ?_
  refine sup_baseM (attr := "__init__") (s := { s with heap := h₂, toks := _ }) X2 C2 N2 rfl rfl rfl rfl rfl rfl (by decide) (fm.get X2.K) fm.data rfl rfl rfl (cc := 151) (vs := (match (obK 151 w.params).data with | .fields vs => vs | _ => #[])) (file := "/claim/cut.py") (tf := tokOf (fld (obK 151 w.params) 2)) rfl (X2.K _ _ fm.code) (by kernel_rfl) (by kernel_rfl) pw_file (fun h₃ so k₃ n₃ e₃ => ?_)
  have X3 : Ctx0 w mg mb h₃ := X2.step (.of_keep k₃)
  have C3 := C2.on X2.T (fun b o _ e => k₃ b o e)
  obtain ⟨n', o3⟩ := C3.obj
  refine sup_method e₃ X3.K kn_sinit ty_init gt_wd (acc_ne X3.K C3) (by decide) ?_
  refine wpAny_big (l := none) (r.deeper (d := 29) (u := 77) _).in1.near (fun _ e => by cases e) (wdi0 (s := { s with heap := h₃, toks := _ }) X3.K o3 (fun h₄ tk₄ m k₄ n₄ e₄ => ⟨rfl, ?_⟩))
  have X4 : Ctx0 w mg mb h₄ := X3.step (.of_keep k₄)
  have C4 := C3.on X3.T (fun b o _ e => k₄ b o e)
  refine cw0 ⟨_, .inr (.inl rfl), keeper_mw e₄ rfl rfl⟩ ?_
  refine minit_call (s := { s with heap := h₄, toks := _ }) C4 e₄ (fun h₅ st5 C5 => ?_) haT
  refine PySem.wpAt_of_wpAny (wpAny_execs_nil ?_)
  refine hQ _ ⟨((((StepH.of_keep K1).trans (st2.mono (by simp))).trans (.of_keep fun b o e => k₄ _ _ (k₃ _ _ e))).trans (st5.mono (by simp))), rfl, id⟩ C5
theorem kn_acall {P : Params} : specialIn (KN P) (.ref 215) "__call__" = some (some (.builtin "type.__call__")) := by kernel_rfl
theorem kn_atyp {P : Params} : instIn (KN P) (.ref 215) (.type "type") = some true := by kernel_rfl
theorem kn_ainit {P : Params} : findIn (KN P) (.ref 215) "__init__" = some (some (.ref 152)) := by kernel_rfl
theorem kn_tainit {P : Params} : typeIn (KN P) (.ref 152) = some (.type "function") := by kernel_rfl
theorem kn_amade {P : Params} {M : Model} {h : Heap} (Z : (KN P).In h) (hM : M.w.params = P) : Looks M h (Bind.madeBy (.ref 215)) (some "list.__new__") := by
  subst hM; exact Looks.of_peek Z (by kernel_rfl)
theorem StepH.trans_news {W W0 : List Addr} {h0 h h' : Heap} (a : StepH W0 h0 h) (b : StepH W h h') (hn : ∀ x ∈ W, h0.get? x = none) : StepH W0 h0 h' where
  keep x o hx ht e := b.keep x o (fun m => by have := hn _ m; rw [this] at e; cases e) ht (a.keep x o hx ht e)
  tabs t ht ps e o := by
    obtain ⟨m1, e1, o1⟩ := a.tabs t ht ps e o
    obtain ⟨m2, e2, o2⟩ := b.tabs t ht _ e1 o1
    exact ⟨m1 ++ m2, by rw [← Array.append_assoc]; exact e2, by rw [← Array.append_assoc]; exact o2⟩
theorem tc_cunits (C : Addr) (rest : List Value) (kw : List (Str × Value)) : Code.cUnits (.builtin "type.__call__" ⟨.ref C :: rest, kw⟩) = 1 := by kernel_rfl
theorem NearR.creation {A : Around} {d u : Nat} (r : NearR A (d + 1) (u + 1)) (C : Addr) (rest : List Value) (kw : List (Str × Value)) : NearR (A.under (.builtin "type.__call__" ⟨.ref C :: rest, kw⟩)) d u :=
  ⟨r.handled, by have := r.depth; show A.depth + Code.weight _ + d ≤ 500; rw [tc_weight]; omega, by have := r.units; show A.units + Code.cUnits _ + u ≤ 5000; rw [tc_cunits]; omega⟩
theorem acc_make {u : Tok} {Q : Value → Shared → Prop} (X : Ctx0 w mg mb s.heap) (r : NearR A 40 100)
    (hQ : ∀ s' a ad, Step [] s s' → Acc s'.heap a ad #[] [] k → s.heap.get? a = none → s.heap.get? ad = none → Q (.ref a) s') : wpAny (model pw w) A (call (.ref 215) [.int k u]) Q E s := by
  have hC : s.heap.get? 215 = some (obK 215 w.params) := X.K _ _ (by kernel_rfl)
  have hcd : (obK 215 w.params).data = .cls (clsOf (obK 215 w.params)) := by kernel_rfl
  obtain ⟨h, g, d, t, os⟩ := s
  dsimp only at X hC
  have Lcall : Looks (model pw w) h (specialOf (.ref 215) "__call__") (some (.builtin "type.__call__")) := looks_specialIn X.K kn_acall
  have Ltyp : Looks (model pw w) h (isInstance (.ref 215) (.type "type")) true := looks_instIn X.K kn_atyp
  have Lmro := kn_mro (M := model pw w) X.K rfl
  have Lmade := kn_amade (M := model pw w) X.K rfl
  refine wpAny_call (codeAny_of_tree ?_)
  show wpAny _ _ (callAny (.ref 215) _) _ _ _
  refine nd_load hC ?_
  refine nd_bind (nd_pure ?_)
  rw [hcd]
  show wpAny _ _ (callAny.viaDunder (.ref 215) _) _ _ _
  unfold callAny.viaDunder
  refine wpAny_bind (Lcall.at ?_)
  dsimp only
  rw [tc_bind]
  refine wpAny_bind (wpAny_pure (wpAny_bind (wpAny_pure ?_)))
  refine wpAny_pure (a := Fin.again (.call (.builtin "type.__call__") ⟨.ref 215 :: [.int k u], []⟩)) (And.intro rfl ?_)
  refine codeAny_call_builtin_at (Code.quiet_builtin _ (by decide +kernel)) entry_typeCall (check_slot tc_kind tc_split Ltyp (tc_args _ _ _) ?_)
  unfold Builtin.«type.__call__»
  have hr := r.creation (d := 39) (u := 99) 215 [.int k u] []
  iterate 8 (first | simp only [Bool.false_eq_true, if_false] | lk)
  refine wpAny_bind (wpAny_pure (wpAny_bind (wpAny_holding ?_)))
  refine wpAny_big (l := none) hr.near (fun _ e => by cases e) (wpAny_mono (acc_new0 (s := ⟨h, g, d, t, os⟩) X.K (fun h₁ tk₁ a ad k₁ na nd e1 e2 => ?_)) (fun _ _ y => y) fun _ _ y => y.elim)
  have X1 : Ctx0 w mg mb h₁ := X.step (.of_keep k₁)
  have Lty : Looks (model pw w) h₁ (typeOf (.ref a)) (.ref 215) := acc_type e1
  have Lin : Looks (model pw w) h₁ (isInstance (.ref a) (.ref 215)) true := Lty.andThen (looks_mroIn X1.K kn_issub)
  have ht : ∀ b ∈ [a, ad], Top w.params b = false := fun b hb => by
    simp only [List.mem_cons, List.not_mem_nil, or_false] at hb
    rcases hb with rfl | rfl
    · exact top_new X na
    · exact top_new X nd
  have I : InstAt h₁ a ⟨.ref 215, some ad, .seq #[] 0, #[]⟩ 215 (some emptyDict) := ⟨e1, rfl, rfl, e2⟩
  refine wpAny_bind (Lin.at ?_)
  simp only [Bool.not_true, Bool.false_eq_true, if_false]
  refine wpAny_bind (wpAny_holding (special_fn (s := ⟨h₁, g, d, tk₁, os⟩) X1.K I kn_ainit kn_tainit ?_))
  refine ainit_spec (s := ⟨h₁, g, d, tk₁, os⟩) X1 e1 e2 ht (hr.less (by omega) (by omega)) (fun s₂ st₂ C₂ => ?_)
  refine wpAny_pure (hQ _ a ad ⟨(StepH.of_keep k₁).trans_news st₂.heap (fun x hx => ?_), st₂.os, st₂.gens⟩ C₂ na nd)
  simp only [List.mem_cons, List.not_mem_nil, or_false] at hx
  rcases hx with rfl | rfl
  · exact na
  · exact nd
end
end Mine
end
section
open PySem PySem.W PyProof.Rows PySem.Calls
set_option maxRecDepth 100000
set_option maxHeartbeats 1600000
set_option Elab.async false
namespace Mine
structure Ini (w : World) (mg mb : Str → Option Value) (h0 : Heap) (L0 x dx : Addr) (od : Obj) (m : Str → Option Value) (h : Heap) : Prop where
  ne : L0 ≠ dx
  top : Top w.params dx = false
  X : Ctx0 w mg mb h
  obj : h.get? x = some (instObj 131 dx)
  dict : h.get? dx = some od
  F : h.Ns L0 m
  st : StepH [dx] h0 h
theorem fn_setattr {P : Params} : findIn (KN P) (.ref 131) "__setattr__" = some (some (.builtin "object.__setattr__")) := by kernel_rfl
theorem fn_plain {P : Params} : plainOver (KN P) 131 = true := by kernel_rfl
theorem fn_hasdict {P : Params} : (clsIn (KN P) 131).any (·.hasDict) = true := by kernel_rfl
theorem m_finit (P : Params) : FnAt' P 72 "__init__" "_ValueFormatter.__init__" (sub (stm 10) 0) [] 71 .none := ⟨by kernel_rfl, by kernel_rfl, by kernel_rfl, by kernel_rfl⟩
theorem new_plst {M : Model} {A : Around} {E : Value → Shared → Prop} {s : Shared} {vs : List Value} {Q : Value → Shared → Prop} (hs : vs.length ≤ 1000) (h : ∀ h' T, KeepH s.heap h' → s.heap.get? T = none → PlainL h' T vs.toArray → Q (.ref T) { s with heap := h' }) : wpAny M A (newList vs) Q E s :=
  wpAny_newList (items := vs) (h _ _ (fun b o e => Heap.get?_push_of_some _ e) (Heap.get?_none_of_le (Nat.le_refl _)) ⟨_, 0, Heap.get?_push_size _ rfl, rfl, rfl, rfl⟩) (by rw [sizeLine_eq]; omega)
theorem StepH.back {W : List Addr} {h h' : Heap} (st : StepH W h h') (T : TabO h) (hW : ∀ c ∈ W, h'.get? c ≠ none) {b : Addr} (e : h'.get? b = none) : h.get? b = none := by
  cases q : h.get? b with
  | none => rfl
  | some o =>
    by_cases hb : b ∈ W
    · exact (hW _ hb e).elim
    · by_cases ht : b ∈ Tabs
      · obtain ⟨ps, e1, o1⟩ := T _ ht
        obtain ⟨m, e2, _⟩ := st.tabs _ ht _ e1 o1
        rw [e] at e2; cases e2
      · rw [st.keep _ _ hb ht q] at e; cases e
theorem keeper_acls {P : Params} {M : Model} {h : Heap} (Z : (KN P).In h) (hM : M.w.params = P) : Looks M h (keeperOf (.ref 215)) .machine := by
  subst hM; exact Looks.of_peek Z (by kernel_rfl)
section
variable {w : World} {A : Around} {E : Value → Shared → Prop} {s : Shared} {mg mb : Str → Option Value}
theorem fset {x dx : Addr} {od : Obj} {name : Str} {v : Value} {Q : Unit → Shared → Prop} (X : (KN w.params).In s.heap) (e1 : s.heap.get? x = some (instObj 131 dx)) (e2 : s.heap.get? dx = some od)
    (ht : takerIn (KN w.params) 131 name = some none) (hl : (lookIn name od).isSome = true) (he : ∀ t, ∃ es n, (Obj.putName name (PyData.keyHash w.params name) (.str name t) v od).data = .dict es n ∧ es.size ≤ 1000)
    (h : ∀ t tk h', Heap.SameBut dx s.heap h' → h'.get? dx = some (Obj.putName name (PyData.keyHash w.params name) (.str name t) v od) → Q () { s with heap := h', toks := tk }) :
    wpAny (model pw w) A (setAttr (.ref x) name v) Q E s := by
  obtain ⟨cd, hc, hd'⟩ := any_some (fn_hasdict (P := w.params))
  have I : InstAt s.heap x (instObj 131 dx) 131 (some od) := ⟨e1, rfl, rfl, e2⟩
  refine set_plain X I fn_setattr ?_
  obtain ⟨hh, g, d, t, os⟩ := s
  dsimp only at X e1 e2 I
  refine osa_open (s := ⟨hh, g, d, t + 1, os⟩) X I fn_plain ht fun b => ?_
  refine wpAny_bind (wpAny_pure (wpAny_bind (wpAny_bind (wpAny_loadPart e1 (wpAny_bind ((looks_clsIn X hc).here ?_))))))
  rw [hd']
  refine wpAny_pure (a := some dx) (wpAny_bind (wpAny_pure (wpAny_bind ?_)))
  unfold nsSet
  refine wpAny_bind (wpAny_bind (wpAny_askSetting (wpAny_pure (wpAny_bind (wpAny_mkText (wpAny_bind (wpAny_loadPart e2 ?_)))))))
  unfold lookIn at hl
  split at hl
  · rename_i es₀ n₀ q
    rw [q]
    dsimp only
    have c : (!es₀.any (·.key.isStr name) && es₀.any (·.refKey)) = false := by
      rw [← Array.any_toList, ← Array.any_toList]
      split at hl
      · rename_i en he
        rw [List.any_eq_true.mpr ⟨en, List.mem_of_find?_eq_some he, List.find?_some he⟩]; rfl
      · split at hl
        · cases hl
        · rename_i z; rw [Bool.not_eq_true] at z; rw [z, Bool.and_false]
    rw [aRefKeyMayBeTheName_at, c]
    refine wpAny_updatePart e2 ?_
    obtain ⟨es1, n1, he1, hz⟩ := he (t + 1)
    have D' : (hh.update dx (Obj.putName name (PyData.keyHash w.params name) (.str name (t + 1)) v)).get? dx = some (Obj.putName name (PyData.keyHash w.params name) (.str name (t + 1)) v od) :=
      Heap.get?_update_self _ e2 (by generalize Obj.putName name (PyData.keyHash w.params name) (.str name (t + 1)) v od = o at he1; obtain ⟨_, _, dd, _⟩ := o; cases he1; rfl)
    refine wpAny_bind (wpAny_lookBehind D' (by rw [he1]; obtain ⟨l⟩ := es1; exact pastItsLine_dict (by rw [sizeLine_eq]; omega)) ?_)
    exact wpAny_pure (h (t + 1) _ _ same_set D')
  · cases hl
end
section
variable {w : World} {mg mb : Str → Option Value} {h0 h h' : Heap} {L0 x dx : Addr} {od od' : Obj} {m : Str → Option Value}
theorem Ini.step (V : Ini w mg mb h0 L0 x dx od m h) (hx : x ∉ Tabs) (hd : dx ∉ Tabs) (st : StepH [] h h') : Ini w mg mb h0 L0 x dx od m h' :=
  ⟨V.ne, V.top, V.X.step st, st.keep _ _ (by simp) hx V.obj, st.keep _ _ (by simp) hd V.dict, ns_step V.F V.X.T st (by simp), V.st.trans (st.mono (by simp))⟩
theorem Ini.put (V : Ini w mg mb h0 L0 x dx od m h) (hx : x ≠ dx) (hd : dx ∉ Tabs) (sb : Heap.SameBut dx h h') (e : h'.get? dx = some od') : Ini w mg mb h0 L0 x dx od' m h' :=
  have st := stepH_same sb hd
  ⟨V.ne, V.top, V.X.stepW st (by simp [V.top]), (sb.2 _ hx).trans V.obj, e, ns_step V.F V.X.T st (by simp [V.ne]), V.st.trans st⟩
end
section
variable {w : World} {A : Around} {E : Value → Shared → Prop} {s : Shared} {mg mb : Str → Option Value}
theorem finit_code {x dx : Addr} {k wd : Int} {u1 u2 u3 u4 : Tok} {Q : Value → Shared → Prop} (X : Ctx0 w mg mb s.heap) (e1 : s.heap.get? x = some (instObj 131 dx)) (e2 : s.heap.get? dx = some emptyDict) (ht : Top w.params dx = false) (r : NearR A 60 160)
    (hQ : ∀ s' L a ad, StepH [dx] s.heap s'.heap → s'.os = s.os → (AllBare s.gens → AllBare s'.gens) → Fmt w.params s'.heap x dx L a wd [] → Acc s'.heap a ad #[] [] k → s.heap.get? L = none → s.heap.get? a = none → s.heap.get? ad = none → Q .none s') :
    codeAny (model pw w) A (.call (.ref 72) ⟨[.ref x, .int k u1, .int wd u2, .str "" u3, .str " " u4], []⟩) (RetP Q E) s := by
  have fm := m_finit w.params
  have hbd : ∀ a b c d e, bindArgs (fdM "__init__" "_ValueFormatter.__init__" (sub (stm 10) 0) [] (pmOf (obK 72 w.params)) (.ref 71) (ctOf (obK 72 w.params)) .none) ⟨[a, b, c, d, e], []⟩ = (pure [(("self" : Str), a), (("headerlen" : Str), b), (("maxlen" : Str), c), (("continuation_ws" : Str), d), (("splitchars" : Str), e)] : Sem (List (Str × Value))) := fun a b c d e => by rfl
  have hxT : x ∉ Tabs := tabs_cls X.T e1 rfl
  have hdT : dx ∉ Tabs := tabs_cls X.T e2 rfl
  have hxd : x ≠ dx := ne_of_cls e1 e2 rfl
  refine code_fn r.room (fm.get X.K) fm.data X.G.nolimit (fm.crec X.K) rfl (BindsTo.of_eq (hbd _ _ _ _ _)) (fun h₁ F => ?_)
  have V : Ini w mg mb s.heap s.heap.objs.size x dx emptyDict _ h₁ := ⟨Nat.ne_of_gt (Heap.lt_size e2), ht, X.step (.of_keep F.keep), F.keep _ _ e1, F.keep _ _ e2, F.ns, .of_keep F.keep⟩
  have hr := (r.deeper (d := 59) (u := 157))
  clear F
  generalize s.heap.objs.size = L0 at V ⊢
  have hacc : mg "_Accumulator" = some (.ref 215) := V.X.G.names.acc
  iterate 1 (walk1; (try dsimp only))
  refine plainObj_wpAny_Assign_Attribute ?_ (hs := rfl)
  iterate 2 (walk1; (try dsimp only))
  refine fset (s := { s with heap := h₁, toks := _ }) V.X.K V.obj V.dict (by kernel_rfl) (by rfl) (fun t => ⟨_, _, rfl, by simp⟩) (fun t1 tk1 h₂ sb e => ?_)
  replace V := V.put (od' := ⟨.type "dict", none, .dict #[⟨PyData.keyHash w.params "_maxlen", .str "_maxlen" t1, .int wd u2⟩] 1, #[]⟩) hxd hdT sb (e.trans (by rfl))
  clear sb e
  iterate 1 (walk1; (try dsimp only))
  refine plainObj_wpAny_Assign_Attribute ?_ (hs := rfl)
  iterate 2 (walk1; (try dsimp only))
  refine fset (s := ⟨h₂, s.gens, s.drawn, tk1, s.os⟩) V.X.K V.obj V.dict (by kernel_rfl) (by rfl) (fun t => ⟨_, _, rfl, by simp⟩) (fun t2 tk2 h₃ sb e => ?_)
  replace V := V.put (od' := ⟨.type "dict", none, .dict #[⟨PyData.keyHash w.params "_maxlen", .str "_maxlen" t1, .int wd u2⟩, ⟨PyData.keyHash w.params "_continuation_ws", .str "_continuation_ws" t2, .str "" u3⟩] 2, #[]⟩) hxd hdT sb (e.trans (by rfl))
  clear sb e
  iterate 1 (walk1; (try dsimp only))
  refine plainObj_wpAny_Assign_Attribute ?_ (hs := rfl)
  refine Call_ ?_
  refine nm_builtin V.X.G.g (V.X.G.names.free _ (by simp)) V.X.G.b (V.X.G.bi "len" _ (by decide) b_len) ?_
  refine cw ?_
  iterate 3 (walk1; (try dsimp only))
  refine ⟨⟨_, .inr (.inl rfl), keeper_builtin⟩, ?_⟩
  refine P.len_str (by decide +kernel) ?_
  rw [show ((("" : Str).length : Nat) : Int) = 0 by decide +kernel]
  dsimp only
  generalize tk2 + 1 = ul
  iterate 1 (walk1; (try dsimp only))
  refine fset (s := ⟨h₃, s.gens, s.drawn, ul + 1, s.os⟩) V.X.K V.obj V.dict (by kernel_rfl) (by rfl) (fun t => ⟨_, _, rfl, by simp⟩) (fun t3 tk3 h₄ sb e => ?_)
  replace V := V.put (od' := ⟨.type "dict", none, .dict #[⟨PyData.keyHash w.params "_maxlen", .str "_maxlen" t1, .int wd u2⟩, ⟨PyData.keyHash w.params "_continuation_ws", .str "_continuation_ws" t2, .str "" u3⟩, ⟨PyData.keyHash w.params "_continuation_ws_len", .str "_continuation_ws_len" t3, .int 0 ul⟩] 3, #[]⟩) hxd hdT sb (e.trans (by rfl))
  clear sb e
  iterate 1 (walk1; (try dsimp only))
  refine plainObj_wpAny_Assign_Attribute ?_ (hs := rfl)
  iterate 2 (walk1; (try dsimp only))
  refine fset (s := ⟨h₄, s.gens, s.drawn, tk3, s.os⟩) V.X.K V.obj V.dict (by kernel_rfl) (by rfl) (fun t => ⟨_, _, rfl, by simp⟩) (fun t4 tk4 h₅ sb e => ?_)
  replace V := V.put (od' := ⟨.type "dict", none, .dict #[⟨PyData.keyHash w.params "_maxlen", .str "_maxlen" t1, .int wd u2⟩, ⟨PyData.keyHash w.params "_continuation_ws", .str "_continuation_ws" t2, .str "" u3⟩, ⟨PyData.keyHash w.params "_continuation_ws_len", .str "_continuation_ws_len" t3, .int 0 ul⟩, ⟨PyData.keyHash w.params "_splitchars", .str "_splitchars" t4, .str " " u4⟩] 4, #[]⟩) hxd hdT sb (e.trans (by rfl))
  clear sb e
  have hst := V.st.keep
  iterate 1 (walk1; (try dsimp only))
  refine plainObj_wpAny_Assign_Attribute ?_ (hs := rfl)
  iterate 2 (walk1; (try dsimp only))
  refine new_plst (by simp) (fun h₆ L k6 nL pl => ?_)
  replace V := V.step hxT hdT (.of_keep k6)
  have hLd : L ≠ dx := fun q => by
    obtain ⟨o, n, eo, c, _⟩ := pl
    have := V.dict
    rw [q, this] at eo; cases eo; simp at c
  have hL0 : s.heap.get? L = none := by
    have lt : ∀ o, s.heap.get? L = some o → False := fun o e => by
      have := hst L o (by simp [hLd]) (by obtain ⟨o, n, eo, c, _⟩ := pl; exact tabs_cls V.X.T eo (by rw [c]; rfl)) e
      rw [nL] at this; cases this
    cases q : s.heap.get? L with
    | none => rfl
    | some o => exact (lt o q).elim
  have hLT : L ∉ Tabs := by obtain ⟨o, n, eo, c, _⟩ := pl; exact tabs_cls V.X.T eo (by rw [c]; rfl)
  iterate 1 (walk1; (try dsimp only))
  refine fset (s := ⟨h₆, s.gens, s.drawn, tk4, s.os⟩) V.X.K V.obj V.dict (by kernel_rfl) (by rfl) (fun t => ⟨_, _, rfl, by simp⟩) (fun t5 tk5 h₇ sb e => ?_)
  replace pl : PlainL h₇ L #[] := pl.extBut sb.extBut hLd
  replace V := V.put (od' := ⟨.type "dict", none, .dict #[⟨PyData.keyHash w.params "_maxlen", .str "_maxlen" t1, .int wd u2⟩, ⟨PyData.keyHash w.params "_continuation_ws", .str "_continuation_ws" t2, .str "" u3⟩, ⟨PyData.keyHash w.params "_continuation_ws_len", .str "_continuation_ws_len" t3, .int 0 ul⟩, ⟨PyData.keyHash w.params "_splitchars", .str "_splitchars" t4, .str " " u4⟩, ⟨PyData.keyHash w.params "_lines", .str "_lines" t5, .ref L⟩] 5, #[]⟩) hxd hdT sb (e.trans (by rfl))
  clear sb e k6 nL
  iterate 1 (walk1; (try dsimp only))
  refine plainObj_wpAny_Assign_Attribute ?_ (hs := rfl)
  refine Call_ ?_
  iterate 1 (walk1; (try dsimp only))
  refine cw ?_
  iterate 3 (walk1; (try dsimp only))
  refine ⟨⟨_, .inr (.inl rfl), keeper_acls V.X.K rfl⟩, ?_⟩
  refine acc_make (s := ⟨h₇, s.gens, s.drawn, tk5, s.os⟩) V.X ((hr _).less (by omega) (by omega)) (fun s₈ a ad st₈ C₈ na nd => ?_)
  obtain ⟨h₈, g₈, d₈, t₈, o₈⟩ := s₈
  dsimp only at na nd st₈ C₈
  have bk : ∀ b, h₇.get? b = none → s.heap.get? b = none := fun b hb => V.st.back X.T (fun c hc => by simp at hc; rw [hc, V.dict]; exact fun q => by cases q) hb
  have had : a ≠ dx := fun q => by rw [q, V.dict] at na; cases na
  have hdd : ad ≠ dx := fun q => by rw [q, V.dict] at nd; cases nd
  replace pl : PlainL h₈ L #[] := let ⟨o, n, e, r⟩ := pl; ⟨o, n, st₈.heap.keep _ _ (by simp) hLT e, r⟩
  replace V := V.step hxT hdT st₈.heap
  iterate 1 (walk1; (try dsimp only))
  refine fset (s := ⟨h₈, g₈, d₈, t₈, o₈⟩) V.X.K V.obj V.dict (by kernel_rfl) (by rfl) (fun t => ⟨_, _, rfl, by simp⟩) (fun t6 tk6 h₉ sb e => ?_)
  have C₉ := C₈.stepW (stepH_same sb hdT) V.X.T (by simp [had]) (by simp [hdd]) (fun b hb vs i => by
    simp at hb
    have := V.dict
    obtain ⟨o, eo, c, _⟩ := i
    rw [hb, this] at eo; cases eo; simp at c)
  replace pl : PlainL h₉ L #[] := pl.extBut sb.extBut hLd
  replace V := V.put (od' := ⟨.type "dict", none, .dict #[⟨PyData.keyHash w.params "_maxlen", .str "_maxlen" t1, .int wd u2⟩, ⟨PyData.keyHash w.params "_continuation_ws", .str "_continuation_ws" t2, .str "" u3⟩, ⟨PyData.keyHash w.params "_continuation_ws_len", .str "_continuation_ws_len" t3, .int 0 ul⟩, ⟨PyData.keyHash w.params "_splitchars", .str "_splitchars" t4, .str " " u4⟩, ⟨PyData.keyHash w.params "_lines", .str "_lines" t5, .ref L⟩, ⟨PyData.keyHash w.params "_current_line", .str "_current_line" t6, .ref a⟩] 6, #[]⟩) hxd hdT sb (e.trans (by rfl))
  iterate 1 (walk1; (try dsimp only))
  refine hQ _ L a ad V.st st₈.os st₈.gens ⟨V.obj, ⟨_, _, _, _, _, _, _, _, _, _, _, _, _, _, _, _, _, V.dict⟩, ⟨[], pl, .nil⟩, top_new X hL0⟩ C₉ hL0 (bk _ na) (bk _ nd)
end
end Mine
end
section
open PySem PySem.W PyProof.Rows PySem.Calls
set_option maxRecDepth 100000
set_option maxHeartbeats 1600000
set_option Elab.async false
namespace Mine
theorem fn_makes {P : Params} : makesIn (KN P) 131 = true := by kernel_rfl
theorem fn_init {P : Params} : findIn (KN P) (.ref 131) "__init__" = some (some (.ref 72)) := by kernel_rfl
theorem fn_tinit {P : Params} : typeIn (KN P) (.ref 72) = some (.type "function") := by kernel_rfl
section
variable {w : World} {A : Around} {E : Value → Shared → Prop} {s : Shared} {mg mb : Str → Option Value}
theorem fmt_make {k wd : Int} {u1 u2 u3 u4 : Tok} {Q : Value → Shared → Prop} (X : Ctx0 w mg mb s.heap) (r : NearR A 70 170)
    (hQ : ∀ s' f fd L a ad, Step [] s s' → Fmt w.params s'.heap f fd L a wd [] → Acc s'.heap a ad #[] [] k → (∀ b ∈ [f, fd, L, a, ad], s.heap.get? b = none) → Q (.ref f) s') :
    wpAny (model pw w) A (call (.ref 131) [.int k u1, .int wd u2, .str "" u3, .str " " u4]) Q E s := by
  obtain ⟨h, g, d, t, os⟩ := s
  refine wpAny_call (make_core (makes_of X.K fn_makes) (looks_findIn X.K fn_init) (fun self => bind_fn X.K self fn_tinit) (.inl rfl) ?_)
  have k1 : KeepH h ((h.push emptyDict).push (instObj 131 h.objs.size)) := fun b o e => Heap.get?_push_of_some _ (Heap.get?_push_of_some _ e)
  have e1 : ((h.push emptyDict).push (instObj 131 h.objs.size)).get? (h.objs.size + 1) = some (instObj 131 h.objs.size) := by heap_get
  have e2 : ((h.push emptyDict).push (instObj 131 h.objs.size)).get? h.objs.size = some emptyDict := by heap_get
  have n1 : h.get? (h.objs.size + 1) = none := Heap.get?_none_of_le (Nat.le_succ _)
  have n2 : h.get? h.objs.size = none := Heap.get?_none_of_le (Nat.le_refl _)
  generalize h.objs.size + 1 = x at e1 n1 ⊢
  generalize h.objs.size = dx at k1 e1 e2 n2 ⊢
  generalize (h.push emptyDict).push (instObj 131 dx) = h₁ at k1 e1 e2 ⊢
  have X1 : Ctx0 w mg mb h₁ := Ctx0.step (h := h) X (.of_keep k1)
  have hr := r.creation (d := 69) (u := 169) 131 [.int k u1, .int wd u2, .str "" u3, .str " " u4] []
  have bk : ∀ b, h₁.get? b = none → h.get? b = none := fun b hb => by
    cases q : h.get? b with
    | none => rfl
    | some o => rw [k1 _ _ q] at hb; cases hb
  refine codeAny_mono (finit_code (s := ⟨h₁, g, d, t, os⟩) (E := fun e s' => E e s') (Q := fun v s' => v = .none ∧ Q (.ref x) s') X1 e1 e2 (top_new X n2) (hr.less (by omega) (by omega)) (fun s' L a ad st ho hg D C nL na nd => ⟨rfl, ?_⟩)) (fun r s' z => ?_)
  · refine hQ s' x dx L a ad ⟨(StepH.of_keep k1).trans_news st (fun b hb => by simp at hb; rw [hb]; exact n2), ho, hg⟩ D C (fun b hb => ?_)
    simp only [List.mem_cons, List.not_mem_nil, or_false] at hb
    rcases hb with rfl | rfl | rfl | rfl | rfl
    · exact n1
    · exact n2
    · exact bk _ nL
    · exact bk _ na
    · exact bk _ nd
  · rcases r with e | (v | _ | _ | _) <;> first | exact z | exact z.elim
end
end Mine
end
section
open PySem PySem.W PyProof.Rows PySem.Calls
set_option maxRecDepth 100000
set_option maxHeartbeats 1600000
set_option Elab.async false
namespace Mine
theorem all_snoc {α : Type} {p : α → Prop} {l : List α} {x : α} (h : ∀ y ∈ l, p y) (hx : p x) : ∀ y ∈ l ++ [x], p y := fun y hy => by
  simp only [List.mem_append, List.mem_singleton] at hy
  rcases hy with hy | rfl
  · exact h y hy
  · exact hx
structure FS where
  ls : List Str
  ps : List (Str × Str)
  k : Int
noncomputable def chunkF (wd : Int) (F : FS) (c p : Str) : FS := if F.k + tot (F.ps ++ [(c, p)]) ≤ wd then ⟨F.ls, F.ps ++ [(c, p)], F.k⟩ else ⟨F.ls ++ [lineF F.ps], [(c, p)], 0⟩
structure FmtS (P : Params) (h : Heap) (f fd L a ad : Addr) (wd : Int) (F : FS) : Prop where
  D : Fmt P h f fd L a wd F.ls
  C : ∃ xs, Acc h a ad xs F.ps F.k
structure GoodF (n : Nat) (F : FS) : Prop where
  k : F.k = 0 ∨ F.k = 1
  z : ∀ p ∈ F.ps, p.1.length ≤ 10000 ∧ p.2.length ≤ 10000
  np : F.ps.length ≤ n
  nl : F.ls.length ≤ n
theorem GoodF.chunk {n : Nat} {F : FS} {wd : Int} {c p : Str} (g : GoodF n F) (hc : c.length ≤ 10000) (hp : p.length ≤ 10000) : GoodF (n + 1) (chunkF wd F c p) := by
  have := g.np
  have := g.nl
  unfold chunkF
  split
  · exact ⟨g.k, all_snoc g.z ⟨hc, hp⟩, by simp; omega, by show F.ls.length ≤ _; omega⟩
  · exact ⟨.inl rfl, fun q hq => by simp only [List.mem_singleton] at hq; subst hq; exact ⟨hc, hp⟩, by simp, by simp; omega⟩
theorem m_laid (P : Params) : FnAt' P 249 "_law_laid" "_law_laid" (stm 18) [] 248 .none := ⟨by kernel_rfl, by kernel_rfl, by kernel_rfl, by kernel_rfl⟩
theorem fn_chunk {P : Params} : findIn (KN P) (.ref 131) "_append_chunk" = some (some (.ref 128)) := by kernel_rfl
theorem fn_tchunk {P : Params} : typeIn (KN P) (.ref 128) = some (.type "function") := by kernel_rfl
section
variable {w : World} {A : Around} {E : Value → Shared → Prop} {s : Shared} {f fd L a ad : Addr} {wd : Int} {mg mb : Str → Option Value}
theorem chunk_call {F : FS} {c p : Str} {u u' : Tok} {Q : Value → Shared → Prop} (X : Ctx0 w mg mb s.heap) (S : FmtS w.params s.heap f fd L a ad wd F) (g : GoodF 49 F) (hcl : c.length ≤ 10000) (hpl : p.length ≤ 10000) (r : NearR A 50 150)
    (hc : wd < F.k + tot (F.ps ++ [(c, p)]) → c = " " ∧ F.ps ≠ [])
    (hQ : ∀ s', Step [a, ad, L] s s' → FmtS w.params s'.heap f fd L a ad wd (chunkF wd F c p) → Q .none s') :
    wpAny (model pw w) A (call (.ref 128) [.ref f, .str c u, .str p u']) Q E s := by
  obtain ⟨xs, C⟩ := S.C
  refine chunk_spec X S.D C g.k (all_snoc g.z ⟨hcl, hpl⟩) (by have := g.np; omega) (by have := g.nl; omega) r (fun h1 s' xs' st D' C' => ?_) hc (fun h1 s' xs' st D' C' => ?_)
  · refine hQ s' st ?_
    unfold chunkF
    rw [if_pos h1]
    exact ⟨D', _, C'⟩
  · refine hQ s' st ?_
    unfold chunkF
    rw [if_neg (by omega)]
    exact ⟨D', _, C'⟩
theorem laid_spec {F : FS} {t : Str} {u : Tok} {Q : Value → Shared → Prop} (X : Ctx0 w mg mb s.heap) (S : FmtS w.params s.heap f fd L a ad wd F) (g : GoodF 49 F) (ht : t.cps.size ≤ 1000) (hpl : (quoteF t).length ≤ 10000) (r : NearR A 60 170)
    (hne : F.ps ≠ [])
    (hQ : ∀ s', Step [a, ad, L] s s' → FmtS w.params s'.heap f fd L a ad wd (chunkF wd F " " (quoteF t)) → Q (.ref f) s') :
    wpAny (model pw w) A (call (.ref 249) [.ref f, .str t u]) Q E s := by
  have fm := m_laid w.params
  have hbd : ∀ v1 v2, bindArgs (fdM "_law_laid" "_law_laid" (stm 18) [] (pmOf (obK 249 w.params)) (.ref 248) (ctOf (obK 249 w.params)) .none) ⟨[v1, v2], []⟩ = (pure [(("formatter" : Str), v1), (("word" : Str), v2)] : Sem (List (Str × Value))) := fun v1 v2 => by rfl
  refine call_fn r.room (fm.get X.K) fm.data X.G.nolimit (fm.crec X.K) rfl (BindsTo.of_eq (hbd _ _)) (fun h₁ Fr1 => ?_)
  obtain ⟨xs, C⟩ := S.C
  have V := Live.begin X S.D C Fr1
  generalize s.heap.objs.size = L0 at V ⊢
  clear Fr1
  have hr := (r.deeper (d := 59) (u := 167))
  have hquote : mg "quote" = some (.ref 58) := X.G.names.quote
  iterate 4 (walk1; (try dsimp only))
  refine fmt_method (s := { s with heap := h₁, toks := _ }) V.X.K V.D fn_chunk fn_tchunk (fun _ _ _ _ _ _ _ _ _ _ _ _ _ _ _ _ _ => by kernel_rfl) ?_
  refine cw ?_
  iterate 3 (walk1; (try dsimp only))
  refine Call_ ?_
  iterate 1 (walk1; (try dsimp only))
  refine cw ?_
  iterate 3 (walk1; (try dsimp only))
  refine ⟨V.X.G.keepFn V.X.G.f_quote, ?_⟩
  refine quote_spec (s := { s with heap := h₁, toks := _ }) V.X.G ((hr _).room.less (by omega) (by omega)) ht (fun s₂ u₂ kp => ?_)
  obtain ⟨h₂, tk₂, rfl, k₂⟩ := kp
  replace V := V.keep k₂
  iterate 1 (walk1; (try dsimp only))
  refine ⟨⟨_, .inl rfl, keeper_fn ((m_chunk w.params).get V.X.K) (m_chunk w.params).data⟩, ?_⟩
  refine chunk_call (F := F) (s := { s with heap := h₂, toks := tk₂ }) V.X ⟨V.D, _, V.C⟩ g (by decide +kernel) hpl ((hr _).less (by omega) (by omega)) (fun _ => ⟨rfl, hne⟩) (fun s₃ st₃ S₃ => ?_)
  obtain ⟨h₃, g₃, d₃, t₃, o₃⟩ := s₃
  obtain ⟨xs₃, C₃⟩ := S₃.C
  replace V := V.full st₃.heap S₃.D C₃
  iterate 3 (walk1; (try dsimp only))
  exact hQ _ ⟨V.st, st₃.os, st₃.gens⟩ ⟨V.D, _, V.C⟩
end
end Mine
end
section
open PySem PySem.W PyProof.Rows PySem.Calls
set_option maxRecDepth 100000
set_option maxHeartbeats 1600000
set_option Elab.async false
set_option linter.unusedVariables false
namespace Mine
theorem m_reduce (P : Params) : FnAt' P 235 "reduce" "reduce" (stm 15) [] 234 (.ref 228) := ⟨by kernel_rfl, by kernel_rfl, by kernel_rfl, by kernel_rfl⟩
noncomputable def LstAt (h : Heap) (l : Addr) (vs : Array Value) : Prop := ∃ n, h.get? l = some ⟨.type "list", none, .seq vs n, #[]⟩
theorem LstAt.isList {h : Heap} {l : Addr} {vs : Array Value} (x : LstAt h l vs) : h.IsList l vs := let ⟨n, e⟩ := x; ⟨_, e, rfl, n, rfl⟩
theorem LstAt.on {h h' : Heap} {l : Addr} {vs : Array Value} (x : LstAt h l vs) (k : ∀ o, h.get? l = some o → h'.get? l = some o) : LstAt h' l vs := let ⟨n, e⟩ := x; ⟨n, k _ e⟩
theorem iter0 {w : World} {s : Shared} {A : Around} {E : Value → Shared → Prop} {l : Addr} {vs : Array Value} {n : Nat} {Q : Value → Shared → Prop}
    (h1 : s.heap.get? l = some ⟨.type "list", none, .seq vs n, #[]⟩)
    (hQ : ∀ h' tk I, KeepH s.heap h' → s.heap.get? I = none → h'.get? I = some { cls := .type "list_iterator", data := .fields #[.ref l, .int 0 0] } → Q (.ref I) ⟨h', s.gens, s.drawn, tk, s.os⟩) :
    wpAny (model pw w) A (call (.builtin "iter") [.ref l] []) Q E s := by
  refine call_function_entry (by decide +kernel) (by decide +kernel) kdk_entry_iter (kdk_args_iter _) ?_
  unfold Builtin.«iter»
  refine wpAny_bind (m := someArgs "iter" 1 2 _) (wpAny_of_eq (a := [Value.ref l]) (by first | rfl | kernel_rfl!) ?_)
  show wpAny _ _ (pyIter (.ref l) >>= _) _ _ _
  have hl : s.heap.IsList l vs := ⟨_, h1, rfl, n, rfl⟩
  refine wpAny_bind (wpAny_pyIter_list hl ?_)
  exact wpAny_pure ⟨_, rfl, hQ _ _ _ (fun b o e => Heap.get?_push_of_some _ e) (Heap.get?_none_of_le (Nat.le_refl _)) (Heap.get?_push_size _ rfl)⟩
section
variable {w : World} {f fd L a ad : Addr} {wd : Int} {ls : List Str} {xs : Array Value} {ps : List (Str × Str)} {k : Int} {mg mb : Str → Option Value} {h0 h h' : Heap} {L0 : Addr} {m m' : Str → Option Value}
theorem Live.iter {I l : Addr} {i : Nat} (V : Live w mg mb h0 L0 f fd L a ad wd ls xs ps k m h) (it : h.IsListIter I l i) (ex : Heap.ExtBut I h h') (hn : h0.get? I = none) (ht : Top w.params I = false) : Live w mg mb h0 L0 f fd L a ad wd ls xs ps k m h' := by
  obtain ⟨o, eo, co, dO⟩ := it
  have hT : I ∉ Tabs := tabs_cls V.X.T eo (by rw [co]; rfl)
  have st : StepH [I] h h' := ⟨fun b o hb _ e => ex b o (fun q => hb (q ▸ .head _)) e, fun t ht ps e o => ⟨#[], by rw [Array.append_empty]; exact ex t _ (fun q => hT (q ▸ ht)) e, by rw [Array.append_empty]; exact o⟩⟩
  obtain ⟨nn, h0', h1, h2, h3, h4, h5, t0, t1, t2, t3, t4, t5, u0, u1, u2, u3, e2⟩ := V.D.dict
  obtain ⟨vs, hpl, _⟩ := V.D.lines
  obtain ⟨oL, eL, cL, _⟩ := hpl.isList
  obtain ⟨n, e3⟩ := V.C.obj
  obtain ⟨x, y, z, e4⟩ := V.C.dict
  have e1 := V.D.obj
  have n1 : f ≠ I := fun q => by rw [q, eo] at e1; cases e1; cases co
  have n2 : fd ≠ I := fun q => by rw [q, eo] at e2; cases e2; simp at co
  have n3 : L ≠ I := fun q => by rw [q, eo] at eL; cases eL; rw [cL] at co; simp at co
  have n4 : a ≠ I := fun q => by rw [q, eo] at e3; cases e3; cases co
  have n5 : ad ≠ I := fun q => by rw [q, eo] at e4; cases e4; simp at co
  have n6 : L0 ≠ I := fun q => by
    obtain ⟨o', es, ep, eo', ed, _⟩ := V.F
    rw [q, eo] at eo'; cases eo'; rw [dO] at ed; cases ed
  refine ⟨V.new, V.ne, V.top, V.X.stepW st (by simp [ht]), V.D.step V.X.T st (by simp [n1]) (by simp [n2]) (by simp [n3]), V.C.stepW st V.X.T (by simp [n4]) (by simp [n5]) (fun b hb vs i => ?_), ns_step V.F V.X.T st (by simp [n6]), V.st.trans_new st hn⟩
  simp at hb; subst hb
  obtain ⟨o', eo', c', _⟩ := i
  rw [eo] at eo'; cases eo'; rw [co] at c'; simp at c'
theorem Live.lstW {l : Addr} {vs : Array Value} {W : List Addr} (V : Live w mg mb h0 L0 f fd L a ad wd ls xs ps k m h) (x : LstAt h l vs) (hl : l ≠ L) (st : StepH W h h') (hW : ∀ b ∈ W, b ∈ [a, ad, L]) : LstAt h' l vs := by
  obtain ⟨n, e⟩ := x
  refine ⟨n, st.keep _ _ (fun q => ?_) (tabs_cls V.X.T e rfl) e⟩
  have hm := hW _ q
  obtain ⟨n', e1⟩ := V.C.obj
  obtain ⟨x, y, z, e2⟩ := V.C.dict
  simp only [List.mem_cons, List.not_mem_nil, or_false] at hm
  rcases hm with rfl | rfl | rfl
  · rw [e] at e1; cases e1
  · rw [e] at e2; simp at e2
  · exact hl rfl
theorem Live.iterW {I l : Addr} {i : Nat} {o : Obj} (V : Live w mg mb h0 L0 f fd L a ad wd ls xs ps k m h) (it : h.IsListIter I l i) (st : StepH [a, ad, L] h h') (e : h.get? I = some o) : h'.get? I = some o := by
  obtain ⟨o', eo, co, dO⟩ := it
  rw [eo] at e; cases e
  obtain ⟨nn, h0', h1, h2, h3, h4, h5, t0, t1, t2, t3, t4, t5, u0, u1, u2, u3, e2⟩ := V.D.dict
  obtain ⟨vs, hpl, _⟩ := V.D.lines
  obtain ⟨oL, eL, cL, _⟩ := hpl.isList
  obtain ⟨n, e3⟩ := V.C.obj
  obtain ⟨x, y, z, e4⟩ := V.C.dict
  refine st.keep _ _ (fun q => ?_) (tabs_cls V.X.T eo (by rw [co]; rfl)) eo
  simp only [List.mem_cons, List.not_mem_nil, or_false] at q
  rcases q with q | q | q
  · rw [q] at eo; rw [eo] at e3; cases e3; cases co
  · rw [q] at eo; rw [eo] at e4; cases e4; simp at co
  · rw [q] at eo; rw [eo] at eL; cases eL; rw [cL] at co; simp at co
theorem Live.lstL {l : Addr} {vs : Array Value} (V : Live w mg mb h0 L0 f fd L a ad wd ls xs ps k m h) (x : LstAt h l vs) (sb : Heap.SameBut L0 h h') : LstAt h' l vs :=
  x.on fun o e => (sb.2 _ (fun q => ns_noList V.F vs (q ▸ x.isList))).trans e
end
section
variable {w : World} {A : Around} {E : Value → Shared → Prop} {s : Shared} {f fd L a ad : Addr} {wd : Int} {mg mb : Str → Option Value}
noncomputable def foldF (wd : Int) (F : FS) (ws : List Str) : FS := ws.foldl (fun F t => chunkF wd F " " (quoteF t)) F
theorem chunkF_ne {wd : Int} {F : FS} {c p : Str} : (chunkF wd F c p).ps ≠ [] := by
  unfold chunkF
  split <;> simp
theorem foldF_snoc {wd : Int} {F : FS} {ws : List Str} {t : Str} : foldF wd F (ws ++ [t]) = chunkF wd (foldF wd F ws) " " (quoteF t) := by simp [foldF]
theorem foldF_ne {wd : Int} {F : FS} (hne : F.ps ≠ []) : ∀ ws : List Str, (foldF wd F ws).ps ≠ [] := by
  intro ws
  induction ws generalizing F with
  | nil => exact hne
  | cons t ts ih => exact ih chunkF_ne
theorem foldF_good {wd : Int} : ∀ (ws : List Str) {F : FS} {n : Nat}, GoodF n F → (∀ t ∈ ws, (quoteF t).length ≤ 10000) → GoodF (n + ws.length) (foldF wd F ws)
  | [], _, _, g, _ => g
  | t :: ts, _, n, g, h => by
    have := foldF_good (wd := wd) ts (g.chunk (wd := wd) (c := " ") (p := quoteF t) (by decide +kernel) (h t (.head _))) (fun x hx => h x (.tail _ hx))
    rw [show n + (t :: ts).length = n + 1 + ts.length by simp; omega]
    exact this
theorem take_snoc {α : Type} (ws : List α) (i : Nat) (h : i < ws.length) : ws.take (i + 1) = ws.take i ++ [ws[i]] := by simp
inductive RInv (w : World) (mg mb : Str → Option Value) (h0 : Heap) (g0 : Array GenState) (os : OsState) (L0 f fd L a ad l I : Addr) (wd : Int) (F : FS) (ws : List Str) (vs : List Value) (nn : Nat) (s' : Shared) : Prop
  | mk (h' : Heap) (g' : Array GenState) (d' : Drawn) (tk i : Nat) (xs : Array Value) (m' : Str → Option Value) (e : s' = ⟨h', g', d', tk, os⟩) (hg : AllBare g0 → AllBare g')
    (V : Live w mg mb h0 L0 f fd L a ad wd (foldF wd F (ws.take i)).ls xs (foldF wd F (ws.take i)).ps (foldF wd F (ws.take i)).k m' h')
    (hfun : m' "function" = some (.ref 249)) (hval : m' "value" = some (.ref f)) (hIt : h'.IsListIter I l i) (hl : LstAt h' l vs.toArray) (hi : i ≤ ws.length) (hn : nn = ws.length - i) : RInv w mg mb h0 g0 os L0 f fd L a ad l I wd F ws vs nn s'
theorem reduce_spec {l : Addr} {vs : List Value} {ws : List Str} {F : FS} {n : Nat} {Q : Value → Shared → Prop} (X : Ctx0 w mg mb s.heap) (S : FmtS w.params s.heap f fd L a ad wd F) (g : GoodF n F) (hn : n + ws.length ≤ 49)
    (hl : LstAt s.heap l vs.toArray) (hlL : l ≠ L) (hw : StrsAre vs ws) (hz : ∀ t ∈ ws, t.cps.size ≤ 1000 ∧ (quoteF t).length ≤ 10000) (hne : F.ps ≠ []) (r : NearR A 70 190)
    (hQ : ∀ s', Step [a, ad, L] s s' → FmtS w.params s'.heap f fd L a ad wd (foldF wd F ws) → Q (.ref f) s') :
    wpAny (model pw w) A (call (.ref 235) [.ref 249, .ref l, .ref f]) Q E s := by
  have fm := m_reduce w.params
  have hb : BindsTo s (fdM "reduce" "reduce" (stm 15) [] (pmOf (obK 235 w.params)) (.ref 234) (ctOf (obK 235 w.params)) (.ref 228)) ⟨[.ref 249, .ref l, .ref f], []⟩ [(("function" : Str), .ref 249), (("sequence" : Str), .ref l), (("initial" : Str), .ref f)] :=
    PySem.W.kp_binds X.K (fun S => by kernel_rfl)
  refine call_fn r.room (fm.get X.K) fm.data X.G.nolimit (fm.crec X.K) rfl hb (fun h₁ Fr1 => ?_)
  obtain ⟨xs, C⟩ := S.C
  have V := Live.begin X S.D C Fr1
  replace hl := hl.on fun o e => Fr1.keep _ _ e
  generalize s.heap.objs.size = L0 at V ⊢
  clear Fr1
  have hr := (r.deeper (d := 69) (u := 187))
  have him : mg "_initial_missing" = some (.ref 227) := X.G.names.im
  iterate 2 (walk1; (try dsimp only))
  refine Call_ ?_
  refine nm_builtin V.X.G.g (V.X.G.names.free _ (by simp)) V.X.G.b (V.X.G.bi "iter" _ (by decide) b_iter) ?_
  refine cw ?_
  iterate 3 (walk1; (try dsimp only))
  refine ⟨⟨_, .inr (.inl rfl), keeper_builtin⟩, ?_⟩
  obtain ⟨nl, el⟩ := hl
  refine iter0 (s := { s with heap := h₁, toks := _ }) el (fun h₂ tk₂ I k₂ nI eI => ?_)
  have hl : LstAt h₂ l vs.toArray := ⟨nl, k₂ _ _ el⟩
  have hIt : h₂.IsListIter I l 0 := ⟨_, eI, rfl, rfl⟩
  have hI0 : s.heap.get? I = none := V.st.back X.T (fun c hc => by
    simp only [List.mem_cons, List.not_mem_nil, or_false] at hc
    obtain ⟨_, e1⟩ := V.C.obj
    obtain ⟨_, _, _, e2⟩ := V.C.dict
    obtain ⟨_, ⟨_, _, e3, _⟩, _⟩ := V.D.lines
    rcases hc with rfl | rfl | rfl
    · rw [e1]; exact fun q => by cases q
    · rw [e2]; exact fun q => by cases q
    · rw [e3]; exact fun q => by cases q) nI
  have hIT := top_new X hI0
  replace V := V.keep k₂
  clear k₂ nI eI el
  refine st_local (s := { s with heap := h₂, toks := tk₂ }) V.fr (fun h₃ Fr3 sb => ?_)
  have hIL : I ≠ L0 := fun q => by
    obtain ⟨o', es, ep, eo', ed, _⟩ := V.F
    obtain ⟨o, eo, _, dO⟩ := hIt
    rw [q] at eo; rw [eo] at eo'; cases eo'; rw [dO] at ed; cases ed
  replace hl := V.lstL hl sb
  replace hIt : h₃.IsListIter I l 0 := isi_on hIt fun o e => (sb.2 _ hIL).trans e
  replace V := V.loc sb Fr3.ns
  clear Fr3 sb
  have hb7 : ∀ {h : Heap} {b : Addr} {o : Obj}, (KN w.params).In h → h.get? b = some o → o.cls = .ref 131 → b ≠ 227 ∧ h.get? 227 = some (obK 227 w.params) := fun {h b o} Z e c => by
    have h7 := Z 227 _ (show (KN w.params).lookup 227 = some (obK 227 w.params) by kernel_rfl)
    refine ⟨fun q => ?_, h7⟩
    rw [q, h7] at e; cases e
    have q' : ((obK 227 w.params).cls == .ref 131) = false := by kernel_rfl
    rw [c] at q'; simp at q'
  iterate 5 (walk1; (try dsimp only))
  obtain ⟨hf7, h7⟩ := hb7 V.X.K V.D.obj rfl
  refine wpAny_is_ref_other hf7 V.D.obj h7 (fun q => by cases q) ?_
  iterate 5 (walk1; (try dsimp only))
  refine st_local (s := { s with heap := h₃, toks := _ }) V.fr (fun h₄ Fr4 sb => ?_)
  replace hl := V.lstL hl sb
  replace hIt : h₄.IsListIter I l 0 := isi_on hIt fun o e => (sb.2 _ hIL).trans e
  replace V := V.loc sb Fr4.ns
  clear Fr4 sb h7 hb7
  iterate 2 (walk1; (try dsimp only))
  refine wpAny_For ?_
  iterate 1 (walk1; (try dsimp only))
  refine wpAny_pyIter_listiter (s := { s with heap := h₄, toks := _ }) hIt ?_
  have hlen := hw.length
  refine codeAny_forLoop (RInv w mg mb s.heap s.gens s.os L0 f fd L a ad l I wd F ws vs) (fun nn s' hI => ?_) (ws.length) ⟨h₄, s.gens, s.drawn, _, 0, _, _, rfl, id, V, by rfl, by rfl, hIt, hl, Nat.zero_le _, rfl⟩
  clear V hIt hl
  obtain ⟨h', g', d', tk, i, xs, m', rfl, hg, V, hfun, hval, hIt, hl, hi, rfl⟩ := hI
  have hlI : l ≠ I := fun q => by
    obtain ⟨_, e⟩ := hl
    obtain ⟨o, eo, c, _⟩ := hIt
    rw [q, eo] at e; cases e; simp at c
  by_cases hlt : i < ws.length
  · obtain ⟨ti, hti⟩ := hw.get i ws[i] (by simp [hlt])
    refine wpAny_pyNext_list_item (s := ⟨h', g', d', tk, s.os⟩) hIt hl.isList (x := .str ws[i] ti) (by simpa using hti) (fun h₅ hIt5 sb5 => ?_)
    replace V := V.iter hIt sb5.extBut hI0 hIT
    replace hl := hl.on fun o e => (sb5.2 _ hlI).trans e
    refine wpAny_assign_Name ?_
    refine st_local (s := ⟨h₅, g', d', tk, s.os⟩) V.fr (fun h₆ Fr6 sb6 => ?_)
    replace hl := V.lstL hl sb6
    replace hIt5 : h₆.IsListIter I l (i + 1) := isi_on hIt5 fun o e => (sb6.2 _ hIL).trans e
    replace V := V.loc sb6 Fr6.ns
    clear Fr6 sb6 sb5 hIt
    iterate 2 (walk1; (try dsimp only))
    refine Call_ ?_
    refine nm_local V.fr (v := .ref 249) ((if_neg (by decide)).trans hfun) ?_
    refine cw ?_
    (walk1; (try dsimp only))
    refine nm_local V.fr (v := .ref f) ((if_neg (by decide)).trans hval) ?_
    iterate 3 (walk1; (try dsimp only))
    refine ⟨⟨_, .inl rfl, keeper_fn ((m_laid w.params).get V.X.K) (m_laid w.params).data⟩, ?_⟩
    have gi : GoodF 49 (foldF wd F (ws.take i)) := by
      have q := foldF_good (wd := wd) (ws.take i) g (fun x hx => (hz x (List.mem_of_mem_take hx)).2)
      rw [List.length_take, Nat.min_eq_left hi] at q
      exact ⟨q.k, q.z, by have := q.np; omega, by have := q.nl; omega⟩
    refine laid_spec (F := foldF wd F (ws.take i)) (s := ⟨h₆, g', d', tk + 1, s.os⟩) V.X ⟨V.D, _, V.C⟩ gi (hz _ (by simp)).1 (hz _ (by simp)).2 ((hr _).less (by omega) (by omega)) (foldF_ne hne _) (fun s₇ st₇ S₇ => ?_)
    obtain ⟨h₇, g₇, d₇, t₇, o₇⟩ := s₇
    rw [← foldF_snoc, ← take_snoc ws i hlt] at S₇
    obtain ⟨xs₇, C₇⟩ := S₇.C
    replace hIt5 : h₇.IsListIter I l (i + 1) := isi_on hIt5 fun o e => V.iterW hIt5 st₇.heap e
    replace hl := V.lstW hl hlL st₇.heap (by simp)
    replace V := V.full st₇.heap S₇.D C₇
    refine st_local (s := ⟨h₇, g₇, d₇, t₇, o₇⟩) V.fr (fun h₈ Fr8 sb8 => ?_)
    replace hl := V.lstL hl sb8
    replace hIt5 : h₈.IsListIter I l (i + 1) := isi_on hIt5 fun o e => (sb8.2 _ hIL).trans e
    replace V := V.loc sb8 Fr8.ns
    iterate 1 (walk1; (try dsimp only))
    refine ⟨ws.length - (i + 1), Nat.sub_succ_lt_self _ _ hlt, h₈, g₇, d₇, _, i + 1, xs₇, _, by rw [show o₇ = s.os from st₇.os], fun x => st₇.gens (hg x), V, ?_, ?_, hIt5, hl, by omega, rfl⟩
    · exact (if_neg (by decide)).trans ((if_neg (by decide)).trans hfun)
    · exact if_pos rfl
  · have hie : i = ws.length := by omega
    subst hie
    refine wpAny_pyNext_list_end (s := ⟨h', g', d', tk, s.os⟩) r.handled hIt hl.isList (by simp [hlen]) (fun h₅ ex5 => ?_)
    replace V := V.iter hIt ex5 hI0 hIT
    rw [List.take_length] at V
    iterate 2 (walk1; (try dsimp only))
    (walk1; (try dsimp only))
    refine nm_local V.fr (v := .ref f) hval ?_
    exact hQ _ ⟨V.st, rfl, hg⟩ ⟨V.D, _, V.C⟩
end
end Mine
end
section
open PySem PySem.W PyProof.Rows PySem.Calls
set_option maxRecDepth 100000
set_option maxHeartbeats 1600000
set_option Elab.async false
set_option linter.unusedVariables false
namespace Mine
theorem StepH.drop {W : List Addr} {h h' : Heap} (st : StepH W h h') (hn : ∀ x ∈ W, h.get? x = none) : StepH [] h h' :=
  ⟨fun b o _ ht e => st.keep b o (fun m => by have := hn _ m; rw [this] at e; cases e) ht e, st.tabs⟩
section
variable {w : World} {A : Around} {E : Value → Shared → Prop} {s : Shared}
theorem lst_slice {value slice : Expr} {l sl : Addr} {vs : Array Value} {vl vu : Value} {lo hi : Option Int} {ops : List Value} {Q : Value → Shared → Prop} (hl : LstAt s.heap l vs) (hsl : s.heap.IsSliceOf sl vl vu .none) (pl : IsPart vl lo) (pu : IsPart vu hi) (hsz : vs.size ≤ 1000)
    (h : ∀ h' D, KeepH s.heap h' → s.heap.get? D = none → LstAt h' D (slicePick vs lo hi none) → Q (.ref D) { s with heap := h' })
    (hs : subscripted slice false (.ref l) (.ref sl) = operate ops (getItem (.ref l) (.ref sl))) (ht : ∀ r, letTemporaryGo value (.ref l) r = pure ()) : wpAny (model pw w) A (subscriptTail value slice (.ref l) (.ref sl)) Q E s := by
  refine subscriptTail_ops hl.isList.typeIs list_getitem_lookup (wpAny_getItem_list_slice hl.isList hsl pl pu .none (by simp) ?_ (by rw [sizeLine_eq]; omega)) hs ht
  exact h _ _ (fun b o e => Heap.get?_push_of_some _ e) (Heap.get?_none_of_le (Nat.le_refl _)) ⟨0, Heap.get?_push_size _ rfl⟩
theorem lst_sliceP {value slice : Expr} {l : Addr} {vs : Array Value} {vl vu : Value} {lo hi : Option Int} {ops : List Value} {Q : Value → Shared → Prop} (hl : LstAt s.heap l vs) (pl : IsPart vl lo) (pu : IsPart vu hi) (hsz : vs.size ≤ 1000)
    (h : ∀ h' D, KeepH s.heap h' → s.heap.get? D = none → LstAt h' D (slicePick vs lo hi none) → Q (.ref D) { s with heap := h' })
    (hs : subscripted slice false (.ref l) (.ref s.heap.objs.size) = operate ops (getItem (.ref l) (.ref s.heap.objs.size))) (ht : ∀ r, letTemporaryGo value (.ref l) r = pure ()) :
    wpAny (model pw w) A (subscriptTail value slice (.ref l) (.ref s.heap.objs.size)) Q E { s with heap := s.heap.push { cls := .type "slice", data := .fields #[vl, vu, .none] } } := by
  have k1 : KeepH s.heap (s.heap.push { cls := .type "slice", data := .fields #[vl, vu, .none] }) := fun b o e => Heap.get?_push_of_some _ e
  refine lst_slice (s := { s with heap := s.heap.push { cls := .type "slice", data := .fields #[vl, vu, .none] } }) (hl.on fun o e => k1 _ _ e) (Heap.IsSliceOf.new ..) pl pu hsz (fun h' D k n x => h h' D (fun b o e => k _ _ (k1 _ _ e)) ?_ x) hs ht
  dsimp only at n
  cases q : s.heap.get? D with
  | none => rfl
  | some o => rw [k1 _ _ q] at n; cases n
end
noncomputable def writF (wd : Int) (w0 : Str) (ws : List Str) : Str :=
  let F := foldF wd (chunkF wd ⟨[], [], 1⟩ "" (quoteF w0)) ws
  Txt.join "\r\n" (F.ls ++ [lineF F.ps])
noncomputable def wgt (F : FS) : Int := ((F.ls.map (·.length)).sum : Nat) + tot F.ps
theorem wgt_chunk (wd : Int) (F : FS) (c p : Str) : wgt (chunkF wd F c p) = wgt F + ((c.length : Int) + p.length) := by
  unfold chunkF
  split
  · unfold wgt; dsimp only; rw [tot_snoc]; omega
  · unfold wgt
    simp only [List.map_append, List.sum_append, List.map_cons, List.map_nil, List.sum_cons, List.sum_nil]
    have h1 := len_lineF F.ps
    have h2 := tot_snoc [] c p
    rw [List.nil_append, tot_nil] at h2
    rw [h2]
    push_cast
    omega
theorem wgt_fold (wd : Int) : ∀ (ws : List Str) (F : FS), (∀ t ∈ ws, (quoteF t).length ≤ 1000) → wgt (foldF wd F ws) ≤ wgt F + 1001 * (ws.length : Nat)
  | [], F, _ => by simp [foldF]
  | t :: ts, F, h => by
    have := wgt_fold wd ts (chunkF wd F " " (quoteF t)) (fun x hx => h x (.tail _ hx))
    rw [wgt_chunk] at this
    have h1 := h t (.head _)
    have h2 : ((" " : Str).length : Nat) = 1 := by decide +kernel
    show wgt (foldF wd (chunkF wd F " " (quoteF t)) ts) ≤ _
    rw [List.length_cons]
    push_cast
    omega
theorem chunkF_last (wd : Int) (F : FS) (c p : Str) : ∃ qs, (chunkF wd F c p).ps = qs ++ [(c, p)] := by
  unfold chunkF
  split
  · exact ⟨_, rfl⟩
  · exact ⟨[], rfl⟩
theorem foldF_last (wd : Int) : ∀ (ws : List Str) (F : FS) (qs : List (Str × Str)) (c w0 : Str), (c = "" ∨ c = " ") → F.ps = qs ++ [(c, quoteF w0)] → ∃ (qs' : List (Str × Str)) (c' t : Str), (foldF wd F ws).ps = qs' ++ [(c', quoteF t)] ∧ t ∈ w0 :: ws ∧ (c' = "" ∨ c' = " ")
  | [], F, qs, c, w0, hc, h => ⟨qs, c, w0, h, .head _, hc⟩
  | t :: ts, F, qs, c, w0, hc, h => by
    obtain ⟨qs1, e1⟩ := chunkF_last wd F " " (quoteF t)
    obtain ⟨qs', c', t', e, m, hc'⟩ := foldF_last wd ts (chunkF wd F " " (quoteF t)) qs1 " " t (.inr rfl) e1
    exact ⟨qs', c', t', e, .tail _ m, hc'⟩
theorem m_writ (P : Params) : FnAt' P 256 "_law_written" "_law_written" (stm 19) [] 255 .none := ⟨by kernel_rfl, by kernel_rfl, by kernel_rfl, by kernel_rfl⟩
theorem keeper_fcls {P : Params} {M : Model} {h : Heap} (Z : (KN P).In h) (hM : M.w.params = P) : Looks M h (keeperOf (.ref 131)) .machine := by
  subst hM; exact Looks.of_peek Z (by kernel_rfl)
section
variable {w : World} {A : Around} {E : Value → Shared → Prop} {s : Shared} {mg mb : Str → Option Value}
theorem writ_spec {l : Addr} {vs : List Value} {w0 : Str} {ws : List Str} {wd : Int} {u : Tok} {Q : Value → Shared → Prop} (X : Ctx0 w mg mb s.heap)
    (hl : LstAt s.heap l vs.toArray) (hw : StrsAre vs (w0 :: ws)) (hn : ws.length ≤ 45) (hz : ∀ t ∈ w0 :: ws, t.cps.size ≤ 1000 ∧ (quoteF t).length ≤ 1000 ∧ quoteF t ≠ "" ∧ Txt.isspace (quoteF t) = false ∧ PyData.strOk (quoteF t) = true)
    (hfit : 1 + ((quoteF w0).length : Int) ≤ wd) (r : NearR A 90 230)
    (hQ : ∀ s' u, Step [] s s' → Q (.str (writF wd w0 ws) u) s') : wpAny (model pw w) A (call (.ref 256) [.ref l, .int wd u]) Q E s := by
  have fm := m_writ w.params
  have hbd : ∀ v1 v2, bindArgs (fdM "_law_written" "_law_written" (stm 19) [] (pmOf (obK 256 w.params)) (.ref 255) (ctOf (obK 256 w.params)) .none) ⟨[v1, v2], []⟩ = (pure [(("words" : Str), v1), (("width" : Str), v2)] : Sem (List (Str × Value))) := fun v1 v2 => by rfl
  refine call_fn r.room (fm.get X.K) fm.data X.G.nolimit (fm.crec X.K) rfl (BindsTo.of_eq (hbd _ _)) (fun h₁ F => ?_)
  have hr := (r.deeper (d := 89) (u := 227))
  have G := X.G
  have X1 : Ctx0 w mg mb h₁ := X.step (.of_keep F.keep)
  replace hl := hl.on fun o e => F.keep _ _ e
  have hvf : mg "_ValueFormatter" = some (.ref 131) := X.G.names.vf
  have hn0 : s.heap.get? s.heap.objs.size = none := Heap.get?_none_of_le (Nat.le_refl _)
  generalize s.heap.objs.size = L0 at F hn0 ⊢
  iterate 2 (walk1; (try dsimp only))
  refine Call_ ?_
  iterate 1 (walk1; (try dsimp only))
  refine cw ?_
  iterate 9 (walk1; (try dsimp only))
  refine ⟨⟨_, .inr (.inl rfl), keeper_fcls X1.K rfl⟩, ?_⟩
  refine fmt_make (s := { s with heap := h₁, toks := _ }) X1 ((hr _).less (by omega) (by omega)) (fun s₂ f fd L a ad st₂ D₂ C₂ hnew => ?_)
  obtain ⟨h₂, g₂, d₂, t₂, o₂⟩ := s₂
  dsimp only at D₂ C₂ hnew st₂
  have bk : ∀ b ∈ [f, fd, L, a, ad], s.heap.get? b = none := fun b hb => by
    have := hnew b hb
    cases q : s.heap.get? b with
    | none => rfl
    | some o => rw [F.keep _ _ q] at this; cases this
  have hL0 : L0 ∉ [f, fd, L, a, ad] := fun q => by
    obtain ⟨o, _, _, e, _⟩ := F.ns
    rw [hnew _ q] at e; cases e
  have V : Live w mg mb s.heap L0 f fd L a ad wd [] #[] [] 1 _ h₂ := ⟨hn0, hL0, top_new X hn0, X1.step st₂.heap, D₂, C₂, ns_step F.ns X1.T st₂.heap (by simp), ((StepH.of_keep F.keep).trans (st₂.heap.mono (by simp)))⟩
  have hlL : l ≠ L := fun q => by
    obtain ⟨_, e⟩ := hl
    rw [q, hnew _ (by simp)] at e; cases e
  replace hl := hl.on fun o e => st₂.heap.keep _ _ (by simp) (by obtain ⟨_, e⟩ := hl; exact tabs_cls X1.T e rfl) e
  have os₂ := st₂.os
  have gs₂ := st₂.gens
  clear F X1 D₂ C₂ st₂ hnew
  refine st_local (s := ⟨h₂, g₂, d₂, t₂, o₂⟩) V.fr (fun h₃ F3 sb => ?_)
  replace hl := V.lstL hl sb
  replace V := V.loc sb F3.ns
  clear F3 sb
  have hquote : mg "quote" = some (.ref 58) := G.names.quote
  iterate 4 (walk1; (try dsimp only))
  refine fmt_method (s := ⟨h₃, g₂, d₂, _, o₂⟩) V.X.K V.D fn_chunk fn_tchunk (fun _ _ _ _ _ _ _ _ _ _ _ _ _ _ _ _ _ => by kernel_rfl) ?_
  refine cw ?_
  iterate 3 (walk1; (try dsimp only))
  refine Call_ ?_
  iterate 1 (walk1; (try dsimp only))
  refine cw ?_
  iterate 4 (walk1; (try dsimp only))
  obtain ⟨t0, vr, rfl, hwr⟩ : ∃ t0 vr, vs = .str w0 t0 :: vr ∧ StrsAre vr ws := by cases hw; exact ⟨_, _, rfl, by assumption⟩
  have hlen := hwr.length
  refine item_listR (s := ⟨h₃, g₂, d₂, _, o₂⟩) (x := .str w0 t0) hl.isList (by decide) (by decide) (by simp) ?_
  iterate 1 (walk1; (try dsimp only))
  refine ⟨V.X.G.keepFn V.X.G.f_quote, ?_⟩
  obtain ⟨z1, z2, z3, z4, z5⟩ := hz w0 (.head _)
  refine quote_spec (s := ⟨h₃, g₂, d₂, _, o₂⟩) V.X.G ((hr _).room.less (by omega) (by omega)) z1 (fun s₄ u₄ kp => ?_)
  obtain ⟨h₄, tk₄, rfl, k₄⟩ := kp
  dsimp only at k₄
  replace hl := hl.on fun o e => k₄ _ _ e
  replace V := V.keep k₄
  clear k₄
  iterate 1 (walk1; (try dsimp only))
  refine ⟨⟨_, .inl rfl, keeper_fn ((m_chunk w.params).get V.X.K) (m_chunk w.params).data⟩, ?_⟩
  have g0 : GoodF 0 ⟨[], [], 1⟩ := ⟨.inr rfl, fun p hp => by simp at hp, by simp, by simp⟩
  have e0 : 1 + tot ([] ++ [(("" : Str), quoteF w0)]) = 1 + ((quoteF w0).length : Int) := by
    have : (("" : Str).length : Nat) = 0 := by decide +kernel
    simp [tot, preSum, szAt, this]
  refine chunk_call (F := ⟨[], [], 1⟩) (s := ⟨h₄, g₂, d₂, tk₄, o₂⟩) V.X ⟨V.D, _, V.C⟩ ⟨.inr rfl, g0.z, by simp, by simp⟩ (by decide +kernel) (by omega) ((hr _).less (by omega) (by omega)) (fun q => by exfalso; dsimp only at q; rw [e0] at q; omega) (fun s₅ st₅ S₅ => ?_)
  obtain ⟨h₅, g₅, d₅, t₅, o₅⟩ := s₅
  dsimp only at st₅ S₅
  obtain ⟨xs₅, C₅⟩ := S₅.C
  replace hl := V.lstW hl hlL st₅.heap (by simp)
  replace V := V.full st₅.heap S₅.D C₅
  have os₅ := st₅.os
  have gs₅ := st₅.gens
  clear st₅ S₅ C₅
  have hred : mg "reduce" = some (.ref 235) := G.names.red
  have hlaid : mg "_law_laid" = some (.ref 249) := G.names.laid
  iterate 3 (walk1; (try dsimp only))
  refine Call_ ?_
  iterate 1 (walk1; (try dsimp only))
  refine cw ?_
  iterate 8 (walk1; (try dsimp only))
  iterate 2 (walk1; (try dsimp only))
  refine lst_sliceP (s := ⟨h₅, g₅, d₅, _, o₅⟩) hl (.int 1 _) .none (by simp; omega) (fun h₆ D₆ k6 n6 l6 => ?_) rfl (fun r => rfl)
  rw [show (some (1 : Int)) = some (((1 : Nat) : Int)) from rfl, slicePick_from'] at l6
  have hD : D₆ ≠ L := fun q => by
    obtain ⟨_, ⟨_, _, e, _⟩, _⟩ := V.D.lines
    rw [← q, n6] at e; cases e
  replace V := V.keep k6
  clear k6 n6 hl
  iterate 3 (walk1; (try dsimp only))
  refine ⟨⟨_, .inl rfl, keeper_fn ((m_reduce w.params).get V.X.K) (m_reduce w.params).data⟩, ?_⟩
  refine reduce_spec (F := chunkF wd ⟨[], [], 1⟩ "" (quoteF w0)) (n := 1) (s := ⟨h₆, g₅, d₅, _, o₅⟩) (vs := vr) V.X ⟨V.D, _, V.C⟩ (g0.chunk (by decide +kernel) (by omega)) (by omega) l6 hD hwr (fun t ht => ?_) chunkF_ne ((hr _).less (by omega) (by omega)) (fun s₇ st₇ S₇ => ?_)
  · obtain ⟨y1, y2, _⟩ := hz t (.tail _ ht)
    exact ⟨y1, by omega⟩
  obtain ⟨h₇, g₇, d₇, t₇, o₇⟩ := s₇
  dsimp only at st₇ S₇
  obtain ⟨xs₇, C₇⟩ := S₇.C
  replace V := V.full st₇.heap S₇.D C₇
  have os₇ := st₇.os
  have gs₇ := st₇.gens
  clear st₇ S₇ C₇
  have fn_str : findIn (KN w.params) (.ref 131) "_str" = some (some (.ref 79)) := by kernel_rfl
  have fn_tstr : typeIn (KN w.params) (.ref 79) = some (.type "function") := by kernel_rfl
  refine fmt_method (s := ⟨h₇, g₇, d₇, _, o₇⟩) V.X.K V.D fn_str fn_tstr (fun _ _ _ _ _ _ _ _ _ _ _ _ _ _ _ _ _ => by kernel_rfl) ?_
  refine cw ?_
  iterate 3 (walk1; (try dsimp only))
  refine ⟨⟨_, .inl rfl, keeper_fn ((m_fstr w.params).get V.X.K) (m_fstr w.params).data⟩, ?_⟩
  have hq : ∀ t ∈ ws, (quoteF t).length ≤ 1000 := fun t ht => (hz t (.tail _ ht)).2.1
  have gf := foldF_good (wd := wd) ws (g0.chunk (wd := wd) (c := "") (p := quoteF w0) (by decide +kernel) (by omega)) (fun t ht => by have := hq t ht; omega)
  have wf := wgt_fold wd ws (chunkF wd ⟨[], [], 1⟩ "" (quoteF w0)) hq
  rw [wgt_chunk] at wf
  obtain ⟨qs0, e00⟩ := chunkF_last wd ⟨[], [], 1⟩ "" (quoteF w0)
  obtain ⟨qs, c, t, ep, hm, hcc⟩ := foldF_last wd ws _ qs0 "" w0 (.inl rfl) e00
  obtain ⟨y1, y2, y3, y4, y5⟩ := hz t hm
  have hQ' : ∀ s' u, Step [] s s' → Q (.str (Txt.join "\r\n" ((foldF wd (chunkF wd ⟨[], [], 1⟩ "" (quoteF w0)) ws).ls ++ [lineF (foldF wd (chunkF wd ⟨[], [], 1⟩ "" (quoteF w0)) ws).ps])) u) s' := hQ
  clear hQ
  generalize foldF wd (chunkF wd ⟨[], [], 1⟩ "" (quoteF w0)) ws = F at V gf wf ep hQ' ⊢
  obtain ⟨ls, ps, k⟩ := F
  dsimp only at V gf wf ep hQ' ⊢
  subst ep
  have hco : PyData.strOk c = true := by rcases hcc with rfl | rfl <;> decide +kernel
  have w0' : wgt ⟨[], [], 1⟩ = 0 := rfl
  have hel : (("" : Str).length : Nat) = 0 := by decide +kernel
  have hpos : 0 < (quoteF t).length := Nat.pos_of_ne_zero fun q => y3 (by apply str_ext; rw [cps_empty]; exact List.length_eq_zero_iff.mp (by rw [len_cps, q]))
  have hll := len_lineF (qs ++ [(c, quoteF t)])
  have htt := tot_snoc qs c (quoteF t)
  have ht0 : 0 ≤ tot qs := by have := len_lineF qs; omega
  refine fstr_spec (s := ⟨h₇, g₇, d₇, _, o₇⟩) V.X V.D V.C gf.k gf.z (by have := gf.np; simp at this; omega) (by have := gf.nl; simp at this; omega) ((hr _).less (by omega) (by omega)) y3 ⟨hco, y5⟩ (by omega) (lineF_isspace y4 y3) (by decide +kernel) (by
      simp only [List.map_append, List.sum_append, List.map_cons, List.map_nil, List.sum_cons, List.sum_nil]
      rw [w0', hel] at wf
      unfold wgt at wf
      dsimp only at wf
      omega) (fun s₈ u₈ st₈ => ?_)
  refine hQ' _ _ ⟨V.st.trans (st₈.heap) |>.drop (fun b hb => bk b (by simp at hb ⊢; rcases hb with h | h | h <;> simp [h])), ?_, ?_⟩
  · dsimp only at *; rw [st₈.os, os₇, os₅, os₂]
  · exact fun x => st₈.gens (gs₇ (gs₅ (gs₂ x)))
end
end Mine
end
section
open PySem PySem.W PyProof.Rows PySem.Calls
set_option maxRecDepth 100000
set_option maxHeartbeats 1600000
set_option Elab.async false
set_option linter.unusedVariables false
namespace Mine
noncomputable abbrev testsOf (ifs : List Expr) (env : Env) : Sem Bool := forIn ifs true fun c r => if r = true then do let ok ← isTrue c env (eval c env); pure (ForInStep.yield ok) else pure (ForInStep.yield r)
section
variable {prog : Program} {w : World} {A : Around} {E : Value → Shared → Prop} {R : Result → Shared → Prop} {s : Shared}
noncomputable def LcTurn (prog : Program) (w : World) (A : Around) (R : Result → Shared → Prop) (it acc : Value) (env : Env) (target elt : Expr) (ifs : List Expr) (I : Nat → Shared → Prop) : Prop :=
  ∀ n s, I n s → wpAny (model prog w) A (pyNext it) (fun r s₁ => match r with
      | none => R (.ok .next) s₁
      | some v => wpAny (model prog w) A (letOwnedTupleGo target it v) (fun _ s₁' => wpAny (model prog w) A (assign target env v) (fun _ s₂ =>
          wpAny (model prog w) A (testsOf ifs env) (fun ok s₃ =>
            if ok = true then wpAny (model prog w) A (eval elt env) (fun x s₄ =>
              wpAny (model prog w) A (call (.builtin "list.append") [acc, x]) (fun _ s₅ => ∃ m, m < n ∧ I m s₅) (notedBy (model prog w) A env fun e s' => R (.error e) s') s₄) (notedBy (model prog w) A env fun e s' => R (.error e) s') s₃
            else ∃ m, m < n ∧ I m s₃) (notedBy (model prog w) A env fun e s' => R (.error e) s') s₂) (notedBy (model prog w) A env fun e s' => R (.error e) s') s₁') (notedBy (model prog w) A env fun e s' => R (.error e) s') s₁) (notedBy (model prog w) A env fun e s' => R (.error e) s') s
theorem compLoop_gen {elt target iter : Expr} {ifs : List Expr} {scope : Scope} {pos : Pos} {it acc : Value} {env : Env} (I : Nat → Shared → Prop)
    (turn : LcTurn prog w A R it acc env target elt ifs I) (n : Nat) (h : I n s) :
    codeAny (model prog w) A (.compLoop (.ListComp elt [⟨target, iter, ifs, 0⟩] scope pos) 0 it acc env) R s := by
  refine codeAny_loop rfl I (fun n s hI => ?_) n h
  show wpAny _ A ((compTurn (.ListComp elt [⟨target, iter, ifs, 0⟩] scope pos) 0 it acc env).onRaise (fun x => do noteFrame x env; theTreesLotGoes x)) _ _ s
  refine wpAny_noted ?_
  rw [compTurn_list]
  refine wpAny_bind (wpAny_standAt (wpAny_bind (wpAny_mono (turn n s hI) (fun r s₁ h₁ => ?_) fun _ _ h' => h')))
  cases r with
  | none => exact wpAny_pure h₁
  | some v =>
    refine wpAny_bind (wpAny_mono h₁ (fun _ s₁' h₁' => ?_) fun _ _ h' => h')
    refine wpAny_bind (wpAny_mono h₁' (fun _ s₂ h₂ => wpAny_bind (wpAny_mono h₂ (fun ok s₃ h₃ => ?_) fun _ _ h' => h')) fun _ _ h' => h')
    cases ok with
    | false => exact wpAny_pure ⟨rfl, h₃⟩
    | true =>
      exact wpAny_bind (wpAny_bind (wpAny_mono h₃ (fun x s₄ h₄ => wpAny_bind (wpAny_mono h₄ (fun _ s₅ h₅ => wpAny_pure (wpAny_pure ⟨rfl, h₅⟩)) fun _ _ h' => h')) fun _ _ h' => h'))
theorem compTurn_in (elt target iter : Expr) (ifs : List Expr) (g0 : Comprehension) (scope : Scope) (pos : Pos) (it acc : Value) (env : Env) :
    compTurn (.ListComp elt [g0, ⟨target, iter, ifs, 0⟩] scope pos) 1 it acc env = (do
      standAt iter.pos
      match ← pyNext it with
      | none => pure (.done .next)
      | some v =>
        letOwnedTupleGo target it v
        assign target env v
        let mut ok := true
        for c in ifs do
          if ok then ok ← isTrue c env (eval c env)
        if ok then
          (do let _ ← call (.builtin "list.append") [acc, ← eval elt env])
        again (.compLoop (.ListComp elt [g0, ⟨target, iter, ifs, 0⟩] scope pos) 1 it acc env)) := by rfl
theorem compLoop_gen1 {elt target iter : Expr} {ifs : List Expr} {g0 : Comprehension} {scope : Scope} {pos : Pos} {it acc : Value} {env : Env} (I : Nat → Shared → Prop)
    (turn : LcTurn prog w A R it acc env target elt ifs I) (n : Nat) (h : I n s) :
    codeAny (model prog w) A (.compLoop (.ListComp elt [g0, ⟨target, iter, ifs, 0⟩] scope pos) 1 it acc env) R s := by
  refine codeAny_loop rfl I (fun n s hI => ?_) n h
  show wpAny _ A ((compTurn (.ListComp elt [g0, ⟨target, iter, ifs, 0⟩] scope pos) 1 it acc env).onRaise (fun x => do noteFrame x env; theTreesLotGoes x)) _ _ s
  refine wpAny_noted ?_
  rw [compTurn_in]
  refine wpAny_bind (wpAny_standAt (wpAny_bind (wpAny_mono (turn n s hI) (fun r s₁ h₁ => ?_) fun _ _ h' => h')))
  cases r with
  | none => exact wpAny_pure h₁
  | some v =>
    refine wpAny_bind (wpAny_mono h₁ (fun _ s₁' h₁' => ?_) fun _ _ h' => h')
    refine wpAny_bind (wpAny_mono h₁' (fun _ s₂ h₂ => wpAny_bind (wpAny_mono h₂ (fun ok s₃ h₃ => ?_) fun _ _ h' => h')) fun _ _ h' => h')
    cases ok with
    | false => exact wpAny_pure ⟨rfl, h₃⟩
    | true =>
      exact wpAny_bind (wpAny_bind (wpAny_mono h₃ (fun x s₄ h₄ => wpAny_bind (wpAny_mono h₄ (fun _ s₅ h₅ => wpAny_pure (wpAny_pure ⟨rfl, h₅⟩)) fun _ _ h' => h')) fun _ _ h' => h'))
end
noncomputable abbrev KeepTup (h h' : Heap) : Prop := ∀ b vs, h.IsTuple b vs → h'.IsTuple b vs
noncomputable def OnlyC (Mp : (Str → Option Value) → Prop) (C : Addr) (s s' : Shared) : Prop := ∃ h' tk m', s' = { s with heap := h', toks := tk } ∧ (∀ b o, b ≠ C → s.heap.get? b = some o → h'.get? b = some o) ∧ h'.Ns C m' ∧ Mp m'
noncomputable def LcBody (prog : Program) (w : World) (A : Around) (cenv : Env) (C I : Addr) (target elt : Expr) (ifs : List Expr) (v : Value) (keep : Bool) (G : Value → Heap → Prop) (E : Value → Shared → Prop) (s : Shared) (Mp : (Str → Option Value) → Prop := fun _ => True) : Prop :=
  wpAny (model prog w) A (letOwnedTupleGo target (.ref I) v) (fun _ s₁ => wpAny (model prog w) A (assign target cenv v) (fun _ s₂ => wpAny (model prog w) A (testsOf ifs cenv) (fun ok s₃ =>
    ok = keep ∧ if ok = true then wpAny (model prog w) A (eval elt cenv) (fun y s₄ => G y s₄.heap ∧ OnlyC Mp C s s₄) E s₃ else OnlyC Mp C s s₃) E s₂) E s₁) E s
theorem paired_mono {α β : Type} {F F' : α → β → Prop} (h : ∀ a b, F a b → F' a b) : ∀ {l₁ : List α} {l₂ : List β}, Paired F l₁ l₂ → Paired F' l₁ l₂
  | _, _, .nil => .nil
  | _, _, .cons a t => .cons (h _ _ a) (paired_mono h t)
theorem range_filter_succ (pk : Nat → Bool) (i : Nat) : (List.range (i + 1)).filter pk = (List.range i).filter pk ++ (if pk i = true then [i] else []) := by
  rw [List.range_succ, List.filter_append]
  cases h : pk i <;> simp [h]
inductive WInv (s : Shared) (St : Nat → Heap → Prop) (D I C : Addr) (ys0 : Array Value) (Mp : (Str → Option Value) → Prop) (G : Nat → Value → Heap → Prop) (pk : Nat → Bool) (n k : Nat) (s' : Shared) : Prop
  | mk (h' : Heap) (tk : Nat) (m' : Str → Option Value) (i : Nat) (ys : Array Value) (e : s' = { s with heap := h', toks := tk }) (h1 : St i h') (h2 : h'.PlainList D (ys0 ++ ys)) (h3 : h'.Ns C m' ∧ Mp m') (h4 : Paired (fun i y => G i y h') ((List.range i).filter pk) ys.toList) (h5 : i ≤ n) (h6 : k = n - i)
    (h7 : ∀ b o, b ≠ C → b ≠ I → b ≠ D → s.heap.get? b = some o → h'.get? b = some o) : WInv s St D I C ys0 Mp G pk n k s'
section
variable {prog : Program} {w : World} {A : Around} {E : Value → Shared → Prop} {R : Result → Shared → Prop} {s : Shared}
theorem compLoop_walkB {elt target : Expr} {ifs : List Expr} {c : Code} {I D : Addr} {ys0 : Array Value} {fp : List Addr} {n : Nat} {P : Nat → Value → Prop} {St : Nat → Heap → Prop}
    {cenv : Env} {m : Str → Option Value} (Mp : (Str → Option Value) → Prop) (hm : Mp m) (hgen : ∀ (J : Nat → Shared → Prop), LcTurn prog w A R (.ref I) (.ref D) cenv target elt ifs J → ∀ n, J n s → codeAny (model prog w) A c R s) (W : Walks prog w A I fp [I] n P St) (pk : Nat → Bool) (G : Nat → Value → Heap → Prop) (hG : ∀ i y h h', G i y h → KeepTup h h' → G i y h')
    (hIt : ∀ i h, St i h → ∀ vs, ¬ h.IsTuple I vs) (hDC : D ≠ cenv.locals) (hDf : D ∉ fp) (hCf : cenv.locals ∉ fp)
    (hst : St 0 s.heap) (hacc : s.heap.PlainList D ys0) (h00 : ys0.size ≤ 1000) (hn : s.heap.Ns cenv.locals m)
    (body : ∀ i v h' tk m₃ E', i < n → P i v → St (i + 1) h' → h'.Ns cenv.locals m₃ → Mp m₃ → (∀ b o, b ≠ cenv.locals → b ≠ I → b ≠ D → s.heap.get? b = some o → h'.get? b = some o) →
      LcBody prog w A cenv cenv.locals I target elt ifs v (pk i) (G i) E' { s with heap := h', toks := tk } Mp)
    (hR : ∀ h' tk m' ys, h'.Ns cenv.locals m' → Mp m' → h'.PlainList D (ys0 ++ ys) → Paired (fun i y => G i y h') ((List.range n).filter pk) ys.toList →
      (∀ b o, b ≠ cenv.locals → b ≠ I → b ≠ D → s.heap.get? b = some o → h'.get? b = some o) → R (.ok .next) { s with heap := h', toks := tk })
    (hsz : n ≤ 1000) :
    codeAny (model prog w) A c R s := by
  have hIf : I ∈ fp := W.sub _ (by simp)
  have hDI : D ≠ I := fun q => hDf (q ▸ hIf)
  have hCI : cenv.locals ≠ I := fun q => hCf (q ▸ hIf)
  refine hgen
    (WInv s St D I cenv.locals ys0 Mp G pk n) ?_ n
    ⟨s.heap, s.toks, m, 0, #[], rfl, hst, by simpa using hacc, ⟨hn, hm⟩, by simpa using Paired.nil, Nat.zero_le _, rfl, fun _ _ _ _ _ e => e⟩
  rintro k s' ⟨H, tk, m', i, ys, rfl, hst', hacc', ⟨hn', hm'⟩, hF, hi, rfl, hk⟩
  have kt : ∀ h₁ : Heap, (∀ b o, b ≠ I → H.get? b = some o → h₁.get? b = some o) → KeepTup H h₁ := fun h₁ k1 b vs t => tup_on t fun o e => k1 b o (fun q => hIt _ _ hst' vs (q ▸ t)) e
  by_cases hlt : i < n
  · refine W.item i _ _ _ hlt hst' fun v h₁ tk₁ hPv hst₁ hk₁ => ?_
    have hk1 : ∀ b o, b ≠ I → H.get? b = some o → h₁.get? b = some o := fun b o hb e => hk₁ b o (by simp [hb]) e
    have B := body i v h₁ tk₁ m' (notedBy (model prog w) A cenv fun e s' => R (.error e) s') hlt hPv hst₁ (hn'.at' fun o e => hk1 _ o hCI e) hm' (fun b o h1 h2 h3 e => hk1 b o h2 (hk b o h1 h2 h3 e))
    unfold LcBody at B
    refine wpAny_mono B (fun _ s₂ h₂ => wpAny_mono h₂ (fun _ s₃ h₃ => wpAny_mono h₃ (fun ok s₄ h₄ => ?_) fun _ _ e => e) fun _ _ e => e) fun _ _ e => e
    obtain ⟨rfl, h₄⟩ := h₄
    have hnC1 : h₁.Ns cenv.locals m' := hn'.at' fun o e => hk1 _ o hCI e
    have accs : ∀ h₅ : Heap, (∀ b o, b ≠ cenv.locals → h₁.get? b = some o → h₅.get? b = some o) → KeepTup H h₅ := fun h₅ k5 b vs t =>
      tup_on (kt h₁ hk1 b vs t) fun o e => k5 b o (fun q => ns_noTuple hnC1 vs (q ▸ kt h₁ hk1 b vs t)) e
    cases hpk : pk i with
    | false =>
      rw [hpk] at h₄
      simp only [Bool.false_eq_true, if_false] at h₄ ⊢
      obtain ⟨h₅, tk₅, m₅, e5, k5, n5, p5⟩ := h₄
      subst e5
      dsimp only at k5
      refine ⟨n - (i + 1), Nat.sub_succ_lt_self _ _ hlt, h₅, tk₅, m₅, i + 1, ys, rfl, W.frame _ _ _ hst₁ fun b hb o e => k5 b o (fun q => hCf (q ▸ hb)) e, ?_, ⟨n5, p5⟩, ?_, by omega, rfl, fun b o h1 h2 h3 e => k5 b o h1 (hk1 b o h2 (hk b o h1 h2 h3 e))⟩
      · obtain ⟨nn, e⟩ := hacc'; exact ⟨nn, k5 _ _ hDC (hk1 _ _ hDI e)⟩
      · rw [range_filter_succ, hpk]
        simpa using paired_mono (fun a b g => hG _ _ _ _ g (accs h₅ k5)) hF
    | true =>
      rw [hpk] at h₄
      simp only [if_true] at h₄ ⊢
      refine wpAny_mono h₄ (fun y s₅ h₅ => ?_) fun _ _ e => e
      obtain ⟨hg, h₅, tk₅, m₅, e5, k5, n5, p5⟩ := h₅
      subst e5
      dsimp only at k5 hg
      have hys : (ys0 ++ ys).size ≤ sizeLine := by
        have e1 := hF.length
        have e2 := List.length_filter_le pk (List.range i)
        have e4 : ys.toList.length = ys.size := by simp
        rw [List.length_range] at e2
        rw [sizeLine_eq, Array.size_append]; omega
      have hacc5 : h₅.PlainList D (ys0 ++ ys) := by obtain ⟨nn, e⟩ := hacc'; exact ⟨nn, k5 _ _ hDC (hk1 _ _ hDI e)⟩
      refine wpAny_list_append_plain (hsz := hys) hacc5 fun h₆ hl₆ hs₆ => ?_
      have kt6 : KeepTup h₅ h₆ := fun b vs t => tup_on t fun o e => (hs₆.2 b (fun q => by
        obtain ⟨nn, eD⟩ := hacc5
        obtain ⟨o', eo', c', _⟩ := t
        rw [q, eD] at eo'; cases eo'; simp at c')).trans e
      refine ⟨n - (i + 1), Nat.sub_succ_lt_self _ _ hlt, h₆, tk₅, m₅, i + 1, ys.push y, rfl, ?_, by simpa using hl₆, ⟨n5.sameBut hs₆ (Ne.symm hDC), p5⟩, ?_, by omega, rfl, fun b o h1 h2 h3 e => hs₆.extBut b o h3 (k5 b o h1 (hk1 b o h2 (hk b o h1 h2 h3 e)))⟩
      · exact W.frame _ _ _ hst₁ fun b hb o e => hs₆.extBut b o (fun q => hDf (q ▸ hb)) (k5 b o (fun q => hCf (q ▸ hb)) e)
      · rw [range_filter_succ, hpk]
        have := Paired.snoc (paired_mono (fun a b g => hG _ _ _ _ (hG _ _ _ _ g (accs h₅ k5)) kt6) hF) (hG _ _ _ _ hg kt6)
        simpa using this
  · have hin : i = n := by omega
    subst hin
    refine W.done _ _ _ hst' fun h₁ tk₁ hk₁ => ?_
    have hk1 : ∀ b o, b ≠ I → H.get? b = some o → h₁.get? b = some o := fun b o hb e => hk₁ b o (by simp [hb]) e
    refine hR h₁ tk₁ m' ys (hn'.at' fun o e => hk1 _ o hCI e) hm' ?_ (paired_mono (fun a b g => hG _ _ _ _ g (kt h₁ hk1)) hF) fun b o h1 h2 h3 e => hk1 b o h2 (hk b o h1 h2 h3 e)
    obtain ⟨nn, e⟩ := hacc'; exact ⟨nn, hk1 _ _ hDI e⟩
theorem compLoop_walk {elt target iter : Expr} {ifs : List Expr} {scope : Scope} {pos : Pos} {I D : Addr} {fp : List Addr} {n : Nat} {P : Nat → Value → Prop} {St : Nat → Heap → Prop}
    {cenv : Env} {m : Str → Option Value} (W : Walks prog w A I fp [I] n P St) (pk : Nat → Bool) (G : Nat → Value → Heap → Prop) (hG : ∀ i y h h', G i y h → KeepTup h h' → G i y h')
    (hIt : ∀ i h, St i h → ∀ vs, ¬ h.IsTuple I vs) (hDC : D ≠ cenv.locals) (hDf : D ∉ fp) (hCf : cenv.locals ∉ fp)
    (hst : St 0 s.heap) (hacc : s.heap.PlainList D #[]) (hn : s.heap.Ns cenv.locals m)
    (body : ∀ i v h' tk m₃ E', i < n → P i v → St (i + 1) h' → h'.Ns cenv.locals m₃ → (∀ b o, b ≠ cenv.locals → b ≠ I → b ≠ D → s.heap.get? b = some o → h'.get? b = some o) →
      LcBody prog w A cenv cenv.locals I target elt ifs v (pk i) (G i) E' { s with heap := h', toks := tk })
    (hR : ∀ h' tk m' ys, h'.Ns cenv.locals m' → h'.PlainList D ys → Paired (fun i y => G i y h') ((List.range n).filter pk) ys.toList →
      (∀ b o, b ≠ cenv.locals → b ≠ I → b ≠ D → s.heap.get? b = some o → h'.get? b = some o) → R (.ok .next) { s with heap := h', toks := tk })
    (hsz : n ≤ 1000) :
    codeAny (model prog w) A (.compLoop (.ListComp elt [⟨target, iter, ifs, 0⟩] scope pos) 0 (.ref I) (.ref D) cenv) R s :=
  compLoop_walkB (ys0 := #[]) (fun _ => True) trivial (fun J t n h => compLoop_gen J t n h) W pk G hG hIt hDC hDf hCf hst hacc (by simp) hn (fun i v h' tk m₃ E' a b c d _ e => body i v h' tk m₃ E' a b c d e) (fun h' tk m' ys a _ b c d => hR h' tk m' ys a (by simpa using b) c d) hsz
end
end Mine
end
section
open PySem PySem.W PyProof.Rows PySem.Calls
set_option maxRecDepth 100000
set_option maxHeartbeats 1600000
set_option Elab.async false
set_option linter.unusedVariables false
namespace Mine
section
variable {prog : Program} {w : World} {A : Around} {E : Value → Shared → Prop} {env : Env}
structure LcSrc (prog : Program) (w : World) (A : Around) (env : Env) (scope : Scope) (cl : List (Str × Addr)) (target elt : Expr) (ifs : List Expr) (G : Nat → Value → Heap → Prop) (pk : Nat → Bool) (I : Addr) (n : Nat) (s₂ : Shared) : Prop where
  ex : ∃ (P : Nat → Value → Prop) (St : Nat → Heap → Prop) (fp : List Addr), Walks prog w A I fp [I] n P St ∧ (∀ i h, St i h → ∀ vs, ¬ h.IsTuple I vs) ∧ St 0 s₂.heap ∧ (∀ b ∈ fp, b < s₂.heap.objs.size) ∧
    (∀ C i v h' tk m₃ E', i < n → s₂.heap.get? C = none → P i v → St (i + 1) h' → h'.Ns C m₃ → (∀ b o, b ≠ I → s₂.heap.get? b = some o → h'.get? b = some o) →
      LcBody prog w A (compEnvC scope cl C env) C I target elt ifs v (pk i) (G i) E' { s₂ with heap := h', toks := tk })
  n1000 : n ≤ 1000
noncomputable def LcFin (G : Nat → Value → Heap → Prop) (pk : Nat → Bool) (I : Addr) (n : Nat) (s₂ : Shared) (Q : Value → Shared → Prop) : Prop :=
  ∀ D h' tk ys, s₂.heap.get? D = none → h'.PlainList D ys → Paired (fun i y => G i y h') ((List.range n).filter pk) ys.toList → (∀ b o, b ≠ I → s₂.heap.get? b = some o → h'.get? b = some o) → Q (.ref D) { s₂ with heap := h', toks := tk }
theorem lc_block {s₂ : Shared} {elt target iter : Expr} {ifs : List Expr} {scope : Scope} {cl : List (Str × Addr)} {pos : Pos} {G : Nat → Value → Heap → Prop} {pk : Nat → Bool} {I : Addr} {n : Nat} {RR : Value → Addr → Result → Shared → Prop}
    (hG : ∀ i y h h', G i y h → KeepTup h h' → G i y h') (hcell : ∀ y ∈ scope.names, y.2 ≠ .cell) (hkind : scope.kind = .function)
    (hRR : ∀ D C h' tk m' ys, s₂.heap.get? D = none → s₂.heap.get? C = none → C ≠ D → h'.Ns C m' → h'.PlainList D ys → Paired (fun i y => G i y h') ((List.range n).filter pk) ys.toList → (∀ b o, b ≠ I → s₂.heap.get? b = some o → h'.get? b = some o) →
      RR (.ref D) C (.ok .next) { s₂ with heap := h', toks := tk })
    (h : LcSrc prog w A env scope cl target elt ifs G pk I n s₂) :
    wpAny (model prog w) A (newList []) (fun acc s₃ => wpAny (model prog w) A (newFunctionEnv scope env.globals cl [] env.qual none .none (some env)) (fun cenv s₄ =>
      codeAny (model prog w) A (.compStart (.ListComp elt [⟨target, iter, ifs, 0⟩] scope pos) 0 (.ref I) acc { cenv with scope := relabel scope env }) (RR acc cenv.locals) s₄) E s₃) E s₂ := by
  obtain ⟨⟨P, St, fp, W, hIt, hst, hfp, body⟩, hsz⟩ := h
  refine wpAny_newObj_type (wpAny_newFunctionEnv hcell (by intro y hy; simp at hy) (fun h₁ hns₁ hsb₁ => ?_) hkind)
  dsimp only at hns₁ hsb₁ ⊢
  generalize hH2 : s₂.heap.push { cls := .type "list", dict := none, data := .seq ([] : List Value).toArray } = H2 at hns₁ hsb₁ ⊢
  have hC : H2.objs.size = s₂.heap.objs.size + 1 := by rw [← hH2, Heap.size_push]
  have hDC : s₂.heap.objs.size ≠ H2.objs.size := by rw [hC]; exact Nat.ne_of_lt (Nat.lt_succ_self _)
  have below : ∀ b, b < s₂.heap.objs.size → b ≠ H2.objs.size ∧ b ≠ s₂.heap.objs.size := fun b hb => ⟨by rw [hC]; exact Nat.ne_of_lt (Nat.lt_succ_of_lt hb), Nat.ne_of_lt hb⟩
  have hDf : s₂.heap.objs.size ∉ fp := fun hm => Nat.lt_irrefl _ (hfp _ hm)
  have hCf : H2.objs.size ∉ fp := fun hm => by have := hfp _ hm; rw [hC] at this; exact Nat.lt_irrefl _ (Nat.lt_of_succ_lt this)
  have old : ∀ b o, s₂.heap.get? b = some o → h₁.get? b = some o := fun b o e => hsb₁.extBut b o (below b (Heap.lt_size e)).1 (Heap.get?_push_of_some _ (hH2 ▸ Heap.get?_push_of_some _ e))
  have hacc : h₁.PlainList s₂.heap.objs.size #[] := ⟨_, hsb₁.extBut _ _ hDC (Heap.get?_push_of_some _ (hH2 ▸ Heap.get?_push_size _ rfl))⟩
  have hst₁ : St 0 h₁ := W.frame _ _ _ hst fun b _ o e => old b o e
  have fresh : ∀ a, s₂.heap.objs.size ≤ a → s₂.heap.get? a = none := fun a ha => Heap.get?_none_of_le ha
  have hDn := fresh s₂.heap.objs.size (Nat.le_refl _)
  have hCn := fresh H2.objs.size (by rw [hC]; exact Nat.le_succ _)
  have up : ∀ h' : Heap, (∀ b o, b ≠ H2.objs.size → b ≠ I → b ≠ s₂.heap.objs.size → h₁.get? b = some o → h'.get? b = some o) → ∀ b o, b ≠ I → s₂.heap.get? b = some o → h'.get? b = some o :=
    fun h' k b o hb e => k b o (below b (Heap.lt_size e)).1 hb (below b (Heap.lt_size e)).2 (old b o e)
  have loop : ∀ s₃ : Shared, s₃ = { s₂ with heap := h₁, toks := s₂.toks + ([] : List (Str × Value)).length } →
      codeAny (model prog w) A (.compLoop (.ListComp elt [⟨target, iter, ifs, 0⟩] scope pos) 0 (.ref I) (.ref s₂.heap.objs.size) (compEnvC scope cl H2.objs.size env))
        (RR (.ref s₂.heap.objs.size) H2.objs.size) s₃ := by
    rintro s₃ rfl
    exact compLoop_walk (cenv := compEnvC scope cl H2.objs.size env) W pk G hG hIt hDC hDf hCf hst₁ hacc hns₁
      (fun i v h' tk m₃ E' hi hP hS hN hk => body _ i v h' tk m₃ E' hi hCn hP hS hN (up h' hk)) (fun h' tk m' ys hn ha hF hk => hRR _ _ h' tk m' ys hDn hCn (Ne.symm hDC) hn ha hF (up h' hk)) hsz
  exact codeAny_compStart_list (loop _ rfl) (W.self 0 _ _ _ hst₁ (loop _ rfl))
theorem kt_same {C : Addr} {h h' : Heap} {m : Str → Option Value} (hn : h.Ns C m) (sb : Heap.SameBut C h h') : KeepTup h h' := fun b vs t => tup_on t fun o e => (sb.2 b (fun q => ns_noTuple hn vs (q ▸ t))).trans e
theorem lc_gen {s : Shared} {elt target iter : Expr} {ifs : List Expr} {scope : Scope} {cl : List (Str × Addr)} {pos : Pos} {G : Nat → Value → Heap → Prop} {pk : Nat → Bool} {Q : Value → Shared → Prop}
    (hclos : closureFor scope env = pure cl) (hcell : ∀ y ∈ scope.names, y.2 ≠ .cell) (hkind : scope.kind = .function) (hnames : ∀ y ∈ scope.names, y.2 = .local → scope.names.lookup y.1 = some .local)
    (hG : ∀ i y h h', G i y h → KeepTup h h' → G i y h')
    (h : wpAny (model prog w) A (eval iter env) (fun xv s₁ => wpAny (model prog w) A (pyIter xv) (fun it s₂ => ∃ I n, it = .ref I ∧ LcSrc prog w A env scope cl target elt ifs G pk I n s₂ ∧ LcFin G pk I n s₂ Q) E s₁) E s)
    (hs : ∀ x, foldedSetIterable iter env x = pure x := by intro _; rfl) :
    wpAny (model prog w) A (eval (.ListComp elt [⟨target, iter, ifs, 0⟩] scope pos) env) Q E s := by
  rw [eval_ListComp]
  refine wpAny_comprehension_free (use := none) rfl hs hclos hkind hnames (wpAny_mono h (fun xv s₁ h₁ => wpAny_mono h₁ (fun it s₂ h₂ => ?_) fun _ _ e => e) fun _ _ e => e)
  obtain ⟨I, n, rfl, src, fin⟩ := h₂
  refine lc_block (RR := fun acc C => compPost (model prog w) A E none Q acc C) hG hcell hkind (fun D C h' tk m' ys hD hC hCD hn ha hF hk => ?_) src
  refine ⟨m', hn, fun h'' sb => fin D h'' tk ys hD ?_ (paired_mono (fun a b g => hG _ _ _ _ g (kt_same hn sb)) hF) fun b o hb e => (sb.2 b (fun q => by rw [q, hC] at e; cases e)).trans (hk b o hb e)⟩
  obtain ⟨nn, e⟩ := ha; exact ⟨nn, (sb.2 _ (Ne.symm hCD)).trans e⟩
noncomputable def LcFinA (G : Nat → Value → Heap → Prop) (pk : Nat → Bool) (I : Addr) (n : Nat) (s₂ : Shared) (L : Addr) (y : Str) (m : Str → Option Value) (Q : Flow → Shared → Prop) : Prop :=
  I ≠ L ∧ s₂.heap.Ns L m ∧ ∀ D h' tk ys, s₂.heap.get? D = none → h'.PlainList D ys → Paired (fun i y => G i y h') ((List.range n).filter pk) ys.toList → (∀ b o, b ≠ I → b ≠ L → s₂.heap.get? b = some o → h'.get? b = some o) →
    h'.Ns L (fun z => if z = y then some (.ref D) else m z) → Q .next { s₂ with heap := h', toks := tk }
theorem lc_assign {s : Shared} {elt target iter : Expr} {ifs : List Expr} {scope : Scope} {cl : List (Str × Addr)} {pos spos py : Pos} {y : Str} {m : Str → Option Value} {G : Nat → Value → Heap → Prop} {pk : Nat → Bool} {Q : Flow → Shared → Prop}
    (hsw : swapsWith (.ListComp elt [⟨target, iter, ifs, 0⟩] scope pos) (some (.Name y py)) spos.line env = pure true)
    (hclos : closureFor scope env = pure cl) (hcell : ∀ y ∈ scope.names, y.2 ≠ .cell) (hkind : scope.kind = .function) (hnames : ∀ y ∈ scope.names, y.2 = .local → scope.names.lookup y.1 = some .local)
    (hG : ∀ i y h h', G i y h → KeepTup h h' → G i y h')
    (hy : env.kindOf y = some .local) (hp : (env.scope.kind == .class || (env.scope.kind == .module && env.locals != env.globals)) = false)
    (h : wpAny (model prog w) A (eval iter env) (fun xv s₁ => wpAny (model prog w) A (pyIter xv) (fun it s₂ => ∃ I n, it = .ref I ∧ LcSrc prog w A env scope cl target elt ifs G pk I n s₂ ∧ LcFinA G pk I n s₂ env.locals y m Q) E s₁) E s)
    (hs : ∀ x, foldedSetIterable iter env x = pure x := by intro _; rfl) :
    wpAny (model prog w) A (exec (.Assign [.Name y py] (.ListComp elt [⟨target, iter, ifs, 0⟩] scope pos) spos) env) Q E s := by
  rw [exec_Assign_Name_used _ _ _ _ hsw]
  refine wpAny_bind (wpAny_standAt (wpAny_bind ?_))
  show wpAny _ A (do let _ ← comprehension (.ListComp elt [⟨target, iter, ifs, 0⟩] scope pos) scope env _ (newList []) false (eval iter env) (some (assign (.Name y py) env))) _ _ s
  refine wpAny_bind (wpAny_mono (wpAny_comprehension_free (use := some (assign (.Name y py) env)) (Q := fun _ s' => Q .next s') rfl hs hclos hkind hnames
    (wpAny_mono h (fun xv s₁ h₁ => wpAny_mono h₁ (fun it s₂ h₂ => ?_) fun _ _ e => e) fun _ _ e => e)) (fun _ s' hq => wpAny_pure (wpAny_pure hq)) fun _ _ e => e)
  obtain ⟨I, n, rfl, src, hIL, hNs, fin⟩ := h₂
  refine lc_block (RR := fun acc C => compPost (model prog w) A E (some (assign (.Name y py) env)) (fun _ s' => Q .next s') acc C) hG hcell hkind (fun D C h' tk m' ys hD hC hCD hn ha hF hk => ?_) src
  have hL : ∀ b, s₂.heap.get? b = none → b ≠ env.locals := fun b hb q => by obtain ⟨o, _, _, e, _⟩ := hNs; rw [q, e] at hb; cases hb
  have hNs' : h'.Ns env.locals m := hNs.at' fun o e => hk _ _ (Ne.symm hIL) e
  show wpAny _ A (assign (.Name y py) env (.ref D)) _ _ _
  refine wpAny_assign_Name (wpAny_storeName_local hy hNs' (fun h₂ hn₂ hs₂ => ?_) hp)
  have hCL := hL C hC
  have hDL := hL D hD
  refine ⟨m', hn.sameBut hs₂ hCL, fun h'' sb => fin D h'' _ ys hD ?_ ?_ (fun b o hb hbL e => ?_) (hn₂.sameBut sb (Ne.symm hCL))⟩
  · obtain ⟨nn, e⟩ := ha; exact ⟨nn, (sb.2 _ (Ne.symm hCD)).trans ((hs₂.2 _ hDL).trans e)⟩
  · exact paired_mono (fun a b g => hG _ _ _ _ (hG _ _ _ _ g (kt_same hNs' hs₂)) (kt_same (hn.sameBut hs₂ hCL) sb)) hF
  · exact (sb.2 b (fun q => by rw [q, hC] at e; cases e)).trans ((hs₂.2 b hbL).trans (hk b o hb e))
end
end Mine
end
section
open PySem PySem.W PyProof.Rows PySem.Calls
set_option maxRecDepth 100000
set_option maxHeartbeats 1600000
set_option Elab.async false
set_option linter.unusedVariables false
namespace Mine
section
variable {prog : Program} {w : World} {A : Around} {E : Value → Shared → Prop} {R : Result → Shared → Prop} {s : Shared} {env : Env}
theorem compStart_in {elt target iter ifs g0 scope pos it acc}
    (h0 : codeAny (model prog w) A (.compLoop (.ListComp elt [g0, ⟨target, iter, ifs, 0⟩] scope pos) 1 it acc env) R s)
    (h : wpAny (model prog w) A (pyIter it) (fun it' s' => codeAny (model prog w) A (.compLoop (.ListComp elt [g0, ⟨target, iter, ifs, 0⟩] scope pos) 1 it' acc env) R s')
      (notedBy (model prog w) A env fun x s' => R (.error x) s') s) :
    codeAny (model prog w) A (.compStart (.ListComp elt [g0, ⟨target, iter, ifs, 0⟩] scope pos) 1 it acc env) R s := by
  refine codeAny_of_tree ?_
  show wpAny _ _ ((compStart (.ListComp elt [g0, ⟨target, iter, ifs, 0⟩] scope pos) 1 it acc env).onRaise (fun x => do noteFrame x env; standAt theWindowsPlace)) _ _ s
  refine wpAny_notedAt ?_
  unfold compStart
  show wpAny _ _ (ask >>= _) _ _ s
  refine wpAny_bind (wpAny_askSetting (wpAny_ite ?_))
  split
  · first
      | exact wpAny_bind (wpAny_pure (wpAny_pure (And.intro rfl h0)))
      | exact wpAny_pure (And.intro rfl h0)
  · first
      | exact wpAny_bind (wpAny_rule (wpAny_bind (wpAny_standAt (wpAny_bind (wpAny_mono h (fun it' s' h' => wpAny_pure (And.intro rfl h')) fun _ _ x => x)))))
      | (refine wpAny_bind (wpAny_rule ?_); show wpAny _ _ (standAt iter.pos >>= _) _ _ s; exact wpAny_bind (wpAny_standAt (wpAny_bind (wpAny_mono h (fun it' s' h' => wpAny_pure (And.intro rfl h')) fun _ _ x => x))))
theorem compTurn_out (elt t0 iter0 : Expr) (g1 : Comprehension) (scope : Scope) (pos : Pos) (it acc : Value) (env : Env) (ha : g1.is_async = 0) :
    compTurn (.ListComp elt [⟨t0, iter0, [], 0⟩, g1] scope pos) 0 it acc env = (standAt iter0.pos >>= fun _ => pyNext it >>= fun r => match r with
      | none => pure (.done .next)
      | some v => letOwnedTupleGo t0 it v >>= fun _ => assign t0 env v >>= fun _ => eval g1.iter env >>= fun x => standAt g1.iter.pos >>= fun _ => foldedSetIterable g1.iter env x >>= fun x =>
          (holding [x] (pyIter x)) >>= fun it1 => runOwn (.compStart (.ListComp elt [⟨t0, iter0, [], 0⟩, g1] scope pos) 1 it1 acc env) env >>= fun _ => again (.compLoop (.ListComp elt [⟨t0, iter0, [], 0⟩, g1] scope pos) 0 it acc env)) := by
  obtain ⟨a, b, c, d⟩ := g1
  dsimp only at ha
  subst ha
  rfl
theorem compLoop_out {elt t0 iter0 : Expr} {g1 : Comprehension} {scope : Scope} {pos : Pos} {it acc : Value} (ha : g1.is_async = 0) (hs : ∀ x, foldedSetIterable g1.iter env x = pure x) (J : Nat → Shared → Prop)
    (turn : ∀ n s, J n s → wpAny (model prog w) A (pyNext it) (fun r s₁ => match r with
      | none => R (.ok .next) s₁
      | some v => wpAny (model prog w) A (letOwnedTupleGo t0 it v) (fun _ s₁' => wpAny (model prog w) A (assign t0 env v) (fun _ s₂ => wpAny (model prog w) A (eval g1.iter env) (fun x s₃ => wpAny (model prog w) A (pyIter x) (fun it1 s₄ =>
          codeAny (model prog w) A (.compStart (.ListComp elt [⟨t0, iter0, [], 0⟩, g1] scope pos) 1 it1 acc env) (fun r s' => match r with | .ok _ => ∃ m, m < n ∧ J m s' | .error e => cameBackBy (model prog w) A env (notedBy (model prog w) A env fun e s' => R (.error e) s') e s') s₄)
          (notedBy (model prog w) A env fun e s' => R (.error e) s') s₃) (notedBy (model prog w) A env fun e s' => R (.error e) s') s₂) (notedBy (model prog w) A env fun e s' => R (.error e) s') s₁') (notedBy (model prog w) A env fun e s' => R (.error e) s') s₁)
        (notedBy (model prog w) A env fun e s' => R (.error e) s') s)
    (n : Nat) (h : J n s) : codeAny (model prog w) A (.compLoop (.ListComp elt [⟨t0, iter0, [], 0⟩, g1] scope pos) 0 it acc env) R s := by
  refine codeAny_loop rfl J (fun n s hI => ?_) n h
  show wpAny _ A ((compTurn (.ListComp elt [⟨t0, iter0, [], 0⟩, g1] scope pos) 0 it acc env).onRaise (fun x => do noteFrame x env; theTreesLotGoes x)) _ _ s
  refine wpAny_noted ?_
  rw [compTurn_out _ _ _ _ _ _ _ _ _ ha]
  refine wpAny_bind (wpAny_standAt (wpAny_bind (wpAny_mono (turn n s hI) (fun r s₁ h₁ => ?_) fun _ _ h' => h')))
  cases r with
  | none => exact wpAny_pure h₁
  | some v =>
    refine wpAny_bind (wpAny_mono h₁ (fun _ s₁' h₁' => ?_) fun _ _ h' => h')
    refine wpAny_bind (wpAny_mono h₁' (fun _ s₂ h₂ => ?_) fun _ _ h' => h')
    refine wpAny_bind (wpAny_mono h₂ (fun x s₃ h₃ => ?_) fun _ _ h' => h')
    refine wpAny_bind (wpAny_standAt (wpAny_bind (wpAny_of_eq (hs x) (wpAny_bind (wpAny_holding (wpAny_mono h₃ (fun it1 s₄ h₄ => ?_) fun _ _ h' => h'))))))
    refine wpAny_bind (wpAny_runOwn (codeAny_mono h₄ fun r s' z => ?_))
    cases r with
    | error e => exact z
    | ok f => exact wpAny_pure ⟨rfl, z⟩
end
end Mine
end
section
open PySem PySem.W PyProof.Rows PySem.Calls
set_option maxRecDepth 100000
set_option maxHeartbeats 1600000
set_option Elab.async false
set_option linter.unusedVariables false
namespace Mine
theorem paired_app {α β : Type} {F : α → β → Prop} : ∀ {l₁ : List α} {l₂ : List β} {l₃ : List α} {l₄ : List β}, Paired F l₁ l₂ → Paired F l₃ l₄ → Paired F (l₁ ++ l₃) (l₂ ++ l₄)
  | _, _, _, _, .nil, h => h
  | _, _, _, _, .cons a t, h => .cons a (paired_app t h)
theorem paired_map {α γ β : Type} {F : α → β → Prop} (f : γ → α) : ∀ {l₁ : List γ} {l₂ : List β}, Paired (fun c b => F (f c) b) l₁ l₂ → Paired F (l₁.map f) l₂
  | _, _, .nil => .nil
  | _, _, .cons a t => .cons a (paired_map f t)
inductive JInv (s₂ : Shared) (St0 : Nat → Heap → Prop) (D I0 C : Addr) (h₁ : Heap) (G : Nat → Nat → Value → Heap → Prop) (pk : Nat → Nat → Bool) (sz N k : Nat) (s' : Shared) : Prop
  | mk (h' : Heap) (tk : Nat) (m' : Str → Option Value) (j : Nat) (ys : Array Value) (e : s' = { s₂ with heap := h', toks := tk }) (h1 : St0 j h') (h2 : h'.PlainList D ys) (h3 : h'.Ns C m') (h4 : Paired (fun (p : Nat × Nat) y => G p.1 p.2 y h') ((List.range j).flatMap fun j => ((List.range sz).filter (pk j)).map fun i => (j, i)) ys.toList)
    (h5 : ys.size ≤ j * sz) (h6 : j ≤ N) (h7 : k = N - j) (h8 : ∀ b o, b ≠ C → b ≠ I0 → b ≠ D → h₁.get? b = some o → h'.get? b = some o) : JInv s₂ St0 D I0 C h₁ G pk sz N k s'
section
variable {prog : Program} {w : World} {A : Around} {E : Value → Shared → Prop} {env : Env}
theorem lc_two {s₂ : Shared} {elt t0 iter0 t1 iter1 : Expr} {ifs1 : List Expr} {scope : Scope} {cl : List (Str × Addr)} {pos : Pos} {G : Nat → Nat → Value → Heap → Prop} {pk : Nat → Nat → Bool} {Mj : Nat → (Str → Option Value) → Prop} {I0 l2 : Addr} {N : Nat} {items2 : Array Value}
    {P0 : Nat → Value → Prop} {St0 : Nat → Heap → Prop} {fp0 : List Addr} {Q : Value → Shared → Prop} (hh : A.handled = none)
    (hG : ∀ j i y h h', G j i y h → KeepTup h h' → G j i y h') (hcell : ∀ y ∈ scope.names, y.2 ≠ .cell) (hkind : scope.kind = .function) (hs : ∀ env x, foldedSetIterable iter1 env x = pure x)
    (W0 : Walks prog w A I0 fp0 [I0] N P0 St0) (hIt0 : ∀ i h, St0 i h → ∀ vs, ¬ h.IsTuple I0 vs) (hst0 : St0 0 s₂.heap) (hfp0 : ∀ b ∈ fp0, b < s₂.heap.objs.size) (hl2 : s₂.heap.IsList l2 items2) (hl0 : l2 ≠ I0) (hsz : N * items2.size ≤ 900) (hsz2 : items2.size ≤ 900)
    (body0 : ∀ C j v h' tk m₃ E', j < N → s₂.heap.get? C = none → P0 j v → h'.Ns C m₃ → (∀ b o, b ≠ I0 → s₂.heap.get? b = some o → h'.get? b = some o) →
      wpAny (model prog w) A (letOwnedTupleGo t0 (.ref I0) v) (fun _ s₃ => wpAny (model prog w) A (assign t0 (compEnvC scope cl C env) v) (fun _ s₄ => wpAny (model prog w) A (eval iter1 (compEnvC scope cl C env)) (fun x s₅ => x = .ref l2 ∧ OnlyC (Mj j) C { s₂ with heap := h', toks := tk } s₅) E' s₄) E' s₃) E' { s₂ with heap := h', toks := tk })
    (body1 : ∀ C j i v I2 h' tk m₃ E', j < N → i < items2.size → s₂.heap.get? C = none → items2[i]? = some v → h'.Ns C m₃ → Mj j m₃ → h'.IsListIter I2 l2 (i + 1) → (∀ b o, b ≠ I0 → s₂.heap.get? b = some o → h'.get? b = some o) →
      LcBody prog w A (compEnvC scope cl C env) C I2 t1 elt ifs1 v (pk j i) (G j i) E' { s₂ with heap := h', toks := tk } (Mj j))
    (fin : ∀ D h' tk ys, s₂.heap.get? D = none → h'.PlainList D ys → Paired (fun (p : Nat × Nat) y => G p.1 p.2 y h') ((List.range N).flatMap fun j => ((List.range items2.size).filter (pk j)).map fun i => (j, i)) ys.toList → (∀ b o, b ≠ I0 → s₂.heap.get? b = some o → h'.get? b = some o) → Q (.ref D) { s₂ with heap := h', toks := tk }) :
    wpAny (model prog w) A (newList []) (fun acc s₃ => wpAny (model prog w) A (newFunctionEnv scope env.globals cl [] env.qual none .none (some env)) (fun cenv s₄ =>
      codeAny (model prog w) A (.compStart (.ListComp elt [⟨t0, iter0, [], 0⟩, ⟨t1, iter1, ifs1, 0⟩] scope pos) 0 (.ref I0) acc { cenv with scope := relabel scope env }) (compPost (model prog w) A E none Q acc cenv.locals) s₄) E s₃) E s₂ := by
  refine wpAny_newObj_type (wpAny_newFunctionEnv hcell (by intro y hy; simp at hy) (fun h₁ hns₁ hsb₁ => ?_) hkind)
  dsimp only at hns₁ hsb₁ ⊢
  generalize hH2 : s₂.heap.push { cls := .type "list", dict := none, data := .seq ([] : List Value).toArray } = H2 at hns₁ hsb₁ ⊢
  have hC : H2.objs.size = s₂.heap.objs.size + 1 := by rw [← hH2, Heap.size_push]
  have hDC : s₂.heap.objs.size ≠ H2.objs.size := by rw [hC]; exact Nat.ne_of_lt (Nat.lt_succ_self _)
  have below : ∀ b, b < s₂.heap.objs.size → b ≠ H2.objs.size ∧ b ≠ s₂.heap.objs.size := fun b hb => ⟨by rw [hC]; exact Nat.ne_of_lt (Nat.lt_succ_of_lt hb), Nat.ne_of_lt hb⟩
  have hDf : s₂.heap.objs.size ∉ fp0 := fun hm => Nat.lt_irrefl _ (hfp0 _ hm)
  have hCf : H2.objs.size ∉ fp0 := fun hm => by have := hfp0 _ hm; rw [hC] at this; exact Nat.lt_irrefl _ (Nat.lt_of_succ_lt this)
  have old : ∀ b o, s₂.heap.get? b = some o → h₁.get? b = some o := fun b o e => hsb₁.extBut b o (below b (Heap.lt_size e)).1 (Heap.get?_push_of_some _ (hH2 ▸ Heap.get?_push_of_some _ e))
  have hacc : h₁.PlainList s₂.heap.objs.size #[] := ⟨_, hsb₁.extBut _ _ hDC (Heap.get?_push_of_some _ (hH2 ▸ Heap.get?_push_size _ rfl))⟩
  have hst₁ : St0 0 h₁ := W0.frame _ _ _ hst0 fun b _ o e => old b o e
  have hDn : s₂.heap.get? s₂.heap.objs.size = none := Heap.get?_none_of_le (Nat.le_refl _)
  have hCn : s₂.heap.get? H2.objs.size = none := Heap.get?_none_of_le (by rw [hC]; exact Nat.le_succ _)
  have hIf : I0 ∈ fp0 := W0.sub _ (by simp)
  clear hH2
  generalize s₂.heap.objs.size = D at *
  generalize H2.objs.size = C at *
  have hDI : D ≠ I0 := fun q => hDf (q ▸ hIf)
  have hCI : C ≠ I0 := fun q => hCf (q ▸ hIf)
  have up : ∀ h' : Heap, (∀ b o, b ≠ C → b ≠ I0 → b ≠ D → h₁.get? b = some o → h'.get? b = some o) → ∀ b o, b ≠ I0 → s₂.heap.get? b = some o → h'.get? b = some o :=
    fun h' k b o hb e => k b o (fun q => by rw [q, hCn] at e; cases e) hb (fun q => by rw [q, hDn] at e; cases e) (old b o e)
  have loop : ∀ s₃ : Shared, s₃ = { s₂ with heap := h₁, toks := s₂.toks + ([] : List (Str × Value)).length } →
      codeAny (model prog w) A (.compLoop (.ListComp elt [⟨t0, iter0, [], 0⟩, ⟨t1, iter1, ifs1, 0⟩] scope pos) 0 (.ref I0) (.ref D) (compEnvC scope cl C env))
        (compPost (model prog w) A E none Q (.ref D) C) s₃ := by
    rintro s₃ rfl
    obtain ⟨J, hJ⟩ : ∃ J : Nat → Shared → Prop, J = JInv s₂ St0 D I0 C h₁ G pk items2.size N := ⟨_, rfl⟩
    refine compLoop_out (env := compEnvC scope cl C env) rfl (hs _) J ?_ N (by rw [hJ]; exact ⟨h₁, _, _, 0, #[], rfl, hst₁, hacc, hns₁, by simpa using Paired.nil, by simp, Nat.zero_le _, rfl, fun _ _ _ _ _ e => e⟩)
    intro k s' hI
    rw [hJ] at hI
    revert k s'
    rintro k s' ⟨H, tk, m', j, ys, rfl, hst', hacc', hn', hF, hys, hj, rfl, hk⟩
    have kt : ∀ h₁ : Heap, (∀ b o, b ≠ I0 → H.get? b = some o → h₁.get? b = some o) → KeepTup H h₁ := fun h₁ k1 b vs t => tup_on t fun o e => k1 b o (fun q => hIt0 _ _ hst' vs (q ▸ t)) e
    by_cases hlt : j < N
    · refine W0.item j _ _ _ hlt hst' fun v h₂ tk₂ hPv hst₂ hk₂ => ?_
      have hk2 : ∀ b o, b ≠ I0 → H.get? b = some o → h₂.get? b = some o := fun b o hb e => hk₂ b o (by simp [hb]) e
      have hn2 : h₂.Ns C m' := hn'.at' fun o e => hk2 _ o hCI e
      have keep2 : ∀ b o, b ≠ C → b ≠ I0 → b ≠ D → h₁.get? b = some o → h₂.get? b = some o := fun b o a1 a2 a3 e => hk2 b o a2 (hk b o a1 a2 a3 e)
      have B := body0 C j v h₂ tk₂ m' (notedBy (model prog w) A (compEnvC scope cl C env) fun e s' => compPost (model prog w) A E none Q (.ref D) C (.error e) s') hlt hCn hPv hn2 (up h₂ keep2)
      refine wpAny_mono B (fun _ s₃ h₃ => wpAny_mono h₃ (fun _ s₄ h₄ => wpAny_mono h₄ (fun x s₅ h₅ => ?_) fun _ _ e => e) fun _ _ e => e) fun _ _ e => e
      obtain ⟨rfl, h₅', tk₅, m₅, rfl, k5, n5, p5⟩ := h₅
      dsimp only at k5
      have kept5 : ∀ b o, b ≠ C → b ≠ I0 → b ≠ D → h₁.get? b = some o → h₅'.get? b = some o := fun b o a1 a2 a3 e => k5 b o a1 (keep2 b o a1 a2 a3 e)
      have hl5 : h₅'.IsList l2 items2 := isl_on hl2 fun o e => up h₅' kept5 _ _ hl0 e
      refine wpAny_pyIter_list (s := { s₂ with heap := h₅', toks := tk₅ }) hl5 ?_
      have k6 : KeepH h₅' (h₅'.push { cls := .type "list_iterator", data := .fields #[.ref l2, .int 0 0] }) := fun b o e => Heap.get?_push_of_some _ e
      have it6 : (h₅'.push { cls := .type "list_iterator", data := .fields #[.ref l2, .int 0 0] }).IsListIter h₅'.objs.size l2 0 := ⟨_, Heap.get?_push_size _ rfl, rfl, rfl⟩
      have n6 : h₅'.get? h₅'.objs.size = none := Heap.get?_none_of_le (Nat.le_refl _)
      dsimp only
      generalize h₅'.objs.size = I2 at it6 n6 ⊢
      generalize h₅'.push { cls := .type "list_iterator", data := .fields #[.ref l2, .int 0 0] } = h₆ at it6 k6 ⊢
      have ne2 : ∀ b o, h₅'.get? b = some o → b ≠ I2 := fun b o e q => by rw [q, n6] at e; cases e
      have hacc5 : h₅'.PlainList D ys := by obtain ⟨nn, e⟩ := hacc'; exact ⟨nn, k5 _ _ (by exact hDC) (hk2 _ _ hDI e)⟩
      have hDI2 : D ≠ I2 := by obtain ⟨nn, e⟩ := hacc5; exact ne2 _ _ e
      have hCI2 : C ≠ I2 := by obtain ⟨o, _, _, e, _⟩ := n5; exact ne2 _ _ e
      have hlI2 : l2 ≠ I2 := by obtain ⟨o, e, _⟩ := hl5; exact ne2 _ _ e
      have hlC : l2 ≠ C := fun q => by obtain ⟨o, e, _⟩ := hl2; rw [q, hCn] at e; cases e
      have hlD : l2 ≠ D := fun q => by obtain ⟨o, e, _⟩ := hl2; rw [q, hDn] at e; cases e
      have accs : KeepTup H h₆ := fun b vs t => by
        have t2 := kt h₂ hk2 b vs t
        exact tup_on t2 fun o e => k6 _ _ (k5 b o (fun q => ns_noTuple hn2 vs (q ▸ t2)) e)
      have inner : codeAny (model prog w) A (.compLoop (.ListComp elt [⟨t0, iter0, [], 0⟩, ⟨t1, iter1, ifs1, 0⟩] scope pos) 1 (.ref I2) (.ref D) (compEnvC scope cl C env))
          (fun r s' => match r with | .ok _ => ∃ m, m < N - j ∧ J m s' | .error e => cameBackBy (model prog w) A (compEnvC scope cl C env) (notedBy (model prog w) A (compEnvC scope cl C env) fun e s' => compPost (model prog w) A E none Q (.ref D) C (.error e) s') e s')
          { s₂ with heap := h₆, toks := tk₅ } := by
        have hjn : j * items2.size ≤ N * items2.size := Nat.mul_le_mul_right _ hj
        refine compLoop_walkB (cenv := compEnvC scope cl C env) (ys0 := ys) (Mj j) p5 (fun J t n h => compLoop_gen1 J t n h) (Walks.list hh I2 l2 hlI2 items2) (pk j) (G j) (hG j) (fun i h st vs t => ?_) hDC ?_ ?_ ⟨it6, isl_on hl5 fun o e => k6 _ _ e⟩
          (by obtain ⟨nn, e⟩ := hacc5; exact ⟨nn, k6 _ _ e⟩) (by omega) (n5.keeps k6) (fun i v h' tk m₃ E' hi hv hst hN hM hk7 => ?_) (fun h' tk m' ys' hN hM hP hF7 hk7 => ?_) (by omega)
        · obtain ⟨o, eo, co, _⟩ := st.1
          obtain ⟨o', eo', c', _⟩ := t
          rw [eo] at eo'; cases eo'; rw [co] at c'; simp at c'
        · simp only [List.mem_cons, List.not_mem_nil, or_false, not_or]; exact ⟨hDI2, Ne.symm hlD⟩
        · simp only [List.mem_cons, List.not_mem_nil, or_false, not_or]; exact ⟨hCI2, Ne.symm hlC⟩
        · exact body1 C j i v I2 h' tk m₃ E' hlt hi hCn hv hN hM hst.1 (up h' fun b o a1 a2 a3 e => hk7 b o a1 (ne2 b o (kept5 b o a1 a2 a3 e)) a3 (k6 _ _ (kept5 b o a1 a2 a3 e)))
        · have kept7 : ∀ b o, b ≠ C → b ≠ I0 → b ≠ D → h₁.get? b = some o → h'.get? b = some o := fun b o a1 a2 a3 e => hk7 b o a1 (ne2 b o (kept5 b o a1 a2 a3 e)) a3 (k6 _ _ (kept5 b o a1 a2 a3 e))
          have hl7 := hF7.length
          have hl8 := List.length_filter_le (pk j) (List.range items2.size)
          rw [List.length_range] at hl8
          have hl9 : ys'.toList.length = ys'.size := by simp
          refine ⟨N - (j + 1), Nat.sub_succ_lt_self _ _ hlt, ?_⟩
          rw [hJ]
          refine ⟨h', tk, m', j + 1, ys ++ ys', rfl, ?_, hP, hN, ?_, by rw [Array.size_append, Nat.succ_mul]; omega, by omega, rfl, kept7⟩
          · refine W0.frame _ _ _ hst₂ fun b hb o e => ?_
            have e5 := k5 b o (fun q => hCf (q ▸ hb)) e
            exact hk7 b o (fun q => hCf ((show b = C from q) ▸ hb)) (ne2 b o e5) (fun q => hDf (q ▸ hb)) (k6 _ _ e5)
          · rw [List.range_succ, List.flatMap_append, Array.toList_append]
            refine paired_app (paired_mono (fun a b g => hG _ _ _ _ _ g fun b vs t => ?_) hF) ?_
            · have t6 := accs b vs t
              have n7 := n5.keeps k6
              refine tup_on t6 fun o e => hk7 b o (fun q => ns_noTuple n7 vs ((show b = C from q) ▸ t6)) (fun q => ?_) (fun q => ?_) e
              · obtain ⟨o', eo', c', _⟩ := t6
                obtain ⟨o2, e2, c2, _⟩ := it6
                rw [q, e2] at eo'; cases eo'; rw [c2] at c'; simp at c'
              · obtain ⟨o', eo', c', _⟩ := t6
                obtain ⟨nn, e2⟩ := hacc5
                rw [q, k6 _ _ e2] at eo'; cases eo'; simp at c'
            · simp only [List.flatMap_cons, List.flatMap_nil, List.append_nil]
              exact paired_map (F := fun (p : Nat × Nat) y => G p.1 p.2 y h') (fun i => (j, i)) hF7
      exact compStart_in inner (wpAny_pyIter_listiter (s := { s₂ with heap := h₆, toks := tk₅ }) it6 inner)
    · have hjn : j = N := by omega
      subst hjn
      refine W0.done _ _ _ hst' fun h₂ tk₂ hk₂ => ?_
      have hk2 : ∀ b o, b ≠ I0 → H.get? b = some o → h₂.get? b = some o := fun b o hb e => hk₂ b o (by simp [hb]) e
      have hn2 : h₂.Ns C m' := hn'.at' fun o e => hk2 _ o hCI e
      refine ⟨m', hn2, fun h'' sb => fin D h'' tk₂ ys hDn ?_ (paired_mono (fun a b g => hG _ _ _ _ _ (hG _ _ _ _ _ g (kt h₂ hk2)) (kt_same hn2 sb)) hF) fun b o hb e => ?_⟩
      · obtain ⟨nn, e⟩ := hacc'; exact ⟨nn, (sb.2 _ hDC).trans (hk2 _ _ hDI e)⟩
      · exact (sb.2 b (fun q => by rw [q, hCn] at e; cases e)).trans (hk2 b o hb (up H hk b o hb e))
  exact codeAny_compStart_list (loop _ rfl) (W0.self 0 _ _ _ hst₁ (loop _ rfl))
end
end Mine
end
section
open PySem PySem.W PyProof.Rows PySem.Calls
set_option maxRecDepth 100000
set_option maxHeartbeats 1600000
set_option Elab.async false
set_option linter.unusedVariables false
namespace Mine
structure Lw (w : World) (mg mb : Str → Option Value) (h0 : Heap) (L0 : Addr) (m : Str → Option Value) (cm : Nat → Option Value) (h : Heap) : Prop where
  new : ∀ b, L0 ≤ b → h0.get? b = none
  top : ∀ b, L0 ≤ b → Top w.params b = false
  X : Ctx0 w mg mb h
  F : h.Ns L0 m
  cell : ∀ i, i < 6 → h.IsCell (L0 + 1 + i) (cm i)
  st : StepH [] h0 h
  tq : ∀ t, t = 221 ∨ t = 258 → cm 6 = none → h.get? t = some (tabObj #[])
theorem tabs2 {t : Addr} (h : t = 221 ∨ t = 258) : t ∈ Tabs := by rcases h with rfl | rfl <;> decide
theorem addr1 (a i : Nat) : a + 1 + i ≠ a := by omega
theorem addr2 (a i j : Nat) : a + 1 + i = a + 1 + j → i = j := by omega
section
variable {w : World} {mg mb : Str → Option Value} {h0 h h' : Heap} {L0 : Addr} {m m' : Str → Option Value} {cm : Nat → Option Value}
theorem top_noTab {P : Params} {b : Addr} (h : Top P b = false) : b ∉ Tabs := fun q => by
  unfold Top at h
  rw [Bool.or_eq_false_iff] at h
  have h2 := h.2
  rw [← Bool.not_eq_true] at h2
  exact h2 (by simpa using q)
theorem Lw.step (V : Lw w mg mb h0 L0 m cm h) (st : StepH [] h h') (q : ∀ t o, t = 221 ∨ t = 258 → h.get? t = some o → h'.get? t = some o) : Lw w mg mb h0 L0 m cm h' :=
  ⟨V.new, V.top, V.X.step st, ns_step V.F V.X.T st (by simp), fun i hi => by
    obtain ⟨o, e, d⟩ := V.cell i hi
    exact ⟨o, st.keep _ _ (by simp) (top_noTab (V.top _ (Nat.le_trans (Nat.le_succ _) (Nat.le_add_right _ _)))) e, d⟩, V.st.trans st, fun t ht c => q t _ ht (V.tq t ht c)⟩
theorem Lw.keep (V : Lw w mg mb h0 L0 m cm h) (k : KeepH h h') : Lw w mg mb h0 L0 m cm h' := V.step (.of_keep k) fun t o _ e => k _ _ e
theorem Lw.loc (V : Lw w mg mb h0 L0 m cm h) (sb : Heap.SameBut L0 h h') (hn : h'.Ns L0 m') : Lw w mg mb h0 L0 m' cm h' := by
  have st := stepH_same sb (top_noTab (V.top L0 (Nat.le_refl _)))
  refine ⟨V.new, V.top, V.X.stepW st (by simp [V.top L0 (Nat.le_refl _)]), hn, fun i hi => ?_, V.st.trans_new st (V.new _ (Nat.le_refl _)), fun t ht c => (sb.2 _ (fun q => top_noTab (V.top L0 (Nat.le_refl _)) (q ▸ tabs2 ht))).trans (V.tq t ht c)⟩
  obtain ⟨o, e, d⟩ := V.cell i hi
  refine ⟨o, (sb.2 _ ?_).trans e, d⟩
  exact addr1 L0 i
theorem Lw.put {j : Nat} {v : Option Value} (V : Lw w mg mb h0 L0 m cm h) (hj : j < 6) (sb : Heap.SameBut (L0 + 1 + j) h h') (hc : h'.IsCell (L0 + 1 + j) v) : Lw w mg mb h0 L0 m (fun i => if i = j then v else cm i) h' := by
  have hle : L0 ≤ L0 + 1 + j := Nat.le_trans (Nat.le_succ _) (Nat.le_add_right _ _)
  have st := stepH_same sb (top_noTab (V.top _ hle))
  refine ⟨V.new, V.top, V.X.stepW st (by simp [V.top _ hle]), ns_step V.F V.X.T st ?_, fun i hi => ?_, V.st.trans_new st (V.new _ hle), fun t ht c => (sb.2 _ (fun q => top_noTab (V.top _ hle) (q ▸ tabs2 ht))).trans (V.tq t ht (by have := c; rwa [if_neg (by omega)] at this))⟩
  · intro q
    simp only [List.mem_singleton] at q
    exact addr1 L0 j q.symm
  · by_cases hij : i = j
    · subst hij; rw [if_pos rfl]; exact hc
    · rw [if_neg hij]
      obtain ⟨o, e, d⟩ := V.cell i hi
      exact ⟨o, (sb.2 _ (fun q => hij (addr2 L0 i j q))).trans e, d⟩
theorem Lw.fr (V : Lw w mg mb h0 L0 m cm h) : Fr { objs := #[] } L0 h m := frNs V.F
end
section
variable {prog : Program} {w : World} {A : Around} {E : Value → Shared → Prop} {s : Shared} {env : Env}
theorem nm_cell {x : Str} {pos : Pos} {c : Addr} {v : Value} {Q : Value → Shared → Prop} (hc : s.heap.IsCell c (some v)) (h : Q v s)
    (hk : env.scope.kind = .function := by rfl) (hl : env.kindOf x = some .cell := by rfl) (hcl : env.cells.lookup x = some c := by rfl) (hd : (x == ("__debug__" : Str)) = false := by decide) :
    wpAny (model prog w) A (eval (.Name x pos) env) Q E s := wpAny_Name (wpAny_loadName_cell hk hl hcl hc h) hd
theorem st_cell {x : Str} {c : Addr} {v₀ : Option Value} {v : Value} {Q : Unit → Shared → Prop} (hc : s.heap.IsCell c v₀)
    (h : ∀ h', h'.IsCell c (some v) → Heap.SameBut c s.heap h' → Q () { s with heap := h' })
    (hk : env.scope.kind = .function := by rfl) (hl : env.kindOf x = some .cell := by rfl) (hcl : env.cells.lookup x = some c := by rfl) :
    wpAny (model prog w) A (storeName env x v) Q E s := wpAny_storeName_cell hk hl hcl hc h
theorem sum_lst {l : Addr} {vs : List Value} {ns : List Int} {Q : Value → Shared → Prop} (hh : A.handled = none) (hl : s.heap.IsList l vs.toArray) (hi : IntsAre vs ns)
    (h : ∀ h' tk t', KeepH s.heap h' → Q (.int ns.sum t') { s with heap := h', toks := tk }) : wpAny (model prog w) A (call (.builtin "sum") [.ref l]) Q E s := by
  obtain ⟨xs, hx⟩ := hi.allInts.items
  have hl' : s.heap.IsList l (intItems xs) := hx ▸ hl
  refine sum_intListG hh hl' fun h' tk t' hk => ?_
  have e1 : ns = xs.toList.map (·.1) := by
    rw [← nums_intItems, ← hx]
    exact (show numsOf vs.toArray.toList = ns from hi.numsOf).symm
  have e2 : preSum (numAt xs) xs.size = ns.sum := by
    rw [preSum_eq, List.take_of_length_le (by simp), e1]
  rw [e2]
  exact h h' tk t' hk
theorem ilst_sliceP {value slice : Expr} {l : Addr} {vs : Array Value} {vl vu : Value} {lo hi : Option Int} {ops : List Value} {Q : Value → Shared → Prop} (hl : s.heap.IsList l vs) (pl : IsPart vl lo) (pu : IsPart vu hi) (hsz : vs.size ≤ 1000)
    (h : ∀ h' D, KeepH s.heap h' → s.heap.get? D = none → LstAt h' D (slicePick vs lo hi none) → Q (.ref D) { s with heap := h' })
    (hs : subscripted slice false (.ref l) (.ref s.heap.objs.size) = operate ops (getItem (.ref l) (.ref s.heap.objs.size))) (ht : ∀ r, letTemporaryGo value (.ref l) r = pure ()) :
    wpAny (model prog w) A (subscriptTail value slice (.ref l) (.ref s.heap.objs.size)) Q E { s with heap := s.heap.push { cls := .type "slice", data := .fields #[vl, vu, .none] } } := by
  have k1 : KeepH s.heap (s.heap.push { cls := .type "slice", data := .fields #[vl, vu, .none] }) := fun b o e => Heap.get?_push_of_some _ e
  have hl1 := isl_on hl fun o e => k1 _ _ e
  refine subscriptTail_ops hl1.typeIs list_getitem_lookup (wpAny_getItem_list_slice hl1 (Heap.IsSliceOf.new ..) pl pu .none (by simp) ?_ (by rw [sizeLine_eq]; omega)) hs ht
  refine h _ _ (fun b o e => Heap.get?_push_of_some _ (k1 _ _ e)) (Heap.get?_none_of_le ?_) ⟨0, Heap.get?_push_size _ rfl⟩
  rw [Heap.size_push]; exact Nat.le_succ _
end
theorem m_law (P : Params) : FnAt' P 261 "law" "law" (stm 20) [] 260 .none := ⟨by kernel_rfl, by kernel_rfl, by kernel_rfl, by kernel_rfl⟩
noncomputable abbrev lawEnv (P : Params) (L0 : Addr) : Env := callEnvC (fdM "law" "law" (stm 20) [] (pmOf (obK 261 P)) (.ref 260) (ctOf (obK 261 P)) .none) L0 261
theorem cell_noList {h : Heap} {c : Addr} {v : Option Value} (F : h.IsCell c v) (vs : Array Value) : ¬ h.IsList c vs := fun i => by
  obtain ⟨o, eo, ed⟩ := F
  obtain ⟨o', eo', _, n', ed'⟩ := i
  rw [eo] at eo'; cases eo'; rw [ed] at ed'; cases ed'
theorem cell_noTuple {h : Heap} {c : Addr} {v : Option Value} (F : h.IsCell c v) (vs : Array Value) : ¬ h.IsTuple c vs := fun i => by
  obtain ⟨o, eo, ed⟩ := F
  obtain ⟨o', eo', _, n', ed'⟩ := i
  rw [eo] at eo'; cases eo'; rw [ed] at ed'; cases ed'
theorem fmod2 (a : Int) : a.fmod 2 = 0 ∨ a.fmod 2 = 1 := by
  have h0 := Int.fmod_nonneg_of_pos a (show (0 : Int) < 2 by decide)
  have h1 := Int.fmod_lt_of_pos a (show (0 : Int) < 2 by decide)
  omega
section
variable {w : World} {A : Around} {E : Value → Shared → Prop} {s : Shared} {mg mb : Str → Option Value} {h0 : Heap} {L0 : Addr}
theorem law_a {l : Addr} {vs : List Value} {ns : List Int} {cm : Nat → Option Value} {Q : Flow → Shared → Prop} (V : Lw w mg mb h0 L0 (fun x => if x = "script" then some (.ref l) else none) cm s.heap) (hh : A.handled = none) (hl : s.heap.IsList l vs.toArray) (hi : IntsAre vs ns) (hn : ns.length ≤ 63)
    (hu : A.units + 100 < cLine) (hT : (ns.take 24).sum.natAbs.log2 < 2 ^ 26)
    (hQ : ∀ h' tk' m' S t1 t2 t3 t4 b md gr wd, (b = 2 ∨ b = 3) → (md = b * 2 ∨ md = b * 3) → (gr = md * 2 ∨ gr = md * 3) → (wd = gr ∨ wd = gr * 2) →
      Lw w mg mb h0 L0 m' (fun i => if i = 1 then some (.ref S) else if i = 0 then some (.int wd t4) else cm i) h' → h'.IsList S #[.int b t1, .int md t2, .int gr t3] → h'.IsList l vs.toArray →
      m' "script" = some (.ref l) → (∃ t, m' "great" = some (.int gr t)) → (∃ t, m' "middle" = some (.int md t)) → (∃ t, m' "base" = some (.int b t)) →
      wpAny (model pw w) A (execs ((fBody (stm 20)).drop 6) (lawEnv w.params L0)) Q NoE { s with heap := h', toks := tk' }) :
    wpAny (model pw w) A (execs (fBody (stm 20)) (lawEnv w.params L0)) Q NoE s := by
  have hlen := hi.length
  obtain ⟨h, g, d, tk, os⟩ := s
  dsimp only at V hl hQ
  iterate 2 (walk1; (try dsimp only))
  refine Call_ ?_
  refine nm_builtin V.X.G.g (V.X.G.names.free _ (by simp)) V.X.G.b (V.X.G.bi "sum" _ (by decide) b_sum) ?_
  refine cw ?_
  iterate 8 (walk1; (try dsimp only))
  refine ilst_sliceP (s := ⟨h, g, d, _, os⟩) hl .none (.int 24 _) (by simp; omega) (fun h₁ D k1 n1 l1 => ?_) rfl (fun r => rfl)
  rw [show (some (24 : Int)) = some (((24 : Nat) : Int)) from rfl, slicePick_upto'] at l1
  replace hl := isl_on hl fun o e => k1 _ _ e
  replace V := V.keep k1
  clear k1 n1
  iterate 1 (walk1; (try dsimp only))
  refine ⟨⟨_, .inr (.inl rfl), keeper_builtin⟩, ?_⟩
  have hi24 : IntsAre (vs.take 24) (ns.take 24) := by
    have := slice_ints_uptoW hi (y := 24) (by decide)
    rw [show (some (24 : Int)) = some (((24 : Nat) : Int)) from rfl, slicePick_upto'] at this
    exact this
  refine sum_lst (s := ⟨h₁, g, d, _, os⟩) hh (l1.isList) hi24 (fun h₂ tk₂ t₂ k2 => ?_)
  replace hl := isl_on hl fun o e => k2 _ _ e
  replace V := V.keep k2
  clear k2 l1 hi24
  refine st_local (s := ⟨h₂, g, d, tk₂, os⟩) V.fr (fun h₃ F sb => ?_)
  replace hl := isl_on hl fun o e => (sb.2 _ (fun q => ns_noList V.F _ (q ▸ hl))).trans e
  replace V := V.loc sb F.ns
  clear F sb
  have ht2 : (ns.take 24).sum.fmod 2 = 0 ∨ (ns.take 24).sum.fmod 2 = 1 := fmod2 _
  have ht4 : ((ns.take 24).sum.fdiv 2).fmod 2 = 0 ∨ ((ns.take 24).sum.fdiv 2).fmod 2 = 1 := fmod2 _
  have ht8 : ((ns.take 24).sum.fdiv 4).fmod 2 = 0 ∨ ((ns.take 24).sum.fdiv 4).fmod 2 = 1 := fmod2 _
  have ht16 : ((ns.take 24).sum.fdiv 8).fmod 2 = 0 ∨ ((ns.take 24).sum.fdiv 8).fmod 2 = 1 := fmod2 _
  generalize hTe : (ns.take 24).sum = T at *
  iterate 9 (walk1; (try dsimp only))
  have hb : 2 + T.fmod 2 = 2 ∨ 2 + T.fmod 2 = 3 := by omega
  generalize 2 + T.fmod 2 = b at hb ⊢
  refine st_local (s := ⟨h₃, g, d, _, os⟩) V.fr (fun h₄ F sb => ?_)
  replace hl := isl_on hl fun o e => (sb.2 _ (fun q => ns_noList V.F _ (q ▸ hl))).trans e
  replace V := V.loc sb F.ns
  clear F sb
  iterate 15 (walk1; (try dsimp only))
  have hmd : b * (2 + (T.fdiv 2).fmod 2) = b * 2 ∨ b * (2 + (T.fdiv 2).fmod 2) = b * 3 := by rcases ht4 with e | e <;> simp [e]
  generalize b * (2 + (T.fdiv 2).fmod 2) = md at hmd ⊢
  refine st_local (s := ⟨h₄, g, d, _, os⟩) V.fr (fun h₅ F sb => ?_)
  replace hl := isl_on hl fun o e => (sb.2 _ (fun q => ns_noList V.F _ (q ▸ hl))).trans e
  replace V := V.loc sb F.ns
  clear F sb
  iterate 15 (walk1; (try dsimp only))
  have hgr : md * (2 + (T.fdiv 4).fmod 2) = md * 2 ∨ md * (2 + (T.fdiv 4).fmod 2) = md * 3 := by rcases ht8 with e | e <;> simp [e]
  generalize md * (2 + (T.fdiv 4).fmod 2) = gr at hgr ⊢
  refine st_local (s := ⟨h₅, g, d, _, os⟩) V.fr (fun h₆ F sb => ?_)
  replace hl := isl_on hl fun o e => (sb.2 _ (fun q => ns_noList V.F _ (q ▸ hl))).trans e
  replace V := V.loc sb F.ns
  clear F sb
  iterate 15 (walk1; (try dsimp only))
  have hwd : gr * (1 + (T.fdiv 8).fmod 2) = gr ∨ gr * (1 + (T.fdiv 8).fmod 2) = gr * 2 := by rcases ht16 with e | e <;> simp [e]
  generalize gr * (1 + (T.fdiv 8).fmod 2) = wd at hwd ⊢
  refine st_cell (s := ⟨h₆, g, d, _, os⟩) (c := L0 + 1 + 0) (V.cell 0 (by decide)) (fun h₇ hc sb => ?_)
  replace hl := isl_on hl fun o e => (sb.2 _ (fun q => cell_noList (V.cell 0 (by decide)) _ (q ▸ hl))).trans e
  replace V := V.put (by decide) sb hc
  clear sb hc
  iterate 10 (walk1; (try dsimp only))
  refine new_lst (s := ⟨h₇, g, d, _, os⟩) (by simp) (fun h₈ S k8 n8 l8 => ?_)
  replace hl := isl_on hl fun o e => k8 _ _ e
  replace V := V.keep k8
  clear k8 n8
  refine st_cell (s := ⟨h₈, g, d, _, os⟩) (c := L0 + 1 + 1) (V.cell 1 (by decide)) (fun h₉ hc sb => ?_)
  replace hl := isl_on hl fun o e => (sb.2 _ (fun q => cell_noList (V.cell 1 (by decide)) _ (q ▸ hl))).trans e
  replace l8 := isl_on l8 fun o e => (sb.2 _ (fun q => cell_noList (V.cell 1 (by decide)) _ (q ▸ l8))).trans e
  replace V := V.put (by decide) sb hc
  clear sb hc
  exact hQ h₉ _ _ S _ _ _ _ b md gr wd hb hmd hgr hwd V l8 hl (by rfl) ⟨_, by rfl⟩ ⟨_, by rfl⟩ ⟨_, by rfl⟩
end
end Mine
end
section
open PySem PySem.W PyProof.Rows PySem.Calls
set_option maxRecDepth 100000
set_option maxHeartbeats 1600000
set_option Elab.async false
set_option linter.unusedVariables false
namespace Mine
noncomputable def szF (b md gr x : Int) : Int := if x.fmod 3 = 0 then b else if x.fmod 3 = 1 then md else gr
noncomputable def wdF (b md gr x : Int) : Str := wordF ((x.fdiv 3).fmod 4) ((x.fdiv 12).fmod 13) (szF b md gr x - 1)
theorem fmod3 (a : Int) : a.fmod 3 = 0 ∨ a.fmod 3 = 1 ∨ a.fmod 3 = 2 := by
  have h0 := Int.fmod_nonneg_of_pos a (show (0 : Int) < 3 by decide)
  have h1 := Int.fmod_lt_of_pos a (show (0 : Int) < 3 by decide)
  omega
noncomputable def PairG (h : Heap) (y : Value) (sz : Int) (wd : Str) : Prop := ∃ T u u', y = .ref T ∧ h.IsTuple T #[.int sz u, .str wd u']
theorem PairG.on {h h' : Heap} {y : Value} {sz : Int} {wd : Str} (x : PairG h y sz wd) (k : KeepTup h h') : PairG h' y sz wd := let ⟨T, u, u', e, t⟩ := x; ⟨T, u, u', e, k _ _ t⟩
theorem lc_srcL {prog : Program} {w : World} {A : Around} {env : Env} {scope : Scope} {cl : List (Str × Addr)} {target elt : Expr} {ifs : List Expr} {G : Nat → Value → Heap → Prop} {pk : Nat → Bool} {I l : Addr} {items : Array Value} {n : Nat} {s₂ : Shared}
    (hh : A.handled = none) (it : s₂.heap.IsListIter I l 0) (hl : s₂.heap.IsList l items) (hn : items.size = n) (hsz : n ≤ 1000)
    (body : ∀ C i v h' tk m₃ E', i < n → s₂.heap.get? C = none → items[i]? = some v → h'.IsListIter I l (i + 1) → h'.Ns C m₃ → (∀ b o, b ≠ I → s₂.heap.get? b = some o → h'.get? b = some o) →
      LcBody prog w A (compEnvC scope cl C env) C I target elt ifs v (pk i) (G i) E' { s₂ with heap := h', toks := tk }) : LcSrc prog w A env scope cl target elt ifs G pk I n s₂ := by
  subst hn
  have hDI : l ≠ I := fun q => by obtain ⟨o', e, c', _⟩ := hl; obtain ⟨o, eo, c, _⟩ := it; rw [q, eo] at e; cases e; rw [c'] at c; simp at c
  refine ⟨⟨_, _, _, Walks.list hh I l hDI items, fun i h st vs t => ?_, ⟨it, hl⟩, fun b hb => ?_, fun C i v h' tk m₃ E' hi hC hP hst hN hk => body C i v h' tk m₃ E' hi hC hP hst.1 hN hk⟩, hsz⟩
  · obtain ⟨o, eo, co, _⟩ := st.1
    obtain ⟨o', eo', c', _⟩ := t
    rw [eo] at eo'; cases eo'; rw [co] at c'; simp at c'
  · simp only [List.mem_cons, List.not_mem_nil, or_false] at hb
    rcases hb with rfl | rfl
    · obtain ⟨_, e, _⟩ := it; exact Heap.lt_size e
    · obtain ⟨_, e, _⟩ := hl; exact Heap.lt_size e
theorem stepI {I : Addr} {h h' : Heap} (hT : I ∉ Tabs) (hk : ∀ b o, b ≠ I → h.get? b = some o → h'.get? b = some o) : StepH [I] h h' :=
  ⟨fun b o hb _ e => hk b o (by simpa using hb) e, fun t ht ps e o => ⟨#[], by rw [Array.append_empty]; exact hk t _ (fun q => hT (q ▸ ht)) e, by rw [Array.append_empty]; exact o⟩⟩
theorem range_getD (xs : List Int) : (List.range xs.length).map (fun i => xs.getD i 0) = xs := by
  apply List.ext_getElem
  · simp
  · intro i h1 h2
    simp at h1
    simp [h1]
theorem new_llst {M : Model} {A : Around} {E : Value → Shared → Prop} {s : Shared} {vs : List Value} {Q : Value → Shared → Prop} (hs : vs.length ≤ 1000) (h : ∀ h' T, KeepH s.heap h' → s.heap.get? T = none → LstAt h' T vs.toArray → Q (.ref T) { s with heap := h' }) : wpAny M A (newList vs) Q E s :=
  wpAny_newList (items := vs) (h _ _ (fun b o e => Heap.get?_push_of_some _ e) (Heap.get?_none_of_le (Nat.le_refl _)) ⟨0, Heap.get?_push_size _ rfl⟩) (by rw [sizeLine_eq]; omega)
theorem new_lints {M : Model} {A : Around} {E : Value → Shared → Prop} {s : Shared} {vs : List Value} {ns : List Int} {Q : Value → Shared → Prop} (hi : IntsAre vs ns) (hs : vs.length ≤ 1000)
    (h : ∀ h' T vs', KeepH s.heap h' → s.heap.get? T = none → LstAt h' T vs'.toArray → IntsAre vs' ns → Q (.ref T) { s with heap := h' }) : wpAny M A (newList vs) Q E s :=
  new_llst hs fun h' T k n l => h h' T vs k n l hi
theorem add_lists {w : World} {A : Around} {E : Value → Shared → Prop} {s : Shared} {a b : Addr} {xs ys : Array Value} {Q : Value → Shared → Prop} (ha : LstAt s.heap a xs) (hb : LstAt s.heap b ys) (hsz : xs.size + ys.size ≤ 1000)
    (h : ∀ h' D, KeepH s.heap h' → s.heap.get? D = none → LstAt h' D (xs ++ ys) → Q (.ref D) { s with heap := h' }) : wpAny (model pw w) A (binaryOp .Add (.ref a) (.ref b)) Q E s := by
  obtain ⟨c1, e1⟩ := ha
  obtain ⟨c2, e2⟩ := hb
  exact P.add_list e1 e2 (h _ _ (fun b o e => Heap.get?_push_of_some _ e) (Heap.get?_none_of_le (Nat.le_refl _)) ⟨0, Heap.get?_push_size _ rfl⟩) (by rw [sizeLine_eq]; omega)
theorem iter_lst {w : World} {A : Around} {E : Value → Shared → Prop} {s : Shared} {l : Addr} {xs : Array Value} {Q : Value → Shared → Prop} (hl : s.heap.IsList l xs)
    (h : ∀ h' I, KeepH s.heap h' → s.heap.get? I = none → h'.IsListIter I l 0 → I < h'.objs.size → Q (.ref I) { s with heap := h' }) : wpAny (model pw w) A (pyIter (.ref l)) Q E s :=
  wpAny_pyIter_list hl (h _ _ (fun b o e => Heap.get?_push_of_some _ e) (Heap.get?_none_of_le (Nat.le_refl _)) ⟨_, Heap.get?_push_size _ rfl, rfl, rfl⟩ (by rw [Heap.size_push]; exact Nat.lt_succ_self _))
section
variable {w : World} {A : Around} {E : Value → Shared → Prop} {s : Shared} {mg mb : Str → Option Value} {h0 : Heap} {L0 : Addr}
theorem law_b {l S : Addr} {vs : List Value} {ns : List Int} {cm : Nat → Option Value} {m : Str → Option Value} {t1 t2 t3 : Tok} {b md gr : Int} {Q : Flow → Shared → Prop} (V : Lw w mg mb h0 L0 m cm s.heap) (r : NearR A 20 200)
    (hm : m "script" = some (.ref l)) (hcm : cm 1 = some (.ref S)) (hl : s.heap.IsList l vs.toArray) (hi : IntsAre vs ns) (hn : ns.length ≤ 63) (hS : s.heap.IsList S #[.int b t1, .int md t2, .int gr t3])
    (hb : b = 2 ∨ b = 3) (hmd : md = b * 2 ∨ md = b * 3) (hgr : gr = md * 2 ∨ gr = md * 3) (hx : ∀ x ∈ ns, x.natAbs.log2 < 2 ^ 26)
    (hQ : ∀ h' tk' D ys xs, xs = ns.take 12 ++ [5, 2, 4, 0, 10, 7] → h'.PlainList D ys → Paired (fun x y => PairG h' y (szF b md gr x) (wdF b md gr x)) xs ys.toList → Lw w mg mb h0 L0 m (fun i => if i = 2 then some (.ref D) else cm i) h' →
      wpAny (model pw w) A (execs ((fBody (stm 20)).drop 7) (lawEnv w.params L0)) Q NoE { s with heap := h', toks := tk' }) :
    wpAny (model pw w) A (execs ((fBody (stm 20)).drop 6) (lawEnv w.params L0)) Q NoE s := by
  have hlen := hi.length
  obtain ⟨h, g, d, tk, os⟩ := s
  dsimp only at V hl hQ hS
  obtain ⟨xs, hxs⟩ : ∃ xs : List Int, xs = ns.take 12 ++ [5, 2, 4, 0, 10, 7] := ⟨_, rfl⟩
  iterate 2 (walk1; (try dsimp only))
  refine lc_gen (G := fun i y h => PairG h y (szF b md gr (xs.getD i 0)) (wdF b md gr (xs.getD i 0))) (pk := fun _ => true) (cl := [("sizes", L0 + 1 + 1)]) rfl (by decide) rfl (by decide) (fun i y h h' g k => g.on k) ?_
  iterate 8 (walk1; (try dsimp only))
  refine ilst_sliceP (s := ⟨h, g, d, _, os⟩) hl .none (.int 12 _) (by simp; omega) (fun h₁ D k1 n1 l1 => ?_) rfl (fun r => rfl)
  rw [show (some (12 : Int)) = some (((12 : Nat) : Int)) from rfl, slicePick_upto'] at l1
  have hi12 : IntsAre (vs.take 12) (ns.take 12) := by
    have := slice_ints_uptoW hi (y := 12) (by decide)
    rw [show (some (12 : Int)) = some (((12 : Nat) : Int)) from rfl, slicePick_upto'] at this
    exact this
  replace hS := isl_on hS fun o e => k1 _ _ e
  replace V := V.keep k1
  clear k1 n1
  iterate 14 (walk1; (try dsimp only))
  refine new_lints (ns := [5, 2, 4, 0, 10, 7]) (s := ⟨h₁, g, d, _, os⟩) (.cons _ _ (.cons _ _ (.cons _ _ (.cons _ _ (.cons _ _ (.cons _ _ .nil)))))) (by simp) (fun h₂ D2 us k2 n2 l2 hi6 => ?_)
  replace l1 := l1.on fun o e => k2 _ _ e
  replace hS := isl_on hS fun o e => k2 _ _ e
  replace V := V.keep k2
  clear k2 n2
  have hl12 := hi12.length
  have hl6 := hi6.length
  refine add_lists (s := ⟨h₂, g, d, _, os⟩) l1 l2 (by simp at hl6 ⊢; omega) (fun h₃ D3 k3 n3 l3 => ?_)
  have hix : IntsAre (vs.take 12 ++ us) xs := by rw [hxs]; exact hi12.append hi6
  replace l3 : LstAt h₃ D3 (vs.take 12 ++ us).toArray := by simpa using l3
  replace hS := isl_on hS fun o e => k3 _ _ e
  replace V := V.keep k3
  clear k3 n3 l1 l2
  generalize vs.take 12 ++ us = zs at hix l3
  have hlz := hix.length
  have hx18 : xs.length ≤ 18 := by rw [hxs]; simp; omega
  refine iter_lst (s := ⟨h₃, g, d, _, os⟩) l3.isList (fun h₄ I k4 n4 i4 b4 => ?_)
  replace l3 := l3.on fun o e => k4 _ _ e
  replace hS := isl_on hS fun o e => k4 _ _ e
  have hDI : D3 ≠ I := fun q => by obtain ⟨_, e⟩ := l3; obtain ⟨o, eo, c, _⟩ := i4; rw [q, eo] at e; cases e; simp at c
  have hSI : S ≠ I := fun q => by obtain ⟨o', e, c', _⟩ := hS; obtain ⟨o, eo, c, _⟩ := i4; rw [q, eo] at e; cases e; rw [c'] at c; simp at c
  have V4 := V.keep k4
  have keep4 : ∀ h' : Heap, (∀ b o, b ≠ I → h₄.get? b = some o → h'.get? b = some o) → KeepH h₃ h' := fun h' hk b o e => hk b o (fun q => by rw [q, n4] at e; cases e) (k4 _ _ e)
  refine ⟨I, xs.length, rfl, lc_srcL r.handled i4 l3.isList (by simp [hlz]) (by omega) (fun C i v h' tk m₃ E' hi' hC hP hst hN hk => ?_), fun D h' tk ys hD hF hP hk => ?_⟩
  · obtain ⟨ti, hv⟩ := hix.get i xs[i] (by simp [hi'])
    have hv' : v = .int xs[i] ti := by
      have : zs[i]? = some v := by simpa using hP
      rw [hv] at this; exact (Option.some.inj this).symm
    subst hv'
    have hget : xs.getD i 0 = xs[i] := by simp [hi']
    have X' : Ctx0 w mg mb h' := (V.keep (keep4 h' hk)).X
    have hcell : h'.IsCell (L0 + 1 + 1) (some (.ref S)) := by have := (V.keep (keep4 h' hk)).cell 1 (by decide); rw [hcm] at this; exact this
    have hS' : h'.IsList S #[.int b t1, .int md t2, .int gr t3] := isl_on hS fun o e => hk _ _ hSI e
    have hxi : xs[i].natAbs.log2 < 2 ^ 26 := by
      have : ∀ x ∈ xs, x.natAbs.log2 < 2 ^ 26 := by
        rw [hxs]; intro x hx'
        simp only [List.mem_append] at hx'
        rcases hx' with hx' | hx'
        · exact hx x (List.mem_of_mem_take hx')
        · simp only [List.mem_cons, List.not_mem_nil, or_false] at hx'
          rcases hx' with rfl | rfl | rfl | rfl | rfl | rfl <;> decide +kernel
      exact this _ (by simp)
    rw [hget]
    generalize xs[i] = x at hxi ⊢
    unfold LcBody
    refine wpAny_of_eq (show letOwnedTupleGo (.Name "x" _) (.ref I) (.int x ti) = pure () from rfl) ?_
    refine wpAny_assign_Name ?_
    refine st_local (s := ⟨h', g, d, tk, os⟩) (frNs hN) (fun h₅ F sb => ?_)
    have sb : Heap.SameBut C h' h₅ := sb
    have hCT : C ∉ Tabs := fun q => by obtain ⟨o, es, ep, eo, ed, _⟩ := hN; obtain ⟨pp, e, _⟩ := X'.T _ q; rw [eo] at e; cases e; cases ed
    have hCtop : Top w.params C = false := top_new (V.keep k4).X hC
    have X5 : Ctx0 w mg mb h₅ := X'.stepW (stepH_same sb hCT) (by simp [hCtop])
    replace hcell : h₅.IsCell (L0 + 1 + 1) (some (.ref S)) := by
      obtain ⟨o, e, dd⟩ := hcell
      exact ⟨o, (sb.2 _ (fun q => by obtain ⟨o', es, ep, eo, ed, _⟩ := hN; rw [q] at e; rw [e] at eo; cases eo; rw [dd] at ed; cases ed)).trans e, dd⟩
    replace hS' : h₅.IsList S #[.int b t1, .int md t2, .int gr t3] := isl_on hS' fun o e => (sb.2 _ (fun q => ns_noList hN _ (q ▸ hS'))).trans e
    have hN5 := F.ns
    clear F hcm hi12 hix hi6 hP hst
    refine wpAny_tests_nil ⟨rfl, ?_⟩
    rw [if_pos rfl]
    have hword : mg "_law_word" = some (.ref 242) := X5.G.names.word
    have hsz : ∃ t, (#[.int b t1, .int md t2, .int gr t3] : Array Value)[(x.fmod 3).toNat]? = some (.int (szF b md gr x) t) := by
      unfold szF
      rcases fmod3 x with e | e | e <;> rw [e] <;> exact ⟨_, rfl⟩
    obtain ⟨tz, hsz⟩ := hsz
    have hf0 : 0 ≤ x.fmod 3 := by rcases fmod3 x with e | e | e <;> rw [e] <;> decide
    have hf1 : x.fmod 3 < 2 ^ 63 := by rcases fmod3 x with e | e | e <;> rw [e] <;> decide
    have hsb : 2 ≤ szF b md gr x ∧ szF b md gr x ≤ 27 := by
      obtain ⟨z1, z2, z3⟩ := tri2 hb hmd hgr
      unfold szF; split <;> (try split) <;> first | exact z1 | exact z2 | exact z3
    iterate 8 (walk1; (try dsimp only))
    refine item_listR (s := ⟨h₅, g, d, _, os⟩) hS' hf0 hf1 hsz ?_
    iterate 1 (walk1; (try dsimp only))
    refine Call_ ?_
    iterate 1 (walk1; (try dsimp only))
    refine cw ?_
    iterate 10 (walk1; (try dsimp only))
    refine item_listR (s := ⟨h₅, g, d, _, os⟩) hS' hf0 hf1 hsz ?_
    iterate 3 (walk1; (try dsimp only))
    refine ⟨X5.G.keepFn X5.G.f_word, ?_⟩
    refine word_spec (s := ⟨h₅, g, d, _, os⟩) X5.G (r.room.less (by omega) (by omega)) hxi (by omega) (by omega) (fun s₆ u₆ kp => ?_)
    obtain ⟨h₆, tk₆, rfl, k₆⟩ := kp
    dsimp only at k₆
    iterate 1 (walk1; (try dsimp only))
    refine new_tup (s := ⟨h₆, g, d, _, os⟩) (by simp) (fun h₇ T k7 n7 t7 => ?_)
    exact ⟨⟨T, _, _, rfl, t7⟩, h₇, _, _, rfl, fun b o hb e => k7 _ _ (k₆ _ _ ((sb.2 b hb).trans e)), hN5.keeps fun b o e => k7 _ _ (k₆ _ _ e), trivial⟩
  · have k5 := keep4 h' hk
    replace V := V.keep k5
    dsimp only
    refine st_cell (s := ⟨h', g, d, tk, os⟩) (c := L0 + 1 + 2) (V.cell 2 (by decide)) (fun h₆ hc sb => ?_)
    have hN6 := V.cell 2 (by decide)
    replace V := V.put (by decide) sb hc
    have hF6 : Paired (fun i y => PairG h₆ y (szF b md gr (xs.getD i 0)) (wdF b md gr (xs.getD i 0))) (List.range xs.length) ys.toList := by
      rw [show (List.range xs.length).filter (fun _ => true) = List.range xs.length by simp] at hP
      exact paired_mono (fun a b g => g.on fun c vs t => tup_on t fun o e => (sb.2 _ (fun q => cell_noTuple hN6 vs (q ▸ t))).trans e) hP
    have hP6 : h₆.PlainList D ys := by
      obtain ⟨nn, e⟩ := hF
      exact ⟨nn, (sb.2 _ (fun q => cell_noList hN6 ys (q ▸ ⟨_, e, rfl, _, rfl⟩))).trans e⟩
    refine hQ h₆ _ D ys xs hxs hP6 ?_ V
    have := paired_map (F := fun x y => PairG h₆ y (szF b md gr x) (wdF b md gr x)) (fun i => xs.getD i 0) hF6
    rw [show (List.range xs.length).map (fun i => xs.getD i 0) = xs from range_getD xs] at this
    exact this
end
end Mine
end
section
open PySem PySem.W PyProof.Rows PySem.Calls
set_option maxRecDepth 100000
set_option maxHeartbeats 1600000
set_option Elab.async false
set_option linter.unusedVariables false
namespace Mine
noncomputable def PairsAt (h : Heap) (D : Addr) (ds : List (Int × Str)) : Prop := ∃ ys, h.PlainList D ys ∧ Paired (fun p y => PairG h y p.1 p.2) ds ys.toList
theorem PairsAt.on {h h' : Heap} {D : Addr} {ds : List (Int × Str)} (x : PairsAt h D ds) (k : ∀ o, h.get? D = some o → h'.get? D = some o) (kt : KeepTup h h') : PairsAt h' D ds :=
  let ⟨ys, ⟨n, e⟩, p⟩ := x; ⟨ys, ⟨n, k _ e⟩, paired_mono (fun a b g => g.on kt) p⟩
theorem keepH_tup {h h' : Heap} (k : KeepH h h') : KeepTup h h' := fun b vs t => tup_on t fun o e => k _ _ e
theorem PairsAt.keep {h h' : Heap} {D : Addr} {ds : List (Int × Str)} (x : PairsAt h D ds) (k : KeepH h h') : PairsAt h' D ds := x.on (fun o e => k _ _ e) (keepH_tup k)
theorem PairsAt.cell {h h' : Heap} {c D : Addr} {v : Option Value} {ds : List (Int × Str)} (x : PairsAt h D ds) (hc : h.IsCell c v) (sb : Heap.SameBut c h h') : PairsAt h' D ds := by
  obtain ⟨ys, ⟨n, e⟩, p⟩ := x
  have e' : h'.get? D = _ := (sb.2 D (fun q => cell_noList hc ys (q ▸ ⟨_, e, rfl, _, rfl⟩))).trans e
  exact ⟨ys, ⟨n, e'⟩, paired_mono (fun a b g => g.on fun b vs t => tup_on t fun o e => (sb.2 b (fun q => cell_noTuple hc vs (q ▸ t))).trans e) p⟩
theorem PairsAt.ns {h h' : Heap} {L D : Addr} {m : Str → Option Value} {ds : List (Int × Str)} (x : PairsAt h D ds) (hc : h.Ns L m) (sb : Heap.SameBut L h h') : PairsAt h' D ds := by
  obtain ⟨ys, ⟨n, e⟩, p⟩ := x
  have e' : h'.get? D = _ := (sb.2 D (fun q => ns_noList hc ys (q ▸ ⟨_, e, rfl, _, rfl⟩))).trans e
  exact ⟨ys, ⟨n, e'⟩, paired_mono (fun a b g => g.on (kt_same hc sb)) p⟩
theorem paired_get {α β : Type} {F : α → β → Prop} : ∀ {l₁ : List α} {l₂ : List β}, Paired F l₁ l₂ → ∀ i (h : i < l₁.length), ∃ b, l₂[i]? = some b ∧ F l₁[i] b
  | _, _, .cons a t, 0, _ => ⟨_, rfl, a⟩
  | _, _, .cons a t, i + 1, h => by
    obtain ⟨b, e, f⟩ := paired_get t i (by simpa using h)
    exact ⟨b, by simpa using e, by simpa using f⟩
noncomputable def dueF (gr md b : Int) (ds : List (Int × Str)) : List (Int × Str) := ds.filter (fun p => p.1 == gr) ++ ds.filter (fun p => p.1 == md) ++ ds.filter (fun p => p.1 == b)
theorem filter_range {ds : List (Int × Str)} (f : Int × Str → Bool) (d : Int × Str) : ((List.range ds.length).filter (fun i => f (ds.getD i d))).map (fun i => ds.getD i d) = ds.filter f := by
  rw [show ds.filter f = ((List.range ds.length).map (fun i => ds.getD i d)).filter f by
    congr 1
    apply List.ext_getElem
    · simp
    · intro i h1 h2
      simp [h1]]
  rw [List.filter_map]
  rfl
section
variable {w : World} {A : Around} {E : Value → Shared → Prop} {s : Shared} {mg mb : Str → Option Value} {h0 : Heap} {L0 : Addr}
theorem law_c {D : Addr} {ds : List (Int × Str)} {cm : Nat → Option Value} {m : Str → Option Value} {b md gr : Int} {u1 u2 u3 : Tok} {Q : Flow → Shared → Prop} (V : Lw w mg mb h0 L0 m cm s.heap) (r : NearR A 20 200)
    (m1 : m "great" = some (.int gr u1)) (m2 : m "middle" = some (.int md u2)) (m3 : m "base" = some (.int b u3)) (hcm : cm 2 = some (.ref D)) (hD : PairsAt s.heap D ds) (hn : ds.length ≤ 100)
    (hQ : ∀ h' tk' D2, PairsAt h' D2 (dueF gr md b ds) → PairsAt h' D ds → Lw w mg mb h0 L0 m (fun i => if i = 3 then some (.ref D2) else cm i) h' →
      wpAny (model pw w) A (execs ((fBody (stm 20)).drop 8) (lawEnv w.params L0)) Q NoE { s with heap := h', toks := tk' }) :
    wpAny (model pw w) A (execs ((fBody (stm 20)).drop 7) (lawEnv w.params L0)) Q NoE s := by
  obtain ⟨h, g, d, tk, os⟩ := s
  dsimp only at V hD hQ
  obtain ⟨ys, hP, hF⟩ := hD
  iterate 2 (walk1; (try dsimp only))
  rw [eval_ListComp]
  refine wpAny_comprehension_free (use := none) (cl := [("drawn", L0 + 1 + 2)]) rfl (fun x => rfl) rfl rfl (by decide) ?_
  simp only [firstIter]
  iterate 8 (walk1; (try dsimp only))
  refine new_lints (ns := [gr, md, b]) (s := ⟨h, g, d, _, os⟩) (.cons _ _ (.cons _ _ (.cons _ _ .nil))) (by simp) (fun h₁ l0 us k1 n1 l1 hi3 => ?_)
  refine iter_lst (s := ⟨h₁, g, d, _, os⟩) l1.isList (fun h₂ I k2 n2 i2 b2 => ?_)
  have k12 : KeepH h h₂ := fun b o e => k2 _ _ (k1 _ _ e)
  have hl3 := hi3.length
  have l2 := l1.on fun o e => k2 _ _ e
  have hP2 : h₂.PlainList D ys := let ⟨n, e⟩ := hP; ⟨n, k12 _ _ e⟩
  have hF2 := paired_mono (fun a b g => PairG.on g (keepH_tup k12)) hF
  have hlen := hF.length
  have hsz : ys.size = ds.length := by simpa using hlen.symm
  have hlI : l0 ≠ I := fun q => by obtain ⟨_, e⟩ := l1; rw [q, n2] at e; cases e
  have hDI : D ≠ I := fun q => by obtain ⟨_, e⟩ := hP; rw [q] at e; rw [k1 _ _ e] at n2; cases n2
  have W := Walks.list (prog := pw) (w := w) (A := A) r.handled I l0 hlI us.toArray
  rw [show us.toArray.size = 3 by simpa using hl3] at W
  have keep2 : ∀ h' : Heap, (∀ b o, b ≠ I → h₂.get? b = some o → h'.get? b = some o) → KeepH h₁ h' := fun h' hk b o e => hk b o (fun q => by rw [q, n2] at e; cases e) (k2 _ _ e)
  have V1 := V.keep k1
  refine lc_two (I0 := I) (l2 := D) (N := 3) (items2 := ys) (pk := fun j i => (ds.getD i (0, "")).1 == [gr, md, b].getD j 0) (G := fun j i y h => PairG h y (ds.getD i (0, "")).1 (ds.getD i (0, "")).2)
    (Mj := fun j m => ∃ t, m "size" = some (.int ([gr, md, b].getD j 0) t)) (s₂ := ⟨h₂, g, d, _, os⟩) r.handled (fun j i y h h' g k => g.on k) (by decide) rfl (fun env x => rfl) W (fun i h st vs t => ?_) ⟨i2, l2.isList⟩ (fun b hb => ?_) hP2.isList hDI (by omega) (by omega)
    (fun C j v h' tk m₃ E' hj hC hv hN hk => ?_) (fun C j i v I2 h' tk m₃ E' hj hi hC hv hN hM hit hk => ?_) (fun D2 h' tk ys2 hD2 hP3 hF3 hk => ?_)
  · obtain ⟨o, eo, co, _⟩ := st.1
    obtain ⟨o', eo', c', _⟩ := t
    rw [eo] at eo'; cases eo'; rw [co] at c'; simp at c'
  · simp only [List.mem_cons, List.not_mem_nil, or_false] at hb
    rcases hb with rfl | rfl
    · exact b2
    · obtain ⟨_, e⟩ := l2; exact Heap.lt_size e
  · have V' := V1.keep (keep2 h' hk)
    have hcell : h'.IsCell (L0 + 1 + 2) (some (.ref D)) := by have := V'.cell 2 (by decide); rw [hcm] at this; exact this
    obtain ⟨tj, hj'⟩ := hi3.get j ([gr, md, b].getD j 0) (by rcases j with _ | _ | _ | j <;> first | rfl | omega)
    have hv' : v = .int ([gr, md, b].getD j 0) tj := by
      have : us[j]? = some v := by simpa using hv
      rw [hj'] at this; exact (Option.some.inj this).symm
    subst hv'
    refine wpAny_of_eq (show letOwnedTupleGo (.Name "size" _) (.ref I) _ = pure () from rfl) ?_
    refine wpAny_assign_Name ?_
    refine st_local (s := ⟨h', g, d, tk, os⟩) (frNs hN) (fun h₅ F sb => ?_)
    have sb : Heap.SameBut C h' h₅ := sb
    replace hcell : h₅.IsCell (L0 + 1 + 2) (some (.ref D)) := by
      obtain ⟨o, e, dd⟩ := hcell
      exact ⟨o, (sb.2 _ (fun q => by obtain ⟨o', es, ep, eo, ed, _⟩ := hN; rw [q] at e; rw [e] at eo; cases eo; rw [dd] at ed; cases ed)).trans e, dd⟩
    refine nm_cell hcell ?_
    exact ⟨rfl, h₅, _, _, rfl, fun b o hb e => (sb.2 b hb).trans e, F.ns, tj, if_pos rfl⟩
  · have V' := V1.keep (keep2 h' hk)
    have hids : i < ds.length := by omega
    obtain ⟨y, hy, T, q, q', rfl, ht⟩ := paired_get hF2 i hids
    have hv' : v = .ref T := by
      have : ys.toList[i]? = some v := by simpa using hv
      rw [hy] at this; exact (Option.some.inj this).symm
    subst hv'
    have hget : ds.getD i (0, "") = ds[i] := by simp [hids]
    rw [hget]
    have ht' : h'.IsTuple T #[.int ds[i].1 q, .str ds[i].2 q'] := tup_on ht fun o e => hk _ _ (fun q => by
      obtain ⟨o', eo', c', _⟩ := ht
      obtain ⟨o2, e2, c2, _⟩ := i2
      rw [q, e2] at eo'; cases eo'; rw [c2] at c'; simp at c') e
    generalize ds[i] = p at ht' ⊢
    obtain ⟨ts, hM⟩ := hM
    generalize [gr, md, b].getD j 0 = sz at hM ⊢
    unfold LcBody
    refine wpAny_of_eq (show letOwnedTupleGo (.Name "pair" _) (.ref I2) _ = pure () from rfl) ?_
    refine wpAny_assign_Name ?_
    refine st_local (s := ⟨h', g, d, tk, os⟩) (frNs hN) (fun h₅ F sb => ?_)
    have sb : Heap.SameBut C h' h₅ := sb
    have hN5 := F.ns
    clear F
    have ht5 : h₅.IsTuple T #[.int p.1 q, .str p.2 q'] := kt_same hN sb _ _ ht'
    refine wpAny_tests_one ?_
    iterate 4 (walk1; (try dsimp only))
    refine subscriptTail_builtinR (x := .int p.1 q) (s := ⟨h₅, g, d, _, os⟩) (T := "tuple") (let ⟨o, e, c, _⟩ := ht5; ⟨o, e, c⟩) slot_tuple_getitem.lookup (getItem_tuple (j := 0) (x := .int p.1 q) (s := ⟨h₅, g, d, _, os⟩) ht5 (by decide) (by decide) (by rfl) (by rfl) ⟨rfl, ?_⟩)
    refine nm_local (frNs hN5) (v := .int sz ts) ((if_neg (by decide)).trans hM) ?_
    iterate 2 (walk1; (try dsimp only))
    refine ⟨rfl, ?_⟩
    split
    · refine nm_local (s := ⟨h₅, g, d, _, os⟩) (frNs hN5) (v := .ref T) (if_pos rfl) ?_
      exact ⟨⟨T, q, q', rfl, ht5⟩, h₅, _, _, rfl, fun b o hb e => (sb.2 b hb).trans e, hN5, ts, (if_neg (by decide)).trans hM⟩
    · exact ⟨h₅, _, _, rfl, fun b o hb e => (sb.2 b hb).trans e, hN5, ts, (if_neg (by decide)).trans hM⟩
  · have k5 := keep2 h' hk
    have Vf := V1.keep k5
    dsimp only
    refine st_cell (s := ⟨h', g, d, tk, os⟩) (c := L0 + 1 + 3) (Vf.cell 3 (by decide)) (fun h₆ hc sb => ?_)
    have hN6 := Vf.cell 3 (by decide)
    replace Vf := Vf.put (by decide) sb hc
    have hD' : PairsAt h₆ D ds := PairsAt.cell ⟨ys, let ⟨n, e⟩ := hP2; ⟨n, hk _ _ hDI e⟩, paired_mono (fun a b g => g.on fun c vs t => tup_on t fun o e => hk _ _ (fun q => by
      obtain ⟨o', eo', c', _⟩ := t
      obtain ⟨o2, e2, c2, _⟩ := i2
      rw [q, e2] at eo'; cases eo'; rw [c2] at c'; simp at c') e) hF2⟩ hN6 sb
    refine hQ h₆ _ D2 ?_ hD' Vf
    refine PairsAt.cell ⟨ys2, hP3, ?_⟩ hN6 sb
    have hm := paired_map (F := fun (p : Int × Str) y => PairG h' y p.1 p.2) (fun (p : Nat × Nat) => ds.getD p.2 (0, "")) hF3
    have he : ((List.range 3).flatMap fun j => ((List.range ys.size).filter (fun i => (ds.getD i (0, "")).1 == [gr, md, b].getD j 0)).map fun i => (j, i)).map (fun (p : Nat × Nat) => ds.getD p.2 (0, "")) = dueF gr md b ds := by
      rw [List.map_flatMap]
      simp only [List.map_map]
      rw [show List.range 3 = [0, 1, 2] from rfl, hsz]
      simp only [List.flatMap_cons, List.flatMap_nil, List.append_nil]
      rw [dueF, ← filter_range (ds := ds) (fun p => p.1 == gr) (0, ""), ← filter_range (ds := ds) (fun p => p.1 == md) (0, ""), ← filter_range (ds := ds) (fun p => p.1 == b) (0, ""), List.append_assoc]
      rfl
    rw [he] at hm
    exact hm
end
end Mine
end
section
open PySem PySem.W PyProof.Rows PySem.Calls
set_option maxRecDepth 100000
set_option maxHeartbeats 1600000
set_option Elab.async false
set_option linter.unusedVariables false
namespace Mine
theorem small_up : ∀ n : Nat, n < 2 ^ 62 → Builtin.Range.small 0 n 1 = true := fun n h => small_one (by decide) (by decide) (by omega) (by omega)
section
variable {prog : Program} {w : World} {A : Around} {E : Value → Shared → Prop} {s : Shared}
theorem rangeN {n : Nat} {t : Tok} {Q : Value → Shared → Prop} (hn : n ≤ 1000000)
    (h : ∀ h' tk I, KeepH s.heap h' → s.heap.get? I = none → IsRangeIter h' I 0 n 1 → I < h'.objs.size → Q (.ref I) { s with heap := h', toks := tk }) :
    wpAny (model prog w) A (call (.type "range") [.int n t]) (fun xv s₁ => wpAny (model prog w) A (pyIter xv) Q E s₁) E s := by
  refine call_range_1 ?_
  refine wpAny_pyIter_range (Heap.get?_push_size _ rfl) (small_up _ (by omega)) ?_
  rw [rangeSize_nat]
  have e : ((((n : Int) - 0).toNat : Nat) : Int) = n := by simp
  rw [e]
  exact h _ _ _ (fun b o e => Heap.get?_push_of_some _ (Heap.get?_push_of_some _ e)) (Heap.get?_none_of_le (by rw [Heap.size_push]; exact Nat.le_succ _)) (Heap.get?_push_size _ rfl) (Heap.lt_size (Heap.get?_push_size _ rfl))
theorem lc_srcR {env : Env} {scope : Scope} {cl : List (Str × Addr)} {target elt : Expr} {ifs : List Expr} {G : Nat → Value → Heap → Prop} {pk : Nat → Bool} {I : Addr} {n : Nat} {s₂ : Shared}
    (hh : A.handled = none) (it : IsRangeIter s₂.heap I 0 n 1) (hsz : n ≤ 1000)
    (body : ∀ C i t h' tk m₃ E', i < n → s₂.heap.get? C = none → h'.Ns C m₃ → (∀ b o, b ≠ I → s₂.heap.get? b = some o → h'.get? b = some o) →
      LcBody prog w A (compEnvC scope cl C env) C I target elt ifs (.int (i : Nat) t) (pk i) (G i) E' { s₂ with heap := h', toks := tk }) : LcSrc prog w A env scope cl target elt ifs G pk I n s₂ := by
  have e0 : (0 : Int) + ((0 : Nat) : Int) * 1 = 0 := rfl
  refine ⟨⟨_, _, _, Walks.range hh I 0 1 n, fun i h st vs t => ?_, ?_, fun b hb => ?_, fun C i v h' tk m₃ E' hi hC hP hst hN hk => ?_⟩, hsz⟩
  · obtain ⟨o', eo', c', _⟩ := t
    rw [show h.get? I = _ from st] at eo'; cases eo'; simp at c'
  · simpa using it
  · simp only [List.mem_cons, List.not_mem_nil, or_false] at hb
    subst hb
    exact Heap.lt_size it
  · obtain ⟨t, rfl⟩ := hP
    rw [show (0 : Int) + (i : Int) * 1 = (i : Nat) by omega]
    exact body C i t h' tk m₃ E' hi hC hN hk
end
noncomputable def IntsL (h : Heap) (D : Addr) (ns : List Int) : Prop := ∃ vs, LstAt h D vs.toArray ∧ IntsAre vs ns
theorem paired_ints : ∀ {α : Type} {f : α → Int} {l : List α} {vs : List Value}, Paired (fun a y => ∃ t, y = .int (f a) t) l vs → IntsAre vs (l.map f)
  | _, _, _, _, .nil => .nil
  | _, _, _, _, .cons ⟨_, e⟩ r => e ▸ .cons _ _ (paired_ints r)
theorem iter_up {h h' : Heap} {I : Addr} (n : h.get? I = none) (hk : ∀ b o, b ≠ I → h.get? b = some o → h'.get? b = some o) : KeepH h h' := fun b o e => hk b o (fun q => by rw [q, n] at e; cases e) e
noncomputable def aheadF (due : List (Int × Str)) (k : Nat) : Int := ((due.take k).map (·.1)).sum
section
variable {w : World} {A : Around} {E : Value → Shared → Prop} {s : Shared} {mg mb : Str → Option Value} {h0 : Heap} {L0 : Addr}
theorem law_d {D2 : Addr} {ds : List (Int × Str)} {cm : Nat → Option Value} {m : Str → Option Value} {Q : Flow → Shared → Prop} (V : Lw w mg mb h0 L0 m cm s.heap) (r : NearR A 20 200)
    (hcm : cm 3 = some (.ref D2)) (hD : PairsAt s.heap D2 ds) (hn : ds.length ≤ 100)
    (hQ : ∀ h' tk' H, IntsL h' H ((List.range ds.length).map (aheadF ds)) → (∀ D es, PairsAt s.heap D es → PairsAt h' D es) → Lw w mg mb h0 L0 m (fun i => if i = 4 then some (.ref H) else cm i) h' →
      wpAny (model pw w) A (execs ((fBody (stm 20)).drop 9) (lawEnv w.params L0)) Q NoE { s with heap := h', toks := tk' }) :
    wpAny (model pw w) A (execs ((fBody (stm 20)).drop 8) (lawEnv w.params L0)) Q NoE s := by
  obtain ⟨h, g, d, tk, os⟩ := s
  dsimp only at V hD hQ
  obtain ⟨ys, hP, hF⟩ := id hD
  have hlen := hF.length
  have hsz : ys.size = ds.length := by simpa using hlen.symm
  have hcell : h.IsCell (L0 + 1 + 3) (some (.ref D2)) := by have := V.cell 3 (by decide); rw [hcm] at this; exact this
  iterate 2 (walk1; (try dsimp only))
  refine lc_gen (cl := [("due", L0 + 1 + 3)]) (G := fun i y h => ∃ t, y = .int (aheadF ds i) t) (pk := fun _ => true) rfl (by decide) rfl (by decide) (fun i y h h' g k => g) ?_
  iterate 1 (walk1; (try dsimp only))
  refine nm_builtin V.X.G.g (V.X.G.names.free _ (by simp)) V.X.G.b (V.X.G.bi "range" _ (by decide) b_range) ?_
  refine cw ?_
  iterate 1 (walk1; (try dsimp only))
  refine Call_ ?_
  refine nm_builtin V.X.G.g (V.X.G.names.free _ (by simp)) V.X.G.b (V.X.G.bi "len" _ (by decide) b_len) ?_
  refine cw ?_
  iterate 3 (walk1; (try dsimp only))
  refine ⟨⟨_, .inr (.inl rfl), keeper_builtin⟩, ?_⟩
  refine call_len_list (s := ⟨h, g, d, _, os⟩) hP.isList (by omega) ?_
  iterate 1 (walk1; (try dsimp only))
  refine ⟨⟨_, .inr (.inl rfl), keeper_type⟩, ?_⟩
  rw [show ((ys.size : Nat) : Int) = ((ds.length : Nat) : Int) by rw [hsz]]
  refine rangeN (s := ⟨h, g, d, _, os⟩) (by omega) (fun h₁ tk₁ I k1 n1 i1 b1 => ?_)
  have V1 := V.keep k1
  refine ⟨I, ds.length, rfl, lc_srcR r.handled i1 (by omega) (fun C i t h' tk m₃ E' hi hC hN hk => ?_), fun H h' tk vs hH hP3 hF3 hk => ?_⟩
  · have k2 : KeepH h h' := fun b o e => iter_up (h := h) (h' := h') (I := I) n1 (fun b o hb e => hk b o hb (k1 _ _ e)) _ _ e
    have V' := V.keep k2
    unfold LcBody
    refine wpAny_of_eq (show letOwnedTupleGo (.Name "k" _) (.ref I) _ = pure () from rfl) ?_
    refine wpAny_assign_Name ?_
    refine st_local (s := ⟨h', g, d, tk, os⟩) (frNs hN) (fun h₅ F sb => ?_)
    have sb : Heap.SameBut C h' h₅ := sb
    have hCT : C ∉ Tabs := fun q => by obtain ⟨o, es, ep, eo, ed, _⟩ := hN; obtain ⟨pp, e, _⟩ := V'.X.T _ q; rw [eo] at e; cases e; cases ed
    have hCtop : Top w.params C = false := top_new V1.X hC
    have X5 : Ctx0 w mg mb h₅ := V'.X.stepW (stepH_same sb hCT) (by simp [hCtop])
    have hcell5 : h₅.IsCell (L0 + 1 + 3) (some (.ref D2)) := by
      obtain ⟨o, e, dd⟩ := V'.cell 3 (by decide)
      exact ⟨o, (sb.2 _ (fun q => by obtain ⟨o', es, ep, eo, ed, _⟩ := hN; rw [q] at e; rw [e] at eo; cases eo; rw [dd] at ed; cases ed)).trans e, by rw [hcm] at dd; exact dd⟩
    obtain ⟨ys5, hP5, hF5⟩ := (hD.keep k2).ns hN sb
    have hlen5 := hF5.length
    have hsz5 : ys5.size = ds.length := by simpa using hlen5.symm
    have hN5 := F.ns
    clear F hP hF hlen hsz
    refine wpAny_tests_nil ⟨rfl, ?_⟩
    rw [if_pos rfl]
    iterate 1 (walk1; (try dsimp only))
    refine nm_builtin X5.G.g (X5.G.names.free _ (by simp)) X5.G.b (X5.G.bi "sum" _ (by decide) b_sum) ?_
    refine cw ?_
    iterate 1 (walk1; (try dsimp only))
    refine lc_gen (cl := []) (G := fun i y h => ∃ t, y = .int (ds.getD i (0, "")).1 t) (pk := fun _ => true) rfl (by decide) rfl (by decide) (fun i y h h' g k => g) ?_
    iterate 7 (walk1; (try dsimp only))
    refine ilst_sliceP (s := ⟨h₅, g, d, _, os⟩) hP5.isList .none (.int _ _) (by omega) (fun h₆ D6 k6 n6 l6 => ?_) rfl (fun r => rfl)
    rw [show ys5 = ys5.toList.toArray by simp, slicePick_upto'] at l6
    refine iter_lst (s := ⟨h₆, g, d, _, os⟩) l6.isList (fun h₇ I7 k7 n7 i7 b7 => ?_)
    have k57 : KeepH h₅ h₇ := fun b o e => k7 _ _ (k6 _ _ e)
    have l7 := l6.on fun o e => k7 _ _ e
    refine ⟨I7, i, rfl, lc_srcL r.handled i7 l7.isList (by simp; omega) (by omega) (fun C8 j v h8 tk8 m8 E8 hj hC8 hv hst8 hN8 hk8 => ?_), fun D8 h8 tk8 vs8 hD8 hP8 hF8 hk8 => ?_⟩
    · have hjd : j < ds.length := by omega
      have k58 : KeepH h₅ h8 := fun b o e => hk8 b o (fun q => by have := k6 _ _ e; rw [q, n7] at this; cases this) (k57 _ _ e)
      obtain ⟨y, hy, T, q, q', rfl, ht⟩ := paired_get hF5 j hjd
      have hv' : v = .ref T := by
        have hv2 : (ys5.toList.take i)[j]? = some v := by simpa using hv
        rw [List.getElem?_take_of_lt hj, hy] at hv2; exact (Option.some.inj hv2).symm
      subst hv'
      have ht8 : h8.IsTuple T #[.int ds[j].1 q, .str ds[j].2 q'] := tup_on ht fun o e => k58 _ _ e
      unfold LcBody
      refine wpAny_letOwnedTupleGo_listiter hst8 ?_
      refine kcp_assign (s := ⟨h8, g, d, tk8, os⟩) r.handled ht8 rfl rfl rfl hN8 (fun h9 tk9 hn9 hk9 => ?_)
      refine wpAny_tests_nil ⟨rfl, ?_⟩
      rw [if_pos rfl]
      refine nm_local (s := ⟨h9, g, d, tk9, os⟩) (frNs hn9) (v := .int ds[j].1 q) ((if_neg (by decide)).trans (if_pos rfl)) ?_
      exact ⟨⟨q, by simp [hjd]⟩, h9, _, _, rfl, fun b o hb e => hk9 b o hb e, hn9, trivial⟩
    · iterate 1 (walk1; (try dsimp only))
      refine ⟨⟨_, .inr (.inl rfl), keeper_builtin⟩, ?_⟩
      rw [show (List.range i).filter (fun _ => true) = List.range i by simp] at hF8
      have hi8 := paired_ints (f := fun j => (ds.getD j (0, "")).1) hF8
      have hv8 : vs8 = vs8.toList.toArray := by simp
      rw [hv8] at hP8
      refine sum_lst (s := ⟨h8, g, d, tk8, os⟩) r.handled hP8.isList hi8 (fun h9 tk9 t9 k9 => ?_)
      have he : ((List.range i).map (fun j => (ds.getD j (0, "")).1)) = (ds.take i).map (·.1) := by
        apply List.ext_getElem
        · simp; omega
        · intro a h1 h2
          simp at h1 h2
          simp [show a < ds.length by omega]
      rw [he]
      have k58 : KeepH h₅ h8 := fun b o e => hk8 b o (fun q => by have := k6 _ _ e; rw [q, n7] at this; cases this) (k57 _ _ e)
      have k59 : KeepH h₅ h9 := fun b o e => k9 _ _ (k58 _ _ e)
      exact ⟨⟨t9, rfl⟩, h9, _, _, rfl, fun b o hb e => k59 _ _ ((sb.2 b hb).trans e), hN5.keeps fun b o e => k59 _ _ e, trivial⟩
  · have k5 : KeepH h h' := fun b o e => iter_up (h := h) (h' := h') (I := I) n1 (fun b o hb e => hk b o hb (k1 _ _ e)) _ _ e
    have Vf := V.keep k5
    dsimp only
    refine st_cell (s := ⟨h', g, d, tk, os⟩) (c := L0 + 1 + 4) (Vf.cell 4 (by decide)) (fun h₆ hc sb => ?_)
    have hN6 := Vf.cell 4 (by decide)
    replace Vf := Vf.put (by decide) sb hc
    rw [show (List.range ds.length).filter (fun _ => true) = List.range ds.length by simp] at hF3
    have hi8 := paired_ints (f := aheadF ds) hF3
    have hv8 : vs = vs.toList.toArray := by simp
    rw [hv8] at hP3
    obtain ⟨nn, e3⟩ := hP3
    refine hQ h₆ _ H ⟨vs.toList, ⟨nn, (sb.2 _ (fun q => cell_noList hN6 vs.toList.toArray (q ▸ ⟨_, e3, rfl, _, rfl⟩))).trans e3⟩, hi8⟩ (fun D es x => (x.keep k5).cell hN6 sb) Vf
end
end Mine
end
section
open PySem PySem.W PyProof.Rows PySem.Calls
set_option maxRecDepth 100000
set_option maxHeartbeats 1600000
set_option Elab.async false
set_option linter.unusedVariables false
namespace Mine
theorem PairsAt.step {h h' : Heap} {D : Addr} {ds : List (Int × Str)} (x : PairsAt h D ds) (T : TabO h) (st : StepH [] h h') : PairsAt h' D ds :=
  x.on (fun o e => by
    obtain ⟨ys, ⟨n, e'⟩, _⟩ := x
    rw [e] at e'; cases e'
    exact st.keep _ _ (by simp) (tabs_cls T e rfl) e) fun b vs t => tup_on t fun o e => by
    obtain ⟨o', e', c, _⟩ := t
    rw [e] at e'; cases e'
    exact st.keep _ _ (by simp) (tabs_cls T e (by rw [c]; rfl)) e
theorem LstAt.step {h h' : Heap} {D : Addr} {vs : Array Value} (x : LstAt h D vs) (T : TabO h) (st : StepH [] h h') : LstAt h' D vs := by
  obtain ⟨n, e⟩ := x
  exact ⟨n, st.keep _ _ (by simp) (tabs_cls T e rfl) e⟩
theorem LstAt.cell {h h' : Heap} {c D : Addr} {v : Option Value} {vs : Array Value} (x : LstAt h D vs) (hc : h.IsCell c v) (sb : Heap.SameBut c h h') : LstAt h' D vs :=
  x.on fun o e => (sb.2 _ (fun q => cell_noList hc vs (q ▸ x.isList))).trans e
theorem LstAt.ns {h h' : Heap} {L D : Addr} {m : Str → Option Value} {vs : Array Value} (x : LstAt h D vs) (hc : h.Ns L m) (sb : Heap.SameBut L h h') : LstAt h' D vs :=
  x.on fun o e => (sb.2 _ (fun q => ns_noList hc vs (q ▸ x.isList))).trans e
theorem IntsL.step {h h' : Heap} {D : Addr} {ns : List Int} (x : IntsL h D ns) (T : TabO h) (st : StepH [] h h') : IntsL h' D ns := let ⟨vs, l, i⟩ := x; ⟨vs, l.step T st, i⟩
theorem IntsL.cell {h h' : Heap} {c D : Addr} {v : Option Value} {ns : List Int} (x : IntsL h D ns) (hc : h.IsCell c v) (sb : Heap.SameBut c h h') : IntsL h' D ns := let ⟨vs, l, i⟩ := x; ⟨vs, l.cell hc sb, i⟩
theorem IntsL.ns {h h' : Heap} {L D : Addr} {m : Str → Option Value} {ns : List Int} (x : IntsL h D ns) (hc : h.Ns L m) (sb : Heap.SameBut L h h') : IntsL h' D ns := let ⟨vs, l, i⟩ := x; ⟨vs, l.ns hc sb, i⟩
theorem IntsL.keep {h h' : Heap} {D : Addr} {ns : List Int} (x : IntsL h D ns) (k : KeepH h h') : IntsL h' D ns := let ⟨vs, l, i⟩ := x; ⟨vs, l.on fun o e => k _ _ e, i⟩
theorem PairsAt.same {h h' : Heap} {I D : Addr} {ds : List (Int × Str)} (x : PairsAt h D ds) (sb : Heap.ExtBut I h h') (hD : D ≠ I) (ht : ∀ vs, ¬ h.IsTuple I vs) : PairsAt h' D ds :=
  x.on (fun o e => sb _ _ hD e) fun b vs t => tup_on t fun o e => sb _ _ (fun q => ht vs (q ▸ t)) e
theorem LstAt.same {h h' : Heap} {I D : Addr} {vs : Array Value} (x : LstAt h D vs) (sb : Heap.ExtBut I h h') (hD : D ≠ I) : LstAt h' D vs := x.on fun o e => sb _ _ hD e
theorem IntsL.same {h h' : Heap} {I D : Addr} {ns : List Int} (x : IntsL h D ns) (sb : Heap.ExtBut I h h') (hD : D ≠ I) : IntsL h' D ns := let ⟨vs, l, i⟩ := x; ⟨vs, l.same sb hD, i⟩
theorem PairsAt.ne {h : Heap} {I D : Addr} {ds : List (Int × Str)} (x : PairsAt h D ds) (n : ∀ vs, ¬ h.IsList I vs) : D ≠ I := fun q => let ⟨ys, p, _⟩ := x; n ys (q ▸ p.isList)
theorem IntsL.ne {h : Heap} {I D : Addr} {ds : List Int} (x : IntsL h D ds) (n : ∀ vs, ¬ h.IsList I vs) : D ≠ I := fun q => let ⟨ys, p, _⟩ := x; n _ (q ▸ p.isList)
theorem none_noList {h : Heap} {I : Addr} (n : h.get? I = none) (vs : Array Value) : ¬ h.IsList I vs := fun ⟨_, e, _⟩ => by rw [n] at e; cases e
theorem rit_noList {h : Heap} {I : Addr} {a b c : Int} (n : IsRangeIter h I a b c) (vs : Array Value) : ¬ h.IsList I vs := fun ⟨_, e, c, _⟩ => by rw [show h.get? I = _ from n] at e; cases e; simp at c
theorem rit_noTuple {h : Heap} {I : Addr} {a b c : Int} (n : IsRangeIter h I a b c) (vs : Array Value) : ¬ h.IsTuple I vs := fun ⟨_, e, c, _⟩ => by rw [show h.get? I = _ from n] at e; cases e; simp at c
theorem rit_noNs {h : Heap} {I : Addr} {a b c : Int} (n : IsRangeIter h I a b c) (m : Str → Option Value) : ¬ h.Ns I m := fun ⟨_, _, _, e, d, _⟩ => by rw [show h.get? I = _ from n] at e; cases e; cases d
theorem rit_noCell {h : Heap} {I : Addr} {a b c : Int} (n : IsRangeIter h I a b c) (v : Option Value) : ¬ h.IsCell I v := fun ⟨_, e, d⟩ => by rw [show h.get? I = _ from n] at e; cases e; cases d
noncomputable def RowsL (h : Heap) (D : Addr) (vs : Array Value) : Prop := PlainL h D vs
theorem RowsL.isL {h : Heap} {D : Addr} {vs : Array Value} (x : RowsL h D vs) : h.IsList D vs := let ⟨o, n, e, c, _, d⟩ := x; ⟨o, e, c, n, d⟩
theorem RowsL.on {h h' : Heap} {D : Addr} {vs : Array Value} (x : RowsL h D vs) (k : ∀ o, h.get? D = some o → h'.get? D = some o) : RowsL h' D vs := let ⟨o, n, e, c, d⟩ := x; ⟨o, n, k _ e, c, d⟩
theorem RowsL.step {h h' : Heap} {D : Addr} {vs : Array Value} (x : RowsL h D vs) (T : TabO h) (st : StepH [] h h') : RowsL h' D vs := by
  obtain ⟨o, n, e, c, d⟩ := x
  exact ⟨o, n, st.keep _ _ (by simp) (tabs_cls T e (by rw [c]; rfl)) e, c, d⟩
theorem RowsL.cell {h h' : Heap} {c D : Addr} {v : Option Value} {vs : Array Value} (x : RowsL h D vs) (hc : h.IsCell c v) (sb : Heap.SameBut c h h') : RowsL h' D vs :=
  x.on fun o e => (sb.2 _ (fun q => cell_noList hc vs (q ▸ x.isL))).trans e
theorem RowsL.ns {h h' : Heap} {L D : Addr} {m : Str → Option Value} {vs : Array Value} (x : RowsL h D vs) (hc : h.Ns L m) (sb : Heap.SameBut L h h') : RowsL h' D vs :=
  x.on fun o e => (sb.2 _ (fun q => ns_noList hc vs (q ▸ x.isL))).trans e
theorem RowsL.same {h h' : Heap} {I D : Addr} {vs : Array Value} (x : RowsL h D vs) (sb : Heap.ExtBut I h h') (hD : D ≠ I) : RowsL h' D vs := x.on fun o e => sb _ _ hD e
theorem RowsL.ne {h : Heap} {I D : Addr} {xs : Array Value} (x : RowsL h D xs) (n : ∀ vs, ¬ h.IsList I vs) : D ≠ I := fun q => n _ (q ▸ x.isL)
theorem pl_noTuple {h : Heap} {I : Addr} {xs : Array Value} (n : RowsL h I xs) (vs : Array Value) : ¬ h.IsTuple I vs := fun ⟨_, e, c, _⟩ => by obtain ⟨_, _, n, c', _⟩ := n; rw [n] at e; cases e; rw [c'] at c; simp at c
theorem pl_noNs {h : Heap} {I : Addr} {xs : Array Value} (n : RowsL h I xs) (m : Str → Option Value) : ¬ h.Ns I m := fun ⟨_, _, _, e, d, _⟩ => by obtain ⟨_, _, n, _, _, d'⟩ := n; rw [n] at e; cases e; rw [d'] at d; cases d
theorem pl_noCell {h : Heap} {I : Addr} {xs : Array Value} (n : RowsL h I xs) (v : Option Value) : ¬ h.IsCell I v := fun ⟨_, e, d⟩ => by obtain ⟨_, _, n, _, _, d'⟩ := n; rw [n] at e; cases e; rw [d'] at d; cases d
theorem rit_step {h h' : Heap} {I : Addr} {a b c : Int} (n : IsRangeIter h I a b c) (T : TabO h) (st : StepH [] h h') : IsRangeIter h' I a b c := st.keep _ _ (by simp) (tabs_cls T n rfl) n
theorem Lw.other {w : World} {mg mb : Str → Option Value} {h0 h h' : Heap} {L0 I : Addr} {m : Str → Option Value} {cm : Nat → Option Value} (V : Lw w mg mb h0 L0 m cm h) (hI0 : h0.get? I = none) (hIT : Top w.params I = false)
    (hns : ∀ m, ¬ h.Ns I m) (hcl : ∀ v, ¬ h.IsCell I v) (sb : Heap.ExtBut I h h') : Lw w mg mb h0 L0 m cm h' := by
  have st := stepI (top_noTab hIT) sb
  refine ⟨V.new, V.top, V.X.stepW st (by simp [hIT]), ns_step V.F V.X.T st ?_, fun i hi => ?_, V.st.trans_new st hI0, fun t ht c => sb _ _ (fun q => top_noTab hIT (q ▸ tabs2 ht)) (V.tq t ht c)⟩
  · intro q
    simp only [List.mem_singleton] at q
    exact hns m (q ▸ V.F)
  · obtain ⟨o, e, d⟩ := V.cell i hi
    exact ⟨o, sb _ _ (fun q => hcl (cm i) (q ▸ ⟨o, e, d⟩)) e, d⟩
theorem StepH.back2 {h h' : Heap} (st : StepH [] h h') (T : TabO h') {b : Addr} (e : h'.get? b = none) : h.get? b = none := by
  cases q : h.get? b with
  | none => rfl
  | some o =>
    by_cases m : b ∈ Tabs
    · obtain ⟨_, e', _⟩ := T b m; rw [e] at e'; cases e'
    · have := st.keep _ _ (by simp) m q; rw [e] at this; cases this
theorem isRangeIter_cast {h : Heap} {I : Addr} {n : Nat} (x : IsRangeIter h I 0 n 1) : IsRangeIter h I ((0 : Nat) : Int) ((n : Int) - ((0 : Nat) : Int)) 1 := by simpa using x
noncomputable def rowW (due : List (Int × Str)) (wd p : Int) : List Str := ((List.range due.length).filter (fun k => (aheadF due k).fdiv wd == p)).map (fun k => (due.getD k (0, "")).2)
noncomputable def rowF (due : List (Int × Str)) (wd p : Int) : Str := Txt.join " " ((rowW due wd p).map quoteF)
theorem paired_strs : ∀ {α : Type} {f : α → Str} {l : List α} {vs : List Value}, Paired (fun a y => ∃ t, y = .str (f a) t) l vs → StrsAre vs (l.map f)
  | _, _, _, _, .nil => .nil
  | _, _, _, _, .cons ⟨_, e⟩ r => e ▸ .cons _ _ (paired_strs r)
theorem rowW_mem {du : List (Int × Str)} {wd p : Int} {t : Str} (h : t ∈ rowW du wd p) : ∃ q ∈ du, t = q.2 := by
  unfold rowW at h
  obtain ⟨k, hk, rfl⟩ := List.mem_map.mp h
  have hk' := List.mem_range.mp (List.mem_filter.mp hk).1
  exact ⟨du[k], by simp, by simp [hk']⟩
theorem rowW_len {du : List (Int × Str)} {wd p : Int} : (rowW du wd p).length ≤ du.length := by
  unfold rowW
  rw [List.length_map]
  exact Nat.le_trans (List.length_filter_le _ _) (by simp)
inductive EInv (w : World) (mg mb : Str → Option Value) (h0 : Heap) (g : Array GenState) (os : OsState) (L0 D D2 H R I : Addr) (wd : Int) (cm : Nat → Option Value) (m : Str → Option Value) (ds du : List (Int × Str)) (N : Nat) (nn : Nat) (s' : Shared) : Prop
  | mk (h' : Heap) (g' : Array GenState) (d' : Drawn) (tk i : Nat) (vs : List Value) (v5 : Option Value) (e : s' = ⟨h', g', d', tk, os⟩) (hg : AllBare g → AllBare g') (V : Lw w mg mb h0 L0 (fun z => if z = "rows" then some (.ref R) else m z) (fun i => if i = 5 then v5 else cm i) h')
    (hD : PairsAt h' D ds) (hD2 : PairsAt h' D2 du) (hH : IntsL h' H ((List.range du.length).map (aheadF du))) (l1 : RowsL h' R vs.toArray) (hvs : StrsAre vs ((List.range i).map (fun p => rowF du wd (p : Nat))))
    (hit : IsRangeIter h' I (i : Nat) ((N : Int) - (i : Nat)) 1) (hi : i ≤ N) (hn : nn = N - i) : EInv w mg mb h0 g os L0 D D2 H R I wd cm m ds du N nn s'
section
variable {w : World} {A : Around} {E : Value → Shared → Prop} {s : Shared} {mg mb : Str → Option Value} {h0 : Heap} {L0 : Addr}
theorem law_e {D D2 H : Addr} {ds du : List (Int × Str)} {wd : Int} {tw : Tok} {cm : Nat → Option Value} {m : Str → Option Value} {Q : Flow → Shared → Prop} (V : Lw w mg mb h0 L0 m cm s.heap) (r : NearR A 20 200)
    (hc0 : cm 0 = some (.int wd tw)) (hc2 : cm 2 = some (.ref D)) (hc3 : cm 3 = some (.ref D2)) (hc4 : cm 4 = some (.ref H)) (hD : PairsAt s.heap D ds) (hD2 : PairsAt s.heap D2 du) (hH : IntsL s.heap H ((List.range du.length).map (aheadF du)))
    (hn : du.length ≤ 100) (hne : du ≠ []) (hwd : 0 < wd) (hwd2 : wd ≤ 1000) (ha : ∀ k, k < du.length → 0 ≤ aheadF du k ∧ aheadF du k ≤ 100000) (hz : ∀ p ∈ du, p.2.cps.size ≤ 1000)
    (hQ : ∀ h' g' d' tk' R vs m' v5, (AllBare s.gens → AllBare g') → PairsAt h' D ds → PairsAt h' D2 du → RowsL h' R vs.toArray →
      StrsAre vs ((List.range ((aheadF du (du.length - 1)).fdiv wd + 1).toNat).map (fun p => rowF du wd (p : Nat))) → m' "rows" = some (.ref R) → Lw w mg mb h0 L0 m' (fun i => if i = 5 then v5 else cm i) h' →
      wpAny (model pw w) A (execs ((fBody (stm 20)).drop 11) (lawEnv w.params L0)) Q NoE ⟨h', g', d', tk', s.os⟩) :
    wpAny (model pw w) A (execs ((fBody (stm 20)).drop 9) (lawEnv w.params L0)) Q NoE s := by
  obtain ⟨h, g, d, tk, os⟩ := s
  dsimp only at V hD hD2 hH hQ
  iterate 4 (walk1; (try dsimp only))
  refine new_llst (s := ⟨h, g, d, _, os⟩) (vs := []) (by simp) (fun h₁ R k1 n1 l1 => ?_)
  have hDR := hD.ne (none_noList n1)
  have hD2R := hD2.ne (none_noList n1)
  have hHR := hH.ne (none_noList n1)
  have hR0 : h0.get? R = none := V.st.back2 V.X.T n1
  have hRT := top_new V.X n1
  replace V := V.keep k1
  replace hD := hD.keep k1
  replace hD2 := hD2.keep k1
  replace hH := hH.keep k1
  clear k1 n1
  refine st_local (s := ⟨h₁, g, d, _, os⟩) V.fr (fun h₂ F sb => ?_)
  replace hD := hD.ns V.F sb
  replace hD2 := hD2.ns V.F sb
  replace hH := hH.ns V.F sb
  replace l1 := l1.ns V.F sb
  replace V := V.loc sb F.ns
  clear F sb
  have hc4' : h₂.IsCell (L0 + 1 + 4) (some (.ref H)) := by have := V.cell 4 (by decide); rw [hc4] at this; exact this
  have hc0' : h₂.IsCell (L0 + 1 + 0) (some (.int wd tw)) := by have := V.cell 0 (by decide); rw [hc0] at this; exact this
  obtain ⟨vsH, lH, iH⟩ := id hH
  iterate 1 (walk1; (try dsimp only))
  refine wpAny_For ?_
  iterate 1 (walk1; (try dsimp only))
  refine nm_builtin V.X.G.g (V.X.G.names.free _ (by simp)) V.X.G.b (V.X.G.bi "range" _ (by decide) b_range) ?_
  refine cw ?_
  iterate 4 (walk1; (try dsimp only))
  refine nm_cell hc4' ?_
  iterate 3 (walk1; (try dsimp only))
  have hpos : 0 < du.length := List.length_pos_iff.mpr hne
  refine item_list_ints_negR (s := ⟨h₂, g, d, _, os⟩) lH.isList iH (by decide) (by simp; omega) (by decide) (fun t1 => ?_)
  rw [show ((List.range du.length).map (aheadF du)).getD ((-1 : Int) + (((List.range du.length).map (aheadF du)).length : Nat)).toNat 0 = aheadF du (du.length - 1) by
    simp only [List.length_map, List.length_range]
    rw [tn1 hpos]
    simp [Nat.sub_lt hpos Nat.one_pos]]
  refine nm_cell hc0' ?_
  have hl0 := ha (du.length - 1) (Nat.sub_lt hpos Nat.one_pos)
  generalize aheadF du (du.length - 1) = last at hl0 hQ ⊢
  have hN0 : 0 ≤ last.fdiv wd := by rw [Int.fdiv_eq_ediv_of_nonneg _ (by omega)]; exact Int.ediv_nonneg hl0.1 (by omega)
  have hN1 : last.fdiv wd ≤ 100000 := by rw [Int.fdiv_eq_ediv_of_nonneg _ (by omega)]; exact Int.le_trans (Int.ediv_le_self _ hl0.1) hl0.2
  have hwd0 : wd ≠ 0 := by omega
  refine floordiv_int hwd0 ?_ (Or.inl (PyProof.noPylong_small (by omega)))
  iterate 4 (walk1; (try dsimp only))
  · exact ⟨_, .inr (.inl rfl), keeper_type⟩
  obtain ⟨N, hN⟩ : ∃ N : Nat, N = (last.fdiv wd + 1).toNat := ⟨_, rfl⟩
  rw [← hN] at hQ
  have hzN : last.fdiv wd + 1 = (N : Int) := by rw [hN]; exact (Int.toNat_of_nonneg (Int.add_nonneg hN0 (by decide))).symm
  have hNle : N ≤ 100001 := by omega
  rw [hzN]
  clear hN hzN hN0 hN1
  refine rangeN (s := ⟨h₂, g, d, _, os⟩) (by omega) (fun h₃ tk₃ I k3 n3 i3 b3 => ?_)
  have i0 := isRangeIter_cast i3
  have hI0 : h0.get? I = none := V.st.back2 V.X.T n3
  have hIT := top_new V.X n3
  refine codeAny_forLoop (EInv w mg mb h0 g os L0 D D2 H R I wd cm m ds du N) (fun nn s' hI => ?_) N ⟨h₃, g, d, _, 0, [], cm 5, rfl, id, ?_, hD.keep k3, hD2.keep k3, hH.keep k3, let ⟨n, e⟩ := l1; ⟨_, n, k3 _ _ e, rfl, rfl, rfl⟩, .nil, i0, Nat.zero_le _, rfl⟩
  · clear V hD hD2 hH l1 i3 i0 k3 n3 b3 hc4' hc0' lH iH
    obtain ⟨h', g', d', tk', i, vs, v5, rfl, hg, V, hD, hD2, hH, l1, hvs, hit, hi, rfl⟩ := hI
    by_cases hlt : i < N
    · refine wpAny_pyNext_range_item (s := ⟨h', g', d', tk', os⟩) hit (by omega) (fun h₅ it5 sb5 => ?_)
      replace V := V.other hI0 hIT (rit_noNs hit) (rit_noCell hit) sb5.extBut
      replace hD := hD.same sb5.extBut (hD.ne (rit_noList hit)) (rit_noTuple hit)
      replace hD2 := hD2.same sb5.extBut (hD2.ne (rit_noList hit)) (rit_noTuple hit)
      replace hH := hH.same sb5.extBut (hH.ne (rit_noList hit))
      replace l1 := l1.same sb5.extBut (l1.ne (rit_noList hit))
      dsimp only
      refine wpAny_assign_Name ?_
      have hc5 := V.cell 5 (by decide)
      refine st_cell (s := ⟨h₅, g', d', _, os⟩) (c := L0 + 1 + 5) hc5 (fun h₆ hc sb => ?_)
      replace hD := hD.cell hc5 sb
      replace hD2 := hD2.cell hc5 sb
      replace hH := hH.cell hc5 sb
      replace l1 := l1.cell hc5 sb
      replace it5 : IsRangeIter h₆ I _ _ 1 := (sb.2 _ (fun q => rit_noCell it5 _ (q ▸ hc5))).trans it5
      replace V := V.put (by decide) sb hc
      clear sb5 sb hit hc hc5
      iterate 4 (walk1; (try dsimp only))
      obtain ⟨oR, nR, eR, cR, dR, qR⟩ := id l1
      refine Calls.getMethod_list_append eR cR dR ?_
      refine cw ?_
      have hj : mg "join" = some (.ref 50) := V.X.G.names.join
      have hc0' : h₆.IsCell (L0 + 1 + 0) (some (.int wd tw)) := by have := V.cell 0 (by decide); rw [if_neg (by decide), if_neg (by decide), hc0] at this; exact this
      have hc3' : h₆.IsCell (L0 + 1 + 3) (some (.ref D2)) := by have := V.cell 3 (by decide); rw [if_neg (by decide), if_neg (by decide), hc3] at this; exact this
      have hc4' : h₆.IsCell (L0 + 1 + 4) (some (.ref H)) := by have := V.cell 4 (by decide); rw [if_neg (by decide), if_neg (by decide), hc4] at this; exact this
      have hc5' : h₆.IsCell (L0 + 1 + 5) (some (.int i tk')) := by have := V.cell 5 (by decide); rw [if_pos rfl] at this; exact this
      iterate 2 (walk1; (try dsimp only))
      refine nm_global V.X.G.g hj ?_
      refine cw ?_
      iterate 1 (walk1; (try dsimp only))
      refine lc_gen (cl := [("width", L0 + 1 + 0), ("place", L0 + 1 + 5), ("due", L0 + 1 + 3), ("ahead", L0 + 1 + 4)]) (G := fun j y h => ∃ u, y = .str (du.getD j (0, "")).2 u) (pk := fun j => (aheadF du j).fdiv wd == (i : Int)) rfl (by decide) rfl (by decide) (fun i y h h' g k => g) ?_
      iterate 1 (walk1; (try dsimp only))
      refine nm_builtin V.X.G.g (V.X.G.names.free _ (by simp)) V.X.G.b (V.X.G.bi "range" _ (by decide) b_range) ?_
      refine cw ?_
      iterate 1 (walk1; (try dsimp only))
      refine Call_ ?_
      refine nm_builtin V.X.G.g (V.X.G.names.free _ (by simp)) V.X.G.b (V.X.G.bi "len" _ (by decide) b_len) ?_
      refine cw ?_
      iterate 1 (walk1; (try dsimp only))
      refine nm_cell hc3' ?_
      iterate 1 (walk1; (try dsimp only))
      refine ⟨⟨_, .inr (.inl rfl), keeper_builtin⟩, ?_⟩
      obtain ⟨ys2, hP2, hF2⟩ := id hD2
      have hlen2 := hF2.length
      have hsz2 : ys2.size = du.length := by simpa using hlen2.symm
      refine call_len_list (s := ⟨h₆, g', d', _, os⟩) hP2.isList (by omega) ?_
      iterate 1 (walk1; (try dsimp only))
      refine ⟨⟨_, .inr (.inl rfl), keeper_type⟩, ?_⟩
      rw [show ((ys2.size : Nat) : Int) = ((du.length : Nat) : Int) by rw [hsz2]]
      refine rangeN (s := ⟨h₆, g', d', _, os⟩) (by omega) (fun h₇ tk₇ J k7 n7 j7 b7 => ?_)
      refine ⟨J, du.length, rfl, lc_srcR r.handled j7 (by omega) (fun C j t h8 tk8 m8 E8 hj hC hN8 hk8 => ?_), fun W h8 tk8 ws8 hW hP8 hF8 hk8 => ?_⟩
      · have k68 : KeepH h₆ h8 := fun b o e => iter_up (h := h₆) (h' := h8) (I := J) n7 (fun b o hb e => hk8 b o hb (k7 _ _ e)) _ _ e
        unfold LcBody
        refine wpAny_of_eq (show letOwnedTupleGo (.Name "k" _) (.ref J) _ = pure () from rfl) ?_
        refine wpAny_assign_Name ?_
        refine st_local (s := ⟨h8, g', d', tk8, os⟩) (frNs hN8) (fun h9 F sb => ?_)
        have sb : Heap.SameBut C h8 h9 := sb
        have hcl : ∀ {c v}, h₆.IsCell c v → h9.IsCell c v := fun {c v} x => by
          obtain ⟨o, e, dd⟩ := x
          have e8 := k68 _ _ e
          exact ⟨o, (sb.2 _ (fun q => by obtain ⟨o', es, ep, eo, ed, _⟩ := hN8; rw [q] at e8; rw [e8] at eo; cases eo; rw [dd] at ed; cases ed)).trans e8, dd⟩
        replace hc0' := hcl hc0'
        replace hc3' := hcl hc3'
        replace hc4' := hcl hc4'
        replace hc5' := hcl hc5'
        have hH9 := (hH.keep k68).ns hN8 sb
        have hD9 := (hD2.keep k68).ns hN8 sb
        have hN9 := F.ns
        clear F hcl
        obtain ⟨vs9, l9, i9⟩ := id hH9
        obtain ⟨ys9, hP9, hF9⟩ := id hD9
        have hlen9 := hF9.length
        refine wpAny_tests_one ?_
        iterate 3 (walk1; (try dsimp only))
        refine nm_cell hc4' ?_
        iterate 1 (walk1; (try dsimp only))
        refine item_list_intsR (s := ⟨h9, g', d', _, os⟩) l9.isList i9 (by omega) (by simp; omega) (by omega) (fun t9 => ?_)
        rw [show ((List.range du.length).map (aheadF du)).getD ((j : Nat) : Int).toNat 0 = aheadF du j by simp [hj]]
        refine nm_cell hc0' ?_
        refine floordiv_int hwd0 ?_ (Or.inl (PyProof.noPylong_small (by omega)))
        refine nm_cell hc5' ?_
        iterate 2 (walk1; (try dsimp only))
        refine ⟨rfl, ?_⟩
        obtain ⟨y, hy, T, q, q', rfl, ht⟩ := paired_get hF9 j hj
        split
        · iterate 2 (walk1; (try dsimp only))
          refine nm_cell hc3' ?_
          iterate 1 (walk1; (try dsimp only))
          refine item_listR (s := ⟨h9, g', d', _, os⟩) (x := .ref T) hP9.isList (by omega) (by omega) (by simpa using hy) ?_
          iterate 1 (walk1; (try dsimp only))
          refine subscriptTail_builtinR (x := .str du[j].2 q') (s := ⟨h9, g', d', _, os⟩) (T := "tuple") (let ⟨o, e, c, _⟩ := ht; ⟨o, e, c⟩) slot_tuple_getitem.lookup (getItem_tuple (j := 1) (x := .str du[j].2 q') (s := ⟨h9, g', d', _, os⟩) ht (by decide) (by decide) (by rfl) (by rfl) ⟨rfl, ?_⟩)
          exact ⟨⟨q', by simp [hj]⟩, h9, _, _, rfl, fun b o hb e => (sb.2 b hb).trans e, hN9, trivial⟩
        · exact ⟨h9, _, _, rfl, fun b o hb e => (sb.2 b hb).trans e, hN9, trivial⟩
      · have k68 : KeepH h₆ h8 := fun b o e => iter_up (h := h₆) (h' := h8) (I := J) n7 (fun b o hb e => hk8 b o hb (k7 _ _ e)) _ _ e
        replace V := V.keep k68
        replace hD := hD.keep k68
        replace hD2 := hD2.keep k68
        replace hH := hH.keep k68
        replace l1 := l1.on fun o e => k68 _ _ e
        replace it5 : IsRangeIter h8 I _ _ 1 := k68 _ _ it5
        clear k68 hc0' hc3' hc4' hc5' hP2 hF2 eR
        have hs8 := paired_strs (f := fun j => (du.getD j (0, "")).2) hF8
        have hv8 : ws8 = ws8.toList.toArray := by simp
        rw [hv8] at hP8
        iterate 1 (walk1; (try dsimp only))
        refine ⟨V.X.G.keepFn V.X.G.f_join, ?_⟩
        refine join_spec (s := ⟨h8, g', d', tk8, os⟩) V.X (r.less (by omega) (by omega)) hP8.isList hs8 (fun t ht => ?_) (Nat.le_trans (rowW_len (p := i) (wd := wd)) (by omega)) (fun s9 u9 st9 q9 => ?_)
        · obtain ⟨q, hq, rfl⟩ := rowW_mem (p := i) (wd := wd) ht
          exact hz q hq
        · obtain ⟨h9, g9, d9, tk9, os9⟩ := s9
          have os9' : os9 = os := st9.os
          subst os9'
          have g9' : AllBare g → AllBare g9 := fun x => st9.gens (hg x)
          replace st9 := st9.heap
          dsimp only at st9 q9
          replace hD := hD.step V.X.T st9
          replace hD2 := hD2.step V.X.T st9
          replace hH := hH.step V.X.T st9
          replace l1 := l1.step V.X.T st9
          replace it5 := rit_step it5 V.X.T st9
          replace V := V.step st9 fun t o ht e => q9 t o (tabs2 ht) (by rcases ht with rfl | rfl <;> decide) e
          clear st9 hg q9
          iterate 1 (walk1; (try dsimp only))
          refine ⟨⟨_, .inr (.inl rfl), keeper_builtin⟩, ?_⟩
          refine list_append_plainL (s := ⟨h9, g9, d9, _, os9⟩) l1 (fun h10 pl sb => ?_) (by have := hvs.length; simp at this; rw [sizeLine_eq]; simp; omega)
          replace hD := hD.same sb.extBut hDR (pl_noTuple l1)
          replace hD2 := hD2.same sb.extBut hD2R (pl_noTuple l1)
          replace hH := hH.same sb.extBut hHR
          replace it5 : IsRangeIter h10 I _ _ 1 := (sb.2 _ (fun q => rit_noList it5 _ (q ▸ l1.isL))).trans it5
          replace V := V.other hR0 hRT (pl_noNs l1) (pl_noCell l1) sb.extBut
          have hcm : (fun z => if z = 5 then some (.int (i : Int) tk') else if z = 5 then v5 else cm z) = (fun z : Nat => if z = 5 then some (.int (i : Int) tk') else cm z) := by
            funext z
            by_cases hz5 : z = 5 <;> simp [hz5]
          rw [hcm] at V
          dsimp only
          iterate 1 (walk1; (try dsimp only))
          refine ⟨N - (i + 1), Nat.sub_succ_lt_self _ _ hlt, h10, g9, d9, _, i + 1, vs ++ [.str (rowF du wd i) u9], _, rfl, g9', V, hD, hD2, hH, by unfold RowsL; simpa [rowF, rowW] using pl, ?_, ?_, hlt, rfl⟩
          · rw [List.range_succ, List.map_append]
            exact strs_snoc hvs
          · have e1 : ((i : Nat) : Int) + 1 = ((i + 1 : Nat) : Int) := by omega
            have e2 : (N : Int) - ((i : Nat) : Int) - 1 = (N : Int) - ((i + 1 : Nat) : Int) := by omega
            rw [e1, e2] at it5
            exact it5
    · have hiN : i = N := by omega
      subst hiN
      refine wpAny_pyNext_range_end (s := ⟨h', g', d', tk', os⟩) r.handled hit (by omega) (fun h₅ e5 => ?_)
      replace V := V.other hI0 hIT (rit_noNs hit) (rit_noCell hit) e5
      replace hD := hD.same e5 (hD.ne (rit_noList hit)) (rit_noTuple hit)
      replace hD2 := hD2.same e5 (hD2.ne (rit_noList hit)) (rit_noTuple hit)
      replace l1 := l1.same e5 (l1.ne (rit_noList hit))
      dsimp only
      iterate 1 (walk1; (try dsimp only))
      exact hQ h₅ g' d' _ R vs _ v5 hg hD hD2 l1 hvs (if_pos rfl) V
  · have V3 := V.keep k3
    rw [show (fun i : Nat => if i = 5 then cm 5 else cm i) = cm by funext z; by_cases hz5 : z = 5 <;> simp [hz5]]
    exact V3
end
end Mine
end
section
open PySem PySem.W PyProof.Rows PySem.Calls
set_option maxRecDepth 100000
set_option maxHeartbeats 1600000
set_option Elab.async false
set_option linter.unusedVariables false
namespace Mine
theorem Lw.locE {w : World} {mg mb : Str → Option Value} {h0 h h' : Heap} {L0 : Addr} {m m' : Str → Option Value} {cm : Nat → Option Value} (V : Lw w mg mb h0 L0 m cm h) (sb : Heap.ExtBut L0 h h') (hn : h'.Ns L0 m') : Lw w mg mb h0 L0 m' cm h' := by
  have hT := top_noTab (V.top L0 (Nat.le_refl _))
  have st := stepI hT sb
  refine ⟨V.new, V.top, V.X.stepW st (by simp [V.top L0 (Nat.le_refl _)]), hn, fun i hi => ?_, V.st.trans_new st (V.new _ (Nat.le_refl _)), fun t ht c => sb _ _ (fun q => hT (q ▸ tabs2 ht)) (V.tq t ht c)⟩
  obtain ⟨o, e, d⟩ := V.cell i hi
  exact ⟨o, sb _ _ (addr1 L0 i) e, d⟩
section
variable {w : World} {A : Around} {E : Value → Shared → Prop} {s : Shared} {mg mb : Str → Option Value} {h0 : Heap} {L0 : Addr}
theorem law_f {D : Addr} {ds : List (Int × Str)} {cm : Nat → Option Value} {m : Str → Option Value} {Q : Flow → Shared → Prop} (V : Lw w mg mb h0 L0 m cm s.heap) (r : NearR A 20 200)
    (hcm : cm 2 = some (.ref D)) (hD : PairsAt s.heap D ds) (hn : ds.length ≤ 100)
    (hQ : ∀ h' tk' W vs, LstAt h' W vs.toArray → StrsAre vs (ds.map (·.2)) → (∀ D es, PairsAt s.heap D es → PairsAt h' D es) → (∀ R xs, RowsL s.heap R xs → RowsL h' R xs) → Lw w mg mb h0 L0 (fun z => if z = "words" then some (.ref W) else m z) cm h' →
      wpAny (model pw w) A (execs ((fBody (stm 20)).drop 12) (lawEnv w.params L0)) Q NoE { s with heap := h', toks := tk' }) :
    wpAny (model pw w) A (execs ((fBody (stm 20)).drop 11) (lawEnv w.params L0)) Q NoE s := by
  obtain ⟨h, g, d, tk, os⟩ := s
  dsimp only at V hD hQ
  obtain ⟨ys, hP, hF⟩ := id hD
  have hlen := hF.length
  have hsz : ys.size = ds.length := by simpa using hlen.symm
  have hcell : h.IsCell (L0 + 1 + 2) (some (.ref D)) := by have := V.cell 2 (by decide); rw [hcm] at this; exact this
  iterate 1 (walk1; (try dsimp only))
  refine lc_assign (cl := []) (G := fun i y h => ∃ t, y = .str (ds.getD i (0, "")).2 t) (pk := fun _ => true) (m := m) (by rfl) rfl (by decide) rfl (by decide) (fun i y h h' g k => g) rfl rfl ?_
  refine nm_cell hcell ?_
  refine iter_lst (s := ⟨h, g, d, _, os⟩) hP.isList (fun h₁ I k1 n1 i1 b1 => ?_)
  have V1 := V.keep k1
  have hP1 : h₁.PlainList D ys := let ⟨n, e⟩ := hP; ⟨n, k1 _ _ e⟩
  have hF1 := paired_mono (fun a b g => PairG.on g (keepH_tup k1)) hF
  refine ⟨I, ds.length, rfl, lc_srcL r.handled i1 hP1.isList hsz (by omega) (fun C j v h' tk m₃ E' hj hC hv hst hN hk => ?_), ?_, (V.keep k1).F, fun W h' tk vs hW hP3 hF3 hk hN => ?_⟩
  · have k2 : KeepH h h' := fun b o e => iter_up (h := h) (h' := h') (I := I) n1 (fun b o hb e => hk b o hb (k1 _ _ e)) _ _ e
    obtain ⟨y, hy, T, q, q', rfl, ht⟩ := paired_get hF j hj
    have hv' : v = .ref T := by
      have hv2 : ys.toList[j]? = some v := by simpa using hv
      rw [hy] at hv2; exact (Option.some.inj hv2).symm
    subst hv'
    have ht8 : h'.IsTuple T #[.int ds[j].1 q, .str ds[j].2 q'] := tup_on ht fun o e => k2 _ _ e
    unfold LcBody
    refine wpAny_letOwnedTupleGo_listiter hst ?_
    refine kcp_assign (s := ⟨h', g, d, tk, os⟩) r.handled ht8 rfl rfl rfl hN (fun h9 tk9 hn9 hk9 => ?_)
    refine wpAny_tests_nil ⟨rfl, ?_⟩
    rw [if_pos rfl]
    refine nm_local (s := ⟨h9, g, d, tk9, os⟩) (frNs hn9) (v := .str ds[j].2 q') (if_pos rfl) ?_
    exact ⟨⟨q', by simp [hj]⟩, h9, _, _, rfl, fun b o hb e => hk9 b o hb e, hn9, trivial⟩
  · intro q
    obtain ⟨o, es, ep, e, _⟩ := V.F
    rw [q] at n1
    exact absurd (n1.symm.trans e) (by simp)
  · have k5 : Heap.ExtBut L0 h h' := fun b o hb e => hk b o (fun q => by rw [q] at e; exact absurd (n1.symm.trans e) (by simp)) hb (k1 _ _ e)
    rw [show (List.range ds.length).filter (fun _ => true) = List.range ds.length by simp] at hF3
    have hs8 := paired_strs (f := fun j => (ds.getD j (0, "")).2) hF3
    have he : ((List.range ds.length).map (fun j => (ds.getD j (0, "")).2)) = ds.map (·.2) := by
      apply List.ext_getElem
      · simp
      · intro a h1 h2
        simp at h1 h2
        simp [h1]
    rw [he] at hs8
    have hv8 : vs = vs.toList.toArray := by simp
    rw [hv8] at hP3
    obtain ⟨nn, e3⟩ := hP3
    have nl : ∀ xs, ¬ h.IsList L0 xs := ns_noList V.F
    exact hQ h' _ W vs.toList ⟨nn, e3⟩ hs8 (fun D es x => x.same k5 (x.ne nl) (ns_noTuple V.F)) (fun R xs x => x.same k5 (x.ne nl)) (V.locE k5 hN)
end
end Mine
end
section
open PySem PySem.W PyProof.Rows PySem.Calls
set_option maxRecDepth 100000
set_option maxHeartbeats 40000000
set_option Elab.async false
set_option linter.unusedVariables false
set_option pp.deepTerms false
set_option pp.maxSteps 600
namespace Mine
section
variable {α : Type} {prog : Program} {w : World} {A : Around} {E : Value → Shared → Prop} {Q : α → Shared → Prop} {h₀ h : Heap} {g : Array GenState} {d : Drawn} {t : Nat} {os : OsState} {chg news : List (Addr × Obj)}
theorem nd_neg {c : Prop} [Decidable c] {t e : Sem α} {s : Shared} (hc : ¬ c) (x : wpAny (model prog w) A e Q E s) : wpAny (model prog w) A (ite c t e) Q E s := by rw [if_neg hc]; exact x
theorem nd_pos {c : Prop} [Decidable c] {t e : Sem α} {s : Shared} (hc : c) (x : wpAny (model prog w) A t Q E s) : wpAny (model prog w) A (ite c t e) Q E s := by rw [if_pos hc]; exact x
theorem nd_falseB {b : Bool} {t e : Sem α} {s : Shared} (hb : b = false) (x : wpAny (model prog w) A e Q E s) : wpAny (model prog w) A (ite (b = true) t e) Q E s := by subst hb; exact x
theorem nd_trueB {b : Bool} {t e : Sem α} {s : Shared} (hb : b = true) (x : wpAny (model prog w) A t Q E s) : wpAny (model prog w) A (ite (b = true) t e) Q E s := by subst hb; exact x
theorem q_eq {β : Type} {a b : β} {Q : β → Shared → Prop} {s : Shared} (e : a = b) (q : Q b s) : Q a s := by subst e; exact q
theorem m_alloc {o : Obj} {k : Addr → Sem α} (D : X.Mem h₀ h chg news) (hf : o.isFreed = false) (x : ∀ a h', X.Mem h₀ h' chg ((a, o) :: news) → wpAny (model prog w) A (k a) Q E ⟨h', g, d, t, os⟩) : wpAny (model prog w) A (.alloc o k) Q E ⟨h, g, d, t, os⟩ :=
  nd_alloc (x _ _ (D.alloc hf))
theorem m_update {a : Addr} {q : Option Value} {f : Obj → Obj} {k : Unit → Sem α} {o : Obj} (D : X.Mem h₀ h chg news) (i : Nat) (hi : news[i]? = some (a, o)) (hf : (f o).isFreed = false)
    (x : ∀ h', X.Mem h₀ h' chg (news.set i (a, f o)) → wpAny (model prog w) A (k ()) Q E ⟨h', g, d, t, os⟩) : wpAny (model prog w) A (.update a q f k) Q E ⟨h, g, d, t, os⟩ :=
  wpAny_bind (m := updatePart a q f) (f := k) (wpAny_updatePart (D.at i a o hi) (x _ (D.update hi hf)))
theorem m_collect {E : Value → Shared → Prop} {Q : List Value → Shared → Prop} {l : Addr} {vs : List Value} (D : X.Mem h₀ h chg news) (hl : h.IsList l vs.toArray) (hs : vs.length ≤ 1000)
    (x : ∀ a h' o, X.Mem h₀ h' chg ((a, o) :: news) → Q vs ⟨h', g, d, t, os⟩) : wpAny (model prog w) A (collect (.ref l)) Q E ⟨h, g, d, t, os⟩ :=
  collect_list hl (x _ _ _ ((D.alloc rfl).update (i := 0) rfl rfl)) (by rw [sizeLine_eq]; omega)
end
noncomputable def bodyE (sl fi fl fg fe fle fge st : Addr) (H : Nat → Int) (T V : Nat → Tok) : Array DictEntry := #[⟨H 0, .str "__module__" (T 0), .str "cpy313.functools" (V 0)⟩, ⟨H 1, .str "__qualname__" (T 1), .str "cmp_to_key.<locals>.K" (V 1)⟩,
  ⟨H 2, .str "__firstlineno__" (T 2), .int 124 (V 2)⟩, ⟨H 3, .str "__slots__" (T 3), .ref sl⟩, ⟨H 4, .str "__init__" (T 4), .ref fi⟩,
  ⟨H 5, .str "__lt__" (T 5), .ref fl⟩, ⟨H 6, .str "__gt__" (T 6), .ref fg⟩, ⟨H 7, .str "__eq__" (T 7), .ref fe⟩, ⟨H 8, .str "__le__" (T 8), .ref fle⟩,
  ⟨H 9, .str "__ge__" (T 9), .ref fge⟩, ⟨H 10, .str "__hash__" (T 10), .none⟩, ⟨H 11, .str "__static_attributes__" (T 11), .ref st⟩]
section
variable {w : World} {A : Around} {E : Value → Shared → Prop} {mg mb : Str → Option Value}
theorem sread {h₀ h : Heap} {news : List (Addr × Obj)} {nsl : Nat} {g : Array GenState} {d : Drawn} {tk : Nat} {os : OsState} {sl fi fl fg fe fle fge st : Addr} {H : Nat → Int} {T V : Nat → Tok} {to : Tok} {Q : Builtin.Slots.Plan → Shared → Prop} (KX : (KN w.params).In h) (D : PySem.W.X.Mem h₀ h [] news)
    (hsl : h₀.get? sl = some ⟨.type "list", none, .seq [Value.str "obj" to].toArray nsl, #[]⟩)
    (hQ : ∀ h' tk' a o, X.Mem h₀ h' [] ((a, o) :: news) → Q ⟨["obj"], false, false, []⟩ ⟨h', g, d, tk', os⟩) :
    wpAny (model pw w) A (Builtin.Slots.read "K" [.type "object"] (bodyE sl fi fl fg fe fle fge st H T V)) Q E ⟨h, g, d, tk, os⟩ := by
  unfold Builtin.Slots.read
  iterate 114 (first | with_reducible refine Looks.at (by assumption) ?_ | (with_reducible first | refine wpAny_bind ?_ | refine nd_bind ?_ | refine wpAny_holding ?_ | refine wpAny_onRaise ?_ | refine nd_tryCatch ?_ | refine wpAny_pure ?_ | refine nd_pure ?_ | refine nd_rule ?_ | refine wpAny_rule ?_ | refine nd_ask ?_ | refine nd_point ?_ | refine wpAny_standAt ?_ | refine nd_load (by first | assumption | exact D.old _ _ (by assumption) rfl | exact D.at 0 _ _ rfl | exact D.at 1 _ _ rfl | exact D.at 2 _ _ rfl | exact D.at 3 _ _ rfl | exact D.at 4 _ _ rfl | exact D.at 5 _ _ rfl) ?_ | refine nd_fresh ?_) | (with_reducible refine m_alloc D rfl (fun _ _ D' => ?_); clear D; rename PySem.W.X.Mem _ _ _ _ => D) | k_node)
  refine m_collect (l := sl) (vs := [.str "obj" to]) D ⟨_, D.old _ _ hsl rfl, rfl, _, rfl⟩ (by simp) (fun _ _ _ D' => ?_)
  clear D
  rename PySem.W.X.Mem _ _ _ _ => D
  repeat (first | with_reducible refine Looks.at (by assumption) ?_ | (with_reducible first | refine wpAny_bind ?_ | refine nd_bind ?_ | refine wpAny_holding ?_ | refine wpAny_onRaise ?_ | refine nd_tryCatch ?_ | refine wpAny_pure ?_ | refine nd_pure ?_ | refine nd_rule ?_ | refine wpAny_rule ?_ | refine nd_ask ?_ | refine nd_point ?_ | refine wpAny_standAt ?_ | refine nd_load (by first | assumption | exact D.old _ _ (by assumption) rfl | exact D.at 0 _ _ rfl | exact D.at 1 _ _ rfl | exact D.at 2 _ _ rfl | exact D.at 3 _ _ rfl | exact D.at 4 _ _ rfl | exact D.at 5 _ _ rfl) ?_ | refine nd_fresh ?_) | (with_reducible refine m_alloc D rfl (fun _ _ D' => ?_); clear D; rename PySem.W.X.Mem _ _ _ _ => D) | k_node)
  rw [show Builtin.Slots.isIdentifier (Str.ofString "obj") = some true by kernel_rfl]
  repeat (first | with_reducible refine Looks.at (by assumption) ?_ | (with_reducible first | refine wpAny_bind ?_ | refine nd_bind ?_ | refine wpAny_holding ?_ | refine wpAny_onRaise ?_ | refine nd_tryCatch ?_ | refine wpAny_pure ?_ | refine nd_pure ?_ | refine nd_rule ?_ | refine wpAny_rule ?_ | refine nd_ask ?_ | refine nd_point ?_ | refine wpAny_standAt ?_ | refine nd_load (by first | assumption | exact D.old _ _ (by assumption) rfl | exact D.at 0 _ _ rfl | exact D.at 1 _ _ rfl | exact D.at 2 _ _ rfl | exact D.at 3 _ _ rfl | exact D.at 4 _ _ rfl | exact D.at 5 _ _ rfl) ?_ | refine nd_fresh ?_) | (with_reducible refine m_alloc D rfl (fun _ _ D' => ?_); clear D; rename PySem.W.X.Mem _ _ _ _ => D) | k_node)
  with_reducible refine nd_falseB (by kernel_rfl) ?_
  repeat (first | with_reducible refine Looks.at (by assumption) ?_ | (with_reducible first | refine wpAny_bind ?_ | refine nd_bind ?_ | refine wpAny_holding ?_ | refine wpAny_onRaise ?_ | refine nd_tryCatch ?_ | refine wpAny_pure ?_ | refine nd_pure ?_ | refine nd_rule ?_ | refine wpAny_rule ?_ | refine nd_ask ?_ | refine nd_point ?_ | refine wpAny_standAt ?_ | refine nd_load (by first | assumption | exact D.old _ _ (by assumption) rfl | exact D.at 0 _ _ rfl | exact D.at 1 _ _ rfl | exact D.at 2 _ _ rfl | exact D.at 3 _ _ rfl | exact D.at 4 _ _ rfl | exact D.at 5 _ _ rfl) ?_ | refine nd_fresh ?_) | (with_reducible refine m_alloc D rfl (fun _ _ D' => ?_); clear D; rename PySem.W.X.Mem _ _ _ _ => D) | k_node)
  exact q_eq (b := ⟨["obj"], false, false, []⟩) (by kernel_rfl) (hQ _ _ _ _ D)
end
end Mine
end
section
open PySem PySem.W PyProof.Rows PySem.Calls
set_option maxRecDepth 100000
set_option maxHeartbeats 0
set_option Elab.async false
set_option linter.unusedVariables false
namespace Mine
theorem sup0 {w : World} {s : Shared} {C N bt : Addr} {q1 q2 : Tok} {Q : Value → Shared → Prop} (KX : (KN w.params).In s.heap)
    (h1 : s.heap.get? C = some ⟨.type "type", none, .cls { name := "K", bases := [.type "object"], mro := [.ref C, .type "object"], ns := N, qualname := "cmp_to_key.<locals>.K", hasDict := false, slotNames := ["obj"] }, #[some (.ref bt), none, some (.str "K" q1), some (.str "cmp_to_key.<locals>.K" q2), some (.builtin "object.__new__"), some (.bool false)]⟩)
    (hQ : ∀ h' tk I, KeepH s.heap h' → s.heap.get? I = none → h'.get? I = some { cls := .type "super", data := .fields #[.ref C, .ref C, .ref C] } → Q (.ref I) ⟨h', s.gens, s.drawn, tk, s.os⟩) :
    wpAny (model pw w) (BigA none) (call (.type "super") [.ref C, .ref C] []) Q NoE s := by
  x_run
theorem cmd0 {w : World} {s : Shared} {C N bt : Addr} {q1 q2 : Tok} {Q : Value → Shared → Prop} (KX : (KN w.params).In s.heap)
    (h1 : s.heap.get? C = some ⟨.type "type", none, .cls { name := "K", bases := [.type "object"], mro := [.ref C, .type "object"], ns := N, qualname := "cmp_to_key.<locals>.K", hasDict := false, slotNames := ["obj"] }, #[some (.ref bt), none, some (.str "K" q1), some (.str "cmp_to_key.<locals>.K" q2), some (.builtin "object.__new__"), some (.bool false)]⟩)
    (hQ : ∀ h' tk I, KeepH s.heap h' → s.heap.get? I = none → h'.get? I = some { cls := .type "builtin_function_or_method", data := .fields #[.builtin "object.__init_subclass__", .ref C] } → Q (.ref I) ⟨h', s.gens, s.drawn, tk, s.os⟩) :
    wpAny (model pw w) (BigA none) (call (.builtin "classmethod_descriptor.__get__") [.builtin "object.__init_subclass__", .none, .ref C] []) Q NoE s := by
  x_run
theorem isub0 {w : World} {s : Shared} {C N bt m : Addr} {q1 q2 : Tok} {Q : Value → Shared → Prop} (KX : (KN w.params).In s.heap)
    (h1 : s.heap.get? C = some ⟨.type "type", none, .cls { name := "K", bases := [.type "object"], mro := [.ref C, .type "object"], ns := N, qualname := "cmp_to_key.<locals>.K", hasDict := false, slotNames := ["obj"] }, #[some (.ref bt), none, some (.str "K" q1), some (.str "cmp_to_key.<locals>.K" q2), some (.builtin "object.__new__"), some (.bool false)]⟩)
    (h2 : s.heap.get? m = some ⟨.type "builtin_function_or_method", none, .fields #[.builtin "object.__init_subclass__", .ref C], #[]⟩)
    (hQ : ∀ h' tk, KeepH s.heap h' → Q .none ⟨h', s.gens, s.drawn, tk, s.os⟩) :
    wpAny (model pw w) (BigA none) (call (.ref m) [] []) Q NoE s := by
  x_run
theorem kn_anyop {P : Params} {M : Model} {h : Heap} (Z : (KN P).In h) (hM : M.w.params = P) : Looks M h anyOpaqueLoaded false := by
  subst hM; exact Looks.of_peek Z (by kernel_rfl)
theorem cls_noop {w : World} {h : Heap} {C : Addr} (Z : (KN w.params).In h) : Looks (model pw w) h (opaqueClassAbove (.ref C)) none := by
  unfold opaqueClassAbove
  exact Looks.now.andThen ((kn_anyop (M := model pw w) Z rfl).andThen (Looks.of_pure rfl))
theorem kn_isub {P : Params} : alongIn (KN P) "__init_subclass__" [.type "object"] = some (some (.builtin "object.__init_subclass__")) := by kernel_rfl
theorem ty_isub : typeOf (.builtin "object.__init_subclass__") = pure (.type "classmethod_descriptor") := by show builtinType _ = _; rw [builtinType_eq_fast]; kernel_rfl
theorem gt_cd : typeLookup (.type "classmethod_descriptor") "__get__" = pure (some (.builtin "classmethod_descriptor.__get__")) := by rw [typeLookup_type, builtinLookup_eq_fast]; kernel_rfl
noncomputable abbrev clsL (C N bt : Addr) (q1 q2 : Tok) : Obj := ⟨.type "type", none, .cls { name := "K", bases := [.type "object"], mro := [.ref C, .type "object"], ns := N, qualname := "cmp_to_key.<locals>.K", hasDict := false, slotNames := ["obj"] }, #[some (.ref bt), none, some (.str "K" q1), some (.str "cmp_to_key.<locals>.K" q2), some (.builtin "object.__new__"), some (.bool false)]⟩
theorem cls_mro {M : Model} {h : Heap} {C N bt : Addr} {q1 q2 : Tok} (h1 : h.get? C = some (clsL C N bt q1 q2)) : Looks M h (mroOf (.ref C)) [.ref C, .type "object"] := by
  unfold mroOf classData
  exact ((Looks.ld h1).andThen (Looks.of_pure rfl)).andThen (Looks.of_pure rfl)
section
variable {w : World} {A : Around} {E : Value → Shared → Prop} {h : Heap} {g : Array GenState} {d : Drawn} {t : Nat} {os : OsState} {so C N bt : Addr} {q1 q2 : Tok}
noncomputable abbrev supC (C : Addr) : Obj := { cls := .type "super", dict := none, data := .fields #[.ref C, .ref C, .ref C], slots := #[] }
set_option maxHeartbeats 400000 in
theorem supC_ga {tk : Tok} {name : Str} {id gid T : String} {Q : PySem.Fin → Shared → Prop} (hso : h.get? so = some (supC C)) (X : (KN w.params).In h) (h1 : h.get? C = some (clsL C N bt q1 q2))
    (hf : alongIn (KN w.params) name [.type "object"] = some (some (.builtin id))) (hT : typeOf (.builtin id) = pure (.type T)) (hg : typeLookup (.type T) "__get__" = pure (some (.builtin gid)))
    (hn : (name == ("__class__" : Str)) = false) (hq : wpAny (model pw w) A (call (.builtin gid) [.builtin id, .none, .ref C]) (fun v s' => Q (.done (.ret v)) s') E ⟨h, g, d, t, os⟩) :
    wpAny (model pw w) A (Builtin.«super.__getattribute__» ⟨[.ref so, .str name tk], []⟩) Q E ⟨h, g, d, t, os⟩ := by
  have hdt : (supC C).data = .fields #[.ref C, .ref C, .ref C] := rfl
  have f0 : (#[.ref C, .ref C, .ref C] : Array Value)[0]? = some (.ref C) := rfl
  have f1 : (#[.ref C, .ref C, .ref C] : Array Value)[1]? = some (.ref C) := rfl
  have f2 : (#[.ref C, .ref C, .ref C] : Array Value)[2]? = some (.ref C) := rfl
  have hC : Looks (model pw w) h (mroOf (.ref C)) [.ref C, .type "object"] := cls_mro h1
  have hno : Looks (model pw w) h (opaqueClassAbove (.ref C)) none := cls_noop X
  have hl : (([.ref C, .type "object"] : List Value).dropWhile (· != .ref C)).drop 1 = [.type "object"] := by simp
  unfold Builtin.«super.__getattribute__»
  iterate 10 (first
    | (with_reducible refine wpAny_field hso hdt f0 ?_) | (with_reducible refine wpAny_field hso hdt f1 ?_) | (with_reducible refine wpAny_field hso hdt f2 ?_)
    | (simp only [hn, Bool.or_false, Bool.false_eq_true, if_false])
    | wp_step
    | dsimp only)
  refine wpAny_field hso hdt f0 (wpAny_bind (wpAny_field hso hdt f1 (wpAny_bind (wpAny_field hso hdt f2 ?_))))
  rw [if_neg (by simp)]
  refine wpAny_bind (PySem.ks_wpAny_notOpaque hno ?_)
  rw [if_neg (by simp)]
  refine wpAny_bind (Looks.at hC ?_)
  rw [hl]
  refine wpAny_bind (PySem.ks_forIn_along X (fun _ _ => rfl) rfl ?_ hf)
  dsimp only
  rw [hT]
  refine wpAny_bind (wpAny_pure ?_)
  rw [hg]
  refine wpAny_bind (wpAny_pure ?_)
  dsimp only
  rw [if_pos (by simp)]
  refine wpAny_bind (wpAny_holding (wpAny_mono hq (fun v s' hv => ?_) fun _ _ e => e))
  exact wpAny_bind (wpAny_pure (wpAny_pure (wpAny_pure hv)))
set_option maxHeartbeats 400000 in
theorem supC_attr {Q : Value → Shared → Prop} (hso : h.get? so = some (supC C)) (X : (KN w.params).In h) (h1 : h.get? C = some (clsL C N bt q1 q2)) (r : Near A.in1)
    (hQ : ∀ h' tk I, KeepH h h' → h.get? I = none → h'.get? I = some { cls := .type "builtin_function_or_method", data := .fields #[.builtin "object.__init_subclass__", .ref C] } → Q (.ref I) ⟨h', g, d, tk, os⟩) :
    wpAny (model pw w) A (getAttr (.ref so) "__init_subclass__") Q E ⟨h, g, d, t, os⟩ := by
  have hlk := PySem.F.ks_slot_super_ga.lookup
  have hTs : ∀ t', (⟨h, g, d, t', os⟩ : Shared).TypeIs (.ref so) "super" := fun _ => ⟨_, hso, rfl⟩
  unfold getAttr getAttrBy
  refine (wpAny_bind (wpAny_mkText (wpAny_holding (wpAny_bind (wpAny_typeOf (hTs _) (wpAny_bind (wpAny_of_eq hlk ?_)))))))
  show wpAny _ _ (getAttrByItsOwn (.ref so) (.str "__init_subclass__" t) (.type "super") (.builtin "super.__getattribute__") true false) _ _ _
  unfold getAttrByItsOwn hookBefore callGetattribute boundAndCalled
  refine wpAny_bind (wpAny_of_eq (show (if onTheHeap (.type "super") then typeLookup (.type "super") "__getattr__" else pure none) = pure none from rfl) ?_)
  refine wpAny_bind (wpAny_attempt (wpAny_holding ?_))
  show wpAny _ _ (bindSpecial (.builtin "super.__getattribute__") (.ref so) >>= _) _ _ _
  refine wpAny_bind (wpAny_of_eq (PySem.F.ks_slot_super_ga.bind _) ?_)
  refine wpAny_mono (Q := fun v s' => handedIn v = true ∧ Q v s') (E := fun _ _ => False)
    (wpAny_call_entry PySem.F.ks_slot_super_ga (hTs _) PySem.F.ks_entry_super_ga (supC_ga hso X h1 kn_isub ty_isub gt_cd (by decide) (wpAny_mono (wpAny_big (l := none) r (fun _ e => by cases e) (cmd0 (Q := fun v s' => handedIn v = true ∧ Q v s') (s := ⟨h, g, d, t + 1, os⟩) X h1 (fun h' tk I k n e => ⟨rfl, hQ h' tk I k n e⟩))) (fun v s' hv => ⟨_, rfl, hv⟩) fun _ _ e => e.elim)) (PySem.F.ks_gaArgs_super _ _)) (fun v s' hv => ?_) fun _ _ z => z.elim
  obtain ⟨h1, h2⟩ := hv
  show wpAny _ _ (handedOut v) _ _ _
  rw [handedOut_of h1]
  exact wpAny_pure h2
end
end Mine
end
section
open PySem PySem.W PyProof.Rows PySem.Calls
set_option maxRecDepth 100000
set_option maxHeartbeats 40000000
set_option Elab.async false
set_option linter.unusedVariables false
set_option pp.deepTerms false
set_option pp.maxSteps 250
namespace Mine
theorem m_upd0 {α : Type} {prog : Program} {w : World} {A : Around} {E : Value → Shared → Prop} {Q : α → Shared → Prop} {h₀ h : Heap} {g : Array GenState} {d : Drawn} {t : Nat} {os : OsState} {chg news : List (Addr × Obj)} {a : Addr} {q : Option Value} {f : Obj → Obj} {k : Unit → Sem α} {o : Obj} (o' : Obj)
    (D : X.Mem h₀ h chg ((a, o) :: news)) (e : f o = o') (hf : o'.isFreed = false) (x : ∀ h', X.Mem h₀ h' chg ((a, o') :: news) → wpAny (model prog w) A (k ()) Q E ⟨h', g, d, t, os⟩) : wpAny (model prog w) A (.update a q f k) Q E ⟨h, g, d, t, os⟩ := by
  subst e; exact m_update D 0 rfl hf x
theorem m_upd1 {α : Type} {prog : Program} {w : World} {A : Around} {E : Value → Shared → Prop} {Q : α → Shared → Prop} {h₀ h : Heap} {g : Array GenState} {d : Drawn} {t : Nat} {os : OsState} {chg news : List (Addr × Obj)} {p : Addr × Obj} {a : Addr} {q : Option Value} {f : Obj → Obj} {k : Unit → Sem α} {o : Obj} (o' : Obj)
    (D : X.Mem h₀ h chg (p :: (a, o) :: news)) (e : f o = o') (hf : o'.isFreed = false) (x : ∀ h', X.Mem h₀ h' chg (p :: (a, o') :: news) → wpAny (model prog w) A (k ()) Q E ⟨h', g, d, t, os⟩) : wpAny (model prog w) A (.update a q f k) Q E ⟨h, g, d, t, os⟩ := by
  subst e; exact m_update D 1 rfl hf x
theorem m_upd2 {α : Type} {prog : Program} {w : World} {A : Around} {E : Value → Shared → Prop} {Q : α → Shared → Prop} {h₀ h : Heap} {g : Array GenState} {d : Drawn} {t : Nat} {os : OsState} {chg news : List (Addr × Obj)} {p p2 : Addr × Obj} {a : Addr} {q : Option Value} {f : Obj → Obj} {k : Unit → Sem α} {o : Obj} (o' : Obj)
    (D : X.Mem h₀ h chg (p :: p2 :: (a, o) :: news)) (e : f o = o') (hf : o'.isFreed = false) (x : ∀ h', X.Mem h₀ h' chg (p :: p2 :: (a, o') :: news) → wpAny (model prog w) A (k ()) Q E ⟨h', g, d, t, os⟩) : wpAny (model prog w) A (.update a q f k) Q E ⟨h, g, d, t, os⟩ := by
  subst e; exact m_update D 2 rfl hf x
noncomputable abbrev dictO (es : Array DictEntry) (n : Nat) : Obj := ⟨.type "dict", none, .dict es n, #[]⟩
theorem m_put2 {α : Type} {prog : Program} {w : World} {A : Around} {E : Value → Shared → Prop} {Q : α → Shared → Prop} {h₀ h : Heap} {g : Array GenState} {d : Drawn} {t : Nat} {os : OsState} {chg news : List (Addr × Obj)} {p p2 : Addr × Obj} {a : Addr} {q : Option Value} {k : Unit → Sem α} {es : Array DictEntry} {n : Nat} {nm : Str} {hh : Int} {tk : Tok} {v : Value}
    (D : X.Mem h₀ h chg (p :: p2 :: (a, dictO es n) :: news)) (e : ∀ hh key v, Obj.putName nm hh key v (dictO es n) = dictO (es.push ⟨hh, key, v⟩) (n + 1)) (x : ∀ h' hh tk, X.Mem h₀ h' chg (p :: p2 :: (a, dictO (es.push ⟨hh, .str nm tk, v⟩) (n + 1)) :: news) → wpAny (model prog w) A (k ()) Q E ⟨h', g, d, t, os⟩) :
    wpAny (model prog w) A (.update a q (Obj.putName nm hh (.str nm tk) v) k) Q E ⟨h, g, d, t, os⟩ := m_upd2 _ D (e _ _ _) rfl fun h' => x h' hh tk
theorem nd_tryCatch {α : Type} {M : Model} {A : Around} {E : Value → Shared → Prop} {Q : α → Shared → Prop} {s : Shared} {m : Sem α} {k : Value → Sem α} (h : wpAny M A m Q (fun e s' => wpAny M A (k e) Q E s') s) : wpAny M A (m.tryCatch k) Q E s := wpAny_tryCatch h
theorem m_eq {α : Type} {M : Model} {A : Around} {E : Value → Shared → Prop} {Q : α → Shared → Prop} {s : Shared} {t t' : Sem α} (e : t = t') (h : wpAny M A t' Q E s) : wpAny M A t Q E s := by rw [e]; exact h
noncomputable def clsO (N : Addr) (hd : Bool) (mro : List Value) (sn : List Str) (sl : Array (Option Value)) : Obj := ⟨.type "type", none, .cls { name := "K", bases := [.type "object"], mro := mro, ns := N, qualname := "cmp_to_key.<locals>.K", hasDict := hd, slotNames := sn }, sl⟩
noncomputable def bodyE2 (sl fi fl fg fe fle fge st : Addr) (H : Nat → Int) (T V : Nat → Tok) : Array DictEntry := #[⟨H 0, .str "__module__" (T 0), .str "cpy313.functools" (V 0)⟩,
  ⟨H 2, .str "__firstlineno__" (T 2), .int 124 (V 2)⟩, ⟨H 3, .str "__slots__" (T 3), .ref sl⟩, ⟨H 4, .str "__init__" (T 4), .ref fi⟩,
  ⟨H 5, .str "__lt__" (T 5), .ref fl⟩, ⟨H 6, .str "__gt__" (T 6), .ref fg⟩, ⟨H 7, .str "__eq__" (T 7), .ref fe⟩, ⟨H 8, .str "__le__" (T 8), .ref fle⟩,
  ⟨H 9, .str "__ge__" (T 9), .ref fge⟩, ⟨H 10, .str "__hash__" (T 10), .none⟩, ⟨H 11, .str "__static_attributes__" (T 11), .ref st⟩]
theorem kn_omade {P : Params} {M : Model} {h : Heap} (Z : (KN P).In h) (hM : M.w.params = P) : Looks M h (Bind.madeBy (.type "object")) (some "object.__new__") := by
  subst hM; exact Looks.of_peek Z (by kernel_rfl)
theorem kn_omadeW {w : World} {h₀ h : Heap} {news : List (Addr × Obj)} (Z : (KN w.params).In h₀) (D : X.Mem h₀ h [] news) : Looks (model pw w) h (Bind.madeBy (.type "object")) (some "object.__new__") := kn_omade (P := w.params) (fun a o e => kept_of D _ _ (Z a o e)) rfl
theorem tl_dict_iter : typeLookup (.type "dict") "__iter__" = pure (some (.builtin "dict.__iter__")) := by rw [typeLookup_type, builtinLookup_eq_fast]; kernel_rfl
theorem sn_str : typeLookup (.type "str") "__set_name__" = pure none := by rw [typeLookup_type, builtinLookup_eq_fast]; kernel_rfl
theorem sn_int : typeLookup (.type "int") "__set_name__" = pure none := by rw [typeLookup_type, builtinLookup_eq_fast]; kernel_rfl
theorem sn_list : typeLookup (.type "list") "__set_name__" = pure none := by rw [typeLookup_type, builtinLookup_eq_fast]; kernel_rfl
theorem sn_function : typeLookup (.type "function") "__set_name__" = pure none := by rw [typeLookup_type, builtinLookup_eq_fast]; kernel_rfl
theorem sn_none : typeLookup (.type "NoneType") "__set_name__" = pure none := by rw [typeLookup_type, builtinLookup_eq_fast]; kernel_rfl
theorem sn_tuple : typeLookup (.type "tuple") "__set_name__" = pure none := by rw [typeLookup_type, builtinLookup_eq_fast]; kernel_rfl
theorem sn_md : typeLookup (.type "member_descriptor") "__set_name__" = pure none := by rw [typeLookup_type, builtinLookup_eq_fast]; kernel_rfl
theorem sread' {w : World} {A : Around} {E : Value → Shared → Prop} {h₀ h : Heap} {news : List (Addr × Obj)} {nsl : Nat} {g : Array GenState} {d : Drawn} {tk : Nat} {os : OsState} {sl fi fl fg fe fle fge st : Addr} {H : Nat → Int} {T V : Nat → Tok} {to : Tok} {Q : Builtin.Slots.Plan → Shared → Prop} {bs : List Value} {es : Array DictEntry}
    (KX : (KN w.params).In h) (D : PySem.W.X.Mem h₀ h [] news)
    (hsl : h₀.get? sl = some ⟨.type "list", none, .seq [Value.str "obj" to].toArray nsl, #[]⟩) (hb : bs = [.type "object"]) (he : es = bodyE sl fi fl fg fe fle fge st H T V)
    (hQ : ∀ h' tk' a o, X.Mem h₀ h' [] ((a, o) :: news) → Q ⟨["obj"], false, false, []⟩ ⟨h', g, d, tk', os⟩) :
    wpAny (model pw w) A (Builtin.Slots.read "K" bs es) Q E ⟨h, g, d, tk, os⟩ := by
  subst hb; subst he; exact sread KX D hsl hQ
structure StopAt (p : Prop) : Prop where
  get : p
theorem stop_call {M : Model} {A : Around} {E : Value → Shared → Prop} {Q : Value → Shared → Prop} {s : Shared} {f : Value} {l : List Value} {kw : List (Str × Value)} (h : StopAt (wpAny M A (call f l kw) Q E s)) : wpAny M A (call f l kw) Q E s := h.get
theorem hooks_tail {w : World} {A : Around} {E : Value → Shared → Prop} {h : Heap} {g : Array GenState} {d : Drawn} {t : Nat} {os : OsState} {C N bt : Addr} {q1 q2 : Tok} {kw : List (Str × Value)} {Q : Unit → Shared → Prop} (X : (KN w.params).In h) (h1 : h.get? C = some (clsL C N bt q1 q2)) (r : Near A) (r1 : Near A.in1) (hk : kw = [])
    (hQ : ∀ h' tk, KeepH h h' → Q () ⟨h', g, d, tk, os⟩) :
    wpAny (model pw w) A (call (.type "super") [.ref C, .ref C]) (fun a s' => wpAny (model pw w) A (do
      let f ← holding [a] (getAttr a "__init_subclass__")
      let _ ← call f [] kw
      pure ()) Q E s') E ⟨h, g, d, t, os⟩ := by
  subst hk
  refine (wpAny_mono (wpAny_big (l := none) r (fun _ e => by cases e) (sup0 (s := ⟨h, g, d, t, os⟩) (Q := fun v s' => wpAny (model pw w) A (do
      let f ← holding [v] (getAttr v "__init_subclass__")
      let _ ← call f [] []
      pure ()) Q E s') X h1 (fun h₁ tk₁ I k1 n1 e1 => ?_))) (fun _ _ x => x) fun _ _ z => z.elim)
  have X1 : (KN w.params).In h₁ := fun a o e => k1 _ _ (X a o e)
  refine wpAny_bind (wpAny_holding (supC_attr e1 X1 (k1 _ _ h1) r1 (fun h₂ tk₂ m k2 n2 e2 => ?_)))
  have X2 : (KN w.params).In h₂ := fun a o e => k2 _ _ (X1 a o e)
  refine wpAny_bind (wpAny_mono (wpAny_big (l := none) r (fun _ e => by cases e) (isub0 (s := ⟨h₂, g, d, tk₂, os⟩) (Q := fun _ s' => wpAny (model pw w) A (pure ()) Q E s') X2 (k2 _ _ (k1 _ _ h1)) e2 (fun h₃ tk₃ k3 => ?_))) (fun _ _ x => x) fun _ _ z => z.elim)
  exact wpAny_pure (hQ _ _ fun b o e => k3 _ _ (k2 _ _ (k1 _ _ e)))
section
variable {w : World} {A : Around} {E : Value → Shared → Prop} {mg mb : Str → Option Value}
theorem tnew {h₀ h : Heap} {news : List (Addr × Obj)} {nsl nd : Nat} {g : Array GenState} {d : Drawn} {tk : Nat} {os : OsState} {bt nsA sl fi fl fg fe fle fge st : Addr} {H : Nat → Int} {T V : Nat → Tok} {to tn : Tok} {Q : PySem.Fin → Shared → Prop} (KX : (KN w.params).In h)
    (hsl : h.get? sl = some ⟨.type "list", none, .seq [Value.str "obj" to].toArray nsl, #[]⟩) (hbt : h.get? bt = some ⟨.type "tuple", none, .seq #[.type "object"] 0, #[]⟩) (hns : h.get? nsA = some ⟨.type "dict", none, .dict (bodyE sl fi fl fg fe fle fge st H T V) nd, #[]⟩)
    (hsm : (nsA == sysModules) = false)
    {ffi ffl ffg ffe ffle ffge : FuncData} {dst : Data} (hfi : h.get? fi = some ⟨.type "function", none, .func ffi, #[]⟩) (hfl : h.get? fl = some ⟨.type "function", none, .func ffl, #[]⟩) (hfg : h.get? fg = some ⟨.type "function", none, .func ffg, #[]⟩) (hfe : h.get? fe = some ⟨.type "function", none, .func ffe, #[]⟩)
    (hfle : h.get? fle = some ⟨.type "function", none, .func ffle, #[]⟩) (hfge : h.get? fge = some ⟨.type "function", none, .func ffge, #[]⟩) (hst : h.get? st = some ⟨.type "tuple", none, dst, #[]⟩)
    (r : Near A) (r1 : Near A.in1)
    (hQ : ∀ h' tk' C N dd hh8 hh9 tk8 tk9 td, KeepH h h' → h.get? C = none → h'.get? C = some (clsL C N bt tn (V 1)) → h'.get? N = some (dictO (((bodyE2 sl fi fl fg fe fle fge st H T V).push ⟨hh9, .str "obj" tk9, .ref dd⟩).push ⟨hh8, .str "__doc__" tk8, .none⟩) 3) →
      h'.get? dd = some ⟨.type "member_descriptor", none, .fields #[.str "obj" td, .ref C, .builtin "proto.slot", .builtin "proto.slot#set", .int 0 0], #[]⟩ → Q (.done (.ret (.ref C))) ⟨h', g, d, tk', os⟩) :
    wpAny (model pw w) A (Builtin.«type.__new__» ⟨[.type "type", .str "K" tn, .ref bt, .ref nsA], []⟩) Q E ⟨h, g, d, tk, os⟩ := by
  have D := PySem.W.X.Mem.start h
  unfold Builtin.«type.__new__»
  iterate 350 (try (first | ((with_reducible refine sread' (fi := fi) (fl := fl) (fg := fg) (fe := fe) (fle := fle) (fge := fge) (st := st) (H := H) (T := T) (V := V) KX D hsl ?hb ?he (fun _ _ _ _ D' => ?_)); (case hb => rfl); (case he => rfl); clear D; rename PySem.W.X.Mem _ _ _ _ => D) | (with_reducible first | refine stop_call ?_ | refine Looks.at (by assumption) ?_ | refine Looks.at (kn_omadeW KX D) ?_ | refine wpAny_of_eq tl_dict_iter ?_ | refine wpAny_of_eq sn_str ?_ | refine wpAny_of_eq sn_int ?_ | refine wpAny_of_eq sn_list ?_ | refine wpAny_of_eq sn_function ?_ | refine wpAny_of_eq sn_none ?_ | refine wpAny_of_eq sn_tuple ?_ | refine wpAny_of_eq sn_md ?_ | refine nd_falseB (by assumption) ?_) | (with_reducible first | refine wpAny_bind ?_ | refine nd_bind ?_ | refine wpAny_holding ?_ | refine wpAny_onRaise ?_ | refine nd_tryCatch ?_ | refine wpAny_pure ?_ | refine nd_pure ?_ | refine nd_rule ?_ | refine wpAny_rule ?_ | refine nd_ask ?_ | refine nd_point ?_ | refine wpAny_standAt ?_ | refine nd_load (by first | assumption | exact D.old _ _ (by assumption) rfl | exact D.at 0 _ _ rfl | exact D.at 1 _ _ rfl | exact D.at 2 _ _ rfl | exact D.at 3 _ _ rfl | exact D.at 4 _ _ rfl | exact D.at 5 _ _ rfl) ?_ | refine nd_fresh ?_) | (with_reducible refine m_alloc D rfl (fun _ _ D' => ?_); clear D; rename PySem.W.X.Mem _ _ _ _ => D) | k_node | (with_reducible first | refine nd_falseB (by kernel_rfl) ?_ | refine nd_trueB (by kernel_rfl) ?_ | refine nd_neg (by decide) ?_)))
  rename_i N _ C _
  refine m_upd0 (clsO N true [] [] #[some (.ref bt)]) D (by kernel_rfl) rfl (fun _ D' => ?_); clear D; rename PySem.W.X.Mem _ _ _ _ => D
  iterate 10 (try (first | ((with_reducible refine sread' (fi := fi) (fl := fl) (fg := fg) (fe := fe) (fle := fle) (fge := fge) (st := st) (H := H) (T := T) (V := V) KX D hsl ?hb ?he (fun _ _ _ _ D' => ?_)); (case hb => rfl); (case he => rfl); clear D; rename PySem.W.X.Mem _ _ _ _ => D) | (with_reducible first | refine stop_call ?_ | refine Looks.at (by assumption) ?_ | refine Looks.at (kn_omadeW KX D) ?_ | refine wpAny_of_eq tl_dict_iter ?_ | refine wpAny_of_eq sn_str ?_ | refine wpAny_of_eq sn_int ?_ | refine wpAny_of_eq sn_list ?_ | refine wpAny_of_eq sn_function ?_ | refine wpAny_of_eq sn_none ?_ | refine wpAny_of_eq sn_tuple ?_ | refine wpAny_of_eq sn_md ?_ | refine nd_falseB (by assumption) ?_) | (with_reducible first | refine wpAny_bind ?_ | refine nd_bind ?_ | refine wpAny_holding ?_ | refine wpAny_onRaise ?_ | refine nd_tryCatch ?_ | refine wpAny_pure ?_ | refine nd_pure ?_ | refine nd_rule ?_ | refine wpAny_rule ?_ | refine nd_ask ?_ | refine nd_point ?_ | refine wpAny_standAt ?_ | refine nd_load (by first | assumption | exact D.old _ _ (by assumption) rfl | exact D.at 0 _ _ rfl | exact D.at 1 _ _ rfl | exact D.at 2 _ _ rfl | exact D.at 3 _ _ rfl | exact D.at 4 _ _ rfl | exact D.at 5 _ _ rfl) ?_ | refine nd_fresh ?_) | (with_reducible refine m_alloc D rfl (fun _ _ D' => ?_); clear D; rename PySem.W.X.Mem _ _ _ _ => D) | k_node | (with_reducible first | refine nd_falseB (by kernel_rfl) ?_ | refine nd_trueB (by kernel_rfl) ?_ | refine nd_neg (by decide) ?_)))
  refine m_upd0 (clsO N true [] [] #[some (.ref bt), none, some (.str "K" tn)]) D (by kernel_rfl) rfl (fun _ D' => ?_); clear D; rename PySem.W.X.Mem _ _ _ _ => D
  iterate 40 (try (first | ((with_reducible refine sread' (fi := fi) (fl := fl) (fg := fg) (fe := fe) (fle := fle) (fge := fge) (st := st) (H := H) (T := T) (V := V) KX D hsl ?hb ?he (fun _ _ _ _ D' => ?_)); (case hb => rfl); (case he => rfl); clear D; rename PySem.W.X.Mem _ _ _ _ => D) | (with_reducible first | refine stop_call ?_ | refine Looks.at (by assumption) ?_ | refine Looks.at (kn_omadeW KX D) ?_ | refine wpAny_of_eq tl_dict_iter ?_ | refine wpAny_of_eq sn_str ?_ | refine wpAny_of_eq sn_int ?_ | refine wpAny_of_eq sn_list ?_ | refine wpAny_of_eq sn_function ?_ | refine wpAny_of_eq sn_none ?_ | refine wpAny_of_eq sn_tuple ?_ | refine wpAny_of_eq sn_md ?_ | refine nd_falseB (by assumption) ?_) | (with_reducible first | refine wpAny_bind ?_ | refine nd_bind ?_ | refine wpAny_holding ?_ | refine wpAny_onRaise ?_ | refine nd_tryCatch ?_ | refine wpAny_pure ?_ | refine nd_pure ?_ | refine nd_rule ?_ | refine wpAny_rule ?_ | refine nd_ask ?_ | refine nd_point ?_ | refine wpAny_standAt ?_ | refine nd_load (by first | assumption | exact D.old _ _ (by assumption) rfl | exact D.at 0 _ _ rfl | exact D.at 1 _ _ rfl | exact D.at 2 _ _ rfl | exact D.at 3 _ _ rfl | exact D.at 4 _ _ rfl | exact D.at 5 _ _ rfl) ?_ | refine nd_fresh ?_) | (with_reducible refine m_alloc D rfl (fun _ _ D' => ?_); clear D; rename PySem.W.X.Mem _ _ _ _ => D) | k_node | (with_reducible first | refine nd_falseB (by kernel_rfl) ?_ | refine nd_trueB (by kernel_rfl) ?_ | refine nd_neg (by decide) ?_)))
  refine m_upd0 (clsO N true [] [] #[some (.ref bt), none, some (.str "K" tn), some (.str "cmp_to_key.<locals>.K" (V 1))]) D (by kernel_rfl) rfl (fun _ D' => ?_); clear D; rename PySem.W.X.Mem _ _ _ _ => D
  iterate 20 (try (first | ((with_reducible refine sread' (fi := fi) (fl := fl) (fg := fg) (fe := fe) (fle := fle) (fge := fge) (st := st) (H := H) (T := T) (V := V) KX D hsl ?hb ?he (fun _ _ _ _ D' => ?_)); (case hb => rfl); (case he => rfl); clear D; rename PySem.W.X.Mem _ _ _ _ => D) | (with_reducible first | refine stop_call ?_ | refine Looks.at (by assumption) ?_ | refine Looks.at (kn_omadeW KX D) ?_ | refine wpAny_of_eq tl_dict_iter ?_ | refine wpAny_of_eq sn_str ?_ | refine wpAny_of_eq sn_int ?_ | refine wpAny_of_eq sn_list ?_ | refine wpAny_of_eq sn_function ?_ | refine wpAny_of_eq sn_none ?_ | refine wpAny_of_eq sn_tuple ?_ | refine wpAny_of_eq sn_md ?_ | refine nd_falseB (by assumption) ?_) | (with_reducible first | refine wpAny_bind ?_ | refine nd_bind ?_ | refine wpAny_holding ?_ | refine wpAny_onRaise ?_ | refine nd_tryCatch ?_ | refine wpAny_pure ?_ | refine nd_pure ?_ | refine nd_rule ?_ | refine wpAny_rule ?_ | refine nd_ask ?_ | refine nd_point ?_ | refine wpAny_standAt ?_ | refine nd_load (by first | assumption | exact D.old _ _ (by assumption) rfl | exact D.at 0 _ _ rfl | exact D.at 1 _ _ rfl | exact D.at 2 _ _ rfl | exact D.at 3 _ _ rfl | exact D.at 4 _ _ rfl | exact D.at 5 _ _ rfl) ?_ | refine nd_fresh ?_) | (with_reducible refine m_alloc D rfl (fun _ _ D' => ?_); clear D; rename PySem.W.X.Mem _ _ _ _ => D) | k_node | (with_reducible first | refine nd_falseB (by kernel_rfl) ?_ | refine nd_trueB (by kernel_rfl) ?_ | refine nd_neg (by decide) ?_)))
  refine m_upd1 (⟨.type "dict", none, .dict (bodyE2 sl fi fl fg fe fle fge st H T V) 1, #[]⟩) D (by kernel_rfl) rfl (fun _ D' => ?_); clear D; rename PySem.W.X.Mem _ _ _ _ => D
  iterate 170 (try (first | ((with_reducible refine sread' (fi := fi) (fl := fl) (fg := fg) (fe := fe) (fle := fle) (fge := fge) (st := st) (H := H) (T := T) (V := V) KX D hsl ?hb ?he (fun _ _ _ _ D' => ?_)); (case hb => rfl); (case he => rfl); clear D; rename PySem.W.X.Mem _ _ _ _ => D) | (with_reducible first | refine stop_call ?_ | refine Looks.at (by assumption) ?_ | refine Looks.at (kn_omadeW KX D) ?_ | refine wpAny_of_eq tl_dict_iter ?_ | refine wpAny_of_eq sn_str ?_ | refine wpAny_of_eq sn_int ?_ | refine wpAny_of_eq sn_list ?_ | refine wpAny_of_eq sn_function ?_ | refine wpAny_of_eq sn_none ?_ | refine wpAny_of_eq sn_tuple ?_ | refine wpAny_of_eq sn_md ?_ | refine nd_falseB (by assumption) ?_) | (with_reducible first | refine wpAny_bind ?_ | refine nd_bind ?_ | refine wpAny_holding ?_ | refine wpAny_onRaise ?_ | refine nd_tryCatch ?_ | refine wpAny_pure ?_ | refine nd_pure ?_ | refine nd_rule ?_ | refine wpAny_rule ?_ | refine nd_ask ?_ | refine nd_point ?_ | refine wpAny_standAt ?_ | refine nd_load (by first | assumption | exact D.old _ _ (by assumption) rfl | exact D.at 0 _ _ rfl | exact D.at 1 _ _ rfl | exact D.at 2 _ _ rfl | exact D.at 3 _ _ rfl | exact D.at 4 _ _ rfl | exact D.at 5 _ _ rfl) ?_ | refine nd_fresh ?_) | (with_reducible refine m_alloc D rfl (fun _ _ D' => ?_); clear D; rename PySem.W.X.Mem _ _ _ _ => D) | k_node | (with_reducible first | refine nd_falseB (by kernel_rfl) ?_ | refine nd_trueB (by kernel_rfl) ?_ | refine nd_neg (by decide) ?_)))
  have hf : List.filter (fun x => x != Value.ref C) [Value.ref C, Value.type "object"] = [Value.type "object"] := by simp
  refine m_eq (congrArg _ hf) ?_
  iterate 40 (try (first | ((with_reducible refine sread' (fi := fi) (fl := fl) (fg := fg) (fe := fe) (fle := fle) (fge := fge) (st := st) (H := H) (T := T) (V := V) KX D hsl ?hb ?he (fun _ _ _ _ D' => ?_)); (case hb => rfl); (case he => rfl); clear D; rename PySem.W.X.Mem _ _ _ _ => D) | (with_reducible first | refine stop_call ?_ | refine Looks.at (by assumption) ?_ | refine Looks.at (kn_omadeW KX D) ?_ | refine wpAny_of_eq tl_dict_iter ?_ | refine wpAny_of_eq sn_str ?_ | refine wpAny_of_eq sn_int ?_ | refine wpAny_of_eq sn_list ?_ | refine wpAny_of_eq sn_function ?_ | refine wpAny_of_eq sn_none ?_ | refine wpAny_of_eq sn_tuple ?_ | refine wpAny_of_eq sn_md ?_ | refine nd_falseB (by assumption) ?_) | (with_reducible first | refine wpAny_bind ?_ | refine nd_bind ?_ | refine wpAny_holding ?_ | refine wpAny_onRaise ?_ | refine nd_tryCatch ?_ | refine wpAny_pure ?_ | refine nd_pure ?_ | refine nd_rule ?_ | refine wpAny_rule ?_ | refine nd_ask ?_ | refine nd_point ?_ | refine wpAny_standAt ?_ | refine nd_load (by first | assumption | exact D.old _ _ (by assumption) rfl | exact D.at 0 _ _ rfl | exact D.at 1 _ _ rfl | exact D.at 2 _ _ rfl | exact D.at 3 _ _ rfl | exact D.at 4 _ _ rfl | exact D.at 5 _ _ rfl) ?_ | refine nd_fresh ?_) | (with_reducible refine m_alloc D rfl (fun _ _ D' => ?_); clear D; rename PySem.W.X.Mem _ _ _ _ => D) | k_node | (with_reducible first | refine nd_falseB (by kernel_rfl) ?_ | refine nd_trueB (by kernel_rfl) ?_ | refine nd_neg (by decide) ?_)))
  clear hf
  refine m_upd0 (clsO N true [.ref C, .type "object"] [] #[some (.ref bt), none, some (.str "K" tn), some (.str "cmp_to_key.<locals>.K" (V 1))]) D (by kernel_rfl) rfl (fun _ D' => ?_); clear D; rename PySem.W.X.Mem _ _ _ _ => D
  iterate 26 (try (first | ((with_reducible refine sread' (fi := fi) (fl := fl) (fg := fg) (fe := fe) (fle := fle) (fge := fge) (st := st) (H := H) (T := T) (V := V) KX D hsl ?hb ?he (fun _ _ _ _ D' => ?_)); (case hb => rfl); (case he => rfl); clear D; rename PySem.W.X.Mem _ _ _ _ => D) | (with_reducible first | refine stop_call ?_ | refine Looks.at (by assumption) ?_ | refine Looks.at (kn_omadeW KX D) ?_ | refine wpAny_of_eq tl_dict_iter ?_ | refine wpAny_of_eq sn_str ?_ | refine wpAny_of_eq sn_int ?_ | refine wpAny_of_eq sn_list ?_ | refine wpAny_of_eq sn_function ?_ | refine wpAny_of_eq sn_none ?_ | refine wpAny_of_eq sn_tuple ?_ | refine wpAny_of_eq sn_md ?_ | refine nd_falseB (by assumption) ?_) | (with_reducible first | refine wpAny_bind ?_ | refine nd_bind ?_ | refine wpAny_holding ?_ | refine wpAny_onRaise ?_ | refine nd_tryCatch ?_ | refine wpAny_pure ?_ | refine nd_pure ?_ | refine nd_rule ?_ | refine wpAny_rule ?_ | refine nd_ask ?_ | refine nd_point ?_ | refine wpAny_standAt ?_ | refine nd_load (by first | assumption | exact D.old _ _ (by assumption) rfl | exact D.at 0 _ _ rfl | exact D.at 1 _ _ rfl | exact D.at 2 _ _ rfl | exact D.at 3 _ _ rfl | exact D.at 4 _ _ rfl | exact D.at 5 _ _ rfl) ?_ | refine nd_fresh ?_) | (with_reducible refine m_alloc D rfl (fun _ _ D' => ?_); clear D; rename PySem.W.X.Mem _ _ _ _ => D) | k_node | (with_reducible first | refine nd_falseB (by kernel_rfl) ?_ | refine nd_trueB (by kernel_rfl) ?_ | refine nd_neg (by decide) ?_)))
  refine m_upd0 (clsO N true [.ref C, .type "object"] [] #[some (.ref bt), none, some (.str "K" tn), some (.str "cmp_to_key.<locals>.K" (V 1)), some (.builtin "object.__new__")]) D (by kernel_rfl) rfl (fun _ D' => ?_); clear D; rename PySem.W.X.Mem _ _ _ _ => D
  iterate 60 (try (first | ((with_reducible refine sread' (fi := fi) (fl := fl) (fg := fg) (fe := fe) (fle := fle) (fge := fge) (st := st) (H := H) (T := T) (V := V) KX D hsl ?hb ?he (fun _ _ _ _ D' => ?_)); (case hb => rfl); (case he => rfl); clear D; rename PySem.W.X.Mem _ _ _ _ => D) | (with_reducible first | refine stop_call ?_ | refine Looks.at (by assumption) ?_ | refine Looks.at (kn_omadeW KX D) ?_ | refine wpAny_of_eq tl_dict_iter ?_ | refine wpAny_of_eq sn_str ?_ | refine wpAny_of_eq sn_int ?_ | refine wpAny_of_eq sn_list ?_ | refine wpAny_of_eq sn_function ?_ | refine wpAny_of_eq sn_none ?_ | refine wpAny_of_eq sn_tuple ?_ | refine wpAny_of_eq sn_md ?_ | refine nd_falseB (by assumption) ?_) | (with_reducible first | refine wpAny_bind ?_ | refine nd_bind ?_ | refine wpAny_holding ?_ | refine wpAny_onRaise ?_ | refine nd_tryCatch ?_ | refine wpAny_pure ?_ | refine nd_pure ?_ | refine nd_rule ?_ | refine wpAny_rule ?_ | refine nd_ask ?_ | refine nd_point ?_ | refine wpAny_standAt ?_ | refine nd_load (by first | assumption | exact D.old _ _ (by assumption) rfl | exact D.at 0 _ _ rfl | exact D.at 1 _ _ rfl | exact D.at 2 _ _ rfl | exact D.at 3 _ _ rfl | exact D.at 4 _ _ rfl | exact D.at 5 _ _ rfl) ?_ | refine nd_fresh ?_) | (with_reducible refine m_alloc D rfl (fun _ _ D' => ?_); clear D; rename PySem.W.X.Mem _ _ _ _ => D) | k_node | (with_reducible first | refine nd_falseB (by kernel_rfl) ?_ | refine nd_trueB (by kernel_rfl) ?_ | refine nd_neg (by decide) ?_)))
  iterate 50 (try (first | ((with_reducible refine sread' (fi := fi) (fl := fl) (fg := fg) (fe := fe) (fle := fle) (fge := fge) (st := st) (H := H) (T := T) (V := V) KX D hsl ?hb ?he (fun _ _ _ _ D' => ?_)); (case hb => rfl); (case he => rfl); clear D; rename PySem.W.X.Mem _ _ _ _ => D) | (with_reducible first | refine stop_call ?_ | refine Looks.at (by assumption) ?_ | refine Looks.at (kn_omadeW KX D) ?_ | refine wpAny_of_eq tl_dict_iter ?_ | refine wpAny_of_eq sn_str ?_ | refine wpAny_of_eq sn_int ?_ | refine wpAny_of_eq sn_list ?_ | refine wpAny_of_eq sn_function ?_ | refine wpAny_of_eq sn_none ?_ | refine wpAny_of_eq sn_tuple ?_ | refine wpAny_of_eq sn_md ?_ | refine nd_falseB (by assumption) ?_) | (with_reducible first | refine wpAny_bind ?_ | refine nd_bind ?_ | refine wpAny_holding ?_ | refine wpAny_onRaise ?_ | refine nd_tryCatch ?_ | refine wpAny_pure ?_ | refine nd_pure ?_ | refine nd_rule ?_ | refine wpAny_rule ?_ | refine nd_ask ?_ | refine nd_point ?_ | refine wpAny_standAt ?_ | refine nd_load (by first | assumption | exact D.old _ _ (by assumption) rfl | exact D.at 0 _ _ rfl | exact D.at 1 _ _ rfl | exact D.at 2 _ _ rfl | exact D.at 3 _ _ rfl | exact D.at 4 _ _ rfl | exact D.at 5 _ _ rfl) ?_ | refine nd_fresh ?_) | (with_reducible refine m_alloc D rfl (fun _ _ D' => ?_); clear D; rename PySem.W.X.Mem _ _ _ _ => D) | k_node | (with_reducible first | refine nd_falseB (by kernel_rfl) ?_ | refine nd_trueB (by kernel_rfl) ?_ | refine nd_neg (by decide) ?_)))
  rename_i dd h9
  replace D : X.Mem h h9 [] ((dd, ⟨.type "member_descriptor", none, .fields #[.str "obj" _, .ref C, .builtin "proto.slot", .builtin "proto.slot#set", .int 0 0], #[]⟩) :: (C, _) :: (N, _) :: _ :: []) := D
  iterate 20 (try (first | ((with_reducible refine sread' (fi := fi) (fl := fl) (fg := fg) (fe := fe) (fle := fle) (fge := fge) (st := st) (H := H) (T := T) (V := V) KX D hsl ?hb ?he (fun _ _ _ _ D' => ?_)); (case hb => rfl); (case he => rfl); clear D; rename PySem.W.X.Mem _ _ _ _ => D) | (with_reducible first | refine stop_call ?_ | refine Looks.at (by assumption) ?_ | refine Looks.at (kn_omadeW KX D) ?_ | refine wpAny_of_eq tl_dict_iter ?_ | refine wpAny_of_eq sn_str ?_ | refine wpAny_of_eq sn_int ?_ | refine wpAny_of_eq sn_list ?_ | refine wpAny_of_eq sn_function ?_ | refine wpAny_of_eq sn_none ?_ | refine wpAny_of_eq sn_tuple ?_ | refine wpAny_of_eq sn_md ?_ | refine nd_falseB (by assumption) ?_) | (with_reducible first | refine wpAny_bind ?_ | refine nd_bind ?_ | refine wpAny_holding ?_ | refine wpAny_onRaise ?_ | refine nd_tryCatch ?_ | refine wpAny_pure ?_ | refine nd_pure ?_ | refine nd_rule ?_ | refine wpAny_rule ?_ | refine nd_ask ?_ | refine nd_point ?_ | refine wpAny_standAt ?_ | refine nd_load (by first | assumption | exact D.old _ _ (by assumption) rfl | exact D.at 0 _ _ rfl | exact D.at 1 _ _ rfl | exact D.at 2 _ _ rfl | exact D.at 3 _ _ rfl | exact D.at 4 _ _ rfl | exact D.at 5 _ _ rfl) ?_ | refine nd_fresh ?_) | (with_reducible refine m_alloc D rfl (fun _ _ D' => ?_); clear D; rename PySem.W.X.Mem _ _ _ _ => D) | k_node | (with_reducible first | refine nd_falseB (by kernel_rfl) ?_ | refine nd_trueB (by kernel_rfl) ?_ | refine nd_neg (by decide) ?_)))
  iterate 5 (try (first | ((with_reducible refine sread' (fi := fi) (fl := fl) (fg := fg) (fe := fe) (fle := fle) (fge := fge) (st := st) (H := H) (T := T) (V := V) KX D hsl ?hb ?he (fun _ _ _ _ D' => ?_)); (case hb => rfl); (case he => rfl); clear D; rename PySem.W.X.Mem _ _ _ _ => D) | (with_reducible first | refine stop_call ?_ | refine Looks.at (by assumption) ?_ | refine Looks.at (kn_omadeW KX D) ?_ | refine wpAny_of_eq tl_dict_iter ?_ | refine wpAny_of_eq sn_str ?_ | refine wpAny_of_eq sn_int ?_ | refine wpAny_of_eq sn_list ?_ | refine wpAny_of_eq sn_function ?_ | refine wpAny_of_eq sn_none ?_ | refine wpAny_of_eq sn_tuple ?_ | refine wpAny_of_eq sn_md ?_ | refine nd_falseB (by assumption) ?_) | (with_reducible first | refine wpAny_bind ?_ | refine nd_bind ?_ | refine wpAny_holding ?_ | refine wpAny_onRaise ?_ | refine nd_tryCatch ?_ | refine wpAny_pure ?_ | refine nd_pure ?_ | refine nd_rule ?_ | refine wpAny_rule ?_ | refine nd_ask ?_ | refine nd_point ?_ | refine wpAny_standAt ?_ | refine nd_load (by first | assumption | exact D.old _ _ (by assumption) rfl | exact D.at 0 _ _ rfl | exact D.at 1 _ _ rfl | exact D.at 2 _ _ rfl | exact D.at 3 _ _ rfl | exact D.at 4 _ _ rfl | exact D.at 5 _ _ rfl) ?_ | refine nd_fresh ?_) | (with_reducible refine m_alloc D rfl (fun _ _ D' => ?_); clear D; rename PySem.W.X.Mem _ _ _ _ => D) | k_node | (with_reducible first | refine nd_falseB (by kernel_rfl) ?_ | refine nd_trueB (by kernel_rfl) ?_ | refine nd_neg (by decide) ?_)))
  refine m_put2 D (fun _ _ _ => by kernel_rfl) (fun _ hh9 tk9 D' => ?_)
  clear D; rename PySem.W.X.Mem _ _ _ _ => D
  iterate 60 (try (first | ((with_reducible refine sread' (fi := fi) (fl := fl) (fg := fg) (fe := fe) (fle := fle) (fge := fge) (st := st) (H := H) (T := T) (V := V) KX D hsl ?hb ?he (fun _ _ _ _ D' => ?_)); (case hb => rfl); (case he => rfl); clear D; rename PySem.W.X.Mem _ _ _ _ => D) | (with_reducible first | refine stop_call ?_ | refine Looks.at (by assumption) ?_ | refine Looks.at (kn_omadeW KX D) ?_ | refine wpAny_of_eq tl_dict_iter ?_ | refine wpAny_of_eq sn_str ?_ | refine wpAny_of_eq sn_int ?_ | refine wpAny_of_eq sn_list ?_ | refine wpAny_of_eq sn_function ?_ | refine wpAny_of_eq sn_none ?_ | refine wpAny_of_eq sn_tuple ?_ | refine wpAny_of_eq sn_md ?_ | refine nd_falseB (by assumption) ?_) | (with_reducible first | refine wpAny_bind ?_ | refine nd_bind ?_ | refine wpAny_holding ?_ | refine wpAny_onRaise ?_ | refine nd_tryCatch ?_ | refine wpAny_pure ?_ | refine nd_pure ?_ | refine nd_rule ?_ | refine wpAny_rule ?_ | refine nd_ask ?_ | refine nd_point ?_ | refine wpAny_standAt ?_ | refine nd_load (by first | assumption | exact D.old _ _ (by assumption) rfl | exact D.at 0 _ _ rfl | exact D.at 1 _ _ rfl | exact D.at 2 _ _ rfl | exact D.at 3 _ _ rfl | exact D.at 4 _ _ rfl | exact D.at 5 _ _ rfl) ?_ | refine nd_fresh ?_) | (with_reducible refine m_alloc D rfl (fun _ _ D' => ?_); clear D; rename PySem.W.X.Mem _ _ _ _ => D) | k_node | (with_reducible first | refine nd_falseB (by kernel_rfl) ?_ | refine nd_trueB (by kernel_rfl) ?_ | refine nd_neg (by decide) ?_)))
  refine m_upd1 (clsO N false [.ref C, .type "object"] ["obj"] #[some (.ref bt), none, some (.str "K" tn), some (.str "cmp_to_key.<locals>.K" (V 1)), some (.builtin "object.__new__")]) D (by kernel_rfl) rfl (fun _ D' => ?_); clear D; rename PySem.W.X.Mem _ _ _ _ => D
  iterate 60 (try (first | ((with_reducible refine sread' (fi := fi) (fl := fl) (fg := fg) (fe := fe) (fle := fle) (fge := fge) (st := st) (H := H) (T := T) (V := V) KX D hsl ?hb ?he (fun _ _ _ _ D' => ?_)); (case hb => rfl); (case he => rfl); clear D; rename PySem.W.X.Mem _ _ _ _ => D) | (with_reducible first | refine stop_call ?_ | refine Looks.at (by assumption) ?_ | refine Looks.at (kn_omadeW KX D) ?_ | refine wpAny_of_eq tl_dict_iter ?_ | refine wpAny_of_eq sn_str ?_ | refine wpAny_of_eq sn_int ?_ | refine wpAny_of_eq sn_list ?_ | refine wpAny_of_eq sn_function ?_ | refine wpAny_of_eq sn_none ?_ | refine wpAny_of_eq sn_tuple ?_ | refine wpAny_of_eq sn_md ?_ | refine nd_falseB (by assumption) ?_) | (with_reducible first | refine wpAny_bind ?_ | refine nd_bind ?_ | refine wpAny_holding ?_ | refine wpAny_onRaise ?_ | refine nd_tryCatch ?_ | refine wpAny_pure ?_ | refine nd_pure ?_ | refine nd_rule ?_ | refine wpAny_rule ?_ | refine nd_ask ?_ | refine nd_point ?_ | refine wpAny_standAt ?_ | refine nd_load (by first | assumption | exact D.old _ _ (by assumption) rfl | exact D.at 0 _ _ rfl | exact D.at 1 _ _ rfl | exact D.at 2 _ _ rfl | exact D.at 3 _ _ rfl | exact D.at 4 _ _ rfl | exact D.at 5 _ _ rfl) ?_ | refine nd_fresh ?_) | (with_reducible refine m_alloc D rfl (fun _ _ D' => ?_); clear D; rename PySem.W.X.Mem _ _ _ _ => D) | k_node | (with_reducible first | refine nd_falseB (by kernel_rfl) ?_ | refine nd_trueB (by kernel_rfl) ?_ | refine nd_neg (by decide) ?_)))
  refine m_upd1 (clsO N false [.ref C, .type "object"] ["obj"] #[some (.ref bt), none, some (.str "K" tn), some (.str "cmp_to_key.<locals>.K" (V 1)), some (.builtin "object.__new__"), some (.bool false)]) D (by kernel_rfl) rfl (fun _ D' => ?_); clear D; rename PySem.W.X.Mem _ _ _ _ => D
  iterate 60 (try (first | ((with_reducible refine sread' (fi := fi) (fl := fl) (fg := fg) (fe := fe) (fle := fle) (fge := fge) (st := st) (H := H) (T := T) (V := V) KX D hsl ?hb ?he (fun _ _ _ _ D' => ?_)); (case hb => rfl); (case he => rfl); clear D; rename PySem.W.X.Mem _ _ _ _ => D) | (with_reducible first | refine stop_call ?_ | refine Looks.at (by assumption) ?_ | refine Looks.at (kn_omadeW KX D) ?_ | refine wpAny_of_eq tl_dict_iter ?_ | refine wpAny_of_eq sn_str ?_ | refine wpAny_of_eq sn_int ?_ | refine wpAny_of_eq sn_list ?_ | refine wpAny_of_eq sn_function ?_ | refine wpAny_of_eq sn_none ?_ | refine wpAny_of_eq sn_tuple ?_ | refine wpAny_of_eq sn_md ?_ | refine nd_falseB (by assumption) ?_) | (with_reducible first | refine wpAny_bind ?_ | refine nd_bind ?_ | refine wpAny_holding ?_ | refine wpAny_onRaise ?_ | refine nd_tryCatch ?_ | refine wpAny_pure ?_ | refine nd_pure ?_ | refine nd_rule ?_ | refine wpAny_rule ?_ | refine nd_ask ?_ | refine nd_point ?_ | refine wpAny_standAt ?_ | refine nd_load (by first | assumption | exact D.old _ _ (by assumption) rfl | exact D.at 0 _ _ rfl | exact D.at 1 _ _ rfl | exact D.at 2 _ _ rfl | exact D.at 3 _ _ rfl | exact D.at 4 _ _ rfl | exact D.at 5 _ _ rfl) ?_ | refine nd_fresh ?_) | (with_reducible refine m_alloc D rfl (fun _ _ D' => ?_); clear D; rename PySem.W.X.Mem _ _ _ _ => D) | k_node | (with_reducible first | refine nd_falseB (by kernel_rfl) ?_ | refine nd_trueB (by kernel_rfl) ?_ | refine nd_neg (by decide) ?_)))
  refine m_put2 D (fun _ _ _ => by kernel_rfl) (fun _ hh8 tk8 D' => ?_)
  clear D; rename PySem.W.X.Mem _ _ _ _ => D
  iterate 400 (try (first | ((with_reducible refine sread' (fi := fi) (fl := fl) (fg := fg) (fe := fe) (fle := fle) (fge := fge) (st := st) (H := H) (T := T) (V := V) KX D hsl ?hb ?he (fun _ _ _ _ D' => ?_)); (case hb => rfl); (case he => rfl); clear D; rename PySem.W.X.Mem _ _ _ _ => D) | (with_reducible first | refine stop_call ?_ | refine Looks.at (by assumption) ?_ | refine Looks.at (kn_omadeW KX D) ?_ | refine wpAny_of_eq tl_dict_iter ?_ | refine wpAny_of_eq sn_str ?_ | refine wpAny_of_eq sn_int ?_ | refine wpAny_of_eq sn_list ?_ | refine wpAny_of_eq sn_function ?_ | refine wpAny_of_eq sn_none ?_ | refine wpAny_of_eq sn_tuple ?_ | refine wpAny_of_eq sn_md ?_ | refine nd_falseB (by assumption) ?_) | (with_reducible first | refine wpAny_bind ?_ | refine nd_bind ?_ | refine wpAny_holding ?_ | refine wpAny_onRaise ?_ | refine nd_tryCatch ?_ | refine wpAny_pure ?_ | refine nd_pure ?_ | refine nd_rule ?_ | refine wpAny_rule ?_ | refine nd_ask ?_ | refine nd_point ?_ | refine wpAny_standAt ?_ | refine nd_load (by first | assumption | exact D.old _ _ (by assumption) rfl | exact D.at 0 _ _ rfl | exact D.at 1 _ _ rfl | exact D.at 2 _ _ rfl | exact D.at 3 _ _ rfl | exact D.at 4 _ _ rfl | exact D.at 5 _ _ rfl) ?_ | refine nd_fresh ?_) | (with_reducible refine m_alloc D rfl (fun _ _ D' => ?_); clear D; rename PySem.W.X.Mem _ _ _ _ => D) | k_node | (with_reducible first | refine nd_falseB (by kernel_rfl) ?_ | refine nd_trueB (by kernel_rfl) ?_ | refine nd_neg (by decide) ?_)))
  refine ⟨hooks_tail (C := C) (N := N) (bt := bt) (fun a o e => kept_of D _ _ (KX a o e)) (D.at 1 _ _ rfl) r r1 rfl (fun _ _ kf => ?_)⟩
  refine wpAny_pure ?_
  exact hQ _ _ C N dd _ _ _ _ _ (fun b o e => kf _ _ (kept_of D _ _ e)) (fresh_of D 1 rfl) (kf _ _ (D.at 1 _ _ rfl)) (kf _ _ (D.at 2 _ _ rfl)) (kf _ _ (D.at 0 _ _ rfl))
end
end Mine
end
section
open PySem PySem.W PyProof.Rows PySem.Calls
set_option maxRecDepth 100000
set_option maxHeartbeats 1000000
set_option Elab.async false
set_option linter.unusedVariables false
namespace Mine
theorem codeN_self {q : Str} {t : Tok} {v0 v2 v3 v4 v5 v6 v7 v8 v9 v10 v11 v12 v13 v14 v15 v16 v17 v18 : Value} :
    codeN q ⟨.type "code", none, .fields #[v0, .str q t, v2, v3, v4, v5, v6, v7, v8, v9, v10, v11, v12, v13, v14, v15, v16, v17, v18], #[]⟩ = ⟨.type "code", none, .fields #[v0, .str q t, v2, v3, v4, v5, v6, v7, v8, v9, v10, v11, v12, v13, v14, v15, v16, v17, v18], #[]⟩ := rfl
section
variable {M : Model} {A : Around} {E : Value → Shared → Prop} {s : Shared}
theorem newCode_o {ctx : CodeContext} {name q : Str} {fl ac po ko flags : Nat} {free : List Str} {isF : Bool} {l : Option (List Str × List Str)} {fd : FuncData} {Q : Value → Shared → Prop}
    (hQ : ∀ c h' tk o, KeepH s.heap h' → s.heap.objs.size ≤ c → c < h'.objs.size → h'.get? c = some (codeN q o) → Q (.ref c) { s with heap := h', toks := tk }) :
    wpAny M A (newCode ctx name q fl ac po ko flags free isF none l (some fd)) Q E s := by
  unfold newCode
  cases l <;> dsimp only
  all_goals
    repeat (with_reducible first | refine wpAny_bind ?_ | refine wpAny_mkText ?_ | refine wpAny_mkStrs fun _ => ?_ | refine wpAny_newTextTuple ?_ | refine wpAny_alloc ?_ | refine wpAny_fresh ?_ | refine wpAny_pure ?_ | dsimp only)
    refine wpAny_newObj_type ?_ (by size_fits)
    refine hQ _ _ _ _ (fun b o e => by repeat (first | exact e | refine Heap.get?_push_of_some _ ?_))
      (by simp only [Heap.size_push]; omega) (by simp only [Heap.size_push]; omega) ((Heap.get?_push_size _ rfl).trans (congrArg some codeN_self.symm))
theorem functionCode_o {env : Env} {c P : Addr} {ps : Array Value} {pos : Pos} {fl : Nat} {name q : Str} {p : Arguments} {scope : Scope} {body : FuncBody} {Q : Value → Shared → Prop}
    (hc : env.code = .ref c) (hok : s.heap.IsCode c P ps) (htab : s.heap.TableAt c P ps) (hnf : codeAmong pos ps.toList = none)
    (hQ : ∀ c' h' tk o, Heap.ExtBut P s.heap h' → s.heap.objs.size ≤ c' → c' < h'.objs.size → h'.IsCode c P (ps ++ #[rawInt pos.line, rawInt pos.col, .ref c']) → h'.TableAt c P (ps ++ #[rawInt pos.line, rawInt pos.col, .ref c']) →
      h'.get? c' = some (codeN q o) → Q (.ref c') { s with heap := h', toks := tk }) :
    wpAny M A (functionCode env pos fl name q p scope body) Q E s := by
  obtain ⟨o, vs, file, tf, flags, tg, inF, text, tt, op, ho, hd, h11, h2, h7, h9, h10, hop, hpd, htr, hne⟩ := id hok
  have e1 : op = { cls := .none, data := .fields ps } := Option.some.inj (hop.symm.trans htab.2)
  unfold functionCode codeAt
  rw [hc, if_neg (show ¬ ((Value.ref c == Value.none) = true) from Bool.false_ne_true)]
  refine wpAny_bind (wpAny_fieldsOf ho hd ?_)
  rw [h11]
  refine wpAny_bind (wpAny_fieldsOf hop hpd ?_)
  rw [hnf, h2, h7, h9, h10]
  refine wpAny_bind (newCode_o fun c' h' tk oc hk hge hlt hoc => ?_)
  have sb := Heap.SameBut.update h' P (Obj.mapFields (fun vs => if (codeAmong pos vs.toList).isSome = true then vs else vs ++ #[rawInt pos.line, rawInt pos.col, .ref c']))
  have hop' := hk _ _ hop
  refine wpAny_bind (wpAny_updateFieldsOfTheText hop' hpd ?_)
  have hnew : Obj.mapFields (fun vs => if (codeAmong pos vs.toList).isSome = true then vs else vs ++ #[rawInt pos.line, rawInt pos.col, .ref c']) op = { cls := .none, data := .fields (ps ++ #[rawInt pos.line, rawInt pos.col, .ref c']) } := by
    rw [e1]
    simp only [Obj.mapFields, hnf]
    rfl
  have hget : (h'.update P (Obj.mapFields (fun vs => if (codeAmong pos vs.toList).isSome = true then vs else vs ++ #[rawInt pos.line, rawInt pos.col, .ref c']))).get? P = some { cls := .none, data := .fields (ps ++ #[rawInt pos.line, rawInt pos.col, .ref c']) } := by
    rw [← hnew]
    exact Heap.get?_update_self _ hop' (by rw [hnew]; rfl)
  refine wpAny_bind (wpAny_fieldsOf hget rfl ?_)
  have hl : (ps ++ #[rawInt pos.line, rawInt pos.col, Value.ref c']).toList = ps.toList ++ [rawInt pos.line, rawInt pos.col, .ref c'] := by simp
  rw [hl, codeAmong_snoc _ htr hnf]
  have hcP : c' ≠ P := Nat.ne_of_gt (Nat.lt_of_lt_of_le (Heap.lt_size hop) hge)
  obtain ⟨⟨o2, vs2, ho2, hcc, hdc, h11c⟩, _⟩ := htab
  refine wpAny_pure (hQ _ _ _ oc (fun b o' hb e => sb.extBut b o' hb (hk b o' e)) hge (by rw [Heap.size_after_update]; exact hlt) ?_ ?_ ((sb.2 _ hcP).trans hoc))
  · exact ⟨o, vs, file, tf, flags, tg, inF, text, tt, _, (sb.2 _ hne).trans (hk _ _ ho), hd, h11, h2, h7, h9, h10, hget, rfl, by rw [hl]; exact TriplesOk_snoc _ _ _ _ htr, hne⟩
  · exact ⟨⟨o2, vs2, (sb.2 _ hne).trans (hk _ _ ho2), hcc, hdc, h11c⟩, hget⟩
theorem classCode_o {env : Env} {c P : Addr} {ps : Array Value} {pos : Pos} {fl : Nat} {name q : Str} {scope : Scope} {Q : Value → Shared → Prop}
    (hc : env.code = .ref c) (hok : s.heap.IsCode c P ps) (htab : s.heap.TableAt c P ps) (hnf : codeAmong pos ps.toList = none)
    (hQ : ∀ c' P' h' tk, Heap.ExtBut P s.heap h' → s.heap.objs.size ≤ c' → s.heap.objs.size ≤ P' → h'.IsCode c' P' #[] → h'.TableAt c' P' #[] → h'.CodeRec (.ref c') q →
      h'.get? P = some (tabObj (ps ++ #[rawInt pos.line, rawInt pos.col, .ref c'])) → Q (.ref c') { s with heap := h', toks := tk }) :
    wpAny M A (classCode env pos fl name q scope) Q E s := by
  obtain ⟨o, vs, file, tf, flags, tg, inF, text, tt, op, ho, hd, h11, h2, h7, h9, h10, hop, hpd, htr, hne⟩ := id hok
  have e1 : op = { cls := .none, data := .fields ps } := Option.some.inj (hop.symm.trans htab.2)
  unfold classCode codeAt
  rw [hc, if_neg (show ¬ ((Value.ref c == Value.none) = true) from Bool.false_ne_true)]
  refine wpAny_bind (wpAny_fieldsOf ho hd ?_)
  rw [h11]
  refine wpAny_bind (wpAny_fieldsOf hop hpd ?_)
  rw [hnf, h2, h7, h9, h10]
  refine wpAny_bind (wpAny_newCodeX fun c' P' h' tk hk hge hgeP hcode htab' hrec => ?_)
  have sb := Heap.SameBut.update h' P (Obj.mapFields (fun vs => if (codeAmong pos vs.toList).isSome = true then vs else vs ++ #[rawInt pos.line, rawInt pos.col, .ref c']))
  have hop' := hk _ _ hop
  refine wpAny_bind (wpAny_updateFieldsOfTheText hop' hpd ?_)
  have hnew : Obj.mapFields (fun vs => if (codeAmong pos vs.toList).isSome = true then vs else vs ++ #[rawInt pos.line, rawInt pos.col, .ref c']) op = { cls := .none, data := .fields (ps ++ #[rawInt pos.line, rawInt pos.col, .ref c']) } := by
    rw [e1]
    simp only [Obj.mapFields, hnf]
    rfl
  have hget : (h'.update P (Obj.mapFields (fun vs => if (codeAmong pos vs.toList).isSome = true then vs else vs ++ #[rawInt pos.line, rawInt pos.col, .ref c']))).get? P = some { cls := .none, data := .fields (ps ++ #[rawInt pos.line, rawInt pos.col, .ref c']) } := by
    rw [← hnew]
    exact Heap.get?_update_self _ hop' (by rw [hnew]; rfl)
  refine wpAny_bind (wpAny_fieldsOf hget rfl ?_)
  have hl : (ps ++ #[rawInt pos.line, rawInt pos.col, Value.ref c']).toList = ps.toList ++ [rawInt pos.line, rawInt pos.col, .ref c'] := by simp
  rw [hl, codeAmong_snoc _ htr hnf]
  have hcP : c' ≠ P := Nat.ne_of_gt (Nat.lt_of_lt_of_le (Heap.lt_size hop) hge)
  have hPP : P' ≠ P := Nat.ne_of_gt (Nat.lt_of_lt_of_le (Heap.lt_size hop) hgeP)
  refine wpAny_pure (hQ _ P' _ _ (fun b o' hb e => sb.extBut b o' hb (hk b o' e)) hge hgeP (hcode.extBut sb.extBut hcP hPP) (htab'.extBut sb.extBut hcP hPP) ?_ hget)
  obtain ⟨c₂, o₂, vs₂, t₂, e₂, g₂, r₂⟩ := hrec
  cases e₂
  exact ⟨_, o₂, vs₂, t₂, rfl, (sb.2 _ hcP).trans g₂, r₂⟩
end
noncomputable def fnO (name q : Str) (params : Arguments) (body : List Stmt) (scope : Scope) (clos : List (Str × Addr)) (pm ct : Value) (c' : Addr) : Obj :=
  ⟨.type "function", none, .func { name := name, qualname := q, params := params, body := .stmts body, scope := scope, globals := 3, closure := clos, defaults := .none, kwdefaults := .none, doc := .none, pyModule := pm, annotations := none, code := .ref c', closureTuple := ct, builtins := 0 }, #[]⟩
section
variable {w : World} {A : Around} {E : Value → Shared → Prop} {s : Shared} {mg : Str → Option Value}
theorem mkfn {env : Env} {c P : Addr} {ps : Array Value} {pos : Pos} {fl : Nat} {name q : Str} {params : Arguments} {scope : Scope} {body : List Stmt} {clos : List (Str × Addr)} {Q : Value → Shared → Prop}
    (hcl : closureFor scope env = pure clos) (hg0 : env.globals = 3) (hb0 : env.builtins = 0) (KX : (KN w.params).In s.heap) (hPK : ∀ a o, (KN w.params).lookup a = some o → a ≠ P) (hg : s.heap.Ns 3 mg) (hgP : (3 : Addr) ≠ P)
    (hc : env.code = .ref c) (hok : s.heap.IsCode c P ps) (htab : s.heap.TableAt c P ps) (hnf : codeAmong pos ps.toList = none) (hdoc : docOf body = none)
    (hQ : ∀ c' h' tk o ct, Heap.ExtBut P s.heap h' → s.heap.objs.size ≤ c' → c' < h'.objs.size → h'.IsCode c P (ps ++ #[rawInt pos.line, rawInt pos.col, .ref c']) → h'.TableAt c P (ps ++ #[rawInt pos.line, rawInt pos.col, .ref c']) →
      h'.get? c' = some (codeN q o) → Q (.ref h'.objs.size) { s with heap := h'.push (fnO name q params body scope clos ((mg "__name__").getD .none) ct c'), toks := tk }) :
    wpAny (model pw w) A (makeFunction name q params (.stmts body) scope env [] [] [] pos fl) Q E s := by
  rw [makeFunction_eq]
  simp only [List.zip_nil_right, List.filterMap_nil, List.isEmpty_nil, if_true, pure_bind]
  unfold makeTail
  rw [hcl, hg0, hb0]
  refine wpAny_bind (wpAny_pure ?_)
  have tail : ∀ (ct : Value) (h₁ : Heap), KeepH s.heap h₁ → s.heap.objs.size ≤ h₁.objs.size → wpAny (model pw w) A (functionCode env pos fl name q params scope (.stmts body)) (fun code s' =>
      wpAny (model pw w) A (builtinsFor 3 0) (fun b s'' => wpAny (model pw w) A (nsGet 3 "__name__") (fun nm s₃ => wpAny (model pw w) A (pure Value.none) (fun dc s₄ =>
        wpAny (model pw w) A (newObj (.type "function") (.func { name := name, qualname := q, params := params, body := .stmts body, scope := scope, globals := 3, closure := clos, closureTuple := ct, code := code, builtins := b, defaults := .none, kwdefaults := .none, annotations := none, pyModule := nm.getD .none, doc := dc })) Q E s₄) E s₃) E s'') E s') E { s with heap := h₁ } := by
    intro ct h₁ k1 hz
    refine functionCode_o (s := { s with heap := h₁ }) hc (hok.keeps k1) (htab.keeps k1) hnf fun c' h' tk o hx hge hlt hi ht ho => ?_
    have K2 : (KN w.params).In h' := fun a ob e => hx _ _ (hPK a ob e) (k1 _ _ (KX a ob e))
    refine (bf_look (M := model pw w) K2).here ?_
    refine wpAny_nsGet (m := mg) ((hg.keeps k1).extBut hx hgP) ?_
    refine wpAny_pure (wpAny_newObj_type ?_ (by size_fits))
    exact hQ c' h' tk o ct (fun b ob hb e => hx b ob hb (k1 _ _ e)) (Nat.le_trans hz hge) hlt hi ht ho
  cases clos with
  | nil =>
    simp only [List.isEmpty_nil, if_true]
    refine wpAny_bind (wpAny_pure (wpAny_bind (wpAny_mono (tail .none s.heap (fun _ _ e => e) (Nat.le_refl _)) (fun code s' h => wpAny_bind (wpAny_mono h (fun b s'' h => wpAny_bind (wpAny_mono h (fun nm s₃ h => ?_) fun _ _ x => x)) fun _ _ x => x)) fun _ _ x => x)))
    simp only [hdoc]
    exact wpAny_bind h
  | cons x r =>
    simp only [List.isEmpty_cons, Bool.false_eq_true, if_false]
    refine wpAny_bind (wpAny_newTextTuple (wpAny_bind (wpAny_mono (tail (.ref s.heap.objs.size) _ (fun b o e => Heap.get?_push_of_some _ e) (by rw [Heap.size_push]; omega)) (fun code s' h => wpAny_bind (wpAny_mono h (fun b s'' h => wpAny_bind (wpAny_mono h (fun nm s₃ h => ?_) fun _ _ x => x)) fun _ _ x => x)) fun _ _ x => x)))
    simp only [hdoc]
    exact wpAny_bind h
theorem cstore {env : Env} {nsA : Addr} {es : Array DictEntry} {n n' : Nat} {name : Str} {v : Value} {es' : Int → Tok → Array DictEntry} {Q : Unit → Shared → Prop} (hl : env.locals = nsA)
    (hs : storeName env name v = localSet env name v)
    (hns : s.heap.get? nsA = some (dictO es n)) (hr : aRefKeyMayBeTheName name es = false) (e : ∀ hh tk, Obj.putName name hh (.str name tk) v (dictO es n) = dictO (es' hh tk) n')
    (hq : ∀ h' hh tk, Heap.SameBut nsA s.heap h' → h'.get? nsA = some (dictO (es' hh tk) n') → Q () { s with heap := h', toks := s.toks + 1 }) : wpAny (model pw w) A (storeName env name v) Q E s := by
  have hls : wpAny (model pw w) A (localSet env name v) Q E s := by
    unfold localSet
    rw [hl]
    refine wpAny_bind (wpAny_load hns ?_)
    rw [if_pos (show ((dictO es n).cls == .type "dict") = true by rfl)]
    unfold nsSet strHash
    refine wpAny_bind (wpAny_bind (wpAny_askSetting (wpAny_pure ?_)))
    refine wpAny_bind (wpAny_mkText ?_)
    refine wpAny_bind (wpAny_loadPart hns ?_)
    dsimp only
    rw [if_neg (by rw [hr]; decide)]
    refine wpAny_updatePart hns ?_
    exact hq _ _ _ (Heap.SameBut.update ..) ((Heap.get?_update_self _ hns (by rw [e]; rfl)).trans (congrArg some (e _ _)))
  rw [hs]
  exact hls
structure CB (w : World) (mg : Str → Option Value) (nsA c P : Addr) (es : Array DictEntry) (n : Nat) (ps : Array Value) (h : Heap) : Prop where
  K : (KN w.params).In h
  g : h.Ns 3 mg
  ns : h.get? nsA = some (dictO es n)
  code : h.IsCode c P ps
  tab : h.TableAt c P ps
  off : ∀ a o, (KN w.params).lookup a = some o → a ≠ nsA ∧ a ≠ P
  gn : (3 : Addr) ≠ nsA
  gP : (3 : Addr) ≠ P
noncomputable abbrev KeepB (nsA P : Addr) (h h' : Heap) : Prop := ∀ b o, b ≠ nsA → b ≠ P → h.get? b = some o → h'.get? b = some o
theorem CB.ne {mg : Str → Option Value} {nsA c P : Addr} {es : Array DictEntry} {n : Nat} {ps : Array Value} {h : Heap} (B : CB w mg nsA c P es n ps h) : nsA ≠ P := ne_of_cls B.ns B.tab.2 rfl
theorem CB.nec {mg : Str → Option Value} {nsA c P : Addr} {es : Array DictEntry} {n : Nat} {ps : Array Value} {h : Heap} (B : CB w mg nsA c P es n ps h) : c ≠ nsA := by
  obtain ⟨⟨o, vs, e, hc, _⟩, _⟩ := B.tab
  exact ne_of_cls e B.ns (by rw [hc]; rfl)
theorem CB.set {mg : Str → Option Value} {nsA c P : Addr} {es es' : Array DictEntry} {n n' : Nat} {ps : Array Value} {h h' : Heap} (B : CB w mg nsA c P es n ps h) (sb : Heap.SameBut nsA h h') (e : h'.get? nsA = some (dictO es' n')) : CB w mg nsA c P es' n' ps h' :=
  ⟨fun a o x => (sb.2 a (B.off a o x).1).trans (B.K a o x), B.g.extBut sb.extBut B.gn, e, B.code.extBut sb.extBut B.nec B.ne.symm, B.tab.extBut sb.extBut B.nec B.ne.symm, B.off, B.gn, B.gP⟩
theorem cassign {mg : Str → Option Value} {env : Env} {nsA c P : Addr} {es : Array DictEntry} {n n' : Nat} {ps : Array Value} {name : Str} {v : Value} {es' : Int → Tok → Array DictEntry} {Q : Unit → Shared → Prop} (B : CB w mg nsA c P es n ps s.heap) (hl : env.locals = nsA)
    (hs : storeName env name v = localSet env name v)
    (hr : aRefKeyMayBeTheName name es = false) (e : ∀ hh tk, Obj.putName name hh (.str name tk) v (dictO es n) = dictO (es' hh tk) n')
    (hq : ∀ h' hh tk, CB w mg nsA c P (es' hh tk) n' ps h' → KeepB nsA P s.heap h' → Q () { s with heap := h', toks := s.toks + 1 }) : wpAny (model pw w) A (storeName env name v) Q E s :=
  cstore hl hs B.ns hr e fun h' hh tk sb e' => hq h' hh tk (B.set sb e') fun b o hb _ x => (sb.2 b hb).trans x
theorem cdef {mg : Str → Option Value} {env : Env} {nsA c P : Addr} {es : Array DictEntry} {n : Nat} {ps : Array Value} {name q : Str} {params : Arguments} {body : List Stmt} {scope : Scope} {pos : Pos} {clos : List (Str × Addr)} {Q : Flow → Shared → Prop} (B : CB w mg nsA c P es n ps s.heap) (hl : env.locals = nsA)
    (hs : ∀ v, storeName env name v = localSet env name v)
    (hr : aRefKeyMayBeTheName name es = false) (e : ∀ v hh tk, Obj.putName name hh (.str name tk) v (dictO es n) = dictO (es.push ⟨hh, .str name tk, v⟩) (n + 1))
    (hd0 : params.defaults = []) (hk0 : params.kw_defaults = []) (ha : annTrees params none env = []) (hqn : qualnameIn env name name = q) (hdoc : docOf body = none)
    (hcl : closureFor scope env = pure clos) (hg0 : env.globals = 3) (hb0 : env.builtins = 0) (hcd : env.code = .ref c) (hnf : codeAmong pos ps.toList = none)
    (hq : ∀ h' tk f c' o ct hh tk', CB w mg nsA c P (es.push ⟨hh, .str name tk', .ref f⟩) (n + 1) (ps ++ #[rawInt pos.line, rawInt pos.col, .ref c']) h' → KeepB nsA P s.heap h' →
      h'.get? f = some (fnO name q params body scope clos ((mg "__name__").getD .none) ct c') → h'.get? c' = some (codeN q o) → Q .next { s with heap := h', toks := tk }) :
    wpAny (model pw w) A (exec (.FunctionDef name params body [] none [] scope none name pos) env) Q E s := by
  refine nestDef_K hd0 hk0 ha ?_
  rw [hqn]
  refine mkfn (mg := mg) hcl hg0 hb0 B.K (fun a o x => (B.off a o x).2) B.g B.gP hcd B.code B.tab hnf hdoc (fun c' h' tk o ct hx hge hlt hi ht ho => ?_)
  have k2 : ∀ b ob, h'.get? b = some ob → (h'.push (fnO name q params body scope clos ((mg "__name__").getD .none) ct c')).get? b = some ob := fun b ob x => Heap.get?_push_of_some _ x
  have fget : (h'.push (fnO name q params body scope clos ((mg "__name__").getD .none) ct c')).get? h'.objs.size = some (fnO name q params body scope clos ((mg "__name__").getD .none) ct c') := Heap.get?_push_size _ rfl
  have B2 : CB w mg nsA c P es n (ps ++ #[rawInt pos.line, rawInt pos.col, .ref c']) (h'.push (fnO name q params body scope clos ((mg "__name__").getD .none) ct c')) :=
    ⟨fun a ob x => k2 _ _ (hx _ _ (B.off a ob x).2 (B.K a ob x)), (B.g.extBut hx B.gP).push _, k2 _ _ (hx _ _ B.ne B.ns), hi.push _, ht.push _, B.off, B.gn, B.gP⟩
  refine cassign (s := { s with heap := h'.push (fnO name q params body scope clos ((mg "__name__").getD .none) ct c'), toks := tk }) B2 hl (hs _) hr (fun hh tk => e _ hh tk) (fun h₂ hh tk' B3 k3 => ?_)
  have hcn : c' ≠ nsA := Nat.ne_of_gt (Nat.lt_of_lt_of_le (Heap.lt_size B.ns) hge)
  have hcP : c' ≠ P := Nat.ne_of_gt (Nat.lt_of_lt_of_le (Heap.lt_size B.tab.2) hge)
  have hfn : h'.objs.size ≠ nsA := Nat.ne_of_gt (Nat.lt_trans (Nat.lt_of_lt_of_le (Heap.lt_size B.ns) hge) hlt)
  have hfP : h'.objs.size ≠ P := Nat.ne_of_gt (Nat.lt_trans (Nat.lt_of_lt_of_le (Heap.lt_size B.tab.2) hge) hlt)
  exact hq _ _ _ c' o ct hh tk' B3 (fun b ob hb hbP x => k3 _ _ hb hbP (k2 _ _ (hx _ _ hbP x))) (k3 _ _ hfn hfP fget) (k3 _ _ hcn hcP (k2 _ _ ho))
end
end Mine
end
section
open PySem PySem.W PyProof.Rows PySem.Calls
set_option maxRecDepth 100000
set_option maxHeartbeats 4000000
set_option Elab.async false
set_option linter.unusedVariables false
namespace Mine
noncomputable def fPos : Stmt → Pos | .FunctionDef _ _ _ _ _ _ _ _ _ p => p | .ClassDef _ _ _ _ _ _ _ _ _ _ p => p | .Assign _ _ p => p | _ => default
theorem k_body : fBody clsK = [sub clsK 0, sub clsK 1, sub clsK 2, sub clsK 3, sub clsK 4, sub clsK 5, sub clsK 6, sub clsK 7, sub clsK 8] := by kernel_rfl
theorem k_0 : sub clsK 0 = .Assign [.Name "__module__" ⟨125, 8, 125, 18⟩] (.Constant (.str "cpy313.functools") 0 ⟨125, 21, 125, 39⟩) ⟨125, 8, 125, 39⟩ := by kernel_rfl
theorem k_1 : sub clsK 1 = .Assign [.Name "__slots__" ⟨126, 8, 126, 17⟩] (.List [.Constant (.str "obj") 0 ⟨126, 21, 126, 26⟩] ⟨126, 20, 126, 27⟩) ⟨126, 8, 126, 27⟩ := by kernel_rfl
theorem k_2 : sub clsK 2 = .FunctionDef "__init__" (fParams (sub clsK 2)) (fBody (sub clsK 2)) [] none [] (fScope (sub clsK 2)) none "__init__" (fPos (sub clsK 2)) := by kernel_rfl
theorem k_3 : sub clsK 3 = .FunctionDef "__lt__" (fParams (sub clsK 3)) (fBody (sub clsK 3)) [] none [] (fScope (sub clsK 3)) none "__lt__" (fPos (sub clsK 3)) := by kernel_rfl
theorem k_4 : sub clsK 4 = .FunctionDef "__gt__" (fParams (sub clsK 4)) (fBody (sub clsK 4)) [] none [] (fScope (sub clsK 4)) none "__gt__" (fPos (sub clsK 4)) := by kernel_rfl
theorem k_5 : sub clsK 5 = .FunctionDef "__eq__" (fParams (sub clsK 5)) (fBody (sub clsK 5)) [] none [] (fScope (sub clsK 5)) none "__eq__" (fPos (sub clsK 5)) := by kernel_rfl
theorem k_6 : sub clsK 6 = .FunctionDef "__le__" (fParams (sub clsK 6)) (fBody (sub clsK 6)) [] none [] (fScope (sub clsK 6)) none "__le__" (fPos (sub clsK 6)) := by kernel_rfl
theorem k_7 : sub clsK 7 = .FunctionDef "__ge__" (fParams (sub clsK 7)) (fBody (sub clsK 7)) [] none [] (fScope (sub clsK 7)) none "__ge__" (fPos (sub clsK 7)) := by kernel_rfl
theorem k_8 : sub clsK 8 = .Assign [.Name "__hash__" ⟨145, 8, 145, 16⟩] (.Constant .none 0 ⟨145, 19, 145, 23⟩) ⟨145, 8, 145, 23⟩ := by kernel_rfl
noncomputable abbrev cenvK (nsA c fr cell : Addr) : Env := { scope := fScope clsK, locals := nsA, globals := 3, cells := [("mycmp", cell)], qual := "cmp_to_key.<locals>.K.", code := .ref c, frame := some fr, builtins := 0 }
theorem st_0 {nsA c fr cell : Addr} (v : Value) : storeName (cenvK nsA c fr cell) "__module__" v = localSet (cenvK nsA c fr cell) "__module__" v := by kernel_rfl
theorem st_1 {nsA c fr cell : Addr} (v : Value) : storeName (cenvK nsA c fr cell) "__slots__" v = localSet (cenvK nsA c fr cell) "__slots__" v := by kernel_rfl
theorem st_2 {nsA c fr cell : Addr} (v : Value) : storeName (cenvK nsA c fr cell) "__init__" v = localSet (cenvK nsA c fr cell) "__init__" v := by kernel_rfl
theorem st_3 {nsA c fr cell : Addr} (v : Value) : storeName (cenvK nsA c fr cell) "__lt__" v = localSet (cenvK nsA c fr cell) "__lt__" v := by kernel_rfl
theorem st_4 {nsA c fr cell : Addr} (v : Value) : storeName (cenvK nsA c fr cell) "__gt__" v = localSet (cenvK nsA c fr cell) "__gt__" v := by kernel_rfl
theorem st_5 {nsA c fr cell : Addr} (v : Value) : storeName (cenvK nsA c fr cell) "__eq__" v = localSet (cenvK nsA c fr cell) "__eq__" v := by kernel_rfl
theorem st_6 {nsA c fr cell : Addr} (v : Value) : storeName (cenvK nsA c fr cell) "__le__" v = localSet (cenvK nsA c fr cell) "__le__" v := by kernel_rfl
theorem st_7 {nsA c fr cell : Addr} (v : Value) : storeName (cenvK nsA c fr cell) "__ge__" v = localSet (cenvK nsA c fr cell) "__ge__" v := by kernel_rfl
theorem st_8 {nsA c fr cell : Addr} (v : Value) : storeName (cenvK nsA c fr cell) "__hash__" v = localSet (cenvK nsA c fr cell) "__hash__" v := by kernel_rfl
theorem cl_2 {nsA c fr cell : Addr} : closureFor (fScope (sub clsK 2)) (cenvK nsA c fr cell) = pure [] := by kernel_rfl
theorem cl_3 {nsA c fr cell : Addr} : closureFor (fScope (sub clsK 3)) (cenvK nsA c fr cell) = pure [(("mycmp" : Str), cell)] := by kernel_rfl
theorem cl_4 {nsA c fr cell : Addr} : closureFor (fScope (sub clsK 4)) (cenvK nsA c fr cell) = pure [(("mycmp" : Str), cell)] := by kernel_rfl
theorem cl_5 {nsA c fr cell : Addr} : closureFor (fScope (sub clsK 5)) (cenvK nsA c fr cell) = pure [(("mycmp" : Str), cell)] := by kernel_rfl
theorem cl_6 {nsA c fr cell : Addr} : closureFor (fScope (sub clsK 6)) (cenvK nsA c fr cell) = pure [(("mycmp" : Str), cell)] := by kernel_rfl
theorem cl_7 {nsA c fr cell : Addr} : closureFor (fScope (sub clsK 7)) (cenvK nsA c fr cell) = pure [(("mycmp" : Str), cell)] := by kernel_rfl
section
variable {w : World} {A : Around} {E : Value → Shared → Prop} {s : Shared} {mg : Str → Option Value}
noncomputable def bodyE11 (sl fi fl fg fe fle fge : Addr) (H : Nat → Int) (T V : Nat → Tok) : Array DictEntry := #[⟨H 0, .str "__module__" (T 0), .str "cpy313.functools" (V 0)⟩, ⟨H 1, .str "__qualname__" (T 1), .str "cmp_to_key.<locals>.K" (V 1)⟩,
  ⟨H 2, .str "__firstlineno__" (T 2), .int 124 (V 2)⟩, ⟨H 3, .str "__slots__" (T 3), .ref sl⟩, ⟨H 4, .str "__init__" (T 4), .ref fi⟩, ⟨H 5, .str "__lt__" (T 5), .ref fl⟩, ⟨H 6, .str "__gt__" (T 6), .ref fg⟩, ⟨H 7, .str "__eq__" (T 7), .ref fe⟩,
  ⟨H 8, .str "__le__" (T 8), .ref fle⟩, ⟨H 9, .str "__ge__" (T 9), .ref fge⟩, ⟨H 10, .str "__hash__" (T 10), .none⟩]
theorem CB.up {mg : Str → Option Value} {nsA c P : Addr} {es : Array DictEntry} {n : Nat} {ps : Array Value} {h h' : Heap} (B : CB w mg nsA c P es n ps h) (k : KeepB nsA P h h') {a : Addr} {o : Obj} (e : h.get? a = some o) (h1 : (o.cls == .type "dict") = false) (h2 : (o.cls == .none) = false) : h'.get? a = some o :=
  k _ _ (ne_of_cls e B.ns h1) (ne_of_cls e B.tab.2 h2) e
theorem kbody {nsA c P fr cell : Addr} {h0 h1 h2 : Int} {t0 t1 t2 : Tok} {v0 : Value} {q1 q2 : Tok} {Q : Flow → Shared → Prop}
    (B : CB w mg nsA c P #[⟨h0, .str "__module__" t0, v0⟩, ⟨h1, .str "__qualname__" t1, .str "cmp_to_key.<locals>.K" q1⟩, ⟨h2, .str "__firstlineno__" t2, .int 124 q2⟩] 3 #[] s.heap)
    (hQ : ∀ h' tk (H : Nat → Int) (T V : Nat → Tok) (to : Tok) ps sl fi fl fg fe fle fge ci cl oci ocl cti ctl pm ffg ffe ffle ffge, CB w mg nsA c P (bodyE11 sl fi fl fg fe fle fge H T V) 11 ps h' → KeepB nsA P s.heap h' →
      h'.get? sl = some ⟨.type "list", none, .seq #[.str "obj" to] 0, #[]⟩ → h'.get? fi = some (fnO "__init__" "cmp_to_key.<locals>.K.__init__" (fParams (sub clsK 2)) (fBody (sub clsK 2)) (fScope (sub clsK 2)) [] pm cti ci) →
      h'.get? fl = some (fnO "__lt__" "cmp_to_key.<locals>.K.__lt__" (fParams (sub clsK 3)) (fBody (sub clsK 3)) (fScope (sub clsK 3)) [("mycmp", cell)] pm ctl cl) →
      h'.get? fg = some ⟨.type "function", none, .func ffg, #[]⟩ → h'.get? fe = some ⟨.type "function", none, .func ffe, #[]⟩ → h'.get? fle = some ⟨.type "function", none, .func ffle, #[]⟩ → h'.get? fge = some ⟨.type "function", none, .func ffge, #[]⟩ →
      h'.get? ci = some (codeN "cmp_to_key.<locals>.K.__init__" oci) → h'.get? cl = some (codeN "cmp_to_key.<locals>.K.__lt__" ocl) → Q .next { s with heap := h', toks := tk }) :
    wpAny (model pw w) A (execs (fBody clsK) (cenvK nsA c fr cell)) Q E s := by
  obtain ⟨h, g, d, tk, os⟩ := s
  dsimp only at B hQ
  rw [k_body, k_0]
  iterate 3 (walk1; (try dsimp only))
  refine cassign (s := ⟨h, g, d, _, os⟩) (es' := fun _ _ => #[⟨h0, .str "__module__" t0, .str "cpy313.functools" tk⟩, ⟨h1, .str "__qualname__" t1, .str "cmp_to_key.<locals>.K" q1⟩, ⟨h2, .str "__firstlineno__" t2, .int 124 q2⟩]) (n' := 3) B rfl (st_0 _) (by kernel_rfl) (fun _ _ => by kernel_rfl) (fun h₁ _ _ B1 k1 => ?_)
  rw [k_1]
  iterate 6 (walk1; (try dsimp only))
  refine wpAny_newList ?_ (by rw [sizeLine_eq]; simp)
  have k2 : KeepH h₁ (h₁.push { cls := .type "list", data := .seq #[.str "obj" (tk + 1 + 1)] }) := fun b o e => Heap.get?_push_of_some _ e
  have esl : (h₁.push { cls := .type "list", data := .seq #[.str "obj" (tk + 1 + 1)] }).get? h₁.objs.size = some ⟨.type "list", none, .seq #[.str "obj" (tk + 1 + 1)] 0, #[]⟩ := Heap.get?_push_size _ rfl
  have B2 : CB w mg nsA c P #[⟨h0, .str "__module__" t0, .str "cpy313.functools" tk⟩, ⟨h1, .str "__qualname__" t1, .str "cmp_to_key.<locals>.K" q1⟩, ⟨h2, .str "__firstlineno__" t2, .int 124 q2⟩] 3 #[] (h₁.push { cls := .type "list", data := .seq #[.str "obj" (tk + 1 + 1)] }) :=
    ⟨fun a o e => k2 _ _ (B1.K a o e), B1.g.push _, k2 _ _ B1.ns, B1.code.push _, B1.tab.push _, B1.off, B1.gn, B1.gP⟩
  have K2 : KeepB nsA P h (h₁.push { cls := .type "list", data := .seq #[.str "obj" (tk + 1 + 1)] }) := fun b o x y e => k2 _ _ (k1 _ _ x y e)
  clear B B1 k1 k2
  refine cassign (s := ⟨h₁.push { cls := .type "list", data := .seq #[.str "obj" (tk + 1 + 1)] }, g, d, _, os⟩) (es' := fun hh tk' => #[⟨h0, .str "__module__" t0, .str "cpy313.functools" tk⟩, ⟨h1, .str "__qualname__" t1, .str "cmp_to_key.<locals>.K" q1⟩, ⟨h2, .str "__firstlineno__" t2, .int 124 q2⟩, ⟨hh, .str "__slots__" tk', .ref h₁.objs.size⟩]) (n' := 4) B2 rfl (st_1 _) (by kernel_rfl) (fun _ _ => by kernel_rfl) (fun h₃ h3 t3 B3 k3 => ?_)
  replace esl := B2.up k3 esl rfl rfl
  have K3 : KeepB nsA P h h₃ := fun b o x y e => k3 _ _ x y (K2 _ _ x y e)
  clear B2 k3 K2
  generalize h₁.objs.size = sl at B3 esl
  rw [k_2]
  iterate 1 (walk1; (try dsimp only))
  refine cdef (s := ⟨h₃, g, d, _, os⟩) (q := "cmp_to_key.<locals>.K.__init__") B3 rfl (fun v => st_2 v) (by kernel_rfl) (fun _ _ _ => by kernel_rfl) (by kernel_rfl) (by kernel_rfl) (by kernel_rfl) (by kernel_rfl) (by kernel_rfl) cl_2 rfl rfl rfl (by kernel_rfl) (fun h4 tk4 fi cfi ocfi ctfi h_4 t_4 B4 k4 efi ecfi => ?_)
  replace esl := B3.up k4 esl rfl rfl
  have K4 : KeepB nsA P h h4 := fun b o x y e => k4 _ _ x y (K3 _ _ x y e)
  clear B3 k4 K3
  rw [k_3]
  iterate 1 (walk1; (try dsimp only))
  refine cdef (s := ⟨h4, g, d, _, os⟩) (q := "cmp_to_key.<locals>.K.__lt__") B4 rfl (fun v => st_3 v) (by kernel_rfl) (fun _ _ _ => by kernel_rfl) (by kernel_rfl) (by kernel_rfl) (by kernel_rfl) (by kernel_rfl) (by kernel_rfl) cl_3 rfl rfl rfl (by kernel_rfl) (fun h5 tk5 fl cfl ocfl ctfl h_5 t_5 B5 k5 efl ecfl => ?_)
  replace esl := B4.up k5 esl rfl rfl
  replace efi := B4.up k5 efi rfl rfl
  replace ecfi := B4.up k5 ecfi rfl rfl
  have K5 : KeepB nsA P h h5 := fun b o x y e => k5 _ _ x y (K4 _ _ x y e)
  clear B4 k5 K4
  rw [k_4]
  iterate 1 (walk1; (try dsimp only))
  refine cdef (s := ⟨h5, g, d, _, os⟩) (q := "cmp_to_key.<locals>.K.__gt__") B5 rfl (fun v => st_4 v) (by kernel_rfl) (fun _ _ _ => by kernel_rfl) (by kernel_rfl) (by kernel_rfl) (by kernel_rfl) (by kernel_rfl) (by kernel_rfl) cl_4 rfl rfl rfl (by kernel_rfl) (fun h6 tk6 fg cfg ocfg ctfg h_6 t_6 B6 k6 efg ecfg => ?_)
  replace esl := B5.up k6 esl rfl rfl
  replace efi := B5.up k6 efi rfl rfl
  replace ecfi := B5.up k6 ecfi rfl rfl
  replace efl := B5.up k6 efl rfl rfl
  replace ecfl := B5.up k6 ecfl rfl rfl
  have K6 : KeepB nsA P h h6 := fun b o x y e => k6 _ _ x y (K5 _ _ x y e)
  clear B5 k6 K5
  clear ecfg
  rw [k_5]
  iterate 1 (walk1; (try dsimp only))
  refine cdef (s := ⟨h6, g, d, _, os⟩) (q := "cmp_to_key.<locals>.K.__eq__") B6 rfl (fun v => st_5 v) (by kernel_rfl) (fun _ _ _ => by kernel_rfl) (by kernel_rfl) (by kernel_rfl) (by kernel_rfl) (by kernel_rfl) (by kernel_rfl) cl_5 rfl rfl rfl (by kernel_rfl) (fun h7 tk7 fe cfe ocfe ctfe h_7 t_7 B7 k7 efe ecfe => ?_)
  replace esl := B6.up k7 esl rfl rfl
  replace efi := B6.up k7 efi rfl rfl
  replace ecfi := B6.up k7 ecfi rfl rfl
  replace efl := B6.up k7 efl rfl rfl
  replace ecfl := B6.up k7 ecfl rfl rfl
  replace efg := B6.up k7 efg rfl rfl
  have K7 : KeepB nsA P h h7 := fun b o x y e => k7 _ _ x y (K6 _ _ x y e)
  clear B6 k7 K6
  clear ecfe
  rw [k_6]
  iterate 1 (walk1; (try dsimp only))
  refine cdef (s := ⟨h7, g, d, _, os⟩) (q := "cmp_to_key.<locals>.K.__le__") B7 rfl (fun v => st_6 v) (by kernel_rfl) (fun _ _ _ => by kernel_rfl) (by kernel_rfl) (by kernel_rfl) (by kernel_rfl) (by kernel_rfl) (by kernel_rfl) cl_6 rfl rfl rfl (by kernel_rfl) (fun h8 tk8 fle cfle ocfle ctfle h_8 t_8 B8 k8 efle ecfle => ?_)
  replace esl := B7.up k8 esl rfl rfl
  replace efi := B7.up k8 efi rfl rfl
  replace ecfi := B7.up k8 ecfi rfl rfl
  replace efl := B7.up k8 efl rfl rfl
  replace ecfl := B7.up k8 ecfl rfl rfl
  replace efg := B7.up k8 efg rfl rfl
  replace efe := B7.up k8 efe rfl rfl
  have K8 : KeepB nsA P h h8 := fun b o x y e => k8 _ _ x y (K7 _ _ x y e)
  clear B7 k8 K7
  clear ecfle
  rw [k_7]
  iterate 1 (walk1; (try dsimp only))
  refine cdef (s := ⟨h8, g, d, _, os⟩) (q := "cmp_to_key.<locals>.K.__ge__") B8 rfl (fun v => st_7 v) (by kernel_rfl) (fun _ _ _ => by kernel_rfl) (by kernel_rfl) (by kernel_rfl) (by kernel_rfl) (by kernel_rfl) (by kernel_rfl) cl_7 rfl rfl rfl (by kernel_rfl) (fun h9 tk9 fge cfge ocfge ctfge h_9 t_9 B9 k9 efge ecfge => ?_)
  replace esl := B8.up k9 esl rfl rfl
  replace efi := B8.up k9 efi rfl rfl
  replace ecfi := B8.up k9 ecfi rfl rfl
  replace efl := B8.up k9 efl rfl rfl
  replace ecfl := B8.up k9 ecfl rfl rfl
  replace efg := B8.up k9 efg rfl rfl
  replace efe := B8.up k9 efe rfl rfl
  replace efle := B8.up k9 efle rfl rfl
  have K9 : KeepB nsA P h h9 := fun b o x y e => k9 _ _ x y (K8 _ _ x y e)
  clear B8 k9 K8
  clear ecfge
  rw [k_8]
  iterate 3 (walk1; (try dsimp only))
  refine cassign (s := ⟨h9, g, d, _, os⟩) (n' := 11) (es' := fun hh tk' => #[⟨h0, .str "__module__" t0, .str "cpy313.functools" tk⟩, ⟨h1, .str "__qualname__" t1, .str "cmp_to_key.<locals>.K" q1⟩, ⟨h2, .str "__firstlineno__" t2, .int 124 q2⟩, ⟨h3, .str "__slots__" t3, .ref sl⟩, ⟨h_4, .str "__init__" t_4, .ref fi⟩, ⟨h_5, .str "__lt__" t_5, .ref fl⟩, ⟨h_6, .str "__gt__" t_6, .ref fg⟩, ⟨h_7, .str "__eq__" t_7, .ref fe⟩, ⟨h_8, .str "__le__" t_8, .ref fle⟩, ⟨h_9, .str "__ge__" t_9, .ref fge⟩, ⟨hh, .str "__hash__" tk', .none⟩]) B9 rfl (st_8 _) (by kernel_rfl) (fun _ _ => by kernel_rfl) (fun h10 h_10 t_10 B10 k10 => ?_)
  replace esl := B9.up k10 esl rfl rfl
  replace efi := B9.up k10 efi rfl rfl
  replace ecfi := B9.up k10 ecfi rfl rfl
  replace efl := B9.up k10 efl rfl rfl
  replace ecfl := B9.up k10 ecfl rfl rfl
  replace efg := B9.up k10 efg rfl rfl
  replace efe := B9.up k10 efe rfl rfl
  replace efle := B9.up k10 efle rfl rfl
  replace efge := B9.up k10 efge rfl rfl
  have K10 : KeepB nsA P h h10 := fun b o x y e => k10 _ _ x y (K9 _ _ x y e)
  refine wpAny_execs_nil ?_
  exact hQ h10 _ (fun i => [h0, h1, h2, h3, h_4, h_5, h_6, h_7, h_8, h_9, h_10].getD i 0) (fun i => [t0, t1, t2, t3, t_4, t_5, t_6, t_7, t_8, t_9, t_10].getD i 0) (fun i => [tk, q1, q2].getD i 0) _ _ sl fi fl fg fe fle fge cfi cfl ocfi ocfl ctfi ctfl _ _ _ _ _ B10 K10 esl efi efl efg efe efle efge ecfi ecfl
end
end Mine
end
section
open PySem PySem.W PyProof.Rows PySem.Calls
set_option maxRecDepth 100000
set_option maxHeartbeats 0
set_option Elab.async false
set_option linter.unusedVariables false
namespace Mine
theorem prep0 {w : World} {s : Shared} {tk : Tok} {Q : Value → Shared → Prop} (KX : (KN w.params).In s.heap)
    (hQ : ∀ h' tk I, KeepH s.heap h' → s.heap.get? I = none → h'.get? I = some { cls := .type "builtin_function_or_method", data := .fields #[.builtin "type.__prepare__", .type "type"] } → Q (.ref I) ⟨h', s.gens, s.drawn, tk, s.os⟩) :
    wpAny (model pw w) (BigA none) (call (.builtin "type.__getattribute__") [.type "type", .str "__prepare__" tk] []) Q NoE s := by
  x_run
theorem prep1 {w : World} {s : Shared} {m bt : Addr} {tn : Tok} {Q : Value → Shared → Prop} (KX : (KN w.params).In s.heap)
    (h1 : s.heap.get? m = some ⟨.type "builtin_function_or_method", none, .fields #[.builtin "type.__prepare__", .type "type"], #[]⟩)
    (hQ : ∀ h' tk I, KeepH s.heap h' → s.heap.get? I = none → h'.get? I = some (dictO #[] 0) → Q (.ref I) ⟨h', s.gens, s.drawn, tk, s.os⟩) :
    wpAny (model pw w) (BigA none) (call (.ref m) [.str "K" tn, .ref bt] []) Q NoE s := by
  x_run
theorem tl_type_ga : typeLookup (.type "type") "__getattribute__" = pure (some (.builtin "type.__getattribute__")) := by rw [typeLookup_type, builtinLookup_eq_fast]; kernel_rfl
theorem tl_type_init : Slot "type" "__init__" "type.__init__" := .of (owner := "type") (n := "__init__") (by rw [typeLookup_type, builtinLookup_eq_fast]; kernel_rfl) (by decide +kernel) (by decide +kernel) (by decide +kernel)
  (by first | exact .inl (by decide +kernel) | exact .inr (by decide +kernel)) (by rw [isSubtype_type]; kernel_rfl)
theorem en_type_init : entryFor table "type.__init__" = some Builtin.«type.__init__» := entryFor_of_tree (by kernel_rfl)
theorem en_type_new : entryFor table "type.__new__" = some Builtin.«type.__new__» := entryFor_of_tree (by kernel_rfl)
theorem pl_type_new : plainId "type.__new__" = true := by decide +kernel
theorem mb_type : Bind.madeBy (.type "type") = pure (some "type.__new__") := madeBy_type (c := .type "type") (tl := [.type "object"]) (by rw [mroOf_type]; kernel_rfl) (by rw [typeLookup_type, builtinLookup_eq_fast]; kernel_rfl) (by decide +kernel)
end Mine
end
section
open PySem PySem.W PyProof.Rows PySem.Calls
set_option maxRecDepth 100000
set_option maxHeartbeats 4000000
set_option Elab.async false
set_option linter.unusedVariables false
set_option pp.maxSteps 3000
namespace Mine
theorem NearR.near2 {A : Around} {d u : Nat} (r : NearR A d (u + 3)) : Near A.in1.in1 := (NearR.in1 (u := u + 1) (NearR.in1 (u := u + 2) r)).near
theorem NearR.near3 {A : Around} {d u : Nat} (r : NearR A d (u + 3)) : Near A.in1.in1.in1 := (NearR.in1 (u := u) (NearR.in1 (u := u + 1) (NearR.in1 (u := u + 2) r))).near
theorem kn_issub_C {M : Model} {h : Heap} {C N bt : Addr} {q1 q2 : Tok} (h1 : h.get? C = some (clsL C N bt q1 q2)) : Looks M h (isInstance (.ref C) (.type "type")) true := by
  unfold isInstance
  have L0 : Looks M h (typeOf (.ref C)) (.type "type") := (Looks.ld h1).andThen .now
  exact L0.andThen (Looks.of_pure (by rw [isSubtype_type]; kernel_rfl))
section
variable {w : World} {A : Around} {E : Value → Shared → Prop}
theorem type_call {h : Heap} {nsl nd : Nat} {g : Array GenState} {d : Drawn} {tk : Nat} {os : OsState} {bt nsA sl fi fl fg fe fle fge st : Addr} {H : Nat → Int} {T V : Nat → Tok} {to tn : Tok} {Q : Value → Shared → Prop} (KX : (KN w.params).In h)
    (hsl : h.get? sl = some ⟨.type "list", none, .seq [Value.str "obj" to].toArray nsl, #[]⟩) (hbt : h.get? bt = some ⟨.type "tuple", none, .seq #[.type "object"] 0, #[]⟩) (hns : h.get? nsA = some ⟨.type "dict", none, .dict (bodyE sl fi fl fg fe fle fge st H T V) nd, #[]⟩) (hsm : (nsA == sysModules) = false)
    {ffi ffl ffg ffe ffle ffge : FuncData} {dst : Data} (hfi : h.get? fi = some ⟨.type "function", none, .func ffi, #[]⟩) (hfl : h.get? fl = some ⟨.type "function", none, .func ffl, #[]⟩) (hfg : h.get? fg = some ⟨.type "function", none, .func ffg, #[]⟩) (hfe : h.get? fe = some ⟨.type "function", none, .func ffe, #[]⟩)
    (hfle : h.get? fle = some ⟨.type "function", none, .func ffle, #[]⟩) (hfge : h.get? fge = some ⟨.type "function", none, .func ffge, #[]⟩) (hst : h.get? st = some ⟨.type "tuple", none, dst, #[]⟩) (r : NearR A 20 60)
    (hQ : ∀ h' tk' C N dd hh8 hh9 tk8 tk9 td, KeepH h h' → h.get? C = none → h'.get? C = some (clsL C N bt tn (V 1)) → h'.get? N = some (dictO (((bodyE2 sl fi fl fg fe fle fge st H T V).push ⟨hh9, .str "obj" tk9, .ref dd⟩).push ⟨hh8, .str "__doc__" tk8, .none⟩) 3) →
      h'.get? dd = some ⟨.type "member_descriptor", none, .fields #[.str "obj" td, .ref C, .builtin "proto.slot", .builtin "proto.slot#set", .int 0 0], #[]⟩ → Q (.ref C) ⟨h', g, d, tk', os⟩) :
    wpAny (model pw w) A (call (.type "type") [.str "K" tn, .ref bt, .ref nsA] []) Q E ⟨h, g, d, tk, os⟩ := by
  have hmade := mb_type
  refine wpAny_call (codeAny_of_tree ?_)
  show wpAny _ _ (callAny (.type "type") _) _ _ _
  refine wpAny_pure ⟨Code.quiet_builtin _ (by decide +kernel), codeAny_builtin F.entry_type_call ?_⟩
  rw [Around.under_plain (weight_type_call_type "type" _ []) (units_type_call_type "type" _ [])]
  have h2 : ((Manifest.find? "type").bind (·.mro.findSome? fun t => (Manifest.find? t).bind fun b => if b.noNew then some true else if b.attrs.any (·.1 == "__new__") then some false else none)).getD false = false := by decide +kernel
  have hct : checkTypeCall "type" ⟨[.str "K" tn, .ref bt, .ref nsA], []⟩ = pure () := by kernel_rfl
  have hmro : mroOf (.type "type") = pure (.type "type" :: [.type "object"]) := by rw [mroOf_type]; kernel_rfl
  unfold Builtin.«type.__call__»
  repeat (any_goals (first | assumption | wp_step))
  have hcn : checkBuiltinCall "type.__new__" ⟨[.type "type", .str "K" tn, .ref bt, .ref nsA], []⟩ = pure () := by kernel_rfl
  refine codeAny_call_builtin pl_type_new en_type_new (wpAny_of_eq hcn (tnew (h₀ := h) (news := []) KX hsl hbt hns hsm hfi hfl hfg hfe hfle hfge hst (NearR.near2 (u := 57) r) (NearR.near3 (u := 57) r) (fun h₁ tk₁ C N dd hh8 hh9 tk8 tk9 td k1 n1 e1 eN ed => ?_)))
  have L1 := kn_issub_C (M := model pw w) e1
  dsimp only
  refine wpAny_bind (L1.at ?_)
  simp only [Bool.not_true, Bool.false_eq_true, if_false]
  have hli := tl_type_init.lookup
  have hbi := tl_type_init.bind (.ref C)
  have hT : (⟨h₁, g, d, tk₁, os⟩ : Shared).TypeIs (.ref C) "type" := ⟨_, e1, rfl⟩
  repeat (any_goals (first | assumption | wp_step))
  have hok : argsOk "type.__init__" ⟨.ref C :: [.str "K" tn, .ref bt, .ref nsA], []⟩ := by unfold argsOk; kernel_rfl
  refine codeAny_call_builtin tl_type_init.plain en_type_init (tl_type_init.check _ _ _ _ _ _ _ _ hT hok ?_)
  unfold Builtin.«type.__init__»
  refine wpAny_of_eq (show _ = pure (Fin.done (.ret .none)) from rfl) ?_
  refine wpAny_pure ?_
  exact wpAny_pure (hQ h₁ _ C N dd hh8 hh9 tk8 tk9 td k1 n1 e1 eN ed)
end
end Mine
end
section
open PySem PySem.W PyProof.Rows PySem.Calls
set_option maxRecDepth 100000
set_option maxHeartbeats 4000000
set_option Elab.async false
set_option linter.unusedVariables false
set_option pp.maxSteps 3000
namespace Mine
theorem m_ctk (P : Params) : FnAt' P 226 "cmp_to_key" "cmp_to_key" (stm 13) [] 225 .none := ⟨by kernel_rfl, by kernel_rfl, by kernel_rfl, by kernel_rfl⟩
section
variable {w : World} {A : Around} {E : Value → Shared → Prop} {s : Shared} {mg mb : Str → Option Value}
noncomputable abbrev envC (L0 cell : Addr) : Env := { scope := fScope (stm 13), locals := L0, globals := 3, cells := [("mycmp", cell)], qual := "cmp_to_key.<locals>.", func := some 226, code := .ref 225, frame := some L0, builtins := 0 }
theorem k_cls : clsK = .ClassDef "K" [.Name "object" ⟨124, 12, 124, 18⟩] [] (fBody clsK) [] [] (fScope clsK) none "K" ["obj"] ⟨124, 4, 145, 23⟩ := by kernel_rfl
theorem kn_one {P : Params} : (KN P).lookup 1 = some (obK 1 P) := by kernel_rfl
theorem kn_guard {w : World} {h : Heap} {L0 cell : Addr} (Z : (KN w.params).In h) : Looks (model pw w) h (buildClassGuard (envC L0 cell)) () := Looks.of_peek Z (by kernel_rfl)
theorem evalArgs_false {M : Model} {f : Value} {x : Sem Value} {rest : List (Bool × Sem Value)} {Q : Args → Shared → Prop}
    (h : wpAny M A (spliced ((false, x) :: rest)) (fun vs s' => Q ⟨vs, []⟩ s') E s) : wpAny M A (evalArgs f false ((false, x) :: rest) []) Q E s := by
  unfold evalArgs
  refine wpAny_bind (wpAny_mono h (fun vs s' h' => ?_) fun _ _ x => x)
  refine wpAny_bind (wpAny_pure (wpAny_holding ?_))
  exact wpAny_bind (wpAny_pure (wpAny_bind (wpAny_pure (wpAny_pure (by simpa using h')))))
theorem slot_type_ga : Slot "type" "__getattribute__" "type.__getattribute__" := .of (owner := "type") (n := "__getattribute__") (by rw [typeLookup_type, builtinLookup_eq_fast]; kernel_rfl) (by decide +kernel) (by decide +kernel) (by decide +kernel)
  (by first | exact .inl (by decide +kernel) | exact .inr (by decide +kernel)) (by rw [isSubtype_type]; kernel_rfl)
theorem prep_attr {h : Heap} {g : Array GenState} {d : Drawn} {t : Nat} {os : OsState} {Q : Option Value → Shared → Prop} (X : (KN w.params).In h) (r : Near A)
    (hQ : ∀ h' tk I, KeepH h h' → h.get? I = none → h'.get? I = some { cls := .type "builtin_function_or_method", data := .fields #[.builtin "type.__prepare__", .type "type"] } → Q (some (.ref I)) ⟨h', g, d, tk, os⟩) :
    wpAny (model pw w) A (getAttr? (.type "type") "__prepare__") Q E ⟨h, g, d, t, os⟩ := by
  unfold getAttr? getAttrBy? getAttrBy
  refine wpAny_bind (wpAny_mkText ?_)
  refine wpAny_bind (wpAny_attempt (wpAny_holding ?_))
  refine wpAny_bind (wpAny_of_eq (show typeOf (.type "type") = pure (.type "type") from rfl) ?_)
  refine wpAny_bind (wpAny_of_eq tl_type_ga ?_)
  show wpAny _ _ (getAttrByItsOwn (.type "type") (.str "__prepare__" t) (.type "type") (.builtin "type.__getattribute__") false false) _ _ _
  unfold getAttrByItsOwn hookBefore callGetattribute boundAndCalled
  refine wpAny_bind (wpAny_of_eq (show (if onTheHeap (.type "type") then typeLookup (.type "type") "__getattr__" else pure none) = pure none from rfl) ?_)
  refine wpAny_bind (wpAny_attempt (wpAny_holding ?_))
  show wpAny _ _ (bindSpecial (.builtin "type.__getattribute__") (.type "type") >>= _) _ _ _
  refine wpAny_bind (wpAny_of_eq (slot_type_ga.bind _) ?_)
  refine wpAny_mono (wpAny_big (l := none) r (fun _ e => by cases e) (prep0 (s := ⟨h, g, d, t + 1, os⟩) (Q := fun v s' => handedIn v = true ∧ Q (some v) s') X (fun h' tk I k n e => ⟨rfl, hQ h' tk I k n e⟩))) (fun v s' hv => ?_) fun _ _ e => e.elim
  show wpAny _ _ (handedOut v) _ _ _
  rw [handedOut_of hv.1]
  exact wpAny_pure (wpAny_pure hv.2)
end
end Mine
end
section
open PySem PySem.W PyProof.Rows PySem.Calls
set_option maxRecDepth 100000
set_option maxHeartbeats 4000000
set_option Elab.async false
set_option linter.unusedVariables false
set_option pp.maxSteps 3000
namespace Mine
theorem to_obj : typeOf (.type "object") = pure (.type "type") := by kernel_rfl
theorem st_tt : isSubtype (.type "type") (.type "type") = pure true := by rw [isSubtype_type]; kernel_rfl
theorem tl_dict_gi : typeLookup (.type "dict") "__getitem__" = pure (some (.builtin "dict.__getitem__")) := by rw [typeLookup_type, builtinLookup_eq_fast]; kernel_rfl
theorem stop_attr {M : Model} {A : Around} {E : Value → Shared → Prop} {Q : Option Value → Shared → Prop} {s : Shared} {f : Value} {n : Str} (h : StopAt (wpAny M A (getAttr? f n) Q E s)) : wpAny M A (getAttr? f n) Q E s := h.get
theorem stop_cc {M : Model} {A : Around} {E : Value → Shared → Prop} {Q : Value → Shared → Prop} {s : Shared} {env : Env} {pos : Pos} {fl : Nat} {n q : Str} {sc : Scope} (h : StopAt (wpAny M A (classCode env pos fl n q sc) Q E s)) : wpAny M A (classCode env pos fl n q sc) Q E s := h.get
section
variable {w : World} {A : Around} {E : Value → Shared → Prop} {s : Shared} {mg mb : Str → Option Value}
theorem hd_ctk {P : Params} {h : Heap} (Z : (KN P).In h) : CodeHd h 225 221 := codeHd_of_K Z (by kernel_rfl)
theorem cl_K {L0 cell : Addr} : closureFor (fScope clsK) (envC L0 cell) = pure [(("mycmp" : Str), cell)] := by kernel_rfl
theorem step221 {h h' : Heap} {a b c : Value} (e : h.get? 221 = some (tabObj #[])) (hx : Heap.ExtBut 221 h h') (e' : h'.get? 221 = some (tabObj #[a, b, c])) (ok : TriplesOk [a, b, c]) : StepH [] h h' :=
  ⟨fun x o _ ht q => hx x o (fun z => ht (z ▸ by decide)) q, fun t ht ps q o => by
    by_cases z : t = 221
    · subst z; rw [e] at q; cases q; exact ⟨#[a, b, c], by simpa using e', by simpa using ok⟩
    · exact ⟨#[], by rw [Array.append_empty]; exact hx _ _ z q, by rw [Array.append_empty]; exact o⟩⟩
theorem st_q {nsA c fr cell : Addr} (v : Value) : storeName (cenvK nsA c fr cell) "__qualname__" v = localSet (cenvK nsA c fr cell) "__qualname__" v := by kernel_rfl
theorem st_f {nsA c fr cell : Addr} (v : Value) : storeName (cenvK nsA c fr cell) "__firstlineno__" v = localSet (cenvK nsA c fr cell) "__firstlineno__" v := by kernel_rfl
theorem st_s {nsA c fr cell : Addr} (v : Value) : storeName (cenvK nsA c fr cell) "__static_attributes__" v = localSet (cenvK nsA c fr cell) "__static_attributes__" v := by kernel_rfl
theorem ld_name {nsA c fr cell : Addr} {v : Value} {h : Heap} {g : Array GenState} {d : Drawn} {t : Nat} {os : OsState} {Q : Value → Shared → Prop} (hns : h.get? nsA = some (dictO #[] 0)) (hg : h.Ns 3 mg) (hm : mg "__name__" = some v) (hq : Q v ⟨h, g, d, t, os⟩) :
    wpAny (model pw w) A (loadName (cenvK nsA c fr cell) "__name__") Q E ⟨h, g, d, t, os⟩ := by
  unfold loadName
  iterate 30 (try (first | with_reducible refine wpAny_nsGet hg ?_ | (first | (with_reducible first | refine stop_call ?_ | refine stop_attr ?_ | refine stop_cc ?_ | refine wpAny_of_eq to_obj ?_ | refine wpAny_of_eq st_tt ?_ | refine wpAny_of_eq tl_dict_gi ?_ | refine Looks.at (by assumption) ?_ | refine wpAny_of_eq tl_dict_iter ?_ | refine nd_falseB (by assumption) ?_) | (with_reducible first | refine wpAny_bind ?_ | refine nd_bind ?_ | refine wpAny_holding ?_ | refine wpAny_onRaise ?_ | refine nd_tryCatch ?_ | refine wpAny_pure ?_ | refine nd_pure ?_ | refine nd_rule ?_ | refine wpAny_rule ?_ | refine nd_ask ?_ | refine nd_point ?_ | refine wpAny_standAt ?_ | refine nd_load (by first | assumption | exact D.old _ _ (by assumption) rfl | exact D.at 0 _ _ rfl | exact D.at 1 _ _ rfl | exact D.at 2 _ _ rfl | exact D.at 3 _ _ rfl | exact D.at 4 _ _ rfl | exact D.at 5 _ _ rfl) ?_ | refine nd_fresh ?_) | (with_reducible refine m_alloc D rfl (fun _ _ D' => ?_); clear D; rename PySem.W.X.Mem _ _ _ _ => D) | k_node | (with_reducible first | refine nd_falseB (by kernel_rfl) ?_ | refine nd_trueB (by kernel_rfl) ?_ | refine nd_neg (by decide) ?_))))
  rw [hm]
  exact wpAny_pure hq
theorem mk_one {M : Model} {x : Str} {Q : List Value → Shared → Prop} (h : Q [.str x s.toks] { s with toks := s.toks + 1 }) : wpAny M A ([x].mapM mkText) Q E s := by
  rw [List.mapM_cons]
  refine wpAny_bind (wpAny_mkText (wpAny_bind ?_))
  rw [List.mapM_nil]
  exact wpAny_pure (wpAny_pure h)
theorem CB.keep {nsA c P : Addr} {es : Array DictEntry} {n : Nat} {ps : Array Value} {h h' : Heap} (B : CB w mg nsA c P es n ps h) (k : KeepH h h') : CB w mg nsA c P es n ps h' :=
  ⟨fun a o e => k _ _ (B.K a o e), B.g.keeps k, k _ _ B.ns, B.code.keeps k, B.tab.keeps k, B.off, B.gn, B.gP⟩
theorem top_noTabC {P : Params} {b : Addr} (h : Top P b = false) : b ∉ Tabs := fun q => by
  unfold Top at h
  rw [Bool.or_eq_false_iff] at h
  have h2 := h.2
  rw [← Bool.not_eq_true] at h2
  exact h2 (by simpa using q)
theorem class_def {L0 cell : Addr} {f : Value} {Q : Flow → Shared → Prop} (X : Ctx0 w mg mb s.heap) (e221 : s.heap.get? 221 = some (tabObj #[])) (hL : s.heap.get? L0 = some ⟨.type "frame", none, .dict #[] 0, #[]⟩) (hc : s.heap.get? cell = some ⟨.type "cell", none, .cell (some f), #[]⟩)
    (ht : Top w.params L0 = false) (r : NearR A 29 97)
    (hQ : ∀ h' tk C fi fl, StepH [L0] s.heap h' → KAt h' C fi fl cell f → h'.Ns L0 (fun x => if x = "K" then some (.ref C) else none) → Q .next { s with heap := h', toks := tk }) :
    wpAny (model pw w) A (exec clsK (envC L0 cell)) Q E s := by
  have ht' := ht
  obtain ⟨h, g, d, tk, os⟩ := s
  dsimp only at X e221 hL hc
  rw [k_cls, arm_exec_ClassDef]
  refine wpAny_bind (wpAny_of_eq (show evalAll (evalEach [] _) = pure [] from rfl) ?_)
  refine wpAny_bind (wpAny_standAt ?_)
  refine wpAny_bind ((kn_guard X.K).at ?_)
  refine wpAny_bind (wpAny_holding ?_)
  refine wpAny_bind (evalArgs_false (x := eval (.Name "object" ⟨124, 12, 124, 18⟩) (envC L0 cell)) (rest := []) ?_)
  refine spliced_cons (nm_builtin X.G.g (X.G.names.free _ (by simp)) X.G.b (X.G.bi "object" _ (by decide) b_object) (spliced_nil ?_))
  refine wpAny_bind (wpAny_standAt (wpAny_holding ?_))
  unfold buildClass
  refine wpAny_bind (wpAny_newTuple ?_ (by rw [sizeLine_eq]; simp))
  have k1 : KeepH h (h.push { cls := .type "tuple", data := .seq [Value.type "object"].toArray }) := fun b o e => Heap.get?_push_of_some _ e
  have ebt : (h.push { cls := .type "tuple", data := .seq [Value.type "object"].toArray }).get? h.objs.size = some ⟨.type "tuple", none, .seq #[.type "object"] 0, #[]⟩ := Heap.get?_push_size _ rfl
  have nbt : h.get? h.objs.size = none := Heap.get?_none_of_le (Nat.le_refl _)
  generalize h.push { cls := .type "tuple", data := .seq [Value.type "object"].toArray } = h₁ at k1 ebt ⊢
  iterate 60 (try (first | (with_reducible first | refine stop_call ?_ | refine stop_attr ?_ | refine stop_cc ?_ | refine wpAny_of_eq to_obj ?_ | refine wpAny_of_eq st_tt ?_ | refine wpAny_of_eq tl_dict_gi ?_ | refine Looks.at (by assumption) ?_ | refine wpAny_of_eq tl_dict_iter ?_ | refine nd_falseB (by assumption) ?_) | (with_reducible first | refine wpAny_bind ?_ | refine nd_bind ?_ | refine wpAny_holding ?_ | refine wpAny_onRaise ?_ | refine nd_tryCatch ?_ | refine wpAny_pure ?_ | refine nd_pure ?_ | refine nd_rule ?_ | refine wpAny_rule ?_ | refine nd_ask ?_ | refine nd_point ?_ | refine wpAny_standAt ?_ | refine nd_load (by first | assumption | exact D.old _ _ (by assumption) rfl | exact D.at 0 _ _ rfl | exact D.at 1 _ _ rfl | exact D.at 2 _ _ rfl | exact D.at 3 _ _ rfl | exact D.at 4 _ _ rfl | exact D.at 5 _ _ rfl) ?_ | refine nd_fresh ?_) | (with_reducible refine m_alloc D rfl (fun _ _ D' => ?_); clear D; rename PySem.W.X.Mem _ _ _ _ => D) | k_node | (with_reducible first | refine nd_falseB (by kernel_rfl) ?_ | refine nd_trueB (by kernel_rfl) ?_ | refine nd_neg (by decide) ?_)))
  have X1 := X.step (.of_keep k1)
  refine ⟨prep_attr X1.K r.near (fun h₂ tk₂ m k2 n2 e2 => ?_)⟩
  iterate 20 (try (first | (with_reducible first | refine stop_call ?_ | refine stop_attr ?_ | refine stop_cc ?_ | refine wpAny_of_eq to_obj ?_ | refine wpAny_of_eq st_tt ?_ | refine wpAny_of_eq tl_dict_gi ?_ | refine Looks.at (by assumption) ?_ | refine wpAny_of_eq tl_dict_iter ?_ | refine nd_falseB (by assumption) ?_) | (with_reducible first | refine wpAny_bind ?_ | refine nd_bind ?_ | refine wpAny_holding ?_ | refine wpAny_onRaise ?_ | refine nd_tryCatch ?_ | refine wpAny_pure ?_ | refine nd_pure ?_ | refine nd_rule ?_ | refine wpAny_rule ?_ | refine nd_ask ?_ | refine nd_point ?_ | refine wpAny_standAt ?_ | refine nd_load (by first | assumption | exact D.old _ _ (by assumption) rfl | exact D.at 0 _ _ rfl | exact D.at 1 _ _ rfl | exact D.at 2 _ _ rfl | exact D.at 3 _ _ rfl | exact D.at 4 _ _ rfl | exact D.at 5 _ _ rfl) ?_ | refine nd_fresh ?_) | (with_reducible refine m_alloc D rfl (fun _ _ D' => ?_); clear D; rename PySem.W.X.Mem _ _ _ _ => D) | k_node | (with_reducible first | refine nd_falseB (by kernel_rfl) ?_ | refine nd_trueB (by kernel_rfl) ?_ | refine nd_neg (by decide) ?_)))
  have X2 := X1.step (.of_keep k2)
  refine ⟨wpAny_big (l := none) r.near (fun _ e => by cases e) (wpAny_mono (prep1 (s := ⟨h₂, g, d, tk₂, os⟩) X2.K e2 (fun h₃ tk₃ nsA k3 n3 e3 => ?_)) (fun _ _ y => y) fun _ _ y => y.elim)⟩
  have X3 := X2.step (.of_keep k3)
  have hsm : (nsA == sysModules) = false := by
    have : nsA ≠ 1 := fun q => by
      have e := X2.K _ _ kn_one
      rw [q, e] at n3; cases n3
    simpa [sysModules] using this
  iterate 40 (try (first | (with_reducible first | refine stop_call ?_ | refine stop_attr ?_ | refine stop_cc ?_ | refine wpAny_of_eq to_obj ?_ | refine wpAny_of_eq st_tt ?_ | refine wpAny_of_eq tl_dict_gi ?_ | refine Looks.at (by assumption) ?_ | refine wpAny_of_eq tl_dict_iter ?_ | refine nd_falseB (by assumption) ?_) | (with_reducible first | refine wpAny_bind ?_ | refine nd_bind ?_ | refine wpAny_holding ?_ | refine wpAny_onRaise ?_ | refine nd_tryCatch ?_ | refine wpAny_pure ?_ | refine nd_pure ?_ | refine nd_rule ?_ | refine wpAny_rule ?_ | refine nd_ask ?_ | refine nd_point ?_ | refine wpAny_standAt ?_ | refine nd_load (by first | assumption | exact D.old _ _ (by assumption) rfl | exact D.at 0 _ _ rfl | exact D.at 1 _ _ rfl | exact D.at 2 _ _ rfl | exact D.at 3 _ _ rfl | exact D.at 4 _ _ rfl | exact D.at 5 _ _ rfl) ?_ | refine nd_fresh ?_) | (with_reducible refine m_alloc D rfl (fun _ _ D' => ?_); clear D; rename PySem.W.X.Mem _ _ _ _ => D) | k_node | (with_reducible first | refine nd_falseB (by kernel_rfl) ?_ | refine nd_trueB (by kernel_rfl) ?_ | refine nd_neg (by decide) ?_)))
  have e221' := k3 _ _ (k2 _ _ (k1 _ _ e221))
  refine ⟨classCode_o (s := ⟨h₃, g, d, tk₃, os⟩) rfl ((hd_ctk X3.K).code e221' trivial) ((hd_ctk X3.K).tab e221') (by rfl) (fun cc P h₄ tk₄ hx hge hgeP hcode htab hrec h221 => ?_)⟩
  have st4 : StepH [] h₃ h₄ := step221 e221' hx h221 (by trivial)
  have X4 := X3.step st4
  refine wpAny_bind ((bf_look (M := model pw w) X4.K).at ?_)
  unfold newBodyFrame
  refine wpAny_bind (wpAny_bind (wpAny_nsGet X4.G.g ?_))
  refine wpAny_alloc ?_
  refine wpAny_bind (wpAny_of_eq cl_K ?_)
  refine wpAny_holding ?_
  dsimp only at k2 k3 n2 n3 hx hge hgeP h221 ⊢
  have k5 : KeepH h₄ (h₄.push { cls := .type "frame", slots := #[some (.ref cc), some (.ref 3), some (.ref nsA), none, some ((mg "__name__").getD .none), none, some (.ref builtinsNs)] }) := fun b o e => Heap.get?_push_of_some _ e
  have X5 := X4.step (.of_keep k5)
  have e5 := k5 _ _ (hx nsA _ (fun q => by rw [q] at e3; rw [e3] at e221'; cases e221') e3)
  have hcode5 := hcode.keeps k5
  have htab5 := htab.keeps k5
  refine wpAny_bind (wpAny_enterFrame X5.G.nolimit r.room.d ?_)
  change wpAny (model pw w) A _ _ _ ⟨h₄.push { cls := .type "frame", slots := #[some (.ref cc), some (.ref 3), some (.ref nsA), none, some ((mg "__name__").getD .none), none, some (.ref builtinsNs)] }, g, d, tk₄, os⟩
  generalize h₄.push { cls := .type "frame", slots := #[some (.ref cc), some (.ref 3), some (.ref nsA), none, some ((mg "__name__").getD .none), none, some (.ref builtinsNs)] } = h₅ at k5 X5 e5 hcode5 htab5 ⊢
  generalize h₄.objs.size = fr
  have hoff : ∀ a o, (KN w.params).lookup a = some o → a ≠ nsA ∧ a ≠ P := fun a o e => by
    have q2 := X2.K _ _ e
    have q3 := X3.K _ _ e
    exact ⟨fun z => (by rw [z, n3] at q2; cases q2), fun z => Nat.lt_irrefl _ (Nat.lt_of_lt_of_le (Heap.lt_size q3) (z ▸ hgeP))⟩
  have h3n : (3 : Addr) ≠ nsA := fun z => by
    obtain ⟨o, es, ep, e, _⟩ := X2.G.g
    rw [show mainGlobals = nsA from z, n3] at e; cases e
  have h3P : (3 : Addr) ≠ P := fun z => by
    have := X3.G.g.lt
    exact Nat.lt_irrefl _ (Nat.lt_of_lt_of_le this (by rw [show mainGlobals = P from z]; exact hgeP))
  have B0 : CB w mg nsA cc P #[] 0 #[] h₅ := ⟨X5.K, X5.G.g, e5, hcode5, htab5, hoff, h3n, h3P⟩
  obtain ⟨nmx, nmt, hnm⟩ := X.G.names.nameB
  refine wpAny_bind (wpAny_onRaise ?_)
  refine wpAny_bind (ld_name (nsA := nsA) (c := cc) (fr := fr) (cell := cell) e5 X5.G.g hnm ?_)
  refine wpAny_bind (cassign (s := ⟨h₅, g, d, tk₄, os⟩) (env := cenvK nsA cc fr cell) (es' := fun hh tk => #[⟨hh, .str "__module__" tk, .str nmx nmt⟩]) (n' := 1) B0 rfl (st_0 _) (by kernel_rfl) (fun _ _ => by kernel_rfl) (fun h₆ ha ta B6 k6 => ?_))
  refine wpAny_bind (wpAny_mkText ?_)
  refine wpAny_bind (cassign (s := ⟨h₆, g, d, _, os⟩) (env := cenvK nsA cc fr cell) (es' := fun hh tk => #[⟨ha, .str "__module__" ta, .str nmx nmt⟩, ⟨hh, .str "__qualname__" tk, .str "cmp_to_key.<locals>.K" (tk₄ + 1)⟩]) (n' := 2) B6 rfl (st_q _) (by kernel_rfl) (fun _ _ => by kernel_rfl) (fun h₇ hb tb B7 k7 => ?_))
  refine wpAny_bind (wpAny_mkInt ?_)
  refine wpAny_bind (cassign (s := ⟨h₇, g, d, _, os⟩) (env := cenvK nsA cc fr cell) (es' := fun hh tk => #[⟨ha, .str "__module__" ta, .str nmx nmt⟩, ⟨hb, .str "__qualname__" tb, .str "cmp_to_key.<locals>.K" (tk₄ + 1)⟩, ⟨hh, .str "__firstlineno__" tk, .int 124 (tk₄ + 1 + 1 + 1)⟩]) (n' := 3) B7 rfl (st_f _) (by kernel_rfl) (fun _ _ => by kernel_rfl) (fun h₈ hc' tc B8 k8 => ?_))
  refine wpAny_pure ?_
  dsimp only at k6 k7 k8
  refine wpAny_bind (wpAny_run (codeAny_body (env := cenvK nsA cc fr cell) (by kernel_rfl) (by kernel_rfl) (kbody (s := ⟨h₈, g, d, _, os⟩) B8 (fun h₉ tk₉ H T V to ps sl fi fl fg fe fle fge ci cl oci ocl cti ctl pm ffg ffe ffle ffge B9 k9 esl efi efl efg efe efle efge eci ecl => ?_))))
  refine wpAny_bind (wpAny_onRaise ?_)
  refine wpAny_bind (mk_one ?_)
  refine wpAny_bind (wpAny_newTextTuple ?_)
  generalize htup : ({ cls := .type "tuple", data := .seq _ } : Obj) = tupO
  have est : (h₉.push tupO).get? h₉.objs.size = some tupO := Heap.get?_push_size _ (by rw [← htup]; rfl)
  have k10 : KeepH h₉ (h₉.push tupO) := fun b o e => Heap.get?_push_of_some _ e
  dsimp only at k9 ⊢
  generalize h₉.objs.size = st at est ⊢
  generalize h₉.push tupO = h10 at est k10 ⊢
  have B10 := B9.keep k10
  refine wpAny_bind (cassign (s := ⟨h10, g, d, _, os⟩) (env := cenvK nsA cc fr cell) (es' := fun hh tk' => bodyE sl fi fl fg fe fle fge st (fun i => if i = 11 then hh else H i) (fun i => if i = 11 then tk' else T i) V) (n' := 12) B10 rfl (st_s _) (by kernel_rfl) (fun _ _ => by kernel_rfl) (fun h11 hd td0 B11 k11 => ?_))
  refine wpAny_pure ?_
  refine wpAny_bind ?_
  have old4 : ∀ b o, b ≠ nsA → b ≠ P → h₄.get? b = some o → h11.get? b = some o := fun b o x y e => k11 _ _ x y (k10 _ _ (k9 _ _ x y (k8 _ _ x y (k7 _ _ x y (k6 _ _ x y (k5 _ _ e))))))
  have neN : ∀ b o, h₂.get? b = some o → b ≠ nsA := fun b o e z => by rw [z, n3] at e; cases e
  have neP : ∀ b o, h₃.get? b = some o → b ≠ P := fun b o e z => Nat.lt_irrefl _ (Nat.lt_of_lt_of_le (Heap.lt_size e) (z ▸ hgeP))
  have old : ∀ b o, b ≠ 221 → h.get? b = some o → h11.get? b = some o := fun b o x e => by
    have a2 := k2 _ _ (k1 _ _ e)
    exact old4 _ _ (neN _ _ a2) (neP _ _ (k3 _ _ a2)) (hx _ _ x (k3 _ _ a2))
  have bt2 := k2 _ _ ebt
  have bt11 := old4 _ _ (neN _ _ bt2) (neP _ _ (k3 _ _ bt2)) (hx _ _ (fun z => by rw [z] at bt2; rw [k3 _ _ bt2] at e221'; cases e221') (k3 _ _ bt2))
  have est11 := B10.up k11 est (by rw [← htup]; rfl) (by rw [← htup]; rfl)
  rw [← htup] at est11
  refine type_call (h := h11) (bt := h.objs.size) B11.K (B10.up k11 (k10 _ _ esl) rfl rfl) bt11 B11.ns hsm (B10.up k11 (k10 _ _ efi) rfl rfl) (B10.up k11 (k10 _ _ efl) rfl rfl) (B10.up k11 (k10 _ _ efg) rfl rfl) (B10.up k11 (k10 _ _ efe) rfl rfl)
    (B10.up k11 (k10 _ _ efle) rfl rfl) (B10.up k11 (k10 _ _ efge) rfl rfl) est11 (r.less (by omega) (by omega)) (fun h12 tk12 C N dd hh8 hh9 tk8 tk9 td kC nC eC eN ed => ?_)
  refine wpAny_pure ?_
  refine wpAny_bind (wpAny_of_eq (show decorate _ _ = pure _ from rfl) ?_)
  refine wpAny_bind (wpAny_standAt ?_)
  have hneL : L0 ≠ 221 := fun z => by rw [z, e221] at hL; cases hL
  have eL := kC _ _ (old _ _ hneL hL)
  have nsL : h12.Ns L0 (fun _ => none) := ⟨_, #[], 0, eL, rfl, by simp [StrKeys], fun _ => rfl⟩
  refine wpAny_bind (wpAny_bindName (wpAny_storeName_local rfl nsL (fun h13 nL sL => ?_) rfl))
  refine wpAny_pure ?_
  have up : ∀ b o, (o.cls == .type "frame") = false → h12.get? b = some o → h13.get? b = some o := fun b o q e => (sL.2 _ (ne_of_cls e eL q)).trans e
  have efi' := up _ _ rfl (kC _ _ (B10.up k11 (k10 _ _ efi) rfl rfl))
  have efl' := up _ _ rfl (kC _ _ (B10.up k11 (k10 _ _ efl) rfl rfl))
  have eci' := up _ _ rfl (kC _ _ (B10.up k11 (k10 _ _ eci) rfl rfl))
  have ecl' := up _ _ rfl (kC _ _ (B10.up k11 (k10 _ _ ecl) rfl rfl))
  have hneC : cell ≠ 221 := fun z => by rw [z, e221] at hc; cases hc
  have ecell := up _ _ rfl (kC _ _ (old _ _ hneC hc))
  refine hQ h13 _ C fi fl ?_ ?_ nL
  · have t221 := kC _ _ (old4 _ _ (neN _ _ (k2 _ _ (k1 _ _ e221))) (neP _ _ e221') h221)
    refine ⟨fun b o hb hbT e => (sL.2 _ (fun z => hb (by simpa using z))).trans (kC _ _ (old _ _ (fun z => hbT (z ▸ by decide)) e)), fun t ht ps e ok => ?_⟩
    have hLT : t ≠ L0 := fun z => top_noTabC ht' (z ▸ ht)
    by_cases z : t = 221
    · subst z
      have e' : h.get? 221 = some (tabObj ps) := e
      rw [e221] at e'
      cases e'
      exact ⟨_, (sL.2 _ hLT).trans t221, by trivial⟩
    · exact ⟨#[], by rw [Array.append_empty]; exact (sL.2 _ hLT).trans (kC _ _ (old _ _ z e)), by rw [Array.append_empty]; exact ok⟩
  · have c1 : clsL C N h.objs.size tk (V 1) = clsKN C N (clsL C N h.objs.size tk (V 1)) := by kernel_rfl
    have c2 : dictO (((bodyE2 sl fi fl fg fe fle fge st (fun i => if i = 11 then hd else H i) (fun i => if i = 11 then td0 else T i) V).push ⟨hh9, .str "obj" tk9, .ref dd⟩).push ⟨hh8, .str "__doc__" tk8, .none⟩) 3 =
        nsKN sl fi fl fg fe fle fge st dd (dictO (((bodyE2 sl fi fl fg fe fle fge st (fun i => if i = 11 then hd else H i) (fun i => if i = 11 then td0 else T i) V).push ⟨hh9, .str "obj" tk9, .ref dd⟩).push ⟨hh8, .str "__doc__" tk8, .none⟩) 3) := by kernel_rfl
    have c3 : fnO "__init__" "cmp_to_key.<locals>.K.__init__" (fParams (sub clsK 2)) (fBody (sub clsK 2)) (fScope (sub clsK 2)) [] pm cti ci = fnKN 2 "__init__" "cmp_to_key.<locals>.K.__init__" [] ci (fnO "__init__" "cmp_to_key.<locals>.K.__init__" (fParams (sub clsK 2)) (fBody (sub clsK 2)) (fScope (sub clsK 2)) [] pm cti ci) := by kernel_rfl
    have c4 : fnO "__lt__" "cmp_to_key.<locals>.K.__lt__" (fParams (sub clsK 3)) (fBody (sub clsK 3)) (fScope (sub clsK 3)) [("mycmp", cell)] pm ctl cl = fnKN 3 "__lt__" "cmp_to_key.<locals>.K.__lt__" [("mycmp", cell)] cl (fnO "__lt__" "cmp_to_key.<locals>.K.__lt__" (fParams (sub clsK 3)) (fBody (sub clsK 3)) (fScope (sub clsK 3)) [("mycmp", cell)] pm ctl cl) := by kernel_rfl
    have c5 : (⟨.type "member_descriptor", none, .fields #[.str "obj" td, .ref C, .builtin "proto.slot", .builtin "proto.slot#set", .int 0 0], #[]⟩ : Obj) = desKN C ⟨.type "member_descriptor", none, .fields #[.str "obj" td, .ref C, .builtin "proto.slot", .builtin "proto.slot#set", .int 0 0], #[]⟩ := by kernel_rfl
    exact ⟨N, ci, cl, sl, fg, fe, fle, fge, st, dd, _, _, _, _, oci, ocl, _, (up _ _ rfl eC).trans (congrArg some c1), (up _ _ rfl eN).trans (congrArg some c2), efi'.trans (congrArg some c3), efl'.trans (congrArg some c4), eci', ecl', (up _ _ rfl ed).trans (congrArg some c5), ecell⟩
end
end Mine
end
section
open PySem PySem.W PyProof.Rows PySem.Calls
set_option maxRecDepth 100000
set_option maxHeartbeats 4000000
set_option Elab.async false
set_option linter.unusedVariables false
set_option pp.maxSteps 3000
namespace Mine
theorem k_top : fBody (stm 13) = [clsK, .Return (some (.Name "K" ⟨146, 11, 146, 12⟩)) ⟨146, 4, 146, 12⟩] := by kernel_rfl
section
variable {w : World} {A : Around} {E : Value → Shared → Prop} {s : Shared} {mg mb : Str → Option Value}
theorem ctk {f : Value} {Q : Value → Shared → Prop} (X : Ctx0 w mg mb s.heap) (e221 : s.heap.get? 221 = some (tabObj #[])) (r : NearR A 31 102)
    (hQ : ∀ h' tk C fi fl cell, StepH [] s.heap h' → KAt h' C fi fl cell f → Q (.ref C) { s with heap := h', toks := tk }) : wpAny (model pw w) A (call (.ref 226) [f] []) Q E s := by
  have fm := m_ctk w.params
  have hb : BindsTo s (fdM "cmp_to_key" "cmp_to_key" (stm 13) [] (pmOf (obK 226 w.params)) (.ref 225) (ctOf (obK 226 w.params)) .none) ⟨[f], []⟩ [(("mycmp" : Str), f)] :=
    PySem.W.kp_binds X.K (fun S => by kernel_rfl)
  refine wpAny_call (codeAny_call_function r.room.d (fm.get X.K) fm.data rfl rfl rfl (fm.crec X.K) ?_)
  refine hb _ _ _ _ ?_
  obtain ⟨h, g, d, tk, os⟩ := s
  dsimp only at X e221
  have D := PySem.W.X.Mem.start h
  iterate 60 (try (first | (with_reducible first | refine stop_call ?_ | refine stop_attr ?_ | refine stop_cc ?_ | refine wpAny_of_eq to_obj ?_ | refine wpAny_of_eq st_tt ?_ | refine wpAny_of_eq tl_dict_gi ?_ | refine Looks.at (by assumption) ?_ | refine wpAny_of_eq tl_dict_iter ?_ | refine nd_falseB (by assumption) ?_) | (with_reducible first | refine wpAny_bind ?_ | refine nd_bind ?_ | refine wpAny_holding ?_ | refine wpAny_onRaise ?_ | refine nd_tryCatch ?_ | refine wpAny_pure ?_ | refine nd_pure ?_ | refine nd_rule ?_ | refine wpAny_rule ?_ | refine nd_ask ?_ | refine nd_point ?_ | refine wpAny_standAt ?_ | refine nd_load (by first | assumption | exact D.old _ _ (by assumption) rfl | exact D.at 0 _ _ rfl | exact D.at 1 _ _ rfl | exact D.at 2 _ _ rfl | exact D.at 3 _ _ rfl | exact D.at 4 _ _ rfl | exact D.at 5 _ _ rfl) ?_ | refine nd_fresh ?_) | (with_reducible refine m_alloc D rfl (fun _ _ D' => ?_); clear D; rename PySem.W.X.Mem _ _ _ _ => D) | k_node | (with_reducible first | refine nd_falseB (by kernel_rfl) ?_ | refine nd_trueB (by kernel_rfl) ?_ | refine nd_neg (by decide) ?_)))
  refine m_upd0 (⟨.type "cell", none, .cell (some f), #[]⟩) D (by kernel_rfl) rfl (fun _ D' => ?_); clear D; rename PySem.W.X.Mem _ _ _ _ => D
  iterate 20 (try (first | (with_reducible first | refine stop_call ?_ | refine stop_attr ?_ | refine stop_cc ?_ | refine wpAny_of_eq to_obj ?_ | refine wpAny_of_eq st_tt ?_ | refine wpAny_of_eq tl_dict_gi ?_ | refine Looks.at (by assumption) ?_ | refine wpAny_of_eq tl_dict_iter ?_ | refine nd_falseB (by assumption) ?_) | (with_reducible first | refine wpAny_bind ?_ | refine nd_bind ?_ | refine wpAny_holding ?_ | refine wpAny_onRaise ?_ | refine nd_tryCatch ?_ | refine wpAny_pure ?_ | refine nd_pure ?_ | refine nd_rule ?_ | refine wpAny_rule ?_ | refine nd_ask ?_ | refine nd_point ?_ | refine wpAny_standAt ?_ | refine nd_load (by first | assumption | exact D.old _ _ (by assumption) rfl | exact D.at 0 _ _ rfl | exact D.at 1 _ _ rfl | exact D.at 2 _ _ rfl | exact D.at 3 _ _ rfl | exact D.at 4 _ _ rfl | exact D.at 5 _ _ rfl) ?_ | refine nd_fresh ?_) | (with_reducible refine m_alloc D rfl (fun _ _ D' => ?_); clear D; rename PySem.W.X.Mem _ _ _ _ => D) | k_node | (with_reducible first | refine nd_falseB (by kernel_rfl) ?_ | refine nd_trueB (by kernel_rfl) ?_ | refine nd_neg (by decide) ?_)))
  rename_i L0 _ cell _ h1
  have k1 : KeepH h h1 := kept_of D
  have eL : h1.get? L0 = some ⟨.type "frame", none, .dict #[] 0, #[]⟩ := D.at 1 _ _ rfl
  have ec : h1.get? cell = some ⟨.type "cell", none, .cell (some f), #[]⟩ := D.at 0 _ _ rfl
  have nL : h.get? L0 = none := fresh_of D 1 rfl
  clear D
  have X1 := X.step (.of_keep k1)
  refine ⟨X1.G.nolimit, codeAny_func (env := envC L0 cell) ?_⟩
  rw [k_top]
  iterate 1 (walk1; (try dsimp only))
  refine class_def (s := ⟨h1, g, d, tk, os⟩) X1 (k1 _ _ e221) eL ec (top_new X nL) ((r.deeper (d := 30) (u := 99) _).less (by omega) (by omega)) (fun h2 tk2 C fi fl st hK nK => ?_)
  iterate 2 (walk1; (try dsimp only))
  refine nm_local (frNs nK) (if_pos rfl) ?_
  exact hQ h2 _ C fi fl cell ((StepH.of_keep k1).trans_news st (fun x hx => by simp only [List.mem_singleton] at hx; exact hx ▸ nL)) hK
end
end Mine
end
section
open PySem PySem.W PyProof.Rows PySem.Calls
set_option maxRecDepth 100000
set_option maxHeartbeats 1600000
set_option Elab.async false
set_option linter.unusedVariables false
namespace Mine
noncomputable def lamPos : Pos := match lamE with | .Lambda _ _ _ p => p | _ => default
theorem hd_law {P : Params} {h : Heap} (Z : (KN P).In h) : CodeHd h 260 258 := codeHd_of_K Z (by kernel_rfl)
theorem stepTab {h h' : Heap} {P : Addr} {a b c : Value} (hP : P ∈ Tabs) (e : h.get? P = some (tabObj #[])) (hx : Heap.ExtBut P h h') (e' : h'.get? P = some (tabObj #[a, b, c])) (ok : TriplesOk [a, b, c]) : StepH [] h h' :=
  ⟨fun x o _ ht q => hx x o (fun z => ht (z ▸ hP)) q, fun t ht ps q o => by
    by_cases z : t = P
    · subst z; rw [e] at q; cases q; exact ⟨#[a, b, c], by simpa using e', by simpa using ok⟩
    · exact ⟨#[], by rw [Array.append_empty]; exact hx _ _ z q, by rw [Array.append_empty]; exact o⟩⟩
section
variable {w : World} {A : Around} {E : Value → Shared → Prop} {s : Shared} {mg mb : Str → Option Value} {h0 : Heap} {L0 : Addr}
theorem mklam {Q : Value → Shared → Prop} (X : Ctx0 w mg mb s.heap) (e258 : s.heap.get? 258 = some (tabObj #[]))
    (hQ : ∀ h' tk lm c o pm ct, StepH [] s.heap h' → (∀ b o, b ≠ 258 → s.heap.get? b = some o → h'.get? b = some o) → h'.get? lm = some (kla_obj "<lambda>" "law.<locals>.<lambda>" lamP lamB lamS [] pm c ct) → h'.get? c = some (codeN "law.<locals>.<lambda>" o) → Q (.ref lm) { s with heap := h', toks := tk }) :
    wpAny (model pw w) A (eval (.Lambda lamP lamB lamS lamPos) (lawEnv w.params L0)) Q E s := by
  refine kla_eval (by kernel_rfl) ?_
  rw [show (lawEnv w.params L0).qual ++ ("<lambda>" : Str) = "law.<locals>.<lambda>" by kernel_rfl]
  rw [makeFunction_eq]
  simp only [List.zip_nil_right, List.filterMap_nil, List.isEmpty_nil, if_true, pure_bind]
  unfold makeTail
  refine wpAny_bind (wpAny_of_eq (show closureFor lamS (lawEnv w.params L0) = pure [] by kernel_rfl) ?_)
  simp only [List.isEmpty_nil, if_true]
  refine wpAny_bind (wpAny_pure ?_)
  refine wpAny_bind (functionCode_o (P := 258) (ps := #[]) rfl ((hd_law X.K).code e258 trivial) ((hd_law X.K).tab e258) (by rfl) (fun c h' tk o hx hge hlt hi ht ho => ?_))
  have st := stepTab (by decide) e258 hx ht.2 (by trivial)
  have X1 := X.step st
  refine wpAny_bind ((bf_look (M := model pw w) X1.K).here ?_)
  refine wpAny_bind (wpAny_nsGet X1.G.g ?_)
  refine wpAny_bind (wpAny_pure (wpAny_newObj_type ?_ (by size_fits)))
  refine hQ _ _ _ c o ((mg "__name__").getD .none) .none (st.trans (.of_keep fun b o e => Heap.get?_push_of_some _ e)) (fun b o hb e => Heap.get?_push_of_some _ (hx _ _ hb e)) ?_ (Heap.get?_push_of_some _ ho)
  exact Heap.get?_push_size _ rfl
theorem Lw.stepF {m : Str → Option Value} {cm : Nat → Option Value} {h h' : Heap} (V : Lw w mg mb h0 L0 m cm h) (st : StepH [] h h') : Lw w mg mb h0 L0 m (fun i => if i = 6 then some .none else cm i) h' := by
  refine ⟨V.new, V.top, V.X.step st, ns_step V.F V.X.T st (by simp), fun i hi => ?_, V.st.trans st, fun t _ c => ?_⟩
  · rw [if_neg (Nat.ne_of_lt hi)]
    obtain ⟨o, e, d⟩ := V.cell i hi
    exact ⟨o, st.keep _ _ (by simp) (top_noTab (V.top _ (Nat.le_trans (Nat.le_succ _) (Nat.le_add_right _ _)))) e, d⟩
  · rw [if_pos rfl] at c; cases c
theorem Call_kwN {M : Model} {x : Str} {np pos : Pos} {args : List Expr} {kws : List Keyword} {env : Env} {Q : Value → Shared → Prop}
    (h : wpAny M A (eval (.Name x np) env) (fun f s₁ => wpAny M A (callWith pos f [] (backTo pos (starEach args env)) (backToKw pos (keywordEach kws env))) Q E s₁) E s) : wpAny M A (eval (.Call (.Name x np) args kws pos) env) Q E s := by
  show wpAny M A (do callWith pos (← eval (.Name x np) env) [] (backTo pos (starEach args env)) (backToKw pos (keywordEach kws env))) Q E s
  exact wpAny_bind h
theorem evalAll_kw1 {M : Model} {n : Option Str} {e : Expr} {p pos : Pos} {env : Env} {Q : List Value → Shared → Prop} (h : wpAny M A (eval e env) (fun v s' => Q [v] s') E s) : wpAny M A (evalAll ((backToKw pos (keywordEach [⟨n, e, p⟩] env)).map (·.2))) Q E s := by
  show wpAny M A (do let v ← (do let v ← eval e env; standAt pos; pure v); return v :: (← holding [v] (evalAll []))) Q E s
  exact wpAny_bind (wpAny_bind (wpAny_mono h (fun v s' hv => wpAny_bind (wpAny_standAt (wpAny_pure (wpAny_bind (wpAny_holding (wpAny_pure (wpAny_pure hv))))))) fun _ _ x => x))
theorem law_g {W : Addr} {vs : List Value} {ws : List Str} {cm : Nat → Option Value} {m : Str → Option Value} {Q : Flow → Shared → Prop} (V : Lw w mg mb h0 L0 m cm s.heap) (r : NearR A 50 300)
    (hW : LstAt s.heap W vs.toArray) (hs : StrsAre vs ws) (hm : m "words" = some (.ref W)) (h2 : 2 ≤ ws.length) (h64 : ws.length < 64) (hz : ∀ t ∈ ws, t.cps.size ≤ 1000) (c6 : cm 6 = none)
    (hQ : ∀ h' tk' O c, h'.get? O = some (seqObj "list" ((askRun (keyS ws) (kas_sort ws.length)).map fun i => vs.getD i .none) c) → LstAt h' W vs.toArray → (∀ D es, PairsAt s.heap D es → PairsAt h' D es) → (∀ R xs, RowsL s.heap R xs → RowsL h' R xs) →
      Lw w mg mb h0 L0 (fun z => if z = "order" then some (.ref O) else m z) (fun i => if i = 6 then some .none else cm i) h' →
      wpAny (model pw w) A (execs ((fBody (stm 20)).drop 13) (lawEnv w.params L0)) Q NoE { s with heap := h', toks := tk' }) :
    wpAny (model pw w) A (execs ((fBody (stm 20)).drop 12) (lawEnv w.params L0)) Q NoE s := by
  obtain ⟨h, g, d, tk, os⟩ := s
  dsimp only at V hW hQ
  iterate 2 (walk1; (try dsimp only))
  refine Call_kwN ?_
  refine nm_builtin V.X.G.g (V.X.G.names.free _ (by simp)) V.X.G.b (V.X.G.bi "sorted" _ (by decide) b_sorted) ?_
  refine callWith_kw ?_
  iterate 3 (walk1; (try dsimp only))
  refine evalAll_kw1 ?_
  refine Call_ ?_
  refine nm_global V.X.G.g V.X.G.names.ctk ?_
  refine cw ?_
  iterate 1 (walk1; (try dsimp only))
  refine m_eq (t' := eval (.Lambda lamP lamB lamS lamPos) (lawEnv w.params L0)) (congrArg (fun e => eval e (lawEnv w.params L0)) (by kernel_rfl)) ?_
  refine mklam (s := ⟨h, g, d, _, os⟩) V.X (V.tq 258 (.inr rfl) c6) (fun h₁ tk₁ lm c o pm ct st1 k1 elm ec => ?_)
  iterate 1 (walk1; (try dsimp only))
  dsimp only at st1 k1
  have X1 := V.X.step st1
  refine ⟨(m_ctk w.params).keep X1.K, ?_⟩
  refine ctk (s := ⟨h₁, g, d, tk₁, os⟩) X1 (k1 _ _ (by decide) (V.tq 221 (.inl rfl) c6)) (r.less (by omega) (by omega)) (fun h₂ tk₂ C fi fl cell st2 hK => ?_)
  dsimp only at st2 ⊢
  have X2 := X1.step st2
  have st12 := st1.trans st2
  have elm2 := st2.keep _ _ (by simp) (tabs_cls X1.T elm rfl) elm
  have ec2 := st2.keep _ _ (by simp) (tabs_cls X1.T ec rfl) ec
  have LA : LamAt h₂ lm := ⟨pm, c, ct, elm2, ⟨c, _, _, _, rfl, ec2, rfl, rfl⟩⟩
  show wpAny (model pw w) A (call (.builtin "sorted") [.ref W] [("key", .ref C)]) _ _ _
  have hW2 := hW.step V.X.T st12
  refine sorted_spec (s := ⟨h₂, g, d, tk₂, os⟩) X2.K X2.G hK LA (r.less (by omega) (by omega)) hW2.isList hs h2 h64 hz (fun h₃ tk₃ O c' k3 n3 e3 => ?_)
  dsimp only at k3 n3 ⊢
  have V3 := (V.stepF st12).keep k3
  refine st_local (s := ⟨h₃, g, d, tk₃, os⟩) V3.fr (fun h₄ F sb => ?_)
  have sb : Heap.SameBut L0 h₃ h₄ := sb
  have hO : O ≠ L0 := fun q => ns_noList V3.F _ (q ▸ (⟨_, e3, rfl, _, rfl⟩ : h₃.IsList O _))
  refine hQ h₄ _ O c' ((sb.2 _ hO).trans e3) (((hW2.on fun o e => k3 _ _ e)).ns V3.F sb) (fun D es x => ((x.step V.X.T st12).keep k3).ns V3.F sb) (fun R xs x => ((x.step V.X.T st12).on fun o e => k3 _ _ e).ns V3.F sb) (V3.loc sb F.ns)
end
end Mine
end
section
open PySem PySem.W PyProof.Rows PySem.Calls
set_option maxRecDepth 100000
set_option maxHeartbeats 1600000
set_option Elab.async false
set_option linter.unusedVariables false
namespace Mine
theorem reads_strs {h : Heap} : ∀ {vs : List Value} {ws : List Str}, StrsAre vs ws → ReadsAll h vs (ws.map PyData.str) []
  | _, _, .nil => .nil
  | _, _, .cons x t r => by
    have := ReadsAll.cons (Reads.str (h := h) x t) (reads_strs r)
    simpa using this
theorem reads_lst {h : Heap} {l : Addr} {vs : List Value} {ws : List Str} (x : LstAt h l vs.toArray) (s : StrsAre vs ws) : Reads h (.ref l) (.list (ws.map PyData.str)) [l] := by
  obtain ⟨n, e⟩ := x
  exact reads_list_at e rfl rfl (by simpa using reads_strs s)
theorem eqv_strs : ∀ ws : List Str, PyData.eqvAll (ws.map PyData.str) (ws.map PyData.str) = true
  | [] => by simp [PyData.eqvAll]
  | x :: r => by simp [PyData.eqvAll, PyData.eqv, eqv_strs r]
theorem canLay_strs : ∀ ws : List Str, (∀ t ∈ ws, PyData.strOk t = true) → PyData.canLayAll0 (ws.map PyData.str) = true
  | [], _ => by simp [PyData.canLayAll0]
  | x :: r, h => by simp [PyData.canLayAll0, PyData.canLay0, h x (.head _), canLay_strs r fun t m => h t (.tail _ m)]
theorem depth_strs : ∀ ws : List Str, PyData.depthAll (ws.map PyData.str) ≤ 1
  | [] => by simp [PyData.depthAll]
  | x :: r => by
    have := depth_strs r
    simp only [List.map_cons, PyData.depthAll, PyData.depth]
    omega
theorem shaped_strs {ws : List Str} (h : ∀ t ∈ ws, PyData.strOk t = true) : SeqAt.shaped (.list (ws.map PyData.str)) = true := by
  have := depth_strs ws
  unfold SeqAt.shaped
  rw [Bool.and_eq_true]
  refine ⟨?_, ?_⟩
  · simp [PyData.canLay0, canLay_strs ws h]
  · rw [decide_eq_true_eq]; simp only [PyData.depth]; omega
section
variable {w : World} {A : Around} {E : Value → Shared → Prop} {s : Shared} {mg mb : Str → Option Value} {h0 : Heap} {L0 : Addr}
theorem law_h {O D2 : Addr} {ovs : List Value} {du : List (Int × Str)} {cm : Nat → Option Value} {m : Str → Option Value} {Q : Flow → Shared → Prop} (V : Lw w mg mb h0 L0 m cm s.heap) (r : NearR A 20 200)
    (hO : LstAt s.heap O ovs.toArray) (hs : StrsAre ovs (du.map (·.2))) (hm : m "order" = some (.ref O)) (hcm : cm 3 = some (.ref D2)) (hD2 : PairsAt s.heap D2 du) (hn : du.length ≤ 100) (hok : ∀ p ∈ du, PyData.strOk p.2 = true)
    (hQ : ∀ h' tk', KeepH s.heap h' → Lw w mg mb h0 L0 m cm h' → wpAny (model pw w) A (execs ((fBody (stm 20)).drop 14) (lawEnv w.params L0)) Q NoE { s with heap := h', toks := tk' }) :
    wpAny (model pw w) A (execs ((fBody (stm 20)).drop 13) (lawEnv w.params L0)) Q NoE s := by
  obtain ⟨h, g, d, tk, os⟩ := s
  dsimp only at V hO hD2 hQ
  obtain ⟨ys, hP, hF⟩ := id hD2
  have hlen := hF.length
  have hsz : ys.size = du.length := by simpa using hlen.symm
  have hcell : h.IsCell (L0 + 1 + 3) (some (.ref D2)) := by have := V.cell 3 (by decide); rw [hcm] at this; exact this
  iterate 4 (walk1; (try dsimp only))
  refine lc_gen (cl := []) (G := fun i y h => ∃ t, y = .str (du.getD i (0, "")).2 t) (pk := fun _ => true) rfl (by decide) rfl (by decide) (fun i y h h' g k => g) ?_
  refine nm_cell hcell ?_
  refine iter_lst (s := ⟨h, g, d, _, os⟩) hP.isList (fun h₁ I k1 n1 i1 b1 => ?_)
  have V1 := V.keep k1
  have hP1 : h₁.PlainList D2 ys := let ⟨n, e⟩ := hP; ⟨n, k1 _ _ e⟩
  refine ⟨I, du.length, rfl, lc_srcL r.handled i1 hP1.isList hsz (by omega) (fun C j v h' tk m₃ E' hj hC hv hst hN hk => ?_), fun W h' tk vs hW hP3 hF3 hk => ?_⟩
  · have k2 : KeepH h h' := fun b o e => iter_up (h := h) (h' := h') (I := I) n1 (fun b o hb e => hk b o hb (k1 _ _ e)) _ _ e
    obtain ⟨y, hy, T, q, q', rfl, ht⟩ := paired_get hF j hj
    have hv' : v = .ref T := by
      have hv2 : ys.toList[j]? = some v := by simpa using hv
      rw [hy] at hv2; exact (Option.some.inj hv2).symm
    subst hv'
    have ht8 : h'.IsTuple T #[.int du[j].1 q, .str du[j].2 q'] := tup_on ht fun o e => k2 _ _ e
    unfold LcBody
    refine wpAny_letOwnedTupleGo_listiter hst ?_
    refine kcp_assign (s := ⟨h', g, d, tk, os⟩) r.handled ht8 rfl rfl rfl hN (fun h9 tk9 hn9 hk9 => ?_)
    refine wpAny_tests_nil ⟨rfl, ?_⟩
    rw [if_pos rfl]
    refine nm_local (s := ⟨h9, g, d, tk9, os⟩) (frNs hn9) (v := .str du[j].2 q') (if_pos rfl) ?_
    exact ⟨⟨q', by simp [hj]⟩, h9, _, _, rfl, fun b o hb e => hk9 b o hb e, hn9, trivial⟩
  · have k5 : KeepH h h' := fun b o e => iter_up (h := h) (h' := h') (I := I) n1 (fun b o hb e => hk b o hb (k1 _ _ e)) _ _ e
    have Vf := V.keep k5
    rw [show (List.range du.length).filter (fun _ => true) = List.range du.length by simp] at hF3
    have hs8 := paired_strs (f := fun j => (du.getD j (0, "")).2) hF3
    have he : ((List.range du.length).map (fun j => (du.getD j (0, "")).2)) = du.map (·.2) := by
      apply List.ext_getElem
      · simp
      · intro a h1 h2
        simp at h1 h2
        simp [h1]
    rw [he] at hs8
    have hv8 : vs = vs.toList.toArray := by simp
    rw [hv8] at hP3
    obtain ⟨nn, e3⟩ := hP3
    have hW8 : LstAt h' W vs.toList.toArray := ⟨nn, e3⟩
    have hsh := shaped_strs (ws := du.map (·.2)) (fun t ht => by obtain ⟨p, hp, rfl⟩ := List.mem_map.mp ht; exact hok p hp)
    dsimp only
    refine ne_dataH (s := ⟨h', g, d, tk, os⟩) (reads_lst (hO.on fun o e => k5 _ _ e) hs) (reads_lst hW8 hs8) hsh hsh (r.u64 (by decide)) ?_
    rw [show (!PyData.eqv (.list ((du.map (·.2)).map PyData.str)) (.list ((du.map (·.2)).map PyData.str))) = false by simp only [PyData.eqv]; rw [eqv_strs]; rfl]
    iterate 1 (walk1; (try dsimp only))
    rw [if_neg (by decide)]
    iterate 1 (walk1; (try dsimp only))
    exact hQ h' _ k5 Vf
end
end Mine
end
section
open PySem PySem.W PyProof.Rows PySem.Calls
set_option maxRecDepth 100000
set_option maxHeartbeats 1600000
set_option Elab.async false
set_option linter.unusedVariables false
namespace Mine
noncomputable def WordOk (t : Str) : Prop := t.cps.size ≤ 1000 ∧ (quoteF t).length ≤ 1000 ∧ quoteF t ≠ "" ∧ Txt.isspace (quoteF t) = false ∧ PyData.strOk (quoteF t) = true
section
variable {w : World} {A : Around} {E : Value → Shared → Prop} {s : Shared} {mg mb : Str → Option Value} {h0 : Heap} {L0 : Addr}
theorem Lw.stepN {m : Str → Option Value} {cm : Nat → Option Value} {h h' : Heap} (V : Lw w mg mb h0 L0 m cm h) (c6 : cm 6 = some .none) (st : StepH [] h h') : Lw w mg mb h0 L0 m cm h' := by
  refine ⟨V.new, V.top, V.X.step st, ns_step V.F V.X.T st (by simp), fun i hi => ?_, V.st.trans st, fun t _ c => ?_⟩
  · obtain ⟨o, e, d⟩ := V.cell i hi
    exact ⟨o, st.keep _ _ (by simp) (top_noTab (V.top _ (Nat.le_trans (Nat.le_succ _) (Nat.le_add_right _ _)))) e, d⟩
  · rw [c6] at c; cases c
theorem law_i {O R : Addr} {ovs rvs : List Value} {w0 : Str} {ws rows : List Str} {wd : Int} {tw : Tok} {cm : Nat → Option Value} {m : Str → Option Value} {Q : Flow → Shared → Prop} (V : Lw w mg mb h0 L0 m cm s.heap) (r : NearR A 120 400)
    (hO : LstAt s.heap O ovs.toArray) (hs : StrsAre ovs (w0 :: ws)) (hm : m "order" = some (.ref O)) (hmr : m "rows" = some (.ref R)) (c0 : cm 0 = some (.int wd tw)) (c6 : cm 6 = some .none) (hR : RowsL s.heap R rvs.toArray) (hrs : StrsAre rvs rows)
    (hn : ws.length ≤ 45) (hz : ∀ t ∈ w0 :: ws, WordOk t) (hfit : 1 + ((quoteF w0).length : Int) ≤ wd) (hsum : (rows.map (·.length)).sum ≤ 1000000) (hrl : rows.length ≤ 1000) (heq : writF wd w0 ws = Txt.join "\r\n " rows)
    (hQ : ∀ h' g' d' tk', (AllBare s.gens → AllBare g') → StepH [] s.heap h' → Lw w mg mb h0 L0 m cm h' → wpAny (model pw w) A (execs ((fBody (stm 20)).drop 15) (lawEnv w.params L0)) Q NoE ⟨h', g', d', tk', s.os⟩) :
    wpAny (model pw w) A (execs ((fBody (stm 20)).drop 14) (lawEnv w.params L0)) Q NoE s := by
  obtain ⟨h, g, d, tk, os⟩ := s
  dsimp only at V hO hR hQ
  have hcell : h.IsCell (L0 + 1 + 0) (some (.int wd tw)) := by have := V.cell 0 (by decide); rw [c0] at this; exact this
  have hwr : mg "_law_written" = some (.ref 256) := V.X.G.names.written
  iterate 3 (walk1; (try dsimp only))
  refine Call_ ?_
  iterate 1 (walk1; (try dsimp only))
  refine cw ?_
  iterate 5 (walk1; (try dsimp only))
  refine ⟨⟨_, .inl rfl, keeper_fn ((m_writ w.params).get V.X.K) (m_writ w.params).data⟩, ?_⟩
  refine writ_spec (s := ⟨h, g, d, _, os⟩) V.X hO hs hn hz hfit (r.less (by omega) (by omega)) (fun s₁ u₁ st₁ => ?_)
  obtain ⟨h₁, g₁, d₁, tk₁, os₁⟩ := s₁
  have os' : os₁ = os := st₁.os
  subst os'
  have gs := st₁.gens
  replace st₁ := st₁.heap
  dsimp only at st₁ gs ⊢
  have V1 := V.stepN c6 st₁
  have hR1 := hR.step V.X.T st₁
  iterate 6 (walk1; (try dsimp only))
  iterate 1 (walk1; (try dsimp only))
  refine join_listC (s := ⟨h₁, g₁, d₁, _, os₁⟩) hR1.isL hrs (by decide +kernel) (by omega) (fun t' k' => ?_)
  rw [← heq]
  iterate 2 (walk1; (try dsimp only))
  rw [if_neg (by simp)]
  iterate 1 (walk1; (try dsimp only))
  exact hQ h₁ g₁ d₁ _ gs st₁ V1
end
end Mine
end
section
open PySem PySem.W PyProof.Rows PySem.Calls
set_option maxRecDepth 100000
set_option maxHeartbeats 1600000
set_option Elab.async false
set_option linter.unusedVariables false
namespace Mine
section
variable {w : World} {A : Around} {E : Value → Shared → Prop} {s : Shared} {mg mb : Str → Option Value} {h0 : Heap} {L0 : Addr}
theorem law_j {R : Addr} {rvs : List Value} {rows : List Str} {wd : Int} {tw : Tok} {cm : Nat → Option Value} {m : Str → Option Value} {Q : Flow → Shared → Prop} (V : Lw w mg mb h0 L0 m cm s.heap) (r : NearR A 20 200)
    (hmr : m "rows" = some (.ref R)) (c0 : cm 0 = some (.int wd tw)) (hR : RowsL s.heap R rvs.toArray) (hrs : StrsAre rvs rows) (hrl : rows.length ≤ 1000)
    (hfull : ∀ i, i + 1 < rows.length → ((rows.getD i "").length : Int) + 1 = wd) (hwd : wd ≤ 1000)
    (hQ : ∀ h' tk', KeepH s.heap h' → Lw w mg mb h0 L0 m cm h' → wpAny (model pw w) A (execs ((fBody (stm 20)).drop 16) (lawEnv w.params L0)) Q NoE { s with heap := h', toks := tk' }) :
    wpAny (model pw w) A (execs ((fBody (stm 20)).drop 15) (lawEnv w.params L0)) Q NoE s := by
  obtain ⟨h, g, d, tk, os⟩ := s
  dsimp only at V hR hQ
  obtain ⟨hlen, hget⟩ := strs_get hrs
  have hcell : h.IsCell (L0 + 1 + 0) (some (.int wd tw)) := by have := V.cell 0 (by decide); rw [c0] at this; exact this
  iterate 3 (walk1; (try dsimp only))
  refine lc_gen (cl := [("width", L0 + 1 + 0)]) (G := fun i y h => True) (pk := fun _ => false) rfl (by decide) rfl (by decide) (fun i y h h' g k => trivial) ?_
  iterate 9 (walk1; (try dsimp only))
  refine ilst_sliceP (s := ⟨h, g, d, _, os⟩) hR.isL .none (.int (-1) _) (by simp; omega) (fun h₁ D k1 n1 l1 => ?_) rfl (fun r => rfl)
  rw [show (some (-1 : Int)) = some (-((1 : Nat) : Int)) from rfl, slicePick_butLast _ 1 (Nat.le_refl _)] at l1
  simp only [List.size_toArray] at l1
  have V1 := V.keep k1
  refine iter_lst (s := ⟨h₁, g, d, _, os⟩) l1.isList (fun h₂ I k2 n2 i2 b2 => ?_)
  have l2 := l1.on fun o e => k2 _ _ e
  have V2 := V1.keep k2
  refine ⟨I, rows.length - 1, rfl, lc_srcL r.handled i2 l2.isList (by simp; omega) (by omega) (fun C j v h' tk m₃ E' hj hC hv hst hN hk => ?_), fun W h' tk ys hW hP3 hF3 hk => ?_⟩
  · have hj0 : j < rows.length := Nat.lt_of_lt_of_le hj (Nat.sub_le _ _)
    obtain ⟨u, hu⟩ := hget j hj0
    have hv' : v = .str (rows.getD j default) u := by
      rw [← hu]
      have hv2 : (rvs.take (rvs.length - 1))[j]? = some v := by simpa using hv
      rw [List.getElem?_take_of_lt (by omega)] at hv2
      simp [List.getD, hv2]
    subst hv'
    have hfl := hfull j (Nat.add_lt_of_lt_sub hj)
    rw [show rows.getD j "" = rows.getD j default by simp [List.getD, hj0]] at hfl
    generalize rows.getD j default = row at hfl ⊢
    have k3 : KeepH h₁ h' := fun b o e => iter_up (h := h₁) (h' := h') (I := I) n2 (fun b o hb e => hk b o hb (k2 _ _ e)) _ _ e
    have V' := V1.keep k3
    unfold LcBody
    refine wpAny_of_eq (show letOwnedTupleGo (.Name "row" _) (.ref I) _ = pure () from rfl) ?_
    refine wpAny_assign_Name ?_
    refine st_local (s := ⟨h', g, d, tk, os⟩) (frNs hN) (fun h₅ F sb => ?_)
    have sb : Heap.SameBut C h' h₅ := sb
    have hCT : C ∉ Tabs := fun q => by obtain ⟨o, es, ep, eo, ed, _⟩ := hN; obtain ⟨pp, e, _⟩ := V'.X.T _ q; rw [eo] at e; cases e; cases ed
    have hCtop : Top w.params C = false := top_new V2.X hC
    have X5 : Ctx0 w mg mb h₅ := V'.X.stepW (stepH_same sb hCT) (by simp [hCtop])
    have hcell5 : h₅.IsCell (L0 + 1 + 0) (some (.int wd tw)) := by
      obtain ⟨o, e, dd⟩ := V'.cell 0 (by decide)
      exact ⟨o, (sb.2 _ (fun q => by obtain ⟨o', es, ep, eo, ed, _⟩ := hN; rw [q] at e; rw [e] at eo; cases eo; rw [dd] at ed; cases ed)).trans e, by rw [c0] at dd; exact dd⟩
    have hN5 := F.ns
    clear F
    refine wpAny_tests_one ?_
    iterate 2 (walk1; (try dsimp only))
    refine Call_ ?_
    refine nm_builtin X5.G.g (X5.G.names.free _ (by simp)) X5.G.b (X5.G.bi "len" _ (by decide) b_len) ?_
    refine cw ?_
    iterate 1 (walk1; (try dsimp only))
    refine nm_local (s := ⟨h₅, g, d, _, os⟩) (frNs hN5) (v := .str row u) (if_pos rfl) ?_
    iterate 1 (walk1; (try dsimp only))
    refine ⟨⟨_, .inr (.inl rfl), keeper_builtin⟩, ?_⟩
    refine P.len_str (by omega) ?_
    iterate 2 (walk1; (try dsimp only))
    refine nm_cell hcell5 ?_
    iterate 2 (walk1; (try dsimp only))
    have hne : ((row.length : Nat) : Int) + 1 = wd := hfl
    refine ⟨by simp [hne], ?_⟩
    rw [if_neg (by simp [hne])]
    exact ⟨h₅, _, _, rfl, fun b o hb e => (sb.2 b hb).trans e, hN5, trivial⟩
  · have k5 : KeepH h₁ h' := fun b o e => iter_up (h := h₁) (h' := h') (I := I) n2 (fun b o hb e => hk b o hb (k2 _ _ e)) _ _ e
    have Vf := V1.keep k5
    rw [show (List.range (rows.length - 1)).filter (fun _ => false) = [] by simp] at hF3
    have hys : ys.toList = [] := by
      generalize ys.toList = zs at hF3
      cases hF3
      rfl
    have hys2 : ys = ([] : List Value).toArray := by rw [← hys]
    subst hys2
    obtain ⟨nn, e3⟩ := hP3
    dsimp only
    iterate 2 (walk1; (try dsimp only))
    refine new_llst (s := ⟨h', g, d, _, os⟩) (vs := []) (by simp) (fun h₄ N4 k4 n4 l4 => ?_)
    refine ne_dataH (s := ⟨h₄, g, d, _, os⟩) (reads_lst (ws := []) (⟨nn, k4 _ _ e3⟩ : LstAt h₄ W ([] : List Value).toArray) .nil) (reads_lst (ws := []) l4 .nil) (shaped_strs (ws := []) (by simp)) (shaped_strs (ws := []) (by simp)) (r.u64 (by decide)) ?_
    rw [show (!PyData.eqv (.list (([] : List Str).map PyData.str)) (.list (([] : List Str).map PyData.str))) = false by simp only [PyData.eqv]; rw [eqv_strs]; rfl]
    iterate 1 (walk1; (try dsimp only))
    rw [if_neg (by decide)]
    iterate 1 (walk1; (try dsimp only))
    exact hQ h₄ _ (fun b o e => k4 _ _ (k5 _ _ (k1 _ _ e))) (Vf.keep k4)
end
end Mine
end
section
open PySem PySem.W PyProof.Rows PySem.Calls
set_option maxRecDepth 100000
set_option maxHeartbeats 1600000
set_option Elab.async false
set_option linter.unusedVariables false
namespace Mine
section
variable {w : World} {A : Around} {E : Value → Shared → Prop} {s : Shared} {mg mb : Str → Option Value} {h0 : Heap} {L0 : Addr}
theorem law_k {W R : Addr} {vs rvs : List Value} {w0 : Str} {ws rows : List Str} {wd : Int} {tw : Tok} {cm : Nat → Option Value} {m : Str → Option Value} {Q : Flow → Shared → Prop} (V : Lw w mg mb h0 L0 m cm s.heap) (r : NearR A 120 400)
    (hW : LstAt s.heap W vs.toArray) (hs : StrsAre vs (w0 :: ws)) (hm : m "words" = some (.ref W)) (hmr : m "rows" = some (.ref R)) (c0 : cm 0 = some (.int wd tw)) (c6 : cm 6 = some .none) (hR : RowsL s.heap R rvs.toArray) (hrs : StrsAre rvs rows)
    (hn : ws.length ≤ 45) (hz : ∀ t ∈ w0 :: ws, WordOk t) (hfit : 1 + ((quoteF w0).length : Int) ≤ wd) (hrl : rows.length ≤ 1000) (hcnt : (rows.length : Int) ≤ (Txt.count (writF wd w0 ws) "\r\n" : Int) + 1) (hcb : Txt.count (writF wd w0 ws) "\r\n" ≤ 10000000)
    (hQ : ∀ h' g' d' tk', (AllBare s.gens → AllBare g') → StepH [] s.heap h' → Lw w mg mb h0 L0 m cm h' → Q (.ret (.bool true)) ⟨h', g', d', tk', s.os⟩) :
    wpAny (model pw w) A (execs ((fBody (stm 20)).drop 16) (lawEnv w.params L0)) Q NoE s := by
  obtain ⟨h, g, d, tk, os⟩ := s
  dsimp only at V hW hR hQ
  have hcell : h.IsCell (L0 + 1 + 0) (some (.int wd tw)) := by have := V.cell 0 (by decide); rw [c0] at this; exact this
  have hwr : mg "_law_written" = some (.ref 256) := V.X.G.names.written
  iterate 6 (walk1; (try dsimp only))
  iterate 1 (walk1; (try dsimp only))
  refine cw ?_
  iterate 5 (walk1; (try dsimp only))
  refine ⟨⟨_, .inl rfl, keeper_fn ((m_writ w.params).get V.X.K) (m_writ w.params).data⟩, ?_⟩
  refine writ_spec (s := ⟨h, g, d, _, os⟩) V.X hW hs hn hz hfit (r.less (by omega) (by omega)) (fun s₁ u₁ st₁ => ?_)
  obtain ⟨h₁, g₁, d₁, tk₁, os₁⟩ := s₁
  have os' : os₁ = os := st₁.os
  subst os'
  have gs := st₁.gens
  replace st₁ := st₁.heap
  dsimp only at st₁ gs ⊢
  have V1 := V.stepN c6 st₁
  have hR1 := hR.step V.X.T st₁
  iterate 4 (walk1; (try dsimp only))
  iterate 1 (walk1; (try dsimp only))
  refine SC.count ?_
  generalize Txt.count (writF wd w0 ws) "\r\n" = cnt at hcnt hcb ⊢
  iterate 2 (walk1; (try dsimp only))
  obtain ⟨hlen, _⟩ := strs_get hrs
  refine Call_ ?_
  refine nm_builtin V1.X.G.g (V1.X.G.names.free _ (by simp)) V1.X.G.b (V1.X.G.bi "len" _ (by decide) b_len) ?_
  refine cw ?_
  iterate 3 (walk1; (try dsimp only))
  refine ⟨⟨_, .inr (.inl rfl), keeper_builtin⟩, ?_⟩
  refine call_len_list (s := ⟨h₁, g₁, d₁, _, os₁⟩) hR1.isL (by simp; omega) ?_
  iterate 1 (walk1; (try dsimp only))
  rw [decide_eq_true (by simp; omega)]
  exact hQ h₁ g₁ d₁ _ gs st₁ V1
end
end Mine
end
section
open PySem PySem.W PyProof.Rows PySem.Calls
set_option maxRecDepth 100000
set_option maxHeartbeats 1600000
set_option Elab.async false
set_option linter.unusedVariables false
namespace Mine
noncomputable def okW (k j n : Nat) : Bool := (quoteF (wordF k j n)).length == n && decide ((wordF k j n).cps.size ≤ 1000) && (quoteF (wordF k j n)) != "" && !(Txt.isspace (quoteF (wordF k j n))) && PyData.strOk (quoteF (wordF k j n)) && PyData.strOk (wordF k j n)
noncomputable def okN (n : Nat) : Bool := (List.range 4).all fun k => (List.range 13).all fun j => okW k j n
theorem okN_1 : okN 1 = true := by decide +kernel
theorem okN_2 : okN 2 = true := by decide +kernel
theorem okN_3 : okN 3 = true := by decide +kernel
theorem okN_5 : okN 5 = true := by decide +kernel
theorem okN_7 : okN 7 = true := by decide +kernel
theorem okN_8 : okN 8 = true := by decide +kernel
theorem okN_11 : okN 11 = true := by decide +kernel
theorem okN_17 : okN 17 = true := by decide +kernel
theorem okN_26 : okN 26 = true := by decide +kernel
end Mine
end
section
open PySem PySem.W PyProof.Rows PySem.Calls
set_option maxRecDepth 100000
set_option maxHeartbeats 1600000
set_option Elab.async false
set_option linter.unusedVariables false
namespace Mine
theorem szF_cases (b md gr x : Int) : szF b md gr x = b ∨ szF b md gr x = md ∨ szF b md gr x = gr := by unfold szF; split <;> (try split) <;> simp
theorem okN_all {n : Nat} (h : n = 1 ∨ n = 2 ∨ n = 3 ∨ n = 5 ∨ n = 7 ∨ n = 8 ∨ n = 11 ∨ n = 17 ∨ n = 26) : okN n = true := by
  rcases h with rfl | rfl | rfl | rfl | rfl | rfl | rfl | rfl | rfl
  · exact okN_1
  · exact okN_2
  · exact okN_3
  · exact okN_5
  · exact okN_7
  · exact okN_8
  · exact okN_11
  · exact okN_17
  · exact okN_26
theorem fmod_nat (a : Int) (k : Nat) (hk : 0 < k) : ∃ j : Nat, j < k ∧ a.fmod k = j := by
  have h0 := Int.fmod_nonneg_of_pos a (show (0 : Int) < k by omega)
  have h1 := Int.fmod_lt_of_pos a (show (0 : Int) < k by omega)
  exact ⟨(a.fmod k).toNat, by omega, by omega⟩
theorem sz_nat {b md gr z : Int} (hb : b = 2 ∨ b = 3) (hmd : md = b * 2 ∨ md = b * 3) (hgr : gr = md * 2 ∨ gr = md * 3) (hs : z = b ∨ z = md ∨ z = gr) :
    ∃ n : Nat, (n = 1 ∨ n = 2 ∨ n = 3 ∨ n = 5 ∨ n = 7 ∨ n = 8 ∨ n = 11 ∨ n = 17 ∨ n = 26) ∧ z - 1 = n := by
  rcases hb with rfl | rfl <;> rcases hmd with rfl | rfl <;> rcases hgr with rfl | rfl <;> rcases hs with rfl | rfl | rfl <;> exact ⟨_, by decide, (Int.toNat_of_nonneg (by decide)).symm⟩
theorem word_ok {b md gr : Int} (hb : b = 2 ∨ b = 3) (hmd : md = b * 2 ∨ md = b * 3) (hgr : gr = md * 2 ∨ gr = md * 3) (x : Int) :
    ((quoteF (wdF b md gr x)).length : Int) + 1 = szF b md gr x ∧ WordOk (wdF b md gr x) ∧ PyData.strOk (wdF b md gr x) = true := by
  have hs := szF_cases b md gr x
  obtain ⟨n, hn, e⟩ : ∃ n : Nat, (n = 1 ∨ n = 2 ∨ n = 3 ∨ n = 5 ∨ n = 7 ∨ n = 8 ∨ n = 11 ∨ n = 17 ∨ n = 26) ∧ szF b md gr x - 1 = n := sz_nat hb hmd hgr hs
  obtain ⟨k, hk, ek⟩ := fmod_nat (x.fdiv 3) 4 (by decide)
  obtain ⟨j, hj, ej⟩ := fmod_nat (x.fdiv 12) 13 (by decide)
  have ek' : (x.fdiv 3).fmod 4 = (k : Int) := ek
  have ej' : (x.fdiv 12).fmod 13 = (j : Int) := ej
  have a1 := List.all_eq_true.mp (okN_all hn) k (List.mem_range.mpr hk)
  have a2 := List.all_eq_true.mp a1 j (List.mem_range.mpr hj)
  unfold wdF
  rw [ek', ej', e]
  unfold okW at a2
  simp only [Bool.and_eq_true, beq_iff_eq, decide_eq_true_eq, bne_iff_ne, ne_eq, Bool.not_eq_true'] at a2
  obtain ⟨⟨⟨⟨⟨b1, b2⟩, b3⟩, b4⟩, b5⟩, b6⟩ := a2
  refine ⟨by rw [b1]; omega, ⟨b2, by rw [b1]; omega, b3, b4, b5⟩, b6⟩
end Mine
end
section
open PySem PySem.W PyProof.Rows PySem.Calls
set_option maxRecDepth 100000
set_option maxHeartbeats 1600000
set_option Elab.async false
set_option linter.unusedVariables false
namespace Mine
theorem part3 {α : Type} (p1 p2 p3 : α → Bool) : ∀ l : List α, (∀ x ∈ l, (p1 x = true ∧ p2 x = false ∧ p3 x = false) ∨ (p1 x = false ∧ p2 x = true ∧ p3 x = false) ∨ (p1 x = false ∧ p2 x = false ∧ p3 x = true)) →
    (l.filter p1 ++ l.filter p2 ++ l.filter p3).Perm l
  | [], _ => by simp
  | x :: l, h => by
    have ih := part3 p1 p2 p3 l fun y m => h y (.tail _ m)
    rcases h x (.head _) with ⟨a, b, c⟩ | ⟨a, b, c⟩ | ⟨a, b, c⟩
    · simp only [List.filter_cons, a, b, c, if_true, Bool.false_eq_true, if_false, List.cons_append]
      exact ih.cons x
    · simp only [List.filter_cons, a, b, c, if_true, Bool.false_eq_true, if_false, List.append_assoc, List.cons_append]
      refine (List.perm_middle).trans ?_
      rw [← List.append_assoc]
      exact ih.cons x
    · simp only [List.filter_cons, a, b, c, if_true, Bool.false_eq_true, if_false]
      refine (List.perm_middle).trans ?_
      exact ih.cons x
theorem pre_antisymm {key : Nat → Int} {a b : Nat} (h : pre key a b) (h' : pre key b a) : a = b := by
  unfold pre at h h'; omega
theorem sort_words {ds : List (Int × Str)} {b md gr : Int} (h1 : b < md) (h2 : md < gr) (hsz : ∀ p ∈ ds, p.1 = b ∨ p.1 = md ∨ p.1 = gr) (hq : ∀ p ∈ ds, ((quoteF p.2).length : Int) + 1 = p.1) (hn : 2 ≤ ds.length) :
    ((askRun (keyS (ds.map (·.2))) (kas_sort (ds.map (·.2)).length)).toList).map (fun i => (ds.getD i (0, "")).2) = (dueF gr md b ds).map (·.2) := by
  obtain ⟨R, S⟩ := sort_run (key := keyS (ds.map (·.2))) (n := (ds.map (·.2)).length) (by simpa using hn)
  generalize hp : askRun (keyS (ds.map (·.2))) (kas_sort (ds.map (·.2)).length) = p at R S
  have hl : (ds.map (·.2)).length = ds.length := by simp
  rw [hl] at R S
  have key_at : ∀ i, i < ds.length → keyS (ds.map (·.2)) i = 1 - (ds.getD i (0, "")).1 := fun i hi => by
    have := hq ds[i] (by simp)
    unfold keyS
    simp only [List.getD_eq_getElem?_getD, List.getElem?_map, List.getElem?_eq_getElem hi, Option.map_some, Option.getD_some]
    omega
  have sz_at : ∀ i, i < ds.length → (ds.getD i (0, "")).1 = b ∨ (ds.getD i (0, "")).1 = md ∨ (ds.getD i (0, "")).1 = gr := fun i hi => by
    have := hsz ds[i] (by simp)
    simpa [hi] using this
  have pl : p.toList.Perm (List.range ds.length) := by
    have := Array.perm_iff_toList_perm.mp R.perm
    simpa using this
  let g1 : Nat → Bool := fun i => (ds.getD i (0, "")).1 == gr
  let g2 : Nat → Bool := fun i => (ds.getD i (0, "")).1 == md
  let g3 : Nat → Bool := fun i => (ds.getD i (0, "")).1 == b
  have pl' : ((List.range ds.length).filter g1 ++ (List.range ds.length).filter g2 ++ (List.range ds.length).filter g3).Perm (List.range ds.length) := part3 g1 g2 g3 _ fun i hi => by
    have := sz_at i (List.mem_range.mp hi)
    simp only [g1, g2, g3, beq_iff_eq, beq_eq_false_iff_ne, ne_eq]
    omega
  have s1 : p.toList.Pairwise (pre (keyS (ds.map (·.2)))) := by
    rw [List.pairwise_iff_getElem]
    intro i j hi hj hij
    have := S i j hij (by have := R.size; simp at hj; omega)
    simp only [at_eq] at this
    simp at hi hj
    simpa [hi, hj] using this
  have lt := List.pairwise_lt_range (n := ds.length)
  have same : ∀ (g : Nat → Bool) (v : Int), (∀ i, i < ds.length → g i = true → (ds.getD i (0, "")).1 = v) → ((List.range ds.length).filter g).Pairwise (pre (keyS (ds.map (·.2)))) := fun g v hg => by
    refine List.Pairwise.imp_of_mem (fun {x y} hx hy hxy => ?_) (lt.filter g)
    have hx' := List.mem_filter.mp hx
    have hy' := List.mem_filter.mp hy
    have ix := List.mem_range.mp hx'.1
    have iy := List.mem_range.mp hy'.1
    right
    refine ⟨?_, hxy⟩
    rw [key_at x ix, key_at y iy, hg x ix hx'.2, hg y iy hy'.2]
  have mem_v : ∀ (v : Int) (x : Nat), x ∈ (List.range ds.length).filter (fun i => (ds.getD i (0, "")).1 == v) → x < ds.length ∧ (ds.getD x (0, "")).1 = v := fun v x hx => by
    have hx' := List.mem_filter.mp hx
    exact ⟨List.mem_range.mp hx'.1, by simpa using hx'.2⟩
  have s2 : ((List.range ds.length).filter g1 ++ (List.range ds.length).filter g2 ++ (List.range ds.length).filter g3).Pairwise (pre (keyS (ds.map (·.2)))) := by
    rw [List.pairwise_append, List.pairwise_append]
    refine ⟨⟨same g1 gr fun i _ h => by simpa [g1] using h, same g2 md fun i _ h => by simpa [g2] using h, fun x hx y hy => ?_⟩, same g3 b fun i _ h => by simpa [g3] using h, fun x hx y hy => ?_⟩
    · obtain ⟨ix, ex⟩ := mem_v gr x hx
      obtain ⟨iy, ey⟩ := mem_v md y hy
      left; rw [key_at x ix, key_at y iy, ex, ey]; omega
    · obtain ⟨iy, ey⟩ := mem_v b y hy
      rcases List.mem_append.mp hx with hx | hx
      · obtain ⟨ix, ex⟩ := mem_v gr x hx
        left; rw [key_at x ix, key_at y iy, ex, ey]; omega
      · obtain ⟨ix, ex⟩ := mem_v md x hx
        left; rw [key_at x ix, key_at y iy, ex, ey]; omega
  have := List.Perm.eq_of_pairwise (fun a b _ _ x y => pre_antisymm x y) s1 s2 (pl.trans pl'.symm)
  rw [this]
  unfold dueF
  simp only [List.map_append]
  have f : ∀ v : Int, ((List.range ds.length).filter (fun i => (ds.getD i (0, "")).1 == v)).map (fun i => (ds.getD i (0, "")).2) = (ds.filter (fun p => p.1 == v)).map (·.2) := fun v => by
    rw [← filter_range (ds := ds) (fun p => p.1 == v) (0, ""), List.map_map]
    rfl
  rw [← f gr, ← f md, ← f b]
end Mine
end
section
open PySem PySem.W PyProof.Rows PySem.Calls
set_option maxRecDepth 100000
set_option maxHeartbeats 1600000
set_option Elab.async false
set_option linter.unusedVariables false
namespace Mine
theorem jn_snoc (sep : Str) : ∀ (xs : List Str) (y : Str), xs ≠ [] → Txt.join sep (xs ++ [y]) = Txt.join sep xs ++ sep ++ y
  | [], _, h => absurd rfl h
  | [x], y, _ => by rw [List.singleton_append, jn_cons, jn_one, jn_one]
  | x :: x2 :: r, y, _ => by
    have := jn_snoc sep (x2 :: r) y (by simp)
    rw [List.cons_append, List.cons_append, jn_cons, ← List.cons_append, this, jn_cons]
    simp only [str_assoc]
noncomputable def lead (p : Nat) : Str := if p = 0 then "" else " "
noncomputable def chunksP (p : Nat) : List Str → List (Str × Str)
  | [] => []
  | w :: r => (lead p, quoteF w) :: r.map (fun t => ((" " : Str), quoteF t))
noncomputable def lineT (p : Nat) (ws : List Str) : Str := lead p ++ Txt.join " " (ws.map quoteF)
theorem chunksP_snoc {p : Nat} {ws : List Str} {t : Str} (h : ws ≠ []) : chunksP p (ws ++ [t]) = chunksP p ws ++ [((" " : Str), quoteF t)] := by
  cases ws with
  | nil => exact absurd rfl h
  | cons w r => simp [chunksP]
theorem lineF_one (c q : Str) : lineF [(c, q)] = c ++ q := by
  have := lineF_snoc [] c q
  rw [List.nil_append, lineF_nil, empty_app] at this
  exact this
theorem lineF_chunks (p : Nat) (ws : List Str) : ws ≠ [] → lineF (chunksP p ws) = lineT p ws := by
  induction ws using snoc_ind with
  | h0 => exact fun h => absurd rfl h
  | h1 l x ih =>
    intro _
    by_cases hl : l = []
    · subst hl
      show lineF [(lead p, quoteF x)] = lead p ++ Txt.join " " [quoteF x]
      rw [lineF_one, jn_one]
    · rw [chunksP_snoc hl, lineF_snoc, ih hl]
      unfold lineT
      rw [List.map_append, List.map_singleton, jn_snoc _ _ _ (by simpa using hl)]
      simp only [str_assoc]
theorem len_sp : ((" " : Str).length : Nat) = 1 := by decide +kernel
theorem len_e : (("" : Str).length : Nat) = 0 := by decide +kernel
noncomputable def k0 (p : Nat) : Int := if p = 0 then 1 else 0
theorem k0_lead (p : Nat) : k0 p + ((lead p).length : Int) = 1 := by
  unfold k0 lead
  split
  · rw [len_e]; rfl
  · rw [len_sp]; rfl
noncomputable def sumQ (ws : List Str) : Int := (ws.map fun t => ((quoteF t).length : Int) + 1).sum
theorem len_lineT (p : Nat) (ws : List Str) : ((lineT p ws).length : Int) = ((lead p).length : Int) + ((Txt.join " " (ws.map quoteF)).length : Int) := by
  unfold lineT; rw [len_app]; push_cast; rfl
noncomputable def rowWk (du : List (Int × Str)) (wd : Int) (k : Nat) (p : Int) : List Str := ((List.range k).filter (fun j => (aheadF du j).fdiv wd == p)).map (fun j => (du.getD j (0, "")).2)
theorem rowWk_succ (du : List (Int × Str)) (wd : Int) (k : Nat) (p : Int) : rowWk du wd (k + 1) p = rowWk du wd k p ++ (if (aheadF du k).fdiv wd = p then [(du.getD k (0, "")).2] else []) := by
  unfold rowWk
  rw [List.range_succ, List.filter_append, List.map_append]
  congr 1
  by_cases h : (aheadF du k).fdiv wd = p
  · simp [h]
  · simp [h]
theorem ahead_succ {du : List (Int × Str)} {k : Nat} (h : k < du.length) : aheadF du (k + 1) = aheadF du k + du[k].1 := by
  unfold aheadF
  rw [take_snoc du k h, List.map_append, List.sum_append]
  simp only [List.map_cons, List.map_nil, List.sum_cons, List.sum_nil, Int.add_zero]
structure GI (du : List (Int × Str)) (wd : Int) (k : Nat) (F : FS) (q : Nat) : Prop where
  ls : F.ls = (List.range q).map (fun p => lineT p (rowWk du wd k (p : Nat)))
  ps : F.ps = chunksP q (rowWk du wd k (q : Nat))
  ne : rowWk du wd k (q : Nat) ≠ []
  kk : F.k = k0 q
  wt : F.k + tot F.ps = aheadF du k - q * wd
  full : ∀ p : Nat, p < q → ((Txt.join " " ((rowWk du wd k (p : Nat)).map quoteF)).length : Int) + 1 = wd
  lo : 0 < aheadF du k - q * wd
  hi : aheadF du k - q * wd ≤ wd
  le : ∀ j, j < k → (aheadF du j).fdiv wd ≤ q
  last : (aheadF du (k - 1)).fdiv wd = q
theorem dvd_le {a b : Int} (h : a ∣ b) (ha : 0 < a) (hb : 0 < b) : a ≤ b := Int.le_of_dvd hb h
theorem fdiv_is {a w : Int} {q : Nat} (hw : 0 < w) (h1 : q * w ≤ a) (h2 : a < q * w + w) : a.fdiv w = q := by
  rw [Int.fdiv_eq_ediv_of_nonneg _ (by omega)]
  exact (Int.ediv_eq_iff_of_pos hw).mpr ⟨h1, h2⟩
theorem GI.next {du : List (Int × Str)} {wd : Int} {k : Nat} {F : FS} {q : Nat} (g : GI du wd k F q) (hk : k < du.length) (hk1 : 1 ≤ k) (hw : 0 < wd) (hs : 0 < du[k].1) (hd : du[k].1 ∣ aheadF du k) (hdw : du[k].1 ∣ wd) (hq : ((quoteF du[k].2).length : Int) + 1 = du[k].1) :
    ∃ q', GI du wd (k + 1) (chunkF wd F " " (quoteF du[k].2)) q' := by
  have hget : (du.getD k (0, "")).2 = du[k].2 := by simp [hk]
  have ha := ahead_succ hk
  have hdd : du[k].1 ∣ wd - (aheadF du k - q * wd) := Int.dvd_sub hdw (Int.dvd_sub hd (Int.dvd_trans hdw (Int.dvd_mul_left _ _)))
  have lo := g.lo
  have hi := g.hi
  have tt := tot_snoc F.ps " " (quoteF du[k].2)
  rw [len_sp] at tt
  by_cases hlt : aheadF du k - q * wd < wd
  · have hfit : du[k].1 ≤ wd - (aheadF du k - q * wd) := dvd_le hdd hs (by omega)
    have hrow : (aheadF du k).fdiv wd = q := fdiv_is hw (by omega) (by omega)
    have hwt : F.k + tot (F.ps ++ [((" " : Str), quoteF du[k].2)]) = aheadF du (k + 1) - q * wd := by
      rw [tt, ha]; have := g.wt; omega
    have hc : chunkF wd F " " (quoteF du[k].2) = ⟨F.ls, F.ps ++ [((" " : Str), quoteF du[k].2)], F.k⟩ := by
      unfold chunkF; rw [if_pos (by rw [hwt]; omega)]
    have hr : rowWk du wd (k + 1) (q : Nat) = rowWk du wd k (q : Nat) ++ [du[k].2] := by rw [rowWk_succ, if_pos hrow, hget]
    have ho : ∀ p : Nat, p < q → rowWk du wd (k + 1) (p : Nat) = rowWk du wd k (p : Nat) := fun p hp => by rw [rowWk_succ, if_neg (by rw [hrow]; omega), List.append_nil]
    refine ⟨q, ?_⟩
    rw [hc]
    refine ⟨?_, ?_, ?_, g.kk, hwt, fun p hp => ?_, by rw [ha]; omega, by rw [ha]; omega, fun j hj => ?_, by rw [Nat.add_sub_cancel]; exact hrow⟩
    · show F.ls = _
      rw [g.ls]
      exact List.map_congr_left fun p hp => by rw [ho p (List.mem_range.mp hp)]
    · show F.ps ++ _ = _
      rw [hr, chunksP_snoc g.ne, g.ps]
    · rw [hr]; simp
    · rw [ho p hp]; exact g.full p hp
    · by_cases e : j = k
      · rw [e, hrow]; exact Int.le_refl _
      · exact g.le j (by omega)
  · have heq : aheadF du k - q * wd = wd := by omega
    have hrow : (aheadF du k).fdiv wd = (q + 1 : Nat) := fdiv_is hw (by push_cast; rw [Int.add_mul]; omega) (by push_cast; rw [Int.add_mul]; omega)
    have hc : chunkF wd F " " (quoteF du[k].2) = ⟨F.ls ++ [lineF F.ps], [((" " : Str), quoteF du[k].2)], 0⟩ := by
      unfold chunkF
      rw [if_neg (by rw [tt]; have := g.wt; omega)]
    have hz : rowWk du wd k ((q + 1 : Nat) : Int) = [] := by
      unfold rowWk
      rw [List.map_eq_nil_iff, List.filter_eq_nil_iff]
      intro j hj
      have := g.le j (List.mem_range.mp hj)
      simp only [beq_iff_eq]
      push_cast
      omega
    have hr : rowWk du wd (k + 1) ((q + 1 : Nat) : Int) = [du[k].2] := by rw [rowWk_succ, if_pos hrow, hz, hget]; rfl
    have ho : ∀ p : Nat, p < q + 1 → rowWk du wd (k + 1) (p : Nat) = rowWk du wd k (p : Nat) := fun p hp => by rw [rowWk_succ, if_neg (by rw [hrow]; omega), List.append_nil]
    have hlq : lineF F.ps = lineT q (rowWk du wd k (q : Nat)) := by rw [g.ps, lineF_chunks _ _ g.ne]
    refine ⟨q + 1, ?_⟩
    rw [hc]
    refine ⟨?_, ?_, ?_, ?_, ?_, fun p hp => ?_, ?_, ?_, fun j hj => ?_, by rw [Nat.add_sub_cancel]; exact hrow⟩
    · show F.ls ++ [lineF F.ps] = _
      rw [List.range_succ, List.map_append, List.map_singleton, ho q (by omega), hlq, g.ls]
      congr 1
      exact List.map_congr_left fun p hp => by rw [ho p (by have := List.mem_range.mp hp; omega)]
    · show [((" " : Str), quoteF du[k].2)] = _
      rw [hr]; simp [chunksP, lead]
    · rw [hr]; simp
    · show (0 : Int) = k0 (q + 1)
      simp [k0]
    · show (0 : Int) + tot [((" " : Str), quoteF du[k].2)] = _
      have := tot_snoc [] " " (quoteF du[k].2)
      rw [List.nil_append, tot_nil, len_sp] at this
      rw [this, ha]; push_cast; rw [Int.add_mul]; omega
    · by_cases e : p = q
      · subst e
        rw [ho p (by omega)]
        have h1 := len_lineF F.ps
        rw [hlq, len_lineT] at h1
        have h2 := g.wt
        have h3 := g.kk
        have h4 := k0_lead p
        omega
      · rw [ho p hp]; exact g.full p (by omega)
    · rw [ha]; push_cast; rw [Int.add_mul]; omega
    · have : du[k].1 ≤ wd := dvd_le hdw hs hw
      rw [ha]; push_cast; rw [Int.add_mul]; omega
    · by_cases e : j = k
      · rw [e, hrow]; exact Int.le_refl _
      · have := g.le j (by omega); push_cast; omega
end Mine
end
section
open PySem PySem.W PyProof.Rows PySem.Calls
set_option maxRecDepth 100000
set_option maxHeartbeats 1600000
set_option Elab.async false
set_option linter.unusedVariables false
namespace Mine
structure DuOk (du : List (Int × Str)) (wd : Int) : Prop where
  pos : 0 < wd
  n : 0 < du.length
  sz : ∀ p ∈ du, 0 < p.1
  dv : ∀ p ∈ du, p.1 ∣ wd
  q : ∀ p ∈ du, ((quoteF p.2).length : Int) + 1 = p.1
  ch : ∀ k (h : k < du.length), du[k].1 ∣ aheadF du k
noncomputable def F1 (wd : Int) (w0 : Str) : FS := chunkF wd ⟨[], [], 1⟩ "" (quoteF w0)
theorem GI.base {du : List (Int × Str)} {wd : Int} (D : DuOk du wd) : GI du wd 1 (F1 wd (du[0]'D.n).2) 0 := by
  have hn := D.n
  have hm : du[0] ∈ du := by simp
  have hs := D.sz _ hm
  have hle := dvd_le (D.dv _ hm) hs D.pos
  have hq := D.q _ hm
  have ha0 : aheadF du 0 = 0 := by simp [aheadF]
  have ha1 : aheadF du 1 = du[0].1 := by have := ahead_succ (du := du) (k := 0) hn; rw [ha0] at this; simpa using this
  have hr0 : (aheadF du 0).fdiv wd = 0 := by rw [ha0]; exact Int.zero_fdiv _
  have hget : (du.getD 0 (0, "")).2 = du[0].2 := by simp [hn]
  have hrow : rowWk du wd 1 ((0 : Nat) : Int) = [du[0].2] := by
    have := rowWk_succ du wd 0 ((0 : Nat) : Int)
    rw [if_pos (show (aheadF du 0).fdiv wd = ((0 : Nat) : Int) from hr0), hget] at this
    exact this
  have tt : tot ([] ++ [(("" : Str), quoteF du[0].2)]) = ((quoteF du[0].2).length : Int) := by
    rw [tot_snoc, tot_nil, len_e]; push_cast; omega
  have hc : F1 wd du[0].2 = ⟨[], [(("" : Str), quoteF du[0].2)], 1⟩ := by
    unfold F1 chunkF
    rw [if_pos (by rw [tt]; show (1 : Int) + _ ≤ wd; omega)]
    rfl
  rw [hc]
  refine ⟨rfl, ?_, by rw [hrow]; simp, rfl, ?_, fun p hp => by omega, by rw [ha1]; simpa using hs, by rw [ha1]; simpa using hle, fun j hj => ?_, by simpa using hr0⟩
  · show [(("" : Str), quoteF du[0].2)] = _
    rw [hrow]; simp [chunksP, lead]
  · show (1 : Int) + tot [(("" : Str), quoteF du[0].2)] = _
    rw [List.nil_append] at tt
    rw [tt, ha1]; push_cast; omega
  · have : j = 0 := by omega
    subst this; rw [hr0]; exact Int.le_refl _
theorem GI.all {du : List (Int × Str)} {wd : Int} (D : DuOk du wd) : ∀ k, 1 ≤ k → k ≤ du.length → ∃ q, GI du wd k (foldF wd (F1 wd (du[0]'D.n).2) (((du.map (·.2)).drop 1).take (k - 1))) q
  | 0, h, _ => by omega
  | 1, _, _ => ⟨0, by simpa [foldF] using GI.base D⟩
  | k + 2, _, h => by
    obtain ⟨q, g⟩ := GI.all D (k + 1) (by omega) (by omega)
    have hk : k + 1 < du.length := by omega
    have hm : du[k + 1] ∈ du := by simp
    obtain ⟨q', g'⟩ := g.next hk (by omega) D.pos (D.sz _ hm) (D.ch _ hk) (D.dv _ hm) (D.q _ hm)
    refine ⟨q', ?_⟩
    have hl : k < ((du.map (·.2)).drop 1).length := by simp; omega
    have e : ((du.map (·.2)).drop 1).take (k + 2 - 1) = ((du.map (·.2)).drop 1).take (k + 1 - 1) ++ [du[k + 1].2] := by
      rw [show k + 2 - 1 = k + 1 by omega, show k + 1 - 1 = k by omega, take_snoc _ k hl]
      congr 2
      simp [Nat.add_comm]
    rw [e, foldF_snoc]
    exact g'
theorem crlf_sp : ("\r\n" : Str) ++ (" " : Str) = ("\r\n " : Str) := by decide +kernel
theorem jn_lead (sep a x : Str) (r : List Str) : Txt.join sep ((a ++ x) :: r) = a ++ Txt.join sep (x :: r) := by
  cases r with
  | nil => rw [jn_one, jn_one]
  | cons y r => rw [jn_cons, jn_cons]; simp only [str_assoc]
theorem jn_sp : ∀ (rs : List Str) (r0 : Str), Txt.join "\r\n" (r0 :: rs.map (fun x => (" " : Str) ++ x)) = Txt.join "\r\n " (r0 :: rs)
  | [], r0 => by rw [List.map_nil, jn_one, jn_one]
  | x :: rs, r0 => by
    rw [List.map_cons, jn_cons, jn_sp rs, jn_lead, jn_cons, ← crlf_sp]
    simp only [str_assoc]
theorem rows_written {du : List (Int × Str)} {wd : Int} (D : DuOk du wd) : ∃ q : Nat, (aheadF du (du.length - 1)).fdiv wd = q ∧ (q : Int) * wd < aheadF du du.length ∧
    writF wd (du[0]'D.n).2 ((du.map (·.2)).drop 1) = Txt.join "\r\n " ((List.range (q + 1)).map (fun p => rowF du wd (p : Nat))) ∧
    (∀ p : Nat, p < q → ((rowF du wd (p : Nat)).length : Int) + 1 = wd) ∧ ((rowF du wd (q : Nat)).length : Int) + 1 ≤ wd := by
  have hn := D.n
  obtain ⟨q, g⟩ := GI.all D du.length hn (Nat.le_refl _)
  rw [List.take_of_length_le (by simp)] at g
  have hrw : ∀ p : Int, rowWk du wd du.length p = rowW du wd p := fun p => rfl
  have hlast : lineF (foldF wd (F1 wd du[0].2) ((du.map (·.2)).drop 1)).ps = lineT q (rowW du wd (q : Nat)) := by rw [g.ps, lineF_chunks _ _ g.ne, hrw]
  refine ⟨q, g.last, by have := g.lo; omega, ?_, fun p hp => ?_, ?_⟩
  · show Txt.join "\r\n" ((foldF wd (F1 wd du[0].2) ((du.map (·.2)).drop 1)).ls ++ [lineF (foldF wd (F1 wd du[0].2) ((du.map (·.2)).drop 1)).ps]) = _
    rw [hlast, g.ls]
    have e1 : (List.range q).map (fun p => lineT p (rowWk du wd du.length (p : Nat))) ++ [lineT q (rowW du wd (q : Nat))] = (List.range (q + 1)).map (fun p => lineT p (rowW du wd (p : Nat))) := by
      rw [List.range_succ, List.map_append]; rfl
    rw [e1, List.range_succ_eq_map, List.map_cons, List.map_cons, List.map_map, List.map_map]
    have e2 : lineT 0 (rowW du wd ((0 : Nat) : Int)) = rowF du wd ((0 : Nat) : Int) := by
      unfold lineT rowF lead
      rw [if_pos rfl, empty_app]
    have e3 : (List.range q).map ((fun p => lineT p (rowW du wd (p : Nat))) ∘ Nat.succ) = ((List.range q).map ((fun p => rowF du wd (p : Nat)) ∘ Nat.succ)).map (fun x => (" " : Str) ++ x) := by
      rw [List.map_map]
      refine List.map_congr_left fun p _ => ?_
      show lineT (p + 1) _ = (" " : Str) ++ rowF du wd _
      unfold lineT rowF lead
      rw [if_neg (by omega)]
    rw [e2, e3, jn_sp]
  · exact g.full p hp
  · have h1 := len_lineF (foldF wd (F1 wd du[0].2) ((du.map (·.2)).drop 1)).ps
    rw [hlast, len_lineT] at h1
    have h2 := g.wt
    have h3 := g.kk
    have h4 := k0_lead q
    have h5 := g.hi
    show ((Txt.join " " ((rowW du wd (q : Nat)).map quoteF)).length : Int) + 1 ≤ wd
    omega
end Mine
end
section
open PySem PySem.W PyProof.Rows PySem.Calls
set_option maxRecDepth 100000
set_option maxHeartbeats 1600000
set_option Elab.async false
set_option linter.unusedVariables false
namespace Mine
noncomputable def crlf : List Nat → Nat
  | [] => 0
  | a :: l => (if a = 13 ∧ l.head? = some 10 then 1 else 0) + crlf l
theorem crlf_le : ∀ l : List Nat, crlf l ≤ l.length
  | [] => Nat.le_refl _
  | a :: l => by
    have := crlf_le l
    show (if _ then 1 else 0) + crlf l ≤ l.length + 1
    split <;> omega
theorem crlf_app : ∀ a b : List Nat, crlf a + crlf b ≤ crlf (a ++ b)
  | [], b => by simp [crlf]
  | [x], b => by
    show (if x = 13 ∧ (none : Option Nat) = some 10 then 1 else 0) + 0 + crlf b ≤ (if x = 13 ∧ b.head? = some 10 then 1 else 0) + crlf b
    rw [if_neg (by simp)]
    split <;> omega
  | x :: y :: a, b => by
    have := crlf_app (y :: a) b
    show (if x = 13 ∧ some y = some 10 then 1 else 0) + crlf (y :: a) + crlf b ≤ (if x = 13 ∧ some y = some 10 then 1 else 0) + crlf ((y :: a) ++ b)
    omega
theorem crlf_two (b : List Nat) : crlf ([13, 10] ++ b) = 1 + crlf b := by
  rw [List.cons_append, List.singleton_append, crlf, crlf]
  simp
theorem crlf_cps : ("\r\n" : Str).cps.toList = [13, 10] := by decide +kernel
theorem crlf_len : ("\r\n" : Str).length = 2 := by decide +kernel
theorem sub_crlf (x : Str) (i : Nat) : Builtin.Str.subAt x "\r\n" i = true ↔ (x.cps.toList.drop i).take 2 = [13, 10] := by
  rw [StrLaws.subAt_eq, crlf_len, crlf_cps, beq_iff_eq]
theorem crlf_drop (l : List Nat) (i : Nat) : crlf (l.drop i) = (if (l.drop i).take 2 = [13, 10] then 1 else 0) + crlf (l.drop (i + 1)) := by
  rw [← List.drop_drop (i := 1) (j := i)]
  generalize l.drop i = d
  match d with
  | [] => simp [crlf]
  | [x] => simp [crlf]
  | x :: y :: r =>
    show (if x = 13 ∧ some y = some 10 then 1 else 0) + crlf (y :: r) = (if [x, y] = [13, 10] then 1 else 0) + crlf (y :: r)
    by_cases h : x = 13 ∧ y = 10
    · obtain ⟨rfl, rfl⟩ := h; simp
    · rw [if_neg (by simpa using h), if_neg (by simpa using h)]
theorem occ_crlf (x : Str) : ∀ (n a : Nat) (st : Array Nat × Nat), a + n = x.length + 1 → st.1.size ≤ a → (∀ i, a ≤ i → (x.cps.toList.drop i).take 2 = [13, 10] → st.2 ≤ i) →
    (forIn (List.range' a n) st (StrLaws.occBody x "\r\n" x.length (x.length + 1))).run.fst.size = st.1.size + crlf (x.cps.toList.drop a)
  | 0, a, st, h, _, _ => by
    have : x.cps.toList.drop a = [] := List.drop_of_length_le (by rw [len_cps]; omega)
    rw [this]; rfl
  | n + 1, a, st, h, h1, h2 => by
    rw [List.range'_succ, List.forIn_cons, crlf_drop]
    unfold StrLaws.occBody
    by_cases hc : (x.cps.toList.drop a).take 2 = [13, 10]
    · have hl : a + 2 ≤ x.length := by
        have := congrArg List.length hc
        rw [List.length_take, List.length_drop, len_cps] at this
        simp at this
        omega
      rw [if_pos ⟨⟨⟨by omega, h2 a (Nat.le_refl _) hc⟩, by rw [crlf_len]; exact hl⟩, (sub_crlf x a).mpr hc⟩]
      show (forIn (List.range' (a + 1) n) (st.1.push a, a + ("\r\n" : Str).length) (StrLaws.occBody x "\r\n" x.length (x.length + 1))).run.fst.size = _
      rw [occ_crlf x n (a + 1) _ (by omega) (by simp; omega) (fun i hi hp => ?_), if_pos hc]
      · simp; omega
      · show a + ("\r\n" : Str).length ≤ i
        rw [crlf_len]
        by_cases e : i = a + 1
        · subst e
          exfalso
          have e1 : (x.cps.toList.drop a)[1]? = some 10 := by
            have := congrArg (fun l => l[1]?) hc
            simpa [List.getElem?_take] using this
          have e2 : (x.cps.toList.drop (a + 1))[0]? = some 13 := by
            have := congrArg (fun l => l[0]?) hp
            simpa [List.getElem?_take] using this
          rw [List.getElem?_drop] at e1 e2
          rw [show a + 1 + 0 = a + 1 by omega, e1] at e2
          cases e2
        · omega
    · rw [if_neg (fun q => hc ((sub_crlf x a).mp q.2)), if_neg hc]
      show (forIn (List.range' (a + 1) n) st (StrLaws.occBody x "\r\n" x.length (x.length + 1))).run.fst.size = _
      rw [occ_crlf x n (a + 1) st (by omega) (by omega) (fun i hi hp => h2 i (by omega) hp)]
      omega
theorem count_crlf (x : Str) : Txt.count x "\r\n" = (crlf x.cps.toList : Nat) := by
  unfold Txt.count
  rw [StrLaws.occ_eq, Array.length_toList]
  have := occ_crlf x (x.length + 1 - 0) 0 (#[], 0) (by omega) (by simp) (fun i _ _ => Nat.zero_le _)
  rw [this]
  simp
theorem crlf_join : ∀ ls : List Str, ls.length ≤ crlf (Txt.join "\r\n" ls).cps.toList + 1
  | [] => by simp
  | [x] => by simp
  | x :: y :: r => by
    have h := crlf_join (y :: r)
    rw [jn_cons, str_assoc, cps_append, cps_append, crlf_cps]
    have h1 := crlf_app x.cps.toList ([13, 10] ++ (Txt.join "\r\n" (y :: r)).cps.toList)
    rw [crlf_two] at h1
    simp only [List.length_cons] at h ⊢
    omega
theorem len_join : ∀ ls : List Str, (Txt.join "\r\n" ls).length ≤ (ls.map (·.length)).sum + 2 * ls.length
  | [] => by rw [jn_nil]; simp [len_e]
  | [x] => by rw [jn_one]; simp
  | x :: y :: r => by
    have h := len_join (y :: r)
    rw [jn_cons, len_app, len_app, crlf_len]
    simp only [List.length_cons, List.map_cons, List.sum_cons] at h ⊢
    omega
structure Wide1 (wd : Int) (F : FS) (S : Int) (n : Nat) : Prop where
  fit : F.k + tot F.ps ≤ wd
  sum : S ≤ F.ls.length * wd + (F.k + tot F.ps)
  num : F.ls.length ≤ n
theorem Wide1.next {wd : Int} {F : FS} {S : Int} {n : Nat} (g : Wide1 wd F S n) {t : Str} (hq : ((quoteF t).length : Int) + 1 ≤ wd) : Wide1 wd (chunkF wd F " " (quoteF t)) (S + (((quoteF t).length : Int) + 1)) (n + 1) := by
  have tt := tot_snoc F.ps " " (quoteF t)
  rw [len_sp] at tt
  have t1 := tot_snoc [] " " (quoteF t)
  rw [List.nil_append, tot_nil, len_sp] at t1
  obtain ⟨g1, g2, g3⟩ := g
  unfold chunkF
  by_cases h : F.k + tot (F.ps ++ [((" " : Str), quoteF t)]) ≤ wd
  · rw [if_pos h]
    refine ⟨h, ?_, by show F.ls.length ≤ _; omega⟩
    show _ ≤ (F.ls.length : Int) * wd + (F.k + tot (F.ps ++ [((" " : Str), quoteF t)]))
    rw [tt]; push_cast; omega
  · rw [if_neg h]
    refine ⟨?_, ?_, by show (F.ls ++ [_]).length ≤ _; simp; omega⟩
    · show (0 : Int) + tot [((" " : Str), quoteF t)] ≤ wd
      rw [t1]; push_cast; omega
    · show _ ≤ ((F.ls ++ [lineF F.ps]).length : Int) * wd + ((0 : Int) + tot [((" " : Str), quoteF t)])
      rw [t1, List.length_append, List.length_singleton]; push_cast; rw [Int.add_mul]; omega
theorem Wide1.fold {wd : Int} : ∀ (ws : List Str) {F : FS} {S : Int} {n : Nat}, Wide1 wd F S n → (∀ t ∈ ws, ((quoteF t).length : Int) + 1 ≤ wd) → Wide1 wd (foldF wd F ws) (S + sumQ ws) (n + ws.length)
  | [], F, S, n, g, _ => by simpa [foldF, sumQ] using g
  | t :: ts, F, S, n, g, h => by
    have := Wide1.fold ts (g.next (h t (.head _))) (fun x hx => h x (.tail _ hx))
    have e : S + sumQ (t :: ts) = S + (((quoteF t).length : Int) + 1) + sumQ ts := by simp [sumQ]; omega
    rw [e, List.length_cons, show n + (ts.length + 1) = n + 1 + ts.length by omega]
    exact this
theorem Wide1.one {wd : Int} {w0 : Str} (hq : ((quoteF w0).length : Int) + 1 ≤ wd) : Wide1 wd (F1 wd w0) (((quoteF w0).length : Int) + 1) 0 := by
  have tt : tot ([] ++ [(("" : Str), quoteF w0)]) = ((quoteF w0).length : Int) := by
    rw [tot_snoc, tot_nil, len_e]; push_cast; omega
  have hc : F1 wd w0 = ⟨[], [(("" : Str), quoteF w0)], 1⟩ := by
    unfold F1 chunkF
    rw [if_pos (by rw [tt]; show (1 : Int) + _ ≤ wd; omega)]
    rfl
  rw [hc]
  rw [List.nil_append] at tt
  refine ⟨?_, ?_, Nat.le_refl _⟩
  · show (1 : Int) + tot _ ≤ wd
    rw [tt]; omega
  · show _ ≤ ((0 : Nat) : Int) * wd + ((1 : Int) + tot _)
    rw [tt]; omega
theorem count_lo {wd : Int} {w0 : Str} {ws : List Str} {q : Nat} (hw : 0 < wd) (hz : ∀ t ∈ w0 :: ws, ((quoteF t).length : Int) + 1 ≤ wd) (hq : (q : Int) * wd < sumQ (w0 :: ws)) :
    (q : Int) + 1 ≤ Txt.count (writF wd w0 ws) "\r\n" + 1 := by
  have g := (Wide1.one (hz w0 (.head _))).fold ws (fun t ht => hz t (.tail _ ht))
  have e : sumQ (w0 :: ws) = ((quoteF w0).length : Int) + 1 + sumQ ws := by simp [sumQ]
  rw [e] at hq
  obtain ⟨g1, g2, _⟩ := g
  have h : (q : Int) * wd < ((foldF wd (F1 wd w0) ws).ls.length + 1) * wd := by rw [Int.add_mul]; omega
  have h2 := Int.lt_of_mul_lt_mul_right h (by omega)
  have h3 := crlf_join ((foldF wd (F1 wd w0) ws).ls ++ [lineF (foldF wd (F1 wd w0) ws).ps])
  rw [count_crlf]
  show _ ≤ ((crlf (Txt.join "\r\n" ((foldF wd (F1 wd w0) ws).ls ++ [lineF (foldF wd (F1 wd w0) ws).ps])).cps.toList : Nat) : Int) + 1
  rw [List.length_append, List.length_singleton] at h3
  omega
theorem count_hi {wd : Int} {w0 : Str} {ws : List Str} (hz : ∀ t ∈ w0 :: ws, ((quoteF t).length : Int) + 1 ≤ wd) (h1 : ∀ t ∈ w0 :: ws, (quoteF t).length ≤ 1000) (hn : ws.length ≤ 100) :
    Txt.count (writF wd w0 ws) "\r\n" ≤ 10000000 := by
  have g := (Wide1.one (hz w0 (.head _))).fold ws (fun t ht => hz t (.tail _ ht))
  have h2 := wgt_fold wd ws (F1 wd w0) (fun t ht => h1 t (.tail _ ht))
  have h3 := wgt_chunk wd ⟨[], [], 1⟩ "" (quoteF w0)
  have h4 := h1 w0 (.head _)
  have h5 : wgt ⟨[], [], 1⟩ = 0 := rfl
  have h6 := len_join ((foldF wd (F1 wd w0) ws).ls ++ [lineF (foldF wd (F1 wd w0) ws).ps])
  have h7 := len_lineF (foldF wd (F1 wd w0) ws).ps
  have h8 := crlf_le (writF wd w0 ws).cps.toList
  have h9 := g.num
  rw [count_crlf]
  rw [len_cps] at h8
  have h10 : wgt (foldF wd (F1 wd w0) ws) = (((foldF wd (F1 wd w0) ws).ls.map (·.length)).sum : Nat) + tot (foldF wd (F1 wd w0) ws).ps := rfl
  have h11 : (writF wd w0 ws).length = (Txt.join "\r\n" ((foldF wd (F1 wd w0) ws).ls ++ [lineF (foldF wd (F1 wd w0) ws).ps])).length := rfl
  have h12 : wgt (F1 wd w0) = wgt ⟨[], [], 1⟩ + ((("" : Str).length : Int) + (quoteF w0).length) := h3
  rw [len_e] at h12
  simp only [List.map_append, List.sum_append, List.map_cons, List.map_nil, List.sum_cons, List.sum_nil, List.length_append, List.length_singleton] at h6
  omega
end Mine
end
section
open PySem PySem.W PyProof.Rows PySem.Calls
set_option maxRecDepth 100000
set_option maxHeartbeats 1600000
set_option Elab.async false
set_option linter.unusedVariables false
namespace Mine
structure DsOk (b md gr wd : Int) (ds : List (Int × Str)) : Prop where
  hb : b = 2 ∨ b = 3
  hmd : md = b * 2 ∨ md = b * 3
  hgr : gr = md * 2 ∨ gr = md * 3
  hwd : wd = gr ∨ wd = gr * 2
  sz : ∀ p ∈ ds, p.1 = b ∨ p.1 = md ∨ p.1 = gr
  q : ∀ p ∈ ds, ((quoteF p.2).length : Int) + 1 = p.1
  wk : ∀ p ∈ ds, WordOk p.2 ∧ PyData.strOk p.2 = true
  n2 : 2 ≤ ds.length
  n18 : ds.length ≤ 18
theorem dsOk_of {b md gr wd : Int} (hb : b = 2 ∨ b = 3) (hmd : md = b * 2 ∨ md = b * 3) (hgr : gr = md * 2 ∨ gr = md * 3) (hwd : wd = gr ∨ wd = gr * 2) (xs : List Int) (h2 : 2 ≤ xs.length) (h18 : xs.length ≤ 18) :
    DsOk b md gr wd (xs.map fun x => (szF b md gr x, wdF b md gr x)) := by
  refine ⟨hb, hmd, hgr, hwd, fun p hp => ?_, fun p hp => ?_, fun p hp => ?_, by simpa using h2, by simpa using h18⟩ <;> obtain ⟨x, _, rfl⟩ := List.mem_map.mp hp
  · exact szF_cases b md gr x
  · exact (word_ok hb hmd hgr x).1
  · exact (word_ok hb hmd hgr x).2
namespace DsOk
variable {b md gr wd : Int} {ds : List (Int × Str)}
theorem dbl {x y : Int} (h : 0 < x) (e : y = x * 2 ∨ y = x * 3) : x < y := by rcases e with rfl | rfl <;> omega
theorem trp {x y c : Int} (h : x ≤ c) (h0 : 0 < x) (e : y = x * 2 ∨ y = x * 3) : y ≤ c * 3 := by rcases e with rfl | rfl <;> omega
theorem bpos (d : DsOk b md gr wd ds) : 0 < b := by rcases d.hb with h | h <;> rw [h] <;> decide
theorem b3 (d : DsOk b md gr wd ds) : b ≤ 3 := by rcases d.hb with h | h <;> rw [h] <;> decide
theorem lt1 (d : DsOk b md gr wd ds) : b < md := dbl d.bpos d.hmd
theorem mpos (d : DsOk b md gr wd ds) : 0 < md := Int.lt_trans d.bpos d.lt1
theorem lt2 (d : DsOk b md gr wd ds) : md < gr := dbl d.mpos d.hgr
theorem gpos (d : DsOk b md gr wd ds) : 0 < gr := Int.lt_trans d.mpos d.lt2
theorem gle (d : DsOk b md gr wd ds) : gr ≤ wd := by have h0 := d.gpos; rcases d.hwd with h | h <;> rw [h] <;> omega
theorem wpos (d : DsOk b md gr wd ds) : 0 < wd := Int.lt_of_lt_of_le d.gpos d.gle
theorem w54 (d : DsOk b md gr wd ds) : wd ≤ 54 := by
  have h0 := trp (trp d.b3 d.bpos d.hmd) d.mpos d.hgr
  rcases d.hwd with h | h <;> rw [h] <;> omega
theorem bm (d : DsOk b md gr wd ds) : b ∣ md := by rcases d.hmd with h | h <;> exact ⟨_, h⟩
theorem mg (d : DsOk b md gr wd ds) : md ∣ gr := by rcases d.hgr with h | h <;> exact ⟨_, h⟩
theorem gw (d : DsOk b md gr wd ds) : gr ∣ wd := by
  rcases d.hwd with h | h
  · exact ⟨1, by rw [h, Int.mul_one]⟩
  · exact ⟨_, h⟩
theorem perm (d : DsOk b md gr wd ds) : (dueF gr md b ds).Perm ds := by
  have h1 := d.lt1; have h2 := d.lt2
  refine part3 _ _ _ ds fun p hp => ?_
  have := d.sz p hp
  simp only [beq_iff_eq, beq_eq_false_iff_ne, ne_eq]
  omega
theorem mem (d : DsOk b md gr wd ds) {p : Int × Str} (h : p ∈ dueF gr md b ds) : p ∈ ds := d.perm.mem_iff.mp h
theorem len (d : DsOk b md gr wd ds) : (dueF gr md b ds).length = ds.length := d.perm.length_eq
theorem down (d : DsOk b md gr wd ds) : (dueF gr md b ds).Pairwise (fun p r => r.1 ∣ p.1) := by
  have f : ∀ (v : Int) (p : Int × Str), p ∈ ds.filter (fun p => p.1 == v) → p.1 = v := fun v p hp => by simpa using (List.mem_filter.mp hp).2
  have same : ∀ v : Int, (ds.filter (fun p => p.1 == v)).Pairwise (fun p r => r.1 ∣ p.1) := fun v => by
    rw [List.pairwise_iff_getElem]
    intro i j hi hj _
    rw [f v _ (List.getElem_mem hi), f v _ (List.getElem_mem hj)]
    exact Int.dvd_refl _
  unfold dueF
  rw [List.pairwise_append, List.pairwise_append]
  refine ⟨⟨same gr, same md, fun x hx y hy => ?_⟩, same b, fun x hx y hy => ?_⟩
  · rw [f _ x hx, f _ y hy]; exact d.mg
  · rw [f _ y hy]
    rcases List.mem_append.mp hx with hx | hx
    · rw [f _ x hx]; exact Int.dvd_trans d.bm d.mg
    · rw [f _ x hx]; exact d.bm
end DsOk
theorem dvd_sum {v : Int} : ∀ l : List Int, (∀ x ∈ l, v ∣ x) → v ∣ l.sum
  | [], _ => ⟨0, by simp⟩
  | x :: l, h => by
    rw [List.sum_cons]
    exact Int.dvd_add (h x (.head _)) (dvd_sum l fun y m => h y (.tail _ m))
theorem sum_bd {lo hi : Int} : ∀ l : List Int, (∀ x ∈ l, 0 ≤ x ∧ x ≤ hi) → 0 ≤ l.sum ∧ l.sum ≤ l.length * hi
  | [], _ => by simp
  | x :: l, h => by
    have h1 := h x (.head _)
    have h2 := sum_bd (lo := lo) l fun y m => h y (.tail _ m)
    rw [List.sum_cons, List.length_cons]
    push_cast
    rw [Int.add_mul]
    omega
theorem perm_sum {a b : List Int} (h : a.Perm b) : a.sum = b.sum := by
  induction h with
  | nil => rfl
  | cons x _ ih => simp [ih]
  | swap x y l => simp only [List.sum_cons]; omega
  | trans _ _ i1 i2 => exact i1.trans i2
theorem DsOk.due {b md gr wd : Int} {ds : List (Int × Str)} (d : DsOk b md gr wd ds) : DuOk (dueF gr md b ds) wd := by
  have h0 := d.bpos; have h1 := d.lt1; have h2 := d.lt2
  refine ⟨d.wpos, by rw [d.len]; have := d.n2; omega, fun p hp => ?_, fun p hp => ?_, fun p hp => d.q p (d.mem hp), fun k h => ?_⟩
  · have := d.sz p (d.mem hp); omega
  · rcases d.sz p (d.mem hp) with e | e | e <;> rw [e]
    · exact Int.dvd_trans d.bm (Int.dvd_trans d.mg d.gw)
    · exact Int.dvd_trans d.mg d.gw
    · exact d.gw
  · unfold aheadF
    refine dvd_sum _ fun x hx => ?_
    obtain ⟨p, hp, rfl⟩ := List.mem_map.mp hx
    obtain ⟨j, hj, rfl⟩ := List.mem_iff_getElem.mp hp
    rw [List.getElem_take]
    rw [List.length_take] at hj
    exact List.pairwise_iff_getElem.mp d.down j k (by omega) h (by omega)
theorem DsOk.ahead {b md gr wd : Int} {ds : List (Int × Str)} (d : DsOk b md gr wd ds) (k : Nat) (hk : k ≤ ds.length) : 0 ≤ aheadF (dueF gr md b ds) k ∧ aheadF (dueF gr md b ds) k ≤ 972 := by
  have h0 := d.bpos; have h1 := d.lt1; have h2 := d.lt2; have h3 := d.gle; have h4 := d.w54
  unfold aheadF
  have := sum_bd (lo := 0) (hi := 54) (((dueF gr md b ds).take k).map (·.1)) fun x hx => by
    obtain ⟨p, hp, rfl⟩ := List.mem_map.mp hx
    have := d.sz p (d.mem (List.mem_of_mem_take hp))
    omega
  have h5 := d.n18
  have hl : (((dueF gr md b ds).take k).map (·.1)).length ≤ 18 := by
    rw [List.length_map, List.length_take, d.len]; omega
  have : ((((dueF gr md b ds).take k).map (·.1)).length : Int) * 54 ≤ 18 * 54 := Int.mul_le_mul_of_nonneg_right (by omega) (by decide)
  omega
theorem sumQ_of {ds : List (Int × Str)} (h : ∀ p ∈ ds, ((quoteF p.2).length : Int) + 1 = p.1) : sumQ (ds.map (·.2)) = (ds.map (·.1)).sum := by
  unfold sumQ
  rw [List.map_map]
  congr 1
  exact List.map_congr_left fun p hp => h p hp
theorem DsOk.total {b md gr wd : Int} {ds : List (Int × Str)} (d : DsOk b md gr wd ds) : sumQ (ds.map (·.2)) = aheadF (dueF gr md b ds) (dueF gr md b ds).length := by
  rw [sumQ_of d.q]
  unfold aheadF
  rw [List.take_length]
  exact (perm_sum (d.perm.map (·.1))).symm
theorem DsOk.qwd {b md gr wd : Int} {ds : List (Int × Str)} (d : DsOk b md gr wd ds) : ∀ p ∈ ds, ((quoteF p.2).length : Int) + 1 ≤ wd := fun p hp => by
  have h1 := d.lt1; have h2 := d.lt2; have h3 := d.gle
  have := d.sz p hp
  have := d.q p hp
  omega
theorem DsOk.ends {b md gr wd : Int} {ds : List (Int × Str)} (d : DsOk b md gr wd ds) {o0 w0 : Str} {os ws : List Str} (ho : (dueF gr md b ds).map (·.2) = o0 :: os) (hw : ds.map (·.2) = w0 :: ws) :
    ∃ rows : List Str, (List.range ((aheadF (dueF gr md b ds) ((dueF gr md b ds).length - 1)).fdiv wd + 1).toNat).map (fun p => rowF (dueF gr md b ds) wd (p : Nat)) = rows ∧
      rows.length ≤ 1000 ∧ (rows.map (·.length)).sum ≤ 1000000 ∧ writF wd o0 os = Txt.join "\r\n " rows ∧ (∀ i, i + 1 < rows.length → ((rows.getD i "").length : Int) + 1 = wd) ∧
      (rows.length : Int) ≤ Txt.count (writF wd w0 ws) "\r\n" + 1 ∧ Txt.count (writF wd w0 ws) "\r\n" ≤ 10000000 := by
  obtain ⟨q, h1, h2, h3, h4, h5⟩ := rows_written d.due
  have hn := d.due.n
  have ew : writF wd o0 os = writF wd ((dueF gr md b ds)[0]'hn).2 (((dueF gr md b ds).map (·.2)).drop 1) := by
    have e0 : ((dueF gr md b ds)[0]'hn).2 = o0 := by
      have := congrArg (fun l => l[0]?) ho
      simpa [hn] using this
    rw [e0, ho]; rfl
  have hwp := d.wpos
  have hq1 : (q : Int) ≤ q * wd := by
    have := Int.mul_le_mul_of_nonneg_left (show (1 : Int) ≤ wd by omega) (show (0 : Int) ≤ q by omega)
    omega
  have ht := d.ahead _ (Nat.le_of_eq d.len)
  have e : ((aheadF (dueF gr md b ds) ((dueF gr md b ds).length - 1)).fdiv wd + 1).toNat = q + 1 := by rw [h1]; omega
  have hmem : ∀ t ∈ w0 :: ws, ∃ p ∈ ds, p.2 = t := fun t ht => by rw [← hw] at ht; simpa using ht
  have hz : ∀ t ∈ w0 :: ws, ((quoteF t).length : Int) + 1 ≤ wd := fun t ht => by
    obtain ⟨p, hp, rfl⟩ := hmem t ht
    exact d.qwd p hp
  have hk : ∀ t ∈ w0 :: ws, (quoteF t).length ≤ 1000 := fun t ht => by
    obtain ⟨p, hp, rfl⟩ := hmem t ht
    exact (d.wk p hp).1.2.1
  have hwl : ws.length ≤ 100 := by
    have := congrArg List.length hw
    simp at this
    have := d.n18
    omega
  refine ⟨_, rfl, ?_, ?_, ?_, fun i hi => ?_, ?_, count_hi hz hk hwl⟩
  · rw [List.length_map, List.length_range, e]; omega
  · have : ∀ l : List Str, (∀ x ∈ l, (x.length : Int) + 1 ≤ wd) → (((l.map (·.length)).sum : Nat) : Int) ≤ l.length * wd := by
      intro l
      induction l with
      | nil => simp
      | cons x l ih =>
        intro h
        have h1 := h x (.head _)
        have h2 := ih fun y m => h y (.tail _ m)
        rw [List.map_cons, List.sum_cons, List.length_cons]
        push_cast
        rw [Int.add_mul]
        omega
    have h6 := this ((List.range ((aheadF (dueF gr md b ds) ((dueF gr md b ds).length - 1)).fdiv wd + 1).toNat).map (fun p => rowF (dueF gr md b ds) wd (p : Nat))) fun x hx => by
      obtain ⟨p, hp, rfl⟩ := List.mem_map.mp hx
      rw [e] at hp
      have := List.mem_range.mp hp
      by_cases hpq : p < q
      · have := h4 p hpq; omega
      · have : p = q := by omega
        subst this; exact h5
    have h7 := d.w54
    rw [List.length_map, List.length_range, e] at h6
    rw [e]
    have : ((q + 1 : Nat) : Int) * wd ≤ 973 * 54 := Int.mul_le_mul (by omega) h7 (by omega) (by decide)
    omega
  · rw [ew, h3, e]
  · rw [List.length_map, List.length_range, e] at hi
    have := h4 i (by omega)
    rw [e]
    have hg : (List.map (fun p => rowF (dueF gr md b ds) wd ((p : Nat) : Int)) (List.range (q + 1))).getD i "" = rowF (dueF gr md b ds) wd (i : Nat) := by
      simp [List.getD_eq_getElem?_getD, List.getElem?_map, List.getElem?_range (show i < q + 1 by omega)]
    rw [hg]; exact this
  · rw [List.length_map, List.length_range, e]
    have := count_lo (q := q) hwp hz (by rw [← hw, d.total]; exact h2)
    push_cast
    exact this
end Mine
end
section
open PySem PySem.W PyProof.Rows PySem.Calls
set_option maxRecDepth 100000
set_option maxHeartbeats 1600000
set_option Elab.async false
set_option linter.unusedVariables false
namespace Mine
theorem pairs_of {h : Heap} {D : Addr} {ys : Array Value} {b md gr : Int} {xs : List Int} (hP : h.PlainList D ys) (p : Paired (fun x y => PairG h y (szF b md gr x) (wdF b md gr x)) xs ys.toList) :
    PairsAt h D (xs.map fun x => (szF b md gr x, wdF b md gr x)) := by
  refine ⟨ys, hP, ?_⟩
  generalize ys.toList = l at p
  clear hP
  induction p with
  | nil => exact .nil
  | cons a _ ih => exact .cons a ih
theorem strs_pick {vs : List Value} {ds : List (Int × Str)} (hs : StrsAre vs (ds.map (·.2))) : ∀ is : List Nat, (∀ i ∈ is, i < ds.length) →
    StrsAre (is.map fun i => vs.getD i .none) (is.map fun i => (ds.getD i (0, "")).2)
  | [], _ => .nil
  | i :: is, h => by
    obtain ⟨_, g⟩ := strs_get hs
    have hi := h i (.head _)
    obtain ⟨u, e⟩ := g i (by simpa using hi)
    have e2 : (ds.map (·.2)).getD i default = (ds.getD i (0, "")).2 := by simp [hi]
    rw [List.map_cons, List.map_cons, e, e2]
    exact .cons _ _ (strs_pick hs is fun j m => h j (.tail _ m))
theorem order_strs {vs : List Value} {ds : List (Int × Str)} {b md gr wd : Int} (d : DsOk b md gr wd ds) (hs : StrsAre vs (ds.map (·.2))) :
    StrsAre ((askRun (keyS (ds.map (·.2))) (kas_sort (ds.map (·.2)).length)).toList.map fun i => vs.getD i .none) ((dueF gr md b ds).map (·.2)) := by
  rw [← sort_words d.lt1 d.lt2 d.sz d.q d.n2]
  refine strs_pick hs _ fun i hi => ?_
  obtain ⟨R, _⟩ := sort_run (key := keyS (ds.map (·.2))) (n := (ds.map (·.2)).length) (by have := d.n2; simpa using this)
  have := (Array.perm_iff_toList_perm.mp R.perm).mem_iff.mp hi
  simpa using this
theorem map_toArr {α β : Type} (a : Array α) (f : α → β) : (a.toList.map f).toArray = a.map f := by
  rw [← Array.toList_map]
theorem law_kind (P : Params) (L0 : Addr) : (lawEnv P L0).kindOf "script" = some .local := by rfl
section
variable {w : World} {A : Around} {E : Value → Shared → Prop} {s : Shared} {mg mb : Str → Option Value}
theorem law_body {h0 : Heap} {L0 : Addr} {l : Addr} {vs : List Value} {ns : List Int} {Q : Flow → Shared → Prop} (V : Lw w mg mb h0 L0 (fun x => if x = "script" then some (.ref l) else none) (fun _ => none) s.heap) (r : NearR A 120 400)
    (hl : s.heap.IsList l vs.toArray) (hi : IntsAre vs ns) (hn : ns.length ≤ 63) (hx : ∀ x ∈ ns, x.natAbs.log2 < 2 ^ 26) (hT : (ns.take 24).sum.natAbs.log2 < 2 ^ 26)
    (hQ : ∀ s', (AllBare s.gens → AllBare s'.gens) → StepH [] h0 s'.heap → s'.os = s.os → Q (.ret (.bool true)) s') :
    wpAny (model pw w) A (execs (fBody (stm 20)) (lawEnv w.params L0)) Q NoE s := by
  obtain ⟨h, g, d, tk, os⟩ := s
  dsimp only at V hl hQ
  refine law_a (s := ⟨h, g, d, tk, os⟩) V r.handled hl hi hn (by have := r.units; simp only [cLine]; omega) hT (fun h1 tk1 m1 S t1 t2 t3 t4 b md gr wd hb hmd hgr hwd V1 hS hl1 ms mgr mmd mb' => ?_)
  clear V hl hT
  obtain ⟨u1, mgr⟩ := mgr
  obtain ⟨u2, mmd⟩ := mmd
  obtain ⟨u3, mb'⟩ := mb'
  refine law_b (s := ⟨h1, g, d, tk1, os⟩) V1 (r.less) ms (by rfl) hl1 hi hn hS hb hmd hgr hx (fun h2 tk2 D ys xs hxs hP2 p2 V2 => ?_)
  clear V1 hS hl1
  have hx18 : xs.length ≤ 18 := by rw [hxs]; simp; omega
  have hx2 : 2 ≤ xs.length := by rw [hxs]; simp
  have hD := pairs_of hP2 p2
  have ok := dsOk_of hb hmd hgr hwd xs hx2 hx18
  generalize (xs.map fun x => (szF b md gr x, wdF b md gr x)) = ds at hD ok
  clear hP2 p2 hxs hx18 hx2 hx hn
  have n18 := ok.n18
  have n2 := ok.n2
  have hlen := ok.len
  refine law_c (s := ⟨h2, g, d, tk2, os⟩) V2 (r.less) mgr mmd mb' (by rfl) hD (by omega) (fun h3 tk3 D2 hD2 hD V3 => ?_)
  clear V2
  refine law_d (s := ⟨h3, g, d, tk3, os⟩) V3 (r.less) (by rfl) hD2 (by omega) (fun h4 tk4 H hH keep V4 => ?_)
  replace hD := keep _ _ hD
  replace hD2 := keep _ _ hD2
  clear V3 keep
  refine law_e (s := ⟨h4, g, d, tk4, os⟩) (D := D) (wd := wd) (tw := t4) V4 (r.less) (by rfl) (by rfl) (by rfl) (by rfl) hD hD2 hH (by omega) (fun q => by rw [q] at hlen; simp at hlen; omega) ok.wpos (by have := ok.w54; omega)
    (fun k hk => by have := ok.ahead k (by omega); omega) (fun p hp => (ok.wk p (ok.mem hp)).1.1) (fun h5 g5 d5 tk5 R rvs m5 v5 hg5 hD hD2 hR hrs mR V5 => ?_)
  clear V4 hH
  refine law_f (s := ⟨h5, g5, d5, tk5, os⟩) V5 (r.less) (by rfl) hD (by omega) (fun h6 tk6 W wvs hW hws keepP keepR V6 => ?_)
  replace hD2 := keepP _ _ hD2
  replace hR := keepR _ _ hR
  clear V5 keepP keepR hD
  have hwl : (ds.map (·.2)).length = ds.length := by simp
  refine law_g (s := ⟨h6, g5, d5, tk6, os⟩) V6 (r.less) hW hws (if_pos rfl) (by omega) (by omega) (fun t ht => by
    obtain ⟨p, hp, rfl⟩ := List.mem_map.mp ht
    exact (ok.wk p hp).1.1) (by rfl) (fun h7 tk7 O c hO hW keepP keepR V7 => ?_)
  replace hD2 := keepP _ _ hD2
  replace hR := keepR _ _ hR
  clear V6 keepP keepR
  have hos := order_strs ok hws
  have hO' : LstAt h7 O ((askRun (keyS (ds.map (·.2))) (kas_sort (ds.map (·.2)).length)).toList.map fun i => wvs.getD i .none).toArray := by
    refine ⟨c, hO.trans ?_⟩
    rw [map_toArr]
  clear hO
  generalize ((askRun (keyS (ds.map (·.2))) (kas_sort (ds.map (·.2)).length)).toList.map fun i => wvs.getD i .none) = ovs at hos hO'
  obtain ⟨o0, oss, ho⟩ : ∃ o0 oss, (dueF gr md b ds).map (·.2) = o0 :: oss := by
    cases q : (dueF gr md b ds).map (·.2) with
    | nil => have := congrArg List.length q; simp at this; rw [this] at hlen; simp at hlen; omega
    | cons a l => exact ⟨a, l, rfl⟩
  obtain ⟨w0, wss, hw⟩ : ∃ w0 wss, ds.map (·.2) = w0 :: wss := by
    cases q : ds.map (·.2) with
    | nil => rw [q] at hwl; simp at hwl; omega
    | cons a l => exact ⟨a, l, rfl⟩
  obtain ⟨rows, er, hrl, hsum, heq, hfull, hcnt, hcb⟩ := ok.ends ho hw
  rw [er] at hrs
  have hw1 : wss.length ≤ 45 := by rw [hw] at hwl; simp at hwl; omega
  have ho1 : oss.length ≤ 45 := by have := congrArg List.length ho; simp at this; omega
  have hzw : ∀ t ∈ w0 :: wss, ∃ p ∈ ds, p.2 = t := fun t ht => by rw [← hw] at ht; simpa using ht
  have hzo : ∀ t ∈ o0 :: oss, ∃ p ∈ ds, p.2 = t := fun t ht => by
    rw [← ho] at ht
    obtain ⟨p, hp, e⟩ := List.mem_map.mp ht
    exact ⟨p, ok.mem hp, e⟩
  have okw : ∀ t ∈ w0 :: wss, WordOk t := fun t ht => by obtain ⟨p, hp, rfl⟩ := hzw t ht; exact (ok.wk p hp).1
  have oko : ∀ t ∈ o0 :: oss, WordOk t := fun t ht => by obtain ⟨p, hp, rfl⟩ := hzo t ht; exact (ok.wk p hp).1
  have fitw : 1 + ((quoteF w0).length : Int) ≤ wd := by obtain ⟨p, hp, rfl⟩ := hzw w0 (.head _); have := ok.qwd p hp; omega
  have fito : 1 + ((quoteF o0).length : Int) ≤ wd := by obtain ⟨p, hp, rfl⟩ := hzo o0 (.head _); have := ok.qwd p hp; omega
  refine law_h (s := ⟨h7, g5, d5, tk7, os⟩) V7 (r.less) hO' hos (if_pos rfl) (by rfl) hD2 (by omega) (fun p hp => (ok.wk p (ok.mem hp)).2) (fun h8 tk8 k8 V8 => ?_)
  replace hO' := hO'.on fun o e => k8 _ _ e
  replace hR := hR.on fun o e => k8 _ _ e
  replace hW := hW.on fun o e => k8 _ _ e
  clear V7 k8 hD2
  rw [ho] at hos
  rw [hw] at hws
  have mR' : (fun z => if z = "order" then some (Value.ref O) else (fun z => if z = "words" then some (.ref W) else m5 z) z) "rows" = some (.ref R) := by
    show (if ("rows" : Str) = "order" then some (Value.ref O) else if ("rows" : Str) = "words" then some (Value.ref W) else m5 "rows") = _
    rw [if_neg (by decide +kernel), if_neg (by decide +kernel)]; exact mR
  have mW' : (fun z => if z = "order" then some (Value.ref O) else (fun z => if z = "words" then some (.ref W) else m5 z) z) "words" = some (.ref W) := by
    show (if ("words" : Str) = "order" then some (Value.ref O) else if ("words" : Str) = "words" then some (Value.ref W) else m5 "words") = _
    rw [if_neg (by decide +kernel), if_pos rfl]
  refine law_i (s := ⟨h8, g5, d5, tk8, os⟩) (wd := wd) (tw := t4) V8 (r.less) hO' hos (if_pos rfl) mR' (by rfl) (by rfl) hR hrs ho1 oko fito hsum hrl heq (fun h9 g9 d9 tk9 hg9 st9 V9 => ?_)
  replace hR := hR.step V8.X.T st9
  replace hW := hW.step V8.X.T st9
  clear V8 hO' st9
  refine law_j (s := ⟨h9, g9, d9, tk9, os⟩) (wd := wd) (tw := t4) V9 (r.less) mR' (by rfl) hR hrs hrl hfull (by have := ok.w54; omega) (fun h10 tk10 k10 V10 => ?_)
  replace hR := hR.on fun o e => k10 _ _ e
  replace hW := hW.on fun o e => k10 _ _ e
  clear V9 k10
  refine law_k (s := ⟨h10, g9, d9, tk10, os⟩) (wd := wd) (tw := t4) V10 (r.less) hW hws mW' mR' (by rfl) (by rfl) hR hrs hw1 okw fitw hrl hcnt hcb (fun h11 g11 d11 tk11 hg11 st11 V11 => ?_)
  exact hQ ⟨h11, g11, d11, tk11, os⟩ (fun a => hg11 (hg9 (hg5 a))) V11.st rfl
end
end Mine
end
section
open PySem PySem.W PyProof.Rows PySem.Calls
set_option maxRecDepth 100000
set_option maxHeartbeats 1600000
set_option Elab.async false
set_option linter.unusedVariables false
namespace Mine
theorem law_binds (P : Params) (v : Value) : bindArgs (fdM "law" "law" (stm 20) [] (pmOf (obK 261 P)) (.ref 260) (ctOf (obK 261 P)) .none) ⟨[v], []⟩ = (pure [(("script" : Str), v)] : Sem (List (Str × Value))) := by rfl
section
variable {w : World} {A : Around} {E : Value → Shared → Prop} {s : Shared} {mg mb : Str → Option Value}
theorem law_spec {l : Addr} {vs : List Value} {ns : List Int} {Q : Value → Shared → Prop} (X : Ctx0 w mg mb s.heap) (e221 : s.heap.get? 221 = some (tabObj #[])) (e258 : s.heap.get? 258 = some (tabObj #[])) (r : NearR A 130 500)
    (hl : s.heap.IsList l vs.toArray) (hi : IntsAre vs ns) (hn : ns.length ≤ 63) (hx : ∀ x ∈ ns, x.natAbs.log2 < 2 ^ 26) (hT : (ns.take 24).sum.natAbs.log2 < 2 ^ 26)
    (hQ : ∀ s', (AllBare s.gens → AllBare s'.gens) → StepH [] s.heap s'.heap → s'.os = s.os → Q (.bool true) s') :
    wpAny (model pw w) A (call (.ref 261) [.ref l] []) Q E s := by
  have fm := m_law w.params
  have new0 : ∀ b, s.heap.objs.size ≤ b → s.heap.get? b = none := fun b hb => Heap.get?_none_of_le hb
  refine wpAny_call (codeAny_call_cells r.room.d (fm.get X.K) fm.data X.G.nolimit (fm.crec X.K) rfl (law_binds _ _) rfl (fun x hx => ?_) (fun s₁ x => ?_))
  · simp only [List.mem_singleton] at hx
    subst hx
    exact .inl (by rfl)
  have xs := x.toInCall.same
  have xn := x.toInCall.ns
  have xk := x.toInCall.keep
  have xc := x.cell
  clear x
  generalize s.heap.objs.size = L0 at new0 xn xc ⊢
  obtain ⟨h₁, tk₁, rfl⟩ := xs
  dsimp only at xk xn xc
  have st : StepH [] s.heap h₁ := .of_keep xk
  have ek : ∀ (m : Str → Option Value) n v, (lawEnv w.params L0).kindOf n = some .local → bindL (lawEnv w.params L0).kindOf [(n, v)] m = fun y => if y = n then some v else m y := fun m n v h => by
    unfold bindL bindL; rw [if_pos h]
  have ec : ∀ (m : Str → Option Value) n v, (lawEnv w.params L0).kindOf n = some .local → bindC (lawEnv w.params L0).kindOf [(n, v)] m = m := fun m n v h => by
    unfold bindC bindC; rw [if_pos h]
  have V : Lw w mg mb s.heap L0 (fun y => if y = "script" then some (.ref l) else none) (fun _ => none) h₁ := by
    refine ⟨new0, fun b hb => top_new X (new0 b hb), X.step st, ?_, fun i hi => ?_, st, fun t ht _ => ?_⟩
    · have := xn
      rw [ek _ _ _ (law_kind _ _)] at this
      exact this
    · have := xc
      rw [ec _ _ _ (law_kind _ _)] at this
      match i, hi with
      | 0, _ => exact this "width" (L0 + 1 + 0) (by rfl)
      | 1, _ => exact this "sizes" (L0 + 1 + 1) (by rfl)
      | 2, _ => exact this "drawn" (L0 + 1 + 2) (by rfl)
      | 3, _ => exact this "due" (L0 + 1 + 3) (by rfl)
      | 4, _ => exact this "ahead" (L0 + 1 + 4) (by rfl)
      | 5, _ => exact this "place" (L0 + 1 + 5) (by rfl)
    · rcases ht with rfl | rfl
      · exact xk _ _ e221
      · exact xk _ _ e258
  refine wpAny_mono (law_body (s := { s with heap := h₁, toks := tk₁ }) (A := A.deeper (lawEnv w.params L0)) V ((r.deeper (d := 129) (u := 497) _).less) (isl_on hl fun o e => xk _ _ e) hi hn hx hT
    (Q := fun f s' => Q (match f with | .ret v => v | _ => .none) s') (fun s' hg hs ho => ?_)) (fun _ _ q => q) (fun _ _ q => q.elim)
  exact hQ s' hg hs ho
end
end Mine
end
section
open PySem PySem.W PyProof.Rows PySem.Calls
set_option maxRecDepth 100000
set_option maxHeartbeats 1600000
set_option Elab.async false
set_option linter.unusedVariables false
namespace Mine
/-! what the run of the top leaves -/
theorem lookup_filter {f : Addr → Bool} {a : Addr} {o : Obj} : ∀ {l : Frag}, (l.filter fun p => f p.1).lookup a = some o → l.lookup a = some o
  | [], e => by cases e
  | (k, v) :: r, e => by
    rw [List.lookup_cons]
    rw [List.filter_cons] at e
    cases q : a == k with
    | true =>
      have := beq_iff_eq.mp q
      subst this
      by_cases hf : f a = true
      · rw [if_pos hf, List.lookup_cons, q] at e; exact e
      · rw [if_neg hf] at e
        have hm := List.mem_filter.mp (mem_of_lookupK e)
        exact absurd hm.2 hf
    | false =>
      by_cases hf : f k = true
      · rw [if_pos hf, List.lookup_cons, q] at e; exact lookup_filter e
      · rw [if_neg hf] at e; exact lookup_filter e
theorem kn_of {P : Params} {h : Heap} (X : (hd.heap_39 P).In h) : (KN P).In h := fun a o e => X _ _ (lookup_filter (f := fun a => !(Tabs.contains a)) e)
theorem mg_str {K : Frag} {h : Heap} {mg : Str → Option Value} {n : Str} (X : K.In h) (G : h.Ns mainGlobals mg) (e : (match nsIn K mainGlobals n with | some (some (.str _ _)) => true | _ => false) = true) : ∃ x t, mg n = some (.str x t) := by
  split at e
  · rename_i x t q; exact ⟨x, t, mg_of X G q⟩
  · cases e
theorem mg_empty {K : Frag} {h : Heap} {mg : Str → Option Value} {n : Str} (X : K.In h) (G : h.Ns mainGlobals mg) (e : (match nsIn K mainGlobals n with | some (some (.str x _)) => x == "" | _ => false) = true) : ∃ t, mg n = some (.str "" t) := by
  split at e
  · rename_i x t q
    have := beq_iff_eq.mp e
    subst this
    exact ⟨t, mg_of X G q⟩
  · cases e
noncomputable def strV : Value → Str | .str x _ => x | _ => ""
theorem m_quote (P : Params) : FnAt' P 58 "quote" "quote" (stm 6) [] 57 .none := ⟨by kernel_rfl, by kernel_rfl, by kernel_rfl, by kernel_rfl⟩
theorem m_join (P : Params) : FnAt' P 50 "join" "join" (stm 4) [] 49 .none := ⟨by kernel_rfl, by kernel_rfl, by kernel_rfl, by kernel_rfl⟩
theorem m_word (P : Params) : FnAt' P 242 "_law_word" "_law_word" (stm 17) [] 241 .none := ⟨by kernel_rfl, by kernel_rfl, by kernel_rfl, by kernel_rfl⟩
theorem fd_quote (P : Params) : (obK 58 P).data = .func (fdTop "quote" 6 (pmOf (obK 58 P)) (.ref 57)) := by kernel_rfl
theorem fd_join (P : Params) : (obK 50 P).data = .func (fdTop "join" 4 (pmOf (obK 50 P)) (.ref 49)) := by kernel_rfl
theorem fd_word (P : Params) : (obK 242 P).data = .func (fdTop "_law_word" 17 (pmOf (obK 242 P)) (.ref 241)) := by kernel_rfl
theorem pat_c {P : Params} : ∃ vs n, (obK 42 P).data = .seq vs n ∧ (vs.map Builtin.Re.reRawOf).map (·.toNat) = pcode := by
  have e : (match (obK 42 P).data with | .seq vs _ => (vs.toList.map fun x => (Builtin.Re.reRawOf x).toNat) == pcode.toList | _ => false) = true := by kernel_rfl
  split at e
  · rename_i vs n q
    refine ⟨vs, n, q, ?_⟩
    apply Array.toList_inj.mp
    rw [Array.toList_map, Array.toList_map, List.map_map]
    exact beq_iff_eq.mp e
  · cases e
theorem pat_at {P : Params} {h : Heap} (Z : (KN P).In h) : PatAt h where
  m := ⟨obK 51 P, kn_get Z 51 (by kernel_rfl), by kernel_rfl, by kernel_rfl⟩
  p := ⟨obK 43 P, strV (fld (obK 43 P) 0), tokOf (fld (obK 43 P) 0), tokOf (fld (obK 43 P) 1), tokOf (fld (obK 43 P) 2), tokOf (fld (obK 43 P) 6), kn_get Z 43 (by kernel_rfl), by kernel_rfl, by kernel_rfl⟩
  c := let ⟨vs, n, d, e⟩ := pat_c (P := P); ⟨obK 42 P, vs, n, kn_get Z 42 (by kernel_rfl), d, e⟩
theorem tabs_at {P : Params} {h : Heap} (X : (hd.heap_39 P).In h) : ∀ t ∈ Tabs, h.get? t = some (tabObj #[]) := by
  have e : ∀ t ∈ Tabs, (hd.heap_39 P).lookup t = some (tabObj #[]) := by
    intro t ht
    simp only [Tabs, List.mem_cons, List.not_mem_nil, or_false] at ht
    rcases ht with rfl | rfl | rfl | rfl | rfl <;> kernel_rfl
  exact fun t ht => X _ _ (e t ht)
theorem names_at {P : Params} {mg mb : Str → Option Value} {h : Heap} (X : (hd.heap_39 P).In h) (G : h.Ns mainGlobals mg) (B : ∀ x : Str, x ≠ "__name__" → mb x = bootBuiltins x) : Names mg mb where
  join := mg_of X G (by kernel_rfl)
  fu := mg_of X G (by kernel_rfl)
  quote := mg_of X G (by kernel_rfl)
  empty := mg_empty X G (by kernel_rfl)
  vf := mg_of X G (by kernel_rfl)
  acc := mg_of X G (by kernel_rfl)
  ctk := mg_of X G (by kernel_rfl)
  im := mg_of X G (by kernel_rfl)
  red := mg_of X G (by kernel_rfl)
  word := mg_of X G (by kernel_rfl)
  laid := mg_of X G (by kernel_rfl)
  written := mg_of X G (by kernel_rfl)
  nameB := mg_str X G (by kernel_rfl)
  free := by
    have e : (["sum", "range", "len", "sorted", "super", "str", "iter", "object"] : List Str).all (fun x => match nsIn (hd.heap_39 P) mainGlobals x with | some none => true | _ => false) = true := by kernel_rfl
    intro x hx
    have := List.all_eq_true.mp e x hx
    split at this
    · rename_i q; exact mg_none_of X G q
    · cases this
  b := B
theorem ctx_at {w : World} {mg mb : Str → Option Value} {h : Heap} (X : (hd.heap_39 w.params).In h) (G : h.Ns mainGlobals mg) (G2 : h.Ns builtinsNs mb) (N : h.NoLimit) (B : ∀ x : Str, x ≠ "__name__" → mb x = bootBuiltins x) : Ctx0 w mg mb h where
  K := kn_of X
  T := fun t ht => ⟨#[], tabs_at X t ht, trivial⟩
  G := { g := G, b := G2, nolimit := N, names := names_at X G B, pat := pat_at (kn_of X),
         f_quote := ⟨_, _, (m_quote w.params).get (kn_of X), fd_quote _⟩, c_quote := (m_quote w.params).crec (kn_of X),
         f_join := ⟨_, _, (m_join w.params).get (kn_of X), fd_join _⟩, c_join := (m_join w.params).crec (kn_of X),
         f_word := ⟨_, _, (m_word w.params).get (kn_of X), fd_word _⟩, c_word := (m_word w.params).crec (kn_of X) }
theorem oldK_of {w : World} {mg mb : Str → Option Value} {h h' : Heap} (X : Ctx0 w mg mb h) (st : StepH [] h h') : OldK h h' := by
  refine ⟨fun b o e => ?_, fun b o e => ?_⟩
  · by_cases hb : b ∈ Tabs
    · obtain ⟨ps, e1, ok⟩ := X.T b hb
      obtain ⟨more, e2, _⟩ := st.tabs b hb ps e1 ok
      have : o = tabObj ps := Option.some.inj (e.symm.trans e1)
      subst this
      refine .inr (.inl ⟨?_, rfl, ps, more, rfl, e2⟩)
      simp only [Tabs, List.mem_cons, List.not_mem_nil, or_false] at hb
      rcases hb with rfl | rfl | rfl | rfl | rfl
      · exact ((hd_join X.K).tab e1).isCodeTable
      · exact ((hd_len X.K).tab e1).isCodeTable
      · exact ((hd_str X.K).tab e1).isCodeTable
      · exact ((hd_ctk X.K).tab e1).isCodeTable
      · exact ((hd_law X.K).tab e1).isCodeTable
    · exact .inl (st.keep b o (by simp) hb e)
  · by_cases hb : b ∈ Tabs
    · obtain ⟨ps, e1, ok⟩ := X.T b hb
      obtain ⟨more, e2, _⟩ := st.tabs b hb ps e1 ok
      exact ⟨_, e2⟩
    · exact ⟨o, st.keep b o (by simp) hb e⟩
end Mine
end
section
open PySem PySem.W PyProof.Rows PySem.Calls
set_option maxRecDepth 100000
set_option maxHeartbeats 1600000
set_option Elab.async false
set_option linter.unusedVariables false
namespace Mine
/-! the script's weight bounds its ints -/
theorem wt_ints {K : Nat} : ∀ ns : List Int, PyData.weightAll (ns.map PyData.int) ≤ K → ∀ x ∈ ns, x.natAbs.log2 < K
  | [], _, x, hx => by cases hx
  | y :: ns, h, x, hx => by
    rw [List.map_cons, PyData.weightAll, PyData.weight] at h
    rcases List.mem_cons.mp hx with rfl | hx
    · by_cases e : x = 0
      · subst e
        have : (0 : Int).natAbs.log2 = 0 := rfl
        rw [this]
        omega
      · rw [if_neg (by simpa using e)] at h
        omega
    · exact wt_ints ns (by omega) x hx
theorem sum_pow {K : Nat} : ∀ ns : List Int, (∀ x ∈ ns, x.natAbs < 2 ^ K) → ns.sum.natAbs ≤ ns.length * 2 ^ K
  | [], _ => by simp
  | y :: ns, h => by
    have h1 := h y (.head _)
    have h2 := sum_pow ns fun x m => h x (.tail _ m)
    rw [List.sum_cons, List.length_cons, Nat.add_mul, Nat.one_mul]
    generalize ns.length * 2 ^ K = a at h2 ⊢
    generalize 2 ^ K = b at h1 ⊢
    refine Nat.le_trans (Int.natAbs_add_le y ns.sum) ?_
    generalize y.natAbs = u at h1 ⊢
    generalize ns.sum.natAbs = v at h2 ⊢
    omega
theorem log_sum {K : Nat} {ns : List Int} (h : ∀ x ∈ ns, x.natAbs.log2 < K) (hn : ns.length ≤ 24) : ns.sum.natAbs.log2 < K + 6 := by
  have h1 := sum_pow (K := K) ns fun x hx => Nat.lt_of_lt_of_le (Nat.lt_log2_self (n := x.natAbs)) (Nat.pow_le_pow_right (by decide) (h x hx))
  by_cases e : ns.sum.natAbs = 0
  · rw [e]; have : Nat.log2 0 = 0 := rfl
    rw [this]; omega
  · rw [Nat.log2_lt e]
    have h2 : ns.length * 2 ^ K ≤ 24 * 2 ^ K := Nat.mul_le_mul_right _ hn
    have h3 : 2 ^ (K + 6) = 2 ^ K * 64 := by rw [Nat.pow_add]
    have h4 : 0 < 2 ^ K := Nat.pow_pos (by decide)
    rw [h3]
    generalize ns.length * 2 ^ K = a at h1 h2
    generalize 2 ^ K = b at h2 h4 ⊢
    omega
theorem wtA_of {ns : List Int} (h : (PyData.list (ns.map PyData.int)).layable0 = true) : PyData.weightAll (ns.map PyData.int) ≤ 2 ^ 20 := by
  unfold PyData.layable0 at h
  rw [Bool.and_eq_true, Bool.and_eq_true] at h
  have := of_decide_eq_true h.2
  rwa [PyData.weight] at this
theorem wtx_of {ns : List Int} (h : (PyData.list (ns.map PyData.int)).layable0 = true) : ∀ x ∈ ns, x.natAbs.log2 < 2 ^ 26 := fun x hx => by
  have := wt_ints ns (wtA_of h) x hx
  omega
theorem wtT_of {ns : List Int} (h : (PyData.list (ns.map PyData.int)).layable0 = true) : (ns.take 24).sum.natAbs.log2 < 2 ^ 26 := by
  have := log_sum (K := 2 ^ 20) (ns := ns.take 24) (fun x hx => wt_ints ns (wtA_of h) x (List.mem_of_mem_take hx)) (by rw [List.length_take]; omega)
  omega
end Mine
end
open PySem PySem.W PyProof.Rows PySem.Calls
set_option maxRecDepth 100000
set_option maxHeartbeats 4000000
set_option Elab.async false
set_option linter.unusedVariables false
namespace Mine
theorem law_end {c : ClaimW} {cl : Str → Option Addr} {mean : ExcName → Option Value} {args : List WData} {s₁ s' : Shared} {b : Bool}
    (D : OldK s₁.heap s'.heap) (hos : s'.os = s₁.os) (hr : ∀ cls, c.raises args cls = false) (hp : c.post args (.bool b) args = true) (hb : AllBare s'.gens) :
    GoodWG c cl mean args s₁ (.ok (.ret (.bool b))) s' :=
  ⟨.inl ⟨_, _, [], rfl, hr, ReadsW.bool b, hp, fun _ => ⟨List.nodup_nil, fun _ hm => (nomatch hm)⟩⟩, D, hos, hb⟩
end Mine
theorem PySem.Challenge.cw_il0168_01_holds : PySem.Challenge.rw_il0168_01.Holds := by
  refine Mine.hd ?_
  k_fill
  intro w s₀ s₁ mg mb G Y fa o pm cd doc dV kV ho hd hcd hD hmg hg args vals as hpre hlay hrd hwl hlo
  have KX := kIn_of Y
  have X := (Ground.X G).1
  have V := (Ground.X G).2
  refine Ground.open G ?_
  intro T B D TE TW
  wrow_args hpre hlay hrd hwl hlo
  x_fa T KX hmg
  rename_i ns hs8 hlay8 hL8 hr8 hl8 as1 as2 l vs as3 hl ra8 w8 r8 hi hr9 hn hcond
  have CX := Mine.ctx_at KX (Top.g T) (Top.b T) (Top.nolimit T) (Top.builtins T)
  refine Mine.law_spec (s := s₁) (ns := ns) CX (Mine.tabs_at KX 221 (by decide)) (Mine.tabs_at KX 258 (by decide)) ⟨rfl, by decide, by decide⟩ hl hi (by omega) (Mine.wtx_of hL8) (Mine.wtT_of hL8) (fun s' hg' st os => ?_)
  refine Mine.law_end (Mine.oldK_of CX st) os (fun _ => rfl) ?_ (hg' (.of_eq hg))
  first | rfl | wrow_post
