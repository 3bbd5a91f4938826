import PyProof.Rows.All
import Wide.All
import OpenK.AllK
import Wide.FinOn
import PySem.Challenge.RW_xj0007_01
set_option Elab.async false
set_option linter.unusedVariables false
set_option rowWalk.seconds 0
local macro_rules | `(tactic| walk_at $s:str) => `(tactic| k_extra $s)
section
open PySem PySem.W PyProof.Rows
namespace Mine
set_option maxRecDepth 100000 in
set_option maxHeartbeats 400000000 in
open_top hd for PySem.Challenge.rw_xj0007_01
end Mine
end
section
open PySem PySem.W PyProof.Rows
set_option maxRecDepth 100000
namespace Mine
noncomputable abbrev PG : Program := PySem.Challenge.rw_xj0007_01.row.prog
noncomputable abbrev LO : List Str := looseW hd.view_39 [Str.ofString "Flags", Str.ofString "IPV4_RE"]
noncomputable abbrev Led := List (Addr × Obj)
/-- a contract of a def: called with vs, from any frame whose ledger bears pre, it hands back v and a new ledger as Ok says -/
noncomputable def Ct (w : World) (f : Addr) (vs : List Value) (pre : Led) (Ok : Value → Led → Prop) : Prop :=
  ∀ (mean : ExcName → Option Value) (mg mb : Str → Option Value) (news : Led) (dp un : Nat) (gd : Option (List Code)) (cn : Str) (cs : Scope) (a : Addr) (ccd : Value) (cl : List (Str × Addr)) (outer : List Env) (A₀ : Around) (base h₀ : Heap) (L : Addr) (m : Str → Option Value) (s : Shared) (Q E : Value → Shared → Prop),
    Below A₀ base outer h₀ → Fr h₀ L s.heap m → (hd.heap_39 w.params).In h₀ → News h₀ L s.heap (pre ++ news) → Top hd.view_39 LO mean mg mb h₀ → cs.kind = .function → dp + 8 < recursionLimit → un + 64 < cLine →
    (∀ (v : Value) (new : Led) (h' : Heap) (tk' : Nat), Ok v new → Fr h₀ L h' m → News h₀ L h' (new ++ news) → (∀ p ∈ new, ∀ q ∈ news, q.1 < p.1) → Q v { s with heap := h', toks := tk' }) →
    wpAny (model PG w) (ktrTop dp un gd cn cs L a ccd cl outer) (call (.ref f) vs) Q E s
theorem Ct.use {w : World} {f : Addr} {vs : List Value} {pre : Led} {Ok : Value → Led → Prop} (C : Ct w f vs pre Ok)
    {mean : ExcName → Option Value} {mg mb : Str → Option Value} {news : Led} {dp un : Nat} {gd : Option (List Code)} {cn : Str} {cs : Scope} {a : Addr} {ccd : Value} {cl : List (Str × Addr)} {outer : List Env} {A₀ : Around} {base h₀ : Heap} {L : Addr} {m : Str → Option Value} {s : Shared} {Q E : Value → Shared → Prop}
    (B : Below A₀ base outer h₀) (F : Fr h₀ L s.heap m) (X : (hd.heap_39 w.params).In h₀) (N : News h₀ L s.heap news) (T : Top hd.view_39 LO mean mg mb h₀) (hp : ∀ p ∈ pre, p ∈ news) (hk : cs.kind = .function) (hd : dp + 8 < recursionLimit) (hu : un + 64 < cLine)
    (ret : ∀ (v : Value) (new : Led) (h' : Heap) (tk' : Nat), Ok v new → Fr h₀ L h' m → News h₀ L h' (new ++ news) → (∀ p ∈ new, ∀ q ∈ news, q.1 < p.1) → Q v { s with heap := h', toks := tk' }) :
    wpAny (model PG w) (ktrTop dp un gd cn cs L a ccd cl outer) (call (.ref f) vs) Q E s :=
  C mean mg mb news dp un gd cn cs a ccd cl outer A₀ base h₀ L m s Q E B F X (fun p h => (List.mem_append.mp h).elim (fun h => N p (hp p h)) (N p)) T hk hd hu ret
end Mine
end
section
open PySem PySem.W PyProof.Rows
set_option maxRecDepth 100000
namespace Mine
theorem ne_cl {a D y : Nat} {q : Prop} (h : y < D ∧ q) (k : y < D ∧ q → a < D) : a ≠ D := Nat.ne_of_lt (k h)
theorem ne_cg {a D y : Nat} {q : Prop} (h : y < D ∧ q) (k : y < D ∧ q → a < D) : D ≠ a := Nat.ne_of_gt (k h)
theorem ne_cn {a D y : Nat} {q : Prop} (h : y ≠ D ∧ q) (k : y ≠ D ∧ q → a ≠ D) : a ≠ D := k h
theorem ne_cm {a D y : Nat} {q : Prop} (h : y ≠ D ∧ q) (k : y ≠ D ∧ q → a ≠ D) : D ≠ a := (k h).symm
theorem pick_r {p q r : Prop} (k : q → r) : p ∧ q → r := fun h => k h.2
theorem ne_al {a D : Nat} {l : Led} (h : AllLt D l) (k : AllLt D l → a < D) : a ≠ D := Nat.ne_of_lt (k h)
theorem ne_ag {a D : Nat} {l : Led} (h : AllLt D l) (k : AllLt D l → a < D) : D ≠ a := Nat.ne_of_gt (k h)
theorem ne_ol {a D : Nat} {l : Led} (h : LCg.Off1 D l) (k : LCg.Off1 D l → a ≠ D) : a ≠ D := k h
theorem ne_og {a D : Nat} {l : Led} (h : LCg.Off1 D l) (k : LCg.Off1 D l → a ≠ D) : D ≠ a := (k h).symm
theorem ne_s {a b : Nat} (h : b ≠ a) : a ≠ b := h.symm
theorem ne_l1 {L l : Nat} (h : L + 1 + 1 + 1 + 1 < l) : L + 1 ≠ l := by omega
theorem ne_l2 {L l : Nat} (h : L + 1 + 1 + 1 + 1 < l) : L + 1 + 1 ≠ l := by omega
theorem ne_l3 {L l : Nat} (h : L + 1 + 1 + 1 + 1 < l) : L + 1 + 1 + 1 ≠ l := by omega
theorem ne_g1 {L l : Nat} (h : L + 1 + 1 + 1 + 1 < l) : l ≠ L + 1 := by omega
theorem ne_g2 {L l : Nat} (h : L + 1 + 1 + 1 + 1 < l) : l ≠ L + 1 + 1 := by omega
theorem ne_g3 {L l : Nat} (h : L + 1 + 1 + 1 + 1 < l) : l ≠ L + 1 + 1 + 1 := by omega
theorem ne_e1 {n : Nat} : n ≠ n + 1 := by omega
theorem ne_e2 {n : Nat} : n ≠ n + 1 + 1 := by omega
theorem ne_e3 {n : Nat} : n ≠ n + 1 + 1 + 1 := by omega
theorem ne_f1 {n : Nat} : n + 1 ≠ n := by omega
theorem ne_f2 {n : Nat} : n + 1 + 1 ≠ n := by omega
theorem ne_f3 {n : Nat} : n + 1 + 1 + 1 ≠ n := by omega
end Mine
end
local macro_rules | `(tactic| walk_at "pick9") => `(tactic| first | exact And.left | exact id | (refine Mine.pick_r ?_; walk_at "pick9"))
local macro_rules | `(tactic| walk_at "pick8") => `(tactic| first | exact id | exact And.right | (refine Mine.pick_r ?_; walk_at "pick8"))
local macro_rules | `(tactic| k_ne) => `(tactic| (refine PySem.W.neN ?_; (try dsimp only); first | (with_reducible assumption) | (with_reducible exact Mine.ne_e1) | (with_reducible exact Mine.ne_e2) | (with_reducible exact Mine.ne_e3) | (with_reducible exact Mine.ne_f1) | (with_reducible exact Mine.ne_f2) | (with_reducible exact Mine.ne_f3) | (with_reducible exact Mine.ne_s (by assumption)) | (with_reducible exact Nat.ne_of_lt (by assumption)) | (with_reducible exact Nat.ne_of_gt (by assumption)) | (with_reducible exact Mine.ne_l1 (by assumption)) | (with_reducible exact Mine.ne_l2 (by assumption)) | (with_reducible exact Mine.ne_l3 (by assumption)) | (with_reducible exact Mine.ne_g1 (by assumption)) | (with_reducible exact Mine.ne_g2 (by assumption)) | (with_reducible exact Mine.ne_g3 (by assumption)) | (exact Mine.ne_cl (by with_reducible assumption) (by walk_at "pick9")) | (exact Mine.ne_cg (by with_reducible assumption) (by walk_at "pick9")) | (exact Mine.ne_cn (by with_reducible assumption) (by walk_at "pick9")) | (exact Mine.ne_cm (by with_reducible assumption) (by walk_at "pick9")) | (exact Mine.ne_al (by with_reducible assumption) (by walk_at "pick9")) | (exact Mine.ne_ag (by with_reducible assumption) (by walk_at "pick9")) | (exact Mine.ne_ol (by with_reducible assumption) (by walk_at "pick9")) | (exact Mine.ne_og (by with_reducible assumption) (by walk_at "pick9")) | omega))
section
open PySem
set_option maxRecDepth 100000
namespace Mine
noncomputable def ipCode : Array Nat := #[14, 8, 1, 2, 4294967295, 1, 1, 46, 0, 16, 46, 24, 9, 1, 4294967295, 13, 4, 8, 0, 0, 1, 6, 5, 1]
noncomputable def flCode : Array Nat := #[14, 4, 0, 8, 4294967295, 24, 5, 0, 4294967295, 2, 1, 16, 70, 16, 76, 16, 65, 16, 71, 16, 83, 16, 32, 16, 40, 17, 0, 24, 6, 0, 4294967295, 20, 41, 1, 17, 1, 16, 41, 1]
end Mine
end
section
open PySem PySem.Sre
set_option maxRecDepth 100000
namespace Mine
/-- the state of the machine on the code of Flags -/
noncomputable abbrev FS (x : Array Nat) (pc pos hd : Nat) (mk : Array (Option Nat)) (lm li : Int) (fr : List Sre.Frame) (wt : Nat) (an : Option Bool) (sn : Seen) : M :=
  { code := flCode, text := x, lim := x.size, start := 0, lastStart := 0, wholeText := false, mustAdvance := false, pc := pc, pos := pos, handed := hd, outermost := true, marks := mk, lastmark := lm, lastindex := li, loops := #[], inner := none, frames := fr, weight := wt, answer := an, seen := sn, outcome := none }
variable {x : Array Nat} {pc pos hd : Nat} {mk : Array (Option Nat)} {lm li : Int} {fr : List Sre.Frame} {wt : Nat} {an : Option Bool} {sn : Seen}
theorem lit_yes {c : Nat} (h0 : flCode.getD pc 0 = 16) (h1 : flCode.getD (pc + 1) 0 = c) (hp : pc < 39) (hx : x[pos]? = some c) : (FS x pc pos hd mk lm li fr wt none sn).step = FS x (pc + 2) (pos + 1) hd mk lm li fr wt none (sn.add 16) := by
  have hlt : pos < x.size := by
    apply Nat.lt_of_not_le; intro h; rw [Array.getElem?_eq_none h] at hx; cases hx
  have hg : x.getD pos 0 = c := by rw [Array.getD_eq_getD_getElem?, hx]; rfl
  have hs : flCode.size = 39 := rfl
  have ho : ops[16]? = some .LITERAL := rfl
  simp only [M.step, M.exec, M.word, Nat.add_zero, h0, ho, h1, hs, hp, if_true, Option.isSome_none, Bool.false_eq_true, if_false, accepts, hg, beq_self_eq_true, itemWidth, Nat.not_le.mpr hlt, ge_iff_le]
theorem lit_no {c : Nat} (h0 : flCode.getD pc 0 = 16) (h1 : flCode.getD (pc + 1) 0 = c) (hp : pc < 39) (hx : x[pos]? ≠ some c) : (FS x pc pos hd mk lm li fr wt none sn).step = FS x pc pos hd mk lm li fr wt (some false) (sn.add 16) := by
  have hs : flCode.size = 39 := rfl
  have ho : ops[16]? = some .LITERAL := rfl
  by_cases hlt : x.size ≤ pos
  · simp only [M.step, M.exec, M.word, Nat.add_zero, h0, ho, h1, hs, hp, if_true, Option.isSome_none, Bool.false_eq_true, if_false, hlt, ge_iff_le, M.say]
  · have hg : (x.getD pos 0 == c) = false := by
      rw [Array.getD_eq_getD_getElem?]
      rw [Array.getElem?_eq_getElem (Nat.lt_of_not_le hlt)] at hx ⊢
      simpa using hx
    simp only [M.step, M.exec, M.word, Nat.add_zero, h0, ho, h1, hs, hp, if_true, Option.isSome_none, Bool.false_eq_true, if_false, accepts, hg, hlt, ge_iff_le, M.say]

/-- from m within k steps a state of P -/
noncomputable def Gets (m : M) (P : M → Prop) (k : Nat) : Prop := ∃ j, j ≤ k ∧ P (M.runFor j m)
theorem Gets.here {m : M} {P : M → Prop} (h : P m) (k : Nat) : Gets m P k := ⟨0, Nat.zero_le _, h⟩
theorem Gets.step {m : M} {P : M → Prop} {k : Nat} (ho : m.outcome = none) (h : Gets m.step P k) : Gets m P (k + 1) := by
  obtain ⟨j, hj, hp⟩ := h
  refine ⟨j + 1, Nat.succ_le_succ hj, ?_⟩
  show P (if m.outcome.isSome then m else M.runFor j m.step)
  rw [ho]; exact hp
theorem runFor_add' (a b : Nat) : ∀ m : M, M.runFor (a + b) m = M.runFor b (M.runFor a m) := by
  induction a with
  | zero => intro m; simp [M.runFor]
  | succ a ih =>
    intro m
    rw [Nat.succ_add]
    show (if m.outcome.isSome then m else M.runFor (a + b) m.step) = M.runFor b (if m.outcome.isSome then m else M.runFor a m.step)
    by_cases h : m.outcome.isSome = true
    · rw [if_pos h, if_pos h]
      cases b with
      | zero => rfl
      | succ b => show m = if m.outcome.isSome then m else _; rw [if_pos h]
    · rw [if_neg h, if_neg h]; exact ih _
theorem Gets.trans {m : M} {P R : M → Prop} {k k' : Nat} (h : Gets m P k) (h' : ∀ m', P m' → Gets m' R k') : Gets m R (k + k') := by
  obtain ⟨j, hj, hp⟩ := h
  obtain ⟨j', hj', hr⟩ := h' _ hp
  exact ⟨j + j', Nat.add_le_add hj hj', by rw [runFor_add']; exact hr⟩
theorem Gets.mono {m : M} {P : M → Prop} {k k' : Nat} (h : Gets m P k) (hk : k ≤ k') : Gets m P k' := by
  obtain ⟨j, hj, hp⟩ := h
  exact ⟨j, Nat.le_trans hj hk, hp⟩
/-- one step whose state is known -/
theorem Gets.eq {m m' : M} {P : M → Prop} {k : Nat} (ho : m.outcome = none) (e : m.step = m') (h : Gets m' P k) : Gets m P (k + 1) := Gets.step ho (e ▸ h)

noncomputable def litsF : List Nat := [70, 76, 65, 71, 83, 32, 40]
noncomputable abbrev preAt (x : Array Nat) (p : Nat) : Prop := x[p]? = some 70 ∧ x[p+1]? = some 76 ∧ x[p+2]? = some 65 ∧ x[p+3]? = some 71 ∧ x[p+4]? = some 83 ∧ x[p+5]? = some 32 ∧ x[p+6]? = some 40

theorem pre_yes {p : Nat} {R : M → Prop} {k : Nat} (h : preAt x p) (next : ∀ sn, Gets (FS x 25 (p + 7) hd mk lm li fr wt none sn) R k) : Gets (FS x 11 p hd mk lm li fr wt none sn) R (k + 7) := by
  obtain ⟨h0, h1, h2, h3, h4, h5, h6⟩ := h
  refine Gets.eq rfl (lit_yes (c := 70) rfl rfl (by decide) h0) ?_
  refine Gets.eq rfl (lit_yes (c := 76) rfl rfl (by decide) h1) ?_
  refine Gets.eq rfl (lit_yes (c := 65) rfl rfl (by decide) h2) ?_
  refine Gets.eq rfl (lit_yes (c := 71) rfl rfl (by decide) h3) ?_
  refine Gets.eq rfl (lit_yes (c := 83) rfl rfl (by decide) h4) ?_
  refine Gets.eq rfl (lit_yes (c := 32) rfl rfl (by decide) h5) ?_
  refine Gets.eq rfl (lit_yes (c := 40) rfl rfl (by decide) h6) ?_
  exact next _
theorem pre_no {p : Nat} {R : M → Prop} {k : Nat} (h : ¬ preAt x p) (next : ∀ pc pos sn, Gets (FS x pc pos hd mk lm li fr wt (some false) sn) R k) : Gets (FS x 11 p hd mk lm li fr wt none sn) R (k + 7) := by
  by_cases h0 : x[p]? = some 70
  · refine Gets.eq rfl (lit_yes (c := 70) rfl rfl (by decide) h0) ?_
    by_cases h1 : x[p+1]? = some 76
    · refine Gets.eq rfl (lit_yes (c := 76) rfl rfl (by decide) h1) ?_
      by_cases h2 : x[p+2]? = some 65
      · refine Gets.eq rfl (lit_yes (c := 65) rfl rfl (by decide) h2) ?_
        by_cases h3 : x[p+3]? = some 71
        · refine Gets.eq rfl (lit_yes (c := 71) rfl rfl (by decide) h3) ?_
          by_cases h4 : x[p+4]? = some 83
          · refine Gets.eq rfl (lit_yes (c := 83) rfl rfl (by decide) h4) ?_
            by_cases h5 : x[p+5]? = some 32
            · refine Gets.eq rfl (lit_yes (c := 32) rfl rfl (by decide) h5) ?_
              by_cases h6 : x[p+6]? = some 40
              · exact absurd ⟨h0, h1, h2, h3, h4, h5, h6⟩ h
              · exact Gets.mono (Gets.eq rfl (lit_no (c := 40) rfl rfl (by decide) h6) (next _ _ _)) (by omega)
            · exact Gets.mono (Gets.eq rfl (lit_no (c := 32) rfl rfl (by decide) h5) (next _ _ _)) (by omega)
          · exact Gets.mono (Gets.eq rfl (lit_no (c := 83) rfl rfl (by decide) h4) (next _ _ _)) (by omega)
        · exact Gets.mono (Gets.eq rfl (lit_no (c := 71) rfl rfl (by decide) h3) (next _ _ _)) (by omega)
      · exact Gets.mono (Gets.eq rfl (lit_no (c := 65) rfl rfl (by decide) h2) (next _ _ _)) (by omega)
    · exact Gets.mono (Gets.eq rfl (lit_no (c := 76) rfl rfl (by decide) h1) (next _ _ _)) (by omega)
  · exact Gets.mono (Gets.eq rfl (lit_no (c := 70) rfl rfl (by decide) h0) (next _ _ _)) (by omega)

theorem mark0 (hl : lm = -1) : (FS x 25 pos hd mk lm li fr wt none sn).step = FS x 27 pos hd (mk.setIfInBounds 0 (some pos)) 0 li fr wt none (sn.add 17) := by
  subst hl; rfl
theorem mark1 (hl : lm = 0) : (FS x 34 pos hd mk lm li fr wt none sn).step = FS x 36 pos hd (mk.setIfInBounds 1 (some pos)) 1 1 fr wt none (sn.add 17) := by
  subst hl; kernel_rfl
theorem succ38 : (FS x 38 pos hd mk lm li fr wt none sn).step = FS x 38 pos pos mk lm li fr wt (some true) (sn.add 1) := rfl
noncomputable abbrev gb (pc pos : Nat) (c : Int) (lm li : Int) : Sre.Frame := { wait := .giveBack, pc := pc, pos := pos, outermost := true, count := c, kept := { lastmark := lm, lastindex := li, whole := false, marks := #[] } }
theorem gb_true {P q : Nat} {c lm' li' : Int} : (FS x pc pos hd mk lm li (gb P q c lm' li' :: fr) wt (some true) sn).step = FS x P q hd mk lm li fr (wt - 1) (some true) sn := rfl
theorem end_true : (FS x pc pos hd mk lm li [] wt (some true) sn).step = { FS x pc pos hd mk lm li [] wt (some true) sn with outcome := some .matched } := rfl
theorem end_false : (FS x pc pos hd mk lm li [] wt (some false) sn).step = { FS x pc pos hd mk lm li [] wt (some false) sn with outcome := some .failed } := rfl

noncomputable def cntP (pr : Nat → Bool) (x : Array Nat) : Nat → Nat → Nat
  | 0, _ => 0
  | n + 1, p => if pr (x.getD p 0) then cntP pr x n (p + 1) + 1 else 0
theorem cntP_le (pr : Nat → Bool) (x : Array Nat) : ∀ n p, cntP pr x n p ≤ n
  | 0, _ => Nat.le_refl _
  | n + 1, p => by
    unfold cntP
    split
    · exact Nat.succ_le_succ (cntP_le pr x n (p + 1))
    · exact Nat.zero_le _
theorem cntP_in {pr : Nat → Bool} {x : Array Nat} : ∀ {n p q}, p ≤ q → q < p + cntP pr x n p → pr (x.getD q 0) = true
  | 0, _, _, h1, h2 => by unfold cntP at h2; omega
  | n + 1, p, q, h1, h2 => by
    unfold cntP at h2
    split at h2
    · rename_i hp
      by_cases e : q = p
      · subst e; exact hp
      · exact cntP_in (n := n) (p := p + 1) (by omega) (by omega)
    · omega
theorem cntP_end {pr : Nat → Bool} {x : Array Nat} : ∀ {n p}, cntP pr x n p < n → pr (x.getD (p + cntP pr x n p) 0) = false
  | 0, _, h => by omega
  | n + 1, p, h => by
    unfold cntP at h ⊢
    split at h
    · rename_i hp
      rw [if_pos hp]
      have := cntP_end (pr := pr) (x := x) (n := n) (p := p + 1) (by omega)
      rw [show p + (cntP pr x n (p + 1) + 1) = p + 1 + cntP pr x n (p + 1) by omega]
      exact this
    · rename_i hp
      rw [if_neg hp]
      simpa using hp
theorem run_of {code text : Array Nat} {i : Nat} {pr : Nat → Bool} (ha : ∀ c sn, accepts code i c sn = .ok (pr c, sn)) : ∀ (n p f : Nat) (sn : Seen), Sre.run code text i n p f sn = .ok (f + cntP pr text n p, sn)
  | 0, _, _, _ => rfl
  | n + 1, p, f, sn => by
    unfold Sre.run cntP
    rw [ha]
    show (if pr (text.getD p 0) = true then Sre.run code text i n (p + 1) (f + 1) sn else pure (f, sn)) = _
    split
    · rw [run_of ha n (p + 1) (f + 1) sn]
      congr 2; omega
    · rfl
theorem acc31 (c : Nat) (sn : Seen) : accepts flCode 31 c sn = .ok (c != 41, sn) := rfl
theorem acc9 (c : Nat) (sn : Seen) : accepts flCode 9 c sn = .ok (c != 10, sn) := rfl
theorem rep27 {p n : Nat} (hp : p ≤ x.size) (hsz : x.size ≤ 1048576) (hw : wt ≤ 100) (hn : n = cntP (· != 41) x (x.size - p) p) :
    ∃ sn', (FS x 27 p hd mk lm li fr wt none sn).step = FS x 34 (p + n) (p + n) mk lm li (gb 27 (p + n) n lm li :: fr) (wt + 1) none sn' := by
  have hs : flCode.size = 39 := rfl
  have w0 : flCode.getD 27 0 = 24 := rfl
  have w1 : flCode.getD 28 0 = 6 := rfl
  have w2 : flCode.getD 29 0 = 0 := rfl
  have w3 : flCode.getD 30 0 = 4294967295 := rfl
  have ho : ops[24]? = some .REPEAT_ONE := rfl
  have hroom : ¬ ((0 : Nat) : Int) > (x.size : Int) - (p : Int) := by omega
  have hmin : min 4294967295 ((x.size : Int) - (p : Int)).toNat = x.size - p := by omega
  have hwt : ¬ (wt + 1 > 16777216) := by omega
  have w4 : flCode.getD 31 0 = 20 := rfl
  refine ⟨(sn.add 24).add 20, ?_⟩
  simp only [M.step, M.exec, M.word, Nat.add_zero, w0, w1, w2, w3, w4, ho, hs, Option.isSome_none, Bool.false_eq_true, if_false, hroom, hmin, run_of acc31, Nat.zero_add, ← hn, Nat.not_lt_zero, M.afterRun, M.attempt, M.frame, M.keep, if_true, show (27 < 39) = True from by simp, Array.size_empty, hwt, Nat.reduceAdd]

theorem rep5 {p n : Nat} (hp : p ≤ x.size) (hsz : x.size ≤ 1048576) (hw : wt ≤ 100) (hn : n = cntP (· != 10) x (x.size - p) p) :
    ∃ sn', (FS x 5 p hd mk lm li fr wt none sn).step = FS x 11 (p + n) (p + n) mk lm li (gb 5 (p + n) n lm li :: fr) (wt + 1) none sn' := by
  have hs : flCode.size = 39 := rfl
  have w0 : flCode.getD 5 0 = 24 := rfl
  have w1 : flCode.getD 6 0 = 5 := rfl
  have w2 : flCode.getD 7 0 = 0 := rfl
  have w3 : flCode.getD 8 0 = 4294967295 := rfl
  have ho : ops[24]? = some .REPEAT_ONE := rfl
  have hroom : ¬ ((0 : Nat) : Int) > (x.size : Int) - (p : Int) := by omega
  have hmin : min 4294967295 ((x.size : Int) - (p : Int)).toNat = x.size - p := by omega
  have hwt : ¬ (wt + 1 > 16777216) := by omega
  have w4 : flCode.getD 9 0 = 2 := rfl
  refine ⟨(sn.add 24).add 2, ?_⟩
  simp only [M.step, M.exec, M.word, Nat.add_zero, w0, w1, w2, w3, w4, ho, hs, Option.isSome_none, Bool.false_eq_true, if_false, hroom, hmin, run_of acc9, Nat.zero_add, ← hn, Nat.not_lt_zero, M.afterRun, M.attempt, M.frame, M.keep, if_true, show (5 < 39) = True from by simp, Array.size_empty, hwt, Nat.reduceAdd]
variable {q : Nat} {c lm' li' : Int}
theorem gb_zero {P : Nat} (hP : P = 5 ∨ P = 27) (hc : c = 0) : (FS x pc pos hd mk lm li (gb P q c lm' li' :: fr) wt (some false) sn).step = FS x P q hd mk lm' li' fr (wt - 1) (some false) sn := by
  subst hc
  rcases hP with rfl | rfl
  · have w2 : flCode.getD 7 0 = 0 := rfl
    simp only [M.step, M.resume, M.word, M.putBack, M.say, w2, Option.isSome_none, Bool.false_eq_true, if_false, if_true, Nat.reduceAdd, show ((0 : Int) - 1 < ((0 : Nat) : Int)) = True from by simp, Array.size_empty, Nat.add_zero]
  · have w2 : flCode.getD 29 0 = 0 := rfl
    simp only [M.step, M.resume, M.word, M.putBack, M.say, w2, Option.isSome_none, Bool.false_eq_true, if_false, if_true, Nat.reduceAdd, show ((0 : Int) - 1 < ((0 : Nat) : Int)) = True from by simp, Array.size_empty, Nat.add_zero]
theorem gb_more {P T : Nat} (hP : (P = 5 ∧ T = 11) ∨ (P = 27 ∧ T = 34)) (hc : 1 ≤ c) (hw : wt ≤ 100) : (FS x pc pos hd mk lm li (gb P q c lm' li' :: fr) wt (some false) sn).step = FS x T (q - 1) (q - 1) mk lm' li' (gb P (q - 1) (c - 1) lm' li' :: fr) (wt - 1 + 1) none sn := by
  have hc' : ¬ (c - 1 < ((0 : Nat) : Int)) := by omega
  have hwt : ¬ (wt - 1 + 1 > 16777216) := by omega
  rcases hP with ⟨rfl, rfl⟩ | ⟨rfl, rfl⟩
  · have w1 : flCode.getD 6 0 = 5 := rfl
    have w2 : flCode.getD 7 0 = 0 := rfl
    simp only [M.step, M.resume, M.word, M.putBack, M.say, w1, w2, Option.isSome_none, Bool.false_eq_true, if_false, if_true, Nat.reduceAdd, hc', M.afterRun, M.attempt, M.frame, Array.size_empty, Nat.add_zero, hwt]
  · have w1 : flCode.getD 28 0 = 6 := rfl
    have w2 : flCode.getD 29 0 = 0 := rfl
    simp only [M.step, M.resume, M.word, M.putBack, M.say, w1, w2, Option.isSome_none, Bool.false_eq_true, if_false, if_true, Nat.reduceAdd, hc', M.afterRun, M.attempt, M.frame, Array.size_empty, Nat.add_zero, hwt]
theorem inner_no {R : M → Prop} {k p : Nat} (hw : wt ≤ 100) (next : ∀ pc pos hd mk' sn, mk'.size = mk.size → Gets (FS x pc pos hd mk' 0 li fr (wt - 1) (some false) sn) R k) : ∀ (c : Nat) (mk' : Array (Option Nat)) (hd : Nat) (sn : Seen), mk'.size = mk.size → (∀ r, p ≤ r → r ≤ p + c → x[r]? ≠ some 41) →
    1 ≤ wt → Gets (FS x 34 (p + c) hd mk' 0 li (gb 27 (p + c) c 0 li :: fr) wt none sn) R (k + 3 * (c + 1))
  | 0, mk', hd, sn, hm, hx, h1 => by
    refine Gets.eq rfl (mark1 rfl) ?_
    refine Gets.eq rfl (lit_no (c := 41) rfl rfl (by decide) (hx _ (Nat.le_refl _) (Nat.le_refl _))) ?_
    refine Gets.eq rfl (gb_zero (.inr rfl) rfl) ?_
    exact next _ _ _ _ _ (by simp [hm])
  | c + 1, mk', hd, sn, hm, hx, h1 => by
    refine Gets.mono (k := k + 3 * (c + 1) + 1 + 1 + 1) ?_ (by omega)
    refine Gets.eq rfl (mark1 rfl) ?_
    refine Gets.eq rfl (lit_no (c := 41) rfl rfl (by decide) (hx _ (by omega) (Nat.le_refl _))) ?_
    refine Gets.eq rfl (gb_more (.inr ⟨rfl, rfl⟩) (by omega) hw) ?_
    have e1 : p + (c + 1) - 1 = p + c := by omega
    have e2 : (((c + 1 : Nat) : Int) - 1) = (c : Int) := by omega
    have e3 : wt - 1 + 1 = wt := by omega
    rw [e1, e2, e3]
    exact inner_no hw next c _ _ _ (by simp [hm]) (fun r h1 h2 => hx r h1 (by omega)) h1
noncomputable def closeAt (x : Array Nat) (p : Nat) : Nat := p + cntP (· != 41) x (x.size - p) p
noncomputable abbrev hitAt (x : Array Nat) (c : Nat) : Prop := preAt x c ∧ closeAt x (c + 7) < x.size
noncomputable def flFind (x : Array Nat) : Nat → Option (Nat × Nat)
  | 0 => if hitAt x 0 then some (7, closeAt x 7) else none
  | c + 1 => if hitAt x (c + 1) then some (c + 1 + 7, closeAt x (c + 1 + 7)) else flFind x c
noncomputable def Won (b e : Nat) (m : M) : Prop := m.outcome = some .matched ∧ m.lastmark = 1 ∧ m.marks.getD 0 none = some b ∧ m.marks.getD 1 none = some e
theorem pre_lt {p : Nat} (h : preAt x p) : p + 7 ≤ x.size := by
  have := h.2.2.2.2.2.2
  apply Nat.lt_of_not_le; intro hle; rw [Array.getElem?_eq_none hle] at this; cases this
theorem get41 {r : Nat} (h : (x.getD r 0 != 41) = true) : x[r]? ≠ some 41 := by
  intro e
  rw [Array.getD_eq_getD_getElem?, e] at h
  simp at h
theorem hit_step {k : Nat} (hsz : x.size ≤ 1048576) (hm : mk.size = 2) (h : hitAt x q) :
    Gets (FS x 11 q hd mk (-1) (-1) [gb 5 q c (-1) (-1)] 1 none sn) (Won (q + 7) (closeAt x (q + 7))) (k + 16) := by
  obtain ⟨hp, hc⟩ := h
  refine Gets.mono (k := 0 + 1 + 1 + 1 + 1 + 1 + 1 + 1 + 1 + 7) ?_ (by omega)
  refine pre_yes hp fun sn1 => ?_
  refine Gets.eq rfl (mark0 rfl) ?_
  obtain ⟨sn2, e2⟩ := rep27 (x := x) (hd := hd) (mk := mk.setIfInBounds 0 (some (q + 7))) (lm := 0) (li := -1) (fr := [gb 5 q c (-1) (-1)]) (wt := 1) (sn := sn1.add 17) (p := q + 7) (pre_lt hp) hsz (by decide) rfl
  refine Gets.eq rfl e2 ?_
  refine Gets.eq rfl (mark1 rfl) ?_
  have hlt : cntP (· != 41) x (x.size - (q + 7)) (q + 7) < x.size - (q + 7) := by unfold closeAt at hc; omega
  have hx : x[closeAt x (q + 7)]? = some 41 := by
    have := cntP_end hlt
    have hg : x.getD (closeAt x (q + 7)) 0 = 41 := by unfold closeAt; simpa using this
    rw [Array.getD_eq_getD_getElem?, Array.getElem?_eq_getElem hc] at hg
    rw [Array.getElem?_eq_getElem hc]
    simpa using hg
  refine Gets.eq rfl (lit_yes (c := 41) rfl rfl (by decide) hx) ?_
  refine Gets.eq rfl succ38 ?_
  refine Gets.eq rfl gb_true ?_
  refine Gets.eq rfl gb_true ?_
  refine Gets.eq rfl end_true ?_
  refine Gets.here ⟨rfl, rfl, ?_, ?_⟩ _
  · show ((mk.setIfInBounds 0 (some (q + 7))).setIfInBounds 1 _).getD 0 none = _
    rw [Array.getD_eq_getD_getElem?, Array.getElem?_setIfInBounds_ne (by decide), Array.getElem?_setIfInBounds_self_of_lt (by omega)]; rfl
  · show ((mk.setIfInBounds 0 (some (q + 7))).setIfInBounds 1 _).getD 1 none = _
    rw [Array.getD_eq_getD_getElem?, Array.getElem?_setIfInBounds_self_of_lt (by rw [Array.size_setIfInBounds]; omega)]; rfl
theorem miss_step {R : M → Prop} {k : Nat} (hsz : x.size ≤ 1048576) (hm : mk.size = 2) (h : ¬ hitAt x q)
    (next : ∀ pc pos hd mk' lm li sn, mk'.size = 2 → Gets (FS x pc pos hd mk' lm li [gb 5 q c (-1) (-1)] 1 (some false) sn) R k) :
    Gets (FS x 11 q hd mk (-1) (-1) [gb 5 q c (-1) (-1)] 1 none sn) R (k + 3 * (x.size + 1) + 9) := by
  by_cases hp : preAt x q
  · have hc : ¬ closeAt x (q + 7) < x.size := fun hc => h ⟨hp, hc⟩
    refine Gets.mono (k := k + 3 * (x.size - (q + 7) + 1) + 1 + 1 + 7) ?_ (by omega)
    refine pre_yes hp fun sn1 => ?_
    refine Gets.eq rfl (mark0 rfl) ?_
    have hle := cntP_le (· != 41) x (x.size - (q + 7)) (q + 7)
    have heq : cntP (· != 41) x (x.size - (q + 7)) (q + 7) = x.size - (q + 7) := by unfold closeAt at hc; omega
    obtain ⟨sn2, e2⟩ := rep27 (x := x) (hd := hd) (mk := mk.setIfInBounds 0 (some (q + 7))) (lm := 0) (li := -1) (fr := [gb 5 q c (-1) (-1)]) (wt := 1) (sn := sn1.add 17) (p := q + 7) (pre_lt hp) hsz (by decide) rfl
    refine Gets.eq rfl e2 ?_
    rw [heq]
    refine inner_no (mk := mk) (by decide) (fun pc pos hd mk' sn hm' => next _ _ _ _ _ _ _ (by rw [hm', hm])) _ _ _ _ (by simp) (fun r h1 h2 => ?_) (by decide)
    by_cases hr : r < q + 7 + (x.size - (q + 7))
    · exact get41 (cntP_in (n := x.size - (q + 7)) (p := q + 7) h1 (by rw [heq]; exact hr))
    · rw [Array.getElem?_eq_none (by omega)]; intro e; cases e
  · refine Gets.mono (k := k + 7) ?_ (by omega)
    exact pre_no hp fun pc pos sn => next _ _ _ _ _ _ _ hm
noncomputable def Lost (m : M) : Prop := m.outcome = some .failed
theorem Lost.of {m : M} (h : m.outcome = some .failed) : Lost m := h
theorem outer (hsz : x.size ≤ 1048576) : ∀ (c : Nat) (mk : Array (Option Nat)) (hd : Nat) (sn : Seen), mk.size = 2 →
    Gets (FS x 11 c hd mk (-1) (-1) [gb 5 c c (-1) (-1)] 1 none sn) (match flFind x c with | some (b, e) => Won b e | none => Lost) ((3 * x.size + 20) * (c + 1))
  | 0, mk, hd, sn, hm => by
    unfold flFind
    by_cases h : hitAt x 0
    · rw [if_pos h]
      exact Gets.mono (hit_step (k := 0) hsz hm h) (by omega)
    · rw [if_neg h]
      refine Gets.mono (k := 0 + 1 + 1 + 3 * (x.size + 1) + 9) (miss_step hsz hm h fun pc pos hd mk' lm li sn _ => ?_) (by omega)
      refine Gets.eq rfl (gb_zero (.inl rfl) rfl) ?_
      refine Gets.eq rfl end_false ?_
      exact Gets.here (P := Lost) (Lost.of rfl) _
  | c + 1, mk, hd, sn, hm => by
    unfold flFind
    by_cases h : hitAt x (c + 1)
    · rw [if_pos h]
      exact Gets.mono (hit_step (k := 0) hsz hm h) (by rw [Nat.mul_add]; omega)
    · rw [if_neg h]
      refine Gets.mono (k := (3 * x.size + 20) * (c + 1) + 1 + 3 * (x.size + 1) + 9) (miss_step hsz hm h fun pc pos hd mk' lm li sn hm' => ?_) (by rw [Nat.mul_add _ (c + 1) 1]; omega)
      refine Gets.eq rfl (gb_more (.inl ⟨rfl, rfl⟩) (by omega) (by decide)) ?_
      have e2 : (((c + 1 : Nat) : Int) - 1) = (c : Int) := by omega
      rw [Nat.add_sub_cancel, e2]
      exact outer hsz c _ _ _ hm'
noncomputable def flSpec (x : Array Nat) : Option (Nat × Nat) := if x.size < 8 then none else flFind x (cntP (· != 10) x x.size 0)
theorem fl_runs (hsz : x.size ≤ 1048576) : Gets (Sre.forMatch flCode x 1 0 x.size false false) (match flSpec x with | some (b, e) => Won b e | none => Lost) (2 ^ 60) := by
  unfold flSpec
  by_cases h8 : x.size < 8
  · rw [if_pos h8]
    have e : Sre.forMatch flCode x 1 0 x.size false false = FS x 5 0 0 #[none, none] (-1) (-1) [] 0 (some false) (({} : Seen).add 14) := by
      show (if ((8 : Nat) != 0 && decide (0 ≤ x.size) && decide (x.size - 0 < 8)) = true then M.say (FS x 5 0 0 #[none, none] (-1) (-1) [] 0 none (({} : Seen).add 14)) false else FS x 5 0 0 #[none, none] (-1) (-1) [] 0 none (({} : Seen).add 14)) = _
      rw [if_pos (by simp [h8])]; rfl
    rw [e]
    exact Gets.mono (Gets.eq rfl end_false (Gets.here (P := Lost) (Lost.of rfl) 0)) (by decide)
  · rw [if_neg h8]
    have e : Sre.forMatch flCode x 1 0 x.size false false = FS x 5 0 0 #[none, none] (-1) (-1) [] 0 none (({} : Seen).add 14) := by
      show (if ((8 : Nat) != 0 && decide (0 ≤ x.size) && decide (x.size - 0 < 8)) = true then M.say (FS x 5 0 0 #[none, none] (-1) (-1) [] 0 none (({} : Seen).add 14)) false else FS x 5 0 0 #[none, none] (-1) (-1) [] 0 none (({} : Seen).add 14)) = _
      rw [if_neg (by simp; omega)]
    rw [e]
    have hle := cntP_le (· != 10) x x.size 0
    obtain ⟨sn', e'⟩ := rep5 (x := x) (hd := 0) (mk := #[none, none]) (lm := -1) (li := -1) (fr := []) (wt := 0) (sn := ({} : Seen).add 14) (p := 0) (Nat.zero_le _) hsz (by decide) rfl
    refine Gets.mono (k := (3 * x.size + 20) * (cntP (· != 10) x x.size 0 + 1) + 1) (Gets.eq rfl e' ?_) ?_
    · rw [Nat.zero_add, Nat.sub_zero]
      exact outer hsz _ _ _ _ rfl
    · have h1 : 3 * x.size + 20 ≤ 3145748 := by omega
      have h2 : cntP (· != 10) x x.size 0 + 1 ≤ 1048577 := by omega
      have := Nat.mul_le_mul h1 h2
      omega
theorem flFind_le {x : Array Nat} {b e : Nat} : ∀ {c : Nat}, flFind x c = some (b, e) → b ≤ e
  | 0, h => by
    unfold flFind at h
    split at h
    · cases h; exact Nat.le_add_right _ _
    · cases h
  | c + 1, h => by
    unfold flFind at h
    split at h
    · cases h; exact Nat.le_add_right _ _
    · exact flFind_le h
theorem flSpec_le {x : Array Nat} {b e : Nat} (h : flSpec x = some (b, e)) : b ≤ e := by
  unfold flSpec at h
  split at h
  · cases h
  · exact flFind_le h
end Mine
end
section
open PySem PySem.Sre
set_option maxRecDepth 100000
namespace Mine
noncomputable abbrev IS (x : Array Nat) (st pc pos hd : Nat) (om : Bool) (fr : List Sre.Frame) (wt : Nat) (an : Option Bool) (sn : Seen) : M :=
  { code := ipCode, text := x, lim := x.size, start := st, lastStart := x.size, wholeText := false, mustAdvance := false, pc := pc, pos := pos, handed := hd, outermost := om, marks := #[], lastmark := -1, lastindex := -1, loops := #[], inner := none, frames := fr, weight := wt, answer := an, seen := sn, outcome := none }
section
variable {x : Array Nat} {st pc pos hd : Nat} {om : Bool} {fr : List Sre.Frame} {wt : Nat} {sn : Seen}
theorem dot_yes (hx : x[pos]? = some 46) : (IS x st 9 pos hd om fr wt none sn).step = IS x st 11 (pos + 1) hd om fr wt none (sn.add 16) := by
  have hlt : pos < x.size := by
    apply Nat.lt_of_not_le; intro h; rw [Array.getElem?_eq_none h] at hx; cases hx
  have hg : x.getD pos 0 = 46 := by rw [Array.getD_eq_getD_getElem?, hx]; rfl
  have h0 : ipCode.getD 9 0 = 16 := rfl
  have h1 : ipCode.getD 10 0 = 46 := rfl
  have hs : ipCode.size = 24 := rfl
  have ho : ops[16]? = some .LITERAL := rfl
  simp only [M.step, M.exec, M.word, Nat.add_zero, h0, ho, h1, hs, if_true, Option.isSome_none, Bool.false_eq_true, if_false, accepts, hg, beq_self_eq_true, itemWidth, Nat.not_le.mpr hlt, ge_iff_le, Nat.reduceAdd, show (9 < 24) = True from by simp]
theorem dot_no (hx : x[pos]? ≠ some 46) : (IS x st 9 pos hd om fr wt none sn).step = IS x st 9 pos hd om fr wt (some false) (sn.add 16) := by
  have h0 : ipCode.getD 9 0 = 16 := rfl
  have h1 : ipCode.getD 10 0 = 46 := rfl
  have hs : ipCode.size = 24 := rfl
  have ho : ops[16]? = some .LITERAL := rfl
  by_cases hlt : x.size ≤ pos
  · simp only [M.step, M.exec, M.word, Nat.add_zero, h0, ho, hs, if_true, Option.isSome_none, Bool.false_eq_true, if_false, hlt, ge_iff_le, M.say, show (9 < 24) = True from by simp]
  · have hg : (x.getD pos 0 == 46) = false := by
      rw [Array.getD_eq_getD_getElem?]
      rw [Array.getElem?_eq_getElem (Nat.lt_of_not_le hlt)] at hx ⊢
      simpa using hx
    simp only [M.step, M.exec, M.word, Nat.add_zero, h0, ho, h1, hs, if_true, Option.isSome_none, Bool.false_eq_true, if_false, accepts, hg, hlt, ge_iff_le, M.say, Nat.reduceAdd, show (9 < 24) = True from by simp]
theorem acc15 (c : Nat) (sn : Seen) : ∃ sn', accepts ipCode 15 c sn = .ok (isDigit c, sn') := by
  have hc : category 0 c = .ok (isDigit c != false) := rfl
  have e : accepts ipCode 15 c sn = (category 0 c >>= fun b => if b then pure (true, (sn.add 8).add 55) else inSet ipCode c 23 19 true ((sn.add 8).add 55)) := rfl
  rw [e, hc]
  cases isDigit c
  · exact ⟨_, rfl⟩
  · exact ⟨_, rfl⟩
theorem run15 (text : Array Nat) : ∀ (n p f : Nat) (sn : Seen), ∃ sn', Sre.run ipCode text 15 n p f sn = .ok (f + cntP isDigit text n p, sn')
  | 0, _, _, sn => ⟨sn, rfl⟩
  | n + 1, p, f, sn => by
    unfold Sre.run cntP
    obtain ⟨sn1, e1⟩ := acc15 (text.getD p 0) sn
    rw [e1]
    show ∃ sn', (if isDigit (text.getD p 0) = true then Sre.run ipCode text 15 n (p + 1) (f + 1) sn1 else pure (f, sn1)) = _
    split
    · obtain ⟨sn2, e2⟩ := run15 text n (p + 1) (f + 1) sn1
      exact ⟨sn2, by rw [e2]; congr 2; omega⟩
    · exact ⟨sn1, rfl⟩
noncomputable abbrev gbI (pos : Nat) (c : Int) (om : Bool) : Sre.Frame := { wait := .giveBack, pc := 11, pos := pos, outermost := om, count := c, kept := { lastmark := -1, lastindex := -1, whole := false, marks := #[] } }
theorem rep11_yes {n : Nat} (hp : pos < x.size) (hsz : x.size ≤ 1048576) (hw : wt ≤ 100) (hn : n = cntP isDigit x (x.size - pos) pos) (h1 : 1 ≤ n) :
    ∃ sn', (IS x st 11 pos hd om fr wt none sn).step = IS x st 21 (pos + n) (pos + n) om (gbI (pos + n) n om :: fr) (wt + 1) none sn' := by
  have hs : ipCode.size = 24 := rfl
  have w0 : ipCode.getD 11 0 = 24 := rfl
  have w1 : ipCode.getD 12 0 = 9 := rfl
  have w2 : ipCode.getD 13 0 = 1 := rfl
  have w3 : ipCode.getD 14 0 = 4294967295 := rfl
  have w4 : ipCode.getD 15 0 = 13 := rfl
  have ho : ops[24]? = some .REPEAT_ONE := rfl
  have hroom : ¬ ((1 : Nat) : Int) > (x.size : Int) - (pos : Int) := by omega
  have hmin : min 4294967295 ((x.size : Int) - (pos : Int)).toNat = x.size - pos := by omega
  have hwt : ¬ (wt + 1 > 16777216) := by omega
  obtain ⟨sn2, e2⟩ := run15 x (x.size - pos) pos 0 ((sn.add 24).add 13)
  have hn1 : ¬ n < 1 := by omega
  refine ⟨sn2, ?_⟩
  simp only [M.step, M.exec, M.word, Nat.add_zero, w0, w1, w2, w3, w4, ho, hs, Option.isSome_none, Bool.false_eq_true, if_false, hroom, hmin, e2, Nat.zero_add, ← hn, hn1, M.afterRun, M.attempt, M.frame, M.keep, if_true, show (11 < 24) = True from by simp, Array.size_empty, hwt, Nat.reduceAdd]
theorem rep11_no (hsz : x.size ≤ 1048576) (hn : cntP isDigit x (x.size - pos) pos < 1) :
    ∃ sn', (IS x st 11 pos hd om fr wt none sn).step = IS x st 11 pos hd om fr wt (some false) sn' := by
  have hs : ipCode.size = 24 := rfl
  have w0 : ipCode.getD 11 0 = 24 := rfl
  have w2 : ipCode.getD 13 0 = 1 := rfl
  have w3 : ipCode.getD 14 0 = 4294967295 := rfl
  have w4 : ipCode.getD 15 0 = 13 := rfl
  have ho : ops[24]? = some .REPEAT_ONE := rfl
  by_cases hp : pos < x.size
  · have hroom : ¬ ((1 : Nat) : Int) > (x.size : Int) - (pos : Int) := by omega
    have hmin : min 4294967295 ((x.size : Int) - (pos : Int)).toNat = x.size - pos := by omega
    obtain ⟨sn2, e2⟩ := run15 x (x.size - pos) pos 0 ((sn.add 24).add 13)
    refine ⟨sn2, ?_⟩
    simp only [M.step, M.exec, M.word, Nat.add_zero, w0, w2, w3, w4, ho, hs, Option.isSome_none, Bool.false_eq_true, if_false, hroom, hmin, e2, Nat.zero_add, hn, M.say, if_true, show (11 < 24) = True from by simp, Nat.reduceAdd]
  · have hroom : ((1 : Nat) : Int) > (x.size : Int) - (pos : Int) := by omega
    refine ⟨sn.add 24, ?_⟩
    simp only [M.step, M.exec, M.word, Nat.add_zero, w0, w2, ho, hs, Option.isSome_none, Bool.false_eq_true, if_false, hroom, M.say, if_true, show (11 < 24) = True from by simp, Nat.reduceAdd]
noncomputable def atEnd (x : Array Nat) (e : Nat) : Bool := e == x.size || (e + 1 == x.size && x.getD e 0 == 10)
theorem at_yes (h : atEnd x pos = true) : (IS x st 21 pos hd om fr wt none sn).step = IS x st 23 pos hd om fr wt none ((sn.add 6).add 48) := by
  have h' : (pos == x.size || (pos + 1 == x.size && x.getD pos 0 == 10)) = true := h
  have hs : ipCode.size = 24 := rfl
  have w0 : ipCode.getD 21 0 = 6 := rfl
  have w1 : ipCode.getD 22 0 = 5 := rfl
  have ho : ops[6]? = some .AT := rfl
  simp only [M.step, M.exec, M.word, Nat.add_zero, w0, w1, ho, hs, Option.isSome_none, Bool.false_eq_true, if_false, M.isAt, h', if_true, show (21 < 24) = True from by simp, Nat.reduceAdd]
theorem at_no (h : atEnd x pos = false) : (IS x st 21 pos hd om fr wt none sn).step = IS x st 21 pos hd om fr wt (some false) ((sn.add 6).add 48) := by
  have h' : (pos == x.size || (pos + 1 == x.size && x.getD pos 0 == 10)) = false := h
  have hs : ipCode.size = 24 := rfl
  have w0 : ipCode.getD 21 0 = 6 := rfl
  have w1 : ipCode.getD 22 0 = 5 := rfl
  have ho : ops[6]? = some .AT := rfl
  simp only [M.step, M.exec, M.word, Nat.add_zero, w0, w1, ho, hs, Option.isSome_none, Bool.false_eq_true, if_false, M.isAt, h', if_true, show (21 < 24) = True from by simp, Nat.reduceAdd, M.say]
theorem succ23 : (IS x st 23 pos hd om fr wt none sn).step = IS x st 23 pos pos om fr wt (some true) (sn.add 1) := by
  cases om <;> rfl
theorem gbI_true {q : Nat} {c : Int} {om' : Bool} : (IS x st pc pos hd om (gbI q c om' :: fr) wt (some true) sn).step = IS x st 11 q hd om' fr (wt - 1) (some true) sn := rfl
theorem gbI_last {q : Nat} {c : Int} {om' : Bool} (hc : c ≤ 1) : (IS x st pc pos hd om (gbI q c om' :: fr) wt (some false) sn).step = IS x st 11 q hd om' fr (wt - 1) (some false) sn := by
  have w2 : ipCode.getD 13 0 = 1 := rfl
  have hc' : c - 1 < ((1 : Nat) : Int) := by omega
  simp only [M.step, M.resume, M.word, M.putBack, M.say, w2, Option.isSome_none, Bool.false_eq_true, if_false, if_true, Nat.reduceAdd, hc', Array.size_empty, Nat.add_zero]
theorem gbI_more {q : Nat} {c : Int} {om' : Bool} (hc : 2 ≤ c) (hw : wt ≤ 100) : (IS x st pc pos hd om (gbI q c om' :: fr) wt (some false) sn).step = IS x st 21 (q - 1) (q - 1) om' (gbI (q - 1) (c - 1) om' :: fr) (wt - 1 + 1) none sn := by
  have w1 : ipCode.getD 12 0 = 9 := rfl
  have w2 : ipCode.getD 13 0 = 1 := rfl
  have hc' : ¬ c - 1 < ((1 : Nat) : Int) := by omega
  have hwt : ¬ (wt - 1 + 1 > 16777216) := by omega
  simp only [M.step, M.resume, M.word, M.putBack, M.say, w1, w2, Option.isSome_none, Bool.false_eq_true, if_false, if_true, Nat.reduceAdd, hc', M.afterRun, M.attempt, M.frame, Array.size_empty, Nat.add_zero, hwt]
noncomputable abbrev ns (s : Nat) (om : Bool) : Sre.Frame := { wait := .nextStart, pc := 9, pos := s, outermost := om }
theorem ns_true {q : Nat} {om' : Bool} : (IS x st pc pos hd om (ns q om' :: fr) wt (some true) sn).step = IS x st 9 q hd om' fr (wt - 1) (some true) sn := rfl
theorem ns_last {q : Nat} {om' : Bool} (h : x.size ≤ q) : (IS x st pc pos hd om (ns q om' :: fr) wt (some false) sn).step = IS x st 9 q hd om' fr (wt - 1) (some false) sn := by
  have h' : ¬ q < x.size := by omega
  simp only [M.step, M.resume, M.putBack, M.say, Option.isSome_none, Bool.false_eq_true, if_false, h', Array.size_empty, Nat.add_zero]
theorem ns_more {q : Nat} {om' : Bool} (h : q < x.size) (hw : wt ≤ 100) : (IS x st pc pos hd om (ns q om' :: fr) wt (some false) sn).step = IS x (q + 1) 9 (q + 1) (q + 1) false (ns (q + 1) false :: fr) (wt - 1 + 1) none sn := by
  have hf : ∀ m : M, m.code = ipCode → m.hasFirstSet = false := fun m hm => by unfold M.hasFirstSet; rw [hm]; rfl
  have hwt : ¬ (wt - 1 + 1 > 16777216) := by omega
  simp only [M.step, M.resume, M.putBack, M.say, Option.isSome_none, Bool.false_eq_true, if_false, h, if_true, M.attemptFrom, hf, Bool.not_false, M.attemptAt, M.attempt, Array.size_empty, Nat.add_zero, hwt]
theorem endI_true : (IS x st pc pos hd om [] wt (some true) sn).step = { IS x st pc pos hd om [] wt (some true) sn with outcome := some .matched } := rfl
theorem endI_false : (IS x st pc pos hd om [] wt (some false) sn).step = { IS x st pc pos hd om [] wt (some false) sn with outcome := some .failed } := rfl
end

section
variable {x : Array Nat} {st pc pos hd : Nat} {om : Bool} {fr : List Sre.Frame} {wt : Nat} {sn : Seen}
noncomputable def digs (x : Array Nat) (p : Nat) : Nat := cntP isDigit x (x.size - p) p
noncomputable abbrev okIp (x : Array Nat) (s : Nat) : Prop := x[s]? = some 46 ∧ 1 ≤ digs x (s + 1) ∧ atEnd x (s + 1 + digs x (s + 1)) = true
noncomputable def ipFrom (x : Array Nat) : Nat → Nat → Option (Nat × Nat)
  | 0, _ => none
  | k + 1, s => if okIp x s then some (s, s + 1 + digs x (s + 1)) else ipFrom x k (s + 1)
noncomputable def WonI (s e : Nat) (m : M) : Prop := m.outcome = some .matched ∧ m.start = s ∧ m.handed = e ∧ m.lastindex = -1
theorem some_lt {c : Nat} (hx : x[pos]? = some c) : pos < x.size := by
  apply Nat.lt_of_not_le; intro h; rw [Array.getElem?_eq_none h] at hx; cases hx
theorem atEnd_dig {q : Nat} (hq : q < x.size) (h : isDigit (x.getD q 0) = true) : atEnd x q = false := by
  unfold atEnd
  have h1 : (q == x.size) = false := by simp; omega
  have h2 : (x.getD q 0 == 10) = false := by
    cases e : (x.getD q 0 == 10) with
    | false => rfl
    | true => rw [beq_iff_eq.mp e] at h; exact absurd h (by decide)
  rw [h1, h2]; simp
theorem down {R : M → Prop} {k p : Nat} (hw : wt ≤ 100) (h1 : 1 ≤ wt) (next : ∀ pc pos hd om sn, Gets (IS x st pc pos hd om fr (wt - 1) (some false) sn) R k) : ∀ (c : Nat) (pc pos hd : Nat) (om om' : Bool) (sn : Seen), (∀ r, p ≤ r → r < p + c → atEnd x r = false) →
    Gets (IS x st pc pos hd om (gbI (p + c) (c + 1 : Nat) om' :: fr) wt (some false) sn) R (k + 2 * c + 1)
  | 0, _, _, _, _, _, _, _ => Gets.eq rfl (gbI_last (by omega)) (next _ _ _ _ _)
  | c + 1, _, _, _, _, _, _, hx => by
    refine Gets.mono (k := k + 2 * c + 1 + 1 + 1) ?_ (by omega)
    refine Gets.eq rfl (gbI_more (by omega) hw) ?_
    have e1 : p + (c + 1) - 1 = p + c := by omega
    have e2 : (((c + 1 + 1 : Nat) : Int) - 1) = ((c + 1 : Nat) : Int) := by omega
    have e3 : wt - 1 + 1 = wt := by omega
    rw [e1, e2, e3]
    refine Gets.eq rfl (at_no (hx _ (by omega) (by omega))) ?_
    exact down hw h1 next c _ _ _ _ _ _ fun r h1 h2 => hx r h1 (by omega)
theorem ok_step {k s : Nat} {om : Bool} (hsz : x.size ≤ 1048576) (h : okIp x s) : Gets (IS x s 9 s hd om [ns s om] 1 none sn) (WonI s (s + 1 + digs x (s + 1))) (k + 7) := by
  obtain ⟨hd0, hn, he⟩ := h
  refine Gets.mono (k := 0 + 1 + 1 + 1 + 1 + 1 + 1 + 1) ?_ (by omega)
  refine Gets.eq rfl (dot_yes hd0) ?_
  have hp : s + 1 < x.size := by
    apply Nat.lt_of_not_le; intro hle
    have : x.size - (s + 1) = 0 := by omega
    unfold digs at hn; rw [this] at hn; unfold cntP at hn; omega
  obtain ⟨sn', e'⟩ := rep11_yes (x := x) (st := s) (hd := hd) (om := om) (fr := [ns s om]) (wt := 1) (sn := sn.add 16) hp hsz (by decide) rfl hn
  refine Gets.eq rfl e' ?_
  refine Gets.eq rfl (at_yes he) ?_
  refine Gets.eq rfl succ23 ?_
  refine Gets.eq rfl gbI_true ?_
  refine Gets.eq rfl ns_true ?_
  refine Gets.eq rfl endI_true ?_
  exact Gets.here ⟨rfl, rfl, rfl, rfl⟩ _
theorem no_step {R : M → Prop} {k s : Nat} {om : Bool} (hsz : x.size ≤ 1048576) (h : ¬ okIp x s) (next : ∀ pc pos hd om' sn, Gets (IS x s pc pos hd om' [ns s om] 1 (some false) sn) R k) :
    Gets (IS x s 9 s hd om [ns s om] 1 none sn) R (k + 2 * x.size + 5) := by
  by_cases hd0 : x[s]? = some 46
  · by_cases hn : 1 ≤ digs x (s + 1)
    · have he : atEnd x (s + 1 + digs x (s + 1)) = false := by
        cases q : atEnd x (s + 1 + digs x (s + 1)) with
        | false => rfl
        | true => exact absurd ⟨hd0, hn, q⟩ h
      have hp : s + 1 < x.size := by
        apply Nat.lt_of_not_le; intro hle
        have : x.size - (s + 1) = 0 := by omega
        unfold digs at hn; rw [this] at hn; unfold cntP at hn; omega
      obtain ⟨sn', e'⟩ := rep11_yes (x := x) (st := s) (hd := hd) (om := om) (fr := [ns s om]) (wt := 1) (sn := sn.add 16) hp hsz (by decide) rfl hn
      have hle : digs x (s + 1) ≤ x.size - (s + 1) := cntP_le _ _ _ _
      refine Gets.mono (k := k + 2 * (digs x (s + 1) - 1) + 1 + 1 + 1 + 1) ?_ (by omega)
      refine Gets.eq rfl (dot_yes hd0) ?_
      refine Gets.eq rfl e' ?_
      refine Gets.eq rfl (at_no he) ?_
      have e1 : s + 1 + cntP isDigit x (x.size - (s + 1)) (s + 1) = s + 1 + 1 + (digs x (s + 1) - 1) := by unfold digs at hn ⊢; omega
      have e2 : ((cntP isDigit x (x.size - (s + 1)) (s + 1) : Nat) : Int) = ((digs x (s + 1) - 1 + 1 : Nat) : Int) := by unfold digs at hn ⊢; omega
      rw [e1, e2]
      refine down (wt := 1 + 1) (p := s + 1 + 1) (by decide) (by decide) next (digs x (s + 1) - 1) _ _ _ _ _ _ fun r h1 h2 => ?_
      have hr : r < s + 1 + cntP isDigit x (x.size - (s + 1)) (s + 1) := by unfold digs at h2 hn; omega
      exact atEnd_dig (by unfold digs at hle; omega) (cntP_in (n := x.size - (s + 1)) (p := s + 1) (by omega) hr)
    · refine Gets.mono (k := k + 1 + 1) ?_ (by omega)
      refine Gets.eq rfl (dot_yes hd0) ?_
      obtain ⟨sn', e'⟩ := rep11_no (x := x) (st := s) (hd := hd) (om := om) (fr := [ns s om]) (wt := 1) (sn := sn.add 16) (pos := s + 1) hsz (by unfold digs at hn; omega)
      exact Gets.eq rfl e' (next _ _ _ _ _)
  · exact Gets.mono (k := k + 1) (Gets.eq rfl (dot_no hd0) (next _ _ _ _ _)) (by omega)
theorem starts (hsz : x.size ≤ 1048576) : ∀ (k s : Nat) (om : Bool) (hd : Nat) (sn : Seen), s + k = x.size → Gets (IS x s 9 s hd om [ns s om] 1 none sn) (match ipFrom x (k + 1) s with | some (b, e) => WonI b e | none => Lost) ((2 * x.size + 8) * (k + 1))
  | 0, s, om, hd, sn, hk => by
    unfold ipFrom
    by_cases h : okIp x s
    · rw [if_pos h]; exact Gets.mono (ok_step (k := 0) hsz h) (by omega)
    · rw [if_neg h]
      show Gets _ Lost _
      refine Gets.mono (k := 0 + 1 + 1 + 2 * x.size + 5) (no_step hsz h fun pc pos hd om' sn => ?_) (by omega)
      refine Gets.eq rfl (ns_last (by omega)) ?_
      refine Gets.eq rfl endI_false ?_
      exact Gets.here (P := Lost) (Lost.of rfl) _
  | k + 1, s, om, hd, sn, hk => by
    unfold ipFrom
    by_cases h : okIp x s
    · rw [if_pos h]; exact Gets.mono (ok_step (k := 0) hsz h) (by rw [Nat.mul_add]; omega)
    · rw [if_neg h]
      refine Gets.mono (k := (2 * x.size + 8) * (k + 1) + 1 + 2 * x.size + 5) (no_step hsz h fun pc pos hd om' sn => ?_) (by rw [Nat.mul_add _ (k + 1) 1]; omega)
      refine Gets.eq rfl (ns_more (by omega) (by decide)) ?_
      exact starts hsz k (s + 1) false _ _ (by omega)
noncomputable def ipSpecF (x : Array Nat) : Option (Nat × Nat) := if x.size < 2 then none else ipFrom x (x.size + 1) 0
theorem ip_runs (hsz : x.size ≤ 1048576) : Gets (Sre.forSearch ipCode x 0 0 x.size false) (match ipSpecF x with | some (b, e) => WonI b e | none => Lost) (2 ^ 60) := by
  unfold ipSpecF
  by_cases h2 : x.size < 2
  · rw [if_pos h2]
    have e : Sre.forSearch ipCode x 0 0 x.size false = M.say { IS x 0 9 0 0 true [] 0 none (({} : Seen).add 14) with lastStart := 0 } false := by
      show (if (decide (0 > x.size) || decide (x.size - 0 < 2)) = true then M.say { IS x 0 9 0 0 true [] 0 none (({} : Seen).add 14) with lastStart := 0 } false else _) = _
      rw [if_pos (by simp [h2])]
    rw [e]
    refine Gets.mono (k := 0 + 1) (Gets.step rfl (Gets.here (P := Lost) (Lost.of rfl) 0)) (by decide)
  · rw [if_neg h2]
    have e : Sre.forSearch ipCode x 0 0 x.size false = IS x 0 9 0 0 true [ns 0 true] 1 none (({} : Seen).add 14) := by
      show (if (decide (0 > x.size) || decide (x.size - 0 < 2)) = true then _ else IS x 0 9 0 0 true [ns 0 true] 1 none (({} : Seen).add 14)) = _
      rw [if_neg (by simp; omega)]
    rw [e]
    refine Gets.mono (starts hsz x.size 0 true 0 _ (by omega)) ?_
    have h1 : 2 * x.size + 8 ≤ 2097160 := by omega
    have h2 : x.size + 1 ≤ 1048577 := by omega
    have := Nat.mul_le_mul h1 h2
    omega
end
end Mine
end
section
open PySem PySem.W PyProof.Rows PySem.Calls
set_option maxRecDepth 100000
namespace Mine
theorem own_re_Pattern : Manifest.owners.lookup (String.ofList ['n', 'r', 'e', 't', 't', 'a', 'P', '.', 'e', 'r'].reverse) = some Manifest.sig_re_Pattern := by kernel_rfl
theorem plain_re_Pattern : PlainAttrs "re.Pattern" :=
  ⟨⟨"object.__getattribute__", by rw [typeLookup_type, builtinLookup_eq_fast]; kernel_rfl, by decide +kernel⟩, by rw [typeLookup_type, builtinLookup_eq_fast]; kernel_rfl⟩
theorem slot_re_Pattern_search : Slot "re.Pattern" "search" "re.Pattern.search" :=
  .of (owner := "re.Pattern") (n := "search") (by rw [typeLookup_type, builtinLookup_eq_fast]; kernel_rfl) (by decide +kernel) (by decide +kernel) (by decide +kernel)
    (by first | exact .inl (by decide +kernel) | exact .inr (by decide +kernel)) (by rw [isSubtype_type]; kernel_rfl)
theorem type_re_Pattern_search : typeOf (.builtin "re.Pattern.search") = pure (.type "method_descriptor") := by show builtinType _ = _; rw [builtinType_eq_fast]; kernel_rfl
theorem entry_re_Pattern_search : entryFor table "re.Pattern.search" = some Builtin.«re.Pattern.search» := entryFor_of_tree (by kernel_rfl)
theorem args_re_Pattern_search_2 (a b : Value) : argsOk "re.Pattern.search" ⟨[a, b], []⟩ := by
  unfold argsOk; rw [signature?_of (id := "re.Pattern.search") (n := ['h', 'c', 'r', 'a', 'e', 's']) (o := ['n', 'r', 'e', 't', 't', 'a', 'P', '.', 'e', 'r']) (by kernel_rfl) own_re_Pattern]; kernel_rfl
theorem slot_re_Pattern_match : Slot "re.Pattern" "match" "re.Pattern.match" :=
  .of (owner := "re.Pattern") (n := "match") (by rw [typeLookup_type, builtinLookup_eq_fast]; kernel_rfl) (by decide +kernel) (by decide +kernel) (by decide +kernel)
    (by first | exact .inl (by decide +kernel) | exact .inr (by decide +kernel)) (by rw [isSubtype_type]; kernel_rfl)
theorem type_re_Pattern_match : typeOf (.builtin "re.Pattern.match") = pure (.type "method_descriptor") := by show builtinType _ = _; rw [builtinType_eq_fast]; kernel_rfl
theorem entry_re_Pattern_match : entryFor table "re.Pattern.match" = some Builtin.«re.Pattern.match» := entryFor_of_tree (by kernel_rfl)
theorem args_re_Pattern_match_2 (a b : Value) : argsOk "re.Pattern.match" ⟨[a, b], []⟩ := by
  unfold argsOk; rw [signature?_of (id := "re.Pattern.match") (n := ['h', 'c', 't', 'a', 'm']) (o := ['n', 'r', 'e', 't', 't', 'a', 'P', '.', 'e', 'r']) (by kernel_rfl) own_re_Pattern]; kernel_rfl
theorem own_re_Match : Manifest.owners.lookup (String.ofList ['h', 'c', 't', 'a', 'M', '.', 'e', 'r'].reverse) = some Manifest.sig_re_Match := by kernel_rfl
theorem plain_re_Match : PlainAttrs "re.Match" :=
  ⟨⟨"object.__getattribute__", by rw [typeLookup_type, builtinLookup_eq_fast]; kernel_rfl, by decide +kernel⟩, by rw [typeLookup_type, builtinLookup_eq_fast]; kernel_rfl⟩
theorem slot_re_Match_span : Slot "re.Match" "span" "re.Match.span" :=
  .of (owner := "re.Match") (n := "span") (by rw [typeLookup_type, builtinLookup_eq_fast]; kernel_rfl) (by decide +kernel) (by decide +kernel) (by decide +kernel)
    (by first | exact .inl (by decide +kernel) | exact .inr (by decide +kernel)) (by rw [isSubtype_type]; kernel_rfl)
theorem type_re_Match_span : typeOf (.builtin "re.Match.span") = pure (.type "method_descriptor") := by show builtinType _ = _; rw [builtinType_eq_fast]; kernel_rfl
theorem entry_re_Match_span : entryFor table "re.Match.span" = some Builtin.«re.Match.span» := entryFor_of_tree (by kernel_rfl)
theorem args_re_Match_span_2 (a b : Value) : argsOk "re.Match.span" ⟨[a, b], []⟩ := by
  unfold argsOk; rw [signature?_of (id := "re.Match.span") (n := ['n', 'a', 'p', 's']) (o := ['h', 'c', 't', 'a', 'M', '.', 'e', 'r']) (by kernel_rfl) own_re_Match]; kernel_rfl
theorem slot_re_Match_group : Slot "re.Match" "group" "re.Match.group" :=
  .of (owner := "re.Match") (n := "group") (by rw [typeLookup_type, builtinLookup_eq_fast]; kernel_rfl) (by decide +kernel) (by decide +kernel) (by decide +kernel)
    (by first | exact .inl (by decide +kernel) | exact .inr (by decide +kernel)) (by rw [isSubtype_type]; kernel_rfl)
theorem type_re_Match_group : typeOf (.builtin "re.Match.group") = pure (.type "method_descriptor") := by show builtinType _ = _; rw [builtinType_eq_fast]; kernel_rfl
theorem entry_re_Match_group : entryFor table "re.Match.group" = some Builtin.«re.Match.group» := entryFor_of_tree (by kernel_rfl)
theorem args_re_Match_group_2 (a b : Value) : argsOk "re.Match.group" ⟨[a, b], []⟩ := by
  unfold argsOk; rw [signature?_of (id := "re.Match.group") (n := ['p', 'u', 'o', 'r', 'g']) (o := ['h', 'c', 't', 'a', 'M', '.', 'e', 'r']) (by kernel_rfl) own_re_Match]; kernel_rfl
theorem own_bytes : Manifest.owners.lookup (String.ofList ['s', 'e', 't', 'y', 'b'].reverse) = some Manifest.sig_bytes := by kernel_rfl
theorem plain_bytes : PlainAttrs "bytes" :=
  ⟨⟨"bytes.__getattribute__", by rw [typeLookup_type, builtinLookup_eq_fast]; kernel_rfl, by decide +kernel⟩, by rw [typeLookup_type, builtinLookup_eq_fast]; kernel_rfl⟩
theorem slot_bytes_split : Slot "bytes" "split" "bytes.split" :=
  .of (owner := "bytes") (n := "split") (by rw [typeLookup_type, builtinLookup_eq_fast]; kernel_rfl) (by decide +kernel) (by decide +kernel) (by decide +kernel)
    (by first | exact .inl (by decide +kernel) | exact .inr (by decide +kernel)) (by rw [isSubtype_type]; kernel_rfl)
theorem type_bytes_split : typeOf (.builtin "bytes.split") = pure (.type "method_descriptor") := by show builtinType _ = _; rw [builtinType_eq_fast]; kernel_rfl
theorem entry_bytes_split : entryFor table "bytes.split" = some Builtin.«bytes.split» := entryFor_of_tree (by kernel_rfl)
theorem args_bytes_split_1 (a : Value) : argsOk "bytes.split" ⟨[a], []⟩ := by
  unfold argsOk; rw [signature?_of (id := "bytes.split") (n := ['t', 'i', 'l', 'p', 's']) (o := ['s', 'e', 't', 'y', 'b']) (by kernel_rfl) own_bytes]; kernel_rfl
theorem slot_bytes_decode : Slot "bytes" "decode" "bytes.decode" :=
  .of (owner := "bytes") (n := "decode") (by rw [typeLookup_type, builtinLookup_eq_fast]; kernel_rfl) (by decide +kernel) (by decide +kernel) (by decide +kernel)
    (by first | exact .inl (by decide +kernel) | exact .inr (by decide +kernel)) (by rw [isSubtype_type]; kernel_rfl)
theorem type_bytes_decode : typeOf (.builtin "bytes.decode") = pure (.type "method_descriptor") := by show builtinType _ = _; rw [builtinType_eq_fast]; kernel_rfl
theorem entry_bytes_decode : entryFor table "bytes.decode" = some Builtin.«bytes.decode» := entryFor_of_tree (by kernel_rfl)
theorem args_bytes_decode_2 (a b : Value) : argsOk "bytes.decode" ⟨[a, b], []⟩ := by
  unfold argsOk; rw [signature?_of (id := "bytes.decode") (n := ['e', 'd', 'o', 'c', 'e', 'd']) (o := ['s', 'e', 't', 'y', 'b']) (by kernel_rfl) own_bytes]; kernel_rfl
theorem own_str : Manifest.owners.lookup (String.ofList ['r', 't', 's'].reverse) = some Manifest.sig_str := by kernel_rfl
theorem slot_str_find : Slot "str" "find" "str.find" :=
  .of (owner := "str") (n := "find") (by rw [typeLookup_type, builtinLookup_eq_fast]; kernel_rfl) (by decide +kernel) (by decide +kernel) (by decide +kernel)
    (by first | exact .inl (by decide +kernel) | exact .inr (by decide +kernel)) (by rw [isSubtype_type]; kernel_rfl)
theorem type_str_find : typeOf (.builtin "str.find") = pure (.type "method_descriptor") := by show builtinType _ = _; rw [builtinType_eq_fast]; kernel_rfl
theorem entry_str_find : entryFor table "str.find" = some Builtin.«str.find» := entryFor_of_tree (by kernel_rfl)
theorem args_str_find_4 (a b c d : Value) : argsOk "str.find" ⟨[a, b, c, d], []⟩ := by
  unfold argsOk; rw [signature?_of (id := "str.find") (n := ['d', 'n', 'i', 'f']) (o := ['r', 't', 's']) (by kernel_rfl) own_str]; kernel_rfl
theorem slot_str_rfind : Slot "str" "rfind" "str.rfind" :=
  .of (owner := "str") (n := "rfind") (by rw [typeLookup_type, builtinLookup_eq_fast]; kernel_rfl) (by decide +kernel) (by decide +kernel) (by decide +kernel)
    (by first | exact .inl (by decide +kernel) | exact .inr (by decide +kernel)) (by rw [isSubtype_type]; kernel_rfl)
theorem type_str_rfind : typeOf (.builtin "str.rfind") = pure (.type "method_descriptor") := by show builtinType _ = _; rw [builtinType_eq_fast]; kernel_rfl
theorem entry_str_rfind : entryFor table "str.rfind" = some Builtin.«str.rfind» := entryFor_of_tree (by kernel_rfl)
theorem args_str_rfind_4 (a b c d : Value) : argsOk "str.rfind" ⟨[a, b, c, d], []⟩ := by
  unfold argsOk; rw [signature?_of (id := "str.rfind") (n := ['d', 'n', 'i', 'f', 'r']) (o := ['r', 't', 's']) (by kernel_rfl) own_str]; kernel_rfl
end Mine
end
section
open PySem PySem.W PyProof.Rows PySem.Calls PySem.Builtin.Re
set_option maxRecDepth 100000
set_option maxHeartbeats 400000000
namespace Mine
theorem runFor_add (a b : Nat) : ∀ m : Sre.M, Sre.M.runFor (a + b) m = Sre.M.runFor b (Sre.M.runFor a m) := by
  induction a with
  | zero => intro m; simp [Sre.M.runFor]
  | succ a ih =>
    intro m
    rw [Nat.succ_add]
    show (if m.outcome.isSome then m else Sre.M.runFor (a + b) m.step) = Sre.M.runFor b (if m.outcome.isSome then m else Sre.M.runFor a m.step)
    by_cases h : m.outcome.isSome = true
    · rw [if_pos h, if_pos h]
      cases b with
      | zero => rfl
      | succ b => show m = if m.outcome.isSome then m else _; rw [if_pos h]
    · rw [if_neg h, if_neg h]; exact ih _
theorem runFor_done (n : Nat) {m : Sre.M} (h : m.outcome.isSome = true) : Sre.M.runFor n m = m := by
  cases n with
  | zero => rfl
  | succ n => show (if m.outcome.isSome then m else _) = m; rw [if_pos h]
section
variable {M : Model} {A : Around} {E : Value → Shared → Prop} {s : Shared}
theorem wp_drive {Q : Sre.M → Shared → Prop} {m' : Sre.M} (ho : m'.outcome.isSome = true) (h : Q m' s) : ∀ (turns k : Nat) (m : Sre.M), Sre.M.runFor k m = m' → k ≤ 4 * turns → 0 < turns → wpAny M A (reDrive turns m) Q E s
  | 0, _, _, _, _, h0 => absurd h0 (Nat.lt_irrefl _)
  | turns + 1, k, m, hk, hle, _ => by
    show wpAny M A (let m := m.runFor reTurnSteps; if m.outcome.isSome then pure m else do rule "sre.turn"; reDrive turns m) Q E s
    dsimp only
    by_cases hs : (m.runFor reTurnSteps).outcome.isSome = true
    · rw [if_pos hs]
      have : m.runFor reTurnSteps = m' := by
        by_cases hk4 : k ≤ 4
        · obtain ⟨d, hd⟩ := Nat.exists_eq_add_of_le hk4
          show m.runFor 4 = m'
          rw [hd, runFor_add, hk, runFor_done _ ho]
        · obtain ⟨d, hd⟩ := Nat.exists_eq_add_of_le (Nat.le_of_not_le hk4)
          rw [hd, runFor_add] at hk
          rw [← hk]
          exact (runFor_done d hs).symm
      rw [this]
      exact wpAny_pure h
    · rw [if_neg hs]
      have hk4 : 4 ≤ k := by
        apply Nat.le_of_not_lt
        intro hlt
        apply hs
        obtain ⟨d, hd⟩ := Nat.exists_eq_add_of_le (Nat.le_of_lt hlt)
        show (m.runFor 4).outcome.isSome = true
        rw [hd, runFor_add, hk, runFor_done _ ho]; exact ho
      obtain ⟨d, hd⟩ := Nat.exists_eq_add_of_le hk4
      have ht : 0 < turns := by
        rcases Nat.eq_zero_or_pos turns with h0 | h0
        · subst h0
          exfalso
          have : k = 4 := by omega
          apply hs
          show (m.runFor 4).outcome.isSome = true
          rw [← this, hk]; exact ho
        · exact h0
      refine wpAny_bind (wpAny_rule ?_)
      exact wp_drive ho h turns d _ (by rw [← hk, hd, runFor_add]; rfl) (by omega) ht
theorem wp_forIn_unit {Q : PUnit → Shared → Prop} {f : Nat → PUnit → Sem (ForInStep PUnit)} (hf : ∀ i (s : Shared) (Q : ForInStep PUnit → Shared → Prop), Q (.yield PUnit.unit) s → wpAny M A (f i PUnit.unit) Q E s) (h : Q PUnit.unit s) : ∀ l : List Nat,
    wpAny M A (forIn l PUnit.unit f) Q E s
  | [] => wpAny_pure h
  | i :: l => by
    rw [List.forIn_cons]
    exact wpAny_bind (hf i s _ (wp_forIn_unit hf h l))
theorem wp_runToEnd {Q : Option Sre.M → Shared → Prop} {m m' : Sre.M} {k : Nat} (hk : Sre.M.runFor k m = m') (hle : k ≤ 2 ^ 60)
    (h : (m'.outcome = some .matched ∧ Q (some m') s) ∨ (m'.outcome = some .failed ∧ Q none s)) : wpAny M A (reRunToEnd m) Q E s := by
  unfold reRunToEnd
  refine wpAny_bind ?_
  refine wp_drive (m' := m') (by rcases h with h | h <;> rw [h.1] <;> rfl) ?_ _ k m hk (Nat.le_trans hle (by decide)) (by decide)
  refine wpAny_bind (wp_forIn_unit (fun i s Q hq => by (try dsimp only); split <;> first | exact wpAny_bind (wpAny_rule (wpAny_pure hq)) | exact wpAny_pure hq) ?_ _)
  rcases h with h | h
  · rw [h.1]; exact wpAny_pure h.2
  · rw [h.1]; exact wpAny_pure h.2
end
end Mine
end
section
open PySem PySem.W PyProof.Rows PySem.Calls PySem.Builtin.Re
set_option maxRecDepth 100000
set_option maxHeartbeats 400000000
namespace Mine
noncomputable abbrev recOf (cls : String) (vs : Array Value) : Obj := { cls := .type cls, data := .fields vs }
noncomputable abbrev tupOf (vs : Array Value) : Obj := { cls := .type "tuple", data := .seq vs }
noncomputable abbrev ipCodeV : Array Value := #[.int 14 0, .int 8 0, .int 1 0, .int 2 0, .int 4294967295 0, .int 1 0, .int 1 0, .int 46 0, .int 0 0, .int 16 0, .int 46 0, .int 24 0, .int 9 0, .int 1 0, .int 4294967295 0, .int 13 0, .int 4 0, .int 8 0, .int 0 0, .int 0 0, .int 1 0, .int 6 0, .int 5 0, .int 1 0]
noncomputable abbrev flCodeV : Array Value := #[.int 14 0, .int 4 0, .int 0 0, .int 8 0, .int 4294967295 0, .int 24 0, .int 5 0, .int 0 0, .int 4294967295 0, .int 2 0, .int 1 0, .int 16 0,
        .int 70 0, .int 16 0, .int 76 0, .int 16 0, .int 65 0, .int 16 0, .int 71 0, .int 16 0, .int 83 0, .int 16 0, .int 32 0, .int 16 0, .int 40 0, .int 17 0,
        .int 0 0, .int 24 0, .int 6 0, .int 0 0, .int 4294967295 0, .int 20 0, .int 41 0, .int 1 0, .int 17 0, .int 1 0, .int 16 0, .int 41 0, .int 1 0]
noncomputable abbrev ipPat : Obj := recOf "re.Pattern" #[.str (Str.ofString "\\.\\d+$") 414, .int 256 441, .int 0 0, .none, .none, .ref 93, .int 0 0]
noncomputable abbrev flPat : Obj := recOf "re.Pattern" #[.bytes #[46, 42, 70, 76, 65, 71, 83, 32, 92, 40, 40, 63, 80, 60, 102, 108, 97, 103, 115, 62, 91, 94, 92, 41, 93, 42, 41, 92, 41] 285, .int 0 331, .int 1 0, .ref 33, .ref 34, .ref 35, .int 1 0]
theorem named3 (id f : String) (v : Value) : reNamed id f ["string", "pos", "endpos"] 1 [v] [] = pure [some v, none, none] := by
  with_unfolding_all rfl
noncomputable abbrev matchOf (string pattern : Value) (lim : Nat) (last : Int) (tp : Addr) : Obj := recOf "re.Match" #[string, pattern, .int 0 0, .int lim 0, .int last 0, .ref tp]
section
variable {prog : Program} {w : World} {A : Around} {E : Value → Shared → Prop} {s : Shared}
theorem search_call {x : Str} {t : Tok} {Q : Value → Shared → Prop} {m' : Sre.M} {k : Nat} (h94 : s.heap.get? 94 = some ipPat) (h93 : s.heap.get? 93 = some (tupOf ipCodeV))
    (hk : Sre.M.runFor k (Sre.forSearch ipCode x.cps 0 0 x.cps.size false) = m') (hle : k ≤ 2 ^ 60) (hlen : x.cps.size ≤ 1048576)
    (h : (m'.outcome = some .failed ∧ Q .none s) ∨ (m'.outcome = some .matched ∧
      Q (.ref (s.heap.objs.size + 1)) { s with heap := (s.heap.push (tupOf #[.int m'.start 0, .int m'.handed 0])).push (matchOf (.str x t) (.ref 94) x.cps.size m'.lastindex s.heap.objs.size) })) :
    wpAny (model prog w) A (call (.builtin "re.Pattern.search") [.ref 94, .str x t]) Q E s := by
  refine wpAny_call_entry slot_re_Pattern_search ⟨_, h94, rfl⟩ entry_re_Pattern_search ?_ (args_re_Pattern_search_2 _ _)
  unfold Builtin.«re.Pattern.search»
  refine wpAny_bind ?_
  unfold reTarget
  dsimp only
  refine wpAny_bind ?_
  rw [named3]
  refine wpAny_pure ?_
  dsimp only
  refine wpAny_bind (wpAny_pure (wpAny_bind (wpAny_pure (wpAny_bind (wpAny_fieldsOf h94 rfl (wpAny_bind ?_))))))
  show wpAny _ _ (pure (x.cps, 0)) _ _ _
  refine wpAny_pure ?_
  show wpAny _ _ ((pure () : Sem Unit) >>= fun _ => (reRawItems (.ref 93)) >>= fun d => pure (⟨.ref 94, .str x t, d.map (·.toNat), x.cps, 0, 0, 0, min (2 ^ 63 - 1) x.cps.size⟩ : ReTarget)) _ _ _
  refine wpAny_bind (wpAny_pure (wpAny_bind ?_))
  unfold reRawItems
  refine wpAny_bind (wpAny_seqItems h93 rfl (wpAny_pure (wpAny_pure ?_)))
  have hm : min (2 ^ 63 - 1) x.cps.size = x.cps.size := by omega
  rw [hm]
  have hc : (Array.map reRawOf ((some ipCodeV).getD #[])).map (·.toNat) = ipCode := by decide +kernel
  rw [hc]
  dsimp only
  unfold reAnswer
  refine wpAny_bind (wp_runToEnd hk hle ?_)
  rcases h with ⟨ho, hq⟩ | ⟨ho, hq⟩
  · exact .inr ⟨ho, wpAny_pure ⟨_, rfl, hq⟩⟩
  · refine .inl ⟨ho, ?_⟩
    show wpAny _ _ (reNewMatch (.ref 94) (.str x t) 0 0 x.cps.size m' >>= fun v => ret v) _ _ _
    refine wpAny_bind ?_
    show wpAny _ _ (newTuple [rawInt m'.start, rawInt m'.handed] >>= fun tp => newFields "re.Match" [.str x t, .ref 94, rawInt 0, rawInt x.cps.size, rawInt m'.lastindex, tp]) _ _ _
    refine wpAny_bind (wpAny_newObj_type (wpAny_newObj_type (wpAny_pure ⟨_, rfl, ?_⟩)))
    rw [Heap.size_push]
    exact hq
theorem match_call {x : Array UInt8} {t : Tok} {Q : Value → Shared → Prop} {m' : Sre.M} {k : Nat} (h36 : s.heap.get? 36 = some flPat) (h35 : s.heap.get? 35 = some (tupOf flCodeV))
    (hk : Sre.M.runFor k (Sre.forMatch flCode (x.map (·.toNat)) 1 0 x.size false false) = m') (hle : k ≤ 2 ^ 60) (hlen : x.size ≤ 1048576)
    (h : (m'.outcome = some .failed ∧ Q .none s) ∨ (m'.outcome = some .matched ∧ ∃ b e : Nat, b ≤ e ∧ m'.lastmark = 1 ∧ m'.marks.getD 0 none = some b ∧ m'.marks.getD 1 none = some e ∧
      Q (.ref (s.heap.objs.size + 1)) { s with heap := (s.heap.push (tupOf #[.int m'.start 0, .int m'.handed 0, .int b 0, .int e 0])).push (matchOf (.bytes x t) (.ref 36) x.size m'.lastindex s.heap.objs.size) })) :
    wpAny (model prog w) A (call (.builtin "re.Pattern.match") [.ref 36, .bytes x t]) Q E s := by
  refine wpAny_call_entry slot_re_Pattern_match ⟨_, h36, rfl⟩ entry_re_Pattern_match ?_ (args_re_Pattern_match_2 _ _)
  unfold Builtin.«re.Pattern.match»
  refine wpAny_bind ?_
  unfold reTarget
  dsimp only
  refine wpAny_bind ?_
  rw [named3]
  refine wpAny_pure ?_
  dsimp only
  refine wpAny_bind (wpAny_pure (wpAny_bind (wpAny_pure (wpAny_bind (wpAny_fieldsOf h36 rfl (wpAny_bind ?_))))))
  have htext : reTextOf (.bytes x t) = pure (x.map (·.toNat), 1) := by
    unfold reTextOf Builtin.Bytes.bufferQuiet?
    rw [PySem.W.KBy.buffer_eq]
    rfl
  rw [htext]
  refine wpAny_pure ?_
  have hno : reNoCollectionInside (.bytes x t) 1 = pure () := by with_unfolding_all rfl
  show wpAny _ _ (reNoCollectionInside (.bytes x t) 1 >>= fun _ => (reRawItems (.ref 35)) >>= fun d => pure (⟨.ref 36, .bytes x t, d.map (·.toNat), x.map (·.toNat), 1, 1, 0, min (2 ^ 63 - 1) (x.map (·.toNat)).size⟩ : ReTarget)) _ _ _
  rw [hno]
  refine wpAny_bind (wpAny_pure (wpAny_bind ?_))
  unfold reRawItems
  refine wpAny_bind (wpAny_seqItems h35 rfl (wpAny_pure (wpAny_pure ?_)))
  have hm : min (2 ^ 63 - 1) (x.map (·.toNat)).size = x.size := by rw [Array.size_map]; omega
  rw [hm]
  have hc : (Array.map reRawOf ((some flCodeV).getD #[])).map (·.toNat) = flCode := by decide +kernel
  rw [hc]
  dsimp only
  unfold reAnswer
  refine wpAny_bind (wp_runToEnd hk hle ?_)
  rcases h with ⟨ho, hq⟩ | ⟨ho, b, e, hbe, hl, h0, h1, hq⟩
  · exact .inr ⟨ho, wpAny_pure ⟨_, rfl, hq⟩⟩
  · refine .inl ⟨ho, ?_⟩
    show wpAny _ _ (reNewMatch (.ref 36) (.bytes x t) 1 0 x.size m' >>= fun v => ret v) _ _ _
    refine wpAny_bind ?_
    unfold reNewMatch
    have hr : List.range 1 = [0] := rfl
    have hneg : ¬ e < b := by omega
    have hle1 : (((1 : Nat) : Int) ≤ 1) := by decide
    simp only [hr, List.flatMap_cons, List.flatMap_nil, List.any_cons, List.any_nil, Nat.mul_zero, Nat.zero_add, hl, h0, h1, List.append_nil, hneg, decide_false, Bool.and_false, Bool.or_false, if_pos hle1]
    show wpAny _ _ (newTuple [rawInt m'.start, rawInt m'.handed, rawInt b, rawInt e] >>= fun tp => newFields "re.Match" [.bytes x t, .ref 36, rawInt 0, rawInt x.size, rawInt m'.lastindex, tp]) _ _ _
    refine wpAny_bind (wpAny_newObj_type (wpAny_newObj_type (wpAny_pure ⟨_, rfl, ?_⟩)))
    rw [Heap.size_push]
    exact hq
end
end Mine
end
section
open PySem PySem.W PyProof.Rows PySem.Calls PySem.Builtin.Re
set_option maxRecDepth 100000
set_option maxHeartbeats 400000000
namespace Mine
theorem noBool_match : typeLookup (.type "re.Match") "__bool__" = pure none := by rw [typeLookup_type, builtinLookup_eq_fast]; kernel_rfl
theorem noLen_match : typeLookup (.type "re.Match") "__len__" = pure none := by rw [typeLookup_type, builtinLookup_eq_fast]; kernel_rfl
theorem noIndex_str : typeLookup (.type "str") "__index__" = pure none := by rw [typeLookup_type, builtinLookup_eq_fast]; kernel_rfl
section
variable {prog : Program} {w : World} {A : Around} {E : Value → Shared → Prop} {s : Shared}
theorem truthy_match {mo : Addr} {o : Obj} {Q : Bool → Shared → Prop} (h : s.heap.get? mo = some o) (hc : o.cls = .type "re.Match") (hq : Q true s) : wpAny (model prog w) A (truthy (.ref mo)) Q E s := by
  have hT : s.TypeIs (.ref mo) "re.Match" := ⟨_, h, hc⟩
  unfold truthy
  first
    | refine wpAny_bind (wpAny_callSpecial?_none (name := Str.ofString "__bool__") hT noBool_match ?_)
    | refine wpAny_bind (wpAny_pure (wpAny_bind (wpAny_callSpecial?_none (name := Str.ofString "__bool__") hT noBool_match ?_)))
  first
    | refine wpAny_bind (wpAny_specialOf (name := Str.ofString "__len__") hT noLen_match ?_)
    | refine wpAny_bind (wpAny_pure (wpAny_bind (wpAny_specialOf (name := Str.ofString "__len__") hT noLen_match ?_)))
  exact wpAny_pure hq
theorem get_search {pl : Sem Bool} {Q : Value × List Value → Shared → Prop} (h94 : s.heap.get? 94 = some ipPat) (h : Q (.builtin "re.Pattern.search", [.ref 94]) s) : wpAny (model prog w) A (getMethod (.ref 94) "search" pl) Q E s :=
  getMethod_builtin ⟨_, h94, rfl⟩ plain_re_Pattern slot_re_Pattern_search type_re_Pattern_search (fun a e => by cases e; exact ⟨_, h94, rfl⟩) h
theorem get_match {pl : Sem Bool} {Q : Value × List Value → Shared → Prop} (h36 : s.heap.get? 36 = some flPat) (h : Q (.builtin "re.Pattern.match", [.ref 36]) s) : wpAny (model prog w) A (getMethod (.ref 36) "match" pl) Q E s :=
  getMethod_builtin ⟨_, h36, rfl⟩ plain_re_Pattern slot_re_Pattern_match type_re_Pattern_match (fun a e => by cases e; exact ⟨_, h36, rfl⟩) h
theorem get_span {mo : Addr} {vs : Array Value} {pl : Sem Bool} {Q : Value × List Value → Shared → Prop} (hm : s.heap.get? mo = some (recOf "re.Match" vs)) (h : Q (.builtin "re.Match.span", [.ref mo]) s) : wpAny (model prog w) A (getMethod (.ref mo) "span" pl) Q E s :=
  getMethod_builtin ⟨_, hm, rfl⟩ plain_re_Match slot_re_Match_span type_re_Match_span (fun a e => by cases e; exact ⟨_, hm, rfl⟩) h
theorem get_group {mo : Addr} {vs : Array Value} {pl : Sem Bool} {Q : Value × List Value → Shared → Prop} (hm : s.heap.get? mo = some (recOf "re.Match" vs)) (h : Q (.builtin "re.Match.group", [.ref mo]) s) : wpAny (model prog w) A (getMethod (.ref mo) "group" pl) Q E s :=
  getMethod_builtin ⟨_, hm, rfl⟩ plain_re_Match slot_re_Match_group type_re_Match_group (fun a e => by cases e; exact ⟨_, hm, rfl⟩) h
theorem span_call {mo tp : Addr} {v p : Value} {lim : Nat} {last : Int} {b e : Nat} {t : Tok} {Q : Value → Shared → Prop} (hm : s.heap.get? mo = some (matchOf v p lim last tp)) (ht : s.heap.get? tp = some (tupOf #[.int b 0, .int e 0]))
    (h : Q (.ref s.heap.objs.size) { s with heap := s.heap.push (tupOf #[.int b s.toks, .int e (s.toks + 1)]), toks := s.toks + 1 + 1 }) :
    wpAny (model prog w) A (call (.builtin "re.Match.span") [.ref mo, .int 0 t]) Q E s := by
  refine wpAny_call_entry slot_re_Match_span ⟨_, hm, rfl⟩ entry_re_Match_span ?_ (args_re_Match_span_2 _ _)
  unfold Builtin.«re.Match.span» reOneGroup
  refine wpAny_bind (wpAny_bind ?_)
  show wpAny _ _ (pure (Value.ref mo, [Value.int 0 t])) _ _ _
  refine wpAny_pure ?_
  dsimp only
  unfold reFound
  refine wpAny_bind (wpAny_bind (wpAny_fieldsOf hm rfl ?_))
  unfold reRawItems
  refine wpAny_bind (wpAny_bind (wpAny_seqItems ht rfl (wpAny_pure ?_)))
  rw [show Array.map reRawOf ((some #[Value.int b 0, Value.int e 0]).getD #[]) = #[(b : Int), (e : Int)] from by simp [reRawOf]]
  refine wpAny_pure ?_
  refine wpAny_bind ?_
  have e0 : ∀ X : ReFound, X.spans.size = 2 → reGroupNumber X (.int 0 t) = pure 0 := by
    intro X hX
    have e1 : reGroupNumber X (.int 0 t) = (if ((0 : Int) < 0 || 2 * (0 : Int) ≥ X.spans.size) = true then (do rule "re.Match.no-such-group"; let _ ← (raiseError "IndexError" "no such group" : Sem Unit); pure (0 : Int).toNat) else pure (0 : Int).toNat) := by with_unfolding_all rfl
    rw [e1, hX]; rfl
  rw [e0 _ (by simp)]
  refine wpAny_pure (wpAny_pure ?_)
  exact wpAny_bind (wpAny_mkInt (wpAny_bind (wpAny_mkInt (wpAny_bind (wpAny_newObj_type (wpAny_pure ⟨_, rfl, h⟩))))))
/-- the group a name says: the dict of names is the pattern's -/
theorem group_call {mo tp : Addr} {v : Array UInt8} {vt : Tok} {lim : Nat} {last : Int} {m0 m1 b e : Nat} {t : Tok} {Q : Value → Shared → Prop} (hm : s.heap.get? mo = some (matchOf (.bytes v vt) (.ref 36) lim last tp)) (ht : s.heap.get? tp = some (tupOf #[.int m0 0, .int m1 0, .int b 0, .int e 0]))
    (h36 : s.heap.get? 36 = some flPat) (h33 : s.heap.get? 33 = some { cls := .type "dict", data := .dict #[⟨PyData.keyHash w.params (Str.ofString "flags"), .str (Str.ofString "flags") 327, .int 1 328⟩] 1 })
    (hsz : (v.extract b e).size ≤ 16777216)
    (h : ∀ tk', Q (.bytes (v.extract b e) tk') { s with toks := tk' + 1 }) :
    wpAny (model prog w) A (call (.builtin "re.Match.group") [.ref mo, .str (Str.ofString "flags") t]) Q E s := by
  refine wpAny_call_entry slot_re_Match_group ⟨_, hm, rfl⟩ entry_re_Match_group ?_ (args_re_Match_group_2 _ _)
  unfold Builtin.«re.Match.group»
  refine wpAny_bind ?_
  show wpAny _ _ (pure ()) _ _ _
  refine wpAny_pure ?_
  dsimp only
  unfold reFound
  refine wpAny_bind (wpAny_bind (wpAny_fieldsOf hm rfl ?_))
  unfold reRawItems
  refine wpAny_bind (wpAny_bind (wpAny_seqItems ht rfl (wpAny_pure ?_)))
  rw [show Array.map reRawOf ((some #[Value.int m0 0, Value.int m1 0, Value.int b 0, Value.int e 0]).getD #[]) = #[(m0 : Int), (m1 : Int), (b : Int), (e : Int)] from by simp [reRawOf]]
  refine wpAny_pure ?_
  refine wpAny_bind ?_
  show wpAny _ _ (reGroupNumber ⟨_, _⟩ (.str (Str.ofString "flags") t)) _ _ _
  have hm33 : s.heap.MapOf (strKind prog w) 33 (fun k => PySem.findBy Value.isStrOf #[⟨PyData.keyHash w.params (Str.ofString "flags"), .str (Str.ofString "flags") 327, .int 1 328⟩] k) :=
    ⟨_, _, _, h33, ⟨rfl, rfl, rfl⟩, rfl, fun e he => by
      have : e = ⟨PyData.keyHash w.params (Str.ofString "flags"), .str (Str.ofString "flags") 327, .int 1 328⟩ := by simpa using he
      subst this
      exact ⟨Str.ofString "flags", strKind_is prog w _ _, rfl⟩, fun _ => rfl⟩
  unfold reGroupNumber
  refine wpAny_bind ?_
  show wpAny _ _ (pure none) _ _ _
  refine wpAny_pure ?_
  simp only [Option.isSome_none, Bool.false_eq_true, if_false]
  refine wpAny_bind (wpAny_specialOf (typeIs_str _ _ _) noIndex_str ?_)
  simp only [Option.isSome_none, Bool.false_eq_true, if_false]
  refine wpAny_bind (wpAny_fieldsOf h36 rfl ?_)
  show wpAny _ _ (dictGet 33 (.str (Str.ofString "flags") t) >>= _) _ _ _
  refine wpAny_bind (wpAny_dictGet_of (strKind_is prog w _ _) hm33 ?_)
  rw [show PySem.findBy Value.isStrOf #[⟨PyData.keyHash w.params (Str.ofString "flags"), .str (Str.ofString "flags") 327, .int 1 328⟩] (Str.ofString "flags") = some (.int 1 328) from rfl]
  show wpAny _ _ (asInt? (.int 1 328) >>= _) _ _ _
  refine wpAny_bind ?_
  show wpAny _ _ (pure (some 1)) _ _ _
  refine wpAny_pure ?_
  show wpAny _ _ (pure 1) _ _ _
  refine wpAny_pure ?_
  refine wpAny_bind ?_
  unfold reGroupText
  have hlt : ¬ (decide ((b : Int) < 0) || decide ((e : Int) < 0)) = true := by simp
  show wpAny _ _ (if (decide ((b : Int) < 0) || decide ((e : Int) < 0)) = true then pure Value.none else _) _ _ _
  rw [if_neg hlt]
  have htext : reTextOf (.bytes v vt) = pure (v.map (·.toNat), 1) := by
    unfold reTextOf Builtin.Bytes.bufferQuiet?
    rw [PySem.W.KBy.buffer_eq]
    rfl
  show wpAny _ _ (reTextOf (.bytes v vt) >>= fun p => reSlice p.1 p.2 b e) _ _ _
  rw [htext]
  refine wpAny_bind (wpAny_pure ?_)
  show wpAny _ _ (mkBytes (((v.map (·.toNat)).extract b e).map (·.toUInt8))) _ _ _
  have hex : ((v.map (·.toNat)).extract b e).map (·.toUInt8) = v.extract b e := by
    rw [← Array.map_extract, Array.map_map]
    have : (fun x : Nat => x.toUInt8) ∘ (fun x : UInt8 => x.toNat) = id := by funext x; simp
    rw [this, Array.map_id]
  rw [hex]
  unfold mkBytes
  rw [if_neg (by rw [sizeLine_eq]; omega)]
  exact wpAny_bind (wpAny_fresh (wpAny_pure (wpAny_pure ⟨_, rfl, h _⟩)))
end
end Mine
end
section
open PySem PySem.W PyProof.Rows PySem.Calls PySem.Builtin.Re
set_option maxRecDepth 100000
set_option maxHeartbeats 400000000
namespace Mine
theorem slot_md_get : Slot "member_descriptor" "__get__" "member_descriptor.__get__" :=
  .of (owner := "member_descriptor") (n := "__get__") (by rw [typeLookup_type, builtinLookup_eq_fast]; kernel_rfl) (by decide +kernel) (by decide +kernel) (by decide +kernel)
    (by first | exact .inl (by decide +kernel) | exact .inr (by decide +kernel)) (by rw [isSubtype_type]; kernel_rfl)
theorem slot_md_set : Slot "member_descriptor" "__set__" "member_descriptor.__set__" :=
  .of (owner := "member_descriptor") (n := "__set__") (by rw [typeLookup_type, builtinLookup_eq_fast]; kernel_rfl) (by decide +kernel) (by decide +kernel) (by decide +kernel)
    (by first | exact .inl (by decide +kernel) | exact .inr (by decide +kernel)) (by rw [isSubtype_type]; kernel_rfl)
theorem entry_md_get : entryFor table "member_descriptor.__get__" = some Builtin.«member_descriptor.__get__» := entryFor_of_tree (by kernel_rfl)
theorem args_md_get (a b c : Value) : argsOk "member_descriptor.__get__" ⟨[a, b, c], []⟩ := by unfold argsOk; kernel_rfl
theorem typeOf_mstring : typeOf (.builtin "re.Match.string") = pure (.type "member_descriptor") := by kernel_rfl
theorem entry_mstring : entryFor table "re.Match.string" = some Builtin.«re.Match.string» := entryFor_of_tree (by kernel_rfl)
theorem owner_mstring : (".".intercalate ("re.Match.string".cutAt '.').dropLast) = "re.Match" := by
  have e0 : "re.Match.string".cutAt '.' = ["re", "Match", "string"] := by first | rfl | decide +kernel
  rw [e0]; decide +kernel
theorem ga_match : Slot "re.Match" "__getattribute__" "object.__getattribute__" :=
  .of (owner := "object") (n := "__getattribute__") (by rw [typeLookup_type, builtinLookup_eq_fast]; kernel_rfl) (by decide +kernel) (by decide +kernel) (by decide +kernel)
    (by first | exact .inl (by decide +kernel) | exact .inr (by decide +kernel)) (by rw [isSubtype_type]; kernel_rfl)
theorem entry_obj_ga : entryFor table "object.__getattribute__" = some Builtin.«object.__getattribute__» := entryFor_of_tree (by kernel_rfl)
theorem args_obj_ga (a b : Value) : argsOk "object.__getattribute__" ⟨[a, b], []⟩ := by unfold argsOk; kernel_rfl
theorem lk_mstring : typeLookup (.type "re.Match") "string" = pure (some (.builtin "re.Match.string")) := by rw [typeLookup_type, builtinLookup_eq_fast]; kernel_rfl
theorem sub_match : isSubtype (.type "re.Match") (.type "re.Match") = pure true := by rw [isSubtype_type]; kernel_rfl
section
variable {prog : Program} {w : World} {A : Around} {E : Value → Shared → Prop} {h : Heap} {g : Array GenState} {d : Drawn} {t : Nat} {os : OsState} {a : Addr} {o : Obj} {vs : Array Value} {a0 : Value}
theorem mstring_get {R : Result → Shared → Prop} (hx : h.get? a = some o) (hc : o.cls = .type "re.Match") (hd : o.data = .fields vs) (h0 : vs[0]? = some a0) (hnd : (a0 == doubtfulMember) = false) (hq : R (.ok (.ret a0)) ⟨h, g, d, t, os⟩) :
    codeAny (model prog w) A (.call (.builtin "member_descriptor.__get__") ⟨[.builtin "re.Match.string", .ref a, .type "re.Match"], []⟩) R ⟨h, g, d, t, os⟩ := by
  have hT : (⟨h, g, d, t, os⟩ : Shared).TypeIs (.ref a) "re.Match" := ⟨_, hx, hc⟩
  have hT5 : (⟨h, g, d, t, os⟩ : Shared).TypeIs (.builtin "re.Match.string") "member_descriptor" := typeOf_mstring
  have f8 : isSubtype (.type "re.Match") (.type (".".intercalate ("re.Match.string".cutAt '.').dropLast)) = pure true := by rw [owner_mstring]; exact sub_match
  refine codeAny_call_builtin slot_md_get.plain entry_md_get (slot_md_get.check _ _ _ _ _ _ _ _ hT5 (args_md_get _ _ _) ?_)
  repeat (any_goals (first | assumption | wp_step))
  refine ⟨Code.quiet_builtin _ (by decide +kernel), codeAny_builtin entry_mstring ?_⟩
  unfold Builtin.«re.Match.string»
  refine wpAny_bind ?_
  show wpAny _ _ (field (.ref a) 0) _ _ _
  refine wpAny_field hx hd h0 ?_
  repeat (any_goals (first | assumption | wp_step))
theorem mstring_entry {tk : Tok} {Q : Fin → Shared → Prop} (hx : h.get? a = some o) (hc : o.cls = .type "re.Match") (hd : o.data = .fields vs) (h0 : vs[0]? = some a0) (hnd : (a0 == doubtfulMember) = false) (hq : Q (.done (.ret a0)) ⟨h, g, d, t, os⟩) :
    wpAny (model prog w) A (Builtin.«object.__getattribute__» ⟨[.ref a, .str "string" tk], []⟩) Q E ⟨h, g, d, t, os⟩ := by
  have hT : (⟨h, g, d, t, os⟩ : Shared).TypeIs (.ref a) "re.Match" := ⟨_, hx, hc⟩
  have hT5 : (⟨h, g, d, t, os⟩ : Shared).TypeIs (.builtin "re.Match.string") "member_descriptor" := typeOf_mstring
  have f4 := lk_mstring
  have f5 := typeOf_mstring
  have f6 := slot_md_get.lookup
  have f7 := slot_md_set.lookup
  repeat (any_goals (first | assumption | wp_step))
  refine mstring_get hx hc hd h0 hnd ?_
  repeat (any_goals (first | assumption | wp_step))
theorem mstring_call {tk : Tok} {R : Result → Shared → Prop} (hx : h.get? a = some o) (hc : o.cls = .type "re.Match") (hd : o.data = .fields vs) (h0 : vs[0]? = some a0) (hnd : (a0 == doubtfulMember) = false) (hq : R (.ok (.ret a0)) ⟨h, g, d, t, os⟩) :
    codeAny (model prog w) A (.call (.builtin "object.__getattribute__") ⟨[.ref a, .str "string" tk], []⟩) R ⟨h, g, d, t, os⟩ :=
  codeAny_call_builtin ga_match.plain entry_obj_ga (ga_match.check _ _ _ _ _ _ _ _ (show (⟨h, g, d, t, os⟩ : Shared).TypeIs (.ref a) "re.Match" from ⟨_, hx, hc⟩) (args_obj_ga _ _) (mstring_entry hx hc hd h0 hnd hq))
theorem mstring_by {tk : Tok} {fill expr : Bool} {x : Str} {xt : Tok} {Q : Value → Shared → Prop} (hx : h.get? a = some o) (hc : o.cls = .type "re.Match") (hd : o.data = .fields vs) (h0 : vs[0]? = some (.str x xt))
    (hq : Q (.str x xt) ⟨h, g, d, t, os⟩) : wpAny (model prog w) A (getAttrBy (.ref a) (.str "string" tk) fill expr) Q E ⟨h, g, d, t, os⟩ := by
  have hT : (⟨h, g, d, t, os⟩ : Shared).TypeIs (.ref a) "re.Match" := ⟨_, hx, hc⟩
  have f2 := ga_match.lookup
  have f3 := ga_match.bind (.ref a)
  have hx0 : (expr && onTheHeap (Value.builtin "object.__getattribute__")) = false := by cases expr <;> rfl
  repeat (any_goals (first | assumption | wp_step))
  refine mstring_call hx hc hd h0 (by first | rfl | decide | simp [doubtfulMember, rawInt]) ?_
  repeat (any_goals (first | assumption | wp_step))
theorem mstring_attr {expr : Bool} {x : Str} {xt : Tok} {Q : Value → Shared → Prop} (hx : h.get? a = some o) (hc : o.cls = .type "re.Match") (hd : o.data = .fields vs) (h0 : vs[0]? = some (.str x xt))
    (hq : Q (.str x xt) ⟨h, g, d, t + 1, os⟩) : wpAny (model prog w) A (getAttr (.ref a) "string" expr) Q E ⟨h, g, d, t, os⟩ := by
  unfold getAttr
  repeat (any_goals (first | assumption | with_reducible apply mstring_by hx hc hd h0 | wp_step))
end
end Mine
end
section
open PySem PySem.W PyProof.Rows PySem.Calls PySem.Builtin.Re
set_option maxRecDepth 100000
set_option maxHeartbeats 400000000
namespace Mine
section
variable {prog : Program} {w : World} {A : Around} {E : Value → Shared → Prop} {s : Shared} {h₀ : Heap} {L : Addr} {m : Str → Option Value} {news : Led}
theorem frAt {a : Addr} {o : Obj} {h : Heap} (F : Fr h₀ L h m) (X : (hd.heap_39 w.params).In h₀) (hl : (hd.heap_39 w.params).lookup a = some o) : h.get? a = some o := F.keep _ _ (X _ _ hl)
theorem two_new {o o' : Addr → Obj} {h : Heap} (F : Fr h₀ L h m) (N : News h₀ L h news) (hf : ∀ a, (o a).isFreed = false) (hf' : ∀ a, (o' a).isFreed = false) :
    Fr h₀ L ((h.push (o 0)).push (o' h.objs.size)) m ∧ News h₀ L ((h.push (o 0)).push (o' h.objs.size)) ((h.objs.size + 1, o' h.objs.size) :: (h.objs.size, o 0) :: news) ∧ (∀ p ∈ news, p.1 < h.objs.size) := by
  have F1 := F.push (o 0)
  have N1 := N.push F (o 0) (hf _)
  have N2 := N1.push F1 (o' h.objs.size) (hf' _)
  rw [Heap.size_push] at N2
  exact ⟨F1.push _, N2, fun p hp => Heap.lt_size (N p hp).1⟩
theorem search_walk {x : Str} {t : Tok} {Q : Value → Shared → Prop} (F : Fr h₀ L s.heap m) (N : News h₀ L s.heap news) (h94 : s.heap.get? 94 = some ipPat) (h93 : s.heap.get? 93 = some (tupOf ipCodeV)) (hsz : x.length ≤ 1048576)
    (hnone : ipSpecF x.cps = none → Q .none s)
    (hsome : ∀ b e, ipSpecF x.cps = some (b, e) → ∀ mo tp h', Fr h₀ L h' m → News h₀ L h' ((mo, matchOf (.str x t) (.ref 94) x.cps.size (-1) tp) :: (tp, tupOf #[.int b 0, .int e 0]) :: news) → (∀ p ∈ news, p.1 < tp) → tp < mo → Q (.ref mo) { s with heap := h' }) :
    wpAny (model prog w) A (call (.builtin "re.Pattern.search") [.ref 94, .str x t]) Q E s := by
  obtain ⟨j, hj, hp⟩ := ip_runs hsz
  cases hs : ipSpecF x.cps with
  | none => rw [hs] at hp; exact search_call h94 h93 rfl hj hsz (.inl ⟨hp, hnone hs⟩)
  | some be =>
    obtain ⟨b, e⟩ := be
    rw [hs] at hp
    obtain ⟨h1, h2, h3, h4⟩ := hp
    refine search_call h94 h93 rfl hj hsz (.inr ⟨h1, ?_⟩)
    rw [h2, h3, h4]
    obtain ⟨F', N', hlt⟩ := two_new (o := fun _ => tupOf #[.int b 0, .int e 0]) (o' := fun tp => matchOf (.str x t) (.ref 94) x.cps.size (-1) tp) F N (fun _ => rfl) (fun _ => rfl)
    exact hsome b e hs _ _ _ F' N' hlt (Nat.lt_succ_self _)
theorem match_walk {x : Array UInt8} {t : Tok} {Q : Value → Shared → Prop} (F : Fr h₀ L s.heap m) (N : News h₀ L s.heap news) (h36 : s.heap.get? 36 = some flPat) (h35 : s.heap.get? 35 = some (tupOf flCodeV)) (hsz : x.size ≤ 1048576)
    (hnone : flSpec (x.map (·.toNat)) = none → Q .none s)
    (hsome : ∀ b e, flSpec (x.map (·.toNat)) = some (b, e) → ∀ (m0 m1 : Nat) (la : Int) mo tp h', Fr h₀ L h' m → News h₀ L h' ((mo, matchOf (.bytes x t) (.ref 36) x.size la tp) :: (tp, tupOf #[.int m0 0, .int m1 0, .int b 0, .int e 0]) :: news) → (∀ p ∈ news, p.1 < tp) → tp < mo → Q (.ref mo) { s with heap := h' }) :
    wpAny (model prog w) A (call (.builtin "re.Pattern.match") [.ref 36, .bytes x t]) Q E s := by
  have hsz' : (x.map (·.toNat)).size ≤ 1048576 := by rw [Array.size_map]; exact hsz
  obtain ⟨j, hj, hp⟩ := fl_runs hsz'
  rw [Array.size_map] at hp
  cases hs : flSpec (x.map (·.toNat)) with
  | none => rw [hs] at hp; exact match_call h36 h35 rfl hj hsz (.inl ⟨hp, hnone hs⟩)
  | some be =>
    obtain ⟨b, e⟩ := be
    rw [hs] at hp
    obtain ⟨h1, h2, h3, h4⟩ := hp
    have hbe : b ≤ e := flSpec_le hs
    refine match_call h36 h35 rfl hj hsz (.inr ⟨h1, b, e, hbe, h2, h3, h4, ?_⟩)
    obtain ⟨F', N', hlt⟩ := two_new (o := fun _ => tupOf #[.int _ 0, .int _ 0, .int b 0, .int e 0]) (o' := fun tp => matchOf (.bytes x t) (.ref 36) x.size _ tp) F N (fun _ => rfl) (fun _ => rfl)
    exact hsome b e hs _ _ _ _ _ _ F' N' hlt (Nat.lt_succ_self _)
end
end Mine
namespace Mine
section
variable {prog : Program} {w : World} {A : Around} {E : Value → Shared → Prop} {s : Shared} {h₀ : Heap} {L : Addr} {m : Str → Option Value} {news : Led}
theorem one_new {o : Obj} {h : Heap} (F : Fr h₀ L h m) (N : News h₀ L h news) (hf : o.isFreed = false) :
    Fr h₀ L (h.push o) m ∧ News h₀ L (h.push o) ((h.objs.size, o) :: news) ∧ (∀ p ∈ news, p.1 < h.objs.size) := ⟨F.push _, N.push F o hf, fun p hp => Heap.lt_size (N p hp).1⟩
theorem span_walk {mo tp : Addr} {v p : Value} {lim : Nat} {last : Int} {b e : Nat} {t : Tok} {Q : Value → Shared → Prop} (F : Fr h₀ L s.heap m) (N : News h₀ L s.heap news) (hm : (mo, matchOf v p lim last tp) ∈ news) (ht : (tp, tupOf #[.int b 0, .int e 0]) ∈ news)
    (h : ∀ sp h' t1 t2 tk, Fr h₀ L h' m → News h₀ L h' ((sp, tupOf #[.int b t1, .int e t2]) :: news) → (∀ p ∈ news, p.1 < sp) → Q (.ref sp) { s with heap := h', toks := tk }) :
    wpAny (model prog w) A (call (.builtin "re.Match.span") [.ref mo, .int 0 t]) Q E s := by
  obtain ⟨F', N', hl⟩ := one_new (o := tupOf #[.int b s.toks, .int e (s.toks + 1)]) F N rfl
  exact span_call (N.get hm) (N.get ht) (h _ _ _ _ _ F' N' hl)
end
end Mine
end
section
open PySem PySem.W PyProof.Rows PySem.Calls PySem.Builtin
set_option maxRecDepth 100000
set_option maxHeartbeats 400000000
namespace Mine
section
variable {prog : Program} {w : World} {A : Around} {E : Value → Shared → Prop} {s : Shared} {h₀ : Heap} {L : Addr} {m : Str → Option Value} {news : Led}
theorem mkBytes_wp {b : Array UInt8} {Q : Value → Shared → Prop} {M : Model} (hb : b.size ≤ 16777216) (h : Q (.bytes b s.toks) { s with toks := s.toks + 1 }) : wpAny M A (mkBytes b) Q E s := by
  unfold mkBytes
  rw [if_neg (by rw [sizeLine_eq]; omega)]
  exact wpAny_bind (wpAny_fresh (wpAny_pure h))
theorem split_call {b : Array UInt8} {t : Tok} {w0 w1 w2 w3 : List UInt8} {Q : Value → Shared → Prop} (F : Fr h₀ L s.heap m) (N : News h₀ L s.heap news) (hsz : b.size ≤ 1048576) (hsp : b.any Bytes.isSpace = true)
    (hw : Bytes.words (b.size + 1) (b.size + 1) b.toList = [w0, w1, w2, w3]) (hl : ∀ w ∈ [w0, w1, w2, w3], w.length ≤ 1048576)
    (h : ∀ l h' t0 t1 t2 t3 tk, Fr h₀ L h' m → News h₀ L h' ((l, listOf #[.bytes w0.toArray t0, .bytes w1.toArray t1, .bytes w2.toArray t2, .bytes w3.toArray t3] 0) :: news) → (∀ p ∈ news, p.1 < l) → Q (.ref l) { s with heap := h', toks := tk }) :
    wpAny (model prog w) A (call (.builtin "bytes.split") [.bytes b t]) Q E s := by
  refine wpAny_call_entry slot_bytes_split (typeIs_bytes _ _ _) entry_bytes_split ?_ (args_bytes_split_1 _)
  unfold Builtin.«bytes.split» Bytes.splitM
  dsimp only
  have e1 : ∀ id, Bytes.bindOptional id "split" ["sep", "maxsplit"] [] [] = pure [none, none] := fun _ => by with_unfolding_all rfl
  rw [e1]
  refine wpAny_bind (wpAny_pure ?_)
  dsimp only
  refine wpAny_bind (wpAny_pure ?_)
  refine wpAny_bind ?_
  show wpAny _ _ (pure b) _ _ _
  refine wpAny_pure ?_
  refine wpAny_bind (wpAny_rule ?_)
  have hcond : (decide ((if (-1 : Int) < 0 then b.size + 1 else (-1 : Int).toNat) > 0) && !b.isEmpty && !b.any Bytes.isSpace) = false := by rw [hsp]; simp
  rw [hcond]
  have hlim : (if (-1 : Int) < 0 then b.size + 1 else (-1 : Int).toNat) = b.size + 1 := rfl
  rw [hlim]
  simp only [Bool.false_eq_true, if_false]
  rw [hw]
  refine wpAny_bind ?_
  simp only [List.mapM_cons, List.mapM_nil]
  have hk : ∀ c : Array UInt8, Bytes.Kind.bytes.new c = mkBytes c := fun _ => rfl
  simp only [hk]
  have g0 := hl w0 (by simp)
  have g1 := hl w1 (by simp)
  have g2 := hl w2 (by simp)
  have g3 := hl w3 (by simp)
  refine wpAny_bind (mkBytes_wp (by rw [List.size_toArray]; omega) ?_)
  refine wpAny_bind (wpAny_bind (mkBytes_wp (by rw [List.size_toArray]; omega) ?_))
  refine wpAny_bind (wpAny_bind (mkBytes_wp (by rw [List.size_toArray]; omega) ?_))
  refine wpAny_bind (wpAny_bind (mkBytes_wp (by rw [List.size_toArray]; omega) ?_))
  refine wpAny_bind (wpAny_pure (wpAny_pure (wpAny_pure (wpAny_pure (wpAny_pure ?_)))))
  refine wpAny_bind (wpAny_newObj_type (wpAny_pure ⟨_, rfl, ?_⟩))
  obtain ⟨F', N', hlt⟩ := one_new (o := listOf #[.bytes w0.toArray s.toks, .bytes w1.toArray (s.toks + 1), .bytes w2.toArray (s.toks + 1 + 1), .bytes w3.toArray (s.toks + 1 + 1 + 1)] 0) F N rfl
  exact h _ _ _ _ _ _ _ F' N' hlt
end
end Mine
end
section
open PySem PySem.W PyProof.Rows PySem.Spec PySem.Calls
set_option maxRecDepth 100000
namespace Mine
theorem memX {env : Env} {L b : Addr} {outer : List Env} (hf : env.frame = some L) (hm : b ∈ (env :: outer).filterMap (·.frame)) : b = L ∨ b ∈ outer.filterMap (·.frame) := by
  obtain ⟨e, he, hb⟩ := List.mem_filterMap.mp hm
  rcases List.mem_cons.mp he with rfl | he
  · exact .inl (Option.some.inj (hf.symm.trans hb)).symm
  · exact .inr (List.mem_filterMap.mpr ⟨e, he, hb⟩)
section
variable {prog : Program} {w : World} {A₀ A : Around} {s : Shared} {base h₀ g₀ : Heap} {outer : List Env} {env : Env} {L : Addr} {m : Str → Option Value} {news : List (Addr × Obj)} {K : Frag} {p : Program} {loose : List Str} {mean : ExcName → Option Value} {mg mb : Str → Option Value}
  {R : Result → Shared → Prop} {name qual : Str} {params : Arguments} {body : List Stmt} {scope : Scope} {dV kV doc pm cdv ct oc : Value} {an od : Option Addr} {osl : Array (Option Value)} {f : Addr} {args : Args} {binds : List (Str × Value)}
/-- what is so of the callee's ground, from the caller's -/
theorem groundS (B : Below A₀ base outer h₀) (F : Fr h₀ L s.heap m) (N : News h₀ L s.heap news) (D : KtsDicts (outer.filterMap (·.frame)) h₀) (hA : A.frames = some (env :: outer)) (hf : env.frame = some L) (hke : env.scope.kind = .function) :
    Fr h₀ L (hideAll s.heap (news.map (·.1))) m ∧ Below A base (env :: outer) (hideAll s.heap (news.map (·.1))) ∧ h₀.StaysIn (hideAll s.heap (news.map (·.1))) ∧ KtsDicts ((env :: outer).filterMap (·.frame)) (hideAll s.heap (news.map (·.1))) := by
  obtain ⟨FG, BG, st, _⟩ := groundX (R := fun _ _ => True) B F N hA hf hke
  refine ⟨FG, BG, st, fun b hb => ?_⟩
  rcases memX hf hb with rfl | hb
  · obtain ⟨oL, es, ep, hL, hLd, _⟩ := FG.ns
    exact ⟨oL, es, ep, hL, hLd⟩
  · obtain ⟨o, es, n, ho, hd⟩ := D b hb
    exact ⟨o, es, n, st b o ho, hd⟩
/-- back in the caller, whose ground may have turned -/
theorem backS {v : Value} {s' : Shared} {fs : List Addr} (hfs : fs = (env :: outer).filterMap (·.frame)) (B : Below A₀ base outer h₀) (F : Fr h₀ L s.heap m) (XB : K.In base) (TB : Top p loose mean mg mb base) (D : KtsDicts (outer.filterMap (·.frame)) h₀)
    (T0 : KtsTurn (outer.filterMap (·.frame)) g₀ h₀) (hf : env.frame = some L) (FG : Fr h₀ L (hideAll s.heap (news.map (·.1))) m) (st : h₀.StaysIn (hideAll s.heap (news.map (·.1))))
    (hl : LeaveS fs A₀ base outer K p loose mean mg mb g₀ h₀ L m (hideAll s.heap (news.map (·.1))) R v s') : R (.ok (.ret v)) s' := by
  subst hfs
  have nL₀ : h₀.get? L = none := kts_self F
  obtain ⟨oL, es, ep, hLg, hLd, hLk, hLf⟩ := FG.ns
  rcases hl with ⟨L', m', news', F', N', k⟩ | ⟨g', L', m', news', T', F', N', k⟩
  · refine k ⟨⟨oL, es, ep, F'.keep _ _ hLg, hLd, hLk, hLf⟩, fun b o e => F'.keep b o (st b o e), F.above⟩ fun p hp => ⟨(N' p hp).1, fun q => ?_, ?_⟩
    · have := (N' p hp).2.2; rw [q, hLg] at this; cases this
    · cases q : h₀.get? p.1 with
      | none => rfl
      | some o => have := (N' p hp).2.2; rw [st _ _ q] at this; cases this
  · obtain ⟨sl, hs⟩ := T'.up hLg
    obtain ⟨T₁, S₁⟩ := kts_turn_at (h := s'.heap) (fs := outer.filterMap (·.frame)) (g := h₀)
      (fun b hb => by
        obtain ⟨_, o, ho', _⟩ := B.frames.mem hb
        exact ⟨o, ho'⟩)
      (fun b o e nmem => F'.keep b o (T'.other b o (st b o e) (fun q => by
        rcases memX hf q with z | z
        · rw [z, nL₀] at e
          cases e
        · exact nmem z)))
      (fun b o e hm => by
        obtain ⟨sl', hs'⟩ := T'.up (st b o e)
        exact ⟨sl', F'.keep _ _ hs'⟩)
    have B₃ : Below A₀ base outer (ktsHeap s'.heap (outer.filterMap (·.frame)) h₀) := ⟨B.stack, fun b o e => T₁.other b o (B.stays b o e) (fun hm => by
      rw [(B.frames.mem hm).1] at e
      cases e), B.frames.of_keeps fun b o e _ => by
      obtain ⟨sl', hs'⟩ := T₁.up e
      exact ⟨_, hs', rfl⟩⟩
    refine k _ (T0.trans T₁) ⟨⟨_, es, ep, F'.keep _ _ hs, hLd, hLk, hLf⟩, S₁, by rw [T₁.size]; exact F.above⟩ (fun p hp => ⟨(N' p hp).1, fun q => ?_, ?_⟩) B₃ (XB.keeps B₃.stays) (TB.keeps B₃.stays) (D.turn T₁)
    · have := (N' p hp).2.2; rw [q, hs] at this; cases this
    · refine T₁.none_ _ ?_
      cases q : h₀.get? p.1 with
      | none => rfl
      | some o =>
        obtain ⟨sl', hs'⟩ := T'.up (st _ _ q)
        have := (N' p hp).2.2
        rw [hs'] at this
        cases this
theorem code_defSX (B : Below A₀ base outer h₀) (F : Fr h₀ L s.heap m) (X₀ : K.In h₀) (N : News h₀ L s.heap news) (T : Top p loose mean mg mb h₀) (XB : K.In base) (TB : Top p loose mean mg mb base) (D : KtsDicts (outer.filterMap (·.frame)) h₀)
    (T0 : KtsTurn (outer.filterMap (·.frame)) g₀ h₀) (hA : A.frames = some (env :: outer)) (hf : env.frame = some L) (hke : env.scope.kind = .function)
    (ho : K.lookup f = some ⟨oc, od, .func (fnOf name qual params body scope dV kV doc pm an cdv ct), osl⟩) (hcd : codeIn K cdv qual = true) (hroom : A.depth < recursionLimit)
    (hbind : BindsTo s (fnOf name qual params body scope dV kV doc pm an cdv ct) args binds) (hloc : ∀ y ∈ binds, scope.names.lookup y.1 = some .local)
    (h : ∀ g L' h₁, Fr h₀ L g m → Fr g L' h₁ (fun y => binds.reverse.lookup y) → News g L' h₁ news → Below A base (env :: outer) g → K.In g → Top p loose mean mg mb g → KtsDicts ((env :: outer).filterMap (·.frame)) g →
      wpAny (model prog w) (A.deeper (envOf qual scope L' f cdv)) (execs body (envOf qual scope L' f cdv))
        (fun fl s' => LeaveS ((env :: outer).filterMap (·.frame)) A₀ base outer K p loose mean mg mb g₀ h₀ L m g R (match fl with | .ret v => v | _ => .none) s')
        (fun e s' => wpAny (model prog w) (A.deeper (envOf qual scope L' f cdv)) (leaving (envOf qual scope L' f cdv) e) (fun _ s'' => R (.error e) s'') (fun e' s'' => R (.error e') s'') s')
        { s with heap := h₁, toks := s.toks + binds.length })
    (hco : scope.isCoroutine = false) (hgen : scope.isGenerator = false) (hk : scope.kind = .function)
    (hcell : ∀ x ∈ scope.names, x.2 ≠ .cell) : codeAny (model prog w) A (.call (.ref f) args) R s := by
  have X := X₀.keeps F.keep
  obtain ⟨FG, BG, st, DG⟩ := groundS B F N D hA hf hke
  refine codeAny_call_def (fd := fnOf name qual params body scope dV kV doc pm an cdv ct) (body := body) (binds := binds) hroom (X _ _ ho) rfl (T.nolimit.keeps F.keep) (codeRec_of X hcd) rfl hbind hcell hloc (fun h₁ hns hk₁ => ?_) hco hgen hk
  exact wpAny_mono (h _ s.heap.objs.size h₁ FG ⟨hns, fun b o e => hk₁ b o (of_hideAll _ e), Nat.le_of_eq (hideAll_size _ _)⟩
    (fun p hp => ⟨hk₁ _ _ (N p hp).1, Nat.ne_of_lt (Heap.lt_size (N p hp).1), hideAll_none _ (List.mem_map_of_mem hp)⟩) BG (X₀.keeps st) (T.keeps st) DG) (fun fl s' hl => backS rfl B F XB TB D T0 hf FG st hl) fun _ _ y => y
theorem code_defSC (B : Below A₀ base outer h₀) (F : Fr h₀ L s.heap m) (X₀ : K.In h₀) (N : News h₀ L s.heap news) (T : Top p loose mean mg mb h₀) (XB : K.In base) (TB : Top p loose mean mg mb base) (D : KtsDicts (outer.filterMap (·.frame)) h₀)
    (T0 : KtsTurn (outer.filterMap (·.frame)) g₀ h₀) (hA : A.frames = some (env :: outer)) (hf : env.frame = some L) (hke : env.scope.kind = .function)
    (ho : K.lookup f = some ⟨oc, od, .func (fnOf name qual params body scope dV kV doc pm an cdv ct), osl⟩) (hcd : codeIn K cdv qual = true) (hroom : A.depth < recursionLimit)
    (hbind : BindsTo s (fnOf name qual params body scope dV kV doc pm an cdv ct) args binds) (hkind : (binds.all fun y => scope.names.lookup y.1 == some .local || scope.names.lookup y.1 == some .cell) = true)
    (hnd : ((cellsFrom 0 scope.names []).map (·.1)).Nodup)
    (h : ∀ g L' h₁ tk cells, Fr h₀ L g m → Fr g L' h₁ (bindL (envOfC qual scope L' f cdv).kindOf binds fun _ => none) → News g L' h₁ (cells ++ news) →
      CellsAre (bindC (envOfC qual scope L' f cdv).kindOf binds fun _ => none) (cellsFrom (L' + 1) scope.names []) cells → Below A base (env :: outer) g → K.In g → Top p loose mean mg mb g → KtsDicts ((env :: outer).filterMap (·.frame)) g → (∀ p ∈ news, p.1 < L') →
      wpAny (model prog w) (A.deeper (envOfC qual scope L' f cdv)) (execs body (envOfC qual scope L' f cdv))
        (fun fl s' => LeaveS ((env :: outer).filterMap (·.frame)) A₀ base outer K p loose mean mg mb g₀ h₀ L m g R (match fl with | .ret v => v | _ => .none) s')
        (fun e s' => wpAny (model prog w) (A.deeper (envOfC qual scope L' f cdv)) (leaving (envOfC qual scope L' f cdv) e) (fun _ s'' => R (.error e) s'') (fun e' s'' => R (.error e') s'') s')
        { s with heap := h₁, toks := tk })
    (hco : scope.isCoroutine = false) (hgen : scope.isGenerator = false) (hk : scope.kind = .function) : codeAny (model prog w) A (.call (.ref f) args) R s := by
  have X := X₀.keeps F.keep
  obtain ⟨FG, BG, st, DG⟩ := groundS B F N D hA hf hke
  refine codeAny_call_function hroom (X _ _ ho) rfl hco hgen rfl (codeRec_of X hcd) (hbind _ _ _ _ ?_)
  refine wpAny_newFunctionEnv_cells hk (kindsX hkind _) fun env' he s' x => ?_
  subst he
  refine ⟨(T.nolimit.keeps F.keep).keeps x.toInCall.keep, codeAny_func ?_⟩
  obtain ⟨h₁, tk, rfl, _⟩ := x.done
  have hk₁ := x.toInCall.keep
  obtain ⟨cells, NC, Y⟩ := Cl.news (h₀ := s.heap) (Nat.le_refl _) fun n c hm => ⟨x.cell n c (lookup_of_mem_nodup (cellsFrom_names scope.names 0 (s.heap.objs.size + 1) [] [] rfl ▸ hnd) hm), x.above n c hm⟩
  refine wpAny_mono (h _ s.heap.objs.size h₁ tk cells FG ⟨x.toInCall.ns, fun b o e => hk₁ b o (of_hideAll _ e), Nat.le_of_eq (hideAll_size _ _)⟩ (fun p hp => ?_) Y BG (X₀.keeps st) (T.keeps st) DG (fun p hp => Heap.lt_size (N p hp).1)) (fun fl s' hl => backS rfl B F XB TB D T0 hf FG st hl) fun _ _ y => y
  rcases List.mem_append.mp hp with hp | hp
  · refine ⟨(NC p hp).1, (NC p hp).2.1, ?_⟩
    cases q : (hideAll s.heap (news.map (·.1))).get? p.1 with
    | none => rfl
    | some o => have := of_hideAll _ q; rw [(NC p hp).2.2] at this; cases this
  · exact ⟨hk₁ _ _ (N p hp).1, Nat.ne_of_lt (Heap.lt_size (N p hp).1), hideAll_none _ (List.mem_map_of_mem hp)⟩
end
/-- a contract of a def below which an exception is caught: the ground of the frames below may turn -/
noncomputable def CtS (k : Nat) (w : World) (f : Addr) (vs : List Value) (pre : Led) (Ok : Value → Led → Prop) : Prop :=
  ∀ (mean : ExcName → Option Value) (mg mb : Str → Option Value) (news : Led) (dp un : Nat) (gd : Option (List Code)) (cn : Str) (cs : Scope) (a : Addr) (ccd : Value) (cl : List (Str × Addr)) (outer : List Env) (A₀ : Around) (base h₀ : Heap) (L : Addr) (m : Str → Option Value) (s : Shared) (Q E : Value → Shared → Prop),
    Below A₀ base outer h₀ → Fr h₀ L s.heap m → (hd.heap_39 w.params).In h₀ → News h₀ L s.heap (pre ++ news) → Top hd.view_39 LO mean mg mb h₀ → (hd.heap_39 w.params).In base → Top hd.view_39 LO mean mg mb base → KtsDicts (outer.filterMap (·.frame)) h₀ → cs.kind = .function → dp + 8 * k < recursionLimit → un + 64 * k < cLine →
    (∀ (v : Value) (new : Led) (h₀' h' : Heap) (tk' : Nat), Ok v new → KtsTurn (outer.filterMap (·.frame)) h₀ h₀' → Fr h₀' L h' m → News h₀' L h' (new ++ news) → (∀ p ∈ new, ∀ q ∈ news, q.1 < p.1) → Below A₀ base outer h₀' → (hd.heap_39 w.params).In h₀' → Top hd.view_39 LO mean mg mb h₀' → KtsDicts (outer.filterMap (·.frame)) h₀' → Q v { s with heap := h', toks := tk' }) →
    wpAny (model PG w) (ktrTop dp un gd cn cs L a ccd cl outer) (call (.ref f) vs) Q E s
theorem CtS.use {k : Nat} {w : World} {f : Addr} {vs : List Value} {pre : Led} {Ok : Value → Led → Prop} (C : CtS k w f vs pre Ok)
    {mean : ExcName → Option Value} {mg mb : Str → Option Value} {news : Led} {dp un : Nat} {gd : Option (List Code)} {cn : Str} {cs : Scope} {a : Addr} {ccd : Value} {cl : List (Str × Addr)} {outer : List Env} {A₀ : Around} {base h₀ : Heap} {L : Addr} {m : Str → Option Value} {s : Shared} {Q E : Value → Shared → Prop}
    (B : Below A₀ base outer h₀) (F : Fr h₀ L s.heap m) (X : (hd.heap_39 w.params).In h₀) (N : News h₀ L s.heap news) (T : Top hd.view_39 LO mean mg mb h₀) (XB : (hd.heap_39 w.params).In base) (TB : Top hd.view_39 LO mean mg mb base) (D : KtsDicts (outer.filterMap (·.frame)) h₀) (hp : ∀ p ∈ pre, p ∈ news) (hk : cs.kind = .function) (hdp : dp + 8 * k < recursionLimit) (hu : un + 64 * k < cLine)
    (ret : ∀ (v : Value) (new : Led) (h₀' h' : Heap) (tk' : Nat), Ok v new → KtsTurn (outer.filterMap (·.frame)) h₀ h₀' → Fr h₀' L h' m → News h₀' L h' (new ++ news) → (∀ p ∈ new, ∀ q ∈ news, q.1 < p.1) → Below A₀ base outer h₀' → (hd.heap_39 w.params).In h₀' → Top hd.view_39 LO mean mg mb h₀' → KtsDicts (outer.filterMap (·.frame)) h₀' → Q v { s with heap := h', toks := tk' }) :
    wpAny (model PG w) (ktrTop dp un gd cn cs L a ccd cl outer) (call (.ref f) vs) Q E s :=
  C mean mg mb news dp un gd cn cs a ccd cl outer A₀ base h₀ L m s Q E B F X (fun p h => (List.mem_append.mp h).elim (fun h => N p (hp p h)) (N p)) T XB TB D hk hdp hu ret
end Mine
end
section
open PySem PySem.W PyProof.Rows PySem.Spec PySem.Calls PySem.Builtin PySem.Builtin.Str
set_option maxRecDepth 100000
set_option maxHeartbeats 400000000
namespace Mine
section
variable {prog : Program} {w : World} {A : Around} {E : Value → Shared → Prop} {s : Shared} {K : Frag} {C e t0 : Addr} {oe : Obj} {ws : Array Value} {m : Str} {u : Tok}
theorem typeOf_at {M : Model} (he : s.heap.get? e = some oe) (hc : oe.cls = .ref C) {Q : Value → Shared → Prop} (h : Q (.ref C) s) : wpAny M A (typeOf (.ref e)) Q E s := by
  show wpAny M A (loadPart e (some headPart) >>= fun o => pure o.cls) Q E s
  exact wpAny_bind (wpAny_loadPart he (wpAny_pure (hc ▸ h)))
theorem str_entry_own {Q : Fin → Shared → Prop} (he : s.heap.get? e = some oe) (hd : oe.data = .fields ws) (h0 : ws[0]? = some (.ref t0)) (ht : s.heap.TupAt t0 [.str m u]) (hq : Q (.done (.ret (.str m u))) s) :
    wpAny (model prog w) A (Builtin.«BaseException.__str__» ⟨[.ref e], []⟩) Q E s := by
  have hx : ∀ {Q : Value × List Value → Shared → Prop}, Q (.ref t0, [.str m u]) s → wpAny (model prog w) A (BaseException.bexcArgs (.ref e)) Q E s := by
    intro Q hq
    obtain ⟨ot, k, hto, _, htd⟩ := ht
    unfold BaseException.bexcArgs
    refine wpAny_bind (wpAny_field he hd h0 (wpAny_bind (wpAny_seqItems hto htd ?_)))
    exact wpAny_pure hq
  unfold Builtin.«BaseException.__str__»
  repeat (first | with_reducible refine hx ?_ | wp_step)
  exact hq
theorem code_str_own {R : Result → Shared → Prop} (X : K.In s.heap) (he : s.heap.get? e = some oe) (hc : oe.cls = .ref C) (hb : subIn K (.ref C) (.type "BaseException") = some true) (hd : oe.data = .fields ws) (h0 : ws[0]? = some (.ref t0)) (ht : s.heap.TupAt t0 [.str m u]) (hq : R (.ok (.ret (.str m u))) s) :
    codeAny (model prog w) A (.call (.builtin "BaseException.__str__") ⟨[.ref e], []⟩) R s := by
  have hl : Looks (model prog w) s.heap (isInstance (.ref e) (.type "BaseException")) true := by
    intro A' Q' E' s' k q
    unfold isInstance
    refine wpAny_bind (typeOf_at (k _ _ he) hc ?_)
    exact (looks_subIn (M := model prog w) X hb) A' Q' E' s' k q
  have hp : plainId "BaseException.__str__" = true := by decide +kernel
  have hk : builtinKind "BaseException.__str__" = some .slot := by decide +kernel
  have hs : splitId "BaseException.__str__" = some ("BaseException", "__str__") := by decide +kernel
  refine codeAny_call_builtin hp F.entry_bexc_str ?_
  have ha : argsOk "BaseException.__str__" ⟨[.ref e], []⟩ := F.args_bexc_str _
  refine check_slot (i := "BaseException.__str__") (owner := "BaseException") (n := "__str__") (self := .ref e) (rest := []) (kw := []) hk hs hl ha ?_
  exact str_entry_own he hd h0 ht hq
theorem strOf_own {Q : Value → Shared → Prop} (X : K.In s.heap) (he : s.heap.get? e = some oe) (hc : oe.cls = .ref C) (hst : findIn K (.ref C) "__str__" = some (some (.builtin "BaseException.__str__"))) (hb : subIn K (.ref C) (.type "BaseException") = some true) (hd : oe.data = .fields ws) (h0 : ws[0]? = some (.ref t0)) (ht : s.heap.TupAt t0 [.str m u])
    (hu : A.units < cLine) (hq : Q (.str m u) s) : wpAny (model prog w) A (Builtin.Str.strOf (.ref e)) Q E s := by
  have hsp : ∀ {Q : Option Value → Shared → Prop}, Q (some (.builtin "BaseException.__str__")) s → wpAny (model prog w) A (specialOf (.ref e) "__str__") Q E s := by
    intro Q hq
    unfold specialOf
    refine wpAny_bind (typeOf_at he hc ?_)
    exact (looks_findIn (M := model prog w) X hst) A Q E s (fun _ _ h => h) hq
  have hbind : bindSpecial (.builtin "BaseException.__str__") (.ref e) = pure (.builtin "BaseException.__str__", [.ref e]) := PySem.F.excStr_ValueError.str.bind _
  unfold Builtin.Str.strOf
  repeat (first | with_reducible refine wpAny_cRoomFor hu ?_ | with_reducible refine hsp ?_ | (rw [hbind]) | wp_step)
  refine code_str_own X he hc hb hd h0 ht ?_
  repeat wp_step
  exact hq
theorem str_call_own {P : Params} {Q : Value → Shared → Prop} {h₀ : Heap} {L : Addr} {news : Led} {u : Tok} (X : (hd.heap_39 P).In s.heap) (N : News h₀ L s.heap news) (G : Got news e t0 (.ref C) [.str m u]) (hst : findIn (hd.heap_39 P) (.ref C) "__str__" = some (some (.builtin "BaseException.__str__")))
    (hb : subIn (hd.heap_39 P) (.ref C) (.type "BaseException") = some true) (hu : A.units + 2 < cLine) (h : Q (.str m u) s) : wpAny (model prog w) A (call (.type "str") [.ref e]) Q E s := by
  obtain ⟨oe, ot, ws, nt, h1, h2, hc, hd', h0, htc, htd⟩ := G
  exact callType_new F.called_str (by decide) (F.typeCall_str_1 _) (F.newCall_str_1 _) (fun obj => F.args_object_init_2 obj _) F.entry_str_new
    (meets_str_new (S := fun A' R s' => A'.units + 1 < cLine ∧ (hd.heap_39 P).In s'.heap ∧ s'.heap.get? e = some oe ∧ s'.heap.TupAt t0 [.str m u] ∧ R (.ok (.ret (.str m u))) s')
      fun _ _ A' _ _ hq => strOf_own (A := A'.in1) hq.2.1 hq.2.2.1 hc hst hb hd' h0 hq.2.2.2.1 hq.1 hq.2.2.2.2)
    ⟨(show A.units + 1 + 1 < cLine from hu), X, N.get h1, ⟨ot, nt, N.get h2, htc, htd⟩, typeIs_str _ _ _, h⟩
end
end Mine
end
section
open PySem PySem.W PyProof.Rows PySem.Calls PySem.Builtin PySem.Builtin._codecs
set_option maxRecDepth 100000
set_option maxHeartbeats 400000000
namespace Mine
section
variable {prog : Program} {w : World} {M : Model} {A : Around} {E : Value → Shared → Prop} {s : Shared} {h₀ : Heap} {L : Addr} {m : Str → Option Value} {news : Led}
theorem loop_two {α β : Type} {f : α → β → Sem (ForInStep β)} {b0 b1 : β} {Q : β → Shared → Prop} (l : List α) (h0 : l = [] → Q b0 s)
    (hf : l ≠ [] → ∀ a (R : ForInStep β → Shared → Prop), R (.yield b1) s → wpAny M A (f a b0) R E s) (hs : ∀ a (R : ForInStep β → Shared → Prop), R (.done b1) s → wpAny M A (f a b1) R E s) (h1 : Q b1 s) : wpAny M A (forIn l b0 f) Q E s := by
  cases l with
  | nil => rw [List.forIn_nil]; exact wpAny_pure (h0 rfl)
  | cons a l =>
    rw [List.forIn_cons]
    refine wpAny_bind (hf (by simp) a _ ?_)
    dsimp only
    cases l with
    | nil => rw [List.forIn_nil]; exact wpAny_pure h1
    | cons b l =>
      rw [List.forIn_cons]
      exact wpAny_bind (hs b _ (wpAny_pure h1))
theorem narrow_wp {x : Str} (hsz : x.length ≤ 1048576) (hx : ∀ c ∈ x.cps.toList, c < 128) {id : String} {self : Value} {Q : Array UInt8 → Shared → Prop} (h : Q (x.cps.map (·.toUInt8)) s) : wpAny M A (encodeNarrow id asciiCodec none self x) Q E s := by
  unfold encodeNarrow
  simp only [Std.Legacy.Range.forIn_eq_forIn_range']
  have hb : ∀ c ∈ x.cps.toList, asciiCodec.bad c = false := fun c hc => by
    show decide (c ≥ 128) = false
    have := hx c hc
    simp; omega
  have hff : x.cps.findIdx? asciiCodec.bad = none := by
    rw [Array.findIdx?_eq_none_iff]
    intro c hc
    rw [hb c (Array.mem_toList_iff.mpr hc)]
  have hfold : ∀ (l : List Nat) (acc : Array UInt8), l.foldl (fun acc y => acc ++ (asciiCodec.bytesOf y).toArray) acc = acc ++ (l.map (·.toUInt8)).toArray := by
    intro l
    induction l with
    | nil => intro acc; simp
    | cons a l ih => intro acc; rw [List.foldl_cons, ih]; show (acc ++ [a.toUInt8].toArray) ++ _ = _; simp
  have hres : Array.foldl (fun acc y => acc ++ (asciiCodec.bytesOf y).toArray) #[] ((x.cps.extract 0).extract 0 x.cps.size) = x.cps.map (·.toUInt8) := by
    have e1 : (x.cps.extract 0).extract 0 x.cps.size = x.cps := by simp
    rw [e1, ← Array.foldl_toList, hfold]
    apply Array.ext'; simp
  refine wpAny_bind (loop_two (b1 := (x.cps.size, x.cps.map (·.toUInt8), {})) _ ?_ ?_ ?_ ?_)
  · intro hl
    have h0 : x.cps.size = 0 := by
      have := congrArg List.length hl
      rw [List.length_range'] at this
      simpa [Std.Legacy.Range.size, Str.length] using this
    have h1 : x.cps = #[] := Array.eq_empty_of_size_eq_zero h0
    rw [h1] at h
    exact wpAny_pure (by simpa using h)
  · intro hl a R hR
    have h0 : 0 < x.cps.size := by
      rcases Nat.eq_zero_or_pos x.cps.size with h0 | h0
      · exfalso; apply hl
        rw [List.eq_nil_iff_length_eq_zero, List.length_range']
        simp [Std.Legacy.Range.size, Str.length, h0]
      · exact h0
    dsimp only
    rw [if_neg (by rw [sizeLine_eq]; simp)]
    obtain ⟨c, hc⟩ : ∃ c, x.cps[0]? = some c := ⟨_, Array.getElem?_eq_getElem h0⟩
    rw [hc]
    have hcb : asciiCodec.bad c = false := hb c (Array.mem_toList_iff.mpr (Array.mem_of_getElem? hc))
    dsimp only
    rw [if_pos (by rw [hcb]; rfl)]
    refine wpAny_pure ?_
    have e0 : x.cps.extract 0 = x.cps := by simp
    have e2 : (Array.findIdx? asciiCodec.bad (x.cps.extract 0)).getD (x.cps.extract 0).size = x.cps.size := by rw [e0, hff]; rfl
    rw [e2, hres, Nat.zero_add]
    exact hR
  · intro a R hR
    dsimp only
    rw [if_neg (by rw [sizeLine_eq, Array.size_map]; have : x.cps.size ≤ 1048576 := hsz; omega)]
    have e : x.cps[x.cps.size]? = none := by simp
    rw [e]
    exact wpAny_pure hR
  · exact wpAny_pure h
theorem args_enc (a b : Value) : argsOk "str.encode" ⟨[a, b], []⟩ := F.args_str_encode_2 a b
theorem encode_call {x : Str} {t u : Tok} {Q : Value → Shared → Prop} (hsz : x.length ≤ 1048576) (hx : ∀ c ∈ x.cps.toList, c < 128) (h : ∀ t' k, Q (.bytes (x.cps.map (·.toUInt8)) t') { s with toks := k }) :
    wpAny (model prog w) A (call (.builtin "str.encode") [.str x t, .str (Str.ofString "ascii") u]) Q E s := by
  refine wpAny_call_entry F.slot_str_encode (typeIs_str _ _ _) F.entry_str_encode ?_ (args_enc _ _)
  have e : Builtin.«str.encode» ⟨[.str x t, .str (Str.ofString "ascii") u], []⟩ = ((encodeNarrow "str.encode" asciiCodec none (.str x t) x >>= fun b => mkBytes b) >>= fun v => ret v) := by kernel_rfl
  rw [e]
  have hm : (x.cps.map (·.toUInt8)).size ≤ 16777216 := by rw [Array.size_map]; have : x.cps.size ≤ 1048576 := hsz; omega
  refine wpAny_bind (wpAny_bind ?_)
  generalize hen : encodeNarrow "str.encode" asciiCodec none (.str x t) x = en
  refine Eq.subst (motive := fun en => wpAny _ _ en _ _ _) hen ?_
  refine narrow_wp hsz hx (mkBytes_wp hm ?_)
  exact wpAny_pure ⟨_, rfl, h _ _⟩
theorem encode_method {x : Str} {t : Tok} {pl : Sem Bool} {Q : Value × List Value → Shared → Prop} (h : Q (.builtin "str.encode", [.str x t]) s) : wpAny M A (getMethod (.str x t) (Str.ofString "encode") pl) Q E s := by
  with_reducible exact getMethod_builtin (typeIs_str _ _ _) F.plainAttrs_str F.slot_str_encode F.type_str_encode (fun _ e => nomatch e) h
theorem decode_method {b : Array UInt8} {t : Tok} {pl : Sem Bool} {Q : Value × List Value → Shared → Prop} (h : Q (.builtin "bytes.decode", [.bytes b t]) s) : wpAny M A (getMethod (.bytes b t) (Str.ofString "decode") pl) Q E s := PySem.W.KBd.method h
theorem loop_n {α β : Type} {f : α → β → Sem (ForInStep β)} {Q : β → Shared → Prop} : ∀ (l : List α) (g : Nat → β) (_ : ∀ i, i < l.length → ∀ a (R : ForInStep β → Shared → Prop), R (.yield (g (i + 1))) s → wpAny M A (f a (g i)) R E s) (_ : Q (g l.length) s), wpAny M A (forIn l (g 0) f) Q E s
  | [], g, _, h => by rw [List.forIn_nil]; exact wpAny_pure h
  | a :: l, g, hf, h => by
    rw [List.forIn_cons]
    refine wpAny_bind (hf 0 (by simp) a _ ?_)
    exact loop_n l (fun i => g (i + 1)) (fun i hi => hf (i + 1) (by simpa using hi)) h
theorem decoder_wp {b : Array UInt8} (hsz : b.size ≤ 1048576) (hb : ∀ c ∈ b.toList, c.toNat < 128) {id : String} {Q : Array Nat × Nat → Shared → Prop} (h : Q (b.map (·.toNat), b.size) s) : wpAny M A (runDecoder id asciiDecoder none true b 0 []) Q E s := by
  unfold runDecoder
  simp only [Std.Legacy.Range.forIn_eq_forIn_range']
  have hl : (List.range' 0 [:b.size].size 1).length = b.size := by rw [List.length_range']; simp [Std.Legacy.Range.size]
  have h00 : ((0, #[], {}) : Nat × Array Nat × Faults) = (fun i => (i, (b.map (·.toNat)).extract 0 i, ({} : Faults))) 0 := by simp
  rw [h00]
  refine wpAny_bind (loop_n _ (fun i => (i, (b.map (·.toNat)).extract 0 i, ({} : Faults))) (fun i hi a R hR => ?_) ?_)
  · have hi' : i < b.size := by rw [hl] at hi; exact hi
    dsimp only
    rw [if_neg (by rw [sizeLine_eq]; simp; omega), if_neg (by omega)]
    have e : asciiDecoder.find true b i = .text [(b.getD i 0).toNat] (i + 1) := by
      show (if (b.getD i 0).toNat < 128 then Found.char (b.getD i 0).toNat (i + 1) else _) = _
      have : (b.getD i 0) = b[i] := by simp [hi']
      rw [this, if_pos (hb _ (Array.mem_toList_iff.mpr (Array.getElem_mem hi')))]; rfl
    rw [e]
    refine wpAny_pure ?_
    have e2 : (b.map (·.toNat)).extract 0 (i + 1) = (b.map (·.toNat)).extract 0 i ++ [(b.getD i 0).toNat].toArray := by
      have : (b.getD i 0) = b[i] := by simp [hi']
      rw [this]
      apply Array.ext'
      simp [List.take_add_one, hi']
    rw [e2] at hR
    exact hR
  · rw [hl]
    refine wpAny_pure ?_
    have : (b.map (·.toNat)).extract 0 b.size = b.map (·.toNat) := by rw [show b.size = (b.map (·.toNat)).size by simp]; simp
    dsimp only
    rw [this]
    exact h
theorem road_ascii {id : String} {b : Array UInt8} : decodeRoad id b (Str.ofString "ascii") none [] = (runDecoder id asciiDecoder none true b 0 [] >>= fun r => mkStr ⟨r.1⟩) := by kernel_rfl
theorem decode_tree {c : UInt8} {cs : List UInt8} {t u : Tok} : Builtin.«bytes.decode» ⟨[.bytes (c :: cs).toArray t, .str (Str.ofString "ascii") u], []⟩ = (mkStr (Str.ofString "utf-8") >>= fun _ => mkStr (Str.ofString "ascii") >>= fun e => mkStr (Str.ofString "bytes.decode") >>= fun d =>
    call (.builtin "_codecs.decode.text") [.bytes (c :: cs).toArray t, e, .none, d] >>= fun v => ret v) := by kernel_rfl
theorem meets_ascii {b : Array UInt8} {t t1 t2 : Tok} {d : PySem.Str} (hsz : b.size ≤ 1048576) (hb : ∀ c ∈ b.toList, c.toNat < 128) :
    Meets («_codecs.decode.text» ⟨[.bytes b t, .str (PySem.Str.ofString "ascii") t1, .none, .str d t2], []⟩) (fun _ R s => R (.ok (.ret (.str ⟨b.map (·.toNat)⟩ s.toks))) { s with toks := s.toks + 1 }) := by
  refine .of_wp fun prog w A R s h => ?_
  show wpAny _ _ (Bytes.bytesLike _ (.bytes b t) >>= fun r => _) _ _ s
  refine wpAny_bind (wpAny_of_eq PySem.W.KBd.like_eq ?_)
  refine wpAny_bind (wpAny_of_eq PySem.W.KBd.held_eq ?_)
  show wpAny _ _ (_codecs.decodeRoad _ b (PySem.Str.ofString "ascii") none [] >>= fun v => _) _ _ s
  rw [road_ascii]
  refine wpAny_bind (wpAny_bind (decoder_wp hsz hb ?_))
  exact wpAny_mkStr (wpAny_pure ⟨_, rfl, h⟩) (by show (b.map (·.toNat)).size ≤ _; rw [sizeLine_eq, Array.size_map]; omega)
theorem decode_call {b : Array UInt8} {t u : Tok} {Q : Value → Shared → Prop} (hne : b.size ≠ 0) (hsz : b.size ≤ 1048576) (hb : ∀ c ∈ b.toList, c.toNat < 128) (h : ∀ t' k, Q (.str ⟨b.map (·.toNat)⟩ t') { s with toks := k }) :
    wpAny (model prog w) A (call (.builtin "bytes.decode") [.bytes b t, .str (Str.ofString "ascii") u]) Q E s := by
  obtain ⟨c, cs, rfl⟩ : ∃ c cs, b = (c :: cs).toArray := by
    rcases b with ⟨l⟩
    cases l with
    | nil => exact absurd rfl hne
    | cons c cs => exact ⟨c, cs, rfl⟩
  refine wpAny_call_entry slot_bytes_decode (typeIs_bytes _ _ _) entry_bytes_decode ?_ (args_bytes_decode_2 _ _)
  rw [decode_tree]
  refine wpAny_bind (wpAny_mkStr ?_ (by decide))
  refine wpAny_bind (wpAny_mkStr ?_ (by decide))
  refine wpAny_bind (wpAny_mkStr ?_ (by decide))
  exact wpAny_bind (call_function_meets PySem.W.KBd.kind_text PySem.W.KBd.plain_text PySem.W.KBd.entry_text (PySem.W.KBd.args_text _ _ _ _) (meets_ascii hsz hb) (wpAny_pure ⟨_, rfl, h _ _⟩))
end
end Mine
end
section
open PySem PySem.W PyProof.Rows Mine
set_option maxRecDepth 100000
set_option maxHeartbeats 400000000
namespace Mine
theorem liberal_c (w : World) (x : Str) (t : Tok) (hx : x.length ≤ 1048576) :
    Ct w 101 [.str x t] [] (fun v new => new = [] ∧ v = .bool (ipSpecF x.cps).isNone) := by
  unfold Ct PG
  w_top off
  k_with_none
  (k_with "getMethod ref" => (k_here; (with_reducible show wpAny _ _ (getMethod (Value.ref 94) _ _) _ _ _); k_dflt (refine' get_search ?zqh ?_; (case zqh => exact frAt (by k_asm) (by k_asm) (by k_is)))))
  (k_with "call builtin:re.Pattern.search" => (k_here; k_dflt (refine' search_walk ?zqF ?zqN ?zqa ?zqb ?zqc ?_ ?_; (case zqF => k_asm); (case zqN => k_asm); (case zqa => exact frAt (by k_asm) (by k_asm) (by k_is)); (case zqb => exact frAt (by k_asm) (by k_asm) (by k_is)); (case zqc => assumption)); all_goals first | intro hs | (intro b e hs mo tp h' F' N' l1 l2; (try k_sweep))))
  (k_with "truthy ref" => (k_here; k_dflt (refine' truthy_match ?zqh ?zqc ?_; (case zqh => exact News.get (by k_asm) (by k_mem)); (case zqc => exact rfl))))
  k_fill
  intros; rename_i hret
  try dsimp only [List.nil_append, List.cons_append] at *
  refine wpAny_call ?_
  k_dflt cell_enter
  k_steps
  all_goals (refine' hret _ [] _ _ ⟨rfl, ?eV⟩ ?eF ?eN ?eL; (case eF => k_asm); (case eN => first | k_asm | (refine' cb_drop ?cbN ?cbS; (case cbN => assumption); (case cbS => kcj_all))); (case eL => exact fun _ h => nomatch h); (case eV => ((with_reducible rename ipSpecF _ = _ => hs); rw [hs]; rfl)))
end Mine
end
section
open PySem PySem.W PyProof.Rows Mine PySem.Builtin PySem.Builtin.Str
set_option maxRecDepth 100000
set_option maxHeartbeats 400000000
namespace Mine
noncomputable def find4 (x y : Str) (i e : Int) : Int := match occurrences x y (fromIndex x.length i) (min (fromIndex x.length e) x.length) 1 with | k :: _ => (k : Int) | [] => -1
noncomputable def rfind4 (x y : Str) (i e : Int) : Int := match lastOccurrence x y (fromIndex x.length i) (min (fromIndex x.length e) x.length) with | some k => (k : Int) | none => -1
theorem gives_find4 (x y : Str) (i e : Int) (t u v z : Tok) : Gives («str.find» ⟨[.str x t, .str y u, .int i v, .int e z], []⟩) (.int (find4 x y i e)) := by
  show Gives (match occurrences x y (fromIndex x.length i) (min (fromIndex x.length e) x.length) 1 with | k :: _ => retInt k | [] => (do rule "str.find.not-found"; retInt (-1))) _
  unfold find4
  cases occurrences x y (fromIndex x.length i) (min (fromIndex x.length e) x.length) 1 with
  | nil => exact .rule (.of_eq rfl)
  | cons k _ => exact .of_eq rfl
theorem gives_rfind4 (x y : Str) (i e : Int) (t u v z : Tok) : Gives («str.rfind» ⟨[.str x t, .str y u, .int i v, .int e z], []⟩) (.int (rfind4 x y i e)) := by
  show Gives (match lastOccurrence x y (fromIndex x.length i) (min (fromIndex x.length e) x.length) with | some k => retInt k | none => (do rule "str.rfind.not-found"; retInt (-1))) _
  unfold rfind4
  cases lastOccurrence x y (fromIndex x.length i) (min (fromIndex x.length e) x.length) with
  | none => exact .rule (.of_eq rfl)
  | some k => exact .of_eq rfl
section
variable {prog : Program} {w : World} {A : Around} {E : Value → Shared → Prop} {s : Shared} {x y : Str} {t u v z : Tok} {i e : Int} {Q : Value → Shared → Prop}
theorem call_find4 (hq : Q (.int (find4 x y i e) s.toks) { s with toks := s.toks + 1 }) : wpAny (model prog w) A (call (.builtin "str.find") [.str x t, .str y u, .int i v, .int e z]) Q E s :=
  call_gives slot_str_find (typeIs_str _ _ _) entry_str_find (args_str_find_4 _ _ _ _) (gives_find4 x y i e t u v z) hq
theorem call_rfind4 (hq : Q (.int (rfind4 x y i e) s.toks) { s with toks := s.toks + 1 }) : wpAny (model prog w) A (call (.builtin "str.rfind") [.str x t, .str y u, .int i v, .int e z]) Q E s :=
  call_gives slot_str_rfind (typeIs_str _ _ _) entry_str_rfind (args_str_rfind_4 _ _ _ _) (gives_rfind4 x y i e t u v z) hq
end
noncomputable def pickI (a b c : Int) : Int := if 0 ≤ a then b else c
noncomputable def stripF (x : Str) : Str :=
  let e1 := pickI (Txt.find x (Str.ofString "\n")) (Txt.find x (Str.ofString "\n")) x.length
  let e2 := pickI (find4 x (Str.ofString ":") 0 e1) (find4 x (Str.ofString ":") 0 e1) e1
  let st := pickI (rfind4 x (Str.ofString ".") 0 e2) (rfind4 x (Str.ofString ".") 0 e2 + 1) 0
  Txt.slice x (some st) (some e2)
theorem pick_of {a b c r : Int} (h : 0 ≤ a ∧ r = b ∨ ¬ 0 ≤ a ∧ r = c) : r = pickI a b c := by
  unfold pickI
  rcases h with ⟨h, e⟩ | ⟨h, e⟩
  · rw [if_pos h, e]
  · rw [if_neg h, e]
theorem strip_c (w : World) (x : Str) (t : Tok) (hx : x.length ≤ 1048576) :
    Ct w 50 [.str x t] [] (fun v new => new = [] ∧ ∃ t', v = .str (stripF x) t') := by
  unfold Ct PG
  w_top off
  k_with_none
  (k_with "call builtin:str.find" => (k_here; (with_reducible show wpAny _ _ (call (Value.builtin "str.find") [Value.str _ _, Value.str _ _, Value.int _ _, Value.int _ _]) _ _ _); refine call_find4 ?_))
  (k_with "call builtin:str.rfind" => (k_here; (with_reducible show wpAny _ _ (call (Value.builtin "str.rfind") [Value.str _ _, Value.str _ _, Value.int _ _, Value.int _ _]) _ _ _); refine call_rfind4 ?_))
  k_fill
  intros; rename_i hret
  try dsimp only [List.nil_append, List.cons_append] at *
  refine wpAny_call ?_
  k_dflt cell_enter
  k_steps
  all_goals (refine' hret _ [] _ _ ⟨rfl, _, congrArg (fun z => Value.str z _) ?eV⟩ ?eF ?eN ?eL; (case eF => k_asm); (case eN => first | k_asm | (refine' cb_drop ?cbN ?cbS; (case cbN => assumption); (case cbS => kcj_all))); (case eL => exact fun _ h => nomatch h); (case eV => ((with_reducible rename _ ∨ _ => hr9); (have h1 := pick_of hr9); unfold stripF; dsimp only; rw [← h1]; clear h1 hr9; simp only [pickI, *, if_true, if_false])))
end Mine
end
section
open PySem PySem.W PyProof.Rows Mine
set_option maxRecDepth 100000
set_option maxHeartbeats 400000000
namespace Mine
theorem unmatched_c (w : World) (x : Str) (t : Tok) (hx : x.length ≤ 1048576) (mo tp : Addr) (b e : Nat) (hbe : b ≤ e) (hes : e ≤ x.cps.size) :
    Ct w 89 [.ref mo] [(mo, matchOf (.str x t) (.ref 94) x.cps.size (-1) tp), (tp, tupOf #[.int b 0, .int e 0])] (fun v new => new = [] ∧ ∃ t', v = .str (Txt.slice x none (some (b : Int)) ++ Txt.slice x (some (e : Int)) none) t') := by
  unfold Ct PG
  w_top off
  k_with_none
  (k_with "getMethod ref" => (k_here; (with_reducible show wpAny _ _ (getMethod (Value.ref _) (PySem.Str.ofString "span") _) _ _ _); k_dflt (refine' get_span ?zqh ?_; (case zqh => exact News.get (by k_asm) (by k_mem)))))
  (k_with "call builtin:re.Match.span" => (k_here; k_dflt (refine' span_walk ?zqF ?zqN ?zqa ?zqb ?_; (case zqF => k_asm); (case zqN => k_asm); (case zqa => k_mem); (case zqb => k_mem)); intro sp h' t1 t2 tk F' N' l1; (try k_sweep)))
  (k_with "getAttr ref" => (k_here; (with_reducible show wpAny _ _ (getAttr (Value.ref _) (PySem.Str.ofString "string") _) _ _ _); k_dflt (refine' mstring_attr ?zqh ?zqc ?zqd ?zqe ?_; (case zqh => exact News.get (by k_asm) (by k_mem)); (case zqc => exact rfl); (case zqd => exact rfl); (case zqe => exact rfl))))
  k_fill
  intros; rename_i hret
  try dsimp only [List.nil_append, List.cons_append] at *
  refine wpAny_call ?_
  k_dflt cell_enter
  k_steps
  all_goals (refine' hret _ [] _ _ ⟨rfl, ?eV⟩ ?eF ?eN ?eL; (case eF => k_asm); (case eN => first | k_asm | (refine' cb_drop ?cbN ?cbS; (case cbN => assumption); (case cbS => kcj_all))); (case eL => exact fun _ h => nomatch h); (case eV => exact ⟨_, rfl⟩))
end Mine
end
section
open PySem PySem.W PyProof.Rows Mine
set_option maxRecDepth 100000
set_option maxHeartbeats 400000000
namespace Mine
theorem lt_one {D : Addr} {o : Obj} {news : Led} (h : AllLt D news) : ∀ p ∈ [(D, o)], ∀ q ∈ news, q.1 < p.1 := by
  intro p hp q hq
  rw [List.mem_singleton.mp hp]
  exact ktn_ltOf h q hq
theorem lt_one' {D : Addr} {o : Obj} {news : Led} (h : ∀ p ∈ news, p.1 < D) : ∀ p ∈ [(D, o)], ∀ q ∈ news, q.1 < p.1 := by
  intro p hp q hq
  rw [List.mem_singleton.mp hp]
  exact h q hq
noncomputable def FlIs (x : Array Nat) (o : Option (Nat × Nat)) : Prop := flSpec x = o
theorem fl_yes {x : Array Nat} {b e : Nat} (hs : flSpec x = none) (hn : FlIs x (some (b, e))) : False := by unfold FlIs at hn; rw [hs] at hn; cases hn
theorem fl_no {x : Array Nat} {b e : Nat} (hs : flSpec x = some (b, e)) (hn : FlIs x none) : False := by unfold FlIs at hn; rw [hs] at hn; cases hn
theorem fl_inj {x : Array Nat} {b e B E : Nat} (hs : flSpec x = some (b, e)) (hn : FlIs x (some (B, E))) : b = B ∧ e = E := by unfold FlIs at hn; rw [hs] at hn; exact Prod.mk.inj (Option.some.inj hn)
section
variable {prog : Program} {w : World} {A : Around} {E : Value → Shared → Prop} {s : Shared} {h₀ : Heap} {L : Addr} {m : Str → Option Value} {news : Led}
theorem match_none {x : Array UInt8} {t : Tok} {Q : Value → Shared → Prop} (F : Fr h₀ L s.heap m) (N : News h₀ L s.heap news) (h36 : s.heap.get? 36 = some flPat) (h35 : s.heap.get? 35 = some (tupOf flCodeV)) (hsz : x.size ≤ 1048576)
    (hn : FlIs (x.map (·.toNat)) none) (h : Q .none s) : wpAny (model prog w) A (call (.builtin "re.Pattern.match") [.ref 36, .bytes x t]) Q E s :=
  match_walk F N h36 h35 hsz (fun _ => h) (fun _ _ hs _ _ _ _ _ _ _ _ _ _ => absurd (fl_no hs hn) id)
theorem match_some {x : Array UInt8} {t : Tok} {b e : Nat} {Q : Value → Shared → Prop} (F : Fr h₀ L s.heap m) (N : News h₀ L s.heap news) (h36 : s.heap.get? 36 = some flPat) (h35 : s.heap.get? 35 = some (tupOf flCodeV)) (hsz : x.size ≤ 1048576)
    (hn : FlIs (x.map (·.toNat)) (some (b, e))) (h : ∀ (m0 m1 : Nat) (la : Int) mo tp h', Fr h₀ L h' m → News h₀ L h' ((mo, matchOf (.bytes x t) (.ref 36) x.size la tp) :: (tp, tupOf #[.int m0 0, .int m1 0, .int b 0, .int e 0]) :: news) → (∀ p ∈ news, p.1 < tp) → tp < mo → Q (.ref mo) { s with heap := h' }) :
    wpAny (model prog w) A (call (.builtin "re.Pattern.match") [.ref 36, .bytes x t]) Q E s :=
  match_walk F N h36 h35 hsz (fun hs => absurd (fl_yes hs hn) id) (fun _ _ hs => by obtain ⟨rfl, rfl⟩ := fl_inj hs hn; exact h)
end
theorem ext_le {x : Array UInt8} {b e : Nat} (h : x.size ≤ 1048576) : (x.extract b e).size ≤ 16777216 := by rw [Array.size_extract]; omega
theorem ext_le' {x : Array UInt8} {b e : Nat} (h : x.size ≤ 1048576) : (x.extract b e).size ≤ 1048576 := by rw [Array.size_extract]; omega
theorem get_split {prog : Program} {w : World} {A : Around} {E : Value → Shared → Prop} {s : Shared} {b : Array UInt8} {t : Tok} {pl : Sem Bool} {Q : Value × List Value → Shared → Prop} (h : Q (.builtin "bytes.split", [.bytes b t]) s) : wpAny (model prog w) A (getMethod (.bytes b t) "split" pl) Q E s :=
  getMethod_builtin (typeIs_bytes _ _ _) plain_bytes slot_bytes_split type_bytes_split (fun a e => nomatch e) h
theorem pf_none_c (w : World) (x : Array UInt8) (t : Tok) (hx : x.size ≤ 1048576) (hn : FlIs (x.map (·.toNat)) none) :
    Ct w 43 [.bytes x t] [] (fun v new => ∃ tp, v = .ref tp ∧ new = [(tp, tupOf #[])]) := by
  unfold Ct PG
  w_top off
  k_with_none
  (k_with "getMethod ref" => (k_here; (with_reducible show wpAny _ _ (getMethod (Value.ref 36) _ _) _ _ _); k_dflt (refine' get_match ?zqh ?_; (case zqh => exact frAt (by k_asm) (by k_asm) (by k_is)))))
  (k_with "getMethod ref" => (k_here; (with_reducible show wpAny _ _ (getMethod (Value.ref _) (PySem.Str.ofString "group") _) _ _ _); k_dflt (refine' get_group ?zqh ?_; (case zqh => exact News.get (by k_asm) (by k_mem)))))
  (k_with "truthy ref" => (k_here; k_dflt (refine' truthy_match ?zqh ?zqc ?_; (case zqh => exact News.get (by k_asm) (by k_mem)); (case zqc => exact rfl))))
  (k_with "call builtin:re.Match.group" => (k_here; k_dflt (refine' group_call ?zqa ?zqb ?zqc ?zqd ?zqe ?_; (case zqa => exact News.get (by k_asm) (by k_mem)); (case zqb => exact News.get (by k_asm) (by k_mem)); (case zqc => exact frAt (by k_asm) (by k_asm) (by k_is)); (case zqd => exact frAt (by k_asm) (by k_asm) (by k_is)); (case zqe => exact ext_le (by assumption))); intro tk'))
  (k_with "getMethod bytes" => (k_here; (with_reducible show wpAny _ _ (getMethod (Value.bytes _ _) (PySem.Str.ofString "split") _) _ _ _); refine get_split ?_))
  (k_with "call builtin:bytes.split" => (k_here; k_dflt (refine' split_call ?zqF ?zqN ?zqa ?zqb ?zqc ?zqd ?_; (case zqF => k_asm); (case zqN => k_asm); (case zqa => exact ext_le' (by assumption)); (case zqb => exact (by assumption)); (case zqc => exact (by assumption)); (case zqd => exact (by assumption))); intro l h' t0 t1 t2 t3 tk F' N' l1; (try k_sweep)))
  (k_with "call builtin:re.Pattern.match" => (k_here; k_dflt (refine' match_none ?zqF ?zqN ?zqa ?zqb ?zqc ?zqd ?_; (case zqF => k_asm); (case zqN => k_asm); (case zqa => exact frAt (by k_asm) (by k_asm) (by k_is)); (case zqb => exact frAt (by k_asm) (by k_asm) (by k_is)); (case zqc => assumption); (case zqd => assumption))))
  k_fill
  intros; rename_i hret
  try dsimp only [List.nil_append, List.cons_append] at *
  refine wpAny_call ?_
  k_dflt cell_enter
  k_steps
  refine' hret _ [_] _ _ ⟨_, rfl, rfl⟩ ?eF ?eN ?eL
  case eF => k_asm
  case eN => k_asm
  case eL => first | exact lt_one' (by assumption) | exact lt_one (by assumption)
theorem pf_some_c (w : World) (x : Array UInt8) (t : Tok) (hx : x.size ≤ 1048576) (B E : Nat) (hn : FlIs (x.map (·.toNat)) (some (B, E))) (w0 w1 w2 w3 : List UInt8) (hsp : (x.extract B E).any Builtin.Bytes.isSpace = true)
   (hw : Builtin.Bytes.words ((x.extract B E).size + 1) ((x.extract B E).size + 1) (x.extract B E).toList = [w0, w1, w2, w3]) (hl : ∀ w ∈ [w0, w1, w2, w3], w.length ≤ 1048576) :
    Ct w 43 [.bytes x t] [] (fun v new => ∃ tp t0 t1 t2 t3, v = .ref tp ∧ new = [(tp, tupOf #[.bytes w0.toArray t0, .bytes w1.toArray t1, .bytes w2.toArray t2, .bytes w3.toArray t3])]) := by
  unfold Ct PG
  w_top off
  k_with_none
  (k_with "getMethod ref" => (k_here; (with_reducible show wpAny _ _ (getMethod (Value.ref 36) _ _) _ _ _); k_dflt (refine' get_match ?zqh ?_; (case zqh => exact frAt (by k_asm) (by k_asm) (by k_is)))))
  (k_with "getMethod ref" => (k_here; (with_reducible show wpAny _ _ (getMethod (Value.ref _) (PySem.Str.ofString "group") _) _ _ _); k_dflt (refine' get_group ?zqh ?_; (case zqh => exact News.get (by k_asm) (by k_mem)))))
  (k_with "truthy ref" => (k_here; k_dflt (refine' truthy_match ?zqh ?zqc ?_; (case zqh => exact News.get (by k_asm) (by k_mem)); (case zqc => exact rfl))))
  (k_with "call builtin:re.Match.group" => (k_here; k_dflt (refine' group_call ?zqa ?zqb ?zqc ?zqd ?zqe ?_; (case zqa => exact News.get (by k_asm) (by k_mem)); (case zqb => exact News.get (by k_asm) (by k_mem)); (case zqc => exact frAt (by k_asm) (by k_asm) (by k_is)); (case zqd => exact frAt (by k_asm) (by k_asm) (by k_is)); (case zqe => exact ext_le (by assumption))); intro tk'))
  (k_with "getMethod bytes" => (k_here; (with_reducible show wpAny _ _ (getMethod (Value.bytes _ _) (PySem.Str.ofString "split") _) _ _ _); refine get_split ?_))
  (k_with "call builtin:bytes.split" => (k_here; k_dflt (refine' split_call ?zqF ?zqN ?zqa ?zqb ?zqc ?zqd ?_; (case zqF => k_asm); (case zqN => k_asm); (case zqa => exact ext_le' (by assumption)); (case zqb => exact (by assumption)); (case zqc => exact (by assumption)); (case zqd => exact (by assumption))); intro l h' t0 t1 t2 t3 tk F' N' l1; (try k_sweep)))
  (k_with "call builtin:re.Pattern.match" => (k_here; k_dflt (refine' match_none ?zqF ?zqN ?zqa ?zqb ?zqc ?zqd ?_; (case zqF => k_asm); (case zqN => k_asm); (case zqa => exact frAt (by k_asm) (by k_asm) (by k_is)); (case zqb => exact frAt (by k_asm) (by k_asm) (by k_is)); (case zqc => assumption); (case zqd => assumption))))
  (k_with "call builtin:re.Pattern.match" => (k_here; k_dflt (refine' match_some ?zqF ?zqN ?zqa ?zqb ?zqc ?zqd ?_; (case zqF => k_asm); (case zqN => k_asm); (case zqa => exact frAt (by k_asm) (by k_asm) (by k_is)); (case zqb => exact frAt (by k_asm) (by k_asm) (by k_is)); (case zqc => assumption); (case zqd => assumption)); intro m0 m1 la mo tp h' F' N' l1 l2; (try k_sweep)))
  k_fill
  intros; rename_i hret
  try dsimp only [List.nil_append, List.cons_append] at *
  refine wpAny_call ?_
  k_dflt cell_enter
  k_steps
  refine' hret _ [_] _ _ ⟨_, _, _, _, _, rfl, rfl⟩ ?eF ?eN ?eL
  case eF => k_asm
  case eN => (refine' cb_drop ?cbN ?cbS; (case cbN => assumption); (case cbS => kcj_all))
  case eL => (with_reducible rename _ ∧ _ ∧ _ ∧ AllLt _ _ => hlt9); exact lt_one hlt9.2.2.2
end Mine
end
section
open PySem PySem.W PyProof.Rows Mine
set_option maxRecDepth 100000
set_option maxHeartbeats 400000000
namespace Mine
noncomputable def pgoF : Nat → Str → Int → Str → Str
  | 0, _, _, d => d
  | f + 1, x, i, d => if i < x.length then
      (if (Txt.item x i == Str.ofString "\"") = true then
        (if x.length ≤ i + 1 ∨ (Txt.item x (i + 1) == Str.ofString "\"") = false then d else pgoF f x (i + 1 + 1) (d ++ Txt.item x i))
      else pgoF f x (i + 1) (d ++ Txt.item x i))
    else d
theorem pgoF_succ (f : Nat) (x : Str) (i : Int) (d : Str) : pgoF (f + 1) x i d = if i < x.length then
      (if (Txt.item x i == Str.ofString "\"") = true then
        (if x.length ≤ i + 1 ∨ (Txt.item x (i + 1) == Str.ofString "\"") = false then d else pgoF f x (i + 1 + 1) (d ++ Txt.item x i))
      else pgoF f x (i + 1) (d ++ Txt.item x i))
    else d := rfl
noncomputable def parseF (x : Str) : Str := pgoF (x.length + 1) x 5 (Str.ofString "")
noncomputable def PJ (x : Str) (i : Int) (d : Str) : Prop := ∃ f : Nat, (x.length : Int) - i < f ∧ pgoF f x i d = parseF x
theorem pj_start {x : Str} (h : 5 ≤ x.length) : (5 : Int) ≤ 5 ∧ (5 : Int) ≤ (x.length : Int) ∧ ((Str.ofString "").length : Int) ≤ 5 ∧ PJ x 5 (Str.ofString "") :=
  ⟨Int.le_refl _, by omega, by decide, x.length + 1, by omega, rfl⟩
section
variable {x d : Str} {i : Int}
theorem pj_two (h1 : 5 ≤ i) (_h2 : i ≤ (x.length : Int)) (h3 : (d.length : Int) ≤ i) (hj : PJ x i d) (h4 : i < (x.length : Int)) (h5 : 1 ≤ (Txt.item x i).length ∧ (Txt.item x i).length ≤ 1) (h6 : (Txt.item x i == Str.ofString "\"") = true) (h7 : ¬ (x.length : Int) ≤ i + 1)
    (h8 : (Txt.item x (i + 1) != Str.ofString "\"") = false) (h9 : d.length + (Txt.item x i).length ≤ (d ++ Txt.item x i).length ∧ (d ++ Txt.item x i).length ≤ d.length + (Txt.item x i).length) :
    5 ≤ i + 1 + 1 ∧ i + 1 + 1 ≤ (x.length : Int) ∧ ((d ++ Txt.item x i).length : Int) ≤ i + 1 + 1 ∧ PJ x (i + 1 + 1) (d ++ Txt.item x i) := by
  refine ⟨by omega, by omega, by omega, ?_⟩
  obtain ⟨f, hf, e⟩ := hj
  cases f with
  | zero => omega
  | succ f =>
    refine ⟨f, by omega, ?_⟩
    rw [← e]
    have h8' : (Txt.item x (i + 1) == Str.ofString "\"") = true := by simpa [bne] using h8
    rw [pgoF_succ, if_pos h4, if_pos h6, if_neg (by rw [h8']; simp; omega)]
theorem pj_one (h1 : 5 ≤ i) (_h2 : i ≤ (x.length : Int)) (h3 : (d.length : Int) ≤ i) (hj : PJ x i d) (h4 : i < (x.length : Int)) (h5 : 1 ≤ (Txt.item x i).length ∧ (Txt.item x i).length ≤ 1) (h6 : (Txt.item x i == Str.ofString "\"") = false)
    (h9 : d.length + (Txt.item x i).length ≤ (d ++ Txt.item x i).length ∧ (d ++ Txt.item x i).length ≤ d.length + (Txt.item x i).length) :
    5 ≤ i + 1 ∧ i + 1 ≤ (x.length : Int) ∧ ((d ++ Txt.item x i).length : Int) ≤ i + 1 ∧ PJ x (i + 1) (d ++ Txt.item x i) := by
  refine ⟨by omega, by omega, by omega, ?_⟩
  obtain ⟨f, hf, e⟩ := hj
  cases f with
  | zero => omega
  | succ f =>
    refine ⟨f, by omega, ?_⟩
    rw [← e]
    rw [pgoF_succ, if_pos h4, if_neg (by rw [h6]; decide)]
theorem pj_endA (hj : PJ x i d) (h4 : i < (x.length : Int)) (h6 : (Txt.item x i == Str.ofString "\"") = true) (h7 : (x.length : Int) ≤ i + 1) : d = parseF x := by
  obtain ⟨f, hf, e⟩ := hj
  cases f with
  | zero => omega
  | succ f => rw [← e, pgoF_succ]; rw [if_pos h4, if_pos h6, if_pos (.inl h7)]
theorem pj_endB (hj : PJ x i d) (h4 : i < (x.length : Int)) (h6 : (Txt.item x i == Str.ofString "\"") = true) (h8 : (Txt.item x (i + 1) != Str.ofString "\"") = true) : d = parseF x := by
  obtain ⟨f, hf, e⟩ := hj
  cases f with
  | zero => omega
  | succ f => rw [← e, pgoF_succ]; rw [if_pos h4, if_pos h6, if_pos (.inr (by simpa [bne] using h8))]
theorem pj_endC (hj : PJ x i d) (h2 : i ≤ (x.length : Int)) (h4 : ¬ i < (x.length : Int)) : d = parseF x := by
  obtain ⟨f, hf, e⟩ := hj
  cases f with
  | zero => omega
  | succ f => rw [← e, pgoF_succ]; rw [if_neg h4]
theorem no_257 {x : Str} {P : Prop} (h3 : (Txt.slice x none (some 3) == Str.ofString "257") = true) (h : (Txt.slice x none (some 3) != Str.ofString "257") = true) : P := by
  exfalso; rw [bne, h3] at h; cases h
theorem pick_yes {x y : Str} (h : (Txt.slice x (some 3) (some 5) != Str.ofString " \"") = false) : y = (if (Txt.slice x (some 3) (some 5) == Str.ofString " \"") = true then y else Str.ofString "") := by
  rw [if_pos (by simpa [bne] using h)]
theorem pick_no {x y : Str} (h : (Txt.slice x (some 3) (some 5) != Str.ofString " \"") = true) : Str.ofString "" = (if (Txt.slice x (some 3) (some 5) == Str.ofString " \"") = true then y else Str.ofString "") := by
  rw [if_neg (by simpa [bne] using h)]
end
theorem parse_c (w : World) (x : Str) (t : Tok) (hx : x.length ≤ 200) (h5 : 5 ≤ x.length) (h3 : (Txt.slice x none (some 3) == Str.ofString "257") = true) :
    Ct w 82 [.str x t] [] (fun v new => new = [] ∧ ∃ t', v = .str (if (Txt.slice x (some 3) (some 5) == Str.ofString " \"") = true then parseF x else Str.ofString "") t') := by
  unfold Ct PG
  w_top off
  k_with_none
  k_fill
  intros; rename_i hret
  try dsimp only [List.nil_append, List.cons_append] at *
  refine wpAny_call ?_
  k_dflt cell_enter
  (k_with "state" => first | exact pj_start (by assumption) | exact pj_two (by assumption) (by assumption) (by assumption) (by assumption) (by assumption) (by assumption) (by assumption) (by assumption) (by assumption) (by assumption) | exact pj_one (by assumption) (by assumption) (by assumption) (by assumption) (by assumption) (by assumption) (by assumption) (by assumption))
  (k_with "exec While Compare cons nil" => (k_while (fun _ i d => 5 ≤ i ∧ i ≤ (x.length : Int) ∧ (d.length : Int) ≤ i ∧ PJ x i d) (fun _ i _ => ((x.length : Int) - i).toNat) "i" "dirname"))
  k_steps
  all_goals first
    | exact no_257 (by assumption) (by assumption)
    | (refine' hret _ [] _ _ ⟨rfl, _, congrArg (fun z => Value.str z _) ?eV⟩ ?eF ?eN ?eL; (case eF => k_asm); (case eN => first | k_asm | (refine' cb_drop ?cbN ?cbS; (case cbN => assumption); (case cbS => kcj_all))); (case eL => exact fun _ h => nomatch h); (case eV => first | exact pick_no (by assumption) | (refine Eq.trans ?eW (pick_yes (by assumption)); (case eW => first | exact pj_endA (by assumption) (by assumption) (by assumption) (by assumption) | exact pj_endB (by assumption) (by assumption) (by assumption) (by assumption) | exact pj_endC (by assumption) (by assumption) (by assumption)))))
end Mine
end
section
open PySem PySem.W PyProof.Rows Mine
set_option maxRecDepth 100000
set_option maxHeartbeats 400000000
namespace Mine
theorem refused_c (w : World) (x : Str) (t : Tok) (hx : x.length ≤ 200) (h5 : 5 ≤ x.length) (h3 : (Txt.slice x none (some 3) != Str.ofString "257") = true) :
    CtS 1 w 134 [.str x t] [] (fun v new => new = [] ∧ v = .bool true) := by
  unfold CtS PG
  w_top off
  k_with_none
  (k_with "call ref" => (k_here; (with_reducible show wpAny _ _ (call (Value.ref 82) _ _) _ _ _); (refine wpAny_call ?_; k_dflt (refine' code_def ?zqk1 ?zqk2 ?zqk3 ?zqk4 ?zqk5 ?zqkA ?zqkF ?zqkK ?zqk6 ?zqk7 ?zqk8 ?zqk9 ?zqkB ?_ ?zqc2 ?zqc3 ?zqc4 ?zqc5; (case zqkA => exact rfl); (case zqkF => exact rfl); (case zqkK => exact rfl); (case zqk1 => k_asm); (case zqk2 => k_asm); (case zqk3 => k_asm); (case zqk4 => k_asm); (case zqk5 => k_asm); (case zqk6 => k_is); (case zqk7 => k_is); (case zqk8 => ktr_room); (case zqk9 => exact BindsTo.of_eq rfl); (case zqc5 => decide); (case zqkB => exact locs rfl); (case zqc2 => exact rfl); (case zqc3 => exact rfl); (case zqc4 => exact rfl); k_whole; intro g' L' h' FG' F' N' B' X' T'; (try dsimp only); (try k_lift B'); (try k_fold)))))
  (k_with "call type:str" => (k_here; (with_reducible show wpAny _ _ (call (Value.type "str") [Value.ref _]) _ _ _); (with_reducible rename Got _ _ _ _ _ => hG9); k_dflt (refine' str_call_own ?zqX ?zqN hG9 ?zqa ?zqb ?zqc ?_; (case zqX => exact Frag.In.keeps (by k_asm) (Fr.keep (by k_asm))); (case zqN => k_asm); (case zqa => k_is); (case zqb => k_is); (case zqc => ktr_units))))
  k_fill
  intros; rename_i hret
  try dsimp only [List.nil_append, List.cons_append] at *
  refine wpAny_call ?_
  k_dflt (refine' code_defSX ?k1 ?k2 ?k3 ?k4 ?k5 ?XB ?TB ?D ?T0 ?kA ?kF ?kK ?k6 ?k7 ?k8 ?k9 ?kB ?_ ?c2 ?c3 ?c4 ?c5; (case kA => exact rfl); (case kF => exact rfl); (case kK => assumption); (case k1 => k_asm); (case k2 => k_asm); (case k3 => k_asm); (case k4 => k_asm); (case k5 => k_asm); (case XB => k_asm); (case TB => k_asm); (case D => k_asm); (case T0 => exact KtsTurn.refl); (case k6 => k_is); (case k7 => k_is); (case k8 => ktr_room); (case k9 => exact BindsTo.of_eq rfl); (case c5 => decide); (case kB => exact locs rfl); (case c2 => exact rfl); (case c3 => exact rfl); (case c4 => exact rfl); k_whole; intro g' L' h' FG' F' N' B' X' T' D'; (try dsimp only); (try k_lift B'); (try k_fold))
  k_steps
  all_goals (refine' hret _ [] _ _ _ ⟨rfl, ?eV⟩ ?eT ?eF ?eN ?eL ?eB ?eX ?eP ?eD; (case eF => k_asm); (case eT => k_asm); (case eN => first | k_asm | (refine' cb_drop ?cbN ?cbS; (case cbN => assumption); (case cbS => kcj_all))); (case eL => exact fun _ h => nomatch h); (case eB => k_asm); (case eX => k_asm); (case eP => k_asm); (case eD => k_asm); (case eV => simp))
end Mine
end
section
open PySem PySem.W PyProof.Rows
set_option maxRecDepth 100000
namespace Mine
theorem slice_pre {a y : Str} {i j : Nat} (hij : i ≤ j) (hj : j ≤ a.length) : Txt.slice (a ++ y) (some (i : Int)) (some (j : Int)) = Txt.slice a (some (i : Int)) (some (j : Int)) := by
  show StrLaws.sliceText (a ++ y) (some (i : Int)) (some (j : Int)) = StrLaws.sliceText a (some (i : Int)) (some (j : Int))
  have hj' : j ≤ a.cps.toList.length := by simpa [Str.length] using hj
  rw [StrLaws.sliceText_nat _ hij (by rw [Str.length_append]; omega), StrLaws.sliceText_nat _ hij hj]
  congr 1
  rw [Str.cps_append, Array.toList_append, List.drop_append_of_le_length (by omega), List.take_append_of_le_length (by rw [List.length_drop]; omega)]
theorem slice_pre0 {a y : Str} {j : Nat} (hj : j ≤ a.length) : Txt.slice (a ++ y) none (some (j : Int)) = Txt.slice a none (some (j : Int)) := by
  have e : ∀ x : Str, Txt.slice x none (some (j : Int)) = Txt.slice x (some ((0 : Nat) : Int)) (some (j : Int)) := fun x => by
    show StrLaws.sliceText x none (some (j : Int)) = StrLaws.sliceText x (some 0) (some (j : Int))
    unfold StrLaws.sliceText
    rw [StrLaws.sliceIdx_none_lo]
  rw [e, e]
  exact slice_pre (Nat.zero_le _) hj
theorem item_len {x : Str} {i : Int} : (Txt.item x i).length = 1 := len_item x i
theorem pgoF_len (x : Str) : ∀ (f : Nat) (i : Int) (d : Str), 0 ≤ i → i ≤ (x.length : Int) → (d.length : Int) ≤ i → ((pgoF f x i d).length : Int) ≤ x.length
  | 0, i, d, h0, h1, h2 => by unfold pgoF; omega
  | f + 1, i, d, h0, h1, h2 => by
    rw [pgoF_succ]
    split
    · split
      · split
        · omega
        · rename_i hn
          have hn' : ¬ ((x.length : Int) ≤ i + 1) := fun h => hn (.inl h)
          exact pgoF_len x f _ _ (by omega) (by omega) (by rw [Str.length_append, item_len]; omega)
      · exact pgoF_len x f _ _ (by omega) (by omega) (by rw [Str.length_append, item_len]; omega)
    · omega
theorem parseF_len {x : Str} (h : 5 ≤ x.length) : (parseF x).length ≤ x.length := by
  have := pgoF_len x (x.length + 1) 5 (Str.ofString "") (by omega) (by omega) (by decide)
  unfold parseF; omega
/-- a text that opens with a -/
theorem pre257 {a y : Str} (ha : 3 ≤ a.length) (h : (Txt.slice a none (some 3) == Str.ofString "257") = true) : (Txt.slice (a ++ y) none (some 3) == Str.ofString "257") = true := by
  rw [show ((3 : Int)) = ((3 : Nat) : Int) from rfl] at h ⊢
  rw [slice_pre0 ha]; exact h
theorem preNo {a y : Str} (ha : 3 ≤ a.length) (h : (Txt.slice a none (some 3) != Str.ofString "257") = true) : (Txt.slice (a ++ y) none (some 3) != Str.ofString "257") = true := by
  rw [show ((3 : Int)) = ((3 : Nat) : Int) from rfl] at h ⊢
  rw [slice_pre0 ha]; exact h
end Mine
namespace Mine
noncomputable def pick3 (x y z : Str) (c : Int) : Str := [x, y, z].getD (c.fmod 3).toNat Str.empty
theorem fmod3 (c : Int) : c.fmod 3 = 0 ∨ c.fmod 3 = 1 ∨ c.fmod 3 = 2 := by
  rw [Int.fmod_eq_emod_of_nonneg _ (by decide : (0 : Int) ≤ 3)]; omega
theorem pick3_or (x y z : Str) (c : Int) : pick3 x y z c = x ∨ pick3 x y z c = y ∨ pick3 x y z c = z := by
  unfold pick3
  rcases fmod3 c with h | h | h <;> rw [h]
  · exact .inl rfl
  · exact .inr (.inl rfl)
  · exact .inr (.inr rfl)
section
variable {prog : Program} {w : World} {A : Around} {E : Value → Shared → Prop} {s : Shared} {h₀ : Heap} {L : Addr} {m : Str → Option Value} {news : Led}
theorem item3 {value slice : PySem.Expr} {l : Addr} {n : Nat} {x y z : Str} {tx ty tz u : Tok} {c : Int} {Q : Value → Shared → Prop} (N : News h₀ L s.heap news) (hm : (l, listOf #[.str x tx, .str y ty, .str z tz] n) ∈ news)
    (hxyz : x.length ≤ 7 ∧ y.length ≤ 7 ∧ z.length ≤ 7) (h : ∀ t', (pick3 x y z c).length ≤ 7 → Q (.str (pick3 x y z c) t') s) (hs : subscripted slice false (.ref l) (.int (c.fmod 3) u) = operate [.ref l, .int (c.fmod 3) u] (getItem (.ref l) (.int (c.fmod 3) u)) := by with_unfolding_all rfl) :
    wpAny (model prog w) A (subscriptTail value slice (.ref l) (.int (c.fmod 3) u)) Q E s := by
  have hb : 0 ≤ c.fmod 3 ∧ c.fmod 3 < 3 := by rcases fmod3 c with h | h | h <;> omega
  exact KTb.item_list (vs := [.str x tx, .str y ty, .str z tz]) (ws := [x, y, z]) (News.isList N hm) (.cons _ _ (.cons _ _ (.cons _ _ .nil))) hb.1 hb.2 (by omega) (fun t' _ => h t' (by rcases pick3_or x y z c with e | e | e <;> rw [e]; exact hxyz.1; exact hxyz.2.1; exact hxyz.2.2)) hs
end
theorem menu_no {c : Int} {y : Str} : (Txt.slice (pick3 (Str.ofString "250") (Str.ofString "157") (Str.ofString "207") c ++ Str.ofString " \"" ++ y) none (some 3) != Str.ofString "257") = true := by
  rcases pick3_or (Str.ofString "250") (Str.ofString "157") (Str.ofString "207") c with h | h | h <;> rw [h] <;> exact preNo (by decide) (by decide +kernel)
theorem menu_len {c : Int} : (pick3 (Str.ofString "250") (Str.ofString "157") (Str.ofString "207") c).length = 3 := by
  rcases pick3_or (Str.ofString "250") (Str.ofString "157") (Str.ofString "207") c with h | h | h <;> rw [h] <;> decide
theorem tail_len {c : Int} : (pick3 (Str.ofString "\" to go") (Str.ofString "\"") (Str.ofString "") c).length ≤ 7 := by
  rcases pick3_or (Str.ofString "\" to go") (Str.ofString "\"") (Str.ofString "") c with h | h | h <;> rw [h] <;> decide
theorem no35 {a y : Str} (ha : 5 ≤ a.length) (h : (Txt.slice a (some 3) (some 5) == Str.ofString " \"") = false) : (Txt.slice (a ++ y) (some 3) (some 5) == Str.ofString " \"") = false := by
  have e : Txt.slice (a ++ y) (some 3) (some 5) = Txt.slice a (some 3) (some 5) := slice_pre (i := 3) (j := 5) (by decide) ha
  rw [e, h]
theorem yes35 {a y : Str} (ha : 5 ≤ a.length) (h : (Txt.slice a (some 3) (some 5) == Str.ofString " \"") = true) : (Txt.slice (a ++ y) (some 3) (some 5) == Str.ofString " \"") = true := by
  have e : Txt.slice (a ++ y) (some 3) (some 5) = Txt.slice a (some 3) (some 5) := slice_pre (i := 3) (j := 5) (by decide) ha
  rw [e, h]
/-- with a hyphen, or without a mark: no name -/
theorem parse_none_c (w : World) (x : Str) (t : Tok) (hx : x.length ≤ 200) (h5 : 5 ≤ x.length) (h3 : (Txt.slice x none (some 3) == Str.ofString "257") = true) (h35 : (Txt.slice x (some 3) (some 5) == Str.ofString " \"") = false) :
    Ct w 82 [.str x t] [] (fun v new => new = [] ∧ ∃ t', v = .str (Str.ofString "") t') := by
  have h := parse_c w x t hx h5 h3
  rw [h35] at h
  exact h
theorem parse_name_c (w : World) (x : Str) (t : Tok) (hx : x.length ≤ 200) (h5 : 5 ≤ x.length) (h3 : (Txt.slice x none (some 3) == Str.ofString "257") = true) (h35 : (Txt.slice x (some 3) (some 5) == Str.ofString " \"") = true) :
    Ct w 82 [.str x t] [] (fun v new => new = [] ∧ ∃ t', v = .str (parseF x) t') := by
  have h := parse_c w x t hx h5 h3
  rw [h35] at h
  exact h
end Mine
namespace Mine
noncomputable def hnext (c k : Int) (n : Str) : Str := parseF (Str.ofString "257 \"" ++ n ++ pick3 (Str.ofString "\" to go") (Str.ofString "\"") (Str.ofString "") (c + k))
noncomputable def hloop (c : Int) : Nat → Str → Int → Str × Int
  | 0, n, k => (n, k)
  | f + 1, n, k => if (Txt.slice n (some (-1)) none == Str.ofString "z") = true then hloop c f (hnext c k n) (k + 1) else (n, k)
noncomputable def hname (c : Int) : Str := Txt.mul (Str.ofString "\"") c ++ Str.ofString "/a z"
noncomputable def halvF (c : Int) : Str × Int := hloop c 6 (hname c) 0
noncomputable def HJ (c : Int) (n : Str) (k : Int) : Prop := hloop c (6 - k).toNat n k = halvF c
theorem quo_len {c : Int} (h : c ≤ 15) : (Txt.mul (Str.ofString "\"") c).length ≤ 15 := len_mul_one (c := 34) rfl h
theorem hnext_len {c k : Int} {n : Str} (h : (n.length : Int) ≤ 20 + 12 * k) : ((hnext c k n).length : Int) ≤ 20 + 12 * (k + 1) := by
  have h1 := tail_len (c := c + k)
  have h0 : (Str.ofString "257 \"").length = 5 := by decide
  have := parseF_len (x := Str.ofString "257 \"" ++ n ++ pick3 (Str.ofString "\" to go") (Str.ofString "\"") (Str.ofString "") (c + k)) (by rw [Str.length_append, Str.length_append]; omega)
  rw [Str.length_append, Str.length_append] at this
  unfold hnext
  omega
theorem hj_start {c : Int} (h2 : c ≤ 15) : (0 : Int) ≤ 0 ∧ (0 : Int) ≤ 6 ∧ ((Txt.mul (Str.ofString "\"") c ++ Str.ofString "/a z").length : Int) ≤ 20 + 12 * 0 ∧ HJ c (Txt.mul (Str.ofString "\"") c ++ Str.ofString "/a z") 0 := by
  refine ⟨by decide, by decide, ?_, rfl⟩
  have := quo_len h2
  have h0 : (Str.ofString "/a z").length = 4 := by decide
  rw [Str.length_append]; omega
theorem hj_step {c k : Int} {n : Str} (h0 : 0 ≤ k) (uh1 : k ≤ 6) (hl : (n.length : Int) ≤ 20 + 12 * k) (hj : HJ c n k) (hz : (Txt.slice n (some (-1)) none == Str.ofString "z") = true) (hk : k < 6) :
    0 ≤ k + 1 ∧ k + 1 ≤ 6 ∧ ((parseF (Str.ofString "257 \"" ++ n ++ pick3 (Str.ofString "\" to go") (Str.ofString "\"") (Str.ofString "") (c + k))).length : Int) ≤ 20 + 12 * (k + 1) ∧ HJ c (parseF (Str.ofString "257 \"" ++ n ++ pick3 (Str.ofString "\" to go") (Str.ofString "\"") (Str.ofString "") (c + k))) (k + 1) := by
  refine ⟨by omega, by omega, hnext_len hl, ?_⟩
  unfold HJ at hj ⊢
  rw [← hj]
  obtain ⟨f, hf⟩ : ∃ f : Nat, (6 - k).toNat = f + 1 := ⟨(6 - k).toNat - 1, by omega⟩
  have hf' : (6 - (k + 1)).toNat = f := by omega
  rw [hf, hf']
  conv => rhs; unfold hloop
  rw [if_pos hz]
  rfl
theorem hj_endA {c k : Int} {n : Str} (hj : HJ c n k) (hz : (Txt.slice n (some (-1)) none == Str.ofString "z") = false) : halvF c = (n, k) := by
  unfold HJ at hj
  rw [← hj]
  cases (6 - k).toNat with
  | zero => rfl
  | succ f => unfold hloop; rw [if_neg (by rw [hz]; decide)]
theorem hj_endB {c k : Int} {n : Str} (hj : HJ c n k) (hk : ¬ k < 6) : halvF c = (n, k) := by
  unfold HJ at hj
  rw [← hj]
  have : (6 - k).toNat = 0 := by omega
  rw [this]; rfl
end Mine
end
section
open PySem PySem.W PyProof.Rows Mine
set_option maxRecDepth 100000
set_option maxHeartbeats 400000000
namespace Mine
theorem ll0 : (Str.ofString "257-\"").length = 5 := by decide
theorem ll1 : (Str.ofString "257 z").length = 5 := by decide
theorem ll2 : (Str.ofString "257 \"").length = 5 := by decide
theorem ll3 : (Str.ofString "/a z").length = 4 := by decide
theorem ll4 : (Str.ofString "250").length = 3 := by decide
theorem ll5 : (Str.ofString "157").length = 3 := by decide
theorem ll6 : (Str.ofString "207").length = 3 := by decide
theorem ll7 : (Str.ofString " \"").length = 2 := by decide
theorem ll8 : (Str.ofString "\" to go").length = 7 := by decide
theorem ll9 : (Str.ofString "\"").length = 1 := by decide
theorem ll10 : (Str.ofString "").length = 0 := by decide
theorem ll11 : (Str.ofString "z").length = 1 := by decide
theorem tail_lenI (c : Int) : (pick3 (Str.ofString "\" to go") (Str.ofString "\"") (Str.ofString "") c).length ≤ 7 := tail_len
theorem halved_c (w : World) (c : Int) (t : Tok) (h1 : 1 ≤ c) (h2 : c ≤ 15) :
    CtS 2 w 141 [.int c t] [] (fun v new => ∃ tp t1 t2, v = .ref tp ∧ new = [(tp, tupOf #[.int ((halvF c).2 - 1) t1, .str (halvF c).1 t2])]) := by
  have hml := quo_len h2
  unfold CtS PG
  w_top off
  k_with_none
  (k_with "subscriptTail" => (k_here; (with_reducible show wpAny _ _ (subscriptTail _ _ (Value.ref _) (Value.int (Int.fmod _ 3) _)) _ _ _); k_dflt (refine' item3 ?zqN ?zqm ?zqx ?_; (case zqN => k_asm); (case zqm => k_mem); (case zqx => decide)); intro t' hp9))
  (k_with "call ref" => (k_here; (with_reducible show wpAny _ _ (call (Value.ref 82) [Value.str _ _]) _ _ _); (k_dflt (refine' Ct.use (parse_none_c _ _ _ ?zqhx ?zqh5 ?zqh3 ?zqh35) ?zqB ?zqF ?zqX ?zqN ?zqT ?zqhp ?zqhk ?zqhd ?zqhu ?_; (case zqB => k_asm); (case zqF => k_asm); (case zqX => k_asm); (case zqN => k_asm); (case zqT => k_asm); (case zqhp => exact fun _ h => nomatch h); (case zqhk => first | exact rfl | assumption); (case zqhd => ktr_room); (case zqhu => ktr_units); (case zqhx => (simp only [Str.length_append, ll0, ll1, ll2, ll3, ll4, ll5, ll6, ll7, ll8, ll9, ll10, ll11, menu_len] at *; omega)); (case zqh5 => (simp only [Str.length_append, ll0, ll1, ll2, ll3, ll4, ll5, ll6, ll7, ll8, ll9, ll10, ll11, menu_len] at *; omega)); (case zqh3 => first | exact pre257 (by decide) (by decide +kernel) | (rw [Str.append_assoc]; exact pre257 (by decide) (by decide +kernel))); (case zqh35 => first | exact no35 (by decide) (by decide +kernel) | (rw [Str.append_assoc]; exact no35 (by decide) (by decide +kernel)))); (intro v new h' tk' hOk F' N' l1; obtain ⟨he1, t', he2⟩ := hOk; subst he1; subst he2; (try dsimp only [List.nil_append] at N'); clear l1; (try k_sweep)))))
  (k_with "call ref" => (k_here; (with_reducible show wpAny _ _ (call (Value.ref 82) [Value.str _ _]) _ _ _); (k_dflt (refine' Ct.use (parse_name_c _ _ _ ?zqhx ?zqh5 ?zqh3 ?zqh35) ?zqB ?zqF ?zqX ?zqN ?zqT ?zqhp ?zqhk ?zqhd ?zqhu ?_; (case zqB => k_asm); (case zqF => k_asm); (case zqX => k_asm); (case zqN => k_asm); (case zqT => k_asm); (case zqhp => exact fun _ h => nomatch h); (case zqhk => first | exact rfl | assumption); (case zqhd => ktr_room); (case zqhu => ktr_units); (case zqhx => (simp only [Str.length_append, ll0, ll1, ll2, ll3, ll4, ll5, ll6, ll7, ll8, ll9, ll10, ll11, menu_len] at *; omega)); (case zqh5 => (simp only [Str.length_append, ll0, ll1, ll2, ll3, ll4, ll5, ll6, ll7, ll8, ll9, ll10, ll11, menu_len] at *; omega)); (case zqh3 => first | exact pre257 (by decide) (by decide +kernel) | (rw [Str.append_assoc]; exact pre257 (by decide) (by decide +kernel))); (case zqh35 => first | exact yes35 (by decide) (by decide +kernel) | (rw [Str.append_assoc]; exact yes35 (by decide) (by decide +kernel)))); (intro v new h' tk' hOk F' N' l1; obtain ⟨he1, t', he2⟩ := hOk; subst he1; subst he2; (try dsimp only [List.nil_append] at N'); clear l1; (try k_sweep)))))
  (k_with "call ref" => (k_here; (with_reducible show wpAny _ _ (call (Value.ref 134) [Value.str _ _]) _ _ _); (k_dflt (refine' CtS.use (refused_c _ _ _ ?zqhx ?zqh5 ?zqh3) ?zqB ?zqF ?zqX ?zqN ?zqT ?zqXB ?zqTB ?zqD ?zqhp ?zqhk ?zqhd ?zqhu ?_; (case zqB => k_asm); (case zqF => k_asm); (case zqX => k_asm); (case zqN => k_asm); (case zqT => k_asm); (case zqXB => k_asm); (case zqTB => k_asm); (case zqD => k_asm); (case zqhp => exact fun _ h => nomatch h); (case zqhk => first | exact rfl | assumption); (case zqhd => ktr_room); (case zqhu => ktr_units); (case zqhx => (simp only [Str.length_append, ll0, ll1, ll2, ll3, ll4, ll5, ll6, ll7, ll8, ll9, ll10, ll11, menu_len] at *; omega)); (case zqh5 => (simp only [Str.length_append, ll0, ll1, ll2, ll3, ll4, ll5, ll6, ll7, ll8, ll9, ll10, ll11, menu_len] at *; omega)); (case zqh3 => exact menu_no)); (intro v new h₀' h' tk' hOk T' F' N' l1 B' X' P' D'; obtain ⟨he1, he2⟩ := hOk; subst he1; subst he2; (try dsimp only [List.nil_append] at N'); clear l1))))
  k_fill
  intros; rename_i hret
  try dsimp only [List.nil_append, List.cons_append] at *
  refine wpAny_call ?_
  k_dflt (refine' code_defSX ?k1 ?k2 ?k3 ?k4 ?k5 ?XB ?TB ?D ?T0 ?kA ?kF ?kK ?k6 ?k7 ?k8 ?k9 ?kB ?_ ?c2 ?c3 ?c4 ?c5; (case kA => exact rfl); (case kF => exact rfl); (case kK => assumption); (case k1 => k_asm); (case k2 => k_asm); (case k3 => k_asm); (case k4 => k_asm); (case k5 => k_asm); (case XB => k_asm); (case TB => k_asm); (case D => k_asm); (case T0 => exact KtsTurn.refl); (case k6 => k_is); (case k7 => k_is); (case k8 => ktr_room); (case k9 => exact BindsTo.of_eq rfl); (case c5 => decide); (case kB => exact locs rfl); (case c2 => exact rfl); (case c3 => exact rfl); (case c4 => exact rfl); k_whole; intro g' L' h' FG' F' N' B' X' T' D'; (try dsimp only); (try k_lift B'); (try k_fold))
  (k_with "state" => first | exact hj_start (by assumption) | exact hj_step (by assumption) (by assumption) (by assumption) (by assumption) (by assumption) (by assumption))
  (k_with "exec While BoolOp cons nil" => (k_while (fun _ k n => 0 ≤ k ∧ k ≤ 6 ∧ (n.length : Int) ≤ 20 + 12 * k ∧ HJ c n k) (fun _ k _ => (6 - k).toNat) "times" "name"))
  k_steps
  all_goals ((first | have he9 := hj_endA (by assumption) (by assumption) | have he9 := hj_endB (by assumption) (by assumption)); refine' hret _ [(_, tupOf #[.int (_ - 1) _, .str _ _])] _ _ _ ⟨_, _, _, rfl, ?eV⟩ ?eT ?eF ?eN ?eL ?eB ?eX ?eP ?eD; (case eF => k_asm); (case eT => k_asm); (case eN => first | k_asm | (refine' cb_drop ?cbN ?cbS; (case cbN => assumption); (case cbS => kcj_all))); (case eL => first | exact lt_one' (by assumption) | (intro p hp q hq; rw [List.mem_singleton.mp hp]; simp only [AllLt] at *; exact ktn_ltOf (by first | assumption | exact (by assumption : _ ∧ _).2 | simp_all only []) q hq)); (case eB => k_asm); (case eX => k_asm); (case eP => k_asm); (case eD => k_asm); (case eV => rw [he9]))
end Mine
end
section
open PySem PySem.W PyProof.Rows Mine
set_option maxRecDepth 100000
set_option maxHeartbeats 400000000
namespace Mine
noncomputable def at4 (a0 a1 a2 a3 : Int) (k : Int) : Int := [a0, a1, a2, a3].getD k.toNat 0
noncomputable def stepF (a0 a1 a2 a3 sm : Int) (s : Int × Int) (k : Int) : Int × Int := if at4 a0 a1 a2 a3 k = s.2 then s else (s.1 + 2 ^ (k - sm).toNat, 3 - at4 a0 a1 a2 a3 k - s.2)
noncomputable def FJ (a0 a1 a2 a3 sm ho : Int) (pre : List Int) (far home : Int) : Prop := (far, home) = pre.foldl (stepF a0 a1 a2 a3 sm) (0, ho)
theorem fj_start {a0 a1 a2 a3 sm ho : Int} : FJ a0 a1 a2 a3 sm ho [] 0 ho := rfl
theorem fj_ne {a0 a1 a2 a3 sm ho far home : Int} {pre : List Int} {n : Int} (h : FJ a0 a1 a2 a3 sm ho pre far home) (e : [a0, a1, a2, a3].getD n.toNat 0 ≠ home) : FJ a0 a1 a2 a3 sm ho (pre ++ [n]) (far + 2 ^ (n - sm).toNat) (3 - [a0, a1, a2, a3].getD n.toNat 0 - home) := by
  unfold FJ at *
  rw [List.foldl_append, ← h]
  show _ = stepF _ _ _ _ _ _ _
  rw [stepF, if_neg (by exact e)]; rfl
theorem fj_eq {a0 a1 a2 a3 sm ho far home : Int} {pre : List Int} {n : Int} (h : FJ a0 a1 a2 a3 sm ho pre far home) (e : [a0, a1, a2, a3].getD n.toNat 0 = home) : FJ a0 a1 a2 a3 sm ho (pre ++ [n]) far home := by
  unfold FJ at *
  rw [List.foldl_append, ← h]
  show _ = stepF _ _ _ _ _ _ _
  rw [stepF, if_pos (by exact e)]
/-- how far the tower is from home -/
noncomputable def farF (a0 a1 a2 a3 ho sm : Int) : Int := ((downKs 3 (3 - (sm - 1)).toNat).foldl (stepF a0 a1 a2 a3 sm) (0, ho)).1
theorem fj_end {a0 a1 a2 a3 sm ho far home : Int} (h : FJ a0 a1 a2 a3 sm ho (downKs 3 (3 - (sm - 1)).toNat) far home) : far = farF a0 a1 a2 a3 ho sm := by
  unfold FJ at h; unfold farF; rw [← h]
theorem far_c (w : World) (p : Addr) (n : Nat) (a0 a1 a2 a3 : Int) (t0 t1 t2 t3 : Tok) (ho : Int) (th : Tok) (sm : Int) (ts : Tok) (h0 : 0 ≤ sm) (h4 : sm ≤ 4) :
    Ct w 115 [.ref p, .int ho th, .int sm ts] [(p, listOf #[.int a0 t0, .int a1 t1, .int a2 t2, .int a3 t3] n)] (fun v new => new = [] ∧ ∃ t, v = .int (farF a0 a1 a2 a3 ho sm) t) := by
  unfold Ct PG
  w_top off
  k_with_none
  k_fill
  intros; rename_i hret
  try dsimp only [List.nil_append, List.cons_append] at *
  refine wpAny_call ?_
  k_dflt cell_enter
  (k_with "state" => first | exact fj_start | exact fj_ne (by assumption) (by assumption) | exact fj_eq (by assumption) (by assumption) )
  (k_with "pyIter ref" => k_state (fun pre far home => FJ a0 a1 a2 a3 sm ho pre far home) "far" "home")
  k_steps
  all_goals (refine' hret _ [] _ _ ⟨rfl, ?eV⟩ ?eF ?eN ?eL; (case eF => k_asm); (case eN => first | k_asm | (refine' cb_drop ?cbN ?cbS; (case cbN => assumption); (case cbS => kcj_all))); (case eL => exact fun _ h => nomatch h); (case eV => exact ⟨_, congrArg (Value.int · _) (fj_end (by assumption))⟩))
end Mine
end
section
open PySem PySem.W PyProof.Rows Mine
set_option maxRecDepth 100000
set_option maxHeartbeats 400000000
namespace Mine
theorem lt_one9 {D : Addr} {o : Obj} {news : Led} (h : AllLt D news) : ∀ p ∈ [(D, o)], ∀ q ∈ news, q.1 < p.1 := by
  intro p hp q hq; rw [List.mem_singleton.mp hp]; exact ktn_ltOf h q hq
noncomputable def at5 (a0 a1 a2 a3 : Int) (k : Int) : Int := [a0, a1, a2, a3].getD k.toNat 0
noncomputable def rowS (a0 a1 a2 a3 peg : Int) (row : Str) (k : Int) : Str := if at5 a0 a1 a2 a3 k = peg then (row ++ Str.ofString ".") ++ Txt.mul (Str.ofString "7") (k + 1) else row
noncomputable def letF (peg : Int) : Str := if peg = 0 then Str.ofString "a" else if peg = 1 then Str.ofString "b" else Str.ofString "c"
/-- the text of one peg -/
noncomputable def rowF (a0 a1 a2 a3 peg : Int) (pre : List Int) : Str := pre.foldl (rowS a0 a1 a2 a3 peg) (letF peg)
noncomputable def RJ (a0 a1 a2 a3 peg : Int) (pre : List Int) (row : Str) : Prop := row = rowF a0 a1 a2 a3 peg pre
theorem rj_a {a0 a1 a2 a3 peg : Int} (h : peg = 0) : RJ a0 a1 a2 a3 peg [] (Str.ofString "a") ∧ (Str.ofString "a").length ≤ 1 + 5 * ([] : List Int).length := by subst h; exact ⟨rfl, by decide⟩
theorem rj_b {a0 a1 a2 a3 peg : Int} (h : peg = 1) : RJ a0 a1 a2 a3 peg [] (Str.ofString "b") ∧ (Str.ofString "b").length ≤ 1 + 5 * ([] : List Int).length := by subst h; exact ⟨rfl, by decide⟩
theorem rj_c {a0 a1 a2 a3 peg : Int} (h : peg = 2) : RJ a0 a1 a2 a3 peg [] (Str.ofString "c") ∧ (Str.ofString "c").length ≤ 1 + 5 * ([] : List Int).length := by subst h; exact ⟨rfl, by decide⟩
theorem rj_ne {a0 a1 a2 a3 peg : Int} {pre : List Int} {row : Str} {n : Int} (h : RJ a0 a1 a2 a3 peg pre row ∧ row.length ≤ 1 + 5 * pre.length) (e : [a0, a1, a2, a3].getD n.toNat 0 ≠ peg) : RJ a0 a1 a2 a3 peg (pre ++ [n]) row ∧ row.length ≤ 1 + 5 * (pre ++ [n]).length := by
  refine ⟨?_, by rw [List.length_append, List.length_singleton]; omega⟩
  unfold RJ rowF at *
  rw [List.foldl_append, ← h.1]
  show _ = rowS _ _ _ _ _ _ _
  rw [rowS, if_neg (by exact e)]
theorem rj_eq {a0 a1 a2 a3 peg : Int} {pre : List Int} {row : Str} {n : Int} (h : RJ a0 a1 a2 a3 peg pre row ∧ row.length ≤ 1 + 5 * pre.length) (e : [a0, a1, a2, a3].getD n.toNat 0 = peg) (hn : n ≤ 3) : RJ a0 a1 a2 a3 peg (pre ++ [n]) ((row ++ Str.ofString ".") ++ Txt.mul (Str.ofString "7") (n + 1)) ∧ ((row ++ Str.ofString ".") ++ Txt.mul (Str.ofString "7") (n + 1)).length ≤ 1 + 5 * (pre ++ [n]).length := by
  have hm : (Txt.mul (Str.ofString "7") (n + 1)).length ≤ 4 := len_mul_one (c := 55) rfl (by omega)
  have h1 : (Str.ofString ".").length = 1 := by decide
  refine ⟨?_, by rw [List.length_append, List.length_singleton, Str.length_append, Str.length_append]; omega⟩
  unfold RJ rowF at *
  rw [List.foldl_append, ← h.1]
  show _ = rowS _ _ _ _ _ _ _
  rw [rowS, if_pos (by exact e)]
theorem pre4 {pre post : List Int} {n : Int} (h : [(3 : Int), 2, 1, 0] = pre ++ n :: post) : pre.length ≤ 3 := by
  have := congrArg List.length h
  rw [List.length_append] at this
  simp only [List.length_cons, List.length_nil] at this
  omega
theorem ints4 {g : Heap} {L : Addr} {h : Heap} {l : Addr} {n : Nat} {t1 t2 t3 t4 : Tok} {rest : List (Addr × Obj)} (_ : News g L h ((l, listOf #[.int 3 t1, .int 2 t2, .int 1 t3, .int 0 t4] n) :: rest)) : IntsAre [.int 3 t1, .int 2 t2, .int 1 t3, .int 0 t4] [3, 2, 1, 0] := .cons _ _ (.cons _ _ (.cons _ _ (.cons _ _ .nil)))
theorem mem4 {n : Int} (h : n ∈ [(3 : Int), 2, 1, 0]) : 0 ≤ n ∧ n ≤ 3 := by simp only [List.mem_cons, List.not_mem_nil, or_false] at h; omega
theorem offC {q : Addr × Obj} {l : List (Addr × Obj)} {I : Addr} (h : q.1 < I) (t : ∀ p ∈ l, p.1 < I) : ∀ p ∈ q :: l, p.1 < I := fun p hp => (List.mem_cons.mp hp).elim (fun e => e ▸ h) (t p)
theorem unrEndM {h₀ : Heap} {L I : Addr} {it : Obj} {rest : (Str → Option Value) → List (Addr × Obj) → Prop} {s₁ : Shared} {h' : Heap} {tk : Nat} {m' : Str → Option Value} {x : Addr × Obj} {news' : List (Addr × Obj)} (F : Fr h₀ L h' m') (N : News h₀ L h' (x :: (I, it) :: news')) (off : ∀ p ∈ news', p.1 < I) (r : rest m' news') : UnrEnd h₀ L s₁ I it rest { s₁ with heap := h', toks := tk } :=
  UnrEnd.intro F N news' (fun p hp => List.mem_cons_of_mem _ hp) (fun p hp => Nat.ne_of_lt (off p hp)) r
/-- the text of one peg of a standing tower -/
noncomputable def pegF (a0 a1 a2 a3 peg : Int) : Str := rowF a0 a1 a2 a3 peg [3, 2, 1, 0]
noncomputable def pegsO (a0 a1 a2 a3 : Int) (u0 u1 u2 : Tok) : Obj := listOf #[.str (pegF a0 a1 a2 a3 0) u0, .str (pegF a0 a1 a2 a3 1) u1, .str (pegF a0 a1 a2 a3 2) u2] 3
theorem pegs_obj {a0 a1 a2 a3 : Int} {x y z : Str} {u0 u1 u2 : Tok} (h0 : RJ a0 a1 a2 a3 (0 + ((0 : Nat) : Int)) [3, 2, 1, 0] x) (h1 : RJ a0 a1 a2 a3 (0 + ((0 + 1 : Nat) : Int)) [3, 2, 1, 0] y) (h2 : RJ a0 a1 a2 a3 (0 + ((0 + 1 + 1 : Nat) : Int)) [3, 2, 1, 0] z) :
    listOf (#[.str x u0, .str y u1].push (.str z u2)) (0 + 1 + 1 + 1) = pegsO a0 a1 a2 a3 u0 u1 u2 := by
  unfold RJ at h0 h1 h2
  rw [h0, h1, h2]; rfl
theorem pegs_c (w : World) (p : Addr) (n : Nat) (a0 a1 a2 a3 : Int) (t0 t1 t2 t3 : Tok) :
    Ct w 122 [.ref p] [(p, listOf #[.int a0 t0, .int a1 t1, .int a2 t2, .int a3 t3] n)] (fun v new => ∃ l u0 u1 u2, v = .ref l ∧ new = [(l, pegsO a0 a1 a2 a3 u0 u1 u2)]) := by
  unfold Ct PG
  w_top off
  k_with_none
  (k_with "UnrEnd" => (k_here; (repeat (rename (_ ∧ _) => hc9; obtain ⟨_, _⟩ := hc9)); refine unrEndM (by assumption) (by assumption) ?zqhoff ?_; (case zqhoff => ((repeat (refine offC (by assumption) ?_)); (first | exact ktn_ltOf (by assumption) | exact fun _ h => nomatch h)))))
  (k_with "exec For Name List cons nil" => (k_here; (rename Fr _ _ _ _ => lF'); (with_unfolding_all refine' For_invVF lF' ?zqk1 ?zqk2 ?_; (case zqk1 => exact rfl); (case zqk2 => exact rfl); k_whole)))
  k_fill
  intros; rename_i hret
  try dsimp only [List.nil_append, List.cons_append] at *
  refine wpAny_call ?_
  k_dflt cell_enter
  (k_with "state" => first | exact rj_a (by omega) | exact rj_b (by omega) | exact rj_c (by omega) | exact rj_ne (by assumption) (by assumption) | exact rj_ne ⟨by assumption, by assumption⟩ (by assumption) | exact rj_eq (by assumption) (by assumption) (by omega) | exact rj_eq ⟨by assumption, by assumption⟩ (by assumption) (by omega))
  (k_with "pyIter ref" => ((rename News _ _ _ _ => lN9); (have iL9 := ints4 lN9); (k_state_given ["peg"] (fun peg pre row => RJ a0 a1 a2 a3 peg pre row ∧ row.length ≤ 1 + 5 * pre.length) "row"); all_goals (try ((have k9 := mem4 (by assumption)); (have k8 := pre4 (by assumption))))))
  k_steps
  (repeat (rename (_ ∧ _) => hc9; obtain ⟨_, _⟩ := hc9))
  have he9 := fun u0 u1 u2 : Tok => pegs_obj (a0 := a0) (a1 := a1) (a2 := a2) (a3 := a3) (u0 := u0) (u1 := u1) (u2 := u2) (by assumption) (by assumption) (by assumption)
  refine' hret _ [(_, listOf (#[.str _ _, .str _ _].push (.str _ _)) (0 + 1 + 1 + 1))] _ _ ⟨_, _, _, _, rfl, ?eV⟩ ?eF ?eN ?eL
  case eF => k_asm
  case eN => first | k_asm | (refine' cb_drop ?cbN ?cbS; (case cbN => assumption); (case cbS => kcj_all))
  case eL => exact lt_one9 (by assumption)
  case eV => rw [he9]
end Mine
end
section
open PySem PySem.W PyProof.Rows PySem.Spec PySem.Calls
set_option maxRecDepth 100000
namespace Mine
noncomputable def rngO (a left : Int) : Obj := { cls := .type "range_iterator", data := .fields #[rawInt a, rawInt left, rawInt (-1)] }
noncomputable def TurnEnd (G : Heap → Prop) (L : Addr) (s₂ : Shared) (I : Addr) (a left : Int) (Jn : (Str → Option Value) → Led → Prop) (s₃ : Shared) : Prop :=
  ∃ h₁ h tk m news, s₃ = { s₂ with heap := h, toks := tk } ∧ G h₁ ∧ Fr h₁ L h m ∧ News h₁ L h ((I, rngO a left) :: news) ∧ (∀ p ∈ news, p.1 ≠ I) ∧ Jn m news
noncomputable def TurnPost (G : Heap → Prop) (L : Addr) (s₂ : Shared) (I : Addr) (a left : Int) (Jn : (Str → Option Value) → Led → Prop) (Q : Flow → Shared → Prop) (f : Flow) (s₃ : Shared) : Prop :=
  match f with
  | .ret v => Q (.ret v) s₃
  | .brk => Q .next s₃
  | _ => TurnEnd G L s₂ I a left Jn s₃
/-- a loop down a range whose turns may turn the ground -/
noncomputable def TurnsS (prog : Program) (w : World) (A : Around) (env : Env) (x : Str) (body : List Stmt) (G : Heap → Prop) (Q : Flow → Shared → Prop) (E : Value → Shared → Prop) (it : Value) (s₂ : Shared) : Prop :=
  ∃ (I : Addr) (a : Int) (n : Nat) (h₀ : Heap) (m : Str → Option Value) (news : Led) (J : Nat → (Str → Option Value) → Led → Prop),
    it = .ref I ∧ A.handled = none ∧ G h₀ ∧ Fr h₀ env.locals s₂.heap m ∧ News h₀ env.locals s₂.heap ((I, rngO a n) :: news) ∧ (∀ p ∈ news, p.1 ≠ I) ∧ J 0 m news ∧
    (∀ i h₁ h tk t m₁ news₁, i < n → G h₁ → Fr h₁ env.locals h (fun y => if y = x then some (.int (a - (i : Nat)) t) else m₁ y) → News h₁ env.locals h ((I, rngO (a - (i : Nat) - 1) ((n : Int) - (i : Nat) - 1)) :: news₁) → (∀ p ∈ news₁, p.1 ≠ I) → J i m₁ news₁ →
      wpAny (model prog w) A (execs body env) (TurnPost G env.locals s₂ I (a - (i : Nat) - 1) ((n : Int) - (i : Nat) - 1) (J (i + 1)) Q) E { s₂ with heap := h, toks := tk }) ∧
    (∀ h₁ h tk m₁ news₁, G h₁ → Fr h₁ env.locals h m₁ → News h₁ env.locals h news₁ → J n m₁ news₁ → Q .next { s₂ with heap := h, toks := tk })
section
variable {prog : Program} {w : World} {A : Around} {s : Shared} {env : Env}
theorem rng_but {h₀ h h' : Heap} {L I : Addr} {m : Str → Option Value} {news : Led} {o o' : Obj} (F : Fr h₀ L h m) (N : News h₀ L h ((I, o) :: news)) (off : ∀ p ∈ news, p.1 ≠ I) (hI : h'.get? I = some o') (hk : ∀ b v, b ≠ I → h.get? b = some v → h'.get? b = some v) :
    Fr h₀ L h' m ∧ News h₀ L h' ((I, o') :: news) := by
  have hn := N _ List.mem_cons_self
  refine ⟨⟨F.ns.at' fun v e => hk _ v (fun q => hn.2.1 q.symm) e, fun b v e => hk b v (fun q => by rw [q, hn.2.2] at e; cases e) (F.keep b v e), F.above⟩, fun p hp => ?_⟩
  rcases List.mem_cons.mp hp with rfl | hp
  · exact ⟨hI, hn.2⟩
  · have := N p (List.mem_cons_of_mem _ hp)
    exact ⟨hk _ _ (off p hp) this.1, this.2⟩
theorem For_turnsS {E : Value → Shared → Prop} {Q : Flow → Shared → Prop} {x : Str} {px pos : Pos} {iter : Expr} {body : List Stmt} (G : Heap → Prop) (hx : env.kindOf x = some .local)
    (hp : (env.scope.kind == .class || (env.scope.kind == .module && env.locals != env.globals)) = false)
    (h : wpAny (model prog w) A (eval iter env) (fun xv s₁ => wpAny (model prog w) A (pyIter xv) (fun it s₂ => TurnsS prog w A env x body G Q E it s₂) E s₁) E s)
    (hs : ∀ x, foldedSetIterable iter env x = pure x := by intro _; rfl)
    (hE : PassesOwn (model prog w) A env E := by passes_own) :
    wpAny (model prog w) A (exec (.For (.Name x px) iter body [] pos) env) Q E s := by
  refine wpAny_For (wpAny_mono h (fun xv s₁ h₁ => wpAny_mono h₁ (fun it s₂ h₂ => ?_) fun _ _ e => e) fun _ _ e => e) hs
  obtain ⟨I, a, n, h₀, m, news, J, rfl, hh, hG, F, N, off, h0, step, hQ⟩ := h₂
  refine codeAny_forLoop (fun k s' => ∃ i h₁ h' tk m' news', s' = { s₂ with heap := h', toks := tk } ∧ G h₁ ∧ Fr h₁ env.locals h' m' ∧ News h₁ env.locals h' ((I, rngO (a - (i : Nat)) ((n : Int) - (i : Nat))) :: news') ∧ (∀ p ∈ news', p.1 ≠ I) ∧ J i m' news' ∧ i ≤ n ∧ k = n + 1 - i) ?_ (n + 1)
    ⟨0, h₀, s₂.heap, s₂.toks, m, news, rfl, hG, F, by simpa using N, off, h0, Nat.zero_le _, rfl⟩
  rintro k s' ⟨i, h₁, h', tk, m', news', rfl, G', F', N', off', hJ, hi, rfl⟩
  have hit : IsRangeIter h' I (a - (i : Nat)) ((n : Int) - (i : Nat)) (-1) := (N' _ List.mem_cons_self).1
  by_cases hlt : i < n
  · refine wpAny_pyNext_range_item hit (by omega) fun h₂ hit₂ hs₂ => ?_
    obtain ⟨F₂, N₂⟩ := rng_but (o' := rngO (a - (i : Nat) - 1) ((n : Int) - (i : Nat) - 1)) F' N' off' hit₂ fun b o hb e => hs₂.extBut b o hb e
    refine wpAny_assign_Name (wpAny_storeName_local hx F₂.ns (fun h₃ hn₃ hs₃ => ?_) hp)
    have F₃ := F₂.set hn₃ hs₃
    refine wpAny_mono (wpAny_passesOwn hE (step i h₁ h₃ _ _ m' news' hlt G' F₃ (N₂.set hs₃) off' hJ)) (fun f s₃ h₃ => ?_) fun _ _ e => e
    cases f with
    | ret v => exact h₃
    | brk => exact h₃
    | cont =>
      obtain ⟨h₁', h', tk', m'', news'', rfl, G'', F'', N'', off'', hJ'⟩ := h₃
      exact ⟨n + 1 - (i + 1), by omega, i + 1, h₁', h', tk', m'', news'', rfl, G'', F'', by rw [show a - ((i + 1 : Nat) : Int) = a - (i : Nat) - 1 by push_cast; omega, show (n : Int) - ((i + 1 : Nat) : Int) = (n : Int) - (i : Nat) - 1 by push_cast; omega]; exact N'', off'', hJ', hlt, rfl⟩
    | next =>
      obtain ⟨h₁', h', tk', m'', news'', rfl, G'', F'', N'', off'', hJ'⟩ := h₃
      exact ⟨n + 1 - (i + 1), by omega, i + 1, h₁', h', tk', m'', news'', rfl, G'', F'', by rw [show a - ((i + 1 : Nat) : Int) = a - (i : Nat) - 1 by push_cast; omega, show (n : Int) - ((i + 1 : Nat) : Int) = (n : Int) - (i : Nat) - 1 by push_cast; omega]; exact N'', off'', hJ', hlt, rfl⟩
  · have hin : i = n := by omega
    subst hin
    refine wpAny_pyNext_range_end hh hit (by omega) fun h₂ hk₂ => wpAny_execs_nil ?_
    have hn := N' _ List.mem_cons_self
    refine hQ h₁ h₂ _ m' news' G' ⟨F'.ns.at' fun v e => hk₂ _ v (fun q => hn.2.1 q.symm) e, fun b v e => hk₂ b v (fun q => by rw [q, hn.2.2] at e; cases e) (F'.keep b v e), F'.above⟩ (fun p hp => ?_) hJ
    have := N' p (List.mem_cons_of_mem _ hp)
    exact ⟨hk₂ _ _ (off' p hp) this.1, this.2⟩
/-- into the loop: the range that the call has made -/
theorem turns_range {r : Addr} {a b : Int} {t₀ u₀ v₀ : Tok} {n : Nat} {h₀ : Heap} {m : Str → Option Value} {news : Led} {E : Value → Shared → Prop} {Q : Flow → Shared → Prop} {x : Str} {body : List Stmt} {G : Heap → Prop} (J : Nat → (Str → Option Value) → Led → Prop)
    (hh : A.handled = none) (hr : IsRange s.heap r a b (-1) t₀ u₀ v₀) (hsmall : Builtin.Range.small a b (-1) = true) (hn : Builtin.Range.rangeSize a b (-1) = (n : Int)) (hG : G h₀) (F : Fr h₀ env.locals s.heap m) (N : News h₀ env.locals s.heap news) (h0 : J 0 m news)
    (step : ∀ I i h₁ h tk t m₁ news₁, i < n → G h₁ → Fr h₁ env.locals h (fun y => if y = x then some (.int (a - (i : Nat)) t) else m₁ y) → News h₁ env.locals h ((I, rngO (a - (i : Nat) - 1) ((n : Int) - (i : Nat) - 1)) :: news₁) → (∀ p ∈ news₁, p.1 ≠ I) → (∀ p ∈ news, p.1 < I) → J i m₁ news₁ →
      wpAny (model prog w) A (execs body env) (TurnPost G env.locals s I (a - (i : Nat) - 1) ((n : Int) - (i : Nat) - 1) (J (i + 1)) Q) E { s with heap := h, toks := tk })
    (done : ∀ h₁ h tk m₁ news₁, G h₁ → Fr h₁ env.locals h m₁ → News h₁ env.locals h news₁ → J n m₁ news₁ → Q .next { s with heap := h, toks := tk }) :
    wpAny (model prog w) A (pyIter (.ref r)) (fun it s₂ => TurnsS prog w A env x body G Q E it s₂) E s := by
  refine wpAny_pyIter_range hr hsmall ?_
  have lt : ∀ p ∈ news, p.1 < s.heap.objs.size := fun p hp => Heap.lt_size (N p hp).1
  refine ⟨s.heap.objs.size, a, n, h₀, m, news, J, rfl, hh, hG, F.push _, fun p hp => ?_, fun p hp => Nat.ne_of_lt (lt p hp), h0, ?_, done⟩
  · rcases List.mem_cons.mp hp with rfl | hp
    · refine ⟨by rw [← hn]; exact Heap.get?_push_size _ rfl, fun q => absurd F.ns.lt (q ▸ Nat.lt_irrefl _), next_is_new F⟩
    · exact ⟨Heap.get?_push_of_some _ (N p hp).1, (N p hp).2⟩
  · intro i h₁ h tk t m₁ news₁ hi hG F N off hJ
    exact step _ i h₁ h tk t m₁ news₁ hi hG F N off lt hJ
end
end Mine
end
section
open PySem PySem.W PyProof.Rows PySem.Spec PySem.Calls
set_option maxRecDepth 100000
namespace Mine
/-- what a frame's map says of some names -/
noncomputable def LK (m : Str → Option Value) : List (Str × Value) → Prop
  | [] => True
  | p :: r => m p.1 = some p.2 ∧ LK m r
theorem fr_over {h₀ : Heap} {L : Addr} {h : Heap} {m : Str → Option Value} {x : Str} {v : Value} (F : Fr h₀ L h m) (e : m x = some v) : Fr h₀ L h (fun y => if y = x then some v else m y) := by
  have q : (fun y => if y = x then some v else m y) = m := by
    funext y
    by_cases q1 : y = x
    · rw [if_pos q1, q1, e]
    · rw [if_neg q1]
  rw [q]; exact F
noncomputable def ovl : List (Str × Value) → (Str → Option Value) → Str → Option Value
  | [], m => m
  | p :: r, m => fun y => if y = p.1 then some p.2 else ovl r m y
theorem ovl_lk : ∀ {l : List (Str × Value)} {m : Str → Option Value}, LK m l → ovl l m = m
  | [], _, _ => rfl
  | p :: r, m, h => by
    funext y
    show (if y = p.1 then some p.2 else ovl r m y) = m y
    by_cases q : y = p.1
    · rw [if_pos q, q, h.1]
    · rw [if_neg q, ovl_lk h.2]
theorem fr_lk {h₀ : Heap} {L : Addr} {h : Heap} {m : Str → Option Value} (l : List (Str × Value)) (F : Fr h₀ L h m) (k : LK m l) : Fr h₀ L h (ovl l m) := (ovl_lk k).symm ▸ F
section
variable {M : Model} {A : Around} {E : Value → Shared → Prop} {s : Shared} {env : Env} {g : Heap} {L : Addr}
end
noncomputable def UpEnd (g : Heap) (L : Addr) (s₂ : Shared) (I : Addr) (a left : Int) (J : (Str → Option Value) → Led → Prop) (s₃ : Shared) : Prop :=
  ∃ h tk m news, s₃ = { s₂ with heap := h, toks := tk } ∧ Fr g L h m ∧ News g L h ((I, itR a left) :: news) ∧ (∀ p ∈ news, p.1 ≠ I) ∧ J m news
noncomputable def UpPost (g : Heap) (L : Addr) (s₂ : Shared) (I : Addr) (a left : Int) (J : (Str → Option Value) → Led → Prop) (Q : Flow → Shared → Prop) (f : Flow) (s₃ : Shared) : Prop :=
  match f with
  | .ret v => Q (.ret v) s₃
  | .brk => Q .next s₃
  | _ => UpEnd g L s₂ I a left J s₃
theorem UpEnd.intro {g : Heap} {L : Addr} {s₂ : Shared} {I : Addr} {a left : Int} {J : (Str → Option Value) → Led → Prop} {h : Heap} {tk : Nat} {m : Str → Option Value} {news : Led} (F : Fr g L h m) (N : News g L h ((I, itR a left) :: news)) (off : ∀ p ∈ news, p.1 ≠ I) (j : J m news) : UpEnd g L s₂ I a left J { s₂ with heap := h, toks := tk } :=
  ⟨h, tk, m, news, rfl, F, N, off, j⟩
/-- a loop up a range, what is so between its turns said by J, behind the store of its name by J' -/
noncomputable def TurnsUp (prog : Program) (w : World) (A : Around) (env : Env) (x : Str) (px : Pos) (body : List Stmt) (g : Heap) (Q : Flow → Shared → Prop) (E : Value → Shared → Prop) (it : Value) (s₂ : Shared) : Prop :=
  ∃ (I : Addr) (a : Int) (n : Nat) (m : Str → Option Value) (news : Led) (J J' : Nat → (Str → Option Value) → Led → Prop),
    it = .ref I ∧ A.handled = none ∧ Fr g env.locals s₂.heap m ∧ News g env.locals s₂.heap ((I, itR a n) :: news) ∧ (∀ p ∈ news, p.1 ≠ I) ∧ J 0 m news ∧
    (∀ i h tk t m₁ news₁, i < n → Fr g env.locals h m₁ → News g env.locals h ((I, itR (a + (i : Nat) + 1) ((n : Int) - (i : Nat) - 1)) :: news₁) → (∀ p ∈ news₁, p.1 ≠ I) → J i m₁ news₁ →
      wpAny (model prog w) A (assign (.Name x px) env (.int (a + (i : Nat)) t)) (fun _ s' => UpEnd g env.locals s₂ I (a + (i : Nat) + 1) ((n : Int) - (i : Nat) - 1) (J' i) s') (fun _ _ => False) { s₂ with heap := h, toks := tk }) ∧
    (∀ i h tk m₁ news₁, i < n → Fr g env.locals h m₁ → News g env.locals h ((I, itR (a + (i : Nat) + 1) ((n : Int) - (i : Nat) - 1)) :: news₁) → (∀ p ∈ news₁, p.1 ≠ I) → J' i m₁ news₁ →
      wpAny (model prog w) A (execs body env) (UpPost g env.locals s₂ I (a + (i : Nat) + 1) ((n : Int) - (i : Nat) - 1) (J (i + 1)) Q) E { s₂ with heap := h, toks := tk }) ∧
    (∀ h tk m₁ news₁, Fr g env.locals h m₁ → News g env.locals h news₁ → J n m₁ news₁ → Q .next { s₂ with heap := h, toks := tk })
section
variable {prog : Program} {w : World} {A : Around} {s : Shared} {env : Env}
theorem it_but {h₀ h h' : Heap} {L I : Addr} {m : Str → Option Value} {news : Led} {o o' : Obj} (F : Fr h₀ L h m) (N : News h₀ L h ((I, o) :: news)) (off : ∀ p ∈ news, p.1 ≠ I) (hI : h'.get? I = some o') (hk : ∀ b v, b ≠ I → h.get? b = some v → h'.get? b = some v) :
    Fr h₀ L h' m ∧ News h₀ L h' ((I, o') :: news) := rng_but F N off hI hk
theorem For_turnsUp {E : Value → Shared → Prop} {Q : Flow → Shared → Prop} {x : Str} {px pos : Pos} {iter : Expr} {body : List Stmt} (g : Heap)
    (h : wpAny (model prog w) A (eval iter env) (fun xv s₁ => wpAny (model prog w) A (pyIter xv) (fun it s₂ => TurnsUp prog w A env x px body g Q E it s₂) E s₁) E s)
    (hs : ∀ x, foldedSetIterable iter env x = pure x := by intro _; rfl)
    (hE : PassesOwn (model prog w) A env E := by passes_own) :
    wpAny (model prog w) A (exec (.For (.Name x px) iter body [] pos) env) Q E s := by
  refine wpAny_For (wpAny_mono h (fun xv s₁ h₁ => wpAny_mono h₁ (fun it s₂ h₂ => ?_) fun _ _ e => e) fun _ _ e => e) hs
  obtain ⟨I, a, n, m, news, J, J', rfl, hh, F, N, off, h0, asg, step, hQ⟩ := h₂
  refine codeAny_forLoop (fun k s' => ∃ i h' tk m' news', s' = { s₂ with heap := h', toks := tk } ∧ Fr g env.locals h' m' ∧ News g env.locals h' ((I, itR (a + (i : Nat)) ((n : Int) - (i : Nat))) :: news') ∧ (∀ p ∈ news', p.1 ≠ I) ∧ J i m' news' ∧ i ≤ n ∧ k = n + 1 - i) ?_ (n + 1)
    ⟨0, s₂.heap, s₂.toks, m, news, rfl, F, by simpa using N, off, h0, Nat.zero_le _, rfl⟩
  rintro k s' ⟨i, h', tk, m', news', rfl, F', N', off', hJ, hi, rfl⟩
  have hit : IsRangeIter h' I (a + (i : Nat)) ((n : Int) - (i : Nat)) 1 := (N' _ List.mem_cons_self).1
  by_cases hlt : i < n
  · refine wpAny_pyNext_range_item hit (by omega) fun h₂ hit₂ hs₂ => ?_
    obtain ⟨F₂, N₂⟩ := rng_but (o' := itR (a + (i : Nat) + 1) ((n : Int) - (i : Nat) - 1)) F' N' off' hit₂ fun b o hb e => hs₂.extBut b o hb e
    refine wpAny_mono (asg i h₂ _ _ m' news' hlt F₂ N₂ off' hJ) (fun _ s₃ h₃ => ?_) fun _ _ e => False.elim e
    obtain ⟨h₃, tk₃, m₃, news₃, rfl, F₃, N₃, off₃, hJ₃⟩ := h₃
    refine wpAny_mono (wpAny_passesOwn hE (step i h₃ _ m₃ news₃ hlt F₃ N₃ off₃ hJ₃)) (fun f s₄ h₄ => ?_) fun _ _ e => e
    have e1 : a + ((i + 1 : Nat) : Int) = a + (i : Nat) + 1 := by push_cast; omega
    have e2 : (n : Int) - ((i + 1 : Nat) : Int) = (n : Int) - (i : Nat) - 1 := by push_cast; omega
    cases f with
    | ret v => exact h₄
    | brk => exact h₄
    | cont =>
      obtain ⟨h', tk', m'', news'', rfl, F'', N'', off'', hJ'⟩ := h₄
      exact ⟨n + 1 - (i + 1), by omega, i + 1, h', tk', m'', news'', rfl, F'', by rw [e1, e2]; exact N'', off'', hJ', hlt, rfl⟩
    | next =>
      obtain ⟨h', tk', m'', news'', rfl, F'', N'', off'', hJ'⟩ := h₄
      exact ⟨n + 1 - (i + 1), by omega, i + 1, h', tk', m'', news'', rfl, F'', by rw [e1, e2]; exact N'', off'', hJ', hlt, rfl⟩
  · have hin : i = n := by omega
    subst hin
    refine wpAny_pyNext_range_end hh hit (by omega) fun h₂ hk₂ => wpAny_execs_nil ?_
    have hn := N' _ List.mem_cons_self
    refine hQ h₂ _ m' news' ⟨F'.ns.at' fun v e => hk₂ _ v (fun q => hn.2.1 q.symm) e, fun b v e => hk₂ b v (fun q => by rw [q, hn.2.2] at e; cases e) (F'.keep b v e), F'.above⟩ (fun p hp => ?_) hJ
    have := N' p (List.mem_cons_of_mem _ hp)
    exact ⟨hk₂ _ _ (off' p hp) this.1, this.2⟩
/-- into the loop: the range that the call has made -/
theorem up_range {r : Addr} {a b : Int} {t₀ u₀ v₀ : Tok} {n : Nat} {g : Heap} {m : Str → Option Value} {news : Led} {E : Value → Shared → Prop} {Q : Flow → Shared → Prop} {x : Str} {px : Pos} {body : List Stmt} (J J' : Nat → (Str → Option Value) → Led → Prop)
    (hh : A.handled = none) (hr : IsRange s.heap r a b 1 t₀ u₀ v₀) (hsmall : Builtin.Range.small a b 1 = true) (hn : Builtin.Range.rangeSize a b 1 = (n : Int)) (F : Fr g env.locals s.heap m) (N : News g env.locals s.heap news) (h0 : J 0 m news)
    (asg : ∀ I i h tk t m₁ news₁, i < n → Fr g env.locals h m₁ → News g env.locals h ((I, itR (a + (i : Nat) + 1) ((n : Int) - (i : Nat) - 1)) :: news₁) → (∀ p ∈ news₁, p.1 ≠ I) → (∀ p ∈ news, p.1 < I) → J i m₁ news₁ →
      wpAny (model prog w) A (assign (.Name x px) env (.int (a + (i : Nat)) t)) (fun _ s' => UpEnd g env.locals s I (a + (i : Nat) + 1) ((n : Int) - (i : Nat) - 1) (J' i) s') (fun _ _ => False) { s with heap := h, toks := tk })
    (step : ∀ I i h tk m₁ news₁, i < n → Fr g env.locals h m₁ → News g env.locals h ((I, itR (a + (i : Nat) + 1) ((n : Int) - (i : Nat) - 1)) :: news₁) → (∀ p ∈ news₁, p.1 ≠ I) → (∀ p ∈ news, p.1 < I) → J' i m₁ news₁ →
      wpAny (model prog w) A (execs body env) (UpPost g env.locals s I (a + (i : Nat) + 1) ((n : Int) - (i : Nat) - 1) (J (i + 1)) Q) E { s with heap := h, toks := tk })
    (done : ∀ h tk m₁ news₁, Fr g env.locals h m₁ → News g env.locals h news₁ → J n m₁ news₁ → Q .next { s with heap := h, toks := tk }) :
    wpAny (model prog w) A (pyIter (.ref r)) (fun it s₂ => TurnsUp prog w A env x px body g Q E it s₂) E s := by
  refine wpAny_pyIter_range hr hsmall ?_
  have lt : ∀ p ∈ news, p.1 < s.heap.objs.size := fun p hp => Heap.lt_size (N p hp).1
  refine ⟨s.heap.objs.size, a, n, m, news, J, J', rfl, hh, F.push _, fun p hp => ?_, fun p hp => Nat.ne_of_lt (lt p hp), h0, ?_, ?_, done⟩
  · rcases List.mem_cons.mp hp with rfl | hp
    · refine ⟨by rw [← hn]; exact Heap.get?_push_size _ rfl, fun q => absurd F.ns.lt (q ▸ Nat.lt_irrefl _), next_is_new F⟩
    · exact ⟨Heap.get?_push_of_some _ (N p hp).1, (N p hp).2⟩
  · intro i h tk t m₁ news₁ hi F N off hJ
    exact asg _ i h tk t m₁ news₁ hi F N off lt hJ
  · intro i h tk m₁ news₁ hi F N off hJ
    exact step _ i h tk m₁ news₁ hi F N off lt hJ
/-- the store of a loop's own name, a local -/
theorem asg_local {x : Str} {px : Pos} {g : Heap} {L I : Addr} {b : Int} {left : Int} {h : Heap} {v : Value} {tk : Nat} {m : Str → Option Value} {news : Led} {J' : (Str → Option Value) → Led → Prop} {E : Value → Shared → Prop} (hx : env.kindOf x = some .local)
    (hp : (env.scope.kind == .class || (env.scope.kind == .module && env.locals != env.globals)) = false) (hL : env.locals = L)
    (F : Fr g L h m) (N : News g L h ((I, itR b left) :: news)) (off : ∀ p ∈ news, p.1 ≠ I) (j : J' (fun y => if y = x then some v else m y) news) :
    wpAny (model prog w) A (assign (.Name x px) env v) (fun _ s' => UpEnd g L s I b left J' s') E { s with heap := h, toks := tk } := by
  subst hL
  refine wpAny_assign_Name (wpAny_storeName_local hx F.ns (fun h₃ hn₃ hs₃ => ?_) hp)
  exact ⟨h₃, _, _, news, rfl, F.set hn₃ hs₃, N.set hs₃, off, j⟩
/-- the store of a loop's own name, a cell -/
theorem asg_cell {x : Str} {px : Pos} {g : Heap} {L I c : Addr} {b : Int} {left : Int} {h : Heap} {v : Value} {v₀ : Option Value} {o : Obj} {tk : Nat} {m : Str → Option Value} {pre post : Led} {J' : (Str → Option Value) → Led → Prop} {E : Value → Shared → Prop} (hk : env.scope.kind = .function) (hx : env.kindOf x = some .cell) (hc : env.cells.lookup x = some c)
    (F : Fr g L h m) (N : News g L h ((I, itR b left) :: (pre ++ (c, o) :: post))) (off : ∀ p ∈ pre ++ (c, o) :: post, p.1 ≠ I) (ne1 : ∀ p ∈ pre, p.1 ≠ c) (ne2 : ∀ p ∈ post, p.1 ≠ c) (hd : o.data = .cell v₀) (j : ∀ o', o'.data = .cell (some v) → J' m (pre ++ (c, o') :: post)) :
    wpAny (model prog w) A (assign (.Name x px) env v) (fun _ s' => UpEnd g L s I b left J' s') E { s with heap := h, toks := tk } := by
  have hcI : c ≠ I := off (c, o) (List.mem_append_right _ List.mem_cons_self)
  have N₁ : News g L h (((I, itR b left) :: pre) ++ (c, o) :: post) := N
  have hmem := N₁ (c, o) (List.mem_append_right _ (.head _))
  refine wpAny_assign_Name (wpAny_storeName_cell hk hx hc ⟨o, hmem.1, hd⟩ fun h' hv hs => ?_)
  obtain ⟨o', ho', hd'⟩ := hv
  have N₂ := N₁.setAt (o' := o') (fun p hp => (List.mem_cons.mp hp).elim (fun e => by rw [e]; exact fun q => hcI q.symm) (ne1 p)) ne2 hs ho'
  refine ⟨h', _, m, _, rfl, ⟨F.ns.sameBut hs (Ne.symm hmem.2.1), fun b ob e => (hs.2 b (fun q => ?_)).trans (F.keep b ob e), F.above⟩, N₂, ?_, j o' hd'⟩
  · rw [q, hmem.2.2] at e; cases e
  · intro p hp
    rcases List.mem_append.mp hp with hp | hp
    · exact off p (List.mem_append_left _ hp)
    · rcases List.mem_cons.mp hp with rfl | hp
      · exact hcI
      · exact off p (List.mem_append_right _ (List.mem_cons_of_mem _ hp))
/-- a list's item set, whatever it is -/
theorem any_set {h₀ : Heap} {L D : Addr} {m : Str → Option Value} {news news' : Led} {vs : List Value} {n : Nat} {k : Int} {t : Tok} {v : Value} {E : Value → Shared → Prop} {Q : Unit → Shared → Prop} (F : Fr h₀ L s.heap m) (N : News h₀ L s.heap news) (U : Upd D (listOf vs.toArray n) (listOf (vs.set k.toNat v).toArray n) news news') (h0 : 0 ≤ k) (h1 : k < vs.length) (hfit : k < 2 ^ 63)
    (h : ∀ h', Fr h₀ L h' m → News h₀ L h' news' → Q () { s with heap := h' }) : wpAny (model prog w) A (setItem (.ref D) (.int k t) v) Q E s := by
  obtain ⟨pre, post, rfl, rfl, a, b⟩ := U.split
  have z := N (D, listOf vs.toArray n) (List.mem_append.mpr (.inr (.head _)))
  have hs : vs.toArray.size = vs.length := List.size_toArray ..
  refine ki_setAt z.1 h0 hfit (by omega) (h _ (F.change (Heap.SameBut.update ..) z.2.1 z.2.2) (ki_turn _ N a b ?_ ?_))
  · show vs.toArray.setIfInBounds k.toNat v = (vs.set k.toNat v).toArray
    apply Array.toList_inj.mp
    simp
  · simp
/-- a text of a list of texts, at an unknown place -/
theorem str_at {h₀ : Heap} {L l : Addr} {news : Led} {value slice : PySem.Expr} {n : Nat} {vs : List Value} {ws : List Str} {i : Int} {u : Tok} {E : Value → Shared → Prop} {Q : Value → Shared → Prop} (N : News h₀ L s.heap news) (hm : (l, listOf vs.toArray n) ∈ news) (hw : StrsAre vs ws) (h0 : 0 ≤ i) (h1 : i < (ws.length : Int)) (hfit : i < 2 ^ 63)
    (h : ∀ t', Q (.str (ws.getD i.toNat Str.empty) t') s) (hs : subscripted slice false (.ref l) (.int i u) = operate [.ref l, .int i u] (getItem (.ref l) (.int i u)) := by with_unfolding_all rfl) :
    wpAny (model prog w) A (subscriptTail value slice (.ref l) (.int i u)) Q E s := KTb.item_list (vs := vs) (ws := ws) (News.isList N hm) hw h0 h1 hfit (fun t' _ => h t') hs
end
end Mine
end
section
open PySem PySem.W PyProof.Rows
set_option maxRecDepth 100000
namespace Mine
/-- a cut, what is so behind the statement handed on in pieces -/
theorem cut_cps {M : Model} {A : Around} {E : Value → Shared → Prop} {s : Shared} {env : Env} {g : Heap} {L : Addr} {st : Stmt} {rest : List Stmt} {Q : Flow → Shared → Prop} (P : Heap → (Str → Option Value) → Prop → Prop)
    (J : ∀ Jq : Flow → Shared → Prop, (∀ {h' : Heap} {tk : Nat} {m : Str → Option Value}, Fr g L h' m → (∀ C : Prop, P h' m C → C) → Jq .next { s with heap := h', toks := tk }) → wpAny M A (exec st env) Jq E s)
    (k : ∀ h' tk m, Fr g L h' m → P h' m (wpAny M A (execs rest env) Q E { s with heap := h', toks := tk })) : wpAny M A (execs (st :: rest) env) Q E s := by
  refine wpAny_execs_cons (wpAny_mono (J (fun f s' => f = .next ∧ ∃ h' tk m, s' = { s with heap := h', toks := tk } ∧ Fr g L h' m ∧ ∀ C : Prop, P h' m C → C) fun F p => ⟨rfl, _, _, _, rfl, F, p⟩) (fun f s' h => ?_) fun _ _ e => e)
  obtain ⟨rfl, h', tk, m, rfl, F, p⟩ := h
  exact p _ (k h' tk m F)
theorem hide_post {M : Model} {A : Around} {E : Value → Shared → Prop} {s : Shared} {t : Sem Flow} {Q : Flow → Shared → Prop} (h : ∀ Qq : Flow → Shared → Prop, (∀ f s', Q f s' → Qq f s') → wpAny M A t Qq E s) : wpAny M A t Q E s := h Q fun _ _ q => q
theorem obj_name {g : Heap} {L : Addr} {h : Heap} {a : Addr} {o : Obj} {r : Led} (_ : News g L h ((a, o) :: r)) : ∃ c, c = o := ⟨o, rfl⟩
end Mine
end
section
open PySem PySem.W PyProof.Rows Mine
set_option maxRecDepth 100000
set_option maxHeartbeats 400000000
namespace Mine
noncomputable def pick4 (x y z u : Str) (c : Int) : Str := [x, y, z, u].getD (c.fmod 4).toNat Str.empty
theorem fmod4 (c : Int) : 0 ≤ c.fmod 4 ∧ c.fmod 4 < 4 := ⟨Int.fmod_nonneg_of_pos _ (by omega), Int.fmod_lt_of_pos _ (by omega)⟩
theorem pick4_or (x y z u : Str) (c : Int) : pick4 x y z u c = x ∨ pick4 x y z u c = y ∨ pick4 x y z u c = z ∨ pick4 x y z u c = u := by
  unfold pick4
  have h := fmod4 c
  have h4 : (c.fmod 4).toNat < 4 := by omega
  generalize (c.fmod 4).toNat = k at h4
  match k, h4 with
  | 0, _ => exact .inl rfl
  | 1, _ => exact .inr (.inl rfl)
  | 2, _ => exact .inr (.inr (.inl rfl))
  | 3, _ => exact .inr (.inr (.inr rfl))
section
variable {prog : Program} {w : World} {A : Around} {s : Shared} {h₀ : Heap} {L : Addr} {m : Str → Option Value} {news : List (Addr × Obj)} {E : Value → Shared → Prop}
theorem item4 {value slice : PySem.Expr} {l : Addr} {n : Nat} {x y z v : Str} {tx ty tz tv u : Tok} {c : Int} {Q : Value → Shared → Prop} (N : News h₀ L s.heap news) (hm : (l, listOf #[.str x tx, .str y ty, .str z tz, .str v tv] n) ∈ news)
    (hxyz : x.length ≤ 21 ∧ y.length ≤ 21 ∧ z.length ≤ 21 ∧ v.length ≤ 21) (h : ∀ t', (pick4 x y z v c).length ≤ 21 → Q (.str (pick4 x y z v c) t') s) (hs : subscripted slice false (.ref l) (.int (c.fmod 4) u) = operate [.ref l, .int (c.fmod 4) u] (getItem (.ref l) (.int (c.fmod 4) u)) := by with_unfolding_all rfl) :
    wpAny (model prog w) A (subscriptTail value slice (.ref l) (.int (c.fmod 4) u)) Q E s := by
  have hb := fmod4 c
  exact KTb.item_list (vs := [.str x tx, .str y ty, .str z tz, .str v tv]) (ws := [x, y, z, v]) (News.isList N hm) (.cons _ _ (.cons _ _ (.cons _ _ (.cons _ _ .nil)))) hb.1 hb.2 (by omega) (fun t' _ => h t' (by rcases pick4_or x y z v c with e | e | e | e <;> rw [e]; exact hxyz.1; exact hxyz.2.1; exact hxyz.2.2.1; exact hxyz.2.2.2)) hs
end
theorem compEndM {h₀ : Heap} {L I C D : Addr} {m : Str → Option Value} {s₁ : Shared} {oI oC oD : Obj} {S : List (Addr × Obj) → Prop} {rest : Value → List (Addr × Obj) → Prop} {y : Value} {h' : Heap} {tk : Nat} {news' : List (Addr × Obj)}
    (F : Fr h₀ L h' m) (N : News h₀ L h' ((I, oI) :: (C, oC) :: (D, oD) :: news')) (off : LCg.Off3 I C D news') (hS : S news') (r : rest y news') :
    LCg.CompEnd h₀ L m s₁ I oI C oC D oD S rest y { s₁ with heap := h', toks := tk } := ⟨h', tk, news', rfl, F, N, off, hS, r⟩
noncomputable def headS (way : Int) : Str := pick4 (Str.ofString "") (Str.ofString "* FLAGS (a.7 b c.77) ") (Str.ofString "* 1 FETCH (") (Str.ofString "* OK [PERMANENT") way
noncomputable def gapS (way : Int) : Str := pick4 (Str.ofString " ") (Str.ofString " \t") (Str.ofString "\r\n") (Str.ofString "  ") (way.fdiv 4)
noncomputable def tailS (way : Int) : Str := pick4 (Str.ofString "") (Str.ofString " FLAGS (a b") (Str.ofString "\nFLAGS (a.7)") (Str.ofString " FLAGS [a])") (way.fdiv 16)
/-- what the server lists -/
noncomputable def listS (x0 x1 x2 : Str) (way : Int) : Str := headS way ++ Str.ofString "FLAGS (" ++ Txt.join (gapS way) [Str.ofString "", x2, x1, x0, x2, Str.ofString ""] ++ Str.ofString ")" ++ tailS way
noncomputable def Asc (x : Str) : Prop := ∀ c ∈ x.cps.toList, c < 128
theorem Asc.app {x y : Str} (h : Asc x) (k : Asc y) : Asc (x ++ y) := by
  intro c hc
  have hc' : c ∈ (x.cps ++ y.cps).toList := hc
  rw [Array.toList_append, List.mem_append] at hc'
  exact hc'.elim (h c) (k c)
theorem asc_of {x : Str} (h : (x.cps.toList.all fun c => decide (c < 128)) = true) : Asc x := fun c hc => of_decide_eq_true (List.all_eq_true.mp h c hc)
theorem Asc.join {g : Str} (h : Asc g) : ∀ l : List Str, (∀ x ∈ l, Asc x) → Asc (Str.join g l)
  | [], _ => fun c hc => nomatch hc
  | [x], k => k x (by simp)
  | x :: y :: r, k => by
    show Asc (x ++ g ++ Str.join g (y :: r))
    exact ((k x (by simp)).app h).app (Asc.join h (y :: r) fun z hz => k z (by simp at hz ⊢; exact .inr hz))
theorem asc_pick4 {x y z u : Str} {c : Int} (h0 : Asc x) (h1 : Asc y) (h2 : Asc z) (h3 : Asc u) : Asc (pick4 x y z u c) := by
  rcases pick4_or x y z u c with e | e | e | e <;> rw [e] <;> assumption
theorem gap_len (way : Int) : (gapS way).length ≤ 2 := by
  unfold gapS; rcases pick4_or (Str.ofString " ") (Str.ofString " \t") (Str.ofString "\r\n") (Str.ofString "  ") (way.fdiv 4) with e | e | e | e <;> rw [e] <;> decide
theorem txt_join (g : Str) (l : List Str) : Txt.join g l = Str.join g l := StrLaws.glued_eq_join g l
theorem join6_len {g a b c d e f : Str} (hg : g.length ≤ 2) (ha : a.length ≤ 15) (hb : b.length ≤ 15) (hc : c.length ≤ 15) (hd : d.length ≤ 15) (he : e.length ≤ 15) (hf : f.length ≤ 15) : (Txt.join g [a, b, c, d, e, f]).length ≤ 102 := by
  rw [txt_join]
  have := StrLaws.join_length_le g [a, b, c, d, e, f]
  simp only [List.map_cons, List.map_nil, List.sum_cons, List.sum_nil, List.length_cons, List.length_nil] at this
  omega
theorem list_asc {x0 x1 x2 : Str} {way : Int} (k0 : Asc x0) (k1 : Asc x1) (k2 : Asc x2) : Asc (listS x0 x1 x2 way) := by
  have ge : Asc (Str.ofString "") := asc_of (by decide)
  refine ((((asc_pick4 (asc_of (by decide)) (asc_of (by decide)) (asc_of (by decide)) (asc_of (by decide))).app (asc_of (by decide))).app ?_).app (asc_of (by decide))).app (asc_pick4 (asc_of (by decide)) (asc_of (by decide)) (asc_of (by decide)) (asc_of (by decide)))
  rw [txt_join]
  refine Asc.join (asc_pick4 (asc_of (by decide)) (asc_of (by decide)) (asc_of (by decide)) (asc_of (by decide))) _ ?_
  intro x hx
  simp only [List.mem_cons, List.not_mem_nil, or_false] at hx
  rcases hx with rfl | rfl | rfl | rfl | rfl | rfl <;> assumption
section
variable {prog : Program} {w : World} {A : Around} {s : Shared} {h₀ : Heap} {L : Addr} {m : Str → Option Value} {news : List (Addr × Obj)} {E : Value → Shared → Prop}
theorem join6 {D : Addr} {g a b c d e f : Str} {t ta tb tc td te tf : Tok} {n : Nat} {Q : Value → Shared → Prop} (N : News h₀ L s.heap news) (hm : (D, listOf #[.str a ta, .str b tb, .str c tc, .str d td, .str e te, .str f tf] n) ∈ news)
    (hg : g.length ≤ 2) (ha : a.length ≤ 15) (hb : b.length ≤ 15) (hc : c.length ≤ 15) (hd : d.length ≤ 15) (he : e.length ≤ 15) (hf : f.length ≤ 15)
    (h : ∀ t' k, (Txt.join g [a, b, c, d, e, f]).length ≤ 102 → Q (.str (Txt.join g [a, b, c, d, e, f]) t') { s with toks := k }) : wpAny (model prog w) A (call (.builtin "str.join") [.str g t, .ref D]) Q E s :=
  join_list (News.isList N hm) (.cons _ _ (.cons _ _ (.cons _ _ (.cons _ _ (.cons _ _ (.cons _ _ .nil)))))) (by
    simp only [List.map_cons, List.map_nil, List.sum_cons, List.sum_nil, List.length_cons, List.length_nil]; omega) fun t' k => h t' k (join6_len hg ha hb hc hd he hf)
end
theorem lq1 : (Str.ofString "FLAGS (").length = 7 := by decide
theorem lq2 : (Str.ofString ")").length = 1 := by decide
theorem listed_c (w : World) (p : Addr) (n : Nat) (x0 x1 x2 : Str) (t0 t1 t2 : Tok) (way : Int) (tw : Tok) (h0 : x0.length ≤ 15) (h1 : x1.length ≤ 15) (h2 : x2.length ≤ 15) (k0 : Asc x0) (k1 : Asc x1) (k2 : Asc x2) :
    Ct w 127 [.ref p, .int way tw] [(p, listOf #[.str x0 t0, .str x1 t1, .str x2 t2] n)] (fun v new => new = [] ∧ ∃ t, v = .bytes ((listS x0 x1 x2 way).cps.map (·.toUInt8)) t) := by
  unfold Ct PG
  w_top off
  k_with_none
  (k_with "subscriptTail" => (k_here; (with_reducible show wpAny _ _ (subscriptTail _ _ (Value.ref _) (Value.int (Int.fmod _ 4) _)) _ _ _); k_dflt (refine' item4 ?zqN ?zqm ?zqx ?_; (case zqN => k_asm); (case zqm => k_mem); (case zqx => decide)); intro t' hp9))
  (k_with "eval ListComp" => (k_here; (with_reducible show wpAny _ _ (eval (Expr.ListComp _ _ _ _) _) _ _ _); lcf_look; lcg_calm; (k_dflt (refine LCg.ListComp_U (F₀ := by k_asm) (by with_unfolding_all rfl) (by decide) (by rfl) (by decide) (by rfl) ?_)); k_dflt lcg_toSrc))
  (k_with "CompSrc" => (k_here; k_dflt (refine LCg.CompSrc.ledger (by rfl) (by k_asm) (by k_asm) (by k_mem) (by first | size_fits | exact Nat.le_of_ble_eq_true rfl) ?_; intro g'; lcg_lit)))
  (k_with "CompEnd" => (refine compEndM (by k_asm) (by assumption) (by (simp only [LCg.Off3, and_true]); assumption) (by first | lcg_src | (unfold LCg.SrcAt; lcg_src)) ?_))
  (k_with "call builtin:str.join" => (k_here; (k_dflt (refine' join6 ?zqN ?zqm ?zqg ?zqa ?zqb ?zqc ?zqd ?zqe ?zqf ?_; (case zqN => k_asm); (case zqm => k_mem); (case zqg => exact gap_len _); (case zqa => decide); (case zqb => assumption); (case zqc => assumption); (case zqd => assumption); (case zqe => assumption); (case zqf => decide))); intro t' k' hp9))
  (k_with "getMethod str" => (k_here; (with_reducible show wpAny _ _ (getMethod (Value.str _ _) (Str.ofString "encode") _) _ _ _); refine encode_method ?_))
  (k_with "call builtin:str.encode" => (k_here; (k_dflt (refine' encode_call ?zqsz ?zqas ?_; (case zqsz => (simp only [Str.length_append, lq1, lq2]; omega)); (case zqas => exact list_asc (by assumption) (by assumption) (by assumption)))); intro t' k'))
  k_fill
  intro mean mg mb news dp un gd cn cs a ccd cl outer A₀ base h₀ L m s Q E hB hF hX hN hT hk hdp hu hret
  try dsimp only [List.nil_append, List.cons_append] at *
  refine wpAny_call ?_
  k_dflt (refine' code_defC ?k1 ?k2 ?k3 ?k4 ?k5 ?kA ?kF ?kK ?k6 ?k7 ?k8 ?k9 ?kB ?kD ?_ ?c2 ?c3 ?c4; (case kA => exact rfl); (case kF => exact rfl); (case kK => first | exact rfl | assumption); (case k1 => k_asm); (case k2 => k_asm); (case k3 => k_asm); (case k4 => k_asm); (case k5 => k_asm); (case k6 => k_is); (case k7 => k_is); (case k8 => ktr_room); (case k9 => exact BindsTo.of_eq rfl); (case kB => exact rfl); (case kD => decide +kernel); (case c2 => exact rfl); (case c3 => exact rfl); (case c4 => exact rfl); k_whole; intro g' L' h' tk' cells' FG' F' N' Y' B' X' T' l1; (try k_lt l1); k_cells Y'; (try simp only [List.cons_append, List.nil_append] at N'); (try dsimp only); (try k_lift B'); (try k_fold))
  obtain ⟨oc, eo⟩ := obj_name N'
  subst eo
  have dC : oc.data = .cell (some (.ref p)) := by assumption
  refine cut_cps (g := g') (L := L') (fun h m C => ∀ (v0 : Tok), News g' L' h ((L' + 1, oc) :: (p, listOf #[.str x0 t0, .str x1 t1, .str x2 t2] n) :: news) → LK m [(Str.ofString "way", .int way tw), (Str.ofString "head", .str (headS way) v0)] → (headS way).length ≤ 21 → C) ?js ?ks
  case js =>
    intro Jq9 hJ9
    k_steps
    all_goals (refine' hJ9 (by k_asm) (fun C9 k9 => k9 _ ?zqN ⟨rfl, rfl, trivial⟩ (by assumption)); (case zqN => first | assumption | (refine' cb_drop ?zqcbN ?zqcbS; (case zqcbN => assumption); (case zqcbS => kcj_all))))
  case ks =>
  intro h tk m F' v0 N' hlk hl0
  replace F' := fr_lk [(Str.ofString "way", .int way tw), (Str.ofString "head", .str (headS way) v0)] F' hlk
  clear hlk
  dsimp only [ovl] at F'
  try k_sweep
  try dsimp only
  refine cut_cps (g := g') (L := L') (fun h m C => ∀ (v0 v1 : Tok), News g' L' h ((L' + 1, oc) :: (p, listOf #[.str x0 t0, .str x1 t1, .str x2 t2] n) :: news) → LK m [(Str.ofString "way", .int way tw), (Str.ofString "head", .str (headS way) v0), (Str.ofString "gap", .str (gapS way) v1)] → (headS way).length ≤ 21 → (gapS way).length ≤ 21 → C) ?js ?ks
  case js =>
    intro Jq9 hJ9
    k_steps
    all_goals (refine' hJ9 (by k_asm) (fun C9 k9 => k9 _ _ ?zqN ⟨rfl, rfl, rfl, trivial⟩ (by assumption) (by assumption)); (case zqN => first | assumption | (refine' cb_drop ?zqcbN ?zqcbS; (case zqcbN => assumption); (case zqcbS => kcj_all))))
  case ks =>
  intro h tk m F' v0 v1 N' hlk hl0 hl1
  replace F' := fr_lk [(Str.ofString "way", .int way tw), (Str.ofString "head", .str (headS way) v0), (Str.ofString "gap", .str (gapS way) v1)] F' hlk
  clear hlk
  dsimp only [ovl] at F'
  try k_sweep
  try dsimp only
  refine cut_cps (g := g') (L := L') (fun h m C => ∀ (v0 v1 v2 : Tok), News g' L' h ((L' + 1, oc) :: (p, listOf #[.str x0 t0, .str x1 t1, .str x2 t2] n) :: news) → LK m [(Str.ofString "head", .str (headS way) v0), (Str.ofString "gap", .str (gapS way) v1), (Str.ofString "tail", .str (tailS way) v2)] → (headS way).length ≤ 21 → (gapS way).length ≤ 21 → (tailS way).length ≤ 21 → C) ?js ?ks
  case js =>
    intro Jq9 hJ9
    k_steps
    all_goals (refine' hJ9 (by k_asm) (fun C9 k9 => k9 _ _ _ ?zqN ⟨rfl, rfl, rfl, trivial⟩ (by assumption) (by assumption) (by assumption)); (case zqN => first | assumption | (refine' cb_drop ?zqcbN ?zqcbS; (case zqcbN => assumption); (case zqcbS => kcj_all))))
  case ks =>
  intro h tk m F' v0 v1 v2 N' hlk hl0 hl1 hl2
  replace F' := fr_lk [(Str.ofString "head", .str (headS way) v0), (Str.ofString "gap", .str (gapS way) v1), (Str.ofString "tail", .str (tailS way) v2)] F' hlk
  clear hlk
  dsimp only [ovl] at F'
  try k_sweep
  try dsimp only
  k_steps
  all_goals (refine' hret _ [] _ _ ⟨rfl, ?eV⟩ ?eF ?eN ?eL; (case eF => k_asm); (case eN => first | k_asm | (refine' cb_drop ?cbN ?cbS; (case cbN => assumption); (case cbS => kcj_all))); (case eL => exact fun _ h => nomatch h); (case eV => exact ⟨_, rfl⟩))
end Mine
end
section
open PySem PySem.W PyProof.Rows Mine
set_option maxRecDepth 100000
set_option maxHeartbeats 400000000
namespace Mine
/-- a contract of a def that is handed the call's own list of ints -/
noncomputable def CtI (w : World) (f : Addr) (Ok : Value → Led → Prop) : Prop :=
  ∀ (l : Addr) (vs : List Value) (ns : List Int) (mean : ExcName → Option Value) (mg mb : Str → Option Value) (news : Led) (dp un : Nat) (gd : Option (List Code)) (cn : Str) (cs : Scope) (a : Addr) (ccd : Value) (cl : List (Str × Addr)) (outer : List Env) (A₀ : Around) (base h₀ : Heap) (L : Addr) (m : Str → Option Value) (s : Shared) (Q E : Value → Shared → Prop),
    IntsAre vs ns → ns.length ≤ 63 → base.IsList l vs.toArray → Below A₀ base outer h₀ → Fr h₀ L s.heap m → (hd.heap_39 w.params).In h₀ → News h₀ L s.heap news → Top hd.view_39 LO mean mg mb h₀ → cs.kind = .function → dp + 8 < recursionLimit → un + 64 < cLine →
    (∀ (v : Value) (new : Led) (h' : Heap) (tk' : Nat), Ok v new → Fr h₀ L h' m → News h₀ L h' (new ++ news) → (∀ p ∈ new, ∀ q ∈ news, q.1 < p.1) → Q v { s with heap := h', toks := tk' }) →
    wpAny (model PG w) (ktrTop dp un gd cn cs L a ccd cl outer) (call (.ref f) [.ref l]) Q E s
theorem lt_one8 {D : Addr} {o : Obj} {news : Led} (h : ∀ p ∈ news, p.1 < D) : ∀ p ∈ [(D, o)], ∀ q ∈ news, q.1 < p.1 := by
  intro p hp q hq; rw [List.mem_singleton.mp hp]; exact h q hq
theorem ints_two {vs : List Value} {ns : List Int} (h : IntsAre vs ns) (e : ns.length = 2) : ∃ c0 t0 c1 t1, vs = [.int c0 t0, .int c1 t1] := by
  cases h with
  | nil => cases e
  | cons n t h =>
    cases h with
    | nil => cases e
    | cons n' t' h =>
      cases h with
      | nil => exact ⟨_, _, _, _, rfl⟩
      | cons n t h => simp at e
theorem cells_c (w : World) : CtI w 108 (fun v new => ∃ l n c0 t0 c1 t1, v = .ref l ∧ new = [(l, listOf #[.int c0 t0, .int c1 t1] n)]) := by
  unfold CtI PG
  w_top off
  k_with_none
  k_fill
  intros; rename_i hret
  try dsimp only [List.nil_append, List.cons_append] at *
  refine wpAny_call ?_
  k_dflt cell_enter
  (k_with "state" => first | exact rfl | (rw [List.length_set]; assumption))
  (k_with "pyIter ref" => k_state (fun (_ : List Int) (cells : List Int) => cells.length = 2) "cells")
  k_steps
  obtain ⟨c0, t0, c1, t1, he9⟩ := ints_two (by assumption) (by assumption)
  refine' hret _ [(_, listOf _ _)] _ _ ⟨_, _, c0, t0, c1, t1, rfl, ?eV⟩ ?eF ?eN ?eL
  case eF => k_asm
  case eN => first | k_asm | (refine' cb_drop ?cbN ?cbS; (case cbN => assumption); (case cbS => kcj_all))
  case eL => first | exact lt_one8 (by assumption) | (intro p hp q hq; rw [List.mem_singleton.mp hp]; rename_i l1 _ _ _ _ _ _; first | exact l1 q hq | simp_all only [])
  case eV => rw [he9]
end Mine
end
section
open PySem PySem.W PyProof.Rows PySem.Spec PySem.Calls PySem.SeqAt
set_option maxRecDepth 100000
namespace Mine
/-- two values that == without a look at the heap -/
inductive Alike : Value → Value → Prop
  | bytes (b t u) : Alike (.bytes b t) (.bytes b u)
  | str (x t u) : Alike (.str x t) (.str x u)
  | int (i t u) : Alike (.int i t) (.int i u)
theorem Alike.at {v w : Value} (h : Alike v w) (A : Around) (s : Shared) : EqAt A s v w true := by
  cases h with
  | bytes b t u =>
    intro prog w E Q h
    unfold eqBool
    refine wpAny_holding ?_
    refine wpAny_ite_split (fun hab => ?_) (fun hab => ?_)
    · exact wpAny_bind (wpAny_rule (wpAny_pure h))
    · exact wpAny_bind (richCompare_gives (typeIs_bytes s b t) (typeIs_bytes s b u) FB.slot_bytes_eq FB.entry_bytes_eq (FB.args_bytes_eq_2 _ _) (gives_bytes_eq b b t u) (by simp [Made.takes]) (by rw [beq_self_eq_true]; exact wpAny_truthy_bool h))
  | str x t u => have := EqAt.str_str (A := A) (s := s) x t x u; rw [beq_self_eq_true] at this; exact this
  | int x t u => have := EqAt.int_int (A := A) (s := s) x t x u; rw [beq_self_eq_true] at this; exact this
inductive AlikeAll : List Value → List Value → Prop
  | nil : AlikeAll [] []
  | cons {v w vs ws} : Alike v w → AlikeAll vs ws → AlikeAll (v :: vs) (w :: ws)
theorem AlikeAll.len : ∀ {vs ws : List Value}, AlikeAll vs ws → vs.length = ws.length
  | _, _, .nil => rfl
  | _, _, .cons _ r => by rw [List.length_cons, List.length_cons, r.len]
theorem AlikeAll.at : ∀ {vs ws : List Value}, AlikeAll vs ws → ∀ (A : Around) (s : Shared) (j : Nat) (h1 : j < vs.length) (h2 : j < ws.length), EqAt A s vs[j] ws[j] true
  | _, _, .nil, _, _, _, h1, _ => absurd h1 (Nat.not_lt_zero _)
  | _, _, .cons h _, A, s, 0, _, _ => h.at A s
  | _, _, .cons _ r, A, s, j + 1, h1, h2 => r.at A s j (Nat.lt_of_succ_lt_succ h1) (Nat.lt_of_succ_lt_succ h2)
section
variable {prog : Program} {w : World} {A : Around} {E : Value → Shared → Prop} {s : Shared} {h₀ : Heap} {L l b : Addr} {news : Led} {vs ws : List Value} {Q : Value → Shared → Prop}
theorem led_tup {vs : List Value} (N : News h₀ L s.heap news) (hl : (l, tupOf vs.toArray) ∈ news) : s.heap.IsTuple l vs.toArray := ⟨_, N.get hl, rfl, _, rfl⟩
theorem ne_tuples (N : News h₀ L s.heap news) (hl : (l, tupOf vs.toArray) ∈ news) (hb : (b, tupOf ws.toArray) ∈ news) (h : AlikeAll vs ws) (hu : A.units < cLine) (q : Q (.bool false) s) :
    wpAny (model prog w) A (compareOp .NotEq (.ref l) (.ref b)) Q E s := by
  have e : RcNeAt A s (.ref l) (.ref b) (!((List.range (min vs.toArray.size ws.toArray.size)).all (fun _ => true) && vs.toArray.size == ws.toArray.size)) :=
    RcNeAt.tuples (led_tup N hl) (led_tup N hb) hu fun j h1 h2 => by simpa using h.at A.in1 s j (by simpa using h1) (by simpa using h2)
  refine e prog w E Q ?_
  have hs : (vs.toArray.size == ws.toArray.size) = true := by rw [List.size_toArray, List.size_toArray, h.len]; simp
  rw [hs]
  have ha : (List.range (min vs.toArray.size ws.toArray.size)).all (fun _ => true) = true := by simp
  rw [ha]
  exact q
/-- a list of one tuple, another list of one like it -/
theorem ne_list1 {lt bt : Addr} {n n' : Nat} (N : News h₀ L s.heap news) (hl : (l, listOf #[.ref lt] n) ∈ news) (hb : (b, listOf #[.ref bt] n') ∈ news) (hl' : (lt, tupOf vs.toArray) ∈ news) (hb' : (bt, tupOf ws.toArray) ∈ news) (h : AlikeAll vs ws) (hne : lt ≠ bt) (hu : A.units < cLine) (hu1 : A.in1.units < cLine) (q : Q (.bool false) s) :
    wpAny (model prog w) A (compareOp .NotEq (.ref l) (.ref b)) Q E s := by
  have e1 : EqAt A.in1 s (.ref lt) (.ref bt) ((List.range (min vs.toArray.size ws.toArray.size)).all (fun _ => true) && vs.toArray.size == ws.toArray.size) :=
    EqAt.of_refs hne (RcAt.tuples (led_tup N hl') (led_tup N hb') hu1 fun j h1 h2 => by simpa using h.at A.in1.in1 s j (by simpa using h1) (by simpa using h2))
  have hs : (vs.toArray.size == ws.toArray.size) = true := by rw [List.size_toArray, List.size_toArray, h.len]; simp
  have ha : (List.range (min vs.toArray.size ws.toArray.size)).all (fun _ => true) = true := by simp
  rw [hs, ha] at e1
  have e : RcNeAt A s (.ref l) (.ref b) (!(List.range (#[Value.ref lt] : Array Value).size).all (fun _ => true)) :=
    RcNeAt.lists (News.isList N hl) (News.isList N hb) rfl hu fun j h1 h2 => by
      have h0 : j = 0 := by simp at h1; omega
      subst h0
      exact e1
  exact e prog w E Q q
end
end Mine
namespace Mine
theorem news_add {g : Heap} {L : Addr} {h : Heap} {x : Addr × Obj} {l : Led} (N : News g L h l) (hx : x ∈ l) : News g L h (x :: l) := fun p hp => (List.mem_cons.mp hp).elim (fun e => e ▸ N x hx) (N p)
end Mine
end
section
open PySem PySem.W PyProof.Rows Mine
set_option maxRecDepth 100000
set_option maxHeartbeats 400000000
namespace Mine
noncomputable def Bd (a0 a1 a2 a3 : Int) : Prop := (0 ≤ a0 ∧ a0 ≤ 2) ∧ (0 ≤ a1 ∧ a1 ≤ 2) ∧ (0 ≤ a2 ∧ a2 ≤ 2) ∧ (0 ≤ a3 ∧ a3 ≤ 2)
noncomputable def encB (x : Str) : Array UInt8 := x.cps.map (·.toUInt8)
/-- what is listed of a standing tower -/
noncomputable def flB (a0 a1 a2 a3 way : Int) : Array UInt8 := encB (listS (pegF a0 a1 a2 a3 0) (pegF a0 a1 a2 a3 1) (pegF a0 a1 a2 a3 2) way)
/-- the texts of the three pegs -/
noncomputable def PegsAre (a0 a1 a2 a3 : Int) (x0 x1 x2 : Str) : Prop := x0 = pegF a0 a1 a2 a3 0 ∧ x1 = pegF a0 a1 a2 a3 1 ∧ x2 = pegF a0 a1 a2 a3 2
noncomputable def TxtOk (x : Str) : Prop := x.length ≤ 15 ∧ x.length ≠ 0 ∧ Asc x
noncomputable def feedS (way : Int) : Str := if way.fmod 2 = 1 then Str.ofString "\n" else Str.ofString ""
noncomputable def leastF (a0 a1 a2 a3 k : Int) : Int := if a0 = k then 0 else if a1 = k then 1 else if a2 = k then 2 else if a3 = k then 3 else 4
noncomputable def topF (a0 a1 a2 a3 k : Int) : Str := if leastF a0 a1 a2 a3 k < 4 then Txt.mul (Str.ofString "7") (leastF a0 a1 a2 a3 k + 1) else letF k
noncomputable def dressS (c : Int) : Str := pick4 (Str.ofString "") (Str.ofString ":: x.9") (Str.ofString "\nx.9: y\n") (Str.ofString ":\n.9") c
/-- what is so of one peg: its text, what lies on top, the least disc -/
noncomputable def PegOk (a0 a1 a2 a3 k : Int) (x T : Str) (l : Int) : Prop :=
  (0 ≤ l ∧ l ≤ 4) ∧ (∀ c, stripF (x ++ dressS c) = T) ∧ (l < 4 → T = Txt.mul (Str.ofString "7") (l + 1)) ∧ (¬ l < 4 → T = letF k) ∧
    (∀ way, (ipSpecF (x ++ feedS way).cps).isNone = decide (l = 4)) ∧ (∀ way, ipSpecF (((x ++ feedS way) ++ Str.ofString "z") ++ T).cps = none) ∧ T.length ≤ 4 ∧ l = leastF a0 a1 a2 a3 k
noncomputable def lv (l0 l1 l2 k : Int) : Int := [l0, l1, l2].getD k.toNat 0
/-- how far a list of places is from home -/
noncomputable def farL (ns : List Int) (ho sm : Int) : Int := farF (ns.getD 0 0) (ns.getD 1 0) (ns.getD 2 0) (ns.getD 3 0) ho sm
noncomputable def BdL (ns : List Int) : Prop := ns.length = 4 ∧ ∀ x ∈ ns, 0 ≤ x ∧ x ≤ 2
/-- the one move -/
noncomputable def WinOk (ns : List Int) (ho left l0 l1 l2 wo wt : Int) : Prop :=
  (0 ≤ wo ∧ wo ≤ 2) ∧ (0 ≤ wt ∧ wt ≤ 2) ∧
  (∀ on ot, 0 ≤ on → on ≤ 2 → 0 ≤ ot → ot ≤ 2 → lv l0 l1 l2 on < lv l0 l1 l2 ot → farL (ns.set (lv l0 l1 l2 on).toNat ot) ho 0 < left → 0 < left ∧ on = wo ∧ ot = wt) ∧
  (0 < left → lv l0 l1 l2 wo < lv l0 l1 l2 wt ∧ farL (ns.set (lv l0 l1 l2 wo).toNat wt) ho 0 < left) ∧
  (0 < left → (halvF left).2 - 1 = lv l0 l1 l2 wo ∧ (halvF left).1 = Txt.mul (Str.ofString "\"") (farL ns ho (lv l0 l1 l2 wo + 1)))
/-- what the move makes of the pegs -/
noncomputable def MoveOk (ns' : List Int) (xs ts : List Str) (wo wt way : Int) (b e : Nat) (z' : Str) : Prop :=
  let ys := xs.set wt.toNat ((xs.getD wt.toNat Str.empty ++ Str.ofString ".") ++ ts.getD wo.toNat Str.empty)
  let v := ys.getD wo.toNat Str.empty ++ feedS way
  let r := Txt.slice v none (some (b : Int)) ++ Txt.slice v (some (e : Int)) none
  (ipSpecF v.cps = some (b, e) ∧ b ≤ e ∧ e ≤ v.cps.size) ∧ Txt.slice r none (some ((r.length : Int) - ((feedS way).length : Int))) = z' ∧ (∀ y ∈ ys, y.length ≤ 60) ∧ z'.length ≤ 60 ∧
    ∃ a0 a1 a2 a3, ns' = [a0, a1, a2, a3] ∧ Bd a0 a1 a2 a3 ∧ ys.set wo.toNat z' = [pegF a0 a1 a2 a3 0, pegF a0 a1 a2 a3 1, pegF a0 a1 a2 a3 2]
end Mine
end
section
open PySem PySem.W PyProof.Rows Mine
set_option maxRecDepth 100000
set_option maxHeartbeats 400000000
namespace Mine
noncomputable def bitR (b : Bool) (d : Int) (row : Str) : Str := if b = true then (row ++ Str.ofString ".") ++ Txt.mul (Str.ofString "7") (d + 1) else row
/-- one peg by what lies on it -/
noncomputable def pegB (b0 b1 b2 b3 : Bool) (k : Int) : Str := bitR b0 0 (bitR b1 1 (bitR b2 2 (bitR b3 3 (letF k))))
theorem pegF_eq (a0 a1 a2 a3 k : Int) : pegF a0 a1 a2 a3 k = pegB (decide (a0 = k)) (decide (a1 = k)) (decide (a2 = k)) (decide (a3 = k)) k := by
  unfold pegF rowF pegB bitR
  simp only [List.foldl_cons, List.foldl_nil, rowS, at5, decide_eq_true_eq]
  rfl
noncomputable def leastB (b0 b1 b2 b3 : Bool) : Int := if b0 = true then 0 else if b1 = true then 1 else if b2 = true then 2 else if b3 = true then 3 else 4
theorem leastF_eq (a0 a1 a2 a3 k : Int) : leastF a0 a1 a2 a3 k = leastB (decide (a0 = k)) (decide (a1 = k)) (decide (a2 = k)) (decide (a3 = k)) := by
  unfold leastF leastB
  simp only [decide_eq_true_eq]
theorem fin_of {x : Int} (h : 0 ≤ x ∧ x ≤ 2) : ∃ i : Fin 3, x = (i.val : Int) := ⟨⟨x.toNat, by omega⟩, by simp; omega⟩
theorem fin_in {k : Int} (h : k ∈ [(0 : Int), 1, 2]) : ∃ i : Fin 3, k = (i.val : Int) := fin_of (by simp only [List.mem_cons, List.not_mem_nil, or_false] at h; omega)
noncomputable def pegC (c : Nat) : Bool := c == 46 || c == 55 || c == 97 || c == 98 || c == 99
theorem pegB_fact : ∀ b0 b1 b2 b3 : Bool, ∀ k : Fin 3, (pegB b0 b1 b2 b3 k.val).length ≤ 15 ∧ (pegB b0 b1 b2 b3 k.val).length ≠ 0 ∧ ((pegB b0 b1 b2 b3 k.val).cps.toList.all pegC) = true := by decide +kernel
theorem pegF_chars {a0 a1 a2 a3 : Int} : ∀ k ∈ [(0 : Int), 1, 2], ∀ c ∈ (pegF a0 a1 a2 a3 k).cps.toList, pegC c = true := by
  intro k hk
  obtain ⟨i, rfl⟩ := fin_in hk
  rw [pegF_eq]
  exact List.all_eq_true.mp (pegB_fact _ _ _ _ i).2.2
theorem pegC_or {c : Nat} (h : pegC c = true) : c = 46 ∨ c = 55 ∨ c = 97 ∨ c = 98 ∨ c = 99 := by
  unfold pegC at h
  simpa only [Bool.or_eq_true, beq_iff_eq, or_assoc] using h
theorem peg_fact {a0 a1 a2 a3 : Int} (b : Bd a0 a1 a2 a3) : ∀ k ∈ [(0 : Int), 1, 2], (pegF a0 a1 a2 a3 k).length ≤ 15 ∧ Asc (pegF a0 a1 a2 a3 k) := by
  intro k hk
  have h := pegF_chars (a0 := a0) (a1 := a1) (a2 := a2) (a3 := a3) k hk
  refine ⟨?_, fun c hc => ?_⟩
  · obtain ⟨i, rfl⟩ := fin_in hk
    rw [pegF_eq]
    exact (pegB_fact _ _ _ _ i).1
  · have := pegC_or (h c hc); omega
theorem peg_ne {a0 a1 a2 a3 : Int} (b : Bd a0 a1 a2 a3) : ∀ k ∈ [(0 : Int), 1, 2], (pegF a0 a1 a2 a3 k).length ≠ 0 := by
  intro k hk
  obtain ⟨i, rfl⟩ := fin_in hk
  rw [pegF_eq]
  exact (pegB_fact _ _ _ _ i).2.1
/-- what lies on top -/
noncomputable def topB (b0 b1 b2 b3 : Bool) (k : Int) : Str := if leastB b0 b1 b2 b3 < 4 then Txt.mul (Str.ofString "7") (leastB b0 b1 b2 b3 + 1) else letF k
theorem strip_fact : ∀ b0 b1 b2 b3 : Bool, ∀ k : Fin 3, ∀ z ∈ [Str.ofString "", Str.ofString ":: x.9", Str.ofString "\nx.9: y\n", Str.ofString ":\n.9"], stripF (pegB b0 b1 b2 b3 k.val ++ z) = topB b0 b1 b2 b3 k.val := by decide +kernel
theorem ip_fact : ∀ b0 b1 b2 b3 : Bool, ∀ k : Fin 3, ∀ z ∈ [Str.ofString "", Str.ofString "\n"], (ipSpecF (pegB b0 b1 b2 b3 k.val ++ z).cps).isNone = decide (leastB b0 b1 b2 b3 = 4) ∧ (ipSpecF (((pegB b0 b1 b2 b3 k.val ++ z) ++ Str.ofString "z") ++ topB b0 b1 b2 b3 k.val).cps).isNone = true := by decide +kernel
theorem top_fact : ∀ b0 b1 b2 b3 : Bool, ∀ k : Fin 3, (topB b0 b1 b2 b3 k.val).length ≤ 4 ∧ (0 ≤ leastB b0 b1 b2 b3 ∧ leastB b0 b1 b2 b3 ≤ 4) := by decide +kernel
theorem dress_mem (c : Int) : dressS c ∈ [Str.ofString "", Str.ofString ":: x.9", Str.ofString "\nx.9: y\n", Str.ofString ":\n.9"] := by
  unfold dressS
  rcases pick4_or (Str.ofString "") (Str.ofString ":: x.9") (Str.ofString "\nx.9: y\n") (Str.ofString ":\n.9") c with e | e | e | e <;> rw [e] <;> simp
theorem feed_mem (way : Int) : feedS way ∈ [Str.ofString "", Str.ofString "\n"] := by
  unfold feedS; split <;> simp
theorem pegB_ok (b0 b1 b2 b3 : Bool) (i : Fin 3) {a0 a1 a2 a3 : Int} (e : leastF a0 a1 a2 a3 i.val = leastB b0 b1 b2 b3) : PegOk a0 a1 a2 a3 i.val (pegB b0 b1 b2 b3 i.val) (topB b0 b1 b2 b3 i.val) (leastB b0 b1 b2 b3) := by
  refine ⟨(top_fact _ _ _ _ i).2, fun c => strip_fact _ _ _ _ i _ (dress_mem c), fun h => ?_, fun h => ?_, fun way => (ip_fact _ _ _ _ i _ (feed_mem way)).1, fun way => ?_, (top_fact _ _ _ _ i).1, e.symm⟩
  · unfold topB; rw [if_pos h]
  · unfold topB; rw [if_neg h]
  · have := (ip_fact b0 b1 b2 b3 i _ (feed_mem way)).2
    exact Option.isNone_iff_eq_none.mp this
theorem pegs_okT {a0 a1 a2 a3 : Int} {x : Str} (i : Fin 3) (e : x = pegF a0 a1 a2 a3 i.val) : ∃ T l, PegOk a0 a1 a2 a3 i.val x T l := by
  subst e
  rw [pegF_eq]
  exact ⟨_, _, pegB_ok _ _ _ _ i (leastF_eq _ _ _ _ _)⟩
theorem pegs_ok {a0 a1 a2 a3 : Int} {x0 x1 x2 : Str} (b : Bd a0 a1 a2 a3) (e : PegsAre a0 a1 a2 a3 x0 x1 x2) : ∃ T0 T1 T2 l0 l1 l2, PegOk a0 a1 a2 a3 0 x0 T0 l0 ∧ PegOk a0 a1 a2 a3 1 x1 T1 l1 ∧ PegOk a0 a1 a2 a3 2 x2 T2 l2 := by
  obtain ⟨T0, l0, h0⟩ := pegs_okT (x := x0) (0 : Fin 3) e.1
  obtain ⟨T1, l1, h1⟩ := pegs_okT (x := x1) (1 : Fin 3) e.2.1
  obtain ⟨T2, l2, h2⟩ := pegs_okT (x := x2) (2 : Fin 3) e.2.2
  exact ⟨T0, T1, T2, l0, l1, l2, h0, h1, h2⟩
end Mine
end
section
open PySem PySem.W PyProof.Rows Mine
set_option maxRecDepth 100000
set_option maxHeartbeats 400000000
namespace Mine
noncomputable def v2T : Nat → Int := fun c => [0, 0, 1, 0, 2, 0, 1, 0, 3, 0, 1, 0, 2, 0, 1, 0].getD c 0
noncomputable def oddT : Nat → Int := fun c => [0, 0, 0, 1, 0, 2, 1, 3, 0, 4, 2, 5, 1, 6, 3, 7].getD c 0
theorem halv_fact : ∀ c : Fin 16, 0 < c.val → (halvF c.val).2 - 1 = v2T c.val ∧ (halvF c.val).1 = Txt.mul (Str.ofString "\"") (oddT c.val) := by decide +kernel
theorem halv_of {c : Int} (h0 : 0 < c) (h1 : c ≤ 15) : (halvF c).2 - 1 = v2T c.toNat ∧ (halvF c).1 = Txt.mul (Str.ofString "\"") (oddT c.toNat) := by
  have h := halv_fact ⟨c.toNat, by omega⟩ (by simp; omega)
  have e : (((⟨c.toNat, by omega⟩ : Fin 16).val : Nat) : Int) = c := by simp; omega
  rw [e] at h
  exact h
noncomputable def lvF (i j k l p : Int) : Int := lv (leastF i j k l 0) (leastF i j k l 1) (leastF i j k l 2) p
/-- is the move one, and one that leads nearer -/
noncomputable def okMv (i j k l ho : Int) (p : Int × Int) : Bool := decide (lvF i j k l p.1 < lvF i j k l p.2) && decide (farL ([i, j, k, l].set (lvF i j k l p.1).toNat p.2) ho 0 < farF i j k l ho 0)
noncomputable def winM (i j k l ho : Int) : Int × Int := ([(0, 1), (0, 2), (1, 0), (1, 2), (2, 0), (2, 1)].find? (okMv i j k l ho)).getD (0, 0)
noncomputable def winB (i j k l ho : Int) : Bool :=
  let left := farF i j k l ho 0
  let w := winM i j k l ho
  ([(0, 1), (0, 2), (1, 0), (1, 2), (2, 0), (2, 1)].all fun p => !okMv i j k l ho p || (decide (0 < left) && decide (p = w))) &&
    (!decide (0 < left) || (okMv i j k l ho w && decide (v2T left.toNat = lvF i j k l w.1) && decide (oddT left.toNat = farL [i, j, k, l] ho (lvF i j k l w.1 + 1)) && decide (farL ([i, j, k, l].set (lvF i j k l w.1).toNat w.2) ho 0 = left - 1))) &&
    (decide (0 ≤ w.1) && decide (w.1 ≤ 2) && decide (0 ≤ w.2) && decide (w.2 ≤ 2))
theorem win_fact : ∀ i j k l m : Fin 3, winB i.val j.val k.val l.val m.val = true := by decide +kernel
end Mine
end
section
open PySem PySem.W PyProof.Rows Mine
set_option maxRecDepth 100000
set_option maxHeartbeats 400000000
namespace Mine
theorem getD_of {x : Array Nat} {i c : Nat} (h : x[i]? = some c) : x.getD i 0 = c := by rw [Array.getD_eq_getD_getElem?, h]; rfl
theorem cntP_ge {pr : Nat → Bool} {x : Array Nat} : ∀ {n p k : Nat}, k ≤ n → (∀ q, p ≤ q → q < p + k → pr (x.getD q 0) = true) → k ≤ cntP pr x n p
  | _, _, 0, _, _ => Nat.zero_le _
  | 0, _, k + 1, h, _ => absurd h (by omega)
  | n + 1, p, k + 1, h, hq => by
    unfold cntP
    rw [if_pos (hq p (Nat.le_refl _) (by omega))]
    exact Nat.succ_le_succ (cntP_ge (by omega) fun q h1 h2 => hq q (by omega) (by omega))
theorem cntP_eq {pr : Nat → Bool} {x : Array Nat} {n p k : Nat} (hk : k < n) (h : ∀ q, p ≤ q → q < p + k → pr (x.getD q 0) = true) (hend : pr (x.getD (p + k) 0) = false) : cntP pr x n p = k := by
  have h1 := cntP_ge (n := n) (p := p) (k := k) (by omega) h
  by_cases e : cntP pr x n p = k
  · exact e
  · exfalso
    have := cntP_in (pr := pr) (x := x) (n := n) (p := p) (q := p + k) (by omega) (by omega)
    rw [hend] at this; cases this
theorem flFind_at {x : Array Nat} {p : Nat} (hit : hitAt x p) : ∀ n, p ≤ n → (∀ q, p < q → q ≤ n → ¬ hitAt x q) → flFind x n = some (p + 7, closeAt x (p + 7))
  | 0, hp, _ => by
    have : p = 0 := by omega
    subst this
    unfold flFind; rw [if_pos hit]
  | n + 1, hp, hno => by
    unfold flFind
    by_cases e : p = n + 1
    · subst e; rw [if_pos hit]
    · rw [if_neg (hno (n + 1) (by omega) (Nat.le_refl _))]
      exact flFind_at hit n (by omega) fun q h1 h2 => hno q h1 (by omega)
theorem flFind_none {x : Array Nat} : ∀ n, (∀ q, q ≤ n → ¬ hitAt x q) → flFind x n = none
  | 0, hno => by unfold flFind; rw [if_neg (hno 0 (Nat.le_refl _))]
  | n + 1, hno => by
    unfold flFind
    rw [if_neg (hno (n + 1) (Nat.le_refl _))]
    exact flFind_none n fun q h => hno q (by omega)
noncomputable abbrev opensAt (t : List Nat) (i : Nat) : Prop := t[i]? = some 70 ∧ t[i + 1]? = some 76 ∧ t[i + 2]? = some 65 ∧ t[i + 3]? = some 71 ∧ t[i + 4]? = some 83 ∧ t[i + 5]? = some 32 ∧ t[i + 6]? = some 40
/-- no place in the tail opens a list that is shut -/
noncomputable def tailOk (t : List Nat) : Bool := (List.range t.length).all fun i => !decide (opensAt t i) || !(t.drop (i + 7)).contains 41 || (t.take i).contains 10
theorem close_in {x : Array Nat} {p : Nat} (h : closeAt x p < x.size) : ∃ r, p ≤ r ∧ x[r]? = some 41 := by
  unfold closeAt at h
  have hn : cntP (· != 41) x (x.size - p) p < x.size - p := by omega
  have := cntP_end hn
  refine ⟨p + cntP (· != 41) x (x.size - p) p, by omega, ?_⟩
  rw [Array.getElem?_eq_getElem h]
  have e : x.getD (p + cntP (· != 41) x (x.size - p) p) 0 = x[p + cntP (· != 41) x (x.size - p) p] := by
    rw [Array.getD_eq_getD_getElem?, Array.getElem?_eq_getElem h]; rfl
  rw [e] at this
  simpa using this
theorem tail_no {t : List Nat} (ht : tailOk t = true) {i : Nat} (hp : opensAt t i) (hr : ∃ r, i + 7 ≤ r ∧ t[r]? = some 41) : ∃ q, q < i ∧ t[q]? = some 10 := by
  have hi : i < t.length := by
    apply Nat.lt_of_not_le; intro h; have := hp.1; rw [List.getElem?_eq_none h] at this; cases this
  have h := List.all_eq_true.mp ht i (List.mem_range.mpr hi)
  rw [decide_eq_true hp] at h
  obtain ⟨r, h1, h2⟩ := hr
  have hc : (t.drop (i + 7)).contains 41 = true := by
    rw [List.contains_iff_mem]
    refine List.mem_iff_getElem?.mpr ⟨r - (i + 7), ?_⟩
    rw [List.getElem?_drop, show i + 7 + (r - (i + 7)) = r by omega, h2]
  rw [hc] at h
  simp only [Bool.not_true, Bool.false_or] at h
  rw [List.contains_iff_mem] at h
  obtain ⟨q, hq⟩ := List.mem_iff_getElem?.mp h
  have hq2 : q < i := by
    apply Nat.lt_of_not_le; intro hle
    rw [List.getElem?_eq_none (by rw [List.length_take]; omega)] at hq; cases hq
  exact ⟨q, hq2, by rw [List.getElem?_take, if_pos hq2] at hq; exact hq⟩
noncomputable def flW : List Nat := [70, 76, 65, 71, 83, 32, 40]
section
variable {H B T : List Nat}
theorem at_H {q : Nat} (h : q < H.length) : (H ++ (flW ++ (B ++ (41 :: T))))[q]? = H[q]? := List.getElem?_append_left h
theorem at_W (i : Nat) (h : i < 7) : (H ++ (flW ++ (B ++ (41 :: T))))[H.length + i]? = flW[i]? := by
  rw [List.getElem?_append_right (by omega), Nat.add_sub_cancel_left, List.getElem?_append_left (by exact h)]
theorem at_B (i : Nat) (h : i < B.length) : (H ++ (flW ++ (B ++ (41 :: T))))[H.length + 7 + i]? = B[i]? := by
  rw [List.getElem?_append_right (by omega), Nat.add_assoc, Nat.add_sub_cancel_left, List.getElem?_append_right (by show flW.length ≤ _; show 7 ≤ _; omega), show 7 + i - flW.length = i from Nat.add_sub_cancel_left .., List.getElem?_append_left h]
theorem at_C : (H ++ (flW ++ (B ++ (41 :: T))))[H.length + 7 + B.length]? = some 41 := by
  rw [List.getElem?_append_right (by omega), Nat.add_assoc, Nat.add_sub_cancel_left, List.getElem?_append_right (by show 7 ≤ _; omega), show 7 + B.length - flW.length = B.length from Nat.add_sub_cancel_left .., List.getElem?_append_right (Nat.le_refl _), Nat.sub_self]; rfl
theorem at_T (i : Nat) : (H ++ (flW ++ (B ++ (41 :: T))))[H.length + 7 + B.length + 1 + i]? = T[i]? := by
  rw [List.getElem?_append_right (by omega), show H.length + 7 + B.length + 1 + i - H.length = 7 + (B.length + (1 + i)) by omega, List.getElem?_append_right (by show 7 ≤ _; omega), show 7 + (B.length + (1 + i)) - flW.length = B.length + (1 + i) from Nat.add_sub_cancel_left .., List.getElem?_append_right (by omega), Nat.add_sub_cancel_left, Nat.add_comm, List.getElem?_cons_succ]
theorem whole_len : (H ++ (flW ++ (B ++ (41 :: T)))).length = H.length + 7 + B.length + 1 + T.length := by
  simp only [List.length_append, List.length_cons]; show H.length + (7 + _) = _; omega
/-- the list that the pattern finds: the last one on the first row that is shut -/
theorem fl_found (hH : 10 ∉ H) (hB : ∀ c ∈ B, c ≠ 41 ∧ c ≠ 70) (hT : tailOk T = true) : flSpec (H ++ (flW ++ (B ++ (41 :: T)))).toArray = some (H.length + 7, H.length + 7 + B.length) := by
  have hsz : (H ++ (flW ++ (B ++ (41 :: T)))).toArray.size = H.length + 7 + B.length + 1 + T.length := by rw [List.size_toArray, whole_len]
  generalize hx : (H ++ (flW ++ (B ++ (41 :: T)))).toArray = x at *
  have gt : ∀ q : Nat, x[q]? = (H ++ (flW ++ (B ++ (41 :: T))))[q]? := fun q => by rw [← hx]; simp
  have hpre : preAt x H.length := by
    have w : ∀ i, i < 7 → x[H.length + i]? = flW[i]? := fun i h => by rw [gt]; exact at_W i h
    exact ⟨w 0 (by decide), w 1 (by decide), w 2 (by decide), w 3 (by decide), w 4 (by decide), w 5 (by decide), w 6 (by decide)⟩
  have hcl : closeAt x (H.length + 7) = H.length + 7 + B.length := by
    unfold closeAt
    rw [cntP_eq (x := x) (pr := (· != 41)) (k := B.length) (n := x.size - (H.length + 7)) (p := H.length + 7) (by omega) ?_ (by rw [getD_of (c := 41) (by rw [gt]; exact at_C)]; rfl)]
    · intro q h1 h2
      have e : x[H.length + 7 + (q - (H.length + 7))]? = B[q - (H.length + 7)]? := by rw [gt]; exact at_B _ (by omega)
      rw [show H.length + 7 + (q - (H.length + 7)) = q by omega] at e
      have hlt : q - (H.length + 7) < B.length := by omega
      rw [List.getElem?_eq_getElem hlt] at e
      rw [getD_of e]
      simpa using (hB _ (List.getElem_mem hlt)).1
  unfold flSpec
  rw [if_neg (by omega)]
  have hit : hitAt x H.length := ⟨hpre, by omega⟩
  rw [flFind_at hit _ ?_ ?_, hcl]
  · refine cntP_ge (by omega) fun q _ h2 => ?_
    have h2' : q < H.length := by omega
    have e : x[q]? = some H[q] := by rw [gt, at_H h2', List.getElem?_eq_getElem h2']
    rw [getD_of e]
    have : H[q] ≠ 10 := fun h => hH (h ▸ List.getElem_mem h2')
    simpa using this
  · intro q h1 h2 ⟨hq, hc⟩
    have hline : ∀ r, r < q → x[r]? ≠ some 10 := fun r hr e => by
      have := cntP_in (pr := (· != 10)) (x := x) (n := x.size) (p := 0) (q := r) (Nat.zero_le _) (by omega)
      rw [getD_of e] at this; cases this
    have h70 := hq.1
    by_cases c1 : q < H.length + 7
    · have e := at_W (H := H) (B := B) (T := T) (q - H.length) (by omega)
      rw [show H.length + (q - H.length) = q by omega, ← gt, h70] at e
      have : ∀ i : Fin 7, 0 < i.val → some 70 ≠ flW[i.val]? := by decide
      exact this ⟨q - H.length, by omega⟩ (by show 0 < q - H.length; omega) e
    · by_cases c2 : q < H.length + 7 + B.length
      · have e := at_B (H := H) (B := B) (T := T) (q - (H.length + 7)) (by omega)
        rw [show H.length + 7 + (q - (H.length + 7)) = q by omega, ← gt, h70] at e
        exact (hB 70 (List.mem_iff_getElem?.mpr ⟨_, e.symm⟩)).2 rfl
      · by_cases c3 : q = H.length + 7 + B.length
        · rw [c3, gt, at_C] at h70; cases h70
        · obtain ⟨i, rfl⟩ : ∃ i, q = H.length + 7 + B.length + 1 + i := ⟨q - (H.length + 7 + B.length + 1), by omega⟩
          have tt : ∀ j, x[H.length + 7 + B.length + 1 + j]? = T[j]? := fun j => by rw [gt]; exact at_T j
          obtain ⟨p0, p1, p2, p3, p4, p5, p6⟩ := hq
          have dr : ∀ j c, x[H.length + 7 + B.length + 1 + i + j]? = some c → T[i + j]? = some c := fun j c h => by
            rw [← tt, ← h]; congr 1; omega
          have h7 : opensAt T i := ⟨dr 0 _ p0, dr 1 _ p1, dr 2 _ p2, dr 3 _ p3, dr 4 _ p4, dr 5 _ p5, dr 6 _ p6⟩
          obtain ⟨r, hr1, hr2⟩ := close_in hc
          obtain ⟨j, rfl⟩ : ∃ j, r = H.length + 7 + B.length + 1 + j := ⟨r - (H.length + 7 + B.length + 1), by omega⟩
          rw [tt] at hr2
          obtain ⟨k, hk1, hk2⟩ := tail_no hT h7 ⟨j, by omega, hr2⟩
          exact hline (H.length + 7 + B.length + 1 + k) (by omega) (by rw [tt]; exact hk2)
end
theorem fl_bare {x : Array Nat} (h : ∀ q : Nat, x[q]? ≠ some 41) : flSpec x = none := by
  unfold flSpec
  split
  · rfl
  · refine flFind_none _ fun q _ hq => ?_
    obtain ⟨r, _, hr⟩ := close_in hq.2
    exact h r hr
theorem fl_row {x : Array Nat} (h : x[0]? = some 10) : flSpec x = none := by
  unfold flSpec
  split
  · rfl
  · have : cntP (· != 10) x x.size 0 = 0 := by
      have hlt : 0 < x.size := by
        apply Nat.lt_of_not_le; intro hl; rw [Array.getElem?_eq_none hl] at h; cases h
      obtain ⟨n, hn⟩ : ∃ n, x.size = n + 1 := ⟨x.size - 1, by omega⟩
      rw [hn]; unfold cntP; rw [getD_of h]; rfl
    rw [this]
    refine flFind_none _ fun q hq hh => ?_
    have hq0 : q = 0 := by omega
    subst hq0
    have := hh.1.1
    rw [h] at this; cases this

open PySem.Builtin.Bytes in
theorem words_step {f l : Nat} {sp w rest : List UInt8} (hsp : ∀ c ∈ sp, isSpace c = true) (hw : w ≠ []) (hw' : ∀ c ∈ w, isSpace c = false) (hr : ∀ c, rest.head? = some c → isSpace c = true) : words (f + 1) (l + 1) (sp ++ (w ++ rest)) = w :: words f l rest := by
  obtain ⟨c, w', rfl⟩ := List.exists_cons_of_ne_nil hw
  have hc := hw' c (by simp)
  have e1 : (sp ++ ((c :: w') ++ rest)).dropWhile isSpace = (c :: w') ++ rest := by
    rw [List.dropWhile_append_of_pos hsp, List.cons_append, List.dropWhile_cons_of_neg (by rw [hc]; simp)]
  have e2 : ((c :: w') ++ rest).takeWhile (!isSpace ·) = c :: w' := by
    rw [List.takeWhile_append_of_pos (by intro a ha; rw [hw' a ha]; rfl)]
    cases rest with
    | nil => simp
    | cons d r => rw [List.takeWhile_cons_of_neg (by rw [hr d rfl]; simp), List.append_nil]
  have e3 : ((c :: w') ++ rest).dropWhile (!isSpace ·) = rest := by
    rw [List.dropWhile_append_of_pos (by intro a ha; rw [hw' a ha]; rfl)]
    cases rest with
    | nil => simp
    | cons d r => rw [List.dropWhile_cons_of_neg (by rw [hr d rfl]; simp)]
  conv => lhs; unfold words
  rw [e1]
  rw [List.cons_append] at e2 e3 ⊢
  dsimp only
  rw [if_neg (by simp), e2, e3]
  rfl
open PySem.Builtin.Bytes in
theorem words_end {f l : Nat} {sp : List UInt8} (hsp : ∀ c ∈ sp, isSpace c = true) : words (f + 1) l sp = [] := by
  have e1 : sp.dropWhile isSpace = [] := by
    have := List.dropWhile_append_of_pos (l₂ := []) hsp
    rw [List.append_nil] at this; rw [this]; rfl
  unfold words
  rw [e1]
open PySem.Builtin.Bytes in
theorem words_four {k : Nat} {g w2 w1 w0 : List UInt8} (hg : g ≠ []) (hs : ∀ c ∈ g, isSpace c = true) (n2 : w2 ≠ []) (n1 : w1 ≠ []) (n0 : w0 ≠ []) (h2 : ∀ c ∈ w2, isSpace c = false) (h1 : ∀ c ∈ w1, isSpace c = false) (h0 : ∀ c ∈ w0, isSpace c = false) :
    words (k + 5) (k + 5) (g ++ (w2 ++ (g ++ (w1 ++ (g ++ (w0 ++ (g ++ (w2 ++ g)))))))) = [w2, w1, w0, w2] := by
  have hh : ∀ r : List UInt8, ∀ c, (g ++ r).head? = some c → isSpace c = true := fun r c h => by
    obtain ⟨d, g', rfl⟩ := List.exists_cons_of_ne_nil hg
    cases h; exact hs _ (by simp)
  rw [words_step hs n2 h2 (hh _), words_step hs n1 h1 (hh _), words_step hs n0 h0 (hh _)]
  have := words_step (f := k + 1) (l := k + 1) (rest := g) hs n2 h2 (by have := hh []; rwa [List.append_nil] at this)
  rw [this, words_end hs]
theorem enc_nat {x : Str} (h : Asc x) : (encB x).map (·.toNat) = x.cps := by
  unfold encB
  apply Array.ext
  · simp
  · intro i h1 h2
    have h3 : x.cps[i] < 128 := h _ (by simp)
    simp only [Array.getElem_map, Nat.toUInt8, UInt8.toNat_ofNat']
    omega
noncomputable def bodyS (x0 x1 x2 : Str) (way : Int) : List Nat := (gapS way).cps.toList ++ (x2.cps.toList ++ ((gapS way).cps.toList ++ (x1.cps.toList ++ ((gapS way).cps.toList ++ (x0.cps.toList ++ ((gapS way).cps.toList ++ (x2.cps.toList ++ (gapS way).cps.toList)))))))
theorem join_body (x0 x1 x2 : Str) (way : Int) : (Txt.join (gapS way) [Str.ofString "", x2, x1, x0, x2, Str.ofString ""]).cps.toList = bodyS x0 x1 x2 way := by
  rw [txt_join]
  have e0 : (Str.ofString "").cps.toList = [] := by decide
  simp only [Str.join, Str.cps_append, Array.toList_append, e0, List.nil_append, List.append_nil, bodyS, List.append_assoc]
theorem list_split (x0 x1 x2 : Str) (way : Int) : (listS x0 x1 x2 way).cps.toList = (headS way).cps.toList ++ (flW ++ (bodyS x0 x1 x2 way ++ (41 :: (tailS way).cps.toList))) := by
  have e1 : (Str.ofString "FLAGS (").cps.toList = flW := by decide
  have e2 : (Str.ofString ")").cps.toList = [41] := by decide
  unfold listS
  rw [← join_body]
  simp only [Str.cps_append, Array.toList_append, e1, e2, List.append_assoc, List.cons_append, List.nil_append]
theorem pick4_all {P : Str → Prop} {x y z u : Str} (c : Int) (h0 : P x) (h1 : P y) (h2 : P z) (h3 : P u) : P (pick4 x y z u c) := by
  rcases pick4_or x y z u c with e | e | e | e <;> rw [e] <;> assumption
theorem gap_fact (way : Int) : (gapS way).cps.toList ≠ [] ∧ (∀ c ∈ (gapS way).cps.toList, c = 32 ∨ c = 9 ∨ c = 13 ∨ c = 10) := by
  unfold gapS
  exact pick4_all (P := fun g => g.cps.toList ≠ [] ∧ (∀ c ∈ g.cps.toList, c = 32 ∨ c = 9 ∨ c = 13 ∨ c = 10)) _ (by decide) (by decide) (by decide) (by decide)
theorem head_fact (way : Int) : 10 ∉ (headS way).cps.toList := by
  unfold headS
  exact pick4_all (P := fun g => 10 ∉ g.cps.toList) _ (by decide) (by decide) (by decide) (by decide)
theorem tail_fact (way : Int) : tailOk (tailS way).cps.toList = true := by
  unfold tailS
  exact pick4_all (P := fun g => tailOk g.cps.toList = true) _ (by decide +kernel) (by decide +kernel) (by decide +kernel) (by decide +kernel)
theorem list_len (x0 x1 x2 : Str) (way : Int) (h0 : x0.length ≤ 15) (h1 : x1.length ≤ 15) (h2 : x2.length ≤ 15) : (listS x0 x1 x2 way).length ≤ 1000 := by
  have e1 : (headS way).length ≤ 100 := by unfold headS; exact pick4_all (P := fun g => g.length ≤ 100) _ (by decide) (by decide) (by decide) (by decide)
  have e2 : (tailS way).length ≤ 100 := by unfold tailS; exact pick4_all (P := fun g => g.length ≤ 100) _ (by decide) (by decide) (by decide) (by decide)
  have e3 := gap_len way
  have e4 : (Str.ofString "FLAGS (").length = 7 := by decide
  have e5 : (Str.ofString ")").length = 1 := by decide
  have e6 := join6_len (g := gapS way) (a := Str.ofString "") (b := x2) (c := x1) (d := x0) (e := x2) (f := Str.ofString "") e3 (by decide) h2 h1 h0 h2 (by decide)
  unfold listS
  rw [Str.length_append, Str.length_append, Str.length_append, Str.length_append]; omega
theorem flags_fact {a0 a1 a2 a3 : Int} (b : Bd a0 a1 a2 a3) (way : Int) : (flB a0 a1 a2 a3 way).size ≤ 1048576 ∧ ∃ B E, FlIs ((flB a0 a1 a2 a3 way).map (·.toNat)) (some (B, E)) ∧ ((flB a0 a1 a2 a3 way).extract B E).any Builtin.Bytes.isSpace = true ∧
    Builtin.Bytes.words (((flB a0 a1 a2 a3 way).extract B E).size + 1) (((flB a0 a1 a2 a3 way).extract B E).size + 1) ((flB a0 a1 a2 a3 way).extract B E).toList = [(encB (pegF a0 a1 a2 a3 2)).toList, (encB (pegF a0 a1 a2 a3 1)).toList, (encB (pegF a0 a1 a2 a3 0)).toList, (encB (pegF a0 a1 a2 a3 2)).toList] := by
  have f0 := peg_fact b 0 (by simp)
  have f1 := peg_fact b 1 (by simp)
  have f2 := peg_fact b 2 (by simp)
  have n0 := peg_ne b 0 (by simp)
  have n1 := peg_ne b 1 (by simp)
  have n2 := peg_ne b 2 (by simp)
  have c0 := pegF_chars (a0 := a0) (a1 := a1) (a2 := a2) (a3 := a3) 0 (by simp)
  have c1 := pegF_chars (a0 := a0) (a1 := a1) (a2 := a2) (a3 := a3) 1 (by simp)
  have c2 := pegF_chars (a0 := a0) (a1 := a1) (a2 := a2) (a3 := a3) 2 (by simp)
  unfold flB
  generalize pegF a0 a1 a2 a3 0 = x0 at *
  generalize pegF a0 a1 a2 a3 1 = x1 at *
  generalize pegF a0 a1 a2 a3 2 = x2 at *
  have hl := list_len x0 x1 x2 way f0.1 f1.1 f2.1
  refine ⟨by unfold encB; rw [Array.size_map]; show (listS x0 x1 x2 way).length ≤ _; omega, (headS way).cps.toList.length + 7, (headS way).cps.toList.length + 7 + (bodyS x0 x1 x2 way).length, ?_, ?_⟩
  · unfold FlIs
    rw [enc_nat (list_asc f0.2 f1.2 f2.2)]
    have e : (listS x0 x1 x2 way).cps = ((headS way).cps.toList ++ (flW ++ (bodyS x0 x1 x2 way ++ (41 :: (tailS way).cps.toList)))).toArray := by
      rw [← list_split]
    rw [e]
    refine fl_found (head_fact way) ?_ (tail_fact way)
    intro c hc
    have hg := (gap_fact way).2 c
    have g0 := fun h => pegC_or (c0 c h)
    have g1 := fun h => pegC_or (c1 c h)
    have g2 := fun h => pegC_or (c2 c h)
    unfold bodyS at hc
    simp only [List.mem_append] at hc
    rcases hc with hc | hc | hc | hc | hc | hc | hc | hc | hc
    · have := hg hc; omega
    · have := g2 hc; omega
    · have := hg hc; omega
    · have := g1 hc; omega
    · have := hg hc; omega
    · have := g0 hc; omega
    · have := hg hc; omega
    · have := g2 hc; omega
    · have := hg hc; omega
  · have hx : ((encB (listS x0 x1 x2 way)).extract ((headS way).cps.toList.length + 7) ((headS way).cps.toList.length + 7 + (bodyS x0 x1 x2 way).length)).toList = (bodyS x0 x1 x2 way).map (·.toUInt8) := by
      rw [Array.toList_extract, List.extract_eq_take_drop]
      unfold encB
      rw [Array.toList_map, list_split, Nat.add_sub_cancel_left]
      rw [List.map_append, List.map_append, List.map_append]
      rw [← List.append_assoc, List.drop_append_of_le_length (by simp; show _ ≤ _ + flW.length; exact Nat.le_refl _)]
      have : (List.drop ((headS way).cps.toList.length + 7) (List.map (·.toUInt8) (headS way).cps.toList ++ List.map (·.toUInt8) flW)) = [] := List.drop_eq_nil_of_le (by simp; show _ + flW.length ≤ _; exact Nat.le_refl _)
      rw [this, List.nil_append, List.take_append_of_le_length (by simp), List.take_of_length_le (by simp)]
    generalize hy : (encB (listS x0 x1 x2 way)).extract _ _ = y at *
    have hsz : y.size = (bodyS x0 x1 x2 way).length := by rw [← Array.length_toList, hx, List.length_map]
    have hgs : ∀ c ∈ (gapS way).cps.toList.map (·.toUInt8), Builtin.Bytes.isSpace c = true := fun c hc => by
      obtain ⟨n, hn, rfl⟩ := List.mem_map.mp hc
      rcases (gap_fact way).2 n hn with h | h | h | h <;> rw [h] <;> decide
    have hpc : ∀ x : Str, (∀ c ∈ x.cps.toList, pegC c = true) → ∀ c ∈ x.cps.toList.map (·.toUInt8), Builtin.Bytes.isSpace c = false := fun x hx c hc => by
      obtain ⟨n, hn, rfl⟩ := List.mem_map.mp hc
      rcases pegC_or (hx n hn) with h | h | h | h | h <;> rw [h] <;> decide
    have hne : ∀ x : Str, x.length ≠ 0 → x.cps.toList.map (·.toUInt8) ≠ [] := fun x hx e => by
      apply hx
      have := congrArg List.length e
      simpa [Str.length] using this
    have hge : (gapS way).cps.toList.map (·.toUInt8) ≠ [] := fun e => (gap_fact way).1 (List.map_eq_nil_iff.mp e)
    have hmap : (bodyS x0 x1 x2 way).map (·.toUInt8) = (gapS way).cps.toList.map (·.toUInt8) ++ (x2.cps.toList.map (·.toUInt8) ++ ((gapS way).cps.toList.map (·.toUInt8) ++ (x1.cps.toList.map (·.toUInt8) ++ ((gapS way).cps.toList.map (·.toUInt8) ++ (x0.cps.toList.map (·.toUInt8) ++ ((gapS way).cps.toList.map (·.toUInt8) ++ (x2.cps.toList.map (·.toUInt8) ++ (gapS way).cps.toList.map (·.toUInt8)))))))) := by
      unfold bodyS; simp only [List.map_append]
    have hlen : ∃ k, y.size + 1 = k + 5 := by
      refine ⟨y.size + 1 - 5, ?_⟩
      have l0 : x0.cps.toList.length ≠ 0 := by simpa [Str.length] using n0
      have l1 : x1.cps.toList.length ≠ 0 := by simpa [Str.length] using n1
      have l2 : x2.cps.toList.length ≠ 0 := by simpa [Str.length] using n2
      rw [hsz]; unfold bodyS; simp only [List.length_append]; omega
    obtain ⟨k, hk⟩ := hlen
    refine ⟨?_, ?_⟩
    · rw [← Array.any_toList, hx, hmap, List.any_append]
      obtain ⟨c, g', hg⟩ := List.exists_cons_of_ne_nil hge
      rw [hg, List.any_cons, hgs c (by rw [hg]; simp), Bool.true_or, Bool.true_or]
    · rw [hk, hx, hmap, words_four hge hgs (hne x2 n2) (hne x1 n1) (hne x0 n0) (hpc x2 c2) (hpc x1 c1) (hpc x0 c0)]
      unfold encB
      simp only [Array.toList_map]
end Mine
end
section
open PySem PySem.W PyProof.Rows Mine
set_option maxRecDepth 100000
set_option maxHeartbeats 400000000
namespace Mine
theorem mem_pre {x : Addr × Obj} {news : Led} (h : x ∈ news) : ∀ p ∈ [x], p ∈ news := fun p hp => List.mem_singleton.mp hp ▸ h
theorem lt_of_new {l : Addr} {o : Obj} {news : Led} (h : ∀ p ∈ [(l, o)], ∀ q ∈ news, q.1 < p.1) : ∀ q ∈ news, q.1 < l := fun q hq => h _ (List.mem_singleton.mpr rfl) q hq
noncomputable def GS (w : World) (A : Around) (base : Heap) (fr : List Env) (mean : ExcName → Option Value) (mg mb : Str → Option Value) (g h : Heap) : Prop := KtsTurn (fr.filterMap (·.frame)) g h ∧ Below A base fr h ∧ (hd.heap_39 w.params).In h ∧ Top hd.view_39 LO mean mg mb h ∧ KtsDicts (fr.filterMap (·.frame)) h
theorem For_home {w : World} {mean : ExcName → Option Value} {mg mb : Str → Option Value} {A₁ : Around} {base g : Heap} {fr : List Env} {prog : Program} {A : Around} {s : Shared} {env : Env} {E : Value → Shared → Prop} {Q : Flow → Shared → Prop} {x : Str} {px pos : Pos} {iter : Expr} {body : List Stmt}
    (uB : Below A₁ base fr g) (uT : Top hd.view_39 LO mean mg mb g) (uX : (hd.heap_39 w.params).In g) (hx : env.kindOf x = some .local)
    (hp : (env.scope.kind == .class || (env.scope.kind == .module && env.locals != env.globals)) = false)
    (h : wpAny (model prog w) A (eval iter env) (fun xv s₁ => wpAny (model prog w) A (pyIter xv) (fun it s₂ => TurnsS prog w A env x body (GS w A₁ base fr mean mg mb g) Q E it s₂) E s₁) E s)
    (hs : ∀ x, foldedSetIterable iter env x = pure x := by intro _; rfl)
    (hE : PassesOwn (model prog w) A env E := by passes_own) :
    wpAny (model prog w) A (exec (.For (.Name x px) iter body [] pos) env) Q E s := For_turnsS _ hx hp h hs hE
theorem listed_p (w : World) (pg : Addr) (a0 a1 a2 a3 : Int) (u0 u1 u2 : Tok) (way : Int) (tw : Tok) (b : Bd a0 a1 a2 a3) :
    Ct w 127 [.ref pg, .int way tw] [(pg, pegsO a0 a1 a2 a3 u0 u1 u2)] (fun v new => new = [] ∧ ∃ t, v = .bytes (flB a0 a1 a2 a3 way) t) :=
  listed_c w pg 3 _ _ _ u0 u1 u2 way tw (peg_fact b 0 (by simp)).1 (peg_fact b 1 (by simp)).1 (peg_fact b 2 (by simp)).1 (peg_fact b 0 (by simp)).2 (peg_fact b 1 (by simp)).2 (peg_fact b 2 (by simp)).2
theorem listed_x (w : World) (pg : Addr) (a0 a1 a2 a3 : Int) (x0 x1 x2 : Str) (u0 u1 u2 : Tok) (way : Int) (tw : Tok) (b : Bd a0 a1 a2 a3) (e : PegsAre a0 a1 a2 a3 x0 x1 x2) :
    Ct w 127 [.ref pg, .int way tw] [(pg, listOf #[.str x0 u0, .str x1 u1, .str x2 u2] 3)] (fun v new => new = [] ∧ ∃ t, v = .bytes (flB a0 a1 a2 a3 way) t) := by
  obtain ⟨rfl, rfl, rfl⟩ := e
  exact listed_p w pg a0 a1 a2 a3 u0 u1 u2 way tw b
theorem pegs_x (w : World) (p : Addr) (n : Nat) (a0 a1 a2 a3 : Int) (t0 t1 t2 t3 : Tok) (x0 x1 x2 : Str) (e : PegsAre a0 a1 a2 a3 x0 x1 x2) :
    Ct w 122 [.ref p] [(p, listOf #[.int a0 t0, .int a1 t1, .int a2 t2, .int a3 t3] n)] (fun v new => ∃ l u0 u1 u2, v = .ref l ∧ new = [(l, listOf #[.str x0 u0, .str x1 u1, .str x2 u2] 3)]) := by
  obtain ⟨rfl, rfl, rfl⟩ := e
  exact pegs_c w p n a0 a1 a2 a3 t0 t1 t2 t3
noncomputable def flT (a0 a1 a2 a3 : Int) (u0 u1 u2 u3 : Tok) : Obj := tupOf #[.bytes (encB (pegF a0 a1 a2 a3 2)) u0, .bytes (encB (pegF a0 a1 a2 a3 1)) u1, .bytes (encB (pegF a0 a1 a2 a3 0)) u2, .bytes (encB (pegF a0 a1 a2 a3 2)) u3]
theorem flags_p (w : World) (a0 a1 a2 a3 way : Int) (t : Tok) (b : Bd a0 a1 a2 a3) :
    Ct w 43 [.bytes (flB a0 a1 a2 a3 way) t] [] (fun v new => ∃ tp t0 t1 t2 t3, v = .ref tp ∧ new = [(tp, flT a0 a1 a2 a3 t0 t1 t2 t3)]) := by
  obtain ⟨hs, B, E, h1, h2, h3⟩ := flags_fact b way
  have hp := peg_fact b
  have q : ∀ k ∈ [(0 : Int), 1, 2], (encB (pegF a0 a1 a2 a3 k)).toList.length ≤ 1048576 := fun k hk => by
    have := (hp k hk).1
    show ((pegF a0 a1 a2 a3 k).cps.map _).toList.length ≤ _
    rw [Array.length_toList, Array.size_map]; have h : (pegF a0 a1 a2 a3 k).cps.size ≤ 15 := this; omega
  have := pf_some_c w (flB a0 a1 a2 a3 way) t hs B E h1 _ _ _ _ h2 h3 (by
    intro z hz
    simp only [List.mem_cons, List.not_mem_nil, or_false] at hz
    rcases hz with rfl | rfl | rfl | rfl <;> exact q _ (by simp))
  unfold flT
  simpa only [Array.toArray_toList] using this
theorem flags_x (w : World) (a0 a1 a2 a3 way : Int) (t : Tok) (b : Bd a0 a1 a2 a3) (x0 x1 x2 : Str) (e : PegsAre a0 a1 a2 a3 x0 x1 x2) :
    Ct w 43 [.bytes (flB a0 a1 a2 a3 way) t] [] (fun v new => ∃ tp t0 t1 t2 t3, v = .ref tp ∧ new = [(tp, tupOf #[.bytes (encB x2) t0, .bytes (encB x1) t1, .bytes (encB x0) t2, .bytes (encB x2) t3])]) := by
  obtain ⟨rfl, rfl, rfl⟩ := e
  exact flags_p w a0 a1 a2 a3 way t b
theorem dec_enc {x : Str} (h : Asc x) : (⟨(encB x).map (·.toNat)⟩ : Str) = x := by
  rcases x with ⟨c⟩
  have : (encB ⟨c⟩).map (·.toNat) = c := by
    unfold encB
    apply Array.ext
    · simp
    · intro i h1 h2
      have h3 : c[i] < 128 := h _ (by simp)
      simp only [Array.getElem_map, Nat.toUInt8, UInt8.toNat_ofNat']
      omega
  rw [this]
theorem encode_x {prog : Program} {w : World} {A : Around} {s : Shared} {E : Value → Shared → Prop} {x : Str} {t u : Tok} {Q : Value → Shared → Prop} (ok : TxtOk x) (h : ∀ t' k', Q (.bytes (encB x) t') { s with toks := k' }) :
    wpAny (model prog w) A (call (.builtin "str.encode") [.str x t, .str (Str.ofString "ascii") u]) Q E s :=
  encode_call (Nat.le_trans ok.1 (by omega)) ok.2.2 h
theorem decode_x {prog : Program} {w : World} {A : Around} {s : Shared} {E : Value → Shared → Prop} {x : Str} {t u : Tok} {Q : Value → Shared → Prop} (ok : TxtOk x) (h : ∀ t' k', Q (.str x t') { s with toks := k' }) :
    wpAny (model prog w) A (call (.builtin "bytes.decode") [.bytes (encB x) t, .str (Str.ofString "ascii") u]) Q E s := by
  obtain ⟨h1, h2, h3⟩ := ok
  have hs : (encB x).size = x.length := by unfold encB; rw [Array.size_map]; rfl
  refine decode_call (by rw [hs]; exact h2) (by rw [hs]; omega) (fun c hc => ?_) (fun t' k' => by rw [dec_enc h3]; exact h t' k')
  unfold encB at hc
  rw [Array.toList_map, List.mem_map] at hc
  obtain ⟨n, hn, rfl⟩ := hc
  have := h3 n hn
  simp only [Nat.toUInt8, UInt8.toNat_ofNat']; omega
theorem lst_item {prog : Program} {w : World} {A : Around} {s : Shared} {E : Value → Shared → Prop} {h₀ : Heap} {L l : Addr} {news : Led} {value slice : PySem.Expr} {n : Nat} {vs : List Value} {i : Int} {u : Tok} {v : Value} {Q : Value → Shared → Prop} (N : News h₀ L s.heap news) (hm : (l, listOf vs.toArray n) ∈ news) (h0 : 0 ≤ i) (hfit : i < 2 ^ 63) (hx : vs[i.toNat]? = some v)
    (h : Q v s) (hs : subscripted slice false (.ref l) (.int i u) = operate [.ref l, .int i u] (getItem (.ref l) (.int i u)) := by with_unfolding_all rfl) :
    wpAny (model prog w) A (subscriptTail value slice (.ref l) (.int i u)) Q E s :=
  tail_any (News.isList N hm).typeIs slot_list_getitem.lookup (wpAny_getItem_list (News.isList N hm) h0 hfit (by simpa using hx) h) hs
theorem tup_item {prog : Program} {w : World} {A : Around} {s : Shared} {E : Value → Shared → Prop} {h₀ : Heap} {L l : Addr} {news : Led} {value slice : PySem.Expr} {vs : List Value} {i : Int} {u : Tok} {j : Nat} {v : Value} {Q : Value → Shared → Prop} (N : News h₀ L s.heap news) (hm : (l, tupOf vs.toArray) ∈ news) (h0 : -(2 ^ 63) ≤ i) (hfit : i < 2 ^ 63) (hj : seqIndex? i vs.length = some j) (hx : vs[j]? = some v)
    (h : Q v s) (hs : subscripted slice false (.ref l) (.int i u) = operate [.ref l, .int i u] (getItem (.ref l) (.int i u)) := by with_unfolding_all rfl) :
    wpAny (model prog w) A (subscriptTail value slice (.ref l) (.int i u)) Q E s := item_tupleT (News.isTup N hm) h0 hfit hj hx h hs
theorem pow4 {n : Int} (h0 : 0 ≤ n) (h1 : n ≤ 15) : ((4 : Int) ^ n.toNat ≠ 0) ∧ ((4 : Int) ^ n.toNat).natAbs.log2 < 9000 := by
  have h : ∀ k : Fin 16, ((4 : Int) ^ k.val ≠ 0) ∧ ((4 : Int) ^ k.val).natAbs.log2 < 9000 := by decide +kernel
  exact h ⟨n.toNat, by omega⟩
theorem PegOk.seven {a0 a1 a2 a3 k : Int} {x T : Str} {l : Int} (h : PegOk a0 a1 a2 a3 k x T l) (hl : l < 4) : T = Txt.mul (Str.ofString "7") (l + 1) := h.2.2.1 hl
theorem PegOk.lett {a0 a1 a2 a3 k : Int} {x T : Str} {l : Int} (h : PegOk a0 a1 a2 a3 k x T l) (hl : ¬ l < 4) : T = letF k := h.2.2.2.1 hl
theorem feed_len (way : Int) : (feedS way).length ≤ 1 := by unfold feedS; split <;> decide
noncomputable def filtG (a0 a1 a2 a3 k : Int) (l : List Int) (d : Int) : List Int := if [a0, a1, a2, a3].getD d.toNat 0 = k then l ++ [d] else l
theorem least_of {a0 a1 a2 a3 k M : Int} (h : M ∈ (rangeKs 0 4).foldl (filtG a0 a1 a2 a3 k) [] ++ [4]) (hle : ∀ a, a ∈ (rangeKs 0 4).foldl (filtG a0 a1 a2 a3 k) [] ++ [4] → M ≤ a) : M = leastF a0 a1 a2 a3 k := by
  have e : rangeKs 0 4 = [0, 1, 2, 3] := by decide
  rw [e] at h hle
  simp only [List.foldl_cons, List.foldl_nil, filtG] at h hle
  unfold leastF
  have e0 : [a0, a1, a2, a3].getD (Int.toNat 0) 0 = a0 := rfl
  have e1 : [a0, a1, a2, a3].getD (Int.toNat 1) 0 = a1 := rfl
  have e2 : [a0, a1, a2, a3].getD (Int.toNat 2) 0 = a2 := rfl
  have e3 : [a0, a1, a2, a3].getD (Int.toNat 3) 0 = a3 := rfl
  rw [e0, e1, e2, e3] at h hle
  have g0 := hle 0
  have g1 := hle 1
  have g2 := hle 2
  have g3 := hle 3
  have g4 := hle 4
  clear hle e e0 e1 e2 e3
  by_cases c0 : a0 = k <;> by_cases c1 : a1 = k <;> by_cases c2 : a2 = k <;> by_cases c3 : a3 = k <;>
    simp [c0, c1, c2, c3] at h g0 g1 g2 g3 g4 ⊢ <;> (try omega)
theorem news_tail {g : Heap} {L : Addr} {h : Heap} {x : Addr × Obj} {r : Led} (N : News g L h (x :: r)) : News g L h r := fun p hp => N p (List.mem_cons_of_mem _ hp)
theorem no_ne {x y : Str} (h : (x != y) = true) (e : x = y) : False := by subst e; simp at h
theorem letF0 : letF 0 = Str.ofString "a" := rfl
theorem letF1 : letF 1 = Str.ofString "b" := rfl
theorem letF2 : letF 2 = Str.ofString "c" := rfl
theorem no_isnot {l : Int} (h : (decide (l = 4) != (l == 4)) = true) : False := by
  by_cases e : l = 4 <;> simp [e] at h
theorem lv_bd {l0 l1 l2 k : Int} (h0 : 0 ≤ l0 ∧ l0 ≤ 4) (h1 : 0 ≤ l1 ∧ l1 ≤ 4) (h2 : 0 ≤ l2 ∧ l2 ≤ 4) (hk : 0 ≤ k ∧ k ≤ 2) : 0 ≤ [l0, l1, l2].getD k.toNat 0 ∧ [l0, l1, l2].getD k.toNat 0 ≤ 4 := by
  have : k.toNat = 0 ∨ k.toNat = 1 ∨ k.toNat = 2 := by omega
  rcases this with e | e | e <;> rw [e] <;> assumption
theorem bdl_of {a0 a1 a2 a3 : Int} (b : Bd a0 a1 a2 a3) : BdL [a0, a1, a2, a3] := ⟨rfl, by
  intro x hx
  simp only [List.mem_cons, List.not_mem_nil, or_false] at hx
  rcases hx with rfl | rfl | rfl | rfl
  · exact b.1
  · exact b.2.1
  · exact b.2.2.1
  · exact b.2.2.2⟩
theorem bdl_set {ns : List Int} {k : Nat} {x : Int} (h : BdL ns) (h0 : 0 ≤ x) (h2 : x ≤ 2) : BdL (ns.set k x) := ⟨by rw [List.length_set]; exact h.1, fun y hy => by
  rcases List.mem_or_eq_of_mem_set hy with q | q
  · exact h.2 y q
  · rw [q]; exact ⟨h0, h2⟩⟩
theorem bdl_four {ns : List Int} (h : BdL ns) : ∃ a0 a1 a2 a3, ns = [a0, a1, a2, a3] ∧ Bd a0 a1 a2 a3 := by
  match ns, h with
  | [a0, a1, a2, a3], h => exact ⟨a0, a1, a2, a3, rfl, h.2 a0 (by simp), h.2 a1 (by simp), h.2 a2 (by simp), h.2 a3 (by simp)⟩
  | [], h => exact absurd h.1 (by simp)
  | [_], h => exact absurd h.1 (by simp)
  | [_, _], h => exact absurd h.1 (by simp)
  | [_, _, _], h => exact absurd h.1 (by simp)
  | _ :: _ :: _ :: _ :: _ :: _, h => exact absurd h.1 (by simp)
theorem ints_four {vs : List Value} {a0 a1 a2 a3 : Int} (h : IntsAre vs [a0, a1, a2, a3]) : ∃ t0 t1 t2 t3, vs = [.int a0 t0, .int a1 t1, .int a2 t2, .int a3 t3] := by
  cases h with
  | cons n t h => cases h with
    | cons n t h => cases h with
      | cons n t h => cases h with
        | cons n t h => cases h with
          | nil => exact ⟨_, _, _, _, rfl⟩
theorem far_bd (a0 a1 a2 a3 ho sm : Int) (b : Bd a0 a1 a2 a3) (bh : 0 ≤ ho ∧ ho ≤ 2) (h0 : 0 ≤ sm) (h4 : sm ≤ 4) : 0 ≤ farF a0 a1 a2 a3 ho sm ∧ farF a0 a1 a2 a3 ho sm ≤ 15 := by
  obtain ⟨b0, b1, b2, b3⟩ := b
  have h : ∀ i j k l m : Fin 3, ∀ n : Fin 5, 0 ≤ farF i.val j.val k.val l.val m.val n.val ∧ farF i.val j.val k.val l.val m.val n.val ≤ 15 := by decide +kernel
  have f : ∀ x : Int, 0 ≤ x ∧ x ≤ 2 → ∃ i : Fin 3, x = (i.val : Int) := fun x hx => ⟨⟨x.toNat, by omega⟩, by simp; omega⟩
  have f5 : ∃ i : Fin 5, sm = (i.val : Int) := ⟨⟨sm.toNat, by omega⟩, by simp; omega⟩
  obtain ⟨i, rfl⟩ := f a0 b0
  obtain ⟨j, rfl⟩ := f a1 b1
  obtain ⟨k, rfl⟩ := f a2 b2
  obtain ⟨l, rfl⟩ := f a3 b3
  obtain ⟨m, rfl⟩ := f ho bh
  obtain ⟨n, rfl⟩ := f5
  exact h i j k l m n
theorem far_w (w : World) (p : Addr) (n : Nat) (vs : List Value) (ns : List Int) (ho : Int) (th : Tok) (sm : Int) (ts : Tok) (hi : IntsAre vs ns) (hb : BdL ns) (bh : 0 ≤ ho ∧ ho ≤ 2) (h0 : 0 ≤ sm) (h4 : sm ≤ 4) :
    Ct w 115 [.ref p, .int ho th, .int sm ts] [(p, listOf vs.toArray n)] (fun v new => new = [] ∧ ∃ x t, v = .int x t ∧ x = farL ns ho sm ∧ 0 ≤ x ∧ x ≤ 15) := by
  obtain ⟨a0, a1, a2, a3, rfl, b⟩ := bdl_four hb
  obtain ⟨t0, t1, t2, t3, rfl⟩ := ints_four hi
  have e : (fun (v : Value) (new : Led) => new = [] ∧ ∃ x t, v = .int x t ∧ x = farL [a0, a1, a2, a3] ho sm ∧ 0 ≤ x ∧ x ≤ 15) = (fun v new => new = [] ∧ ∃ t, v = .int (farF a0 a1 a2 a3 ho sm) t) := by
    funext v new
    refine propext ⟨fun h => ?_, fun h => ?_⟩
    · obtain ⟨h1, x, t, h2, h3, _⟩ := h
      exact ⟨h1, t, by rw [h2, h3]; rfl⟩
    · obtain ⟨h1, t, h2⟩ := h
      exact ⟨h1, _, t, h2, rfl, far_bd a0 a1 a2 a3 ho sm b bh h0 h4⟩
  rw [e]
  exact far_c w p n a0 a1 a2 a3 t0 t1 t2 t3 ho th sm ts h0 h4
theorem strs_set {x : Str} {u : Tok} : ∀ {vs : List Value} {ws : List Str}, StrsAre vs ws → ∀ j : Nat, StrsAre (vs.set j (.str x u)) (ws.set j x)
  | _, _, .nil, _ => .nil
  | _, _, .cons _ _ h, 0 => .cons x u h
  | _, _, .cons i t h, j + 1 => .cons i t (strs_set h j)
section
variable {prog : Program} {w : World} {A : Around} {s : Shared} {h₀ : Heap} {L : Addr} {m : Str → Option Value} {news news' : Led} {E : Value → Shared → Prop}
theorem getD_le {ws : List Str} {k : Nat} (h : ∀ y ∈ ws, y.length ≤ 60) : (ws.getD k Str.empty).length ≤ 60 := by
  rw [List.getD_eq_getElem?_getD]
  cases e : ws[k]? with
  | none => show (Str.empty).length ≤ 60; decide
  | some y => exact h y (List.mem_of_getElem? e)
theorem str_atB {l : Addr} {value slice : PySem.Expr} {n : Nat} {vs : List Value} {ws : List Str} {i : Int} {u : Tok} {Q : Value → Shared → Prop} (N : News h₀ L s.heap news) (hm : (l, listOf vs.toArray n) ∈ news) (hw : StrsAre vs ws) (hb : ∀ y ∈ ws, y.length ≤ 60) (h0 : 0 ≤ i) (h1 : i < (ws.length : Int)) (hfit : i < 2 ^ 63)
    (h : ∀ t', (ws.getD i.toNat Str.empty).length ≤ 60 → Q (.str (ws.getD i.toNat Str.empty) t') s) (hs : subscripted slice false (.ref l) (.int i u) = operate [.ref l, .int i u] (getItem (.ref l) (.int i u)) := by with_unfolding_all rfl) :
    wpAny (model prog w) A (subscriptTail value slice (.ref l) (.int i u)) Q E s := str_at N hm hw h0 h1 hfit (fun t' => h t' (getD_le hb)) hs
theorem set_str {D : Addr} {vs : List Value} {ws : List Str} {n : Nat} {k : Int} {t u : Tok} {y : Str} {Q : Unit → Shared → Prop} (F : Fr h₀ L s.heap m) (N : News h₀ L s.heap news) (U : Upd D (listOf vs.toArray n) (listOf (vs.set k.toNat (.str y u)).toArray n) news news') (hw : StrsAre vs ws) (h0 : 0 ≤ k) (h1 : k < ws.length) (hfit : k < 2 ^ 63)
    (h : ∀ h', Fr h₀ L h' m → News h₀ L h' news' → StrsAre (vs.set k.toNat (.str y u)) (ws.set k.toNat y) → Q () { s with heap := h' }) : wpAny (model prog w) A (setItem (.ref D) (.int k t) (.str y u)) Q E s :=
  any_set F N U h0 (by rw [hw.length]; exact h1) hfit (fun h' F' N' => h h' F' N' (strs_set hw _))
theorem search_some {x : Str} {t : Tok} {b e : Nat} {Q : Value → Shared → Prop} (F : Fr h₀ L s.heap m) (N : News h₀ L s.heap news) (h94 : s.heap.get? 94 = some ipPat) (h93 : s.heap.get? 93 = some (tupOf ipCodeV)) (hsz : x.length ≤ 1048576) (hs : ipSpecF x.cps = some (b, e))
    (h : ∀ mo tp h', Fr h₀ L h' m → News h₀ L h' ((mo, matchOf (.str x t) (.ref 94) x.cps.size (-1) tp) :: (tp, tupOf #[.int b 0, .int e 0]) :: news) → (∀ p ∈ news, p.1 < tp) → tp < mo → Q (.ref mo) { s with heap := h' }) :
    wpAny (model prog w) A (call (.builtin "re.Pattern.search") [.ref 94, .str x t]) Q E s :=
  search_walk F N h94 h93 hsz (fun hn => by rw [hs] at hn; cases hn) (fun b' e' hs' mo tp h' F' N' l1 l2 => by rw [hs] at hs'; cases hs'; exact h mo tp h' F' N' l1 l2)
end
theorem unmatched_x (w : World) (x : Str) (t : Tok) (hx : x.length ≤ 61) (mo tp : Addr) (b e : Nat) (hbe : b ≤ e) (hes : e ≤ x.cps.size) :
    Ct w 89 [.ref mo] [(mo, matchOf (.str x t) (.ref 94) x.cps.size (-1) tp), (tp, tupOf #[.int b 0, .int e 0])] (fun v new => new = [] ∧ ∃ r t', v = .str r t' ∧ r = Txt.slice x none (some (b : Int)) ++ Txt.slice x (some (e : Int)) none ∧ r.length ≤ 122) := by
  have q := unmatched_c w x t (by omega) mo tp b e hbe hes
  have h1 := Txt.slice_le x none (some (b : Int))
  have h2 := Txt.slice_le x (some (e : Int)) none
  have e9 : (fun (v : Value) (new : Led) => new = [] ∧ ∃ r t', v = .str r t' ∧ r = Txt.slice x none (some (b : Int)) ++ Txt.slice x (some (e : Int)) none ∧ r.length ≤ 122) = (fun v new => new = [] ∧ ∃ t', v = .str (Txt.slice x none (some (b : Int)) ++ Txt.slice x (some (e : Int)) none) t') := by
    funext v new
    refine propext ⟨fun h => ?_, fun h => ?_⟩
    · obtain ⟨h1, r, t, h2, h3, _⟩ := h
      exact ⟨h1, t, by rw [h2, h3]⟩
    · obtain ⟨h3, t, h4⟩ := h
      exact ⟨h3, _, t, h4, rfl, by rw [Str.length_append]; omega⟩
  rw [e9]
  exact q
theorem le3 {x y z : Str} (h : x.length ≤ 15) (k : y.length ≤ 15) (j : z.length ≤ 15) : ∀ q ∈ [x, y, z], q.length ≤ 60 := by
  intro q hq
  simp only [List.mem_cons, List.not_mem_nil, or_false] at hq
  rcases hq with rfl | rfl | rfl <;> omega
theorem le3' {x y z : Str} (h : x.length ≤ 4) (k : y.length ≤ 4) (j : z.length ≤ 4) : ∀ q ∈ [x, y, z], q.length ≤ 60 := by
  intro q hq
  simp only [List.mem_cons, List.not_mem_nil, or_false] at hq
  rcases hq with rfl | rfl | rfl <;> omega
theorem mem_pre2 {x y : Addr × Obj} {news : Led} (hx : x ∈ news) (hy : y ∈ news) : ∀ p ∈ [x, y], p ∈ news := fun p hp => by
  rcases List.mem_cons.mp hp with rfl | hp
  · exact hx
  · rw [List.mem_singleton.mp hp]; exact hy
theorem halved_x (w : World) (c : Int) (t : Tok) (h1 : 1 ≤ c) (h2 : c ≤ 15) {d : Int} {q : Str} (e : (halvF c).2 - 1 = d ∧ (halvF c).1 = q) :
    CtS 2 w 141 [.int c t] [] (fun v new => ∃ tp t1 t2, v = .ref tp ∧ new = [(tp, tupOf #[.int d t1, .str q t2])]) := by
  obtain ⟨rfl, rfl⟩ := e
  exact halved_c w c t h1 h2
noncomputable def WonB (left wo wt n : Int) : Prop := 0 < left ∧ 3 * wo + wt < n
theorem won_step {left wo wt on ot : Int} (h0 : 0 ≤ ot ∧ ot ≤ 2) (hw : 0 ≤ wt ∧ wt ≤ 2) (h : ¬ (0 < left ∧ on = wo ∧ ot = wt)) : WonB left wo wt (3 * on + ot) = WonB left wo wt (3 * on + (ot + 1)) := by
  unfold WonB; exact propext ⟨fun q => by omega, fun q => by omega⟩
/-- the moves found so far -/
noncomputable def NearSt (won : Prop) (wo wt d : Int) (q : Str) (bs : List Int) (L pk I : Addr) (oNa oNb : Obj) (nw : Led) : Prop :=
  (¬ won ∧ oNa = listOf #[] 0 ∧ oNb = listOf #[] 0) ∨
  (won ∧ ∃ (tu tv af : Addr) (c : Nat) (vs : List Value) (t1 t2 t3 t4 : Tok), oNa = listOf #[.ref tu] 1 ∧ oNb = listOf #[.ref tv] 1 ∧ (tu, tupOf #[.int wo t1, .int wt t2, .ref af]) ∈ nw ∧ (tv, tupOf #[.int d t3, .str q t4]) ∈ nw ∧ (af, listOf vs.toArray c) ∈ nw ∧ IntsAre vs bs ∧
    ((@LT.lt Nat _ (L + 1 + 1 + 1 + 1) af) ∧ (@Ne Nat af pk) ∧ (@Ne Nat af I) ∧ (@Ne Nat tu tv)))
theorem lk_set {m : Str → Option Value} {x : Str} {v : Value} : ∀ {l : List (Str × Value)}, LK m l → (l.all fun p => decide (p.1 ≠ x)) = true → LK (fun y => if y = x then some v else m y) l
  | [], _, _ => trivial
  | p :: r, h, k => by
    rw [List.all_cons, Bool.and_eq_true] at k
    exact ⟨by show (if p.1 = x then some v else m p.1) = some p.2; rw [if_neg (of_decide_eq_true k.1)]; exact h.1, lk_set h.2 k.2⟩
theorem pass_led {g : Heap} {L : Addr} {h : Heap} {x1 x2 x3 y1 y2 y3 y4 : Addr × Obj} {mid nw : Led} (N : News g L h (x1 :: x2 :: x3 :: y1 :: y2 :: y3 :: y4 :: (mid ++ nw))) : News g L h (y1 :: y2 :: y3 :: y4 :: (mid ++ (x1 :: x2 :: x3 :: nw))) := fun p hp => N p (by
  simp only [List.mem_cons, List.mem_append] at hp ⊢
  rcases hp with hp | hp | hp | hp | hp | hp | hp | hp | hp <;> simp [hp])
theorem strip_x (w : World) {a0 a1 a2 a3 k : Int} {x T : Str} {l : Int} (c : Int) (t : Tok) (ok : TxtOk x) (h : PegOk a0 a1 a2 a3 k x T l) :
    Ct w 50 [.str (x ++ dressS c) t] [] (fun v new => new = [] ∧ ∃ t', v = .str T t') := by
  have hl : (x ++ dressS c).length ≤ 1048576 := by
    have h1 := ok.1
    have h2 : (dressS c).length ≤ 8 := by unfold dressS; rcases pick4_or (Str.ofString "") (Str.ofString ":: x.9") (Str.ofString "\nx.9: y\n") (Str.ofString ":\n.9") c with e | e | e | e <;> rw [e] <;> decide
    rw [Str.length_append]; omega
  have q := strip_c w (x ++ dressS c) t hl
  rw [h.2.1 c] at q
  exact q
theorem lib_x (w : World) {a0 a1 a2 a3 k : Int} {x T : Str} {l : Int} (way : Int) (t : Tok) (ok : TxtOk x) (h : PegOk a0 a1 a2 a3 k x T l) :
    Ct w 101 [.str (x ++ feedS way) t] [] (fun v new => new = [] ∧ v = .bool (decide (l = 4))) := by
  have hl : (x ++ feedS way).length ≤ 1048576 := by
    have h1 := ok.1
    have h2 := feed_len way
    rw [Str.length_append]; omega
  have q := liberal_c w (x ++ feedS way) t hl
  rw [h.2.2.2.2.1 way] at q
  exact q
theorem lib_z (w : World) {a0 a1 a2 a3 k : Int} {x T : Str} {l : Int} (way : Int) (t : Tok) (ok : TxtOk x) (h : PegOk a0 a1 a2 a3 k x T l) :
    Ct w 101 [.str (((x ++ feedS way) ++ Str.ofString "z") ++ T) t] [] (fun v new => new = [] ∧ v = .bool true) := by
  have hl : (((x ++ feedS way) ++ Str.ofString "z") ++ T).length ≤ 1048576 := by
    have h1 := ok.1
    have h2 := feed_len way
    have h3 : (Str.ofString "z").length = 1 := by decide
    have h4 := h.2.2.2.2.2.2.1
    rw [Str.length_append, Str.length_append, Str.length_append]; omega
  have q := liberal_c w _ t hl
  rw [h.2.2.2.2.2.1 way] at q
  exact q
noncomputable def pre3 (a b c : Value) : Nat → Array Value
  | 0 => #[]
  | 1 => #[a]
  | 2 => #[a, b]
  | _ => #[a, b, c]
theorem feed_a {way : Int} (h : way.fmod 2 = 1) : feedS way = Str.ofString "\n" := if_pos h
theorem feed_b {way : Int} (h : way.fmod 2 ≠ 1) : feedS way = Str.ofString "" := if_neg h
theorem ne_at {a b : Nat} (h : a ≠ b) : a ≠ b := h
theorem ne_at' {a b : Nat} (h : b ≠ a) : a ≠ b := h.symm
noncomputable def LowTail (D : Addr) (news : Led) : Prop := AllLt D news
theorem tail_ne {D c : Addr} {news : Led} (h : LowTail D news) (e : @LE.le Nat _ D c) : ∀ p ∈ news, p.1 ≠ c := fun p hp q => by
  exact absurd (ktn_ltOf h p hp) (by rw [q]; exact Nat.not_lt.mpr e)
theorem sub_tail {x : Addr × Obj} {l r : Led} (h : ∀ p ∈ l, p ∈ r) : ∀ p ∈ l, p ∈ x :: r := fun p hp => List.mem_cons_of_mem _ (h p hp)
noncomputable def TailNe (D : Addr) (news : Led) : Prop := ∀ p ∈ news, p.1 ≠ D
theorem tailNe_lt {D : Addr} {news : Led} (h : AllLt D news) : TailNe D news := fun p hp => Nat.ne_of_lt (ktn_ltOf h p hp)
theorem tailNe_off : ∀ {news : Led} {D : Addr}, LCg.Off1 D news → TailNe D news
  | [], _, _ => fun _ h => nomatch h
  | _ :: _, _, h => fun p hp => (List.mem_cons.mp hp).elim (fun e => e ▸ h.1) (tailNe_off h.2 p)
theorem tailNe_all {D : Addr} {news : Led} (h : TailNe D news) : ∀ p ∈ news, p.1 ≠ D := h
theorem far_nonneg (a0 a1 a2 a3 ho : Int) (b0 : 0 ≤ a0 ∧ a0 ≤ 2) (b1 : 0 ≤ a1 ∧ a1 ≤ 2) (b2 : 0 ≤ a2 ∧ a2 ≤ 2) (b3 : 0 ≤ a3 ∧ a3 ≤ 2) (bh : 0 ≤ ho ∧ ho ≤ 2) : 0 ≤ farF a0 a1 a2 a3 ho 0 ∧ farF a0 a1 a2 a3 ho 0 ≤ 15 := by
  have h : ∀ i j k l m : Fin 3, 0 ≤ farF i.val j.val k.val l.val m.val 0 ∧ farF i.val j.val k.val l.val m.val 0 ≤ 15 := by decide +kernel
  have f : ∀ x : Int, 0 ≤ x ∧ x ≤ 2 → ∃ i : Fin 3, x = (i.val : Int) := fun x hx => ⟨⟨x.toNat, by omega⟩, by simp; omega⟩
  obtain ⟨i, rfl⟩ := f a0 b0
  obtain ⟨j, rfl⟩ := f a1 b1
  obtain ⟨k, rfl⟩ := f a2 b2
  obtain ⟨l, rfl⟩ := f a3 b3
  obtain ⟨m, rfl⟩ := f ho bh
  exact h i j k l m
/-- what is so at each turn of the way home -/
noncomputable def HInv (L : Addr) (news : Led) (ho : Int) (th : Tok) (dr : Int) (td : Tok) (left : Int) (m : Str → Option Value) (nw : Led) : Prop :=
  ∀ C : Prop, (∀ (pl pg : Addr) (n : Nat) (a0 a1 a2 a3 : Int) (t0 t1 t2 t3 u0 u1 u2 : Tok) (o1 o2 o3 o4 : Obj) (v1 v2 v3 : Option Value),
    nw = (pg, pegsO a0 a1 a2 a3 u0 u1 u2) :: (L + 1 + 1 + 1 + 1, o1) :: (L + 1 + 1 + 1, o2) :: (L + 1 + 1, o3) :: (L + 1, o4) :: (pl, listOf #[.int a0 t0, .int a1 t1, .int a2 t2, .int a3 t3] n) :: news →
    m (Str.ofString "home") = some (.int ho th) →
    m (Str.ofString "dress") = some (.int dr td) →
    m (Str.ofString "pegs") = some (.ref pg) →
    o1.data = .cell v1 →
    o2.data = .cell v2 →
    o3.data = .cell v3 →
    o4.data = .cell (some (.ref pl)) →
    (0 ≤ a0 ∧ a0 ≤ 2) →
    (0 ≤ a1 ∧ a1 ≤ 2) →
    (0 ≤ a2 ∧ a2 ≤ 2) →
    (0 ≤ a3 ∧ a3 ≤ 2) →
    farF a0 a1 a2 a3 ho 0 = max left 0 →
    ((@Ne Nat (L + 1 + 1 + 1 + 1) pg) ∧ (@Ne Nat (L + 1 + 1 + 1) pg) ∧ (@Ne Nat (L + 1 + 1) pg) ∧ (@Ne Nat (L + 1) pg) ∧ TailNe pg news) →
    (@Ne Nat pl pg) →
    ((@Ne Nat pl (L + 1)) ∧ (@Ne Nat pl (L + 1 + 1)) ∧ (@Ne Nat pl (L + 1 + 1 + 1)) ∧ (@Ne Nat pl (L + 1 + 1 + 1 + 1))) → C) → C
theorem far_zero {a0 a1 a2 a3 ho : Int} (b0 : 0 ≤ a0 ∧ a0 ≤ 2) (b1 : 0 ≤ a1 ∧ a1 ≤ 2) (b2 : 0 ≤ a2 ∧ a2 ≤ 2) (b3 : 0 ≤ a3 ∧ a3 ≤ 2) (bh : 0 ≤ ho ∧ ho ≤ 2) (hz : farF a0 a1 a2 a3 ho 0 ≤ 0) : ho = a0 ∧ a0 = a1 ∧ a1 = a2 ∧ a2 = a3 := by
  have h : ∀ i j k l m : Fin 3, farF i.val j.val k.val l.val m.val 0 ≤ 0 → (m.val : Int) = i.val ∧ (i.val : Int) = j.val ∧ (j.val : Int) = k.val ∧ (k.val : Int) = l.val := by decide +kernel
  have f : ∀ x : Int, 0 ≤ x ∧ x ≤ 2 → ∃ i : Fin 3, x = (i.val : Int) := fun x hx => ⟨⟨x.toNat, by omega⟩, by simp; omega⟩
  obtain ⟨i, rfl⟩ := f a0 b0
  obtain ⟨j, rfl⟩ := f a1 b1
  obtain ⟨k, rfl⟩ := f a2 b2
  obtain ⟨l, rfl⟩ := f a3 b3
  obtain ⟨m, rfl⟩ := f ho bh
  exact h i j k l m hz
theorem texts_of {a0 a1 a2 a3 : Int} (b : Bd a0 a1 a2 a3) : ∃ x0 x1 x2, PegsAre a0 a1 a2 a3 x0 x1 x2 ∧ TxtOk x0 ∧ TxtOk x1 ∧ TxtOk x2 :=
  have hp := peg_fact b
  have hn := peg_ne b
  ⟨_, _, _, ⟨rfl, rfl, rfl⟩, ⟨(hp 0 (by simp)).1, hn 0 (by simp), (hp 0 (by simp)).2⟩, ⟨(hp 1 (by simp)).1, hn 1 (by simp), (hp 1 (by simp)).2⟩, ⟨(hp 2 (by simp)).1, hn 2 (by simp), (hp 2 (by simp)).2⟩⟩
theorem pegs_to {h₀ : Heap} {L : Addr} {h : Heap} {it : Addr × Obj} {pg : Addr} {a0 a1 a2 a3 : Int} {x0 x1 x2 : Str} {u0 u1 u2 : Tok} {r : Led} (e : PegsAre a0 a1 a2 a3 x0 x1 x2) (N : News h₀ L h (it :: (pg, pegsO a0 a1 a2 a3 u0 u1 u2) :: r)) : News h₀ L h (it :: (pg, listOf #[.str x0 u0, .str x1 u1, .str x2 u2] 3) :: r) := by
  obtain ⟨rfl, rfl, rfl⟩ := e
  exact N
theorem three {i : Nat} (h : i < 3) : i = 0 ∨ i = 1 ∨ i = 2 := by omega
theorem tailNe3 {D : Addr} {x1 x2 x3 : Addr × Obj} {nw : Led} (h1 : @Ne Nat x1.1 D) (h2 : @Ne Nat x2.1 D) (h3 : @Ne Nat x3.1 D) (t : TailNe D nw) : TailNe D (x1 :: x2 :: x3 :: nw) := fun p hp => by
  rcases List.mem_cons.mp hp with rfl | hp
  · exact h1
  · rcases List.mem_cons.mp hp with rfl | hp
    · exact h2
    · rcases List.mem_cons.mp hp with rfl | hp
      · exact h3
      · exact t p hp
theorem led_name {g : Heap} {L : Addr} {h : Heap} {A B C : Addr} {o1 o2 o3 : Obj} {r : Led} (_ : News g L h ((A, o1) :: (B, o2) :: (C, o3) :: r)) : ∃ a b c, a = A ∧ b = B ∧ c = C := ⟨A, B, C, rfl, rfl, rfl⟩
theorem hlf_next {x left : Int} {i : Nat} (h : x - ((i : Nat) : Int) = left) : x - ((i + 1 : Nat) : Int) = left - 1 := by omega
theorem strs_three {vs : List Value} {x y z : Str} (h : StrsAre vs [x, y, z]) : ∃ u0 u1 u2, vs = [.str x u0, .str y u1, .str z u2] := by
  cases h with
  | cons n t h => cases h with
    | cons n t h => cases h with
      | cons n t h => cases h with
        | nil => exact ⟨_, _, _, rfl⟩
theorem pegs_to0 {h₀ : Heap} {L : Addr} {h : Heap} {pg : Addr} {a0 a1 a2 a3 : Int} {x0 x1 x2 : Str} {u0 u1 u2 : Tok} {r : Led} (e : PegsAre a0 a1 a2 a3 x0 x1 x2) (N : News h₀ L h ((pg, pegsO a0 a1 a2 a3 u0 u1 u2) :: r)) : News h₀ L h ((pg, listOf #[.str x0 u0, .str x1 u1, .str x2 u2] 3) :: r) := by
  obtain ⟨rfl, rfl, rfl⟩ := e
  exact N
theorem join3_len {g a b c : Str} (hg : g.length ≤ 2) (ha : a.length ≤ 15) (hb : b.length ≤ 15) (hc : c.length ≤ 15) : (Txt.join g [a, b, c]).length ≤ 60 := by
  rw [txt_join]
  have := StrLaws.join_length_le g [a, b, c]
  simp only [List.map_cons, List.map_nil, List.sum_cons, List.sum_nil, List.length_cons, List.length_nil] at this
  omega
theorem join3 {prog : Program} {w : World} {A : Around} {s : Shared} {h₀ : Heap} {L : Addr} {news : Led} {E : Value → Shared → Prop} {D : Addr} {g a b c : Str} {t ta tb tc : Tok} {n : Nat} {Q : Value → Shared → Prop} (N : News h₀ L s.heap news) (hm : (D, listOf #[.str a ta, .str b tb, .str c tc] n) ∈ news)
    (hg : g.length ≤ 2) (ha : a.length ≤ 15) (hb : b.length ≤ 15) (hc : c.length ≤ 15)
    (h : ∀ t' k, (Txt.join g [a, b, c]).length ≤ 60 → Q (.str (Txt.join g [a, b, c]) t') { s with toks := k }) : wpAny (model prog w) A (call (.builtin "str.join") [.str g t, .ref D]) Q E s :=
  join_list (News.isList N hm) (.cons _ _ (.cons _ _ (.cons _ _ .nil))) (by
    simp only [List.map_cons, List.map_nil, List.sum_cons, List.sum_nil, List.length_cons, List.length_nil]; omega) fun t' k => h t' k (join3_len hg ha hb hc)
theorem max0 {l : Int} (h : l ≤ 0) : max l 0 ≤ 0 := by omega
theorem max1 {l : Int} (h : 0 ≤ l) : max l 0 = l := by omega
theorem off6 {I b1 b2 b3 b4 b5 b6 : Addr} {o1 o2 o3 o4 o5 o6 : Obj} {news : Led} (h : ∀ p ∈ (b1, o1) :: (b2, o2) :: (b3, o3) :: (b4, o4) :: (b5, o5) :: (b6, o6) :: news, p.1 ≠ I) :
    (@Ne Nat b1 I) ∧ (@Ne Nat b2 I) ∧ (@Ne Nat b3 I) ∧ (@Ne Nat b4 I) ∧ (@Ne Nat b5 I) ∧ (@Ne Nat b6 I) ∧ (∀ p ∈ news, p.1 ≠ I) :=
  ⟨h (b1, o1) (by simp), h (b2, o2) (by simp), h (b3, o3) (by simp), h (b4, o4) (by simp), h (b5, o5) (by simp), h (b6, o6) (by simp), fun p hp => h p (by simp [hp])⟩
section
variable {prog : Program} {w : World} {A : Around} {s : Shared} {h₀ : Heap} {L : Addr} {m : Str → Option Value} {news : Led} {E : Value → Shared → Prop}
theorem dress_len (c : Int) : (dressS c).length ≤ 8 := by unfold dressS; rcases pick4_or (Str.ofString "") (Str.ofString ":: x.9") (Str.ofString "\nx.9: y\n") (Str.ofString ":\n.9") c with e | e | e | e <;> rw [e] <;> decide
theorem itemD {value slice : PySem.Expr} {l : Addr} {n : Nat} {tx ty tz tv u : Tok} {c : Int} {Q : Value → Shared → Prop} (N : News h₀ L s.heap news) (hm : (l, listOf #[.str (Str.ofString "") tx, .str (Str.ofString ":: x.9") ty, .str (Str.ofString "\nx.9: y\n") tz, .str (Str.ofString ":\n.9") tv] n) ∈ news)
    (h : ∀ t', (dressS c).length ≤ 8 → Q (.str (dressS c) t') s) (hs : subscripted slice false (.ref l) (.int (c.fmod 4) u) = operate [.ref l, .int (c.fmod 4) u] (getItem (.ref l) (.int (c.fmod 4) u)) := by with_unfolding_all rfl) :
    wpAny (model prog w) A (subscriptTail value slice (.ref l) (.int (c.fmod 4) u)) Q E s :=
  item4 N hm (by decide) (fun t' _ => h t' (dress_len c)) hs
end
end Mine
end
section
open PySem PySem.W PyProof.Rows Mine
set_option maxRecDepth 100000
set_option maxHeartbeats 400000000
namespace Mine
theorem tailNe_cl {D y : Nat} {q : Prop} {news : Led} (h : y < D ∧ q) (k : y < D ∧ q → AllLt D news) : TailNe D news := tailNe_lt (k h)
theorem tailNe_cn {D y : Nat} {q : Prop} {news : Led} (h : y ≠ D ∧ q) (k : y ≠ D ∧ q → LCg.Off1 D news) : TailNe D news := tailNe_off (k h)
theorem tailNe_cons {D : Addr} {x : Addr × Obj} {r : Led} (h : x.1 ≠ D) (t : TailNe D r) : TailNe D (x :: r) := fun p hp => (List.mem_cons.mp hp).elim (fun e => e ▸ h) (t p)
theorem tailNe_al {D : Nat} {led news : Led} (h : AllLt D led) (k : AllLt D led → AllLt D news) : TailNe D news := tailNe_lt (k h)
theorem tailNe_ol {D : Nat} {led news : Led} (h : LCg.Off1 D led) (k : LCg.Off1 D led → LCg.Off1 D news) : TailNe D news := tailNe_off (k h)
theorem gen_hd {g : Heap} {L : Addr} {h : Heap} {a : Addr} {o : Obj} {r : Led} (N : News g L h ((a, o) :: r)) : ∃ o', o = o' ∧ News g L h ((a, o') :: r) := ⟨o, rfl, N⟩
theorem Ct.useV {w : World} {f : Addr} {vs : List Value} {pre : Led} {y : Tok → Value} (C : Ct w f vs pre (fun v new => new = [] ∧ ∃ t, v = y t))
    {mean : ExcName → Option Value} {mg mb : Str → Option Value} {news : Led} {dp un : Nat} {gd : Option (List Code)} {cn : Str} {cs : Scope} {a : Addr} {ccd : Value} {cl : List (Str × Addr)} {outer : List Env} {A₀ : Around} {base h₀ : Heap} {L : Addr} {m : Str → Option Value} {s : Shared} {Q E : Value → Shared → Prop}
    (B : Below A₀ base outer h₀) (F : Fr h₀ L s.heap m) (X : (hd.heap_39 w.params).In h₀) (N : News h₀ L s.heap news) (T : Top hd.view_39 LO mean mg mb h₀) (hp : ∀ p ∈ pre, p ∈ news) (hk : cs.kind = .function) (hd : dp + 8 < recursionLimit) (hu : un + 64 < cLine)
    (ret : ∀ (t : Tok) (h' : Heap) (tk' : Nat), Fr h₀ L h' m → News h₀ L h' news → Q (y t) { s with heap := h', toks := tk' }) :
    wpAny (model PG w) (ktrTop dp un gd cn cs L a ccd cl outer) (call (.ref f) vs) Q E s :=
  C.use B F X N T hp hk hd hu fun v new h' tk' hOk F' N' l1 => by obtain ⟨rfl, t, rfl⟩ := hOk; exact ret t h' tk' F' N'
theorem Ct.useB {w : World} {f : Addr} {vs : List Value} {pre : Led} {y : Value} (C : Ct w f vs pre (fun v new => new = [] ∧ v = y))
    {mean : ExcName → Option Value} {mg mb : Str → Option Value} {news : Led} {dp un : Nat} {gd : Option (List Code)} {cn : Str} {cs : Scope} {a : Addr} {ccd : Value} {cl : List (Str × Addr)} {outer : List Env} {A₀ : Around} {base h₀ : Heap} {L : Addr} {m : Str → Option Value} {s : Shared} {Q E : Value → Shared → Prop}
    (B : Below A₀ base outer h₀) (F : Fr h₀ L s.heap m) (X : (hd.heap_39 w.params).In h₀) (N : News h₀ L s.heap news) (T : Top hd.view_39 LO mean mg mb h₀) (hp : ∀ p ∈ pre, p ∈ news) (hk : cs.kind = .function) (hd : dp + 8 < recursionLimit) (hu : un + 64 < cLine)
    (ret : ∀ (h' : Heap) (tk' : Nat), Fr h₀ L h' m → News h₀ L h' news → Q y { s with heap := h', toks := tk' }) :
    wpAny (model PG w) (ktrTop dp un gd cn cs L a ccd cl outer) (call (.ref f) vs) Q E s :=
  C.use B F X N T hp hk hd hu fun v new h' tk' hOk F' N' l1 => by obtain ⟨rfl, rfl⟩ := hOk; exact ret h' tk' F' N'
theorem Ct.useF {w : World} {f : Addr} {vs : List Value} {pre : Led} {y : Int} (C : Ct w f vs pre (fun v new => new = [] ∧ ∃ x t, v = .int x t ∧ x = y ∧ 0 ≤ x ∧ x ≤ 15))
    {mean : ExcName → Option Value} {mg mb : Str → Option Value} {news : Led} {dp un : Nat} {gd : Option (List Code)} {cn : Str} {cs : Scope} {a : Addr} {ccd : Value} {cl : List (Str × Addr)} {outer : List Env} {A₀ : Around} {base h₀ : Heap} {L : Addr} {m : Str → Option Value} {s : Shared} {Q E : Value → Shared → Prop}
    (B : Below A₀ base outer h₀) (F : Fr h₀ L s.heap m) (X : (hd.heap_39 w.params).In h₀) (N : News h₀ L s.heap news) (T : Top hd.view_39 LO mean mg mb h₀) (hp : ∀ p ∈ pre, p ∈ news) (hk : cs.kind = .function) (hd : dp + 8 < recursionLimit) (hu : un + 64 < cLine)
    (ret : ∀ (x : Int) (t : Tok) (h' : Heap) (tk' : Nat), x = y → 0 ≤ x → x ≤ 15 → Fr h₀ L h' m → News h₀ L h' news → Q (.int x t) { s with heap := h', toks := tk' }) :
    wpAny (model PG w) (ktrTop dp un gd cn cs L a ccd cl outer) (call (.ref f) vs) Q E s :=
  C.use B F X N T hp hk hd hu fun v new h' tk' hOk F' N' l1 => by obtain ⟨rfl, x, t, rfl, e, h0, h1⟩ := hOk; exact ret x t h' tk' e h0 h1 F' N'
theorem Ct.useU {w : World} {f : Addr} {vs : List Value} {pre : Led} {y : Str} (C : Ct w f vs pre (fun v new => new = [] ∧ ∃ r t, v = .str r t ∧ r = y ∧ r.length ≤ 122))
    {mean : ExcName → Option Value} {mg mb : Str → Option Value} {news : Led} {dp un : Nat} {gd : Option (List Code)} {cn : Str} {cs : Scope} {a : Addr} {ccd : Value} {cl : List (Str × Addr)} {outer : List Env} {A₀ : Around} {base h₀ : Heap} {L : Addr} {m : Str → Option Value} {s : Shared} {Q E : Value → Shared → Prop}
    (B : Below A₀ base outer h₀) (F : Fr h₀ L s.heap m) (X : (hd.heap_39 w.params).In h₀) (N : News h₀ L s.heap news) (T : Top hd.view_39 LO mean mg mb h₀) (hp : ∀ p ∈ pre, p ∈ news) (hk : cs.kind = .function) (hd : dp + 8 < recursionLimit) (hu : un + 64 < cLine)
    (ret : ∀ (r : Str) (t : Tok) (h' : Heap) (tk' : Nat), r = y → r.length ≤ 122 → Fr h₀ L h' m → News h₀ L h' news → Q (.str r t) { s with heap := h', toks := tk' }) :
    wpAny (model PG w) (ktrTop dp un gd cn cs L a ccd cl outer) (call (.ref f) vs) Q E s :=
  C.use B F X N T hp hk hd hu fun v new h' tk' hOk F' N' l1 => by obtain ⟨rfl, r, t, rfl, e, h0⟩ := hOk; exact ret r t h' tk' e h0 F' N'
theorem Ct.useM3 {w : World} {f : Addr} {vs : List Value} {pre : Led} {o : Tok → Tok → Tok → Obj} (C : Ct w f vs pre (fun v new => ∃ l u0 u1 u2, v = .ref l ∧ new = [(l, o u0 u1 u2)]))
    {mean : ExcName → Option Value} {mg mb : Str → Option Value} {news : Led} {dp un : Nat} {gd : Option (List Code)} {cn : Str} {cs : Scope} {a : Addr} {ccd : Value} {cl : List (Str × Addr)} {outer : List Env} {A₀ : Around} {base h₀ : Heap} {L : Addr} {m : Str → Option Value} {s : Shared} {Q E : Value → Shared → Prop}
    (B : Below A₀ base outer h₀) (F : Fr h₀ L s.heap m) (X : (hd.heap_39 w.params).In h₀) (N : News h₀ L s.heap news) (T : Top hd.view_39 LO mean mg mb h₀) (hp : ∀ p ∈ pre, p ∈ news) (hk : cs.kind = .function) (hd : dp + 8 < recursionLimit) (hu : un + 64 < cLine)
    (ret : ∀ (l : Addr) (u0 u1 u2 : Tok) (h' : Heap) (tk' : Nat), Fr h₀ L h' m → News h₀ L h' ((l, o u0 u1 u2) :: news) → (∀ q ∈ news, q.1 < l) → Q (.ref l) { s with heap := h', toks := tk' }) :
    wpAny (model PG w) (ktrTop dp un gd cn cs L a ccd cl outer) (call (.ref f) vs) Q E s :=
  C.use B F X N T hp hk hd hu fun v new h' tk' hOk F' N' l1 => by obtain ⟨l, u0, u1, u2, rfl, rfl⟩ := hOk; exact ret l u0 u1 u2 h' tk' F' N' (lt_of_new l1)
theorem Ct.useM4 {w : World} {f : Addr} {vs : List Value} {pre : Led} {o : Tok → Tok → Tok → Tok → Obj} (C : Ct w f vs pre (fun v new => ∃ l u0 u1 u2 u3, v = .ref l ∧ new = [(l, o u0 u1 u2 u3)]))
    {mean : ExcName → Option Value} {mg mb : Str → Option Value} {news : Led} {dp un : Nat} {gd : Option (List Code)} {cn : Str} {cs : Scope} {a : Addr} {ccd : Value} {cl : List (Str × Addr)} {outer : List Env} {A₀ : Around} {base h₀ : Heap} {L : Addr} {m : Str → Option Value} {s : Shared} {Q E : Value → Shared → Prop}
    (B : Below A₀ base outer h₀) (F : Fr h₀ L s.heap m) (X : (hd.heap_39 w.params).In h₀) (N : News h₀ L s.heap news) (T : Top hd.view_39 LO mean mg mb h₀) (hp : ∀ p ∈ pre, p ∈ news) (hk : cs.kind = .function) (hd : dp + 8 < recursionLimit) (hu : un + 64 < cLine)
    (ret : ∀ (l : Addr) (u0 u1 u2 u3 : Tok) (h' : Heap) (tk' : Nat), Fr h₀ L h' m → News h₀ L h' ((l, o u0 u1 u2 u3) :: news) → (∀ q ∈ news, q.1 < l) → Q (.ref l) { s with heap := h', toks := tk' }) :
    wpAny (model PG w) (ktrTop dp un gd cn cs L a ccd cl outer) (call (.ref f) vs) Q E s :=
  C.use B F X N T hp hk hd hu fun v new h' tk' hOk F' N' l1 => by obtain ⟨l, u0, u1, u2, u3, rfl, rfl⟩ := hOk; exact ret l u0 u1 u2 u3 h' tk' F' N' (lt_of_new l1)
theorem Ct.useM0 {w : World} {f : Addr} {vs : List Value} {pre : Led} {o : Obj} (C : Ct w f vs pre (fun v new => ∃ l, v = .ref l ∧ new = [(l, o)]))
    {mean : ExcName → Option Value} {mg mb : Str → Option Value} {news : Led} {dp un : Nat} {gd : Option (List Code)} {cn : Str} {cs : Scope} {a : Addr} {ccd : Value} {cl : List (Str × Addr)} {outer : List Env} {A₀ : Around} {base h₀ : Heap} {L : Addr} {m : Str → Option Value} {s : Shared} {Q E : Value → Shared → Prop}
    (B : Below A₀ base outer h₀) (F : Fr h₀ L s.heap m) (X : (hd.heap_39 w.params).In h₀) (N : News h₀ L s.heap news) (T : Top hd.view_39 LO mean mg mb h₀) (hp : ∀ p ∈ pre, p ∈ news) (hk : cs.kind = .function) (hd : dp + 8 < recursionLimit) (hu : un + 64 < cLine)
    (ret : ∀ (l : Addr) (h' : Heap) (tk' : Nat), Fr h₀ L h' m → News h₀ L h' ((l, o) :: news) → (∀ q ∈ news, q.1 < l) → Q (.ref l) { s with heap := h', toks := tk' }) :
    wpAny (model PG w) (ktrTop dp un gd cn cs L a ccd cl outer) (call (.ref f) vs) Q E s :=
  C.use B F X N T hp hk hd hu fun v new h' tk' hOk F' N' l1 => by obtain ⟨l, rfl, rfl⟩ := hOk; exact ret l h' tk' F' N' (lt_of_new l1)
theorem CtS.useH {k : Nat} {w : World} {f : Addr} {vs : List Value} {pre : Led} {o : Tok → Tok → Obj} (C : CtS k w f vs pre (fun v new => ∃ l u0 u1, v = .ref l ∧ new = [(l, o u0 u1)]))
    {mean : ExcName → Option Value} {mg mb : Str → Option Value} {news : Led} {dp un : Nat} {gd : Option (List Code)} {cn : Str} {cs : Scope} {a : Addr} {ccd : Value} {cl : List (Str × Addr)} {outer : List Env} {A₀ : Around} {base h₀ : Heap} {L : Addr} {m : Str → Option Value} {s : Shared} {Q E : Value → Shared → Prop}
    (B : Below A₀ base outer h₀) (F : Fr h₀ L s.heap m) (X : (hd.heap_39 w.params).In h₀) (N : News h₀ L s.heap news) (T : Top hd.view_39 LO mean mg mb h₀) (XB : (hd.heap_39 w.params).In base) (TB : Top hd.view_39 LO mean mg mb base) (D : KtsDicts (outer.filterMap (·.frame)) h₀) (hp : ∀ p ∈ pre, p ∈ news) (hk : cs.kind = .function) (hdp : dp + 8 * k < recursionLimit) (hu : un + 64 * k < cLine)
    (ret : ∀ (l : Addr) (u0 u1 : Tok) (h₀' h' : Heap) (tk' : Nat), KtsTurn (outer.filterMap (·.frame)) h₀ h₀' → Fr h₀' L h' m → News h₀' L h' ((l, o u0 u1) :: news) → (∀ q ∈ news, q.1 < l) → Below A₀ base outer h₀' → (hd.heap_39 w.params).In h₀' → Top hd.view_39 LO mean mg mb h₀' → KtsDicts (outer.filterMap (·.frame)) h₀' → Q (.ref l) { s with heap := h', toks := tk' }) :
    wpAny (model PG w) (ktrTop dp un gd cn cs L a ccd cl outer) (call (.ref f) vs) Q E s :=
  C.use B F X N T XB TB D hp hk hdp hu fun v new h₀' h' tk' hOk K F' N' l1 B' X' T' D' => by obtain ⟨l, u0, u1, rfl, rfl⟩ := hOk; exact ret l u0 u1 h₀' h' tk' K F' N' (lt_of_new l1) B' X' T' D'
noncomputable def EncOk (x : Str) : Prop := x.length ≤ 200 ∧ Asc x
theorem encode_b {prog : Program} {w : World} {A : Around} {s : Shared} {E : Value → Shared → Prop} {x : Str} {t u : Tok} {Q : Value → Shared → Prop} (ok : EncOk x) (h : ∀ t' k', Q (.bytes (encB x) t') { s with toks := k' }) :
    wpAny (model prog w) A (call (.builtin "str.encode") [.str x t, .str (Str.ofString "ascii") u]) Q E s :=
  encode_call (Nat.le_trans ok.1 (by omega)) ok.2 h
noncomputable def NoFl (x : Str) : Prop := EncOk x ∧ flSpec x.cps = none
theorem pf_no (w : World) (x : Str) (t : Tok) (h : NoFl x) : Ct w 43 [.bytes (encB x) t] [] (fun v new => ∃ tp, v = .ref tp ∧ new = [(tp, tupOf #[])]) :=
  pf_none_c w (encB x) t (by unfold encB; rw [Array.size_map]; have : x.cps.size ≤ 200 := h.1.1; omega) (by unfold FlIs; rw [enc_nat h.1.2]; exact h.2)
noncomputable def bareS (x0 x1 x2 : Str) : Str := Str.ofString "FLAGS (" ++ Txt.join (Str.ofString " ") [x0, x1, x2]
theorem bare_list (x0 x1 x2 : Str) : (bareS x0 x1 x2).cps.toList = flW ++ (x0.cps.toList ++ (32 :: (x1.cps.toList ++ (32 :: x2.cps.toList)))) := by
  have e1 : (Str.ofString "FLAGS (").cps.toList = flW := by decide
  have e2 : (Str.ofString " ").cps.toList = [32] := by decide
  unfold bareS
  rw [txt_join]
  simp only [Str.join, Str.cps_append, Array.toList_append, e1, e2, List.append_assoc, List.cons_append, List.nil_append]
theorem bare_chars {a0 a1 a2 a3 : Int} {x0 x1 x2 : Str} (e : PegsAre a0 a1 a2 a3 x0 x1 x2) : ∀ c ∈ (bareS x0 x1 x2).cps.toList, c < 128 ∧ c ≠ 41 := by
  obtain ⟨rfl, rfl, rfl⟩ := e
  intro c hc
  have g0 := fun h => pegC_or (pegF_chars (a0 := a0) (a1 := a1) (a2 := a2) (a3 := a3) 0 (by simp) c h)
  have g1 := fun h => pegC_or (pegF_chars (a0 := a0) (a1 := a1) (a2 := a2) (a3 := a3) 1 (by simp) c h)
  have g2 := fun h => pegC_or (pegF_chars (a0 := a0) (a1 := a1) (a2 := a2) (a3 := a3) 2 (by simp) c h)
  rw [bare_list] at hc
  simp only [List.mem_append, List.mem_cons] at hc
  rcases hc with hc | hc | hc | hc | hc | hc
  · have : ∀ c ∈ flW, c < 128 ∧ c ≠ 41 := by decide
    exact this c hc
  · have := g0 hc; omega
  · omega
  · have := g1 hc; omega
  · omega
  · have := g2 hc; omega
theorem bare_len {a0 a1 a2 a3 : Int} {x0 x1 x2 : Str} (b : Bd a0 a1 a2 a3) (e : PegsAre a0 a1 a2 a3 x0 x1 x2) : (bareS x0 x1 x2).length ≤ 100 := by
  obtain ⟨rfl, rfl, rfl⟩ := e
  have := join3_len (g := Str.ofString " ") (by decide) (peg_fact b 0 (by simp)).1 (peg_fact b 1 (by simp)).1 (peg_fact b 2 (by simp)).1
  have e1 : (Str.ofString "FLAGS (").length = 7 := by decide
  unfold bareS
  rw [Str.length_append]; omega
theorem bare_no {a0 a1 a2 a3 : Int} {x0 x1 x2 : Str} (b : Bd a0 a1 a2 a3) (e : PegsAre a0 a1 a2 a3 x0 x1 x2) : NoFl (Str.ofString "FLAGS (" ++ Txt.join (Str.ofString " ") [x0, x1, x2]) := by
  have hc := bare_chars e
  refine ⟨⟨Nat.le_trans (bare_len b e) (by decide), fun c h => (hc c h).1⟩, fl_bare fun q hq => ?_⟩
  exact (hc 41 (Array.mem_toList_iff.mpr (Array.mem_of_getElem? hq))).2 rfl
theorem row_no {a0 a1 a2 a3 : Int} {x0 x1 x2 : Str} (b : Bd a0 a1 a2 a3) (e : PegsAre a0 a1 a2 a3 x0 x1 x2) : NoFl ((Str.ofString "\n" ++ (Str.ofString "FLAGS (" ++ Txt.join (Str.ofString " ") [x0, x1, x2])) ++ Str.ofString ")") := by
  have hc := bare_no b e
  have hl := bare_len b e
  unfold bareS at hl
  have e1 : (Str.ofString "\n").cps.toList = [10] := by decide
  have e2 : (Str.ofString ")").length = 1 := by decide
  have e3 : (Str.ofString "\n").length = 1 := by decide
  refine ⟨⟨by rw [Str.length_append, Str.length_append]; omega, ((asc_of (by decide)).app hc.1.2).app (asc_of (by decide))⟩, fl_row ?_⟩
  rw [← Array.getElem?_toList]
  simp only [Str.cps_append, Array.toList_append, e1, List.cons_append, List.getElem?_cons_zero]
end Mine
end
section
open PySem PySem.W PyProof.Rows Mine
set_option maxRecDepth 100000
set_option maxHeartbeats 400000000
namespace Mine
theorem bool_or {a b : Bool} (h : (!a || b) = true) (ha : a = true) : b = true := by subst ha; simpa using h
theorem pair_in {on ot : Int} (h0 : 0 ≤ on) (h1 : on ≤ 2) (h2 : 0 ≤ ot) (h3 : ot ≤ 2) (hne : on ≠ ot) : (on, ot) ∈ [((0 : Int), (1 : Int)), (0, 2), (1, 0), (1, 2), (2, 0), (2, 1)] := by
  have a : on = 0 ∨ on = 1 ∨ on = 2 := by omega
  have b : ot = 0 ∨ ot = 1 ∨ ot = 2 := by omega
  rcases a with rfl | rfl | rfl <;> rcases b with rfl | rfl | rfl <;> first | (exact absurd rfl hne) | simp
/-- what is so of the one move -/
structure WinIs (a0 a1 a2 a3 ho : Int) (wo wt : Int) : Prop where
  only : ∀ on ot, 0 ≤ on → on ≤ 2 → 0 ≤ ot → ot ≤ 2 → lvF a0 a1 a2 a3 on < lvF a0 a1 a2 a3 ot → farL ([a0, a1, a2, a3].set (lvF a0 a1 a2 a3 on).toNat ot) ho 0 < farF a0 a1 a2 a3 ho 0 → 0 < farF a0 a1 a2 a3 ho 0 ∧ on = wo ∧ ot = wt
  ok : 0 < farF a0 a1 a2 a3 ho 0 → lvF a0 a1 a2 a3 wo < lvF a0 a1 a2 a3 wt ∧ farL ([a0, a1, a2, a3].set (lvF a0 a1 a2 a3 wo).toNat wt) ho 0 < farF a0 a1 a2 a3 ho 0
  v2 : 0 < farF a0 a1 a2 a3 ho 0 → v2T (farF a0 a1 a2 a3 ho 0).toNat = lvF a0 a1 a2 a3 wo ∧ oddT (farF a0 a1 a2 a3 ho 0).toNat = farL [a0, a1, a2, a3] ho (lvF a0 a1 a2 a3 wo + 1)
  one : 0 < farF a0 a1 a2 a3 ho 0 → farL ([a0, a1, a2, a3].set (lvF a0 a1 a2 a3 wo).toNat wt) ho 0 = farF a0 a1 a2 a3 ho 0 - 1
  lo : (0 ≤ wo ∧ wo ≤ 2) ∧ (0 ≤ wt ∧ wt ≤ 2)
theorem win_is {a0 a1 a2 a3 ho : Int} (b : Bd a0 a1 a2 a3) (bh : 0 ≤ ho ∧ ho ≤ 2) : WinIs a0 a1 a2 a3 ho (winM a0 a1 a2 a3 ho).1 (winM a0 a1 a2 a3 ho).2 := by
  obtain ⟨b0, b1, b2, b3⟩ := b
  obtain ⟨i, rfl⟩ := fin_of b0
  obtain ⟨j, rfl⟩ := fin_of b1
  obtain ⟨k, rfl⟩ := fin_of b2
  obtain ⟨l, rfl⟩ := fin_of b3
  obtain ⟨m, rfl⟩ := fin_of bh
  have h := win_fact i j k l m
  generalize ((i.val : Nat) : Int) = a0 at *
  generalize ((j.val : Nat) : Int) = a1 at *
  generalize ((k.val : Nat) : Int) = a2 at *
  generalize ((l.val : Nat) : Int) = a3 at *
  generalize ((m.val : Nat) : Int) = ho at *
  unfold winB at h
  dsimp only at h
  rw [Bool.and_eq_true, Bool.and_eq_true] at h
  obtain ⟨⟨h1, h2⟩, h3⟩ := h
  have h1' := List.all_eq_true.mp h1
  have hk : 0 < farF a0 a1 a2 a3 ho 0 → _ := fun hl => bool_or h2 (decide_eq_true hl)
  simp only [Bool.and_eq_true, decide_eq_true_eq] at h3
  refine ⟨fun on ot g0 g1 g2 g3 hlt hf => ?_, fun hl => ?_, fun hl => ?_, fun hl => ?_, ⟨⟨h3.1.1.1, h3.1.1.2⟩, h3.1.2, h3.2⟩⟩
  · have hne : on ≠ ot := fun e => by subst e; exact absurd hlt (Int.lt_irrefl _)
    have hm := bool_or (h1' (on, ot) (pair_in g0 g1 g2 g3 hne)) (by unfold okMv; rw [Bool.and_eq_true]; exact ⟨decide_eq_true hlt, decide_eq_true hf⟩)
    rw [Bool.and_eq_true] at hm
    have he := of_decide_eq_true hm.2
    exact ⟨of_decide_eq_true hm.1, congrArg Prod.fst he, congrArg Prod.snd he⟩
  · have hh := hk hl
    simp only [Bool.and_eq_true, decide_eq_true_eq, okMv] at hh
    exact hh.1.1.1
  · have hh := hk hl
    simp only [Bool.and_eq_true, decide_eq_true_eq] at hh
    exact ⟨hh.1.1.2, hh.1.2⟩
  · have hh := hk hl
    simp only [Bool.and_eq_true, decide_eq_true_eq] at hh
    exact hh.2
theorem least_eq {a0 a1 a2 a3 k : Int} {x T : Str} {l : Int} (h : PegOk a0 a1 a2 a3 k x T l) : l = leastF a0 a1 a2 a3 k := h.2.2.2.2.2.2.2
theorem win_of {a0 a1 a2 a3 ho left l0 l1 l2 : Int} {x0 x1 x2 T0 T1 T2 : Str} (b : Bd a0 a1 a2 a3) (bh : 0 ≤ ho ∧ ho ≤ 2) (hl : farF a0 a1 a2 a3 ho 0 = left) (uh0 : 0 ≤ left) (p0 : PegOk a0 a1 a2 a3 0 x0 T0 l0) (p1 : PegOk a0 a1 a2 a3 1 x1 T1 l1) (p2 : PegOk a0 a1 a2 a3 2 x2 T2 l2) : ∃ wo wt, WinOk [a0, a1, a2, a3] ho left l0 l1 l2 wo wt := by
  have e0 := least_eq p0
  have e1 := least_eq p1
  have e2 := least_eq p2
  subst e0 e1 e2 hl
  have h := win_is b bh
  have hb := far_bd a0 a1 a2 a3 ho 0 b bh (by omega) (by omega)
  refine ⟨_, _, h.lo.1, h.lo.2, h.only, h.ok, fun hl => ?_⟩
  obtain ⟨q1, q2⟩ := halv_of hl hb.2
  obtain ⟨q3, q4⟩ := h.v2 hl
  exact ⟨q1.trans q3, q2.trans (by rw [q4]; rfl)⟩
-- what the move makes of the pegs
noncomputable abbrev B4 := Bool × Bool × Bool × Bool
noncomputable def bitsOf (ns : List Int) (p : Int) : B4 := (decide (ns.getD 0 0 = p), decide (ns.getD 1 0 = p), decide (ns.getD 2 0 = p), decide (ns.getD 3 0 = p))
noncomputable def pegT (b : B4) (p : Int) : Str := pegB b.1 b.2.1 b.2.2.1 b.2.2.2 p
noncomputable def pegL (ns : List Int) (p : Int) : Str := pegF (ns.getD 0 0) (ns.getD 1 0) (ns.getD 2 0) (ns.getD 3 0) p
theorem pegL_eq (ns : List Int) (p : Int) : pegL ns p = pegT (bitsOf ns p) p := pegF_eq _ _ _ _ _
noncomputable def clrB : B4 → B4
  | (true, b, c, d) => (false, b, c, d)
  | (false, true, c, d) => (false, false, c, d)
  | (false, false, true, d) => (false, false, false, d)
  | (false, false, false, _) => (false, false, false, false)
noncomputable def setB (b : B4) (d : Int) : B4 := (b.1 || decide (d = 0), b.2.1 || decide (d = 1), b.2.2.1 || decide (d = 2), b.2.2.2 || decide (d = 3))
noncomputable def leastT (b : B4) : Int := leastB b.1 b.2.1 b.2.2.1 b.2.2.2
noncomputable def popOk (x z y : Str) : Bool :=
  match ipSpecF (x ++ z).cps with
  | some (b, e) => decide (b ≤ e) && decide (e ≤ (x ++ z).cps.size) && decide (Txt.slice (Txt.slice (x ++ z) none (some (b : Int)) ++ Txt.slice (x ++ z) (some (e : Int)) none) none (some (((Txt.slice (x ++ z) none (some (b : Int)) ++ Txt.slice (x ++ z) (some (e : Int)) none).length : Int) - (z.length : Int))) = y)
  | none => false
theorem pop_fact : ∀ b0 b1 b2 b3 : Bool, ∀ k : Fin 3, ∀ z ∈ [Str.ofString "", Str.ofString "\n"], leastT (b0, b1, b2, b3) < 4 → popOk (pegT (b0, b1, b2, b3) k.val) z (pegT (clrB (b0, b1, b2, b3)) k.val) = true := by decide +kernel
theorem push_fact : ∀ b0 b1 b2 b3 : Bool, ∀ k : Fin 3, ∀ d : Fin 4, (d.val : Int) < leastT (b0, b1, b2, b3) → (pegT (b0, b1, b2, b3) k.val ++ Str.ofString ".") ++ Txt.mul (Str.ofString "7") (d.val + 1) = pegT (setB (b0, b1, b2, b3) d.val) k.val := by decide +kernel
theorem bits_fact : ∀ i j k l on ot : Fin 3, lvF i.val j.val k.val l.val on.val < lvF i.val j.val k.val l.val ot.val →
    ∀ p : Fin 3, bitsOf ([(i.val : Int), j.val, k.val, l.val].set (lvF i.val j.val k.val l.val on.val).toNat ot.val) p.val = (if p = on then clrB (bitsOf [(i.val : Int), j.val, k.val, l.val] on.val) else if p = ot then setB (bitsOf [(i.val : Int), j.val, k.val, l.val] ot.val) (lvF i.val j.val k.val l.val on.val) else bitsOf [(i.val : Int), j.val, k.val, l.val] p.val) := by decide +kernel
theorem least_bits (i j k l : Int) (p : Fin 3) : lvF i j k l p.val = leastT (bitsOf [i, j, k, l] p.val) := by
  have e : lvF i j k l p.val = leastF i j k l p.val := by
    match p with
    | 0 => rfl
    | 1 => rfl
    | 2 => rfl
  rw [e, leastF_eq]; rfl
/-- a move on the pegs' texts -/
theorem move_is {i j k l on ot : Fin 3} {z : Str} (hz : z ∈ [Str.ofString "", Str.ofString "\n"]) (h : lvF i.val j.val k.val l.val on.val < lvF i.val j.val k.val l.val ot.val) :
    popOk (pegL [(i.val : Int), j.val, k.val, l.val] on.val) z (pegL ([(i.val : Int), j.val, k.val, l.val].set (lvF i.val j.val k.val l.val on.val).toNat ot.val) on.val) = true ∧
    (pegL [(i.val : Int), j.val, k.val, l.val] ot.val ++ Str.ofString ".") ++ Txt.mul (Str.ofString "7") (lvF i.val j.val k.val l.val on.val + 1) = pegL ([(i.val : Int), j.val, k.val, l.val].set (lvF i.val j.val k.val l.val on.val).toNat ot.val) ot.val ∧
    ∀ p : Fin 3, p ≠ on → p ≠ ot → pegL [(i.val : Int), j.val, k.val, l.val] p.val = pegL ([(i.val : Int), j.val, k.val, l.val].set (lvF i.val j.val k.val l.val on.val).toNat ot.val) p.val := by
  have hb := bits_fact i j k l on ot h
  have hne : ot ≠ on := fun e => by subst e; exact absurd h (Int.lt_irrefl _)
  have h4 : ∀ q : Fin 3, 0 ≤ lvF i.val j.val k.val l.val q.val ∧ lvF i.val j.val k.val l.val q.val ≤ 4 := fun q => by
    rw [least_bits]; exact (top_fact _ _ _ _ 0).2
  have g1 := h4 on
  have g2 := h4 ot
  refine ⟨?_, ?_, fun p h1 h2 => ?_⟩
  · rw [pegL_eq, pegL_eq, hb on, if_pos rfl]
    exact pop_fact _ _ _ _ on z hz (by have := least_bits i.val j.val k.val l.val on; have e : leastT (bitsOf [(i.val : Int), j.val, k.val, l.val] on.val) < 4 := by omega
                                       exact e)
  · rw [pegL_eq, pegL_eq, hb ot, if_neg hne, if_pos rfl]
    have e : ((⟨(lvF i.val j.val k.val l.val on.val).toNat, by omega⟩ : Fin 4).val : Int) = lvF i.val j.val k.val l.val on.val := by simp; omega
    have := push_fact (bitsOf [(i.val : Int), j.val, k.val, l.val] ot.val).1 (bitsOf [(i.val : Int), j.val, k.val, l.val] ot.val).2.1 (bitsOf [(i.val : Int), j.val, k.val, l.val] ot.val).2.2.1 (bitsOf [(i.val : Int), j.val, k.val, l.val] ot.val).2.2.2 ot ⟨(lvF i.val j.val k.val l.val on.val).toNat, by omega⟩
    rw [e] at this
    refine this ?_
    have e2 := least_bits i.val j.val k.val l.val ot
    rw [e2] at h
    exact h
  · rw [pegL_eq, pegL_eq, hb p, if_neg h1, if_neg h2]
theorem pop_out {x z y : Str} (h : popOk x z y = true) : ∃ b e, (ipSpecF (x ++ z).cps = some (b, e) ∧ b ≤ e ∧ e ≤ (x ++ z).cps.size) ∧ Txt.slice (Txt.slice (x ++ z) none (some (b : Int)) ++ Txt.slice (x ++ z) (some (e : Int)) none) none (some (((Txt.slice (x ++ z) none (some (b : Int)) ++ Txt.slice (x ++ z) (some (e : Int)) none).length : Int) - (z.length : Int))) = y := by
  unfold popOk at h
  split at h
  · rename_i b e hs
    simp only [Bool.and_eq_true, decide_eq_true_eq] at h
    exact ⟨b, e, ⟨hs, h.1.1, h.1.2⟩, h.2⟩
  · cases h
theorem pegL_len {ns : List Int} (p : Fin 3) : (pegL ns p.val).length ≤ 60 := by
  rw [pegL_eq]
  exact Nat.le_trans (pegB_fact _ _ _ _ p).1 (by decide)
theorem move_of {a0 a1 a2 a3 ho left l0 l1 l2 wo wt : Int} {x0 x1 x2 T0 T1 T2 : Str} (way : Int) (b : Bd a0 a1 a2 a3) (hp : PegsAre a0 a1 a2 a3 x0 x1 x2) (bh : 0 ≤ ho ∧ ho ≤ 2) (hl : farF a0 a1 a2 a3 ho 0 = left) (h0 : 0 < left) (p0 : PegOk a0 a1 a2 a3 0 x0 T0 l0) (p1 : PegOk a0 a1 a2 a3 1 x1 T1 l1) (p2 : PegOk a0 a1 a2 a3 2 x2 T2 l2) (hW : WinOk [a0, a1, a2, a3] ho left l0 l1 l2 wo wt) :
    (∃ b e z', MoveOk ([a0, a1, a2, a3].set (lv l0 l1 l2 wo).toNat wt) [x0, x1, x2] [T0, T1, T2] wo wt way b e z') ∧ farL ([a0, a1, a2, a3].set (lv l0 l1 l2 wo).toNat wt) ho 0 = left - 1 ∧ wo ≠ wt := by
  have hTs : ∀ p : Fin 3, lv l0 l1 l2 p.val < 4 → [T0, T1, T2].getD p.val Str.empty = Txt.mul (Str.ofString "7") (lv l0 l1 l2 p.val + 1) := by
    intro p hp
    match p, hp with
    | 0, hp => exact p0.2.2.1 hp
    | 1, hp => exact p1.2.2.1 hp
    | 2, hp => exact p2.2.2.1 hp
  have e0 := least_eq p0
  have e1 := least_eq p1
  have e2 := least_eq p2
  clear p0 p1 p2
  subst e0 e1 e2 hl
  obtain ⟨bwo, bwt, _, hw4, _⟩ := hW
  obtain ⟨hlt, hfar⟩ := hw4 h0
  have hi := win_is b bh
  obtain ⟨_, q1, q2⟩ := hi.only wo wt bwo.1 bwo.2 bwt.1 bwt.2 hlt hfar
  have hone := hi.one h0
  rw [← q1, ← q2] at hone
  have hne : wo ≠ wt := fun e => by rw [e] at hlt; exact absurd hlt (Int.lt_irrefl _)
  refine ⟨?_, hone, hne⟩
  clear hone q1 q2 hi hfar hw4
  have hBL : BdL ([a0, a1, a2, a3].set (lvF a0 a1 a2 a3 wo).toNat wt) := bdl_set (bdl_of b) bwt.1 bwt.2
  obtain ⟨rfl, rfl, rfl⟩ := hp
  obtain ⟨b0, b1, b2, b3⟩ := b
  obtain ⟨i, rfl⟩ := fin_of b0
  obtain ⟨j, rfl⟩ := fin_of b1
  obtain ⟨k, rfl⟩ := fin_of b2
  obtain ⟨l, rfl⟩ := fin_of b3
  obtain ⟨on, rfl⟩ := fin_of bwo
  obtain ⟨ot, rfl⟩ := fin_of bwt
  clear b0 b1 b2 b3 bwo bwt
  have hlt' : lvF i.val j.val k.val l.val on.val < lvF i.val j.val k.val l.val ot.val := hlt
  obtain ⟨m1, m2, m3⟩ := move_is (feed_mem way) hlt'
  obtain ⟨b, e, hpop, hz⟩ := pop_out m1
  have h4 : lvF i.val j.val k.val l.val ot.val ≤ 4 := by rw [least_bits]; exact (top_fact _ _ _ _ 0).2.2
  have hT := hTs on (by show lvF i.val j.val k.val l.val on.val < 4; omega)
  have hT' : [T0, T1, T2].getD on.val Str.empty = Txt.mul (Str.ofString "7") (lvF i.val j.val k.val l.val on.val + 1) := hT
  have hne' : on ≠ ot := fun e => hne (by rw [e])
  obtain ⟨c0, c1, c2, c3, hns, hbd⟩ := bdl_four hBL
  refine ⟨b, e, pegL ([(i.val : Int), j.val, k.val, l.val].set (lvF i.val j.val k.val l.val on.val).toNat ot.val) on.val, ?_⟩
  have hX : ∀ p : Fin 3, [pegF i.val j.val k.val l.val 0, pegF i.val j.val k.val l.val 1, pegF i.val j.val k.val l.val 2].getD p.val Str.empty = pegL [(i.val : Int), j.val, k.val, l.val] p.val := by
    intro p
    match p with
    | 0 => rfl
    | 1 => rfl
    | 2 => rfl
  have hY : ([pegF i.val j.val k.val l.val 0, pegF i.val j.val k.val l.val 1, pegF i.val j.val k.val l.val 2].set ot.val (pegL ([(i.val : Int), j.val, k.val, l.val].set (lvF i.val j.val k.val l.val on.val).toNat ot.val) ot.val)).getD on.val Str.empty = pegL [(i.val : Int), j.val, k.val, l.val] on.val := by
    rw [← hX on, List.getD_eq_getElem?_getD, List.getD_eq_getElem?_getD, List.getElem?_set_ne (fun e => hne' (Fin.ext e.symm))]
  unfold MoveOk
  dsimp only
  rw [Int.toNat_natCast, Int.toNat_natCast, hX ot, hT', m2, hY]
  refine ⟨hpop, hz, ?_, pegL_len on, c0, c1, c2, c3, hns, hbd, ?_⟩
  · intro y hy
    rcases List.mem_or_eq_of_mem_set hy with hy | hy
    · simp only [List.mem_cons, List.not_mem_nil, or_false] at hy
      rcases hy with rfl | rfl | rfl
      · exact pegL_len (ns := [(i.val : Int), j.val, k.val, l.val]) 0
      · exact pegL_len (ns := [(i.val : Int), j.val, k.val, l.val]) 1
      · exact pegL_len (ns := [(i.val : Int), j.val, k.val, l.val]) 2
    · rw [hy]; exact pegL_len ot
  · have hN : ∀ p : Fin 3, pegL ([(i.val : Int), j.val, k.val, l.val].set (lvF i.val j.val k.val l.val on.val).toNat ot.val) p.val = pegF c0 c1 c2 c3 p.val := fun p => by
      have e9 : [(i.val : Int), j.val, k.val, l.val].set (lvF i.val j.val k.val l.val on.val).toNat ot.val = [c0, c1, c2, c3] := hns
      rw [e9]; rfl
    have hO : ∀ p : Fin 3, p ≠ on → p ≠ ot → pegF i.val j.val k.val l.val p.val = pegF c0 c1 c2 c3 p.val := fun p h1 h2 => (m3 p h1 h2).trans (hN p)
    clear m1 m2 m3 hX hY hns hBL hT hT' hTs hpop hz hlt hlt' h4 hne h0
    have hall : ∀ p : Fin 3, ([pegF i.val j.val k.val l.val 0, pegF i.val j.val k.val l.val 1, pegF i.val j.val k.val l.val 2] : List Str)[p.val]? = some (pegF i.val j.val k.val l.val p.val) := fun p => match p with
      | 0 => rfl
      | 1 => rfl
      | 2 => rfl
    have hall' : ∀ p : Fin 3, ([pegF c0 c1 c2 c3 0, pegF c0 c1 c2 c3 1, pegF c0 c1 c2 c3 2] : List Str)[p.val]? = some (pegF c0 c1 c2 c3 p.val) := fun p => match p with
      | 0 => rfl
      | 1 => rfl
      | 2 => rfl
    refine List.ext_getElem? fun q => ?_
    by_cases hq : q < 3
    · obtain ⟨p, rfl⟩ : ∃ p : Fin 3, q = p.val := ⟨⟨q, hq⟩, rfl⟩
      rw [hall' p, List.getElem?_set, List.getElem?_set]
      by_cases e1 : on.val = p.val
      · rw [if_pos e1, if_pos (by simp), hN on, e1]
      · rw [if_neg e1]
        by_cases e2 : ot.val = p.val
        · rw [if_pos e2, if_pos (by simp), hN ot, e2]
        · rw [if_neg e2, hall p]
          exact congrArg some (hO p (fun e => e1 (by rw [e])) (fun e => e2 (by rw [e])))
    · rw [List.getElem?_eq_none (by simp; omega), List.getElem?_eq_none (by simp; omega)]
end Mine
end
section
open PySem PySem.W PyProof.Rows Mine
set_option maxRecDepth 100000
set_option maxHeartbeats 400000000
namespace Mine
local macro_rules | `(tactic| k_all) => `(tactic| first | exact tailNe_all (by assumption) | exact tail_ne (by assumption) (by (try dsimp only); omega))
theorem home_c (w : World) (p : Addr) (n : Nat) (a0 a1 a2 a3 : Int) (t0 t1 t2 t3 : Tok) (ho : Int) (th : Tok) (dr : Int) (td : Tok) (b0 : 0 ≤ a0 ∧ a0 ≤ 2) (b1 : 0 ≤ a1 ∧ a1 ≤ 2) (b2 : 0 ≤ a2 ∧ a2 ≤ 2) (b3 : 0 ≤ a3 ∧ a3 ≤ 2) (bh : 0 ≤ ho ∧ ho ≤ 2) :
    CtS 3 w 146 [.ref p, .int ho th, .int dr td] [(p, listOf #[.int a0 t0, .int a1 t1, .int a2 t2, .int a3 t3] n)] (fun v new => new = [] ∧ v = .bool true) := by
  unfold CtS PG
  w_top off
  k_with_none
  (k_with "call ref" => (k_here; (with_reducible show wpAny _ _ (call (Value.ref 115) [Value.ref _, Value.int _ _, Value.int _ _]) _ _ _); (k_dflt (refine' Ct.useV (far_c _ _ _ _ _ _ _ _ _ _ _ _ _ _ _ ?zqz0 ?zqz4) ?zqB ?zqF ?zqX ?zqN ?zqT ?zqhp ?zqhk ?zqhd ?zqhu ?_; (case zqB => k_asm); (case zqF => k_asm); (case zqX => k_asm); (case zqN => k_asm); (case zqT => k_asm); (case zqhp => (refine mem_pre ?_; k_mem)); (case zqhk => first | exact rfl | assumption); (case zqhd => first | exact hRm1 | ktr_room); (case zqhu => first | exact hUn1 | ktr_units); (case zqz0 => omega); (case zqz4 => omega))); (intro t' h' tk' F' N'; (try k_sweep))))
  (k_with "call ref" => (k_here; (with_reducible show wpAny _ _ (call (Value.ref 127) [Value.ref _, Value.int _ _]) _ _ _); (k_dflt (refine' Ct.useV (listed_x _ _ _ _ _ _ _ _ _ _ _ _ _ _ ?zqbd ?zqpa) ?zqB ?zqF ?zqX ?zqN ?zqT ?zqhp ?zqhk ?zqhd ?zqhu ?_; (case zqB => k_asm); (case zqF => k_asm); (case zqX => k_asm); (case zqN => k_asm); (case zqT => k_asm); (case zqhp => (refine mem_pre ?_; k_mem)); (case zqhk => first | exact rfl | assumption); (case zqhd => first | exact hRm1 | ktr_room); (case zqhu => first | exact hUn1 | ktr_units); (case zqpa => with_reducible assumption); (case zqbd => exact ⟨by assumption, by assumption, by assumption, by assumption⟩))); (intro t' h' tk' F' N'; (try k_sweep))))
  (k_with "call ref" => (k_here; (with_reducible show wpAny _ _ (call (Value.ref 122) [Value.ref _]) _ _ _); (k_dflt (refine' Ct.useM3 (pegs_x _ _ _ _ _ _ _ _ _ _ _ _ _ _ ?zqpa) ?zqB ?zqF ?zqX ?zqN ?zqT ?zqhp ?zqhk ?zqhd ?zqhu ?_; (case zqB => k_asm); (case zqF => k_asm); (case zqX => k_asm); (case zqN => k_asm); (case zqT => k_asm); (case zqhp => (refine mem_pre ?_; k_mem)); (case zqhk => first | exact rfl | assumption); (case zqhd => first | exact hRm1 | ktr_room); (case zqhu => first | exact hUn1 | ktr_units); (case zqpa => with_reducible assumption))); (intro l' u0 u1 u2 h' tk' F' N' l2; (try k_lt l2); (try k_sweep))))
  (k_with "call ref" => (k_here; (with_reducible show wpAny _ _ (call (Value.ref 43) [Value.bytes (flB _ _ _ _ _) _]) _ _ _); (k_dflt (refine' Ct.useM4 (flags_x _ _ _ _ _ _ _ ?zqbd _ _ _ ?zqpa) ?zqB ?zqF ?zqX ?zqN ?zqT ?zqhp ?zqhk ?zqhd ?zqhu ?_; (case zqB => k_asm); (case zqF => k_asm); (case zqX => k_asm); (case zqN => k_asm); (case zqT => k_asm); (case zqhp => exact fun _ h => nomatch h); (case zqhk => first | exact rfl | assumption); (case zqhd => first | exact hRm1 | ktr_room); (case zqhu => first | exact hUn1 | ktr_units); (case zqpa => with_reducible assumption); (case zqbd => exact ⟨by assumption, by assumption, by assumption, by assumption⟩))); (intro l' u0 u1 u2 u3 h' tk' F' N' l2; (try k_lt l2); (try k_sweep))))
  (k_with "compareOp NotEq ref ref" => (k_here; (with_reducible show wpAny _ _ (compareOp CmpOp.NotEq (Value.ref _) (Value.ref _)) _ _ _); k_dflt (refine' ne_tuples (by k_asm) ?zqha ?zqhb ?zqal ?zqhu ?_; (case zqha => k_mem); (case zqhb => k_mem); (case zqal => (repeat' (first | exact AlikeAll.nil | exact Alike.bytes _ _ _ | exact Alike.str _ _ _ | exact Alike.int _ _ _ | refine AlikeAll.cons ?_ ?_))); (case zqhu => ktr_units))))
  (k_with "subscriptTail Name Name ref int" => (k_here; (with_reducible show wpAny _ _ (subscriptTail _ _ (Value.ref _) (Value.int _ _)) _ _ _); k_dflt (first | (refine' lst_item (by k_asm) ?zqhm ?zqh0 ?zqh1 ?zqhx ?_; (case zqhm => k_mem); (case zqh0 => decide); (case zqh1 => decide); (case zqhx => with_unfolding_all exact rfl)) | (refine' tup_item (by k_asm) ?zqhm ?zqh0 ?zqh1 ?zqhj ?zqhx ?_; (case zqhm => k_mem); (case zqh0 => decide); (case zqh1 => decide); (case zqhj => with_unfolding_all exact rfl); (case zqhx => with_unfolding_all exact rfl)))))
  (k_with "subscriptTail Name Constant ref int" => (k_here; (with_reducible show wpAny _ _ (subscriptTail _ _ (Value.ref _) (Value.int _ _)) _ _ _); k_dflt (first | (refine' lst_item (by k_asm) ?zqhm ?zqh0 ?zqh1 ?zqhx ?_; (case zqhm => k_mem); (case zqh0 => decide); (case zqh1 => decide); (case zqhx => with_unfolding_all exact rfl)) | (refine' tup_item (by k_asm) ?zqhm ?zqh0 ?zqh1 ?zqhj ?zqhx ?_; (case zqhm => k_mem); (case zqh0 => decide); (case zqh1 => decide); (case zqhj => with_unfolding_all exact rfl); (case zqhx => with_unfolding_all exact rfl)))))
  (k_with "subscriptTail Name Subscript ref int" => (k_here; (with_reducible show wpAny _ _ (subscriptTail _ _ (Value.ref _) (Value.int _ _)) _ _ _); k_dflt (first | (refine' lst_item (by k_asm) ?zqhm ?zqh0 ?zqh1 ?zqhx ?_; (case zqhm => k_mem); (case zqh0 => decide); (case zqh1 => decide); (case zqhx => with_unfolding_all exact rfl)) | (refine' tup_item (by k_asm) ?zqhm ?zqh0 ?zqh1 ?zqhj ?zqhx ?_; (case zqhm => k_mem); (case zqh0 => decide); (case zqh1 => decide); (case zqhj => with_unfolding_all exact rfl); (case zqhx => with_unfolding_all exact rfl)))))
  (k_with "eval ListComp Name cons" => (k_here; (with_reducible show wpAny _ _ (eval (Expr.ListComp _ _ _ _) _) _ _ _); lct_look; lcg_calm; (k_dflt (refine LCt.ListComp_T (F₀ := by k_asm) (by with_unfolding_all rfl) (by decide) (by rfl) (by decide) (by rfl) ?_))))
  (k_with "subscriptTail Name Name ref int" => (k_here; (with_reducible show wpAny _ _ (subscriptTail _ _ (Value.ref _) (Value.int _ _)) _ _ _); k_dflt (refine' ksa_sub (by k_asm) ?zqhm ?zqhi ?zqh0 ?zqh1 ?zqh2 ?_ ?zqh7; (case zqhm => k_mem); (case zqhi => with_reducible assumption); (case zqh0 => omega); (case zqh1 => (simp only [List.length_cons, List.length_nil]; omega)); (case zqh2 => omega); (case zqh7 => with_unfolding_all rfl)); intro _))
  (k_with "eval ListComp" => (k_here; (with_reducible show wpAny _ _ (eval (Expr.ListComp _ _ _ _) _) _ _ _); lcf_look; lcg_calm; (k_dflt (refine LCg.ListComp_U (F₀ := by k_asm) (by with_unfolding_all rfl) (by decide) (by rfl) (by decide) (by rfl) ?_)); k_dflt lcg_toSrc))
  (k_with "CompSrc" => (k_here; k_dflt (refine LCg.CompSrc.ledger (by rfl) (by k_asm) (by k_asm) (by k_mem) (by first | size_fits | exact Nat.le_of_ble_eq_true rfl) ?_; intro g'; lcg_lit)))
  (k_with "CompEnd" => (refine compEndM (by k_asm) (by assumption) (by (simp only [LCg.Off3, and_true]); assumption) (by first | lcg_src | (unfold LCg.SrcAt; lcg_src)) ?_))
  (k_with "getMethod str" => (k_here; (with_reducible show wpAny _ _ (getMethod (Value.str _ _) (Str.ofString "encode") _) _ _ _); refine encode_method ?_))
  (k_with "getMethod bytes" => (k_here; (with_reducible show wpAny _ _ (getMethod (Value.bytes _ _) (Str.ofString "decode") _) _ _ _); refine decode_method ?_))
  (k_with "call builtin:str.encode" => (k_here; (k_dflt (refine' encode_x ?zqok ?_; (case zqok => with_reducible assumption))); intro t' k'))
  (k_with "call builtin:bytes.decode" => (k_here; (k_dflt (refine' decode_x ?zqok ?_; (case zqok => with_reducible assumption))); intro t' k'))
  (k_with "exec For Name Call cons nil" => (k_here; (with_reducible show wpAny _ _ (exec (Stmt.For (Expr.Name (Str.ofString "left") _) _ _ [] _) _) _ _ _); (with_unfolding_all refine' For_home ?zqkB ?zqkT ?zqkX ?zqk1 ?zqk2 ?_ (hE := PassesOwn.never); (case zqkB => k_asm); (case zqkT => k_asm); (case zqkX => k_asm); (case zqk1 => exact rfl); (case zqk2 => exact rfl); k_whole)))
  (k_with "binaryOp FloorDiv int int" => (k_here; (with_reducible show wpAny _ _ (binaryOp _ (Value.int _ _) (Value.int (4 ^ Int.toNat _) _)) _ _ _); (with_reducible refine floordiv_int (pow4 ?zqkz0 ?zqkz1).1 ?_ (Or.inl (PyProof.noPylong_of_log2 (pow4 ?zqkz0 ?zqkz1).2))); (case zqkz0 => omega); (case zqkz1 => omega)))
  (k_with "call ref" => (k_here; (with_reducible show wpAny _ _ (call (Value.ref 50) [Value.str (_ ++ dressS _) _]) _ _ _); (k_dflt (refine' Ct.useV (strip_x _ _ _ ?zqok ?zqpe) ?zqB ?zqF ?zqX ?zqN ?zqT ?zqhp ?zqhk ?zqhd ?zqhu ?_; (case zqB => k_asm); (case zqF => k_asm); (case zqX => k_asm); (case zqN => k_asm); (case zqT => k_asm); (case zqhp => exact fun _ h => nomatch h); (case zqhk => first | exact rfl | assumption); (case zqhd => first | exact hRm1 | ktr_room); (case zqhu => first | exact hUn1 | ktr_units); (case zqok => with_reducible assumption); (case zqpe => with_reducible assumption))); (intro t' h' tk' F' N'; (try k_sweep))))
  (k_with "call ref" => (k_here; (with_reducible show wpAny _ _ (call (Value.ref 101) [Value.str (_ ++ feedS _) _]) _ _ _); (k_dflt (refine' Ct.useB (lib_x _ _ _ ?zqok ?zqpe) ?zqB ?zqF ?zqX ?zqN ?zqT ?zqhp ?zqhk ?zqhd ?zqhu ?_; (case zqB => k_asm); (case zqF => k_asm); (case zqX => k_asm); (case zqN => k_asm); (case zqT => k_asm); (case zqhp => exact fun _ h => nomatch h); (case zqhk => first | exact rfl | assumption); (case zqhd => first | exact hRm1 | ktr_room); (case zqhu => first | exact hUn1 | ktr_units); (case zqok => with_reducible assumption); (case zqpe => with_reducible assumption))); (intro h' tk' F' N'; (try k_sweep))))
  (k_with "call ref" => (k_here; (with_reducible show wpAny _ _ (call (Value.ref 101) [Value.str (_ ++ _ ++ _ ++ _) _]) _ _ _); (k_dflt (refine' Ct.useB (lib_z _ _ _ ?zqok ?zqpe) ?zqB ?zqF ?zqX ?zqN ?zqT ?zqhp ?zqhk ?zqhd ?zqhu ?_; (case zqB => k_asm); (case zqF => k_asm); (case zqX => k_asm); (case zqN => k_asm); (case zqT => k_asm); (case zqhp => exact fun _ h => nomatch h); (case zqhk => first | exact rfl | assumption); (case zqhd => first | exact hRm1 | ktr_room); (case zqhu => first | exact hUn1 | ktr_units); (case zqok => with_reducible assumption); (case zqpe => with_reducible assumption))); (intro h' tk' F' N'; (try k_sweep))))
  (k_with "call ref" => (k_here; (with_reducible show wpAny _ _ (call (Value.ref 115) [Value.ref _, Value.int _ _, Value.int _ _]) _ _ _); (k_dflt (refine' Ct.useF (far_w _ _ _ _ _ _ _ _ _ ?zqhi ?zqbd ?zqbh ?zqz0 ?zqz4) ?zqB ?zqF ?zqX ?zqN ?zqT ?zqhp ?zqhk ?zqhd ?zqhu ?_; (case zqB => k_asm); (case zqF => k_asm); (case zqX => k_asm); (case zqN => k_asm); (case zqT => k_asm); (case zqhp => (refine mem_pre ?_; k_mem)); (case zqhk => first | exact rfl | assumption); (case zqhd => first | exact hRm1 | ktr_room); (case zqhu => first | exact hUn1 | ktr_units); (case zqhi => with_reducible assumption); (case zqbd => first | with_reducible assumption | exact bdl_set (by with_reducible assumption) (by omega) (by omega)); (case zqbh => with_reducible assumption); (case zqz0 => omega); (case zqz4 => omega))); (intro x' t' h' tk' hx1 hx2 hx3 F' N'; (try k_sweep))))
  (k_with "subscriptTail List cons BinOp ref int" => (k_here; (with_reducible show wpAny _ _ (subscriptTail _ _ (Value.ref _) (Value.int (Int.fmod _ 4) _)) _ _ _); k_dflt (refine' itemD ?zqN ?zqm ?_; (case zqN => k_asm); (case zqm => k_mem)); intro t' hp9))
  (k_with "subscriptTail Name Name ref int" => (k_here; (with_reducible show wpAny _ _ (subscriptTail _ _ (Value.ref _) (Value.int _ _)) _ _ _); k_dflt (refine' str_atB (by k_asm) ?zqhm ?zqhw ?zqhb ?zqh0 ?zqh1 ?zqh2 ?_ ?zqh7; (case zqhm => k_mem); (case zqhw => with_reducible assumption); (case zqhb => with_reducible assumption); (case zqh0 => omega); (case zqh1 => (simp only [List.length_set, List.length_cons, List.length_nil]; omega)); (case zqh2 => omega); (case zqh7 => with_unfolding_all rfl)); intro t' hb9))
  (k_with "setItem ref int str" => (k_here; (with_reducible show wpAny _ _ (setItem (Value.ref _) (Value.int _ _) (Value.str _ _)) _ _ _); k_dflt (refine' set_str (by k_asm) (by k_asm) ?zqU ?zqhw ?zqh0 ?zqh1 ?zqh2 ?_; (case zqU => k_upd); (case zqhw => with_reducible assumption); (case zqh0 => omega); (case zqh1 => (simp only [List.length_set, List.length_cons, List.length_nil]; omega)); (case zqh2 => omega)); intro h' F' N' hs9; (try k_sweep)))
  (k_with "getMethod ref" => (k_here; (with_reducible show wpAny _ _ (getMethod (Value.ref 94) _ _) _ _ _); k_dflt (refine' get_search ?zqh ?_; (case zqh => exact frAt (by k_asm) (by k_asm) (by k_is)))))
  (k_with "call builtin:re.Pattern.search" => (k_here; k_dflt (refine' search_some ?zqF ?zqN ?zqa ?zqb ?zqc ?zqd ?_; (case zqd => with_reducible assumption); (case zqF => k_asm); (case zqN => k_asm); (case zqa => exact frAt (by k_asm) (by k_asm) (by k_is)); (case zqb => exact frAt (by k_asm) (by k_asm) (by k_is)); (case zqc => (simp only [Str.length_append]; omega))); intro mo tp h' F' N' l1 l2; (try k_lt l1); (try k_lt2 l2); (try k_sweep)))
  (k_with "call ref" => (k_here; (with_reducible show wpAny _ _ (call (Value.ref 89) [Value.ref _]) _ _ _); (k_dflt (refine' Ct.useU (unmatched_x _ _ _ ?zqhx _ _ _ _ ?zqhbe ?zqhes) ?zqB ?zqF ?zqX ?zqN ?zqT ?zqhp ?zqhk ?zqhd ?zqhu ?_; (case zqB => k_asm); (case zqF => k_asm); (case zqX => k_asm); (case zqN => k_asm); (case zqT => k_asm); (case zqhp => exact mem_pre2 (by k_mem) (by k_mem)); (case zqhk => first | exact rfl | assumption); (case zqhd => first | exact hRm1 | ktr_room); (case zqhu => first | exact hUn1 | ktr_units); (case zqhbe => with_reducible assumption); (case zqhes => with_reducible assumption); (case zqhx => (simp only [Str.length_append]; omega)))); (intro r' t' h' tk' hr9 hr8 F' N'; (try k_sweep))))
  (k_with "call ref" => (k_here; (with_reducible show wpAny _ _ (call (Value.ref 141) [Value.int _ _]) _ _ _); (k_dflt (refine' CtS.useH (halved_x _ _ _ ?zqh1 ?zqh2 ?zqhe) ?zqB ?zqF ?zqX ?zqN ?zqT ?zqXB ?zqTB ?zqD ?zqhp ?zqhk ?zqhd ?zqhu ?_; (case zqhe => with_reducible assumption); (case zqB => k_asm); (case zqF => k_asm); (case zqX => k_asm); (case zqN => k_asm); (case zqT => k_asm); (case zqXB => k_asm); (case zqTB => k_asm); (case zqD => k_asm); (case zqhp => exact fun _ h => nomatch h); (case zqhk => first | exact rfl | assumption); (case zqhd => first | exact hRm2 | ktr_room); (case zqhu => first | exact hUn2 | ktr_units); (case zqh1 => omega); (case zqh2 => omega))); (intro l' u0 u1 h₀' h' tk' T2' F' N' l2 B' X' P' D'; (try k_lt l2); (try k_sweep))))
  (k_with "compareOp NotEq ref ref" => (k_here; (with_reducible show wpAny _ _ (compareOp CmpOp.NotEq (Value.ref _) (Value.ref _)) _ _ _); k_dflt (refine' ne_list1 (by k_asm) ?zqha ?zqhb ?zqha2 ?zqhb2 ?zqal ?zqhne ?zqhu ?zqhu1 ?_; (case zqha => k_mem); (case zqhb => k_mem); (case zqha2 => k_mem); (case zqhb2 => k_mem); (case zqal => (repeat' (first | exact AlikeAll.nil | exact Alike.bytes _ _ _ | exact Alike.str _ _ _ | exact Alike.int _ _ _ | refine AlikeAll.cons ?_ ?_))); (case zqhne => k_ne); (case zqhu => ktr_units); (case zqhu1 => ktr_units))))
  (k_with "call builtin:str.join" => (k_here; (k_dflt (refine' join3 ?zqN ?zqm ?zqg ?zqa ?zqb ?zqc ?_; (case zqN => k_asm); (case zqm => k_mem); (case zqg => decide); (case zqa => with_reducible assumption); (case zqb => with_reducible assumption); (case zqc => with_reducible assumption))); intro t' k' hp9))
  (k_with "call builtin:str.encode" => (k_here; (k_dflt (refine' encode_b ?zqok ?_; (case zqok => with_reducible assumption))); intro t' k'))
  (k_with "call ref" => (k_here; (with_reducible show wpAny _ _ (call (Value.ref 43) [Value.bytes (encB _) _]) _ _ _); (k_dflt (refine' Ct.useM0 (pf_no _ _ _ ?zqnf) ?zqB ?zqF ?zqX ?zqN ?zqT ?zqhp ?zqhk ?zqhd ?zqhu ?_; (case zqB => k_asm); (case zqF => k_asm); (case zqX => k_asm); (case zqN => k_asm); (case zqT => k_asm); (case zqhp => exact fun _ h => nomatch h); (case zqhk => first | exact rfl | assumption); (case zqhd => first | exact hRm1 | ktr_room); (case zqhu => first | exact hUn1 | ktr_units); (case zqnf => with_reducible assumption))); (intro l' h' tk' F' N' l2; (try k_lt l2); (try k_sweep))))
  k_fill
  intro mean mg mb news dp un gd cn cs a ccd cl outer A₀ base h₀ L m s Q E hB hF hX hN hT hXB hTB hD hk hdp hu hret
  try dsimp only [List.nil_append, List.cons_append] at *
  obtain ⟨y0, y1, y2, hpa0, _, _, _⟩ := texts_of ⟨b0, b1, b2, b3⟩
  refine wpAny_call ?_
  k_dflt (refine' code_defSC ?k1 ?k2 ?k3 ?k4 ?k5 ?XB ?TB ?D ?T0 ?kA ?kF ?kK ?k6 ?k7 ?k8 ?k9 ?kB ?kD ?_ ?c2 ?c3 ?c4; (case kA => exact rfl); (case kF => exact rfl); (case kK => assumption); (case k1 => k_asm); (case k2 => k_asm); (case k3 => k_asm); (case k4 => k_asm); (case k5 => k_asm); (case XB => k_asm); (case TB => k_asm); (case D => k_asm); (case T0 => exact KtsTurn.refl); (case k6 => k_is); (case k7 => k_is); (case k8 => ktr_room); (case k9 => exact BindsTo.of_eq rfl); (case kB => exact rfl); (case kD => decide +kernel); (case c2 => exact rfl); (case c3 => exact rfl); (case c4 => exact rfl); k_whole; intro g' L' h' tk' cells' FG' F' N' Y' B' X' T' D' l1; (try k_lt l1); k_cells Y'; (try simp only [List.cons_append, List.nil_append] at N'); (try dsimp only); (try k_lift B'); (try k_fold))
  have hRm1 : dp + 1 + 8 < recursionLimit := by omega
  have hUn1 : un + 3 + 64 < cLine := by omega
  have hRm2 : dp + 1 + 8 * 2 < recursionLimit := by omega
  have hUn2 : un + 3 + 64 * 2 < cLine := by omega
  refine wpAny_mono (E := fun _ _ => False) (?_ : wpAny _ _ _ _ _ _) (fun _ _ h => h) (fun _ _ h => h.elim)
  refine hide_post fun Qh9 hQh9 => ?_
  k_steps
  have hft := far_nonneg a0 a1 a2 a3 ho b0 b1 b2 b3 bh
  (with_unfolding_all refine' turns_range (n := (farF a0 a1 a2 a3 ho 0 + 1).toNat) (h₀ := g') (fun i m nw => HInv L' news ho th dr td (farF a0 a1 a2 a3 ho 0 - (i : Nat)) m nw) (by rfl) (by assumption) (small_down (by omega) (by omega) (by omega) (by omega)) ?hn ?hG (by assumption) ?hN ?h0 ?step ?done)
  case hn => rw [rangeSize_downNat]; congr 1
  case hG => exact ⟨KtsTurn.refl, B', X', T', D'⟩
  case hN => k_asm
  case h0 =>
    clear hF hN FG'
    obtain ⟨rfl, rfl, rfl⟩ := hpa0
    have hz9 : farF a0 a1 a2 a3 ho 0 - ((0 : Nat) : Int) = farF a0 a1 a2 a3 ho 0 := by simp
    rw [hz9]
    refine fun C9 k9 => k9 p _ n a0 a1 a2 a3 t0 t1 t2 t3 _ _ _ _ _ _ _ _ _ _ rfl rfl rfl rfl (by assumption) (by assumption) (by assumption) (by assumption) b0 b1 b2 b3 (max1 hft.1).symm ?_ ?_ ?_
    · refine ⟨by k_ne, by k_ne, by k_ne, by k_ne, ?_⟩
      (repeat (with_reducible rename (_ ∧ _) => hc9; obtain ⟨_, _⟩ := hc9))
      exact tailNe_lt (by with_reducible assumption)
    · k_ne
    · exact ⟨by k_ne, by k_ne, by k_ne, by k_ne⟩
  case step =>
    clear B' X' T' D'
    (repeat (with_reducible rename Obj.data _ = _ => z; clear z))
    (repeat (with_reducible rename (_ < _) ∧ _ < _ ∧ _ < _ ∧ _ => z; clear z))
    (repeat (with_reducible rename IsRange _ _ _ _ _ _ _ _ => z; clear z))
    (repeat (with_reducible rename ∀ (b : Addr) (o : Obj), _ = _ → _ = _ => z; clear z))
    (repeat (rename News g' _ _ _ => z; clear z))
    (repeat (rename Fr g' _ _ _ => z; clear z))
    intro I i h₁ h tk tl m₁ news₁ hi hG' F' N' off hlt hJ
    refine wpAny_mono (E := fun _ _ => False) (?_ : wpAny _ _ _ (TurnPost _ _ _ _ _ _ _ _) _ _) (fun _ _ h => h) (fun _ _ h => h.elim)
    refine hide_post fun Qq9 hQ9 => ?_
    obtain ⟨KT', B', X', T', D'⟩ := hG'
    have hAL : LowTail L' news := l1.2
    obtain ⟨left, hlf⟩ : ∃ x, farF a0 a1 a2 a3 ho 0 - ((i : Nat) : Int) = x := ⟨_, rfl⟩
    (try rw [hlf] at hJ)
    (try rw [hlf] at F')
    (try rw [hlf] at N')
    (try rw [hlf] at hQ9)
    have hl0 : 0 ≤ left := by omega
    have hlf9 := hlf_next hlf
    clear hlf hi hft hB hF hX hN hT hD hret l1
    clear hpa0
    (repeat (with_reducible rename TxtOk _ => z; clear z))
    clear b0 b1 b2 b3
    refine hJ _ ?_
    clear hJ
    intro pl pg n' a0 a1 a2 a3 t0 t1 t2 t3 u0 u1 u2 o1 o2 o3 o4 v1 v2 v3 e9 m1 m2 m3 d1' d2' d3' d4' c0 c1 c2 c3 hleft l1 ne1 ne2
    subst e9
    replace F' := fr_lk [(Str.ofString "left", .int left tl), (Str.ofString "home", .int ho th), (Str.ofString "dress", .int dr td), (Str.ofString "pegs", .ref pg)] F' ⟨rfl, m1, m2, m3, trivial⟩
    dsimp only [ovl] at F'
    change Fr h₁ L' h _ at F'
    change News h₁ L' h _ at N'
    clear hlt
    obtain ⟨i1, i2, i3, i4, i5, i6, i7⟩ := off6 off
    clear off m1 m2 m3
    obtain ⟨pl1, pl2, pl3, pl4⟩ := ne2
    have hlb := far_nonneg a0 a1 a2 a3 ho c0 c1 c2 c3 bh
    replace hleft : farF a0 a1 a2 a3 ho 0 = left := by rw [hleft]; exact max1 hl0
    rw [hleft] at hlb
    replace hlb : left ≤ 15 := hlb.2
    obtain ⟨x0, x1, x2, hpa, ok0, ok1, ok2⟩ := texts_of ⟨c0, c1, c2, c3⟩
    replace N' := pegs_to hpa N'
    have N9 := gen_hd N'
    clear N'
    obtain ⟨itO, hitO, N'⟩ := N9
    refine cut_cps (g := h₁) (L := L') (fun h m C => ∀ (wy : Int) (tw : Tok), News h₁ L' h ((I, itO) :: (pg, listOf #[.str x0 u0, .str x1 u1, .str x2 u2] 3) :: (L' + 1 + 1 + 1 + 1, o1) :: (L' + 1 + 1 + 1, o2) :: (L' + 1 + 1, o3) :: (L' + 1, o4) :: (pl, listOf #[.int a0 t0, .int a1 t1, .int a2 t2, .int a3 t3] n') :: news) → LK m [(Str.ofString "way", .int wy tw), (Str.ofString "left", .int left tl), (Str.ofString "home", .int ho th), (Str.ofString "dress", .int dr td), (Str.ofString "pegs", .ref pg)] → C) ?js ?ks
    case js =>  -- cut 0
      intro Jq9 hJ9
      obtain ⟨go0, hg0⟩ : ∃ x, (listOf #[.str x0 u0, .str x1 u1, .str x2 u2] 3) = x := ⟨_, rfl⟩
      rw [hg0] at N'
      obtain ⟨go1, hg1⟩ : ∃ x, (listOf #[.int a0 t0, .int a1 t1, .int a2 t2, .int a3 t3] n') = x := ⟨_, rfl⟩
      rw [hg1] at N'
      k_steps
      all_goals (subst hg0; subst hg1; refine' hJ9 (by k_asm) (fun C9 k9 => k9 _ _ ?zqN ⟨rfl, rfl, rfl, rfl, rfl, trivial⟩); (case zqN => first | with_reducible assumption | (refine' cb_drop ?zqcbN ?zqcbS; (case zqcbN => with_reducible assumption); (case zqcbS => ((repeat (refine List.forall_mem_cons.mpr ⟨?_, ?_⟩; focus k_mem)); (repeat (first | exact fun _ h => h | refine sub_tail ?_)))))))
    case ks =>
    intro h tk m F' wy tw N' hlk
    try k_sweep
    try dsimp only
    refine cut_cps (g := h₁) (L := L') (fun h m C => ∀ (tf : Tok), News h₁ L' h ((I, itO) :: (pg, listOf #[.str x0 u0, .str x1 u1, .str x2 u2] 3) :: (L' + 1 + 1 + 1 + 1, o1) :: (L' + 1 + 1 + 1, o2) :: (L' + 1 + 1, o3) :: (L' + 1, o4) :: (pl, listOf #[.int a0 t0, .int a1 t1, .int a2 t2, .int a3 t3] n') :: news) → LK m [(Str.ofString "feed", .str (feedS wy) tf), (Str.ofString "way", .int wy tw), (Str.ofString "left", .int left tl), (Str.ofString "home", .int ho th), (Str.ofString "dress", .int dr td), (Str.ofString "pegs", .ref pg)] → C) ?js ?ks
    case js =>  -- cut 1
      intro Jq9 hJ9
      replace F' := fr_lk [(Str.ofString "way", .int wy tw)] F' ⟨hlk.1, trivial⟩
      dsimp only [ovl] at F'
      obtain ⟨go0, hg0⟩ : ∃ x, (listOf #[.str x0 u0, .str x1 u1, .str x2 u2] 3) = x := ⟨_, rfl⟩
      rw [hg0] at N'
      obtain ⟨go1, hg1⟩ : ∃ x, (listOf #[.int a0 t0, .int a1 t1, .int a2 t2, .int a3 t3] n') = x := ⟨_, rfl⟩
      rw [hg1] at N'
      k_steps
      all_goals (first | rw [feed_a (by assumption)] at hJ9 | rw [feed_b (by assumption)] at hJ9)
      all_goals (subst hg0; subst hg1; refine' hJ9 (by k_asm) (fun C9 k9 => k9 _ ?zqN ⟨rfl, rfl, ?zqL2, ?zqL3, ?zqL4, ?zqL5, trivial⟩); (case zqL2 => exact hlk.2.1); (case zqL3 => exact hlk.2.2.1); (case zqL4 => exact hlk.2.2.2.1); (case zqL5 => exact hlk.2.2.2.2.1); (case zqN => first | with_reducible assumption | (refine' cb_drop ?zqcbN ?zqcbS; (case zqcbN => with_reducible assumption); (case zqcbS => ((repeat (refine List.forall_mem_cons.mpr ⟨?_, ?_⟩; focus k_mem)); (repeat (first | exact fun _ h => h | refine sub_tail ?_)))))))
    case ks =>
    clear hlk
    intro h tk m F' tf N' hlk
    try k_sweep
    try dsimp only
    refine cut_cps (g := h₁) (L := L') (fun h m C => ∀ (tp : Addr) (f0 f1 f2 f3 : Tok) (oF : Obj), News h₁ L' h ((tp, tupOf #[.bytes (encB x2) f0, .bytes (encB x1) f1, .bytes (encB x0) f2, .bytes (encB x2) f3]) :: (I, itO) :: (pg, listOf #[.str x0 u0, .str x1 u1, .str x2 u2] 3) :: (L' + 1 + 1 + 1 + 1, o1) :: (L' + 1 + 1 + 1, o2) :: (L' + 1 + 1, oF) :: (L' + 1, o4) :: (pl, listOf #[.int a0 t0, .int a1 t1, .int a2 t2, .int a3 t3] n') :: news) → LK m [(Str.ofString "feed", .str (feedS wy) tf), (Str.ofString "way", .int wy tw), (Str.ofString "left", .int left tl), (Str.ofString "home", .int ho th), (Str.ofString "dress", .int dr td), (Str.ofString "pegs", .ref pg)] → oF.data = .cell (some (.ref tp)) → (@Ne Nat (I) tp) → (@Ne Nat (pg) tp) → (@Ne Nat (L' + 1 + 1 + 1 + 1) tp) → (@Ne Nat (L' + 1 + 1 + 1) tp) → (@Ne Nat (L' + 1 + 1) tp) → (@Ne Nat (L' + 1) tp) → (@Ne Nat (pl) tp) → TailNe tp news → C) ?js ?ks
    case js =>  -- cut 2
      intro Jq9 hJ9
      replace F' := fr_lk [(Str.ofString "way", .int wy tw), (Str.ofString "pegs", .ref pg)] F' ⟨hlk.2.1, hlk.2.2.2.2.2.1, trivial⟩
      dsimp only [ovl] at F'
      obtain ⟨go0, hg0⟩ : ∃ x, (listOf #[.int a0 t0, .int a1 t1, .int a2 t2, .int a3 t3] n') = x := ⟨_, rfl⟩
      rw [hg0] at N'
      k_steps
      all_goals (subst hg0; refine' hJ9 (by k_asm) (fun C9 k9 => k9 _ _ _ _ _ _ ?zqN ⟨?zqL0, rfl, ?zqL2, ?zqL3, ?zqL4, rfl, trivial⟩ ?zqA0 ?zqA1 ?zqA2 ?zqA3 ?zqA4 ?zqA5 ?zqA6 ?zqA7 ?zqA8); (case zqL0 => exact hlk.1); (case zqL2 => exact hlk.2.2.1); (case zqL3 => exact hlk.2.2.2.1); (case zqL4 => exact hlk.2.2.2.2.1); (case zqN => first | with_reducible assumption | (refine' cb_drop ?zqcbN ?zqcbS; (case zqcbN => with_reducible assumption); (case zqcbS => ((repeat (refine List.forall_mem_cons.mpr ⟨?_, ?_⟩; focus k_mem)); (repeat (first | exact fun _ h => h | refine sub_tail ?_)))))); (case zqA0 => (first | with_reducible assumption | ((repeat' (first | with_reducible assumption | (with_reducible refine And.intro ?_ ?_) | (with_reducible exact tailNe_lt (by assumption)) | (with_reducible exact tailNe_off (by assumption)) | (exact tailNe_cl (by with_reducible assumption) (by walk_at "pick8")) | (exact tailNe_cn (by with_reducible assumption) (by walk_at "pick8")) | k_ne)); done) | ((repeat (with_reducible rename (_ ∧ _) => hc9; obtain ⟨_, _⟩ := hc9)); (repeat' (first | with_reducible assumption | exact tailNe_lt (by with_reducible assumption) | exact tailNe_off (by with_reducible assumption) | (with_reducible refine And.intro ?_ ?_) | omega))))); (case zqA1 => (first | with_reducible assumption | ((repeat' (first | with_reducible assumption | (with_reducible refine And.intro ?_ ?_) | (with_reducible exact tailNe_lt (by assumption)) | (with_reducible exact tailNe_off (by assumption)) | (exact tailNe_cl (by with_reducible assumption) (by walk_at "pick8")) | (exact tailNe_cn (by with_reducible assumption) (by walk_at "pick8")) | k_ne)); done) | ((repeat (with_reducible rename (_ ∧ _) => hc9; obtain ⟨_, _⟩ := hc9)); (repeat' (first | with_reducible assumption | exact tailNe_lt (by with_reducible assumption) | exact tailNe_off (by with_reducible assumption) | (with_reducible refine And.intro ?_ ?_) | omega))))); (case zqA2 => (first | with_reducible assumption | ((repeat' (first | with_reducible assumption | (with_reducible refine And.intro ?_ ?_) | (with_reducible exact tailNe_lt (by assumption)) | (with_reducible exact tailNe_off (by assumption)) | (exact tailNe_cl (by with_reducible assumption) (by walk_at "pick8")) | (exact tailNe_cn (by with_reducible assumption) (by walk_at "pick8")) | k_ne)); done) | ((repeat (with_reducible rename (_ ∧ _) => hc9; obtain ⟨_, _⟩ := hc9)); (repeat' (first | with_reducible assumption | exact tailNe_lt (by with_reducible assumption) | exact tailNe_off (by with_reducible assumption) | (with_reducible refine And.intro ?_ ?_) | omega))))); (case zqA3 => (first | with_reducible assumption | ((repeat' (first | with_reducible assumption | (with_reducible refine And.intro ?_ ?_) | (with_reducible exact tailNe_lt (by assumption)) | (with_reducible exact tailNe_off (by assumption)) | (exact tailNe_cl (by with_reducible assumption) (by walk_at "pick8")) | (exact tailNe_cn (by with_reducible assumption) (by walk_at "pick8")) | k_ne)); done) | ((repeat (with_reducible rename (_ ∧ _) => hc9; obtain ⟨_, _⟩ := hc9)); (repeat' (first | with_reducible assumption | exact tailNe_lt (by with_reducible assumption) | exact tailNe_off (by with_reducible assumption) | (with_reducible refine And.intro ?_ ?_) | omega))))); (case zqA4 => (first | with_reducible assumption | ((repeat' (first | with_reducible assumption | (with_reducible refine And.intro ?_ ?_) | (with_reducible exact tailNe_lt (by assumption)) | (with_reducible exact tailNe_off (by assumption)) | (exact tailNe_cl (by with_reducible assumption) (by walk_at "pick8")) | (exact tailNe_cn (by with_reducible assumption) (by walk_at "pick8")) | k_ne)); done) | ((repeat (with_reducible rename (_ ∧ _) => hc9; obtain ⟨_, _⟩ := hc9)); (repeat' (first | with_reducible assumption | exact tailNe_lt (by with_reducible assumption) | exact tailNe_off (by with_reducible assumption) | (with_reducible refine And.intro ?_ ?_) | omega))))); (case zqA5 => (first | with_reducible assumption | ((repeat' (first | with_reducible assumption | (with_reducible refine And.intro ?_ ?_) | (with_reducible exact tailNe_lt (by assumption)) | (with_reducible exact tailNe_off (by assumption)) | (exact tailNe_cl (by with_reducible assumption) (by walk_at "pick8")) | (exact tailNe_cn (by with_reducible assumption) (by walk_at "pick8")) | k_ne)); done) | ((repeat (with_reducible rename (_ ∧ _) => hc9; obtain ⟨_, _⟩ := hc9)); (repeat' (first | with_reducible assumption | exact tailNe_lt (by with_reducible assumption) | exact tailNe_off (by with_reducible assumption) | (with_reducible refine And.intro ?_ ?_) | omega))))); (case zqA6 => (first | with_reducible assumption | ((repeat' (first | with_reducible assumption | (with_reducible refine And.intro ?_ ?_) | (with_reducible exact tailNe_lt (by assumption)) | (with_reducible exact tailNe_off (by assumption)) | (exact tailNe_cl (by with_reducible assumption) (by walk_at "pick8")) | (exact tailNe_cn (by with_reducible assumption) (by walk_at "pick8")) | k_ne)); done) | ((repeat (with_reducible rename (_ ∧ _) => hc9; obtain ⟨_, _⟩ := hc9)); (repeat' (first | with_reducible assumption | exact tailNe_lt (by with_reducible assumption) | exact tailNe_off (by with_reducible assumption) | (with_reducible refine And.intro ?_ ?_) | omega))))); (case zqA7 => (first | with_reducible assumption | ((repeat' (first | with_reducible assumption | (with_reducible refine And.intro ?_ ?_) | (with_reducible exact tailNe_lt (by assumption)) | (with_reducible exact tailNe_off (by assumption)) | (exact tailNe_cl (by with_reducible assumption) (by walk_at "pick8")) | (exact tailNe_cn (by with_reducible assumption) (by walk_at "pick8")) | k_ne)); done) | ((repeat (with_reducible rename (_ ∧ _) => hc9; obtain ⟨_, _⟩ := hc9)); (repeat' (first | with_reducible assumption | exact tailNe_lt (by with_reducible assumption) | exact tailNe_off (by with_reducible assumption) | (with_reducible refine And.intro ?_ ?_) | omega))))); (case zqA8 => (first | with_reducible assumption | ((repeat' (first | with_reducible assumption | (with_reducible refine And.intro ?_ ?_) | (with_reducible exact tailNe_lt (by assumption)) | (with_reducible exact tailNe_off (by assumption)) | (exact tailNe_cl (by with_reducible assumption) (by walk_at "pick8")) | (exact tailNe_cn (by with_reducible assumption) (by walk_at "pick8")) | k_ne)); done) | ((repeat (with_reducible rename (_ ∧ _) => hc9; obtain ⟨_, _⟩ := hc9)); (repeat' (first | with_reducible assumption | exact tailNe_lt (by with_reducible assumption) | exact tailNe_off (by with_reducible assumption) | (with_reducible refine And.intro ?_ ?_) | omega))))))
    case ks =>
    clear hlk
    intro h tk m F' tp f0 f1 f2 f3 oF N' hlk dF lF_0 lF_1 lF_2 lF_3 lF_4 lF_5 lF_6 lF_7
    try k_sweep
    try dsimp only
    refine cut_cps (g := h₁) (L := L') (fun h m C => ∀ (dl : Addr) (w0 w1 w2 : Tok) (oD : Obj), News h₁ L' h ((dl, listOf #[.str x0 w0, .str x1 w1, .str x2 w2] 3) :: (tp, tupOf #[.bytes (encB x2) f0, .bytes (encB x1) f1, .bytes (encB x0) f2, .bytes (encB x2) f3]) :: (I, itO) :: (pg, listOf #[.str x0 u0, .str x1 u1, .str x2 u2] 3) :: (L' + 1 + 1 + 1 + 1, o1) :: (L' + 1 + 1 + 1, oD) :: (L' + 1 + 1, oF) :: (L' + 1, o4) :: (pl, listOf #[.int a0 t0, .int a1 t1, .int a2 t2, .int a3 t3] n') :: news) → LK m [(Str.ofString "feed", .str (feedS wy) tf), (Str.ofString "way", .int wy tw), (Str.ofString "left", .int left tl), (Str.ofString "home", .int ho th), (Str.ofString "dress", .int dr td), (Str.ofString "pegs", .ref pg)] → oD.data = .cell (some (.ref dl)) → (@Ne Nat (tp) dl) → (@Ne Nat (I) dl) → (@Ne Nat (pg) dl) → (@Ne Nat (L' + 1 + 1 + 1 + 1) dl) → (@Ne Nat (L' + 1 + 1 + 1) dl) → (@Ne Nat (L' + 1 + 1) dl) → (@Ne Nat (L' + 1) dl) → (@Ne Nat (pl) dl) → TailNe dl news → C) ?js ?ks
    case js =>  -- cut 3
      intro Jq9 hJ9
      replace F' := fr_lk [(Str.ofString "left", .int left tl), (Str.ofString "home", .int ho th)] F' ⟨hlk.2.2.1, hlk.2.2.2.1, trivial⟩
      dsimp only [ovl] at F'
      obtain ⟨go0, hg0⟩ : ∃ x, (listOf #[.str x0 u0, .str x1 u1, .str x2 u2] 3) = x := ⟨_, rfl⟩
      rw [hg0] at N'
      obtain ⟨go1, hg1⟩ : ∃ x, (tupOf #[.bytes (encB x2) f0, .bytes (encB x1) f1, .bytes (encB x0) f2, .bytes (encB x2) f3]) = x := ⟨_, rfl⟩
      rw [hg1] at N'
      rcases Int.lt_or_le 0 left with hq9 | hq9
      rotate_left
      focus (obtain ⟨e9, e8, e7, e6⟩ := far_zero c0 c1 c2 c3 bh (by rw [hleft]; exact hq9); subst e9 e8 e7 e6; k_steps; all_goals (subst hg0; subst hg1; refine' hJ9 (by k_asm) (fun C9 k9 => k9 _ _ _ _ _ ?zqN ⟨?zqL0, ?zqL1, rfl, rfl, ?zqL4, ?zqL5, trivial⟩ ?zqA0 ?zqA1 ?zqA2 ?zqA3 ?zqA4 ?zqA5 ?zqA6 ?zqA7 ?zqA8 ?zqA9); (case zqL0 => exact hlk.1); (case zqL1 => exact hlk.2.1); (case zqL4 => exact hlk.2.2.2.2.1); (case zqL5 => exact hlk.2.2.2.2.2.1); (case zqN => first | with_reducible assumption | (refine' cb_drop ?zqcbN ?zqcbS; (case zqcbN => with_reducible assumption); (case zqcbS => ((repeat (refine List.forall_mem_cons.mpr ⟨?_, ?_⟩; focus k_mem)); (repeat (first | exact fun _ h => h | refine sub_tail ?_)))))); (case zqA0 => (first | with_reducible assumption | ((repeat' (first | with_reducible assumption | (with_reducible refine And.intro ?_ ?_) | (with_reducible exact tailNe_lt (by assumption)) | (with_reducible exact tailNe_off (by assumption)) | (exact tailNe_cl (by with_reducible assumption) (by walk_at "pick8")) | (exact tailNe_cn (by with_reducible assumption) (by walk_at "pick8")) | k_ne)); done) | ((repeat (with_reducible rename (_ ∧ _) => hc9; obtain ⟨_, _⟩ := hc9)); (repeat' (first | with_reducible assumption | exact tailNe_lt (by with_reducible assumption) | exact tailNe_off (by with_reducible assumption) | (with_reducible refine And.intro ?_ ?_) | omega))))); (case zqA1 => (first | with_reducible assumption | ((repeat' (first | with_reducible assumption | (with_reducible refine And.intro ?_ ?_) | (with_reducible exact tailNe_lt (by assumption)) | (with_reducible exact tailNe_off (by assumption)) | (exact tailNe_cl (by with_reducible assumption) (by walk_at "pick8")) | (exact tailNe_cn (by with_reducible assumption) (by walk_at "pick8")) | k_ne)); done) | ((repeat (with_reducible rename (_ ∧ _) => hc9; obtain ⟨_, _⟩ := hc9)); (repeat' (first | with_reducible assumption | exact tailNe_lt (by with_reducible assumption) | exact tailNe_off (by with_reducible assumption) | (with_reducible refine And.intro ?_ ?_) | omega))))); (case zqA2 => (first | with_reducible assumption | ((repeat' (first | with_reducible assumption | (with_reducible refine And.intro ?_ ?_) | (with_reducible exact tailNe_lt (by assumption)) | (with_reducible exact tailNe_off (by assumption)) | (exact tailNe_cl (by with_reducible assumption) (by walk_at "pick8")) | (exact tailNe_cn (by with_reducible assumption) (by walk_at "pick8")) | k_ne)); done) | ((repeat (with_reducible rename (_ ∧ _) => hc9; obtain ⟨_, _⟩ := hc9)); (repeat' (first | with_reducible assumption | exact tailNe_lt (by with_reducible assumption) | exact tailNe_off (by with_reducible assumption) | (with_reducible refine And.intro ?_ ?_) | omega))))); (case zqA3 => (first | with_reducible assumption | ((repeat' (first | with_reducible assumption | (with_reducible refine And.intro ?_ ?_) | (with_reducible exact tailNe_lt (by assumption)) | (with_reducible exact tailNe_off (by assumption)) | (exact tailNe_cl (by with_reducible assumption) (by walk_at "pick8")) | (exact tailNe_cn (by with_reducible assumption) (by walk_at "pick8")) | k_ne)); done) | ((repeat (with_reducible rename (_ ∧ _) => hc9; obtain ⟨_, _⟩ := hc9)); (repeat' (first | with_reducible assumption | exact tailNe_lt (by with_reducible assumption) | exact tailNe_off (by with_reducible assumption) | (with_reducible refine And.intro ?_ ?_) | omega))))); (case zqA4 => (first | with_reducible assumption | ((repeat' (first | with_reducible assumption | (with_reducible refine And.intro ?_ ?_) | (with_reducible exact tailNe_lt (by assumption)) | (with_reducible exact tailNe_off (by assumption)) | (exact tailNe_cl (by with_reducible assumption) (by walk_at "pick8")) | (exact tailNe_cn (by with_reducible assumption) (by walk_at "pick8")) | k_ne)); done) | ((repeat (with_reducible rename (_ ∧ _) => hc9; obtain ⟨_, _⟩ := hc9)); (repeat' (first | with_reducible assumption | exact tailNe_lt (by with_reducible assumption) | exact tailNe_off (by with_reducible assumption) | (with_reducible refine And.intro ?_ ?_) | omega))))); (case zqA5 => (first | with_reducible assumption | ((repeat' (first | with_reducible assumption | (with_reducible refine And.intro ?_ ?_) | (with_reducible exact tailNe_lt (by assumption)) | (with_reducible exact tailNe_off (by assumption)) | (exact tailNe_cl (by with_reducible assumption) (by walk_at "pick8")) | (exact tailNe_cn (by with_reducible assumption) (by walk_at "pick8")) | k_ne)); done) | ((repeat (with_reducible rename (_ ∧ _) => hc9; obtain ⟨_, _⟩ := hc9)); (repeat' (first | with_reducible assumption | exact tailNe_lt (by with_reducible assumption) | exact tailNe_off (by with_reducible assumption) | (with_reducible refine And.intro ?_ ?_) | omega))))); (case zqA6 => (first | with_reducible assumption | ((repeat' (first | with_reducible assumption | (with_reducible refine And.intro ?_ ?_) | (with_reducible exact tailNe_lt (by assumption)) | (with_reducible exact tailNe_off (by assumption)) | (exact tailNe_cl (by with_reducible assumption) (by walk_at "pick8")) | (exact tailNe_cn (by with_reducible assumption) (by walk_at "pick8")) | k_ne)); done) | ((repeat (with_reducible rename (_ ∧ _) => hc9; obtain ⟨_, _⟩ := hc9)); (repeat' (first | with_reducible assumption | exact tailNe_lt (by with_reducible assumption) | exact tailNe_off (by with_reducible assumption) | (with_reducible refine And.intro ?_ ?_) | omega))))); (case zqA7 => (first | with_reducible assumption | ((repeat' (first | with_reducible assumption | (with_reducible refine And.intro ?_ ?_) | (with_reducible exact tailNe_lt (by assumption)) | (with_reducible exact tailNe_off (by assumption)) | (exact tailNe_cl (by with_reducible assumption) (by walk_at "pick8")) | (exact tailNe_cn (by with_reducible assumption) (by walk_at "pick8")) | k_ne)); done) | ((repeat (with_reducible rename (_ ∧ _) => hc9; obtain ⟨_, _⟩ := hc9)); (repeat' (first | with_reducible assumption | exact tailNe_lt (by with_reducible assumption) | exact tailNe_off (by with_reducible assumption) | (with_reducible refine And.intro ?_ ?_) | omega))))); (case zqA8 => (first | with_reducible assumption | ((repeat' (first | with_reducible assumption | (with_reducible refine And.intro ?_ ?_) | (with_reducible exact tailNe_lt (by assumption)) | (with_reducible exact tailNe_off (by assumption)) | (exact tailNe_cl (by with_reducible assumption) (by walk_at "pick8")) | (exact tailNe_cn (by with_reducible assumption) (by walk_at "pick8")) | k_ne)); done) | ((repeat (with_reducible rename (_ ∧ _) => hc9; obtain ⟨_, _⟩ := hc9)); (repeat' (first | with_reducible assumption | exact tailNe_lt (by with_reducible assumption) | exact tailNe_off (by with_reducible assumption) | (with_reducible refine And.intro ?_ ?_) | omega))))); (case zqA9 => (first | with_reducible assumption | ((repeat' (first | with_reducible assumption | (with_reducible refine And.intro ?_ ?_) | (with_reducible exact tailNe_lt (by assumption)) | (with_reducible exact tailNe_off (by assumption)) | (exact tailNe_cl (by with_reducible assumption) (by walk_at "pick8")) | (exact tailNe_cn (by with_reducible assumption) (by walk_at "pick8")) | k_ne)); done) | ((repeat (with_reducible rename (_ ∧ _) => hc9; obtain ⟨_, _⟩ := hc9)); (repeat' (first | with_reducible assumption | exact tailNe_lt (by with_reducible assumption) | exact tailNe_off (by with_reducible assumption) | (with_reducible refine And.intro ?_ ?_) | omega)))))))
      k_steps
      all_goals (subst hg0; subst hg1; refine' hJ9 (by k_asm) (fun C9 k9 => k9 _ _ _ _ _ ?zqN ⟨?zqL0, ?zqL1, rfl, rfl, ?zqL4, ?zqL5, trivial⟩ ?zqA0 ?zqA1 ?zqA2 ?zqA3 ?zqA4 ?zqA5 ?zqA6 ?zqA7 ?zqA8 ?zqA9); (case zqL0 => exact hlk.1); (case zqL1 => exact hlk.2.1); (case zqL4 => exact hlk.2.2.2.2.1); (case zqL5 => exact hlk.2.2.2.2.2.1); (case zqN => first | with_reducible assumption | (refine' cb_drop ?zqcbN ?zqcbS; (case zqcbN => with_reducible assumption); (case zqcbS => ((repeat (refine List.forall_mem_cons.mpr ⟨?_, ?_⟩; focus k_mem)); (repeat (first | exact fun _ h => h | refine sub_tail ?_)))))); (case zqA0 => (first | with_reducible assumption | ((repeat' (first | with_reducible assumption | (with_reducible refine And.intro ?_ ?_) | (with_reducible exact tailNe_lt (by assumption)) | (with_reducible exact tailNe_off (by assumption)) | (exact tailNe_cl (by with_reducible assumption) (by walk_at "pick8")) | (exact tailNe_cn (by with_reducible assumption) (by walk_at "pick8")) | k_ne)); done) | ((repeat (with_reducible rename (_ ∧ _) => hc9; obtain ⟨_, _⟩ := hc9)); (repeat' (first | with_reducible assumption | exact tailNe_lt (by with_reducible assumption) | exact tailNe_off (by with_reducible assumption) | (with_reducible refine And.intro ?_ ?_) | omega))))); (case zqA1 => (first | with_reducible assumption | ((repeat' (first | with_reducible assumption | (with_reducible refine And.intro ?_ ?_) | (with_reducible exact tailNe_lt (by assumption)) | (with_reducible exact tailNe_off (by assumption)) | (exact tailNe_cl (by with_reducible assumption) (by walk_at "pick8")) | (exact tailNe_cn (by with_reducible assumption) (by walk_at "pick8")) | k_ne)); done) | ((repeat (with_reducible rename (_ ∧ _) => hc9; obtain ⟨_, _⟩ := hc9)); (repeat' (first | with_reducible assumption | exact tailNe_lt (by with_reducible assumption) | exact tailNe_off (by with_reducible assumption) | (with_reducible refine And.intro ?_ ?_) | omega))))); (case zqA2 => (first | with_reducible assumption | ((repeat' (first | with_reducible assumption | (with_reducible refine And.intro ?_ ?_) | (with_reducible exact tailNe_lt (by assumption)) | (with_reducible exact tailNe_off (by assumption)) | (exact tailNe_cl (by with_reducible assumption) (by walk_at "pick8")) | (exact tailNe_cn (by with_reducible assumption) (by walk_at "pick8")) | k_ne)); done) | ((repeat (with_reducible rename (_ ∧ _) => hc9; obtain ⟨_, _⟩ := hc9)); (repeat' (first | with_reducible assumption | exact tailNe_lt (by with_reducible assumption) | exact tailNe_off (by with_reducible assumption) | (with_reducible refine And.intro ?_ ?_) | omega))))); (case zqA3 => (first | with_reducible assumption | ((repeat' (first | with_reducible assumption | (with_reducible refine And.intro ?_ ?_) | (with_reducible exact tailNe_lt (by assumption)) | (with_reducible exact tailNe_off (by assumption)) | (exact tailNe_cl (by with_reducible assumption) (by walk_at "pick8")) | (exact tailNe_cn (by with_reducible assumption) (by walk_at "pick8")) | k_ne)); done) | ((repeat (with_reducible rename (_ ∧ _) => hc9; obtain ⟨_, _⟩ := hc9)); (repeat' (first | with_reducible assumption | exact tailNe_lt (by with_reducible assumption) | exact tailNe_off (by with_reducible assumption) | (with_reducible refine And.intro ?_ ?_) | omega))))); (case zqA4 => (first | with_reducible assumption | ((repeat' (first | with_reducible assumption | (with_reducible refine And.intro ?_ ?_) | (with_reducible exact tailNe_lt (by assumption)) | (with_reducible exact tailNe_off (by assumption)) | (exact tailNe_cl (by with_reducible assumption) (by walk_at "pick8")) | (exact tailNe_cn (by with_reducible assumption) (by walk_at "pick8")) | k_ne)); done) | ((repeat (with_reducible rename (_ ∧ _) => hc9; obtain ⟨_, _⟩ := hc9)); (repeat' (first | with_reducible assumption | exact tailNe_lt (by with_reducible assumption) | exact tailNe_off (by with_reducible assumption) | (with_reducible refine And.intro ?_ ?_) | omega))))); (case zqA5 => (first | with_reducible assumption | ((repeat' (first | with_reducible assumption | (with_reducible refine And.intro ?_ ?_) | (with_reducible exact tailNe_lt (by assumption)) | (with_reducible exact tailNe_off (by assumption)) | (exact tailNe_cl (by with_reducible assumption) (by walk_at "pick8")) | (exact tailNe_cn (by with_reducible assumption) (by walk_at "pick8")) | k_ne)); done) | ((repeat (with_reducible rename (_ ∧ _) => hc9; obtain ⟨_, _⟩ := hc9)); (repeat' (first | with_reducible assumption | exact tailNe_lt (by with_reducible assumption) | exact tailNe_off (by with_reducible assumption) | (with_reducible refine And.intro ?_ ?_) | omega))))); (case zqA6 => (first | with_reducible assumption | ((repeat' (first | with_reducible assumption | (with_reducible refine And.intro ?_ ?_) | (with_reducible exact tailNe_lt (by assumption)) | (with_reducible exact tailNe_off (by assumption)) | (exact tailNe_cl (by with_reducible assumption) (by walk_at "pick8")) | (exact tailNe_cn (by with_reducible assumption) (by walk_at "pick8")) | k_ne)); done) | ((repeat (with_reducible rename (_ ∧ _) => hc9; obtain ⟨_, _⟩ := hc9)); (repeat' (first | with_reducible assumption | exact tailNe_lt (by with_reducible assumption) | exact tailNe_off (by with_reducible assumption) | (with_reducible refine And.intro ?_ ?_) | omega))))); (case zqA7 => (first | with_reducible assumption | ((repeat' (first | with_reducible assumption | (with_reducible refine And.intro ?_ ?_) | (with_reducible exact tailNe_lt (by assumption)) | (with_reducible exact tailNe_off (by assumption)) | (exact tailNe_cl (by with_reducible assumption) (by walk_at "pick8")) | (exact tailNe_cn (by with_reducible assumption) (by walk_at "pick8")) | k_ne)); done) | ((repeat (with_reducible rename (_ ∧ _) => hc9; obtain ⟨_, _⟩ := hc9)); (repeat' (first | with_reducible assumption | exact tailNe_lt (by with_reducible assumption) | exact tailNe_off (by with_reducible assumption) | (with_reducible refine And.intro ?_ ?_) | omega))))); (case zqA8 => (first | with_reducible assumption | ((repeat' (first | with_reducible assumption | (with_reducible refine And.intro ?_ ?_) | (with_reducible exact tailNe_lt (by assumption)) | (with_reducible exact tailNe_off (by assumption)) | (exact tailNe_cl (by with_reducible assumption) (by walk_at "pick8")) | (exact tailNe_cn (by with_reducible assumption) (by walk_at "pick8")) | k_ne)); done) | ((repeat (with_reducible rename (_ ∧ _) => hc9; obtain ⟨_, _⟩ := hc9)); (repeat' (first | with_reducible assumption | exact tailNe_lt (by with_reducible assumption) | exact tailNe_off (by with_reducible assumption) | (with_reducible refine And.intro ?_ ?_) | omega))))); (case zqA9 => (first | with_reducible assumption | ((repeat' (first | with_reducible assumption | (with_reducible refine And.intro ?_ ?_) | (with_reducible exact tailNe_lt (by assumption)) | (with_reducible exact tailNe_off (by assumption)) | (exact tailNe_cl (by with_reducible assumption) (by walk_at "pick8")) | (exact tailNe_cn (by with_reducible assumption) (by walk_at "pick8")) | k_ne)); done) | ((repeat (with_reducible rename (_ ∧ _) => hc9; obtain ⟨_, _⟩ := hc9)); (repeat' (first | with_reducible assumption | exact tailNe_lt (by with_reducible assumption) | exact tailNe_off (by with_reducible assumption) | (with_reducible refine And.intro ?_ ?_) | omega))))))
    case ks =>
    clear hlk
    intro h tk m F' dl w0 w1 w2 oD N' hlk dD lD_0 lD_1 lD_2 lD_3 lD_4 lD_5 lD_6 lD_7 lD_8
    try k_sweep
    try dsimp only
    refine cut_cps (g := h₁) (L := L') (fun h m C => News h₁ L' h ((dl, listOf #[.str x0 w0, .str x1 w1, .str x2 w2] 3) :: (tp, tupOf #[.bytes (encB x2) f0, .bytes (encB x1) f1, .bytes (encB x0) f2, .bytes (encB x2) f3]) :: (I, itO) :: (pg, listOf #[.str x0 u0, .str x1 u1, .str x2 u2] 3) :: (L' + 1 + 1 + 1 + 1, o1) :: (L' + 1 + 1 + 1, oD) :: (L' + 1 + 1, oF) :: (L' + 1, o4) :: (pl, listOf #[.int a0 t0, .int a1 t1, .int a2 t2, .int a3 t3] n') :: news) → LK m [(Str.ofString "feed", .str (feedS wy) tf), (Str.ofString "way", .int wy tw), (Str.ofString "left", .int left tl), (Str.ofString "home", .int ho th), (Str.ofString "dress", .int dr td), (Str.ofString "pegs", .ref pg)] → C) ?js ?ks
    case js =>  -- cut 4
      intro Jq9 hJ9
      obtain ⟨go0, hg0⟩ : ∃ x, (listOf #[.str x0 u0, .str x1 u1, .str x2 u2] 3) = x := ⟨_, rfl⟩
      rw [hg0] at N'
      obtain ⟨go1, hg1⟩ : ∃ x, (listOf #[.int a0 t0, .int a1 t1, .int a2 t2, .int a3 t3] n') = x := ⟨_, rfl⟩
      rw [hg1] at N'
      k_steps
      all_goals (subst hg0; subst hg1; refine' hJ9 (by k_asm) (fun C9 k9 => k9 ?zqN ⟨?zqL0, ?zqL1, ?zqL2, ?zqL3, ?zqL4, ?zqL5, trivial⟩); (case zqL0 => exact hlk.1); (case zqL1 => exact hlk.2.1); (case zqL2 => exact hlk.2.2.1); (case zqL3 => exact hlk.2.2.2.1); (case zqL4 => exact hlk.2.2.2.2.1); (case zqL5 => exact hlk.2.2.2.2.2.1); (case zqN => first | with_reducible assumption | (refine' cb_drop ?zqcbN ?zqcbS; (case zqcbN => with_reducible assumption); (case zqcbS => ((repeat (refine List.forall_mem_cons.mpr ⟨?_, ?_⟩; focus k_mem)); (repeat (first | exact fun _ h => h | refine sub_tail ?_)))))))
    case ks =>
    clear hlk
    intro h tk m F' N' hlk
    try k_sweep
    try dsimp only
    refine cut_cps (g := h₁) (L := L') (fun h m C => ∀ (pk : Addr) (z0 z1 z2 : Tok), News h₁ L' h ((pk, listOf #[.str x0 z0, .str x1 z1, .str x2 z2] 3) :: (I, itO) :: (L' + 1 + 1 + 1 + 1, o1) :: (L' + 1 + 1 + 1, oD) :: (L' + 1 + 1, oF) :: (L' + 1, o4) :: (pl, listOf #[.int a0 t0, .int a1 t1, .int a2 t2, .int a3 t3] n') :: news) → LK m [(Str.ofString "pegs", .ref pk), (Str.ofString "feed", .str (feedS wy) tf), (Str.ofString "way", .int wy tw), (Str.ofString "left", .int left tl), (Str.ofString "home", .int ho th), (Str.ofString "dress", .int dr td)] → (@Ne Nat (I) pk) → (@Ne Nat (L' + 1 + 1 + 1 + 1) pk) → (@Ne Nat (L' + 1 + 1 + 1) pk) → (@Ne Nat (L' + 1 + 1) pk) → (@Ne Nat (L' + 1) pk) → (@Ne Nat (pl) pk) → TailNe pk news → C) ?js ?ks
    case js =>  -- cut 5
      intro Jq9 hJ9
      obtain ⟨go0, hg0⟩ : ∃ x, (listOf #[.str x0 u0, .str x1 u1, .str x2 u2] 3) = x := ⟨_, rfl⟩
      rw [hg0] at N'
      obtain ⟨go1, hg1⟩ : ∃ x, (listOf #[.int a0 t0, .int a1 t1, .int a2 t2, .int a3 t3] n') = x := ⟨_, rfl⟩
      rw [hg1] at N'
      obtain ⟨go2, hg2⟩ : ∃ x, (listOf #[.str x0 w0, .str x1 w1, .str x2 w2] 3) = x := ⟨_, rfl⟩
      rw [hg2] at N'
      k_steps
      all_goals (subst hg0; subst hg1; subst hg2; refine' hJ9 (by k_asm) (fun C9 k9 => k9 _ _ _ _ ?zqN ⟨rfl, ?zqL1, ?zqL2, ?zqL3, ?zqL4, ?zqL5, trivial⟩ ?zqA0 ?zqA1 ?zqA2 ?zqA3 ?zqA4 ?zqA5 ?zqA6); (case zqL1 => exact hlk.1); (case zqL2 => exact hlk.2.1); (case zqL3 => exact hlk.2.2.1); (case zqL4 => exact hlk.2.2.2.1); (case zqL5 => exact hlk.2.2.2.2.1); (case zqN => first | with_reducible assumption | (refine' cb_drop ?zqcbN ?zqcbS; (case zqcbN => with_reducible assumption); (case zqcbS => ((repeat (refine List.forall_mem_cons.mpr ⟨?_, ?_⟩; focus k_mem)); (repeat (first | exact fun _ h => h | refine sub_tail ?_)))))); (case zqA0 => (first | with_reducible assumption | ((repeat' (first | with_reducible assumption | (with_reducible refine And.intro ?_ ?_) | (with_reducible exact tailNe_lt (by assumption)) | (with_reducible exact tailNe_off (by assumption)) | (exact tailNe_cl (by with_reducible assumption) (by walk_at "pick8")) | (exact tailNe_cn (by with_reducible assumption) (by walk_at "pick8")) | k_ne)); done) | ((repeat (with_reducible rename (_ ∧ _) => hc9; obtain ⟨_, _⟩ := hc9)); (repeat' (first | with_reducible assumption | exact tailNe_lt (by with_reducible assumption) | exact tailNe_off (by with_reducible assumption) | (with_reducible refine And.intro ?_ ?_) | omega))))); (case zqA1 => (first | with_reducible assumption | ((repeat' (first | with_reducible assumption | (with_reducible refine And.intro ?_ ?_) | (with_reducible exact tailNe_lt (by assumption)) | (with_reducible exact tailNe_off (by assumption)) | (exact tailNe_cl (by with_reducible assumption) (by walk_at "pick8")) | (exact tailNe_cn (by with_reducible assumption) (by walk_at "pick8")) | k_ne)); done) | ((repeat (with_reducible rename (_ ∧ _) => hc9; obtain ⟨_, _⟩ := hc9)); (repeat' (first | with_reducible assumption | exact tailNe_lt (by with_reducible assumption) | exact tailNe_off (by with_reducible assumption) | (with_reducible refine And.intro ?_ ?_) | omega))))); (case zqA2 => (first | with_reducible assumption | ((repeat' (first | with_reducible assumption | (with_reducible refine And.intro ?_ ?_) | (with_reducible exact tailNe_lt (by assumption)) | (with_reducible exact tailNe_off (by assumption)) | (exact tailNe_cl (by with_reducible assumption) (by walk_at "pick8")) | (exact tailNe_cn (by with_reducible assumption) (by walk_at "pick8")) | k_ne)); done) | ((repeat (with_reducible rename (_ ∧ _) => hc9; obtain ⟨_, _⟩ := hc9)); (repeat' (first | with_reducible assumption | exact tailNe_lt (by with_reducible assumption) | exact tailNe_off (by with_reducible assumption) | (with_reducible refine And.intro ?_ ?_) | omega))))); (case zqA3 => (first | with_reducible assumption | ((repeat' (first | with_reducible assumption | (with_reducible refine And.intro ?_ ?_) | (with_reducible exact tailNe_lt (by assumption)) | (with_reducible exact tailNe_off (by assumption)) | (exact tailNe_cl (by with_reducible assumption) (by walk_at "pick8")) | (exact tailNe_cn (by with_reducible assumption) (by walk_at "pick8")) | k_ne)); done) | ((repeat (with_reducible rename (_ ∧ _) => hc9; obtain ⟨_, _⟩ := hc9)); (repeat' (first | with_reducible assumption | exact tailNe_lt (by with_reducible assumption) | exact tailNe_off (by with_reducible assumption) | (with_reducible refine And.intro ?_ ?_) | omega))))); (case zqA4 => (first | with_reducible assumption | ((repeat' (first | with_reducible assumption | (with_reducible refine And.intro ?_ ?_) | (with_reducible exact tailNe_lt (by assumption)) | (with_reducible exact tailNe_off (by assumption)) | (exact tailNe_cl (by with_reducible assumption) (by walk_at "pick8")) | (exact tailNe_cn (by with_reducible assumption) (by walk_at "pick8")) | k_ne)); done) | ((repeat (with_reducible rename (_ ∧ _) => hc9; obtain ⟨_, _⟩ := hc9)); (repeat' (first | with_reducible assumption | exact tailNe_lt (by with_reducible assumption) | exact tailNe_off (by with_reducible assumption) | (with_reducible refine And.intro ?_ ?_) | omega))))); (case zqA5 => (first | with_reducible assumption | ((repeat' (first | with_reducible assumption | (with_reducible refine And.intro ?_ ?_) | (with_reducible exact tailNe_lt (by assumption)) | (with_reducible exact tailNe_off (by assumption)) | (exact tailNe_cl (by with_reducible assumption) (by walk_at "pick8")) | (exact tailNe_cn (by with_reducible assumption) (by walk_at "pick8")) | k_ne)); done) | ((repeat (with_reducible rename (_ ∧ _) => hc9; obtain ⟨_, _⟩ := hc9)); (repeat' (first | with_reducible assumption | exact tailNe_lt (by with_reducible assumption) | exact tailNe_off (by with_reducible assumption) | (with_reducible refine And.intro ?_ ?_) | omega))))); (case zqA6 => (first | with_reducible assumption | ((repeat' (first | with_reducible assumption | (with_reducible refine And.intro ?_ ?_) | (with_reducible exact tailNe_lt (by assumption)) | (with_reducible exact tailNe_off (by assumption)) | (exact tailNe_cl (by with_reducible assumption) (by walk_at "pick8")) | (exact tailNe_cn (by with_reducible assumption) (by walk_at "pick8")) | k_ne)); done) | ((repeat (with_reducible rename (_ ∧ _) => hc9; obtain ⟨_, _⟩ := hc9)); (repeat' (first | with_reducible assumption | exact tailNe_lt (by with_reducible assumption) | exact tailNe_off (by with_reducible assumption) | (with_reducible refine And.intro ?_ ?_) | omega))))))
    case ks =>
    clear hlk
    intro h tk m F' pk z0 z1 z2 N' hlk lK_0 lK_1 lK_2 lK_3 lK_4 lK_5 lK_6
    try k_sweep
    try dsimp only
    clear lF_0 lF_1 lF_2 lF_3 lF_4 lF_5 lF_6 lF_7 lD_0 lD_1 lD_2 lD_3 lD_4 lD_5 lD_6 lD_7 lD_8
    refine cut_cps (g := h₁) (L := L') (fun h m C => ∀ (tq : Addr), News h₁ L' h ((tq, listOf #[] 0) :: (pk, listOf #[.str x0 z0, .str x1 z1, .str x2 z2] 3) :: (I, itO) :: (L' + 1 + 1 + 1 + 1, o1) :: (L' + 1 + 1 + 1, oD) :: (L' + 1 + 1, oF) :: (L' + 1, o4) :: (pl, listOf #[.int a0 t0, .int a1 t1, .int a2 t2, .int a3 t3] n') :: news) → LK m [(Str.ofString "tops", .ref tq), (Str.ofString "pegs", .ref pk), (Str.ofString "feed", .str (feedS wy) tf), (Str.ofString "way", .int wy tw), (Str.ofString "left", .int left tl), (Str.ofString "home", .int ho th), (Str.ofString "dress", .int dr td)] → (@Ne Nat (pk) tq) → (@Ne Nat (I) tq) → (@Ne Nat (L' + 1 + 1 + 1 + 1) tq) → (@Ne Nat (L' + 1 + 1 + 1) tq) → (@Ne Nat (L' + 1 + 1) tq) → (@Ne Nat (L' + 1) tq) → (@Ne Nat (pl) tq) → TailNe tq news → C) ?js ?ks
    case js =>  -- cut 6
      intro Jq9 hJ9
      obtain ⟨go0, hg0⟩ : ∃ x, (listOf #[.str x0 z0, .str x1 z1, .str x2 z2] 3) = x := ⟨_, rfl⟩
      rw [hg0] at N'
      obtain ⟨go1, hg1⟩ : ∃ x, (listOf #[.int a0 t0, .int a1 t1, .int a2 t2, .int a3 t3] n') = x := ⟨_, rfl⟩
      rw [hg1] at N'
      k_steps
      all_goals (subst hg0; subst hg1; refine' hJ9 (by k_asm) (fun C9 k9 => k9 _ ?zqN ⟨rfl, ?zqL1, ?zqL2, ?zqL3, ?zqL4, ?zqL5, ?zqL6, trivial⟩ ?zqA0 ?zqA1 ?zqA2 ?zqA3 ?zqA4 ?zqA5 ?zqA6 ?zqA7); (case zqL1 => exact hlk.1); (case zqL2 => exact hlk.2.1); (case zqL3 => exact hlk.2.2.1); (case zqL4 => exact hlk.2.2.2.1); (case zqL5 => exact hlk.2.2.2.2.1); (case zqL6 => exact hlk.2.2.2.2.2.1); (case zqN => first | with_reducible assumption | (refine' cb_drop ?zqcbN ?zqcbS; (case zqcbN => with_reducible assumption); (case zqcbS => ((repeat (refine List.forall_mem_cons.mpr ⟨?_, ?_⟩; focus k_mem)); (repeat (first | exact fun _ h => h | refine sub_tail ?_)))))); (case zqA0 => (first | with_reducible assumption | ((repeat' (first | with_reducible assumption | (with_reducible refine And.intro ?_ ?_) | (with_reducible exact tailNe_lt (by assumption)) | (with_reducible exact tailNe_off (by assumption)) | (exact tailNe_cl (by with_reducible assumption) (by walk_at "pick8")) | (exact tailNe_cn (by with_reducible assumption) (by walk_at "pick8")) | k_ne)); done) | ((repeat (with_reducible rename (_ ∧ _) => hc9; obtain ⟨_, _⟩ := hc9)); (repeat' (first | with_reducible assumption | exact tailNe_lt (by with_reducible assumption) | exact tailNe_off (by with_reducible assumption) | (with_reducible refine And.intro ?_ ?_) | omega))))); (case zqA1 => (first | with_reducible assumption | ((repeat' (first | with_reducible assumption | (with_reducible refine And.intro ?_ ?_) | (with_reducible exact tailNe_lt (by assumption)) | (with_reducible exact tailNe_off (by assumption)) | (exact tailNe_cl (by with_reducible assumption) (by walk_at "pick8")) | (exact tailNe_cn (by with_reducible assumption) (by walk_at "pick8")) | k_ne)); done) | ((repeat (with_reducible rename (_ ∧ _) => hc9; obtain ⟨_, _⟩ := hc9)); (repeat' (first | with_reducible assumption | exact tailNe_lt (by with_reducible assumption) | exact tailNe_off (by with_reducible assumption) | (with_reducible refine And.intro ?_ ?_) | omega))))); (case zqA2 => (first | with_reducible assumption | ((repeat' (first | with_reducible assumption | (with_reducible refine And.intro ?_ ?_) | (with_reducible exact tailNe_lt (by assumption)) | (with_reducible exact tailNe_off (by assumption)) | (exact tailNe_cl (by with_reducible assumption) (by walk_at "pick8")) | (exact tailNe_cn (by with_reducible assumption) (by walk_at "pick8")) | k_ne)); done) | ((repeat (with_reducible rename (_ ∧ _) => hc9; obtain ⟨_, _⟩ := hc9)); (repeat' (first | with_reducible assumption | exact tailNe_lt (by with_reducible assumption) | exact tailNe_off (by with_reducible assumption) | (with_reducible refine And.intro ?_ ?_) | omega))))); (case zqA3 => (first | with_reducible assumption | ((repeat' (first | with_reducible assumption | (with_reducible refine And.intro ?_ ?_) | (with_reducible exact tailNe_lt (by assumption)) | (with_reducible exact tailNe_off (by assumption)) | (exact tailNe_cl (by with_reducible assumption) (by walk_at "pick8")) | (exact tailNe_cn (by with_reducible assumption) (by walk_at "pick8")) | k_ne)); done) | ((repeat (with_reducible rename (_ ∧ _) => hc9; obtain ⟨_, _⟩ := hc9)); (repeat' (first | with_reducible assumption | exact tailNe_lt (by with_reducible assumption) | exact tailNe_off (by with_reducible assumption) | (with_reducible refine And.intro ?_ ?_) | omega))))); (case zqA4 => (first | with_reducible assumption | ((repeat' (first | with_reducible assumption | (with_reducible refine And.intro ?_ ?_) | (with_reducible exact tailNe_lt (by assumption)) | (with_reducible exact tailNe_off (by assumption)) | (exact tailNe_cl (by with_reducible assumption) (by walk_at "pick8")) | (exact tailNe_cn (by with_reducible assumption) (by walk_at "pick8")) | k_ne)); done) | ((repeat (with_reducible rename (_ ∧ _) => hc9; obtain ⟨_, _⟩ := hc9)); (repeat' (first | with_reducible assumption | exact tailNe_lt (by with_reducible assumption) | exact tailNe_off (by with_reducible assumption) | (with_reducible refine And.intro ?_ ?_) | omega))))); (case zqA5 => (first | with_reducible assumption | ((repeat' (first | with_reducible assumption | (with_reducible refine And.intro ?_ ?_) | (with_reducible exact tailNe_lt (by assumption)) | (with_reducible exact tailNe_off (by assumption)) | (exact tailNe_cl (by with_reducible assumption) (by walk_at "pick8")) | (exact tailNe_cn (by with_reducible assumption) (by walk_at "pick8")) | k_ne)); done) | ((repeat (with_reducible rename (_ ∧ _) => hc9; obtain ⟨_, _⟩ := hc9)); (repeat' (first | with_reducible assumption | exact tailNe_lt (by with_reducible assumption) | exact tailNe_off (by with_reducible assumption) | (with_reducible refine And.intro ?_ ?_) | omega))))); (case zqA6 => (first | with_reducible assumption | ((repeat' (first | with_reducible assumption | (with_reducible refine And.intro ?_ ?_) | (with_reducible exact tailNe_lt (by assumption)) | (with_reducible exact tailNe_off (by assumption)) | (exact tailNe_cl (by with_reducible assumption) (by walk_at "pick8")) | (exact tailNe_cn (by with_reducible assumption) (by walk_at "pick8")) | k_ne)); done) | ((repeat (with_reducible rename (_ ∧ _) => hc9; obtain ⟨_, _⟩ := hc9)); (repeat' (first | with_reducible assumption | exact tailNe_lt (by with_reducible assumption) | exact tailNe_off (by with_reducible assumption) | (with_reducible refine And.intro ?_ ?_) | omega))))); (case zqA7 => (first | with_reducible assumption | ((repeat' (first | with_reducible assumption | (with_reducible refine And.intro ?_ ?_) | (with_reducible exact tailNe_lt (by assumption)) | (with_reducible exact tailNe_off (by assumption)) | (exact tailNe_cl (by with_reducible assumption) (by walk_at "pick8")) | (exact tailNe_cn (by with_reducible assumption) (by walk_at "pick8")) | k_ne)); done) | ((repeat (with_reducible rename (_ ∧ _) => hc9; obtain ⟨_, _⟩ := hc9)); (repeat' (first | with_reducible assumption | exact tailNe_lt (by with_reducible assumption) | exact tailNe_off (by with_reducible assumption) | (with_reducible refine And.intro ?_ ?_) | omega))))))
    case ks =>
    clear hlk
    intro h tk m F' tq N' hlk lQ_0 lQ_1 lQ_2 lQ_3 lQ_4 lQ_5 lQ_6 lQ_7
    try k_sweep
    try dsimp only
    refine cut_cps (g := h₁) (L := L') (fun h m C => ∀ (le : Addr), News h₁ L' h ((le, listOf #[] 0) :: (tq, listOf #[] 0) :: (pk, listOf #[.str x0 z0, .str x1 z1, .str x2 z2] 3) :: (I, itO) :: (L' + 1 + 1 + 1 + 1, o1) :: (L' + 1 + 1 + 1, oD) :: (L' + 1 + 1, oF) :: (L' + 1, o4) :: (pl, listOf #[.int a0 t0, .int a1 t1, .int a2 t2, .int a3 t3] n') :: news) → LK m [(Str.ofString "least", .ref le), (Str.ofString "tops", .ref tq), (Str.ofString "pegs", .ref pk), (Str.ofString "feed", .str (feedS wy) tf), (Str.ofString "way", .int wy tw), (Str.ofString "left", .int left tl), (Str.ofString "home", .int ho th), (Str.ofString "dress", .int dr td)] → (@Ne Nat (tq) le) → (@Ne Nat (pk) le) → (@Ne Nat (I) le) → (@Ne Nat (L' + 1 + 1 + 1 + 1) le) → (@Ne Nat (L' + 1 + 1 + 1) le) → (@Ne Nat (L' + 1 + 1) le) → (@Ne Nat (L' + 1) le) → (@Ne Nat (pl) le) → TailNe le news → C) ?js ?ks
    case js =>  -- cut 7
      intro Jq9 hJ9
      obtain ⟨go0, hg0⟩ : ∃ x, (listOf #[.str x0 z0, .str x1 z1, .str x2 z2] 3) = x := ⟨_, rfl⟩
      rw [hg0] at N'
      obtain ⟨go1, hg1⟩ : ∃ x, (listOf #[.int a0 t0, .int a1 t1, .int a2 t2, .int a3 t3] n') = x := ⟨_, rfl⟩
      rw [hg1] at N'
      k_steps
      all_goals (subst hg0; subst hg1; refine' hJ9 (by k_asm) (fun C9 k9 => k9 _ ?zqN ⟨rfl, ?zqL1, ?zqL2, ?zqL3, ?zqL4, ?zqL5, ?zqL6, ?zqL7, trivial⟩ ?zqA0 ?zqA1 ?zqA2 ?zqA3 ?zqA4 ?zqA5 ?zqA6 ?zqA7 ?zqA8); (case zqL1 => exact hlk.1); (case zqL2 => exact hlk.2.1); (case zqL3 => exact hlk.2.2.1); (case zqL4 => exact hlk.2.2.2.1); (case zqL5 => exact hlk.2.2.2.2.1); (case zqL6 => exact hlk.2.2.2.2.2.1); (case zqL7 => exact hlk.2.2.2.2.2.2.1); (case zqN => first | with_reducible assumption | (refine' cb_drop ?zqcbN ?zqcbS; (case zqcbN => with_reducible assumption); (case zqcbS => ((repeat (refine List.forall_mem_cons.mpr ⟨?_, ?_⟩; focus k_mem)); (repeat (first | exact fun _ h => h | refine sub_tail ?_)))))); (case zqA0 => (first | with_reducible assumption | ((repeat' (first | with_reducible assumption | (with_reducible refine And.intro ?_ ?_) | (with_reducible exact tailNe_lt (by assumption)) | (with_reducible exact tailNe_off (by assumption)) | (exact tailNe_cl (by with_reducible assumption) (by walk_at "pick8")) | (exact tailNe_cn (by with_reducible assumption) (by walk_at "pick8")) | k_ne)); done) | ((repeat (with_reducible rename (_ ∧ _) => hc9; obtain ⟨_, _⟩ := hc9)); (repeat' (first | with_reducible assumption | exact tailNe_lt (by with_reducible assumption) | exact tailNe_off (by with_reducible assumption) | (with_reducible refine And.intro ?_ ?_) | omega))))); (case zqA1 => (first | with_reducible assumption | ((repeat' (first | with_reducible assumption | (with_reducible refine And.intro ?_ ?_) | (with_reducible exact tailNe_lt (by assumption)) | (with_reducible exact tailNe_off (by assumption)) | (exact tailNe_cl (by with_reducible assumption) (by walk_at "pick8")) | (exact tailNe_cn (by with_reducible assumption) (by walk_at "pick8")) | k_ne)); done) | ((repeat (with_reducible rename (_ ∧ _) => hc9; obtain ⟨_, _⟩ := hc9)); (repeat' (first | with_reducible assumption | exact tailNe_lt (by with_reducible assumption) | exact tailNe_off (by with_reducible assumption) | (with_reducible refine And.intro ?_ ?_) | omega))))); (case zqA2 => (first | with_reducible assumption | ((repeat' (first | with_reducible assumption | (with_reducible refine And.intro ?_ ?_) | (with_reducible exact tailNe_lt (by assumption)) | (with_reducible exact tailNe_off (by assumption)) | (exact tailNe_cl (by with_reducible assumption) (by walk_at "pick8")) | (exact tailNe_cn (by with_reducible assumption) (by walk_at "pick8")) | k_ne)); done) | ((repeat (with_reducible rename (_ ∧ _) => hc9; obtain ⟨_, _⟩ := hc9)); (repeat' (first | with_reducible assumption | exact tailNe_lt (by with_reducible assumption) | exact tailNe_off (by with_reducible assumption) | (with_reducible refine And.intro ?_ ?_) | omega))))); (case zqA3 => (first | with_reducible assumption | ((repeat' (first | with_reducible assumption | (with_reducible refine And.intro ?_ ?_) | (with_reducible exact tailNe_lt (by assumption)) | (with_reducible exact tailNe_off (by assumption)) | (exact tailNe_cl (by with_reducible assumption) (by walk_at "pick8")) | (exact tailNe_cn (by with_reducible assumption) (by walk_at "pick8")) | k_ne)); done) | ((repeat (with_reducible rename (_ ∧ _) => hc9; obtain ⟨_, _⟩ := hc9)); (repeat' (first | with_reducible assumption | exact tailNe_lt (by with_reducible assumption) | exact tailNe_off (by with_reducible assumption) | (with_reducible refine And.intro ?_ ?_) | omega))))); (case zqA4 => (first | with_reducible assumption | ((repeat' (first | with_reducible assumption | (with_reducible refine And.intro ?_ ?_) | (with_reducible exact tailNe_lt (by assumption)) | (with_reducible exact tailNe_off (by assumption)) | (exact tailNe_cl (by with_reducible assumption) (by walk_at "pick8")) | (exact tailNe_cn (by with_reducible assumption) (by walk_at "pick8")) | k_ne)); done) | ((repeat (with_reducible rename (_ ∧ _) => hc9; obtain ⟨_, _⟩ := hc9)); (repeat' (first | with_reducible assumption | exact tailNe_lt (by with_reducible assumption) | exact tailNe_off (by with_reducible assumption) | (with_reducible refine And.intro ?_ ?_) | omega))))); (case zqA5 => (first | with_reducible assumption | ((repeat' (first | with_reducible assumption | (with_reducible refine And.intro ?_ ?_) | (with_reducible exact tailNe_lt (by assumption)) | (with_reducible exact tailNe_off (by assumption)) | (exact tailNe_cl (by with_reducible assumption) (by walk_at "pick8")) | (exact tailNe_cn (by with_reducible assumption) (by walk_at "pick8")) | k_ne)); done) | ((repeat (with_reducible rename (_ ∧ _) => hc9; obtain ⟨_, _⟩ := hc9)); (repeat' (first | with_reducible assumption | exact tailNe_lt (by with_reducible assumption) | exact tailNe_off (by with_reducible assumption) | (with_reducible refine And.intro ?_ ?_) | omega))))); (case zqA6 => (first | with_reducible assumption | ((repeat' (first | with_reducible assumption | (with_reducible refine And.intro ?_ ?_) | (with_reducible exact tailNe_lt (by assumption)) | (with_reducible exact tailNe_off (by assumption)) | (exact tailNe_cl (by with_reducible assumption) (by walk_at "pick8")) | (exact tailNe_cn (by with_reducible assumption) (by walk_at "pick8")) | k_ne)); done) | ((repeat (with_reducible rename (_ ∧ _) => hc9; obtain ⟨_, _⟩ := hc9)); (repeat' (first | with_reducible assumption | exact tailNe_lt (by with_reducible assumption) | exact tailNe_off (by with_reducible assumption) | (with_reducible refine And.intro ?_ ?_) | omega))))); (case zqA7 => (first | with_reducible assumption | ((repeat' (first | with_reducible assumption | (with_reducible refine And.intro ?_ ?_) | (with_reducible exact tailNe_lt (by assumption)) | (with_reducible exact tailNe_off (by assumption)) | (exact tailNe_cl (by with_reducible assumption) (by walk_at "pick8")) | (exact tailNe_cn (by with_reducible assumption) (by walk_at "pick8")) | k_ne)); done) | ((repeat (with_reducible rename (_ ∧ _) => hc9; obtain ⟨_, _⟩ := hc9)); (repeat' (first | with_reducible assumption | exact tailNe_lt (by with_reducible assumption) | exact tailNe_off (by with_reducible assumption) | (with_reducible refine And.intro ?_ ?_) | omega))))); (case zqA8 => (first | with_reducible assumption | ((repeat' (first | with_reducible assumption | (with_reducible refine And.intro ?_ ?_) | (with_reducible exact tailNe_lt (by assumption)) | (with_reducible exact tailNe_off (by assumption)) | (exact tailNe_cl (by with_reducible assumption) (by walk_at "pick8")) | (exact tailNe_cn (by with_reducible assumption) (by walk_at "pick8")) | k_ne)); done) | ((repeat (with_reducible rename (_ ∧ _) => hc9; obtain ⟨_, _⟩ := hc9)); (repeat' (first | with_reducible assumption | exact tailNe_lt (by with_reducible assumption) | exact tailNe_off (by with_reducible assumption) | (with_reducible refine And.intro ?_ ?_) | omega))))))
    case ks =>
    clear hlk
    intro h tk m F' le N' hlk lE_0 lE_1 lE_2 lE_3 lE_4 lE_5 lE_6 lE_7 lE_8
    try k_sweep
    try dsimp only
    obtain ⟨T0, T1, T2, l0, l1, l2, hp0, hp1, hp2⟩ := pegs_ok ⟨c0, c1, c2, c3⟩ hpa
    have hI4 : IntsAre [.int a0 t0, .int a1 t1, .int a2 t2, .int a3 t3] [a0, a1, a2, a3] := .cons _ _ (.cons _ _ (.cons _ _ (.cons _ _ .nil)))
    have hx0 : x0.length ≤ 15 := ok0.1
    have hx1 : x1.length ≤ 15 := ok1.1
    have hx2 : x2.length ≤ 15 := ok2.1
    have hT0 : T0.length ≤ 4 := hp0.2.2.2.2.2.2.1
    have hT1 : T1.length ≤ 4 := hp1.2.2.2.2.2.2.1
    have hT2 : T2.length ≤ 4 := hp2.2.2.2.2.2.2.1
    have hfl : (feedS wy).length ≤ 1 := feed_len wy
    have hzl : (Str.ofString "z").length = 1 := by decide
    have hl0' : 0 ≤ l0 ∧ l0 ≤ 4 := hp0.1
    have hl1' : 0 ≤ l1 ∧ l1 ≤ 4 := hp1.1
    have hl2' : 0 ≤ l2 ∧ l2 ≤ 4 := hp2.1
    refine cut_cps (g := h₁) (L := L') (fun h m C => ∀ (r0 r1 r2 q0 q1 q2 : Tok) (oP : Obj) (vP : Option Value), News h₁ L' h ((le, listOf #[.int l0 q0, .int l1 q1, .int l2 q2] 3) :: (tq, listOf #[.str T0 r0, .str T1 r1, .str T2 r2] 3) :: (pk, listOf #[.str x0 z0, .str x1 z1, .str x2 z2] 3) :: (I, itO) :: (L' + 1 + 1 + 1 + 1, oP) :: (L' + 1 + 1 + 1, oD) :: (L' + 1 + 1, oF) :: (L' + 1, o4) :: (pl, listOf #[.int a0 t0, .int a1 t1, .int a2 t2, .int a3 t3] n') :: news) → LK m [(Str.ofString "least", .ref le), (Str.ofString "tops", .ref tq), (Str.ofString "pegs", .ref pk), (Str.ofString "feed", .str (feedS wy) tf), (Str.ofString "way", .int wy tw), (Str.ofString "left", .int left tl), (Str.ofString "home", .int ho th), (Str.ofString "dress", .int dr td)] → oP.data = .cell vP → C) ?js ?ks
    case js =>  -- cut 8
      intro Jq9 hJ9
      refine For_turnsUp h₁ ?up (hE := PassesOwn.never)
      case up =>
        k_steps
        (with_unfolding_all refine' up_range (n := 3) (g := h₁) (fun i m led => ∀ C : Prop, (∀ (r0 r1 r2 q0 q1 q2 : Tok) (oP : Obj) (vP : Option Value), LK m [(Str.ofString "least", .ref le), (Str.ofString "tops", .ref tq), (Str.ofString "pegs", .ref pk), (Str.ofString "feed", .str (feedS wy) tf), (Str.ofString "way", .int wy tw), (Str.ofString "left", .int left tl), (Str.ofString "home", .int ho th), (Str.ofString "dress", .int dr td)] → led = (le, listOf (pre3 (.int l0 q0) (.int l1 q1) (.int l2 q2) i) i) :: (tq, listOf (pre3 (.str T0 r0) (.str T1 r1) (.str T2 r2) i) i) :: (pk, listOf #[.str x0 z0, .str x1 z1, .str x2 z2] 3) :: (I, itO) :: (L' + 1 + 1 + 1 + 1, oP) :: (L' + 1 + 1 + 1, oD) :: (L' + 1 + 1, oF) :: (L' + 1, o4) :: (pl, listOf #[.int a0 t0, .int a1 t1, .int a2 t2, .int a3 t3] n') :: news → oP.data = .cell vP → C) → C) (fun i m led => ∀ C : Prop, (∀ (r0 r1 r2 q0 q1 q2 : Tok) (oP : Obj) (tP : Tok), LK m [(Str.ofString "least", .ref le), (Str.ofString "tops", .ref tq), (Str.ofString "pegs", .ref pk), (Str.ofString "feed", .str (feedS wy) tf), (Str.ofString "way", .int wy tw), (Str.ofString "left", .int left tl), (Str.ofString "home", .int ho th), (Str.ofString "dress", .int dr td)] → led = (le, listOf (pre3 (.int l0 q0) (.int l1 q1) (.int l2 q2) i) i) :: (tq, listOf (pre3 (.str T0 r0) (.str T1 r1) (.str T2 r2) i) i) :: (pk, listOf #[.str x0 z0, .str x1 z1, .str x2 z2] 3) :: (I, itO) :: (L' + 1 + 1 + 1 + 1, oP) :: (L' + 1 + 1 + 1, oD) :: (L' + 1 + 1, oF) :: (L' + 1, o4) :: (pl, listOf #[.int a0 t0, .int a1 t1, .int a2 t2, .int a3 t3] n') :: news → oP.data = .cell (some (.int (0 + ((i : Nat) : Int)) tP)) → C) → C) (by rfl) (by assumption) (by decide) (by decide) (by assumption) (by assumption) ?h80 ?a8 ?s8 ?d8)
        case h80 => exact fun C9 k9 => k9 0 0 0 0 0 0 _ _ hlk rfl d1'
        case d8 =>
          intro h tk m led F' N' hJ
          (refine hJ _ ?_; clear hJ; intro r0 r1 r2 q0 q1 q2 oP vP hlk e9 dP; subst e9)
          exact hJ9 F' (fun C9 k9 => k9 r0 r1 r2 q0 q1 q2 oP vP N' hlk dP)
        case a8 =>
          intro I2 i h tk t m led hi F' N' off hlt hJ
          (refine hJ _ ?_; clear hJ; intro r0 r1 r2 q0 q1 q2 oP vP hlk e9 dP; subst e9)
          refine asg_cell (c := L' + 1 + 1 + 1 + 1) (pre := [(le, listOf (pre3 (.int l0 q0) (.int l1 q1) (.int l2 q2) i) i), (tq, listOf (pre3 (.str T0 r0) (.str T1 r1) (.str T2 r2) i) i), (pk, listOf #[.str x0 z0, .str x1 z1, .str x2 z2] 3), (I, itO)]) rfl rfl rfl F' N' off ?n81 ?n82 dP (fun o' d' C9 k9 => k9 r0 r1 r2 q0 q1 q2 o' _ hlk rfl d')
          case n81 => first | k_all | fail
          case n82 => first | k_all | fail
        case s8 =>
          intro I2 i h tk m led hi F' N' off hlt hJ
          (refine hJ _ ?_; clear hJ; intro r0 r1 r2 q0 q1 q2 oP tP hlk e9 dP; subst e9)
          change Fr h₁ L' h _ at F'
          change News h₁ L' h _ at N'
          (repeat (with_reducible rename IsRange _ _ _ _ _ _ _ _ => z; clear z))
          (repeat (with_reducible rename ∀ (b : Addr) (o : Obj), _ = _ → _ = _ => z; clear z))
          have hti : TailNe I2 news := fun p hp => Nat.ne_of_lt (hlt p (by simp [hp]))
          k_lt hlt
          clear off
          try k_sweep
          try dsimp only
          have N9 := gen_hd N'
          clear N'
          obtain ⟨it2, hit2, N'⟩ := N9
          refine hide_post fun Uq9 hU9 => ?_
          rcases three hi with rfl | rfl | rfl
          focus
            replace dP : oP.data = .cell (some (.int 0 tP)) := dP
            replace N' : News h₁ L' h ((I2, it2) :: (le, listOf #[] 0) :: (tq, listOf #[] 0) :: (pk, listOf #[.str x0 z0, .str x1 z1, .str x2 z2] 3) :: (I, itO) :: (L' + 1 + 1 + 1 + 1, oP) :: (L' + 1 + 1 + 1, oD) :: (L' + 1 + 1, oF) :: (L' + 1, o4) :: (pl, listOf #[.int a0 t0, .int a1 t1, .int a2 t2, .int a3 t3] n') :: news) := N'
            try k_sweep
            refine cut_cps (g := h₁) (L := L') (fun h m C => ∀ (r0 : Tok), News h₁ L' h ((I2, it2) :: (le, listOf #[] 0) :: (tq, listOf #[.str T0 r0] 1) :: (pk, listOf #[.str x0 z0, .str x1 z1, .str x2 z2] 3) :: (I, itO) :: (L' + 1 + 1 + 1 + 1, oP) :: (L' + 1 + 1 + 1, oD) :: (L' + 1 + 1, oF) :: (L' + 1, o4) :: (pl, listOf #[.int a0 t0, .int a1 t1, .int a2 t2, .int a3 t3] n') :: news) → LK m [(Str.ofString "least", .ref le), (Str.ofString "tops", .ref tq), (Str.ofString "pegs", .ref pk), (Str.ofString "feed", .str (feedS wy) tf), (Str.ofString "way", .int wy tw), (Str.ofString "left", .int left tl), (Str.ofString "home", .int ho th), (Str.ofString "dress", .int dr td)] → C) ?js00 ?ks00
            case js00 =>  -- cut 8
              intro Jq9 hJ9
              replace F' := fr_lk [(Str.ofString "tops", .ref tq), (Str.ofString "pegs", .ref pk), (Str.ofString "way", .int wy tw)] F' ⟨hlk.2.1, hlk.2.2.1, hlk.2.2.2.2.1, trivial⟩
              dsimp only [ovl] at F'
              obtain ⟨go0, hg0⟩ : ∃ x, (listOf #[.int a0 t0, .int a1 t1, .int a2 t2, .int a3 t3] n') = x := ⟨_, rfl⟩
              rw [hg0] at N'
              k_steps
              all_goals (subst hg0; refine' hJ9 (by k_asm) (fun C9 k9 => k9 _ ?zqN ⟨?zqL0, rfl, rfl, ?zqL3, rfl, ?zqL5, ?zqL6, ?zqL7, trivial⟩); (case zqL0 => exact hlk.1); (case zqL3 => exact hlk.2.2.2.1); (case zqL5 => exact hlk.2.2.2.2.2.1); (case zqL6 => exact hlk.2.2.2.2.2.2.1); (case zqL7 => exact hlk.2.2.2.2.2.2.2.1); (case zqN => first | with_reducible assumption | (refine' cb_drop ?zqcbN ?zqcbS; (case zqcbN => with_reducible assumption); (case zqcbS => ((repeat (refine List.forall_mem_cons.mpr ⟨?_, ?_⟩; focus k_mem)); (repeat (first | exact fun _ h => h | refine sub_tail ?_)))))))
            case ks00 =>
            clear hlk
            intro h tk m F' r0 N' hlk
            try k_sweep
            try dsimp only
            refine cut_cps (g := h₁) (L := L') (fun h m C => ∀ (q0 : Tok), News h₁ L' h ((I2, it2) :: (le, listOf #[.int l0 q0] 1) :: (tq, listOf #[.str T0 r0] 1) :: (pk, listOf #[.str x0 z0, .str x1 z1, .str x2 z2] 3) :: (I, itO) :: (L' + 1 + 1 + 1 + 1, oP) :: (L' + 1 + 1 + 1, oD) :: (L' + 1 + 1, oF) :: (L' + 1, o4) :: (pl, listOf #[.int a0 t0, .int a1 t1, .int a2 t2, .int a3 t3] n') :: news) → LK m [(Str.ofString "least", .ref le), (Str.ofString "tops", .ref tq), (Str.ofString "pegs", .ref pk), (Str.ofString "feed", .str (feedS wy) tf), (Str.ofString "way", .int wy tw), (Str.ofString "left", .int left tl), (Str.ofString "home", .int ho th), (Str.ofString "dress", .int dr td)] → C) ?js01 ?ks01
            case js01 =>  -- cut 9
              intro Jq9 hJ9
              replace F' := fr_lk [(Str.ofString "least", .ref le)] F' ⟨hlk.1, trivial⟩
              dsimp only [ovl] at F'
              obtain ⟨go0, hg0⟩ : ∃ x, (listOf #[.str T0 r0] 1) = x := ⟨_, rfl⟩
              rw [hg0] at N'
              obtain ⟨go1, hg1⟩ : ∃ x, (listOf #[.str x0 z0, .str x1 z1, .str x2 z2] 3) = x := ⟨_, rfl⟩
              rw [hg1] at N'
              k_steps
              (k_dflt (refine LCt.CompSrcT.range (a := 0) (b := 4) (n := 4) (by rfl) (by k_asm) (by k_asm) (by assumption) (by decide) (by rfl) (by exact Nat.le_of_ble_eq_true rfl) ?_))
              intro g9
              refine kci_range (filtG a0 a1 a2 a3 0) ?tn ?fn ?gr
              case gr => (intro l9 k9; unfold filtG; split; (rw [List.length_append, List.length_singleton]; omega); omega)
              case tn =>
                intro k9 t9 I9 oI9 C9 oC9 D9 m9 ys9 l9 h9 tk9 E9 hlo9 hhi9 hI9 hC9 hx9 F' N' off' ne' mk9
                simp only [LCg.Off3, and_true] at off'
                try k_fold
                k_steps
              case fn =>
                unfold KPfDone
                intro ys9 hI9 hl9
                k_steps
                rename (_ ∈ _ ++ [4]) => ha9
                rename (∀ a, a ∈ _ ++ [4] → _) => hb9
                have hM9 := (hp0.2.2.2.2.2.2.2).trans (least_of ha9 hb9).symm
                subst hM9
                rename News _ _ _ _ => N9
                replace N9 := news_tail (news_tail (news_tail N9))
                k_steps
                all_goals (subst hg0; subst hg1; refine' hJ9 (by k_asm) (fun C9 k9 => k9 _ ?zqN ⟨rfl, ?zqL1, ?zqL2, ?zqL3, ?zqL4, ?zqL5, ?zqL6, ?zqL7, trivial⟩); (case zqL1 => exact hlk.2.1); (case zqL2 => exact hlk.2.2.1); (case zqL3 => exact hlk.2.2.2.1); (case zqL4 => exact hlk.2.2.2.2.1); (case zqL5 => exact hlk.2.2.2.2.2.1); (case zqL6 => exact hlk.2.2.2.2.2.2.1); (case zqL7 => exact hlk.2.2.2.2.2.2.2.1); (case zqN => first | with_reducible assumption | (refine' cb_drop ?zqcbN ?zqcbS; (case zqcbN => with_reducible assumption); (case zqcbS => ((repeat (refine List.forall_mem_cons.mpr ⟨?_, ?_⟩; focus k_mem)); (repeat (first | exact fun _ h => h | refine sub_tail ?_)))))))
            case ks01 =>
            clear hlk
            intro h tk m F' q0 N' hlk
            try k_sweep
            try dsimp only
            refine cut_cps (g := h₁) (L := L') (fun h m C => News h₁ L' h ((I2, it2) :: (le, listOf #[.int l0 q0] 1) :: (tq, listOf #[.str T0 r0] 1) :: (pk, listOf #[.str x0 z0, .str x1 z1, .str x2 z2] 3) :: (I, itO) :: (L' + 1 + 1 + 1 + 1, oP) :: (L' + 1 + 1 + 1, oD) :: (L' + 1 + 1, oF) :: (L' + 1, o4) :: (pl, listOf #[.int a0 t0, .int a1 t1, .int a2 t2, .int a3 t3] n') :: news) → LK m [(Str.ofString "least", .ref le), (Str.ofString "tops", .ref tq), (Str.ofString "pegs", .ref pk), (Str.ofString "feed", .str (feedS wy) tf), (Str.ofString "way", .int wy tw), (Str.ofString "left", .int left tl), (Str.ofString "home", .int ho th), (Str.ofString "dress", .int dr td)] → C) ?js02 ?ks02
            case js02 =>  -- cut 10
              intro Jq9 hJ9
              replace F' := fr_lk [(Str.ofString "least", .ref le), (Str.ofString "tops", .ref tq)] F' ⟨hlk.1, hlk.2.1, trivial⟩
              dsimp only [ovl] at F'
              obtain ⟨go0, hg0⟩ : ∃ x, (listOf #[.str x0 z0, .str x1 z1, .str x2 z2] 3) = x := ⟨_, rfl⟩
              rw [hg0] at N'
              obtain ⟨go1, hg1⟩ : ∃ x, (listOf #[.int a0 t0, .int a1 t1, .int a2 t2, .int a3 t3] n') = x := ⟨_, rfl⟩
              rw [hg1] at N'
              k_steps
              all_goals (first | (subst hg0; subst hg1; refine' hJ9 (by k_asm) (fun C9 k9 => k9 ?zqN ⟨rfl, rfl, ?zqL2, ?zqL3, ?zqL4, ?zqL5, ?zqL6, ?zqL7, trivial⟩); (case zqL2 => exact hlk.2.2.1); (case zqL3 => exact hlk.2.2.2.1); (case zqL4 => exact hlk.2.2.2.2.1); (case zqL5 => exact hlk.2.2.2.2.2.1); (case zqL6 => exact hlk.2.2.2.2.2.2.1); (case zqL7 => exact hlk.2.2.2.2.2.2.2.1); (case zqN => first | with_reducible assumption | (refine' cb_drop ?zqcbN ?zqcbS; (case zqcbN => with_reducible assumption); (case zqcbS => ((repeat (refine List.forall_mem_cons.mpr ⟨?_, ?_⟩; focus k_mem)); (repeat (first | exact fun _ h => h | refine sub_tail ?_))))))) | (exfalso; exact no_ne (by assumption) (PegOk.seven (by with_reducible assumption) (by assumption))) | (exfalso; exact no_ne (by assumption) ((PegOk.lett (by with_reducible assumption) (by assumption)).trans (by first | rfl | decide))))
            case ks02 =>
            clear hlk
            intro h tk m F' N' hlk
            try k_sweep
            try dsimp only
            refine cut_cps (g := h₁) (L := L') (fun h m C => News h₁ L' h ((I2, it2) :: (le, listOf #[.int l0 q0] 1) :: (tq, listOf #[.str T0 r0] 1) :: (pk, listOf #[.str x0 z0, .str x1 z1, .str x2 z2] 3) :: (I, itO) :: (L' + 1 + 1 + 1 + 1, oP) :: (L' + 1 + 1 + 1, oD) :: (L' + 1 + 1, oF) :: (L' + 1, o4) :: (pl, listOf #[.int a0 t0, .int a1 t1, .int a2 t2, .int a3 t3] n') :: news) → LK m [(Str.ofString "least", .ref le), (Str.ofString "tops", .ref tq), (Str.ofString "pegs", .ref pk), (Str.ofString "feed", .str (feedS wy) tf), (Str.ofString "way", .int wy tw), (Str.ofString "left", .int left tl), (Str.ofString "home", .int ho th), (Str.ofString "dress", .int dr td)] → C) ?js03 ?ks03
            case js03 =>  -- cut 11
              intro Jq9 hJ9
              replace F' := fr_lk [(Str.ofString "least", .ref le), (Str.ofString "pegs", .ref pk), (Str.ofString "feed", .str (feedS wy) tf)] F' ⟨hlk.1, hlk.2.2.1, hlk.2.2.2.1, trivial⟩
              dsimp only [ovl] at F'
              obtain ⟨go0, hg0⟩ : ∃ x, (listOf #[.str T0 r0] 1) = x := ⟨_, rfl⟩
              rw [hg0] at N'
              obtain ⟨go1, hg1⟩ : ∃ x, (listOf #[.int a0 t0, .int a1 t1, .int a2 t2, .int a3 t3] n') = x := ⟨_, rfl⟩
              rw [hg1] at N'
              k_steps
              all_goals (first | (subst hg0; subst hg1; refine' hJ9 (by k_asm) (fun C9 k9 => k9 ?zqN ⟨rfl, ?zqL1, rfl, rfl, ?zqL4, ?zqL5, ?zqL6, ?zqL7, trivial⟩); (case zqL1 => exact hlk.2.1); (case zqL4 => exact hlk.2.2.2.2.1); (case zqL5 => exact hlk.2.2.2.2.2.1); (case zqL6 => exact hlk.2.2.2.2.2.2.1); (case zqL7 => exact hlk.2.2.2.2.2.2.2.1); (case zqN => first | with_reducible assumption | (refine' cb_drop ?zqcbN ?zqcbS; (case zqcbN => with_reducible assumption); (case zqcbS => ((repeat (refine List.forall_mem_cons.mpr ⟨?_, ?_⟩; focus k_mem)); (repeat (first | exact fun _ h => h | refine sub_tail ?_))))))) | (exfalso; exact no_isnot (by assumption)))
            case ks03 =>
            clear hlk
            intro h tk m F' N' hlk
            try k_sweep
            try dsimp only
            refine cut_cps (g := h₁) (L := L') (fun h m C => News h₁ L' h ((I2, it2) :: (le, listOf #[.int l0 q0] 1) :: (tq, listOf #[.str T0 r0] 1) :: (pk, listOf #[.str x0 z0, .str x1 z1, .str x2 z2] 3) :: (I, itO) :: (L' + 1 + 1 + 1 + 1, oP) :: (L' + 1 + 1 + 1, oD) :: (L' + 1 + 1, oF) :: (L' + 1, o4) :: (pl, listOf #[.int a0 t0, .int a1 t1, .int a2 t2, .int a3 t3] n') :: news) → LK m [(Str.ofString "least", .ref le), (Str.ofString "tops", .ref tq), (Str.ofString "pegs", .ref pk), (Str.ofString "feed", .str (feedS wy) tf), (Str.ofString "way", .int wy tw), (Str.ofString "left", .int left tl), (Str.ofString "home", .int ho th), (Str.ofString "dress", .int dr td)] → C) ?js04 ?ks04
            case js04 =>  -- cut 12
              intro Jq9 hJ9
              replace F' := fr_lk [(Str.ofString "tops", .ref tq), (Str.ofString "pegs", .ref pk), (Str.ofString "feed", .str (feedS wy) tf)] F' ⟨hlk.2.1, hlk.2.2.1, hlk.2.2.2.1, trivial⟩
              dsimp only [ovl] at F'
              obtain ⟨go0, hg0⟩ : ∃ x, (listOf #[.int l0 q0] 1) = x := ⟨_, rfl⟩
              rw [hg0] at N'
              obtain ⟨go1, hg1⟩ : ∃ x, (listOf #[.int a0 t0, .int a1 t1, .int a2 t2, .int a3 t3] n') = x := ⟨_, rfl⟩
              rw [hg1] at N'
              k_steps
              all_goals (subst hg0; subst hg1; refine' hJ9 (by k_asm) (fun C9 k9 => k9 ?zqN ⟨?zqL0, rfl, rfl, rfl, ?zqL4, ?zqL5, ?zqL6, ?zqL7, trivial⟩); (case zqL0 => exact hlk.1); (case zqL4 => exact hlk.2.2.2.2.1); (case zqL5 => exact hlk.2.2.2.2.2.1); (case zqL6 => exact hlk.2.2.2.2.2.2.1); (case zqL7 => exact hlk.2.2.2.2.2.2.2.1); (case zqN => first | with_reducible assumption | (refine' cb_drop ?zqcbN ?zqcbS; (case zqcbN => with_reducible assumption); (case zqcbS => ((repeat (refine List.forall_mem_cons.mpr ⟨?_, ?_⟩; focus k_mem)); (repeat (first | exact fun _ h => h | refine sub_tail ?_)))))))
            case ks04 =>
            clear hlk
            intro h tk m F' N' hlk
            try k_sweep
            try dsimp only
            refine wpAny_execs_nil ?_
            subst hit2
            refine hU9 Flow.next _ ?_
            refine UpEnd.intro F' N' (by first | k_all | fail) (fun C9 k9 => k9 r0 r1 r2 q0 q1 q2 oP _ hlk rfl dP)
          focus
            replace dP : oP.data = .cell (some (.int 1 tP)) := dP
            replace N' : News h₁ L' h ((I2, it2) :: (le, listOf #[.int l0 q0] 1) :: (tq, listOf #[.str T0 r0] 1) :: (pk, listOf #[.str x0 z0, .str x1 z1, .str x2 z2] 3) :: (I, itO) :: (L' + 1 + 1 + 1 + 1, oP) :: (L' + 1 + 1 + 1, oD) :: (L' + 1 + 1, oF) :: (L' + 1, o4) :: (pl, listOf #[.int a0 t0, .int a1 t1, .int a2 t2, .int a3 t3] n') :: news) := N'
            try k_sweep
            refine cut_cps (g := h₁) (L := L') (fun h m C => ∀ (r1 : Tok), News h₁ L' h ((I2, it2) :: (le, listOf #[.int l0 q0] 1) :: (tq, listOf #[.str T0 r0, .str T1 r1] 2) :: (pk, listOf #[.str x0 z0, .str x1 z1, .str x2 z2] 3) :: (I, itO) :: (L' + 1 + 1 + 1 + 1, oP) :: (L' + 1 + 1 + 1, oD) :: (L' + 1 + 1, oF) :: (L' + 1, o4) :: (pl, listOf #[.int a0 t0, .int a1 t1, .int a2 t2, .int a3 t3] n') :: news) → LK m [(Str.ofString "least", .ref le), (Str.ofString "tops", .ref tq), (Str.ofString "pegs", .ref pk), (Str.ofString "feed", .str (feedS wy) tf), (Str.ofString "way", .int wy tw), (Str.ofString "left", .int left tl), (Str.ofString "home", .int ho th), (Str.ofString "dress", .int dr td)] → C) ?js10 ?ks10
            case js10 =>  -- cut 8
              intro Jq9 hJ9
              replace F' := fr_lk [(Str.ofString "tops", .ref tq), (Str.ofString "pegs", .ref pk), (Str.ofString "way", .int wy tw)] F' ⟨hlk.2.1, hlk.2.2.1, hlk.2.2.2.2.1, trivial⟩
              dsimp only [ovl] at F'
              obtain ⟨go0, hg0⟩ : ∃ x, (listOf #[.int l0 q0] 1) = x := ⟨_, rfl⟩
              rw [hg0] at N'
              obtain ⟨go1, hg1⟩ : ∃ x, (listOf #[.int a0 t0, .int a1 t1, .int a2 t2, .int a3 t3] n') = x := ⟨_, rfl⟩
              rw [hg1] at N'
              k_steps
              all_goals (subst hg0; subst hg1; refine' hJ9 (by k_asm) (fun C9 k9 => k9 _ ?zqN ⟨?zqL0, rfl, rfl, ?zqL3, rfl, ?zqL5, ?zqL6, ?zqL7, trivial⟩); (case zqL0 => exact hlk.1); (case zqL3 => exact hlk.2.2.2.1); (case zqL5 => exact hlk.2.2.2.2.2.1); (case zqL6 => exact hlk.2.2.2.2.2.2.1); (case zqL7 => exact hlk.2.2.2.2.2.2.2.1); (case zqN => first | with_reducible assumption | (refine' cb_drop ?zqcbN ?zqcbS; (case zqcbN => with_reducible assumption); (case zqcbS => ((repeat (refine List.forall_mem_cons.mpr ⟨?_, ?_⟩; focus k_mem)); (repeat (first | exact fun _ h => h | refine sub_tail ?_)))))))
            case ks10 =>
            clear hlk
            intro h tk m F' r1 N' hlk
            try k_sweep
            try dsimp only
            refine cut_cps (g := h₁) (L := L') (fun h m C => ∀ (q1 : Tok), News h₁ L' h ((I2, it2) :: (le, listOf #[.int l0 q0, .int l1 q1] 2) :: (tq, listOf #[.str T0 r0, .str T1 r1] 2) :: (pk, listOf #[.str x0 z0, .str x1 z1, .str x2 z2] 3) :: (I, itO) :: (L' + 1 + 1 + 1 + 1, oP) :: (L' + 1 + 1 + 1, oD) :: (L' + 1 + 1, oF) :: (L' + 1, o4) :: (pl, listOf #[.int a0 t0, .int a1 t1, .int a2 t2, .int a3 t3] n') :: news) → LK m [(Str.ofString "least", .ref le), (Str.ofString "tops", .ref tq), (Str.ofString "pegs", .ref pk), (Str.ofString "feed", .str (feedS wy) tf), (Str.ofString "way", .int wy tw), (Str.ofString "left", .int left tl), (Str.ofString "home", .int ho th), (Str.ofString "dress", .int dr td)] → C) ?js11 ?ks11
            case js11 =>  -- cut 9
              intro Jq9 hJ9
              replace F' := fr_lk [(Str.ofString "least", .ref le)] F' ⟨hlk.1, trivial⟩
              dsimp only [ovl] at F'
              obtain ⟨go0, hg0⟩ : ∃ x, (listOf #[.str T0 r0, .str T1 r1] 2) = x := ⟨_, rfl⟩
              rw [hg0] at N'
              obtain ⟨go1, hg1⟩ : ∃ x, (listOf #[.str x0 z0, .str x1 z1, .str x2 z2] 3) = x := ⟨_, rfl⟩
              rw [hg1] at N'
              k_steps
              (k_dflt (refine LCt.CompSrcT.range (a := 0) (b := 4) (n := 4) (by rfl) (by k_asm) (by k_asm) (by assumption) (by decide) (by rfl) (by exact Nat.le_of_ble_eq_true rfl) ?_))
              intro g9
              refine kci_range (filtG a0 a1 a2 a3 1) ?tn ?fn ?gr
              case gr => (intro l9 k9; unfold filtG; split; (rw [List.length_append, List.length_singleton]; omega); omega)
              case tn =>
                intro k9 t9 I9 oI9 C9 oC9 D9 m9 ys9 l9 h9 tk9 E9 hlo9 hhi9 hI9 hC9 hx9 F' N' off' ne' mk9
                simp only [LCg.Off3, and_true] at off'
                try k_fold
                k_steps
              case fn =>
                unfold KPfDone
                intro ys9 hI9 hl9
                k_steps
                rename (_ ∈ _ ++ [4]) => ha9
                rename (∀ a, a ∈ _ ++ [4] → _) => hb9
                have hM9 := (hp1.2.2.2.2.2.2.2).trans (least_of ha9 hb9).symm
                subst hM9
                rename News _ _ _ _ => N9
                replace N9 := news_tail (news_tail (news_tail N9))
                k_steps
                all_goals (subst hg0; subst hg1; refine' hJ9 (by k_asm) (fun C9 k9 => k9 _ ?zqN ⟨rfl, ?zqL1, ?zqL2, ?zqL3, ?zqL4, ?zqL5, ?zqL6, ?zqL7, trivial⟩); (case zqL1 => exact hlk.2.1); (case zqL2 => exact hlk.2.2.1); (case zqL3 => exact hlk.2.2.2.1); (case zqL4 => exact hlk.2.2.2.2.1); (case zqL5 => exact hlk.2.2.2.2.2.1); (case zqL6 => exact hlk.2.2.2.2.2.2.1); (case zqL7 => exact hlk.2.2.2.2.2.2.2.1); (case zqN => first | with_reducible assumption | (refine' cb_drop ?zqcbN ?zqcbS; (case zqcbN => with_reducible assumption); (case zqcbS => ((repeat (refine List.forall_mem_cons.mpr ⟨?_, ?_⟩; focus k_mem)); (repeat (first | exact fun _ h => h | refine sub_tail ?_)))))))
            case ks11 =>
            clear hlk
            intro h tk m F' q1 N' hlk
            try k_sweep
            try dsimp only
            refine cut_cps (g := h₁) (L := L') (fun h m C => News h₁ L' h ((I2, it2) :: (le, listOf #[.int l0 q0, .int l1 q1] 2) :: (tq, listOf #[.str T0 r0, .str T1 r1] 2) :: (pk, listOf #[.str x0 z0, .str x1 z1, .str x2 z2] 3) :: (I, itO) :: (L' + 1 + 1 + 1 + 1, oP) :: (L' + 1 + 1 + 1, oD) :: (L' + 1 + 1, oF) :: (L' + 1, o4) :: (pl, listOf #[.int a0 t0, .int a1 t1, .int a2 t2, .int a3 t3] n') :: news) → LK m [(Str.ofString "least", .ref le), (Str.ofString "tops", .ref tq), (Str.ofString "pegs", .ref pk), (Str.ofString "feed", .str (feedS wy) tf), (Str.ofString "way", .int wy tw), (Str.ofString "left", .int left tl), (Str.ofString "home", .int ho th), (Str.ofString "dress", .int dr td)] → C) ?js12 ?ks12
            case js12 =>  -- cut 10
              intro Jq9 hJ9
              replace F' := fr_lk [(Str.ofString "least", .ref le), (Str.ofString "tops", .ref tq)] F' ⟨hlk.1, hlk.2.1, trivial⟩
              dsimp only [ovl] at F'
              obtain ⟨go0, hg0⟩ : ∃ x, (listOf #[.str x0 z0, .str x1 z1, .str x2 z2] 3) = x := ⟨_, rfl⟩
              rw [hg0] at N'
              obtain ⟨go1, hg1⟩ : ∃ x, (listOf #[.int a0 t0, .int a1 t1, .int a2 t2, .int a3 t3] n') = x := ⟨_, rfl⟩
              rw [hg1] at N'
              k_steps
              all_goals (first | (subst hg0; subst hg1; refine' hJ9 (by k_asm) (fun C9 k9 => k9 ?zqN ⟨rfl, rfl, ?zqL2, ?zqL3, ?zqL4, ?zqL5, ?zqL6, ?zqL7, trivial⟩); (case zqL2 => exact hlk.2.2.1); (case zqL3 => exact hlk.2.2.2.1); (case zqL4 => exact hlk.2.2.2.2.1); (case zqL5 => exact hlk.2.2.2.2.2.1); (case zqL6 => exact hlk.2.2.2.2.2.2.1); (case zqL7 => exact hlk.2.2.2.2.2.2.2.1); (case zqN => first | with_reducible assumption | (refine' cb_drop ?zqcbN ?zqcbS; (case zqcbN => with_reducible assumption); (case zqcbS => ((repeat (refine List.forall_mem_cons.mpr ⟨?_, ?_⟩; focus k_mem)); (repeat (first | exact fun _ h => h | refine sub_tail ?_))))))) | (exfalso; exact no_ne (by assumption) (PegOk.seven (by with_reducible assumption) (by assumption))) | (exfalso; exact no_ne (by assumption) ((PegOk.lett (by with_reducible assumption) (by assumption)).trans (by first | rfl | decide))))
            case ks12 =>
            clear hlk
            intro h tk m F' N' hlk
            try k_sweep
            try dsimp only
            refine cut_cps (g := h₁) (L := L') (fun h m C => News h₁ L' h ((I2, it2) :: (le, listOf #[.int l0 q0, .int l1 q1] 2) :: (tq, listOf #[.str T0 r0, .str T1 r1] 2) :: (pk, listOf #[.str x0 z0, .str x1 z1, .str x2 z2] 3) :: (I, itO) :: (L' + 1 + 1 + 1 + 1, oP) :: (L' + 1 + 1 + 1, oD) :: (L' + 1 + 1, oF) :: (L' + 1, o4) :: (pl, listOf #[.int a0 t0, .int a1 t1, .int a2 t2, .int a3 t3] n') :: news) → LK m [(Str.ofString "least", .ref le), (Str.ofString "tops", .ref tq), (Str.ofString "pegs", .ref pk), (Str.ofString "feed", .str (feedS wy) tf), (Str.ofString "way", .int wy tw), (Str.ofString "left", .int left tl), (Str.ofString "home", .int ho th), (Str.ofString "dress", .int dr td)] → C) ?js13 ?ks13
            case js13 =>  -- cut 11
              intro Jq9 hJ9
              replace F' := fr_lk [(Str.ofString "least", .ref le), (Str.ofString "pegs", .ref pk), (Str.ofString "feed", .str (feedS wy) tf)] F' ⟨hlk.1, hlk.2.2.1, hlk.2.2.2.1, trivial⟩
              dsimp only [ovl] at F'
              obtain ⟨go0, hg0⟩ : ∃ x, (listOf #[.str T0 r0, .str T1 r1] 2) = x := ⟨_, rfl⟩
              rw [hg0] at N'
              obtain ⟨go1, hg1⟩ : ∃ x, (listOf #[.int a0 t0, .int a1 t1, .int a2 t2, .int a3 t3] n') = x := ⟨_, rfl⟩
              rw [hg1] at N'
              k_steps
              all_goals (first | (subst hg0; subst hg1; refine' hJ9 (by k_asm) (fun C9 k9 => k9 ?zqN ⟨rfl, ?zqL1, rfl, rfl, ?zqL4, ?zqL5, ?zqL6, ?zqL7, trivial⟩); (case zqL1 => exact hlk.2.1); (case zqL4 => exact hlk.2.2.2.2.1); (case zqL5 => exact hlk.2.2.2.2.2.1); (case zqL6 => exact hlk.2.2.2.2.2.2.1); (case zqL7 => exact hlk.2.2.2.2.2.2.2.1); (case zqN => first | with_reducible assumption | (refine' cb_drop ?zqcbN ?zqcbS; (case zqcbN => with_reducible assumption); (case zqcbS => ((repeat (refine List.forall_mem_cons.mpr ⟨?_, ?_⟩; focus k_mem)); (repeat (first | exact fun _ h => h | refine sub_tail ?_))))))) | (exfalso; exact no_isnot (by assumption)))
            case ks13 =>
            clear hlk
            intro h tk m F' N' hlk
            try k_sweep
            try dsimp only
            refine cut_cps (g := h₁) (L := L') (fun h m C => News h₁ L' h ((I2, it2) :: (le, listOf #[.int l0 q0, .int l1 q1] 2) :: (tq, listOf #[.str T0 r0, .str T1 r1] 2) :: (pk, listOf #[.str x0 z0, .str x1 z1, .str x2 z2] 3) :: (I, itO) :: (L' + 1 + 1 + 1 + 1, oP) :: (L' + 1 + 1 + 1, oD) :: (L' + 1 + 1, oF) :: (L' + 1, o4) :: (pl, listOf #[.int a0 t0, .int a1 t1, .int a2 t2, .int a3 t3] n') :: news) → LK m [(Str.ofString "least", .ref le), (Str.ofString "tops", .ref tq), (Str.ofString "pegs", .ref pk), (Str.ofString "feed", .str (feedS wy) tf), (Str.ofString "way", .int wy tw), (Str.ofString "left", .int left tl), (Str.ofString "home", .int ho th), (Str.ofString "dress", .int dr td)] → C) ?js14 ?ks14
            case js14 =>  -- cut 12
              intro Jq9 hJ9
              replace F' := fr_lk [(Str.ofString "tops", .ref tq), (Str.ofString "pegs", .ref pk), (Str.ofString "feed", .str (feedS wy) tf)] F' ⟨hlk.2.1, hlk.2.2.1, hlk.2.2.2.1, trivial⟩
              dsimp only [ovl] at F'
              obtain ⟨go0, hg0⟩ : ∃ x, (listOf #[.int l0 q0, .int l1 q1] 2) = x := ⟨_, rfl⟩
              rw [hg0] at N'
              obtain ⟨go1, hg1⟩ : ∃ x, (listOf #[.int a0 t0, .int a1 t1, .int a2 t2, .int a3 t3] n') = x := ⟨_, rfl⟩
              rw [hg1] at N'
              k_steps
              all_goals (subst hg0; subst hg1; refine' hJ9 (by k_asm) (fun C9 k9 => k9 ?zqN ⟨?zqL0, rfl, rfl, rfl, ?zqL4, ?zqL5, ?zqL6, ?zqL7, trivial⟩); (case zqL0 => exact hlk.1); (case zqL4 => exact hlk.2.2.2.2.1); (case zqL5 => exact hlk.2.2.2.2.2.1); (case zqL6 => exact hlk.2.2.2.2.2.2.1); (case zqL7 => exact hlk.2.2.2.2.2.2.2.1); (case zqN => first | with_reducible assumption | (refine' cb_drop ?zqcbN ?zqcbS; (case zqcbN => with_reducible assumption); (case zqcbS => ((repeat (refine List.forall_mem_cons.mpr ⟨?_, ?_⟩; focus k_mem)); (repeat (first | exact fun _ h => h | refine sub_tail ?_)))))))
            case ks14 =>
            clear hlk
            intro h tk m F' N' hlk
            try k_sweep
            try dsimp only
            refine wpAny_execs_nil ?_
            subst hit2
            refine hU9 Flow.next _ ?_
            refine UpEnd.intro F' N' (by first | k_all | fail) (fun C9 k9 => k9 r0 r1 r2 q0 q1 q2 oP _ hlk rfl dP)
          focus
            replace dP : oP.data = .cell (some (.int 2 tP)) := dP
            replace N' : News h₁ L' h ((I2, it2) :: (le, listOf #[.int l0 q0, .int l1 q1] 2) :: (tq, listOf #[.str T0 r0, .str T1 r1] 2) :: (pk, listOf #[.str x0 z0, .str x1 z1, .str x2 z2] 3) :: (I, itO) :: (L' + 1 + 1 + 1 + 1, oP) :: (L' + 1 + 1 + 1, oD) :: (L' + 1 + 1, oF) :: (L' + 1, o4) :: (pl, listOf #[.int a0 t0, .int a1 t1, .int a2 t2, .int a3 t3] n') :: news) := N'
            try k_sweep
            refine cut_cps (g := h₁) (L := L') (fun h m C => ∀ (r2 : Tok), News h₁ L' h ((I2, it2) :: (le, listOf #[.int l0 q0, .int l1 q1] 2) :: (tq, listOf #[.str T0 r0, .str T1 r1, .str T2 r2] 3) :: (pk, listOf #[.str x0 z0, .str x1 z1, .str x2 z2] 3) :: (I, itO) :: (L' + 1 + 1 + 1 + 1, oP) :: (L' + 1 + 1 + 1, oD) :: (L' + 1 + 1, oF) :: (L' + 1, o4) :: (pl, listOf #[.int a0 t0, .int a1 t1, .int a2 t2, .int a3 t3] n') :: news) → LK m [(Str.ofString "least", .ref le), (Str.ofString "tops", .ref tq), (Str.ofString "pegs", .ref pk), (Str.ofString "feed", .str (feedS wy) tf), (Str.ofString "way", .int wy tw), (Str.ofString "left", .int left tl), (Str.ofString "home", .int ho th), (Str.ofString "dress", .int dr td)] → C) ?js20 ?ks20
            case js20 =>  -- cut 8
              intro Jq9 hJ9
              replace F' := fr_lk [(Str.ofString "tops", .ref tq), (Str.ofString "pegs", .ref pk), (Str.ofString "way", .int wy tw)] F' ⟨hlk.2.1, hlk.2.2.1, hlk.2.2.2.2.1, trivial⟩
              dsimp only [ovl] at F'
              obtain ⟨go0, hg0⟩ : ∃ x, (listOf #[.int l0 q0, .int l1 q1] 2) = x := ⟨_, rfl⟩
              rw [hg0] at N'
              obtain ⟨go1, hg1⟩ : ∃ x, (listOf #[.int a0 t0, .int a1 t1, .int a2 t2, .int a3 t3] n') = x := ⟨_, rfl⟩
              rw [hg1] at N'
              k_steps
              all_goals (subst hg0; subst hg1; refine' hJ9 (by k_asm) (fun C9 k9 => k9 _ ?zqN ⟨?zqL0, rfl, rfl, ?zqL3, rfl, ?zqL5, ?zqL6, ?zqL7, trivial⟩); (case zqL0 => exact hlk.1); (case zqL3 => exact hlk.2.2.2.1); (case zqL5 => exact hlk.2.2.2.2.2.1); (case zqL6 => exact hlk.2.2.2.2.2.2.1); (case zqL7 => exact hlk.2.2.2.2.2.2.2.1); (case zqN => first | with_reducible assumption | (refine' cb_drop ?zqcbN ?zqcbS; (case zqcbN => with_reducible assumption); (case zqcbS => ((repeat (refine List.forall_mem_cons.mpr ⟨?_, ?_⟩; focus k_mem)); (repeat (first | exact fun _ h => h | refine sub_tail ?_)))))))
            case ks20 =>
            clear hlk
            intro h tk m F' r2 N' hlk
            try k_sweep
            try dsimp only
            refine cut_cps (g := h₁) (L := L') (fun h m C => ∀ (q2 : Tok), News h₁ L' h ((I2, it2) :: (le, listOf #[.int l0 q0, .int l1 q1, .int l2 q2] 3) :: (tq, listOf #[.str T0 r0, .str T1 r1, .str T2 r2] 3) :: (pk, listOf #[.str x0 z0, .str x1 z1, .str x2 z2] 3) :: (I, itO) :: (L' + 1 + 1 + 1 + 1, oP) :: (L' + 1 + 1 + 1, oD) :: (L' + 1 + 1, oF) :: (L' + 1, o4) :: (pl, listOf #[.int a0 t0, .int a1 t1, .int a2 t2, .int a3 t3] n') :: news) → LK m [(Str.ofString "least", .ref le), (Str.ofString "tops", .ref tq), (Str.ofString "pegs", .ref pk), (Str.ofString "feed", .str (feedS wy) tf), (Str.ofString "way", .int wy tw), (Str.ofString "left", .int left tl), (Str.ofString "home", .int ho th), (Str.ofString "dress", .int dr td)] → C) ?js21 ?ks21
            case js21 =>  -- cut 9
              intro Jq9 hJ9
              replace F' := fr_lk [(Str.ofString "least", .ref le)] F' ⟨hlk.1, trivial⟩
              dsimp only [ovl] at F'
              obtain ⟨go0, hg0⟩ : ∃ x, (listOf #[.str T0 r0, .str T1 r1, .str T2 r2] 3) = x := ⟨_, rfl⟩
              rw [hg0] at N'
              obtain ⟨go1, hg1⟩ : ∃ x, (listOf #[.str x0 z0, .str x1 z1, .str x2 z2] 3) = x := ⟨_, rfl⟩
              rw [hg1] at N'
              k_steps
              (k_dflt (refine LCt.CompSrcT.range (a := 0) (b := 4) (n := 4) (by rfl) (by k_asm) (by k_asm) (by assumption) (by decide) (by rfl) (by exact Nat.le_of_ble_eq_true rfl) ?_))
              intro g9
              refine kci_range (filtG a0 a1 a2 a3 2) ?tn ?fn ?gr
              case gr => (intro l9 k9; unfold filtG; split; (rw [List.length_append, List.length_singleton]; omega); omega)
              case tn =>
                intro k9 t9 I9 oI9 C9 oC9 D9 m9 ys9 l9 h9 tk9 E9 hlo9 hhi9 hI9 hC9 hx9 F' N' off' ne' mk9
                simp only [LCg.Off3, and_true] at off'
                try k_fold
                k_steps
              case fn =>
                unfold KPfDone
                intro ys9 hI9 hl9
                k_steps
                rename (_ ∈ _ ++ [4]) => ha9
                rename (∀ a, a ∈ _ ++ [4] → _) => hb9
                have hM9 := (hp2.2.2.2.2.2.2.2).trans (least_of ha9 hb9).symm
                subst hM9
                rename News _ _ _ _ => N9
                replace N9 := news_tail (news_tail (news_tail N9))
                k_steps
                all_goals (subst hg0; subst hg1; refine' hJ9 (by k_asm) (fun C9 k9 => k9 _ ?zqN ⟨rfl, ?zqL1, ?zqL2, ?zqL3, ?zqL4, ?zqL5, ?zqL6, ?zqL7, trivial⟩); (case zqL1 => exact hlk.2.1); (case zqL2 => exact hlk.2.2.1); (case zqL3 => exact hlk.2.2.2.1); (case zqL4 => exact hlk.2.2.2.2.1); (case zqL5 => exact hlk.2.2.2.2.2.1); (case zqL6 => exact hlk.2.2.2.2.2.2.1); (case zqL7 => exact hlk.2.2.2.2.2.2.2.1); (case zqN => first | with_reducible assumption | (refine' cb_drop ?zqcbN ?zqcbS; (case zqcbN => with_reducible assumption); (case zqcbS => ((repeat (refine List.forall_mem_cons.mpr ⟨?_, ?_⟩; focus k_mem)); (repeat (first | exact fun _ h => h | refine sub_tail ?_)))))))
            case ks21 =>
            clear hlk
            intro h tk m F' q2 N' hlk
            try k_sweep
            try dsimp only
            refine cut_cps (g := h₁) (L := L') (fun h m C => News h₁ L' h ((I2, it2) :: (le, listOf #[.int l0 q0, .int l1 q1, .int l2 q2] 3) :: (tq, listOf #[.str T0 r0, .str T1 r1, .str T2 r2] 3) :: (pk, listOf #[.str x0 z0, .str x1 z1, .str x2 z2] 3) :: (I, itO) :: (L' + 1 + 1 + 1 + 1, oP) :: (L' + 1 + 1 + 1, oD) :: (L' + 1 + 1, oF) :: (L' + 1, o4) :: (pl, listOf #[.int a0 t0, .int a1 t1, .int a2 t2, .int a3 t3] n') :: news) → LK m [(Str.ofString "least", .ref le), (Str.ofString "tops", .ref tq), (Str.ofString "pegs", .ref pk), (Str.ofString "feed", .str (feedS wy) tf), (Str.ofString "way", .int wy tw), (Str.ofString "left", .int left tl), (Str.ofString "home", .int ho th), (Str.ofString "dress", .int dr td)] → C) ?js22 ?ks22
            case js22 =>  -- cut 10
              intro Jq9 hJ9
              replace F' := fr_lk [(Str.ofString "least", .ref le), (Str.ofString "tops", .ref tq)] F' ⟨hlk.1, hlk.2.1, trivial⟩
              dsimp only [ovl] at F'
              obtain ⟨go0, hg0⟩ : ∃ x, (listOf #[.str x0 z0, .str x1 z1, .str x2 z2] 3) = x := ⟨_, rfl⟩
              rw [hg0] at N'
              obtain ⟨go1, hg1⟩ : ∃ x, (listOf #[.int a0 t0, .int a1 t1, .int a2 t2, .int a3 t3] n') = x := ⟨_, rfl⟩
              rw [hg1] at N'
              k_steps
              all_goals (first | (subst hg0; subst hg1; refine' hJ9 (by k_asm) (fun C9 k9 => k9 ?zqN ⟨rfl, rfl, ?zqL2, ?zqL3, ?zqL4, ?zqL5, ?zqL6, ?zqL7, trivial⟩); (case zqL2 => exact hlk.2.2.1); (case zqL3 => exact hlk.2.2.2.1); (case zqL4 => exact hlk.2.2.2.2.1); (case zqL5 => exact hlk.2.2.2.2.2.1); (case zqL6 => exact hlk.2.2.2.2.2.2.1); (case zqL7 => exact hlk.2.2.2.2.2.2.2.1); (case zqN => first | with_reducible assumption | (refine' cb_drop ?zqcbN ?zqcbS; (case zqcbN => with_reducible assumption); (case zqcbS => ((repeat (refine List.forall_mem_cons.mpr ⟨?_, ?_⟩; focus k_mem)); (repeat (first | exact fun _ h => h | refine sub_tail ?_))))))) | (exfalso; exact no_ne (by assumption) (PegOk.seven (by with_reducible assumption) (by assumption))) | (exfalso; exact no_ne (by assumption) ((PegOk.lett (by with_reducible assumption) (by assumption)).trans (by first | rfl | decide))))
            case ks22 =>
            clear hlk
            intro h tk m F' N' hlk
            try k_sweep
            try dsimp only
            refine cut_cps (g := h₁) (L := L') (fun h m C => News h₁ L' h ((I2, it2) :: (le, listOf #[.int l0 q0, .int l1 q1, .int l2 q2] 3) :: (tq, listOf #[.str T0 r0, .str T1 r1, .str T2 r2] 3) :: (pk, listOf #[.str x0 z0, .str x1 z1, .str x2 z2] 3) :: (I, itO) :: (L' + 1 + 1 + 1 + 1, oP) :: (L' + 1 + 1 + 1, oD) :: (L' + 1 + 1, oF) :: (L' + 1, o4) :: (pl, listOf #[.int a0 t0, .int a1 t1, .int a2 t2, .int a3 t3] n') :: news) → LK m [(Str.ofString "least", .ref le), (Str.ofString "tops", .ref tq), (Str.ofString "pegs", .ref pk), (Str.ofString "feed", .str (feedS wy) tf), (Str.ofString "way", .int wy tw), (Str.ofString "left", .int left tl), (Str.ofString "home", .int ho th), (Str.ofString "dress", .int dr td)] → C) ?js23 ?ks23
            case js23 =>  -- cut 11
              intro Jq9 hJ9
              replace F' := fr_lk [(Str.ofString "least", .ref le), (Str.ofString "pegs", .ref pk), (Str.ofString "feed", .str (feedS wy) tf)] F' ⟨hlk.1, hlk.2.2.1, hlk.2.2.2.1, trivial⟩
              dsimp only [ovl] at F'
              obtain ⟨go0, hg0⟩ : ∃ x, (listOf #[.str T0 r0, .str T1 r1, .str T2 r2] 3) = x := ⟨_, rfl⟩
              rw [hg0] at N'
              obtain ⟨go1, hg1⟩ : ∃ x, (listOf #[.int a0 t0, .int a1 t1, .int a2 t2, .int a3 t3] n') = x := ⟨_, rfl⟩
              rw [hg1] at N'
              k_steps
              all_goals (first | (subst hg0; subst hg1; refine' hJ9 (by k_asm) (fun C9 k9 => k9 ?zqN ⟨rfl, ?zqL1, rfl, rfl, ?zqL4, ?zqL5, ?zqL6, ?zqL7, trivial⟩); (case zqL1 => exact hlk.2.1); (case zqL4 => exact hlk.2.2.2.2.1); (case zqL5 => exact hlk.2.2.2.2.2.1); (case zqL6 => exact hlk.2.2.2.2.2.2.1); (case zqL7 => exact hlk.2.2.2.2.2.2.2.1); (case zqN => first | with_reducible assumption | (refine' cb_drop ?zqcbN ?zqcbS; (case zqcbN => with_reducible assumption); (case zqcbS => ((repeat (refine List.forall_mem_cons.mpr ⟨?_, ?_⟩; focus k_mem)); (repeat (first | exact fun _ h => h | refine sub_tail ?_))))))) | (exfalso; exact no_isnot (by assumption)))
            case ks23 =>
            clear hlk
            intro h tk m F' N' hlk
            try k_sweep
            try dsimp only
            refine cut_cps (g := h₁) (L := L') (fun h m C => News h₁ L' h ((I2, it2) :: (le, listOf #[.int l0 q0, .int l1 q1, .int l2 q2] 3) :: (tq, listOf #[.str T0 r0, .str T1 r1, .str T2 r2] 3) :: (pk, listOf #[.str x0 z0, .str x1 z1, .str x2 z2] 3) :: (I, itO) :: (L' + 1 + 1 + 1 + 1, oP) :: (L' + 1 + 1 + 1, oD) :: (L' + 1 + 1, oF) :: (L' + 1, o4) :: (pl, listOf #[.int a0 t0, .int a1 t1, .int a2 t2, .int a3 t3] n') :: news) → LK m [(Str.ofString "least", .ref le), (Str.ofString "tops", .ref tq), (Str.ofString "pegs", .ref pk), (Str.ofString "feed", .str (feedS wy) tf), (Str.ofString "way", .int wy tw), (Str.ofString "left", .int left tl), (Str.ofString "home", .int ho th), (Str.ofString "dress", .int dr td)] → C) ?js24 ?ks24
            case js24 =>  -- cut 12
              intro Jq9 hJ9
              replace F' := fr_lk [(Str.ofString "tops", .ref tq), (Str.ofString "pegs", .ref pk), (Str.ofString "feed", .str (feedS wy) tf)] F' ⟨hlk.2.1, hlk.2.2.1, hlk.2.2.2.1, trivial⟩
              dsimp only [ovl] at F'
              obtain ⟨go0, hg0⟩ : ∃ x, (listOf #[.int l0 q0, .int l1 q1, .int l2 q2] 3) = x := ⟨_, rfl⟩
              rw [hg0] at N'
              obtain ⟨go1, hg1⟩ : ∃ x, (listOf #[.int a0 t0, .int a1 t1, .int a2 t2, .int a3 t3] n') = x := ⟨_, rfl⟩
              rw [hg1] at N'
              k_steps
              all_goals (subst hg0; subst hg1; refine' hJ9 (by k_asm) (fun C9 k9 => k9 ?zqN ⟨?zqL0, rfl, rfl, rfl, ?zqL4, ?zqL5, ?zqL6, ?zqL7, trivial⟩); (case zqL0 => exact hlk.1); (case zqL4 => exact hlk.2.2.2.2.1); (case zqL5 => exact hlk.2.2.2.2.2.1); (case zqL6 => exact hlk.2.2.2.2.2.2.1); (case zqL7 => exact hlk.2.2.2.2.2.2.2.1); (case zqN => first | with_reducible assumption | (refine' cb_drop ?zqcbN ?zqcbS; (case zqcbN => with_reducible assumption); (case zqcbS => ((repeat (refine List.forall_mem_cons.mpr ⟨?_, ?_⟩; focus k_mem)); (repeat (first | exact fun _ h => h | refine sub_tail ?_)))))))
            case ks24 =>
            clear hlk
            intro h tk m F' N' hlk
            try k_sweep
            try dsimp only
            refine wpAny_execs_nil ?_
            subst hit2
            refine hU9 Flow.next _ ?_
            refine UpEnd.intro F' N' (by first | k_all | fail) (fun C9 k9 => k9 r0 r1 r2 q0 q1 q2 oP _ hlk rfl dP)
    case ks =>
    clear hlk
    intro h tk m F' r0 r1 r2 q0 q1 q2 oP vP N' hlk dP
    try k_sweep
    try dsimp only
    have hIL : IntsAre [.int l0 q0, .int l1 q1, .int l2 q2] [l0, l1, l2] := .cons _ _ (.cons _ _ (.cons _ _ .nil))
    have hBL : BdL [a0, a1, a2, a3] := bdl_of ⟨c0, c1, c2, c3⟩
    obtain ⟨wo, wt, hW⟩ := win_of ⟨c0, c1, c2, c3⟩ bh hleft hl0 hp0 hp1 hp2
    have hWW := hW
    obtain ⟨hwo, hwt, hW3, hW4, hWh⟩ := hW
    have hW3' : ∀ on ot, 0 ≤ on → on ≤ 2 → 0 ≤ ot → ot ≤ 2 → [l0, l1, l2].getD on.toNat 0 < [l0, l1, l2].getD ot.toNat 0 → farL ([a0, a1, a2, a3].set ([l0, l1, l2].getD on.toNat 0).toNat ot) ho 0 < left → 0 < left ∧ on = wo ∧ ot = wt := hW3
    refine cut_cps (g := h₁) (L := L') (fun h m C => ∀ (na : Addr), News h₁ L' h ((na, listOf #[] 0) :: (le, listOf #[.int l0 q0, .int l1 q1, .int l2 q2] 3) :: (tq, listOf #[.str T0 r0, .str T1 r1, .str T2 r2] 3) :: (pk, listOf #[.str x0 z0, .str x1 z1, .str x2 z2] 3) :: (I, itO) :: (L' + 1 + 1 + 1 + 1, oP) :: (L' + 1 + 1 + 1, oD) :: (L' + 1 + 1, oF) :: (L' + 1, o4) :: (pl, listOf #[.int a0 t0, .int a1 t1, .int a2 t2, .int a3 t3] n') :: news) → LK m [(Str.ofString "nearer", .ref na), (Str.ofString "least", .ref le), (Str.ofString "tops", .ref tq), (Str.ofString "pegs", .ref pk), (Str.ofString "feed", .str (feedS wy) tf), (Str.ofString "way", .int wy tw), (Str.ofString "left", .int left tl), (Str.ofString "home", .int ho th), (Str.ofString "dress", .int dr td)] → (@Ne Nat (le) na) → (@Ne Nat (tq) na) → (@Ne Nat (pk) na) → (@Ne Nat (I) na) → (@Ne Nat (L' + 1 + 1 + 1 + 1) na) → (@Ne Nat (L' + 1 + 1 + 1) na) → (@Ne Nat (L' + 1 + 1) na) → (@Ne Nat (L' + 1) na) → (@Ne Nat (pl) na) → TailNe na news → C) ?js ?ks
    case js =>  -- cut 9
      intro Jq9 hJ9
      obtain ⟨go0, hg0⟩ : ∃ x, (listOf #[.int l0 q0, .int l1 q1, .int l2 q2] 3) = x := ⟨_, rfl⟩
      rw [hg0] at N'
      obtain ⟨go1, hg1⟩ : ∃ x, (listOf #[.str T0 r0, .str T1 r1, .str T2 r2] 3) = x := ⟨_, rfl⟩
      rw [hg1] at N'
      obtain ⟨go2, hg2⟩ : ∃ x, (listOf #[.str x0 z0, .str x1 z1, .str x2 z2] 3) = x := ⟨_, rfl⟩
      rw [hg2] at N'
      obtain ⟨go3, hg3⟩ : ∃ x, (listOf #[.int a0 t0, .int a1 t1, .int a2 t2, .int a3 t3] n') = x := ⟨_, rfl⟩
      rw [hg3] at N'
      k_steps
      all_goals (subst hg0; subst hg1; subst hg2; subst hg3; refine' hJ9 (by k_asm) (fun C9 k9 => k9 _ ?zqN ⟨rfl, ?zqL1, ?zqL2, ?zqL3, ?zqL4, ?zqL5, ?zqL6, ?zqL7, ?zqL8, trivial⟩ ?zqA0 ?zqA1 ?zqA2 ?zqA3 ?zqA4 ?zqA5 ?zqA6 ?zqA7 ?zqA8 ?zqA9); (case zqL1 => exact hlk.1); (case zqL2 => exact hlk.2.1); (case zqL3 => exact hlk.2.2.1); (case zqL4 => exact hlk.2.2.2.1); (case zqL5 => exact hlk.2.2.2.2.1); (case zqL6 => exact hlk.2.2.2.2.2.1); (case zqL7 => exact hlk.2.2.2.2.2.2.1); (case zqL8 => exact hlk.2.2.2.2.2.2.2.1); (case zqN => first | with_reducible assumption | (refine' cb_drop ?zqcbN ?zqcbS; (case zqcbN => with_reducible assumption); (case zqcbS => ((repeat (refine List.forall_mem_cons.mpr ⟨?_, ?_⟩; focus k_mem)); (repeat (first | exact fun _ h => h | refine sub_tail ?_)))))); (case zqA0 => (first | with_reducible assumption | ((repeat' (first | with_reducible assumption | (with_reducible refine And.intro ?_ ?_) | (with_reducible exact tailNe_lt (by assumption)) | (with_reducible exact tailNe_off (by assumption)) | (exact tailNe_cl (by with_reducible assumption) (by walk_at "pick8")) | (exact tailNe_cn (by with_reducible assumption) (by walk_at "pick8")) | k_ne)); done) | ((repeat (with_reducible rename (_ ∧ _) => hc9; obtain ⟨_, _⟩ := hc9)); (repeat' (first | with_reducible assumption | exact tailNe_lt (by with_reducible assumption) | exact tailNe_off (by with_reducible assumption) | (with_reducible refine And.intro ?_ ?_) | omega))))); (case zqA1 => (first | with_reducible assumption | ((repeat' (first | with_reducible assumption | (with_reducible refine And.intro ?_ ?_) | (with_reducible exact tailNe_lt (by assumption)) | (with_reducible exact tailNe_off (by assumption)) | (exact tailNe_cl (by with_reducible assumption) (by walk_at "pick8")) | (exact tailNe_cn (by with_reducible assumption) (by walk_at "pick8")) | k_ne)); done) | ((repeat (with_reducible rename (_ ∧ _) => hc9; obtain ⟨_, _⟩ := hc9)); (repeat' (first | with_reducible assumption | exact tailNe_lt (by with_reducible assumption) | exact tailNe_off (by with_reducible assumption) | (with_reducible refine And.intro ?_ ?_) | omega))))); (case zqA2 => (first | with_reducible assumption | ((repeat' (first | with_reducible assumption | (with_reducible refine And.intro ?_ ?_) | (with_reducible exact tailNe_lt (by assumption)) | (with_reducible exact tailNe_off (by assumption)) | (exact tailNe_cl (by with_reducible assumption) (by walk_at "pick8")) | (exact tailNe_cn (by with_reducible assumption) (by walk_at "pick8")) | k_ne)); done) | ((repeat (with_reducible rename (_ ∧ _) => hc9; obtain ⟨_, _⟩ := hc9)); (repeat' (first | with_reducible assumption | exact tailNe_lt (by with_reducible assumption) | exact tailNe_off (by with_reducible assumption) | (with_reducible refine And.intro ?_ ?_) | omega))))); (case zqA3 => (first | with_reducible assumption | ((repeat' (first | with_reducible assumption | (with_reducible refine And.intro ?_ ?_) | (with_reducible exact tailNe_lt (by assumption)) | (with_reducible exact tailNe_off (by assumption)) | (exact tailNe_cl (by with_reducible assumption) (by walk_at "pick8")) | (exact tailNe_cn (by with_reducible assumption) (by walk_at "pick8")) | k_ne)); done) | ((repeat (with_reducible rename (_ ∧ _) => hc9; obtain ⟨_, _⟩ := hc9)); (repeat' (first | with_reducible assumption | exact tailNe_lt (by with_reducible assumption) | exact tailNe_off (by with_reducible assumption) | (with_reducible refine And.intro ?_ ?_) | omega))))); (case zqA4 => (first | with_reducible assumption | ((repeat' (first | with_reducible assumption | (with_reducible refine And.intro ?_ ?_) | (with_reducible exact tailNe_lt (by assumption)) | (with_reducible exact tailNe_off (by assumption)) | (exact tailNe_cl (by with_reducible assumption) (by walk_at "pick8")) | (exact tailNe_cn (by with_reducible assumption) (by walk_at "pick8")) | k_ne)); done) | ((repeat (with_reducible rename (_ ∧ _) => hc9; obtain ⟨_, _⟩ := hc9)); (repeat' (first | with_reducible assumption | exact tailNe_lt (by with_reducible assumption) | exact tailNe_off (by with_reducible assumption) | (with_reducible refine And.intro ?_ ?_) | omega))))); (case zqA5 => (first | with_reducible assumption | ((repeat' (first | with_reducible assumption | (with_reducible refine And.intro ?_ ?_) | (with_reducible exact tailNe_lt (by assumption)) | (with_reducible exact tailNe_off (by assumption)) | (exact tailNe_cl (by with_reducible assumption) (by walk_at "pick8")) | (exact tailNe_cn (by with_reducible assumption) (by walk_at "pick8")) | k_ne)); done) | ((repeat (with_reducible rename (_ ∧ _) => hc9; obtain ⟨_, _⟩ := hc9)); (repeat' (first | with_reducible assumption | exact tailNe_lt (by with_reducible assumption) | exact tailNe_off (by with_reducible assumption) | (with_reducible refine And.intro ?_ ?_) | omega))))); (case zqA6 => (first | with_reducible assumption | ((repeat' (first | with_reducible assumption | (with_reducible refine And.intro ?_ ?_) | (with_reducible exact tailNe_lt (by assumption)) | (with_reducible exact tailNe_off (by assumption)) | (exact tailNe_cl (by with_reducible assumption) (by walk_at "pick8")) | (exact tailNe_cn (by with_reducible assumption) (by walk_at "pick8")) | k_ne)); done) | ((repeat (with_reducible rename (_ ∧ _) => hc9; obtain ⟨_, _⟩ := hc9)); (repeat' (first | with_reducible assumption | exact tailNe_lt (by with_reducible assumption) | exact tailNe_off (by with_reducible assumption) | (with_reducible refine And.intro ?_ ?_) | omega))))); (case zqA7 => (first | with_reducible assumption | ((repeat' (first | with_reducible assumption | (with_reducible refine And.intro ?_ ?_) | (with_reducible exact tailNe_lt (by assumption)) | (with_reducible exact tailNe_off (by assumption)) | (exact tailNe_cl (by with_reducible assumption) (by walk_at "pick8")) | (exact tailNe_cn (by with_reducible assumption) (by walk_at "pick8")) | k_ne)); done) | ((repeat (with_reducible rename (_ ∧ _) => hc9; obtain ⟨_, _⟩ := hc9)); (repeat' (first | with_reducible assumption | exact tailNe_lt (by with_reducible assumption) | exact tailNe_off (by with_reducible assumption) | (with_reducible refine And.intro ?_ ?_) | omega))))); (case zqA8 => (first | with_reducible assumption | ((repeat' (first | with_reducible assumption | (with_reducible refine And.intro ?_ ?_) | (with_reducible exact tailNe_lt (by assumption)) | (with_reducible exact tailNe_off (by assumption)) | (exact tailNe_cl (by with_reducible assumption) (by walk_at "pick8")) | (exact tailNe_cn (by with_reducible assumption) (by walk_at "pick8")) | k_ne)); done) | ((repeat (with_reducible rename (_ ∧ _) => hc9; obtain ⟨_, _⟩ := hc9)); (repeat' (first | with_reducible assumption | exact tailNe_lt (by with_reducible assumption) | exact tailNe_off (by with_reducible assumption) | (with_reducible refine And.intro ?_ ?_) | omega))))); (case zqA9 => (first | with_reducible assumption | ((repeat' (first | with_reducible assumption | (with_reducible refine And.intro ?_ ?_) | (with_reducible exact tailNe_lt (by assumption)) | (with_reducible exact tailNe_off (by assumption)) | (exact tailNe_cl (by with_reducible assumption) (by walk_at "pick8")) | (exact tailNe_cn (by with_reducible assumption) (by walk_at "pick8")) | k_ne)); done) | ((repeat (with_reducible rename (_ ∧ _) => hc9; obtain ⟨_, _⟩ := hc9)); (repeat' (first | with_reducible assumption | exact tailNe_lt (by with_reducible assumption) | exact tailNe_off (by with_reducible assumption) | (with_reducible refine And.intro ?_ ?_) | omega))))))
    case ks =>
    clear hlk
    intro h tk m F' na N' hlk lN_0 lN_1 lN_2 lN_3 lN_4 lN_5 lN_6 lN_7 lN_8 lN_9
    try k_sweep
    try dsimp only
    refine cut_cps (g := h₁) (L := L') (fun h m C => ∀ (nb : Addr), News h₁ L' h ((nb, listOf #[] 0) :: (na, listOf #[] 0) :: (le, listOf #[.int l0 q0, .int l1 q1, .int l2 q2] 3) :: (tq, listOf #[.str T0 r0, .str T1 r1, .str T2 r2] 3) :: (pk, listOf #[.str x0 z0, .str x1 z1, .str x2 z2] 3) :: (I, itO) :: (L' + 1 + 1 + 1 + 1, oP) :: (L' + 1 + 1 + 1, oD) :: (L' + 1 + 1, oF) :: (L' + 1, o4) :: (pl, listOf #[.int a0 t0, .int a1 t1, .int a2 t2, .int a3 t3] n') :: news) → LK m [(Str.ofString "names", .ref nb), (Str.ofString "nearer", .ref na), (Str.ofString "least", .ref le), (Str.ofString "tops", .ref tq), (Str.ofString "pegs", .ref pk), (Str.ofString "feed", .str (feedS wy) tf), (Str.ofString "way", .int wy tw), (Str.ofString "left", .int left tl), (Str.ofString "home", .int ho th), (Str.ofString "dress", .int dr td)] → (@Ne Nat (na) nb) → (@Ne Nat (le) nb) → (@Ne Nat (tq) nb) → (@Ne Nat (pk) nb) → (@Ne Nat (I) nb) → (@Ne Nat (L' + 1 + 1 + 1 + 1) nb) → (@Ne Nat (L' + 1 + 1 + 1) nb) → (@Ne Nat (L' + 1 + 1) nb) → (@Ne Nat (L' + 1) nb) → (@Ne Nat (pl) nb) → TailNe nb news → C) ?js ?ks
    case js =>  -- cut 10
      intro Jq9 hJ9
      obtain ⟨go0, hg0⟩ : ∃ x, (listOf #[.int l0 q0, .int l1 q1, .int l2 q2] 3) = x := ⟨_, rfl⟩
      rw [hg0] at N'
      obtain ⟨go1, hg1⟩ : ∃ x, (listOf #[.str T0 r0, .str T1 r1, .str T2 r2] 3) = x := ⟨_, rfl⟩
      rw [hg1] at N'
      obtain ⟨go2, hg2⟩ : ∃ x, (listOf #[.str x0 z0, .str x1 z1, .str x2 z2] 3) = x := ⟨_, rfl⟩
      rw [hg2] at N'
      obtain ⟨go3, hg3⟩ : ∃ x, (listOf #[.int a0 t0, .int a1 t1, .int a2 t2, .int a3 t3] n') = x := ⟨_, rfl⟩
      rw [hg3] at N'
      k_steps
      all_goals (subst hg0; subst hg1; subst hg2; subst hg3; refine' hJ9 (by k_asm) (fun C9 k9 => k9 _ ?zqN ⟨rfl, ?zqL1, ?zqL2, ?zqL3, ?zqL4, ?zqL5, ?zqL6, ?zqL7, ?zqL8, ?zqL9, trivial⟩ ?zqA0 ?zqA1 ?zqA2 ?zqA3 ?zqA4 ?zqA5 ?zqA6 ?zqA7 ?zqA8 ?zqA9 ?zqA10); (case zqL1 => exact hlk.1); (case zqL2 => exact hlk.2.1); (case zqL3 => exact hlk.2.2.1); (case zqL4 => exact hlk.2.2.2.1); (case zqL5 => exact hlk.2.2.2.2.1); (case zqL6 => exact hlk.2.2.2.2.2.1); (case zqL7 => exact hlk.2.2.2.2.2.2.1); (case zqL8 => exact hlk.2.2.2.2.2.2.2.1); (case zqL9 => exact hlk.2.2.2.2.2.2.2.2.1); (case zqN => first | with_reducible assumption | (refine' cb_drop ?zqcbN ?zqcbS; (case zqcbN => with_reducible assumption); (case zqcbS => ((repeat (refine List.forall_mem_cons.mpr ⟨?_, ?_⟩; focus k_mem)); (repeat (first | exact fun _ h => h | refine sub_tail ?_)))))); (case zqA0 => (first | with_reducible assumption | ((repeat' (first | with_reducible assumption | (with_reducible refine And.intro ?_ ?_) | (with_reducible exact tailNe_lt (by assumption)) | (with_reducible exact tailNe_off (by assumption)) | (exact tailNe_cl (by with_reducible assumption) (by walk_at "pick8")) | (exact tailNe_cn (by with_reducible assumption) (by walk_at "pick8")) | k_ne)); done) | ((repeat (with_reducible rename (_ ∧ _) => hc9; obtain ⟨_, _⟩ := hc9)); (repeat' (first | with_reducible assumption | exact tailNe_lt (by with_reducible assumption) | exact tailNe_off (by with_reducible assumption) | (with_reducible refine And.intro ?_ ?_) | omega))))); (case zqA1 => (first | with_reducible assumption | ((repeat' (first | with_reducible assumption | (with_reducible refine And.intro ?_ ?_) | (with_reducible exact tailNe_lt (by assumption)) | (with_reducible exact tailNe_off (by assumption)) | (exact tailNe_cl (by with_reducible assumption) (by walk_at "pick8")) | (exact tailNe_cn (by with_reducible assumption) (by walk_at "pick8")) | k_ne)); done) | ((repeat (with_reducible rename (_ ∧ _) => hc9; obtain ⟨_, _⟩ := hc9)); (repeat' (first | with_reducible assumption | exact tailNe_lt (by with_reducible assumption) | exact tailNe_off (by with_reducible assumption) | (with_reducible refine And.intro ?_ ?_) | omega))))); (case zqA2 => (first | with_reducible assumption | ((repeat' (first | with_reducible assumption | (with_reducible refine And.intro ?_ ?_) | (with_reducible exact tailNe_lt (by assumption)) | (with_reducible exact tailNe_off (by assumption)) | (exact tailNe_cl (by with_reducible assumption) (by walk_at "pick8")) | (exact tailNe_cn (by with_reducible assumption) (by walk_at "pick8")) | k_ne)); done) | ((repeat (with_reducible rename (_ ∧ _) => hc9; obtain ⟨_, _⟩ := hc9)); (repeat' (first | with_reducible assumption | exact tailNe_lt (by with_reducible assumption) | exact tailNe_off (by with_reducible assumption) | (with_reducible refine And.intro ?_ ?_) | omega))))); (case zqA3 => (first | with_reducible assumption | ((repeat' (first | with_reducible assumption | (with_reducible refine And.intro ?_ ?_) | (with_reducible exact tailNe_lt (by assumption)) | (with_reducible exact tailNe_off (by assumption)) | (exact tailNe_cl (by with_reducible assumption) (by walk_at "pick8")) | (exact tailNe_cn (by with_reducible assumption) (by walk_at "pick8")) | k_ne)); done) | ((repeat (with_reducible rename (_ ∧ _) => hc9; obtain ⟨_, _⟩ := hc9)); (repeat' (first | with_reducible assumption | exact tailNe_lt (by with_reducible assumption) | exact tailNe_off (by with_reducible assumption) | (with_reducible refine And.intro ?_ ?_) | omega))))); (case zqA4 => (first | with_reducible assumption | ((repeat' (first | with_reducible assumption | (with_reducible refine And.intro ?_ ?_) | (with_reducible exact tailNe_lt (by assumption)) | (with_reducible exact tailNe_off (by assumption)) | (exact tailNe_cl (by with_reducible assumption) (by walk_at "pick8")) | (exact tailNe_cn (by with_reducible assumption) (by walk_at "pick8")) | k_ne)); done) | ((repeat (with_reducible rename (_ ∧ _) => hc9; obtain ⟨_, _⟩ := hc9)); (repeat' (first | with_reducible assumption | exact tailNe_lt (by with_reducible assumption) | exact tailNe_off (by with_reducible assumption) | (with_reducible refine And.intro ?_ ?_) | omega))))); (case zqA5 => (first | with_reducible assumption | ((repeat' (first | with_reducible assumption | (with_reducible refine And.intro ?_ ?_) | (with_reducible exact tailNe_lt (by assumption)) | (with_reducible exact tailNe_off (by assumption)) | (exact tailNe_cl (by with_reducible assumption) (by walk_at "pick8")) | (exact tailNe_cn (by with_reducible assumption) (by walk_at "pick8")) | k_ne)); done) | ((repeat (with_reducible rename (_ ∧ _) => hc9; obtain ⟨_, _⟩ := hc9)); (repeat' (first | with_reducible assumption | exact tailNe_lt (by with_reducible assumption) | exact tailNe_off (by with_reducible assumption) | (with_reducible refine And.intro ?_ ?_) | omega))))); (case zqA6 => (first | with_reducible assumption | ((repeat' (first | with_reducible assumption | (with_reducible refine And.intro ?_ ?_) | (with_reducible exact tailNe_lt (by assumption)) | (with_reducible exact tailNe_off (by assumption)) | (exact tailNe_cl (by with_reducible assumption) (by walk_at "pick8")) | (exact tailNe_cn (by with_reducible assumption) (by walk_at "pick8")) | k_ne)); done) | ((repeat (with_reducible rename (_ ∧ _) => hc9; obtain ⟨_, _⟩ := hc9)); (repeat' (first | with_reducible assumption | exact tailNe_lt (by with_reducible assumption) | exact tailNe_off (by with_reducible assumption) | (with_reducible refine And.intro ?_ ?_) | omega))))); (case zqA7 => (first | with_reducible assumption | ((repeat' (first | with_reducible assumption | (with_reducible refine And.intro ?_ ?_) | (with_reducible exact tailNe_lt (by assumption)) | (with_reducible exact tailNe_off (by assumption)) | (exact tailNe_cl (by with_reducible assumption) (by walk_at "pick8")) | (exact tailNe_cn (by with_reducible assumption) (by walk_at "pick8")) | k_ne)); done) | ((repeat (with_reducible rename (_ ∧ _) => hc9; obtain ⟨_, _⟩ := hc9)); (repeat' (first | with_reducible assumption | exact tailNe_lt (by with_reducible assumption) | exact tailNe_off (by with_reducible assumption) | (with_reducible refine And.intro ?_ ?_) | omega))))); (case zqA8 => (first | with_reducible assumption | ((repeat' (first | with_reducible assumption | (with_reducible refine And.intro ?_ ?_) | (with_reducible exact tailNe_lt (by assumption)) | (with_reducible exact tailNe_off (by assumption)) | (exact tailNe_cl (by with_reducible assumption) (by walk_at "pick8")) | (exact tailNe_cn (by with_reducible assumption) (by walk_at "pick8")) | k_ne)); done) | ((repeat (with_reducible rename (_ ∧ _) => hc9; obtain ⟨_, _⟩ := hc9)); (repeat' (first | with_reducible assumption | exact tailNe_lt (by with_reducible assumption) | exact tailNe_off (by with_reducible assumption) | (with_reducible refine And.intro ?_ ?_) | omega))))); (case zqA9 => (first | with_reducible assumption | ((repeat' (first | with_reducible assumption | (with_reducible refine And.intro ?_ ?_) | (with_reducible exact tailNe_lt (by assumption)) | (with_reducible exact tailNe_off (by assumption)) | (exact tailNe_cl (by with_reducible assumption) (by walk_at "pick8")) | (exact tailNe_cn (by with_reducible assumption) (by walk_at "pick8")) | k_ne)); done) | ((repeat (with_reducible rename (_ ∧ _) => hc9; obtain ⟨_, _⟩ := hc9)); (repeat' (first | with_reducible assumption | exact tailNe_lt (by with_reducible assumption) | exact tailNe_off (by with_reducible assumption) | (with_reducible refine And.intro ?_ ?_) | omega))))); (case zqA10 => (first | with_reducible assumption | ((repeat' (first | with_reducible assumption | (with_reducible refine And.intro ?_ ?_) | (with_reducible exact tailNe_lt (by assumption)) | (with_reducible exact tailNe_off (by assumption)) | (exact tailNe_cl (by with_reducible assumption) (by walk_at "pick8")) | (exact tailNe_cn (by with_reducible assumption) (by walk_at "pick8")) | k_ne)); done) | ((repeat (with_reducible rename (_ ∧ _) => hc9; obtain ⟨_, _⟩ := hc9)); (repeat' (first | with_reducible assumption | exact tailNe_lt (by with_reducible assumption) | exact tailNe_off (by with_reducible assumption) | (with_reducible refine And.intro ?_ ?_) | omega))))))
    case ks =>
    clear hlk
    intro h tk m F' nb N' hlk lM_0 lM_1 lM_2 lM_3 lM_4 lM_5 lM_6 lM_7 lM_8 lM_9 lM_10
    try k_sweep
    try dsimp only
    refine cut_cps (g := h₁) (L := L') (fun h m C => ∀ (nw : Led) (oNa oNb : Obj), News h₁ L' h ((nb, oNb) :: (na, oNa) :: (le, listOf #[.int l0 q0, .int l1 q1, .int l2 q2] 3) :: (tq, listOf #[.str T0 r0, .str T1 r1, .str T2 r2] 3) :: (pk, listOf #[.str x0 z0, .str x1 z1, .str x2 z2] 3) :: (I, itO) :: (L' + 1 + 1 + 1 + 1, oP) :: (L' + 1 + 1 + 1, oD) :: (L' + 1 + 1, oF) :: (L' + 1, o4) :: (pl, listOf #[.int a0 t0, .int a1 t1, .int a2 t2, .int a3 t3] n') :: nw) → LK m [(Str.ofString "names", .ref nb), (Str.ofString "nearer", .ref na), (Str.ofString "least", .ref le), (Str.ofString "tops", .ref tq), (Str.ofString "pegs", .ref pk), (Str.ofString "feed", .str (feedS wy) tf), (Str.ofString "way", .int wy tw), (Str.ofString "left", .int left tl), (Str.ofString "home", .int ho th), (Str.ofString "dress", .int dr td)] → TailNe na nw → TailNe nb nw → TailNe pk nw → TailNe (L' + 1) nw → (∀ p ∈ news, p ∈ nw) → NearSt (WonB left wo wt (9)) wo wt (lv l0 l1 l2 wo) (Txt.mul (Str.ofString "\"") (farL [a0, a1, a2, a3] ho (lv l0 l1 l2 wo + 1))) ([a0, a1, a2, a3].set (lv l0 l1 l2 wo).toNat wt) L' pk I oNa oNb nw → C) ?js ?ks
    case js =>  -- cut 11
      intro Jq9 hJ9
      refine For_turnsUp h₁ ?up2 (hE := PassesOwn.never)
      case up2 =>
        k_steps
        (with_unfolding_all refine' up_range (n := 3) (g := h₁) (fun i m led => ∀ C : Prop, (∀ (nw : Led) (oNa oNb : Obj), LK m [(Str.ofString "names", .ref nb), (Str.ofString "nearer", .ref na), (Str.ofString "least", .ref le), (Str.ofString "tops", .ref tq), (Str.ofString "pegs", .ref pk), (Str.ofString "feed", .str (feedS wy) tf), (Str.ofString "way", .int wy tw), (Str.ofString "left", .int left tl), (Str.ofString "home", .int ho th), (Str.ofString "dress", .int dr td)] → led = (nb, oNb) :: (na, oNa) :: (le, listOf #[.int l0 q0, .int l1 q1, .int l2 q2] 3) :: (tq, listOf #[.str T0 r0, .str T1 r1, .str T2 r2] 3) :: (pk, listOf #[.str x0 z0, .str x1 z1, .str x2 z2] 3) :: (I, itO) :: (L' + 1 + 1 + 1 + 1, oP) :: (L' + 1 + 1 + 1, oD) :: (L' + 1 + 1, oF) :: (L' + 1, o4) :: (pl, listOf #[.int a0 t0, .int a1 t1, .int a2 t2, .int a3 t3] n') :: nw → TailNe na nw → TailNe nb nw → TailNe pk nw → TailNe (L' + 1) nw → (∀ p ∈ news, p ∈ nw) → NearSt (WonB left wo wt (3 * (i : Int))) wo wt (lv l0 l1 l2 wo) (Txt.mul (Str.ofString "\"") (farL [a0, a1, a2, a3] ho (lv l0 l1 l2 wo + 1))) ([a0, a1, a2, a3].set (lv l0 l1 l2 wo).toNat wt) L' pk I oNa oNb nw → C) → C) (fun i m led => ∀ C : Prop, (∀ (nw : Led) (oNa oNb : Obj) (ton : Tok), LK m [(Str.ofString "one", .int (0 + ((i : Nat) : Int)) ton), (Str.ofString "names", .ref nb), (Str.ofString "nearer", .ref na), (Str.ofString "least", .ref le), (Str.ofString "tops", .ref tq), (Str.ofString "pegs", .ref pk), (Str.ofString "feed", .str (feedS wy) tf), (Str.ofString "way", .int wy tw), (Str.ofString "left", .int left tl), (Str.ofString "home", .int ho th), (Str.ofString "dress", .int dr td)] → led = (nb, oNb) :: (na, oNa) :: (le, listOf #[.int l0 q0, .int l1 q1, .int l2 q2] 3) :: (tq, listOf #[.str T0 r0, .str T1 r1, .str T2 r2] 3) :: (pk, listOf #[.str x0 z0, .str x1 z1, .str x2 z2] 3) :: (I, itO) :: (L' + 1 + 1 + 1 + 1, oP) :: (L' + 1 + 1 + 1, oD) :: (L' + 1 + 1, oF) :: (L' + 1, o4) :: (pl, listOf #[.int a0 t0, .int a1 t1, .int a2 t2, .int a3 t3] n') :: nw → TailNe na nw → TailNe nb nw → TailNe pk nw → TailNe (L' + 1) nw → (∀ p ∈ news, p ∈ nw) → NearSt (WonB left wo wt (3 * (i : Int))) wo wt (lv l0 l1 l2 wo) (Txt.mul (Str.ofString "\"") (farL [a0, a1, a2, a3] ho (lv l0 l1 l2 wo + 1))) ([a0, a1, a2, a3].set (lv l0 l1 l2 wo).toNat wt) L' pk I oNa oNb nw → C) → C) (by rfl) (by assumption) (by decide) (by decide) (by assumption) (by assumption) ?h90 ?a9 ?s9 ?d9)
        case h90 => exact fun C9 k9 => k9 news _ _ hlk rfl lN_9 lM_10 lK_6 (tail_ne hAL (by omega)) (fun _ h => h) (Or.inl ⟨by unfold WonB; omega, rfl, rfl⟩)
        case d9 =>
          intro h tk m led F' N' hJ
          (refine hJ _ ?_; clear hJ; intro nw oNa oNb hlk e9 hn1 hn2 hn3 hn4 hn5 hSt; subst e9)
          exact hJ9 F' (fun C9 k9 => k9 nw oNa oNb N' hlk hn1 hn2 hn3 hn4 hn5 hSt)
        case a9 =>
          intro I3 i h tk t m led hi F' N' off hlt hJ
          (refine hJ _ ?_; clear hJ; intro nw oNa oNb hlk e9 hn1 hn2 hn3 hn4 hn5 hSt; subst e9)
          exact asg_local rfl rfl rfl F' N' off (fun C9 k9 => k9 nw oNa oNb t ⟨rfl, lk_set hlk rfl⟩ rfl hn1 hn2 hn3 hn4 hn5 hSt)
        case s9 =>
          intro I3 i h tk m led hi F' N' off hlt hJ
          (refine hJ _ ?_; clear hJ; intro nw oNa oNb ton hlk e9 hn1 hn2 hn3 hn4 hn5 hSt; subst e9)
          obtain ⟨on, hon⟩ : ∃ x, (0 + ((i : Nat) : Int)) = x := ⟨_, rfl⟩
          (try rw [hon] at hlk)
          (try rw [hon] at N')
          (try rw [hon])
          have hon2 : 0 ≤ on ∧ on ≤ 2 := by omega
          change Fr h₁ L' h _ at F'
          change News h₁ L' h _ at N'
          have e7 : ((i : Nat) : Int) = on := by omega
          rw [e7] at hSt
          (repeat (with_reducible rename IsRange _ _ _ _ _ _ _ _ => z; clear z))
          (repeat (with_reducible rename ∀ (b : Addr) (o : Obj), _ = _ → _ = _ => z; clear z))
          have hti3 : TailNe I3 nw := fun p hp => off p (by simp [hp])
          k_lt hlt
          clear off
          try k_sweep
          have N9 := gen_hd N'
          clear N'
          obtain ⟨it3, hit3, N'⟩ := N9
          refine hide_post fun Uq9 hU9 => ?_
          have hvn : 0 ≤ [l0, l1, l2].getD (Int.toNat on) 0 ∧ [l0, l1, l2].getD (Int.toNat on) 0 ≤ 4 := lv_bd hl0' hl1' hl2' hon2
          refine cut_cps (g := h₁) (L := L') (fun h m C => ∀ (nw : Led) (oNa oNb : Obj) (ton : Tok), News h₁ L' h ((I3, it3) :: (nb, oNb) :: (na, oNa) :: (le, listOf #[.int l0 q0, .int l1 q1, .int l2 q2] 3) :: (tq, listOf #[.str T0 r0, .str T1 r1, .str T2 r2] 3) :: (pk, listOf #[.str x0 z0, .str x1 z1, .str x2 z2] 3) :: (I, itO) :: (L' + 1 + 1 + 1 + 1, oP) :: (L' + 1 + 1 + 1, oD) :: (L' + 1 + 1, oF) :: (L' + 1, o4) :: (pl, listOf #[.int a0 t0, .int a1 t1, .int a2 t2, .int a3 t3] n') :: nw) → LK m [(Str.ofString "one", .int on ton), (Str.ofString "names", .ref nb), (Str.ofString "nearer", .ref na), (Str.ofString "least", .ref le), (Str.ofString "tops", .ref tq), (Str.ofString "pegs", .ref pk), (Str.ofString "feed", .str (feedS wy) tf), (Str.ofString "way", .int wy tw), (Str.ofString "left", .int left tl), (Str.ofString "home", .int ho th), (Str.ofString "dress", .int dr td)] → TailNe na nw → TailNe nb nw → TailNe pk nw → TailNe (L' + 1) nw → (∀ p ∈ news, p ∈ nw) → TailNe I3 nw → NearSt (WonB left wo wt (3 * on + 3)) wo wt (lv l0 l1 l2 wo) (Txt.mul (Str.ofString "\"") (farL [a0, a1, a2, a3] ho (lv l0 l1 l2 wo + 1))) ([a0, a1, a2, a3].set (lv l0 l1 l2 wo).toNat wt) L' pk I oNa oNb nw → C) ?ji ?ki
          case ki =>
            intro h tk m F' nw oNa oNb ton N' hlk hn1 hn2 hn3 hn4 hn5 ht3 hSt
            refine wpAny_execs_nil ?_
            subst hit3
            have e8 : 3 * on + 3 = 3 * ((i + 1 : Nat) : Int) := by omega
            rw [e8] at hSt
            refine hU9 Flow.next _ ?_
            exact UpEnd.intro F' N' (by first | k_all | fail) (fun C9 k9 => k9 nw oNa oNb hlk.2 rfl hn1 hn2 hn3 hn4 hn5 hSt)
          case ji =>
            intro Jq9 hJ9
            refine For_turnsUp h₁ ?up3 (hE := PassesOwn.never)
            case up3 =>
              k_steps
              (with_unfolding_all refine' up_range (n := 3) (g := h₁) (fun i m led => ∀ C : Prop, (∀ (nw : Led) (oNa oNb : Obj) (ton : Tok), LK m [(Str.ofString "one", .int on ton), (Str.ofString "names", .ref nb), (Str.ofString "nearer", .ref na), (Str.ofString "least", .ref le), (Str.ofString "tops", .ref tq), (Str.ofString "pegs", .ref pk), (Str.ofString "feed", .str (feedS wy) tf), (Str.ofString "way", .int wy tw), (Str.ofString "left", .int left tl), (Str.ofString "home", .int ho th), (Str.ofString "dress", .int dr td)] → led = (I3, it3) :: (nb, oNb) :: (na, oNa) :: (le, listOf #[.int l0 q0, .int l1 q1, .int l2 q2] 3) :: (tq, listOf #[.str T0 r0, .str T1 r1, .str T2 r2] 3) :: (pk, listOf #[.str x0 z0, .str x1 z1, .str x2 z2] 3) :: (I, itO) :: (L' + 1 + 1 + 1 + 1, oP) :: (L' + 1 + 1 + 1, oD) :: (L' + 1 + 1, oF) :: (L' + 1, o4) :: (pl, listOf #[.int a0 t0, .int a1 t1, .int a2 t2, .int a3 t3] n') :: nw → TailNe na nw → TailNe nb nw → TailNe pk nw → TailNe (L' + 1) nw → (∀ p ∈ news, p ∈ nw) → TailNe I3 nw → NearSt (WonB left wo wt (3 * on + (i : Int))) wo wt (lv l0 l1 l2 wo) (Txt.mul (Str.ofString "\"") (farL [a0, a1, a2, a3] ho (lv l0 l1 l2 wo + 1))) ([a0, a1, a2, a3].set (lv l0 l1 l2 wo).toNat wt) L' pk I oNa oNb nw → C) → C) (fun i m led => ∀ C : Prop, (∀ (nw : Led) (oNa oNb : Obj) (ton tot : Tok), LK m [(Str.ofString "other", .int (0 + ((i : Nat) : Int)) tot), (Str.ofString "one", .int on ton), (Str.ofString "names", .ref nb), (Str.ofString "nearer", .ref na), (Str.ofString "least", .ref le), (Str.ofString "tops", .ref tq), (Str.ofString "pegs", .ref pk), (Str.ofString "feed", .str (feedS wy) tf), (Str.ofString "way", .int wy tw), (Str.ofString "left", .int left tl), (Str.ofString "home", .int ho th), (Str.ofString "dress", .int dr td)] → led = (I3, it3) :: (nb, oNb) :: (na, oNa) :: (le, listOf #[.int l0 q0, .int l1 q1, .int l2 q2] 3) :: (tq, listOf #[.str T0 r0, .str T1 r1, .str T2 r2] 3) :: (pk, listOf #[.str x0 z0, .str x1 z1, .str x2 z2] 3) :: (I, itO) :: (L' + 1 + 1 + 1 + 1, oP) :: (L' + 1 + 1 + 1, oD) :: (L' + 1 + 1, oF) :: (L' + 1, o4) :: (pl, listOf #[.int a0 t0, .int a1 t1, .int a2 t2, .int a3 t3] n') :: nw → TailNe na nw → TailNe nb nw → TailNe pk nw → TailNe (L' + 1) nw → (∀ p ∈ news, p ∈ nw) → TailNe I3 nw → NearSt (WonB left wo wt (3 * on + (i : Int))) wo wt (lv l0 l1 l2 wo) (Txt.mul (Str.ofString "\"") (farL [a0, a1, a2, a3] ho (lv l0 l1 l2 wo + 1))) ([a0, a1, a2, a3].set (lv l0 l1 l2 wo).toNat wt) L' pk I oNa oNb nw → C) → C) (by rfl) (by assumption) (by decide) (by decide) (by assumption) (by assumption) ?hi0 ?hia ?his ?hid)
              case hi0 => exact fun C9 k9 => k9 nw oNa oNb ton hlk rfl hn1 hn2 hn3 hn4 hn5 hti3 (by simpa using hSt)
              case hid =>
                intro h tk m led F' N' hJ
                (refine hJ _ ?_; clear hJ; intro nw oNa oNb ton hlk e9 hn1 hn2 hn3 hn4 hn5 ht3 hSt; subst e9)
                exact hJ9 F' (fun C9 k9 => k9 nw oNa oNb ton N' hlk hn1 hn2 hn3 hn4 hn5 ht3 hSt)
              case hia =>
                intro I4 i h tk t m led hi F' N' off hlt hJ
                (refine hJ _ ?_; clear hJ; intro nw oNa oNb ton hlk e9 hn1 hn2 hn3 hn4 hn5 ht3 hSt; subst e9)
                exact asg_local rfl rfl rfl F' N' off (fun C9 k9 => k9 nw oNa oNb ton t ⟨rfl, lk_set hlk rfl⟩ rfl hn1 hn2 hn3 hn4 hn5 ht3 hSt)
              case his =>
                intro I4 i h tk m led hi F' N' off hlt hJ
                (refine hJ _ ?_; clear hJ; intro nw oNa oNb ton tot hlk e9 hn1 hn2 hn3 hn4 hn5 ht3 hSt; subst e9)
                obtain ⟨ot, hot⟩ : ∃ x, (0 + ((i : Nat) : Int)) = x := ⟨_, rfl⟩
                (try rw [hot] at hlk)
                (try rw [hot] at N')
                (try rw [hot])
                have hot2 : 0 ≤ ot ∧ ot ≤ 2 := by omega
                replace F' := fr_lk [(Str.ofString "other", .int ot tot), (Str.ofString "one", .int on ton), (Str.ofString "names", .ref nb), (Str.ofString "nearer", .ref na), (Str.ofString "least", .ref le), (Str.ofString "left", .int left tl), (Str.ofString "home", .int ho th)] F' ⟨hlk.1, hlk.2.1, hlk.2.2.1, hlk.2.2.2.1, hlk.2.2.2.2.1, hlk.2.2.2.2.2.2.2.2.2.1, hlk.2.2.2.2.2.2.2.2.2.2.1, trivial⟩
                dsimp only [ovl] at F'
                change Fr h₁ L' h _ at F'
                change News h₁ L' h _ at N'
                have e7 : ((i : Nat) : Int) = ot := by omega
                rw [e7] at hSt
                (repeat (with_reducible rename IsRange _ _ _ _ _ _ _ _ => z; clear z))
                (repeat (with_reducible rename ∀ (b : Addr) (o : Obj), _ = _ → _ = _ => z; clear z))
                have hti4 : TailNe I4 nw := fun p hp => off p (by simp [hp])
                k_lt hlt
                clear off
                try k_sweep
                have N9 := gen_hd N'
                clear N'
                obtain ⟨it4, hit4, N'⟩ := N9
                refine hide_post fun Uq9 hU9 => ?_
                have hvo : 0 ≤ [l0, l1, l2].getD (Int.toNat ot) 0 ∧ [l0, l1, l2].getD (Int.toNat ot) 0 ≤ 4 := lv_bd hl0' hl1' hl2' hot2
                refine cut_cps (g := h₁) (L := L') (fun h m C => ∀ (nw : Led) (oNa oNb : Obj) (ton : Tok), News h₁ L' h ((I4, it4) :: (I3, it3) :: (nb, oNb) :: (na, oNa) :: (le, listOf #[.int l0 q0, .int l1 q1, .int l2 q2] 3) :: (tq, listOf #[.str T0 r0, .str T1 r1, .str T2 r2] 3) :: (pk, listOf #[.str x0 z0, .str x1 z1, .str x2 z2] 3) :: (I, itO) :: (L' + 1 + 1 + 1 + 1, oP) :: (L' + 1 + 1 + 1, oD) :: (L' + 1 + 1, oF) :: (L' + 1, o4) :: (pl, listOf #[.int a0 t0, .int a1 t1, .int a2 t2, .int a3 t3] n') :: nw) → LK m [(Str.ofString "one", .int on ton), (Str.ofString "names", .ref nb), (Str.ofString "nearer", .ref na), (Str.ofString "least", .ref le), (Str.ofString "tops", .ref tq), (Str.ofString "pegs", .ref pk), (Str.ofString "feed", .str (feedS wy) tf), (Str.ofString "way", .int wy tw), (Str.ofString "left", .int left tl), (Str.ofString "home", .int ho th), (Str.ofString "dress", .int dr td)] → TailNe na nw → TailNe nb nw → TailNe pk nw → TailNe (L' + 1) nw → (∀ p ∈ news, p ∈ nw) → TailNe I3 nw → TailNe I4 nw → NearSt (WonB left wo wt (3 * on + (ot + 1))) wo wt (lv l0 l1 l2 wo) (Txt.mul (Str.ofString "\"") (farL [a0, a1, a2, a3] ho (lv l0 l1 l2 wo + 1))) ([a0, a1, a2, a3].set (lv l0 l1 l2 wo).toNat wt) L' pk I oNa oNb nw → C) ?jb ?kb
                case kb =>
                  intro h tk m F' nw oNa oNb ton N' hlk hn1 hn2 hn3 hn4 hn5 ht3 ht4 hSt
                  refine wpAny_execs_nil ?_
                  subst hit4
                  have e8 : 3 * on + (ot + 1) = 3 * on + ((i + 1 : Nat) : Int) := by omega
                  rw [e8] at hSt
                  refine hU9 Flow.next _ ?_
                  exact UpEnd.intro F' N' (by first | k_all | fail) (fun C9 k9 => k9 nw oNa oNb ton hlk rfl hn1 hn2 hn3 hn4 hn5 ht3 hSt)
                case jb =>
                  intro Jq9 hJ9
                  obtain ⟨go0, hg0⟩ : ∃ x, (listOf #[.str T0 r0, .str T1 r1, .str T2 r2] 3) = x := ⟨_, rfl⟩
                  rw [hg0] at N'
                  obtain ⟨go1, hg1⟩ : ∃ x, (listOf #[.str x0 z0, .str x1 z1, .str x2 z2] 3) = x := ⟨_, rfl⟩
                  rw [hg1] at N'
                  by_cases hpass : 0 < left ∧ on = wo ∧ ot = wt
                  · obtain ⟨hlf, e1, e2⟩ := hpass
                    subst e1 e2
                    have hW5 : [l0, l1, l2].getD on.toNat 0 < [l0, l1, l2].getD ot.toNat 0 ∧ farL ([a0, a1, a2, a3].set ([l0, l1, l2].getD on.toNat 0).toNat ot) ho 0 < left := hW4 hlf
                    obtain ⟨hW5, hW6⟩ := hW5
                    rcases hSt with ⟨hw, rfl, rfl⟩ | ⟨hw, _⟩
                    rotate_left
                    focus (exfalso; unfold WonB at hw; omega)
                    k_steps
                    subst hg0; subst hg1
                    rename (_ = farL _ _ _) => hx9
                    subst hx9
                    rename News _ _ _ _ => N9
                    obtain ⟨tv, tu, af, e1, e2, e3⟩ := led_name N9
                    subst e1 e2 e3
                    have N10 : News h₁ L' _ ((I4, it4) :: (I3, it3) :: (nb, listOf #[.ref tv] 1) :: (na, listOf #[.ref tu] 1) :: (le, listOf #[.int l0 q0, .int l1 q1, .int l2 q2] 3) :: (tq, listOf #[.str T0 r0, .str T1 r1, .str T2 r2] 3) :: (pk, listOf #[.str x0 z0, .str x1 z1, .str x2 z2] 3) :: (I, itO) :: (L' + 1 + 1 + 1 + 1, oP) :: (L' + 1 + 1 + 1, oD) :: (L' + 1 + 1, oF) :: (L' + 1, o4) :: (pl, listOf #[.int a0 t0, .int a1 t1, .int a2 t2, .int a3 t3] n') :: (tv, _) :: (tu, _) :: (af, _) :: nw) := pass_led (mid := [(le, listOf #[.int l0 q0, .int l1 q1, .int l2 q2] 3), (tq, listOf #[.str T0 r0, .str T1 r1, .str T2 r2] 3), (pk, listOf #[.str x0 z0, .str x1 z1, .str x2 z2] 3), (I, itO), (L' + 1 + 1 + 1 + 1, oP), (L' + 1 + 1 + 1, oD), (L' + 1 + 1, oF), (L' + 1, o4), (pl, listOf #[.int a0 t0, .int a1 t1, .int a2 t2, .int a3 t3] n')]) (nw := nw) N9
                    clear N9
                    have hi9 : IntsAre ([.int a0 t0, .int a1 t1, .int a2 t2, .int a3 t3].set ([l0, l1, l2].getD on.toNat 0).toNat (.int ot tot)) ([a0, a1, a2, a3].set ([l0, l1, l2].getD on.toNat 0).toNat ot) := by with_reducible assumption
                    (refine' hJ9 (by k_asm) (fun C9 k9 => k9 (_ :: _ :: _ :: nw) _ _ _ N10 ⟨rfl, rfl, rfl, rfl, ?zqL4, ?zqL5, ?zqL6, ?zqL7, rfl, rfl, ?zqL10, trivial⟩ (tailNe3 ?w1 ?w2 ?w3 hn1) (tailNe3 ?w4 ?w5 ?w6 hn2) (tailNe3 ?w7 ?w8 ?w9 hn3) (tailNe3 ?w10 ?w11 ?w12 hn4) (sub_tail (sub_tail (sub_tail hn5))) (tailNe3 ?w13 ?w14 ?w15 ht3) (tailNe3 ?w16 ?w17 ?w18 hti4) (Or.inr ⟨?w19, tu, tv, af, _, _, _, _, _, _, rfl, rfl, .tail _ (.head _), .head _, .tail _ (.tail _ (.head _)), hi9, ?w20, ?w21, ?w22, ?w23⟩)))
                    skip; (case zqL4 => exact hlk.2.2.2.2.2.1); (case zqL5 => exact hlk.2.2.2.2.2.2.1); (case zqL6 => exact hlk.2.2.2.2.2.2.2.1); (case zqL7 => exact hlk.2.2.2.2.2.2.2.2.1); (case zqL10 => exact hlk.2.2.2.2.2.2.2.2.2.2.2.1)
                    case w19 => unfold WonB; omega
                    all_goals (first | k_ne | omega)
                  · k_steps
                    all_goals (first
                      | (exfalso; rename (_ = farL _ _ _) => hx9; subst hx9; exact absurd (hW3' on ot hon2.1 hon2.2 hot2.1 hot2.2 (by with_reducible assumption) (by with_reducible assumption)) hpass)
                      | (subst hg0; subst hg1; have N9 := cb_drop (news := (I4, it4) :: (I3, it3) :: (nb, oNb) :: (na, oNa) :: (le, listOf #[.int l0 q0, .int l1 q1, .int l2 q2] 3) :: (tq, listOf #[.str T0 r0, .str T1 r1, .str T2 r2] 3) :: (pk, listOf #[.str x0 z0, .str x1 z1, .str x2 z2] 3) :: (I, itO) :: (L' + 1 + 1 + 1 + 1, oP) :: (L' + 1 + 1 + 1, oD) :: (L' + 1 + 1, oF) :: (L' + 1, o4) :: (pl, listOf #[.int a0 t0, .int a1 t1, .int a2 t2, .int a3 t3] n') :: nw) (by with_reducible assumption : News h₁ L' _ _) (by ((repeat (refine List.forall_mem_cons.mpr ⟨?_, ?_⟩; focus k_mem)); (repeat (first | exact fun _ h => h | refine sub_tail ?_)))); refine' hJ9 (by k_asm) (fun C9 k9 => k9 nw oNa oNb _ N9 ⟨rfl, rfl, rfl, rfl, ?zqL4, ?zqL5, ?zqL6, ?zqL7, rfl, rfl, ?zqL10, trivial⟩ hn1 hn2 hn3 hn4 hn5 ht3 hti4 (by rw [← won_step hot2 hwt hpass]; exact hSt)); (case zqL4 => exact hlk.2.2.2.2.2.1); (case zqL5 => exact hlk.2.2.2.2.2.2.1); (case zqL6 => exact hlk.2.2.2.2.2.2.2.1); (case zqL7 => exact hlk.2.2.2.2.2.2.2.2.1); (case zqL10 => exact hlk.2.2.2.2.2.2.2.2.2.2.2.1)))

    case ks =>
    clear hlk
    intro h tk m F' nw oNa oNb N' hlk hn1 hn2 hn3 hn4 hn5 hSt
    try k_sweep
    try dsimp only
    replace F' := fr_lk [(Str.ofString "names", .ref nb), (Str.ofString "nearer", .ref na), (Str.ofString "tops", .ref tq), (Str.ofString "pegs", .ref pk), (Str.ofString "feed", .str (feedS wy) tf), (Str.ofString "left", .int left tl)] F' ⟨hlk.1, hlk.2.1, hlk.2.2.2.1, hlk.2.2.2.2.1, hlk.2.2.2.2.2.1, hlk.2.2.2.2.2.2.2.1, trivial⟩
    dsimp only [ovl] at F'
    rcases Int.lt_or_le 0 left with hlf | hlf
    rotate_left
    focus
      k_steps
      obtain ⟨rfl, rfl, rfl⟩ := hpa
      subst hitO
      have N9 := cb_drop (news := (I, rngO (left - 1) _) :: (pk, pegsO a0 a1 a2 a3 z0 z1 z2) :: (L' + 1 + 1 + 1 + 1, oP) :: (L' + 1 + 1 + 1, oD) :: (L' + 1 + 1, oF) :: (L' + 1, o4) :: (pl, listOf #[.int a0 t0, .int a1 t1, .int a2 t2, .int a3 t3] n') :: news) (by with_reducible assumption : News h₁ L' _ _) (by ((repeat (refine List.forall_mem_cons.mpr ⟨?_, ?_⟩; focus k_mem)); (repeat (first | exact fun _ h => h | exact hn5 | refine sub_tail ?_))))
      refine hQ9 Flow.next _ ?_
      refine ⟨h₁, _, _, _, _, rfl, ⟨KT', B', X', T', D'⟩, (by k_asm), N9, (by first | k_all | fail), ?_⟩
      show HInv L' news ho th dr td (_ - ((i + 1 : Nat) : Int)) _ _
      rw [hlf9]
      exact fun C9 k9 => k9 pl pk n' a0 a1 a2 a3 t0 t1 t2 t3 z0 z1 z2 oP oD oF o4 _ _ _ rfl (hlk.2.2.2.2.2.2.2.2.1) (hlk.2.2.2.2.2.2.2.2.2.1) rfl dP dD dF d4' c0 c1 c2 c3 (by omega) ⟨lK_1, lK_2, lK_3, lK_4, lK_6⟩ lK_5 ⟨pl1, pl2, pl3, pl4⟩
    rcases hSt with ⟨hw, _⟩ | ⟨hw, hSt⟩
    focus (exfalso; apply hw; unfold WonB; omega)
    obtain ⟨tu, tv, af, c, vs, t1', t2', t3', t4', rfl, rfl, hm1, hm2, hm3, hi9, haf, ne5, ne6, ne7⟩ := hSt
    replace N' := news_add N' (x := (af, listOf vs.toArray c)) (by repeat (first | exact hm3 | refine List.mem_cons_of_mem _ ?_))
    replace N' := news_add N' (x := (tu, tupOf #[.int wo t1', .int wt t2', .ref af])) (by repeat (first | exact hm1 | refine List.mem_cons_of_mem _ ?_))
    replace N' := news_add N' (x := (tv, tupOf #[.int (lv l0 l1 l2 wo) t3', .str (Txt.mul (Str.ofString "\"") (farL [a0, a1, a2, a3] ho (lv l0 l1 l2 wo + 1))) t4'])) (by repeat (first | exact hm2 | refine List.mem_cons_of_mem _ ?_))
    obtain ⟨go0, hg0⟩ : ∃ x, (listOf #[.int l0 q0, .int l1 q1, .int l2 q2] 3) = x := ⟨_, rfl⟩
    rw [hg0] at N'
    obtain ⟨go1, hg1⟩ : ∃ x, (listOf #[.int a0 t0, .int a1 t1, .int a2 t2, .int a3 t3] n') = x := ⟨_, rfl⟩
    rw [hg1] at N'
    have f1 : @Ne Nat tv (L' + 1) := hn4 _ hm2
    have f2 : @Ne Nat tu (L' + 1) := hn4 _ hm1
    have f3 : @Ne Nat af (L' + 1) := hn4 _ hm3
    have f4 : @Ne Nat tv pk := hn3 _ hm2
    have f5 : @Ne Nat tu pk := hn3 _ hm1
    have hWh' := hWh hlf
    obtain ⟨⟨mb1, me1, z', hmv⟩, hfar', hne'⟩ := move_of wy ⟨c0, c1, c2, c3⟩ hpa bh hleft hlf hp0 hp1 hp2 hWW
    obtain ⟨⟨hms, hmbe, hmes⟩, hmz, hmy, hmz60, hmfin⟩ := hmv
    have hXS : StrsAre [.str x0 z0, .str x1 z1, .str x2 z2] [x0, x1, x2] := .cons _ _ (.cons _ _ (.cons _ _ .nil))
    have hTS : StrsAre [.str T0 r0, .str T1 r1, .str T2 r2] [T0, T1, T2] := .cons _ _ (.cons _ _ (.cons _ _ .nil))
    have hXL : ∀ y ∈ [x0, x1, x2], y.length ≤ 60 := le3 hx0 hx1 hx2
    have hTL : ∀ y ∈ [T0, T1, T2], y.length ≤ 60 := le3' hT0 hT1 hT2
    have hdl : (Str.ofString ".").length = 1 := by decide
    try dsimp only at hms hmbe hmes hmz hmy hmfin
    k_steps
    rename (_ = Txt.slice _ _ _ ++ Txt.slice _ _ _) => hr9
    subst hr9
    obtain ⟨b0, b1, b2, b3, hns, hbd, hpeg⟩ := hmfin
    rename StrsAre (List.set (List.set _ _ _) _ _) _ => hs9
    rw [hmz, hpeg] at hs9
    rename News _ _ _ _ => N8
    obtain ⟨v0, v1, v2, eV⟩ := strs_three hs9
    rw [hmz, eV] at N8
    rw [hns] at hi9 hfar'
    obtain ⟨s0, s1, s2, s3, rfl⟩ := ints_four hi9
    subst hitO
    rename (Obj.data _ = Data.cell (some (Value.ref af))) => d9
    have N9 := cb_drop (news := (I, rngO (left - 1) _) :: (pk, pegsO b0 b1 b2 b3 v0 v1 v2) :: (L' + 1 + 1 + 1 + 1, oP) :: (L' + 1 + 1 + 1, oD) :: (L' + 1 + 1, oF) :: (L' + 1, _) :: (af, listOf #[.int b0 s0, .int b1 s1, .int b2 s2, .int b3 s3] c) :: news) N8 (by ((repeat (refine List.forall_mem_cons.mpr ⟨?_, ?_⟩; focus k_mem)); (repeat (first | exact fun _ h => h | exact hn5 | refine sub_tail ?_))))
    refine hQ9 Flow.next _ ?_
    refine ⟨_, _, _, _, _, rfl, ⟨KtsTurn.trans KT' (by with_reducible assumption), by k_asm, by k_asm, by k_asm, by k_asm⟩, (by k_asm), N9, ?off, ?_⟩
    case off => first | k_all | fail
    show HInv L' news ho th dr td (_ - ((i + 1 : Nat) : Int)) _ _
    rw [hlf9]
    exact fun C9 k9 => k9 af pk c b0 b1 b2 b3 s0 s1 s2 s3 v0 v1 v2 oP oD oF _ _ _ _ rfl (hlk.2.2.2.2.2.2.2.2.1) (hlk.2.2.2.2.2.2.2.2.2.1) rfl dP dD dF d9 hbd.1 hbd.2.1 hbd.2.2.1 hbd.2.2.2 (hfar'.trans (max1 (by omega)).symm) ⟨lK_1, lK_2, lK_3, lK_4, lK_6⟩ ne5 ⟨f3, by omega, by omega, by omega⟩

  case done =>
    clear hF hN FG'
    (repeat (with_reducible rename IsRange _ _ _ _ _ _ _ _ => z; clear z))
    (repeat (with_reducible rename Obj.data _ = _ => z; clear z))
    (repeat (rename News g' _ _ _ => z; clear z))
    (repeat (rename Fr g' _ _ _ => z; clear z))
    clear B' X' T' D'
    intro h₁ h tk m₂ led hG F' N' hJ
    obtain ⟨KT', B', X', T', D'⟩ := hG
    refine hJ _ ?_
    clear hJ
    intro pl pg n' a0 a1 a2 a3 t0 t1 t2 t3 u0 u1 u2 o1 o2 o3 o4 v1 v2 v3 e9 m1 m2 m3 d1' d2' d3' d4' c0 c1 c2 c3 hleft ne0 ne1 ne2
    subst e9
    replace F' := fr_lk [(Str.ofString "home", .int ho th), (Str.ofString "dress", .int dr td), (Str.ofString "pegs", .ref pg)] F' ⟨m1, m2, m3, trivial⟩
    dsimp only [ovl] at F'
    change Fr h₁ L' h _ at F'
    change News h₁ L' h _ at N'
    obtain ⟨x0, x1, x2, hpa, ok0, ok1, ok2⟩ := texts_of ⟨c0, c1, c2, c3⟩
    replace N' := pegs_to0 hpa N'
    have hx0 : x0.length ≤ 15 := ok0.1
    have hx1 : x1.length ≤ 15 := ok1.1
    have hx2 : x2.length ≤ 15 := ok2.1
    have hn1 := bare_no ⟨c0, c1, c2, c3⟩ hpa
    have hn2 := row_no ⟨c0, c1, c2, c3⟩ hpa
    have he1 := hn1.1
    have he2 := hn2.1
    have hll1 := he1.1
    have hll2 := he2.1
    k_steps
    all_goals (refine hQh9 _ _ ?_)
    k_steps
    all_goals (refine' hret _ [] _ _ _ ⟨rfl, rfl⟩ ?eT ?eF ?eN ?eL ?eB ?eX ?eP ?eD; (case eF => k_asm); (case eT => k_asm); (case eN => first | k_asm | (refine' cb_drop ?cbN ?cbS; (case cbN => assumption); (case cbS => kcj_all))); (case eL => exact fun _ h => nomatch h); (case eB => k_asm); (case eX => k_asm); (case eP => k_asm); (case eD => k_asm))
end Mine
end
section
open PySem PySem.W PyProof.Rows Mine
set_option maxRecDepth 100000
set_option maxHeartbeats 400000000
namespace Mine
theorem CtI.use {w : World} {f : Addr} {Ok : Value → Led → Prop} (C : CtI w f Ok) {l : Addr} {vs : List Value} {ns : List Int}
    {mean : ExcName → Option Value} {mg mb : Str → Option Value} {news : Led} {dp un : Nat} {gd : Option (List Code)} {cn : Str} {cs : Scope} {a : Addr} {ccd : Value} {cl : List (Str × Addr)} {outer : List Env} {A₀ : Around} {base h₀ : Heap} {L : Addr} {m : Str → Option Value} {s : Shared} {Q E : Value → Shared → Prop}
    (hi : IntsAre vs ns) (hl : ns.length ≤ 63) (hL : base.IsList l vs.toArray) (B : Below A₀ base outer h₀) (F : Fr h₀ L s.heap m) (X : (hd.heap_39 w.params).In h₀) (N : News h₀ L s.heap news) (T : Top hd.view_39 LO mean mg mb h₀) (hk : cs.kind = .function) (hdp : dp + 8 < recursionLimit) (hu : un + 64 < cLine)
    (ret : ∀ (v : Value) (new : Led) (h' : Heap) (tk' : Nat), Ok v new → Fr h₀ L h' m → News h₀ L h' (new ++ news) → (∀ p ∈ new, ∀ q ∈ news, q.1 < p.1) → Q v { s with heap := h', toks := tk' }) :
    wpAny (model PG w) (ktrTop dp un gd cn cs L a ccd cl outer) (call (.ref f) [.ref l]) Q E s :=
  C l vs ns mean mg mb news dp un gd cn cs a ccd cl outer A₀ base h₀ L m s Q E hi hl hL B F X N T hk hdp hu ret
theorem pow3 {n : Int} (h0 : 0 ≤ n) (h1 : n ≤ 3) : ((3 : Int) ^ n.toNat ≠ 0) ∧ ((3 : Int) ^ n.toNat).natAbs.log2 < 9000 := by
  have h : ∀ k : Fin 4, ((3 : Int) ^ k.val ≠ 0) ∧ ((3 : Int) ^ k.val).natAbs.log2 < 9000 := by decide +kernel
  exact h ⟨n.toNat, by omega⟩
/-- at the law's own call no frame lies below: the ground stays -/
theorem CtS.top {k : Nat} {w : World} {f : Addr} {vs : List Value} {pre : Led} {Ok : Value → Led → Prop} (C : CtS k w f vs pre Ok)
    {mean : ExcName → Option Value} {mg mb : Str → Option Value} {news : Led} {dp un : Nat} {gd : Option (List Code)} {cn : Str} {cs : Scope} {a : Addr} {ccd : Value} {cl : List (Str × Addr)} {A₀ : Around} {base h₀ : Heap} {L : Addr} {m : Str → Option Value} {s : Shared} {Q E : Value → Shared → Prop}
    (B : Below A₀ base [] h₀) (F : Fr h₀ L s.heap m) (X : (hd.heap_39 w.params).In h₀) (N : News h₀ L s.heap news) (T : Top hd.view_39 LO mean mg mb h₀) (XB : (hd.heap_39 w.params).In base) (TB : Top hd.view_39 LO mean mg mb base) (hp : ∀ p ∈ pre, p ∈ news) (hk : cs.kind = .function) (hdp : dp + 8 * k < recursionLimit) (hu : un + 64 * k < cLine)
    (ret : ∀ (v : Value) (new : Led) (h' : Heap) (tk' : Nat), Ok v new → Fr h₀ L h' m → News h₀ L h' (new ++ news) → Q v { s with heap := h', toks := tk' }) :
    wpAny (model PG w) (ktrTop dp un gd cn cs L a ccd cl []) (call (.ref f) vs) Q E s := by
  refine C.use B F X N T XB TB ktsDicts_nil hp hk hdp hu fun v new h₀' h' tk' hOk K F' N' _ _ _ _ _ => ?_
  have up : ∀ b o, h₀.get? b = some o → h₀'.get? b = some o := fun b o e => K.other b o e (fun m => nomatch m)
  refine ret v new h' tk' hOk ⟨F'.ns, fun b o e => F'.keep b o (up b o e), by rw [← K.size]; exact F'.above⟩ fun p hp => ⟨(N' p hp).1, (N' p hp).2.1, ?_⟩
  cases q : h₀.get? p.1 with
  | none => rfl
  | some o => have := (N' p hp).2.2; rw [up _ _ q] at this; cases this
theorem fmod3_bd (c : Int) : 0 ≤ c.fmod 3 ∧ c.fmod 3 ≤ 2 := by
  have h1 := Int.fmod_nonneg_of_pos c (by omega : (0 : Int) < 3)
  have h2 := Int.fmod_lt_of_pos c (by omega : (0 : Int) < 3)
  omega
theorem places_bd (c : Int) : BdL (List.map (fun k : Int => (c.fdiv (3 ^ k.toNat)).fmod 3) (rangeKs 0 (4 - 0 : Int).toNat)) := by
  have e : rangeKs 0 (4 - 0 : Int).toNat = [0, 1, 2, 3] := by decide
  rw [e]
  exact ⟨rfl, fun x hx => by
    obtain ⟨k, _, rfl⟩ := List.mem_map.mp hx
    exact fmod3_bd _⟩
theorem home_u (w : World) (p : Addr) (vs : List Value) (ns : List Int) (ho : Int) (th : Tok) (dr : Int) (td : Tok) (hi : IntsAre vs ns) (hb : BdL ns) (bh : 0 ≤ ho ∧ ho ≤ 2) :
    CtS 3 w 146 [.ref p, .int ho th, .int dr td] [(p, LCg.lst vs)] (fun v new => new = [] ∧ v = .bool true) := by
  obtain ⟨a0, a1, a2, a3, rfl, b0, b1, b2, b3⟩ := bdl_four hb
  obtain ⟨t0, t1, t2, t3, rfl⟩ := ints_four hi
  exact home_c w p 4 a0 a1 a2 a3 t0 t1 t2 t3 ho th dr td b0 b1 b2 b3 bh
set_option maxHeartbeats 400000000 in
theorem law_holds : PySem.Challenge.rw_xj0007_01.Holds := hd (by
  w_top off
  k_with_none
  (k_with "call ref" => (k_here; (with_reducible show wpAny _ _ (call (Value.ref 108) [Value.ref _]) _ _ _); (k_dflt (refine' CtI.use (cells_c _) ?zqI ?zqlen ?zqIL ?zqB ?zqF ?zqX ?zqN ?zqT ?zqhk ?zqhd ?zqhu ?_; (case zqI => with_reducible assumption); (case zqlen => omega); (case zqIL => k_asm); (case zqB => k_asm); (case zqF => k_asm); (case zqX => k_asm); (case zqN => k_asm); (case zqT => k_asm); (case zqhk => first | exact rfl | assumption); (case zqhd => ktr_room); (case zqhu => ktr_units))); (intro v new h' tk' hOk F' N' l1; obtain ⟨l', n', c0', u0, c1', u1, he1, he2⟩ := hOk; subst he1; subst he2; (try simp only [List.nil_append, List.cons_append] at N'); (have l2 := lt_of_new l1); clear l1; (try k_lt l2); (try k_sweep))))
  (k_with "binaryOp FloorDiv int int" => (k_here; (with_reducible show wpAny _ _ (binaryOp _ (Value.int _ _) (Value.int (3 ^ Int.toNat _) _)) _ _ _); (with_reducible refine floordiv_int (pow3 ?zqkz0 ?zqkz1).1 ?_ (Or.inl (PyProof.noPylong_of_log2 (pow3 ?zqkz0 ?zqkz1).2))); (case zqkz0 => omega); (case zqkz1 => omega)))
  (k_with "call ref" => (k_here; (with_reducible show wpAny _ _ (call (Value.ref 146) [Value.ref _, Value.int _ _, Value.int _ _]) _ _ _); (k_dflt (refine' CtS.top (home_u _ _ _ _ _ _ _ _ ?zqhi (places_bd _) (fmod3_bd _)) ?zqB ?zqF ?zqX ?zqN ?zqT ?zqXB ?zqTB ?zqhp ?zqhk ?zqhd ?zqhu ?_; (case zqhi => with_reducible assumption); (case zqB => k_asm); (case zqF => k_asm); (case zqX => k_asm); (case zqN => k_asm); (case zqT => k_asm); (case zqXB => k_asm); (case zqTB => k_asm); (case zqhp => refine mem_pre ?_; k_mem); (case zqhk => first | exact rfl | assumption); (case zqhd => ktr_room); (case zqhu => ktr_units))); (intro v new h' tk' hOk F' N'; obtain ⟨he1, he2⟩ := hOk; subst he1; subst he2; (try simp only [List.nil_append, List.cons_append] at N'); (try k_sweep))))
  k_go0
  k_steps
  )
end Mine
end
theorem PySem.Challenge.cw_xj0007_01_holds : PySem.Challenge.rw_xj0007_01.Holds := by
  exact Mine.law_holds
