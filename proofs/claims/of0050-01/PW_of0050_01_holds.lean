import PyProof.Rows.All
import Wide.All
import OpenK.AllK
import Wide.FinOn
import PySem.Challenge.RW_of0050_01
set_option Elab.async false
section -- Hd
open PySem PySem.W PyProof.Rows
namespace Mine
set_option maxRecDepth 100000 in
set_option maxHeartbeats 8000000 in
open_top hd for PySem.Challenge.rw_of0050_01
end Mine
end
section -- Rx
open PySem PySem.Sre
namespace Mine

def rxCode : Array Nat := #[14, 8, 1, 2, 4294967295, 1, 1, 46, 0, 16, 46, 24, 9, 1, 4294967295, 13, 4, 8, 0, 0, 1, 6, 5, 1]

def rxIter : Nat → M → M
  | 0, m => m
  | n + 1, m => rxIter n m.step

theorem rx_step_done {m : M} (h : m.outcome.isSome = true) : m.step = m := by
  unfold M.step; rw [if_pos h]

theorem rx_iter_done : ∀ (n : Nat) {m : M}, m.outcome.isSome = true → rxIter n m = m
  | 0, _, _ => rfl
  | n + 1, m, h => by show rxIter n m.step = m; rw [rx_step_done h]; exact rx_iter_done n h

theorem rx_runFor : ∀ (n : Nat) (m : M), M.runFor n m = rxIter n m
  | 0, _ => rfl
  | n + 1, m => by
    unfold M.runFor
    cases h : m.outcome.isSome with
    | true => rw [if_pos rfl, rx_iter_done (n + 1) h]
    | false => rw [if_neg (by decide)]; exact rx_runFor n m.step

theorem rx_iter_add : ∀ (a b : Nat) (m : M), rxIter (a + b) m = rxIter b (rxIter a m)
  | 0, b, m => by rw [Nat.zero_add]; rfl
  | a + 1, b, m => by rw [Nat.add_right_comm]; exact rx_iter_add a b m.step

/-- the machine at the start of a try at place p -/
structure RxAt (tx : Array Nat) (p : Nat) (m : M) : Prop where
  code : m.code = rxCode
  text : m.text = tx
  lim : m.lim = tx.size
  last : m.lastStart = tx.size
  pc : m.pc = 9
  pos : m.pos = p
  answer : m.answer = none
  outcome : m.outcome = none
  weight : m.weight = 1
  frames : ∃ b, m.frames = [{ wait := .nextStart, pc := 9, pos := p, outermost := b }]

/-- a try has failed -/
structure RxNo (tx : Array Nat) (p : Nat) (m : M) : Prop where
  code : m.code = rxCode
  text : m.text = tx
  lim : m.lim = tx.size
  last : m.lastStart = tx.size
  answer : m.answer = some false
  outcome : m.outcome = none
  weight : m.weight = 1
  frames : ∃ b, m.frames = [{ wait := .nextStart, pc := 9, pos := p, outermost := b }]

theorem rx_no_step {text : Array Nat} {p : Nat} {m : M} (h : RxNo text p m) :
    (p < text.size ∧ RxAt text (p + 1) m.step) ∨ (text.size ≤ p ∧ m.step.step.outcome = some .failed) := by
  obtain ⟨code, txt, lim, start, lastStart, wholeText, mustAdvance, pc, pos, handed, outermost, marks, lastmark, lastindex, loops, inner, frames, weight, answer, seen, outcome⟩ := m
  obtain ⟨hc, ht, hl, hla, ha, ho, hw, b, hf⟩ := h
  simp only at hc ht hl hla ha ho hw hf
  subst hc ht hl hla ha ho hw hf
  by_cases hp : p < txt.size
  · left
    refine ⟨hp, ?_⟩
    have e : (M.step ⟨rxCode, txt, txt.size, start, txt.size, wholeText, mustAdvance, pc, pos, handed, outermost, marks, lastmark, lastindex, loops, inner, [{ wait := .nextStart, pc := 9, pos := p, outermost := b }], 1, some false, seen, none⟩)
      = ⟨rxCode, txt, txt.size, p + 1, txt.size, wholeText, false, 9, p + 1, p + 1, false, marks, -1, -1, loops, inner, [{ wait := .nextStart, pc := 9, pos := p + 1, outermost := false }], 1, none, seen, none⟩ := by
      show (if p < txt.size then _ else _) = _
      rw [if_pos hp]; rfl
    rw [e]
    exact ⟨rfl, rfl, rfl, rfl, rfl, rfl, rfl, rfl, rfl, false, rfl⟩
  · right
    refine ⟨by omega, ?_⟩
    have e : (M.step ⟨rxCode, txt, txt.size, start, txt.size, wholeText, mustAdvance, pc, pos, handed, outermost, marks, lastmark, lastindex, loops, inner, [{ wait := .nextStart, pc := 9, pos := p, outermost := b }], 1, some false, seen, none⟩)
      = ⟨rxCode, txt, txt.size, start, txt.size, wholeText, mustAdvance, 9, p, handed, b, marks, lastmark, lastindex, loops, inner, [], 0, some false, seen, none⟩ := by
      show (if p < txt.size then _ else _) = _
      rw [if_neg hp]; rfl
    rw [e]; rfl

theorem rx_at_step {text : Array Nat} (hd : ∀ p, isDigit (text.getD p 0) = false) {p : Nat} {m : M} (h : RxAt text p m) :
    RxNo text p m.step ∨ RxNo text p m.step.step := by
  obtain ⟨code, txt, lim, start, lastStart, wholeText, mustAdvance, pc, pos, handed, outermost, marks, lastmark, lastindex, loops, inner, frames, weight, answer, seen, outcome⟩ := m
  obtain ⟨hc, ht, hl, hla, hpc, hpos, ha, ho, hw, b, hf⟩ := h
  simp only at hc ht hl hla hpc hpos ha ho hw hf
  subst hc ht hl hla hpc hpos ha ho hw hf
  by_cases hp : pos ≥ txt.size
  · left
    have e : (M.step ⟨rxCode, txt, txt.size, start, txt.size, wholeText, mustAdvance, 9, pos, handed, outermost, marks, lastmark, lastindex, loops, inner, [{ wait := .nextStart, pc := 9, pos := pos, outermost := b }], 1, none, seen, none⟩)
      = ⟨rxCode, txt, txt.size, start, txt.size, wholeText, mustAdvance, 9, pos, handed, outermost, marks, lastmark, lastindex, loops, inner, [{ wait := .nextStart, pc := 9, pos := pos, outermost := b }], 1, some false, seen.add 16, none⟩ := by
      show (if pos ≥ txt.size then _ else _) = _
      rw [if_pos hp]; rfl
    rw [e]
    exact ⟨rfl, rfl, rfl, rfl, rfl, rfl, rfl, b, rfl⟩
  · by_cases hq : (txt.getD pos 0 == 46) = true
    · right
      have e : (M.step ⟨rxCode, txt, txt.size, start, txt.size, wholeText, mustAdvance, 9, pos, handed, outermost, marks, lastmark, lastindex, loops, inner, [{ wait := .nextStart, pc := 9, pos := pos, outermost := b }], 1, none, seen, none⟩)
        = ⟨rxCode, txt, txt.size, start, txt.size, wholeText, mustAdvance, 11, pos + 1, handed, outermost, marks, lastmark, lastindex, loops, inner, [{ wait := .nextStart, pc := 9, pos := pos, outermost := b }], 1, none, seen.add 16, none⟩ := by
        show (if pos ≥ txt.size then _ else match (Except.ok (txt.getD pos 0 == 46, seen.add 16) : Except String (Bool × Seen)) with | .error _ => _ | .ok (false, _) => _ | .ok (true, _) => _) = _
        rw [if_neg hp, hq]; rfl
      rw [e]
      by_cases hr : (((1 : Nat) : Int) > (txt.size : Int) - ((pos + 1 : Nat) : Int))
      · have e2 : (M.step ⟨rxCode, txt, txt.size, start, txt.size, wholeText, mustAdvance, 11, pos + 1, handed, outermost, marks, lastmark, lastindex, loops, inner, [{ wait := .nextStart, pc := 9, pos := pos, outermost := b }], 1, none, seen.add 16, none⟩)
          = ⟨rxCode, txt, txt.size, start, txt.size, wholeText, mustAdvance, 11, pos + 1, handed, outermost, marks, lastmark, lastindex, loops, inner, [{ wait := .nextStart, pc := 9, pos := pos, outermost := b }], 1, some false, (seen.add 16).add 24, none⟩ := by
          show (if (((1 : Nat) : Int) > (txt.size : Int) - ((pos + 1 : Nat) : Int)) then _ else _) = _
          rw [if_pos hr]; rfl
        rw [e2]
        exact ⟨rfl, rfl, rfl, rfl, rfl, rfl, rfl, b, rfl⟩
      · have hmin : ∃ k, min 4294967295 ((txt.size : Int) - ((pos + 1 : Nat) : Int)).toNat = k + 1 := ⟨min 4294967295 ((txt.size : Int) - ((pos + 1 : Nat) : Int)).toNat - 1, by omega⟩
        obtain ⟨k, hk⟩ := hmin
        have hrun : ∀ sn, run rxCode txt 15 (k + 1) (pos + 1) 0 sn = .ok (0, ((((sn.add 8).add 55)).add 0)) := by
          intro sn
          have hdig := hd (pos + 1)
          show (do let (yes, seen) ← (if isDigit (txt.getD (pos + 1) 0) != false then _ else _ : Except String (Bool × Seen)); if yes then _ else pure (0, seen)) = _
          rw [hdig]; rfl
        have e2 : (M.step ⟨rxCode, txt, txt.size, start, txt.size, wholeText, mustAdvance, 11, pos + 1, handed, outermost, marks, lastmark, lastindex, loops, inner, [{ wait := .nextStart, pc := 9, pos := pos, outermost := b }], 1, none, seen.add 16, none⟩)
          = ⟨rxCode, txt, txt.size, start, txt.size, wholeText, mustAdvance, 11, pos + 1, handed, outermost, marks, lastmark, lastindex, loops, inner, [{ wait := .nextStart, pc := 9, pos := pos, outermost := b }], 1, some false, (((((seen.add 16).add 24).add 13).add 8).add 55).add 0, none⟩ := by
          show (if (((1 : Nat) : Int) > (txt.size : Int) - ((pos + 1 : Nat) : Int)) then _ else match run rxCode txt 15 (min 4294967295 ((txt.size : Int) - ((pos + 1 : Nat) : Int)).toNat) (pos + 1) 0 (((seen.add 16).add 24).add 13) with | .error _ => _ | .ok (_, _) => _) = _
          rw [if_neg hr, hk, hrun]; rfl
        rw [e2]
        exact ⟨rfl, rfl, rfl, rfl, rfl, rfl, rfl, b, rfl⟩
    · left
      have hq' : (txt.getD pos 0 == 46) = false := by simpa using hq
      have e : (M.step ⟨rxCode, txt, txt.size, start, txt.size, wholeText, mustAdvance, 9, pos, handed, outermost, marks, lastmark, lastindex, loops, inner, [{ wait := .nextStart, pc := 9, pos := pos, outermost := b }], 1, none, seen, none⟩)
        = ⟨rxCode, txt, txt.size, start, txt.size, wholeText, mustAdvance, 9, pos, handed, outermost, marks, lastmark, lastindex, loops, inner, [{ wait := .nextStart, pc := 9, pos := pos, outermost := b }], 1, some false, seen.add 16, none⟩ := by
        show (if pos ≥ txt.size then _ else match (Except.ok (txt.getD pos 0 == 46, seen.add 16) : Except String (Bool × Seen)) with | .error _ => _ | .ok (false, _) => _ | .ok (true, _) => _) = _
        rw [if_neg hp, hq']; rfl
      rw [e]
      exact ⟨rfl, rfl, rfl, rfl, rfl, rfl, rfl, b, rfl⟩

theorem rx_fails {text : Array Nat} (hd : ∀ p, isDigit (text.getD p 0) = false) : ∀ (d p : Nat) (m : M), p + d = text.size → RxAt text p m → ∃ n, n ≤ 3 * d + 4 ∧ (rxIter n m).outcome = some .failed
  | d, p, m, hs, h => by
    have key : ∀ m', RxNo text p m' → ∃ n, n ≤ 3 * d + 2 ∧ (rxIter n m').outcome = some .failed := by
      intro m' h'
      rcases rx_no_step h' with ⟨hlt, hn⟩ | ⟨hge, hn⟩
      · cases d with
        | zero => omega
        | succ d =>
          obtain ⟨n, hn1, hn2⟩ := rx_fails hd d (p + 1) m'.step (by omega) hn
          exact ⟨n + 1, by omega, hn2⟩
      · exact ⟨2, by omega, hn⟩
    rcases rx_at_step hd h with h1 | h2
    · obtain ⟨n, a, b⟩ := key _ h1
      exact ⟨n + 1, by omega, b⟩
    · obtain ⟨n, a, b⟩ := key _ h2
      exact ⟨n + 2, by omega, b⟩

theorem rx_search {text : Array Nat} (hd : ∀ p, isDigit (text.getD p 0) = false) :
    ∃ n, n ≤ 3 * text.size + 4 ∧ (rxIter n (forSearch rxCode text 0 0 text.size false)).outcome = some .failed := by
  by_cases h : text.size < 2
  · refine ⟨1, by omega, ?_⟩
    have e : forSearch rxCode text 0 0 text.size false = M.say { code := rxCode, text, lim := text.size, start := 0, pc := 9, pos := 0, handed := 0, marks := Array.replicate (2 * 0) none, mustAdvance := false, seen := ({} : Seen).add 14 } false := by
      show (if 0 > text.size || text.size - 0 < 2 then _ else _) = _
      rw [if_pos (by simp; omega)]; rfl
    rw [e]; rfl
  · obtain ⟨n, a, b⟩ := rx_fails hd text.size 0 (forSearch rxCode text 0 0 text.size false) (by omega) (by
      have e : forSearch rxCode text 0 0 text.size false = M.attemptFrom { code := rxCode, text, lim := text.size, start := 0, lastStart := text.size, pc := 9, pos := 0, handed := 0, marks := Array.replicate (2 * 0) none, mustAdvance := false, seen := ({} : Seen).add 14 } 0 true := by
        show (if 0 > text.size || text.size - 0 < 2 then _ else _) = _
        rw [if_neg (by simp; omega)]; rfl
      rw [e]
      exact ⟨rfl, rfl, rfl, rfl, rfl, rfl, rfl, rfl, rfl, true, rfl⟩)
    exact ⟨n, a, b⟩
end Mine
end
section -- Rs
open PySem PySem.W PyProof.Rows PySem.Calls
namespace Mine
open PySem.Builtin.Re PySem.Sre

theorem rxSlot : Slot "re.Pattern" "search" "re.Pattern.search" :=
  .of (owner := "re.Pattern") (n := "search") (by rw [typeLookup_type, builtinLookup_eq_fast]; kernel_rfl) (by decide +kernel) (by decide +kernel) (by decide +kernel)
    (by first | exact .inl (by decide +kernel) | exact .inr (by decide +kernel)) (by rw [isSubtype_type]; kernel_rfl)
theorem rxEntry : entryFor table "re.Pattern.search" = some Builtin.«re.Pattern.search» := entryFor_of_tree (by kernel_rfl)
theorem rxArgs (a b : Value) : argsOk "re.Pattern.search" ⟨[a, b], []⟩ := by unfold argsOk; kernel_rfl
theorem rxPlain : PlainAttrs "re.Pattern" :=
  ⟨⟨"object.__getattribute__", by rw [typeLookup_type, builtinLookup_eq_fast]; kernel_rfl, by decide +kernel⟩, by rw [typeLookup_type, builtinLookup_eq_fast]; kernel_rfl⟩
theorem rxType : typeOf (.builtin "re.Pattern.search") = pure (.type "method_descriptor") := by show builtinType _ = _; rw [builtinType_eq_fast]; kernel_rfl

section
variable {M : Model} {A : Around} {E : Value → Shared → Prop} {s : Shared}
theorem rxDrive {Q : Sre.M → Shared → Prop} (hQ : ∀ m', m'.outcome = some .failed → Q m' s) : ∀ (turns n : Nat) (m : Sre.M), n < 4 * turns → (rxIter n m).outcome = some .failed → wpAny M A (reDrive turns m) Q E s
  | 0, n, _, h, _ => by omega
  | t + 1, n, m, h, hf => by
    show wpAny M A (if (m.runFor 4).outcome.isSome then pure (m.runFor 4) else do rule "sre.turn"; reDrive t (m.runFor 4)) Q E s
    rw [rx_runFor]
    cases ho : (rxIter 4 m).outcome.isSome with
    | true =>
      rw [if_pos rfl]
      refine wpAny_pure (hQ _ ?_)
      rcases Nat.le_total n 4 with hn | hn
      · obtain ⟨k, hk⟩ := Nat.exists_eq_add_of_le hn
        have : (rxIter n m).outcome.isSome = true := by rw [hf]; rfl
        rw [hk, rx_iter_add, rx_iter_done k this, hf]
      · obtain ⟨k, rfl⟩ := Nat.exists_eq_add_of_le hn
        rw [rx_iter_add, rx_iter_done k ho] at hf
        exact hf
    | false =>
      rw [if_neg (by decide)]
      refine wpAny_bind (wpAny_rule ?_)
      rcases Nat.lt_or_ge n 4 with hn | hn
      · obtain ⟨k, hk⟩ := Nat.exists_eq_add_of_le (Nat.le_of_lt hn)
        have : (rxIter n m).outcome.isSome = true := by rw [hf]; rfl
        rw [hk, rx_iter_add, rx_iter_done k this, hf] at ho
        cases ho
      · obtain ⟨k, rfl⟩ := Nat.exists_eq_add_of_le hn
        rw [rx_iter_add] at hf
        exact rxDrive hQ t k _ (by omega) hf

theorem rxRunToEnd {Q : Option Sre.M → Shared → Prop} {m : Sre.M} {n : Nat} (hn : n < 2 ^ 60) (hf : (rxIter n m).outcome = some .failed) (h : Q none s) : wpAny M A (reRunToEnd m) Q E s := by
  unfold reRunToEnd
  refine wpAny_bind (rxDrive (fun m' hm => ?_) (2 ^ 64) n m (by omega) hf)
  refine wpAny_bind (wpAny_forIn_list _ (fun _ _ s' => s' = s) _ (fun x rest b s₁ hI => ?_) (fun b s₁ hI => ?_) _ _ rfl)
  · subst hI
    split
    · exact wpAny_bind (wpAny_rule (wpAny_pure rfl))
    · exact wpAny_pure rfl
  · subst hI
    rw [hm]
    exact wpAny_pure h
end
theorem rxCall {prog : Program} {w : World} {A : Around} {E : Value → Shared → Prop} {s : Shared} {Q : Value → Shared → Prop} {x : Str} {t : Tok}
    (X : (Mine.hd.heap_39 w.params).In s.heap) (hd : ∀ p, isDigit (x.cps.getD p 0) = false) (hx : x.cps.size < 2 ^ 50) (h : Q .none s) :
    wpAny (model prog w) A (call (.builtin "re.Pattern.search") [.ref 36, .str x t]) Q E s := by
  have h36 : s.heap.get? 36 = some { cls := .type "re.Pattern", data := .fields #[.str ⟨#[92, 46, 92, 100, 43, 36]⟩ 285, .int 256 312, .int 0 0, .none, .none, .ref 35, .int 0 0] } := X 36 _ (by kernel_rfl)
  have h35 : s.heap.get? 35 = some { cls := .type "tuple", data := .seq #[.int 14 0, .int 8 0, .int 1 0, .int 2 0, .int 4294967295 0, .int 1 0, .int 1 0, .int 46 0, .int 0 0, .int 16 0, .int 46 0, .int 24 0, .int 9 0, .int 1 0, .int 4294967295 0, .int 13 0, .int 4 0, .int 8 0, .int 0 0, .int 0 0, .int 1 0, .int 6 0, .int 5 0, .int 1 0] 0 } := X 35 _ (by kernel_rfl)
  refine wpAny_call_entry rxSlot ⟨_, h36, rfl⟩ rxEntry ?_ (rxArgs _ _)
  show wpAny (model prog w) A.in1 (do
    let t ← reTarget "re.Pattern.search" "search" ⟨[.ref 36, .str x t], []⟩
    reAnswer t (Sre.forSearch t.code t.text t.groups t.pos t.lim false)) _ _ s
  refine wpAny_bind ?_
  have e : reTarget "re.Pattern.search" "search" ⟨[.ref 36, .str x t], []⟩ = (do
      let fs ← fieldsOf (.ref 36)
      let text := x.cps
      if reRawNat (fs.getD 6 .none) == 0 && 0 == 1 then raiseError "TypeError" "cannot use a string pattern on a bytes-like object"
      if reRawNat (fs.getD 6 .none) == 1 && 0 == 0 then raiseError "TypeError" "cannot use a bytes pattern on a string-like object"
      reNoCollectionInside (.str x t) 0
      pure { pattern := .ref 36, string := .str x t, code := (← reRawItems (fs.getD 5 .none)).map (·.toNat), text, kind := 0, groups := reRawNat (fs.getD 2 .none), pos := min (Int.toNat 0) text.size, lim := min (Int.toNat (2 ^ 63 - 1)) text.size }) := by
    rfl
  rw [e]
  refine wpAny_bind (wpAny_fieldsOf h36 rfl ?_)
  refine wpAny_bind (wpAny_pure ?_)
  refine wpAny_bind (wpAny_bind (wpAny_seqItems h35 rfl (wpAny_pure ?_)))
  refine wpAny_pure ?_
  have hlim : min (Int.toNat (2 ^ 63 - 1)) x.cps.size = x.cps.size := by
    have : Int.toNat (2 ^ 63 - 1) = 2 ^ 63 - 1 := by decide
    rw [this]; omega
  dsimp only
  rw [hlim]
  have ec : Array.map (fun i => i.toNat) (Array.map reRawOf (Option.getD (some #[Value.int 14 0, .int 8 0, .int 1 0, .int 2 0, .int 4294967295 0, .int 1 0, .int 1 0, .int 46 0, .int 0 0, .int 16 0, .int 46 0, .int 24 0, .int 9 0, .int 1 0, .int 4294967295 0, .int 13 0, .int 4 0, .int 8 0, .int 0 0, .int 0 0, .int 1 0, .int 6 0, .int 5 0, .int 1 0]) #[])) = rxCode := by decide +kernel
  rw [ec, Nat.zero_min (a := x.cps.size) |> fun e => (show min (Int.toNat 0) x.cps.size = 0 from e)]
  obtain ⟨n, hn, hf⟩ := rx_search hd
  refine wpAny_bind (rxRunToEnd (n := n) (by omega) hf ?_)
  exact wpAny_pure ⟨_, rfl, h⟩
theorem rxMethod {prog : Program} {w : World} {A : Around} {E : Value → Shared → Prop} {s : Shared} {pl : Sem Bool} {Q : Value × List Value → Shared → Prop}
    (X : (Mine.hd.heap_39 w.params).In s.heap) (h : Q (.builtin "re.Pattern.search", [.ref 36]) s) : wpAny (model prog w) A (getMethod (.ref 36) (Str.ofString "search") pl) Q E s := by
  have h36 : s.heap.get? 36 = some { cls := .type "re.Pattern", data := .fields #[.str ⟨#[92, 46, 92, 100, 43, 36]⟩ 285, .int 256 312, .int 0 0, .none, .none, .ref 35, .int 0 0] } := X 36 _ (by kernel_rfl)
  exact getMethod_builtin (T := "re.Pattern") ⟨_, h36, rfl⟩ rxPlain rxSlot rxType (fun a e => by cases e; exact ⟨_, h36, rfl⟩) h
end Mine
end
section -- Ct
theorem Mine.quiet_Ct : True := by
  w_top off
  trivial
open PySem PySem.W PyProof.Rows PySem.Calls
namespace Mine
noncomputable abbrev LO : List Str := looseW Mine.hd.view_39 [Str.ofString "IPV4_RE", Str.ofString "_filemode_table"]

structure NoDig (x : Str) : Prop where
  dig : ∀ p, Sre.isDigit (x.cps.getD p 0) = false
  size : x.cps.size < 2 ^ 20

theorem rxCall' {prog : Program} {w : World} {A : Around} {E : Value → Shared → Prop} {s : Shared} {Q : Value → Shared → Prop} {x : Str} {t : Tok}
    (X : (Mine.hd.heap_39 w.params).In s.heap) (hd : NoDig x) (h : Q .none s) :
    wpAny (model prog w) A (call (.builtin "re.Pattern.search") [.ref 36, .str x t]) Q E s := rxCall X hd.dig (Nat.lt_trans hd.size (by decide)) h

/-- what a call of a def of the text's gives: all that stood before stands after -/
def Gv (w : World) (f : Addr) (vs : List Value) (d : Nat) (P : Value → Heap → Heap → Prop) : Prop :=
  ∀ (mean : ExcName → Option Value) (mg mb : Str → Option Value) (dp un : Nat) (gd : Option (List Code)) (fr : Option (List Env)) (s : Shared) (Q E : Value → Shared → Prop)
  (_ : dp + d < recursionLimit) (_ : un + 8 * d + 100 < cLine) (_ : (Mine.hd.heap_39 w.params).In s.heap) (_ : Top Mine.hd.view_39 LO mean mg mb s.heap)
  (_ : ∀ v h' tk', P v s.heap h' → (∀ b o, s.heap.get? b = some o → h'.get? b = some o) → Q v {s with heap := h', toks := tk'}),
  wpAny (model PySem.Challenge.rw_of0050_01.row.prog w) { handled := none, depth := dp, frames := fr, guards := gd, units := un } (call (.ref f) vs) Q E s

theorem Gv.use {w : World} {f : Addr} {vs : List Value} {d : Nat} {P : Value → Heap → Heap → Prop} (C : Gv w f vs d P)
    {mean : ExcName → Option Value} {mg mb : Str → Option Value} {dp un : Nat} {gd : Option (List Code)} {fr : Option (List Env)} {g : Heap} {L : Addr} {m : Str → Option Value} {news : List (Addr × Obj)} {s : Shared} {Q E : Value → Shared → Prop}
    (F : Fr g L s.heap m) (N : News g L s.heap news) (X : (Mine.hd.heap_39 w.params).In g) (T : Top Mine.hd.view_39 LO mean mg mb g) (kd : dp + d < recursionLimit) (ku : un + 8 * d + 100 < cLine)
    (ret : ∀ v h' tk', P v s.heap h' → (∀ b o, s.heap.get? b = some o → h'.get? b = some o) → Fr g L h' m → News g L h' news → Q v {s with heap := h', toks := tk'}) :
    wpAny (model PySem.Challenge.rw_of0050_01.row.prog w) { handled := none, depth := dp, frames := fr, guards := gd, units := un } (call (.ref f) vs) Q E s :=
  C mean mg mb dp un gd fr s Q E kd ku (X.keeps F.keep) (T.keeps F.keep) fun v h' tk' p k => ret v h' tk' p k (F.keeps k) (N.grown k)

/-- a frame's map, written out -/
def frm : List (Str × Option Value) → Str → Option Value
  | [], _ => none
  | (a, v) :: r, y => if y = a then v else frm r y
def setL (x : Str) (v : Option Value) : List (Str × Option Value) → List (Str × Option Value)
  | [] => [(x, v)]
  | (a, u) :: r => if x = a then (a, v) :: r else (a, u) :: setL x v r
theorem frm_set (x : Str) (v : Option Value) : ∀ l : List (Str × Option Value), (fun y => if y = x then v else frm l y) = frm (setL x v l)
  | [] => rfl
  | (a, u) :: r => by
    have ih := frm_set x v r
    funext y
    have ihy : (if y = x then v else frm r y) = frm (setL x v r) y := congrFun ih y
    unfold setL
    by_cases hx : x = a
    · subst hx
      rw [if_pos rfl]
      simp only [frm]
      by_cases hy : y = x
      · rw [if_pos hy, if_pos hy]
      · rw [if_neg hy, if_neg hy, if_neg hy]
    · rw [if_neg hx]
      simp only [frm]
      by_cases hy : y = a
      · have : y ≠ x := fun e => hx (e.symm.trans hy)
        rw [if_neg this, if_pos hy, if_pos hy]
      · rw [if_neg hy, if_neg hy, ← ihy]
theorem frm_set' {x : Str} {v : Option Value} {l : List (Str × Option Value)} {m : Str → Option Value} (h : m = frm l) : (fun y => if y = x then v else m y) = frm (setL x v l) := by
  subst h; exact frm_set x v l
theorem frm_of_lookup : ∀ l : List (Str × Value), (fun y => List.lookup y l) = frm (l.map fun p => (p.1, some p.2))
  | [] => rfl
  | (a, u) :: r => by
    have ih := frm_of_lookup r
    funext y
    have ihy : List.lookup y r = frm (r.map fun p => (p.1, some p.2)) y := congrFun ih y
    rw [List.lookup_cons]
    simp only [List.map_cons, frm]
    by_cases hy : y = a
    · rw [if_pos hy, beq_iff_eq.mpr hy]
    · rw [if_neg hy, ← ihy, beq_eq_false_iff_ne.mpr hy]
theorem frm_none (x : Str) : ∀ l : List (Str × Option Value), frm l = frm (l ++ [(x, none)])
  | [] => by funext y; simp [frm]
  | (a, u) :: r => by
    funext y
    show (if y = a then u else frm r y) = (if y = a then u else frm (r ++ [(x, none)]) y)
    rw [frm_none x r]

theorem Fr.to {g h : Heap} {L : Addr} {m m' : Str → Option Value} (F : Fr g L h m) (e : m = m') : Fr g L h m' := e ▸ F

/-- the same, of a heap of which something is known -/
def Gh (w : World) (f : Addr) (vs : List Value) (d : Nat) (Pre : Heap → Prop) (P : Value → Heap → Heap → Prop) : Prop :=
  ∀ (mean : ExcName → Option Value) (mg mb : Str → Option Value) (dp un : Nat) (gd : Option (List Code)) (fr : Option (List Env)) (s : Shared) (Q E : Value → Shared → Prop)
  (_ : dp + d < recursionLimit) (_ : un + 8 * d + 100 < cLine) (_ : (Mine.hd.heap_39 w.params).In s.heap) (_ : Top Mine.hd.view_39 LO mean mg mb s.heap) (_ : Pre s.heap)
  (_ : ∀ v h' tk', P v s.heap h' → (∀ b o, s.heap.get? b = some o → h'.get? b = some o) → Q v {s with heap := h', toks := tk'}),
  wpAny (model PySem.Challenge.rw_of0050_01.row.prog w) { handled := none, depth := dp, frames := fr, guards := gd, units := un } (call (.ref f) vs) Q E s

theorem Gh.use {w : World} {f : Addr} {vs : List Value} {d : Nat} {Pre : Heap → Prop} {P : Value → Heap → Heap → Prop} (C : Gh w f vs d Pre P)
    {mean : ExcName → Option Value} {mg mb : Str → Option Value} {dp un : Nat} {gd : Option (List Code)} {fr : Option (List Env)} {g : Heap} {L : Addr} {m : Str → Option Value} {news : List (Addr × Obj)} {s : Shared} {Q E : Value → Shared → Prop}
    (F : Fr g L s.heap m) (N : News g L s.heap news) (X : (Mine.hd.heap_39 w.params).In g) (T : Top Mine.hd.view_39 LO mean mg mb g) (kd : dp + d < recursionLimit) (ku : un + 8 * d + 100 < cLine) (hp : Pre s.heap)
    (ret : ∀ v h' tk', P v s.heap h' → (∀ b o, s.heap.get? b = some o → h'.get? b = some o) → Fr g L h' m → News g L h' news → Q v {s with heap := h', toks := tk'}) :
    wpAny (model PySem.Challenge.rw_of0050_01.row.prog w) { handled := none, depth := dp, frames := fr, guards := gd, units := un } (call (.ref f) vs) Q E s :=
  C mean mg mb dp un gd fr s Q E kd ku (X.keeps F.keep) (T.keeps F.keep) hp fun v h' tk' p k => ret v h' tk' p k (F.keeps k) (N.grown k)

theorem enter0 {prog : Program} {w : World} {A : Around} {s : Shared} {K : Frag} {p : Program} {loose : List Str} {mean : ExcName → Option Value} {mg mb : Str → Option Value} {R : Result → Shared → Prop} {name qual : Str} {params : Arguments} {body : List Stmt} {scope : Scope} {dV kV doc pm cdv ct oc : Value} {an od : Option Addr} {osl : Array (Option Value)} {f : Addr} {args : Args} {binds : List (Str × Value)}
    (X₀ : K.In s.heap) (T : Top p loose mean mg mb s.heap)
    (ho : K.lookup f = some ⟨oc, od, .func (fnOf name qual params body scope dV kV doc pm an cdv ct), osl⟩) (hcd : codeIn K cdv qual = true) (hroom : A.depth < recursionLimit)
    (hbind : BindsTo s (fnOf name qual params body scope dV kV doc pm an cdv ct) args binds) (hloc : ∀ y ∈ binds, scope.names.lookup y.1 = some .local)
    (h : ∀ g L' h₁ tk, (∀ b o, s.heap.get? b = some o → g.get? b = some o) → Fr g L' h₁ (fun y => binds.reverse.lookup y) → News g L' h₁ [] → K.In g → Top p loose mean mg mb g →
      wpAny (model prog w) (A.deeper (envOf qual scope L' f cdv)) (execs body (envOf qual scope L' f cdv))
        (fun fl s' => R (.ok (.ret (match fl with | .ret v => v | _ => .none))) s')
        (fun _ _ => False)
        { s with heap := h₁, toks := tk })
    (hco : scope.isCoroutine = false) (hgen : scope.isGenerator = false) (hk : scope.kind = .function)
    (hcell : ∀ x ∈ scope.names, x.2 ≠ .cell) : codeAny (model prog w) A (.call (.ref f) args) R s := by
  refine codeAny_call_def (fd := fnX name qual params body scope [] dV kV doc pm an cdv ct) (body := body) (binds := binds) hroom (X₀ _ _ ho) rfl T.nolimit (codeRec_of X₀ hcd) rfl hbind hcell hloc (fun h₁ hns hk₁ => ?_) hco hgen hk
  exact wpAny_mono (h s.heap s.heap.objs.size h₁ _ (fun _ _ e => e) ⟨hns, hk₁, Nat.le_refl _⟩ News.nil X₀ T) (fun _ _ x => x) fun _ _ x => x.elim


local macro_rules | `(tactic| walk_at "getMethod ref") => `(tactic| (k_here; (with_reducible show wpAny _ _ (getMethod (Value.ref 36) _ _) _ _ _); refine rxMethod ?kx ?_; (case kx => k_in)))
local macro_rules | `(tactic| walk_at "call builtin:re.Pattern.search") => `(tactic| (k_here; refine rxCall' ?kx ?kd ?_; (case kx => k_in); (case kd => assumption)))

set_option maxRecDepth 100000 in
set_option maxHeartbeats 8000000 in
set_option pp.deepTerms false in
set_option pp.maxSteps 30000 in
theorem liberal_c : ∀ (w : World) (x : Str) (t : Tok) (_ : NoDig x), Gv w 57 [.str x t] 1 (fun v _ _ => v = .bool true) := by
  unfold Gv
  k_fill
  intro w x t hx mean mg mb dp un gd fr s Q E hd hu X T hret
  refine wpAny_call ?_
  k_dflt (refine' enter0 ?k3 ?k5 ?k6 ?k7 ?k8 ?k9 ?kB ?_ ?c2 ?c3 ?c4 ?c5; (case k3 => k_asm); (case k5 => k_asm); (case k6 => k_is); (case k7 => k_is); (case k8 => (dsimp only; omega)); (case k9 => exact BindsTo.of_eq rfl); (case c5 => decide); (case kB => exact locs rfl); (case c2 => exact rfl); (case c3 => exact rfl); (case c4 => exact rfl); k_whole; intro g' L' h' tk' G' F' N' X' T'; (try dsimp only); (try k_fold))
  clear X T
  replace F' := Fr.to F' (frm_of_lookup [(Str.ofString "text", Value.str x t)])
  k_steps
  all_goals (show Q _ _; exact hret _ _ _ rfl (fun b o e => Fr.keep (by k_asm) b o (G' b o e)))

local macro_rules | `(tactic| walk_at "call ref") => `(tactic| (k_here; (with_reducible show wpAny _ _ (call (Value.ref 57) _) _ _ _); k_dflt (refine' Gv.use (liberal_c _ _ _ ?kp) ?k2 ?k4 ?k3 ?k5 ?kd ?ku ?_; (case kp => assumption); (case k2 => k_asm); (case k4 => k_asm); (case k3 => k_asm); (case k5 => k_asm); (case kd => ktr_room); (case ku => ktr_units)); k_whole; intro v9 h9 tk9 p9 K9 F9 N9; subst p9; (try dsimp only); (try k_fold)))

set_option maxRecDepth 100000 in
set_option maxHeartbeats 8000000 in
set_option pp.deepTerms false in
set_option pp.maxSteps 30000 in
theorem user_c : ∀ (w : World) (x y : Str) (t u : Tok) (_ : x.length ≤ 1000) (_ : y.length ≤ 1000) (_ : NoDig (Txt.lower x)) (_ : NoDig (Txt.lower y)) (_ : Txt.startswith (Txt.lower y) (Str.ofString ".") = false), Gv w 64 [.str x t, .str y u] 2 (fun v _ _ => v = .bool (decide (Txt.lower x = Txt.lower y))) := by
  unfold Gv
  k_fill
  intro w x y t u hx hy hx2 hy2 hst mean mg mb dp un gd fr s Q E hd hu X T hret
  refine wpAny_call ?_
  k_dflt (refine' enter0 ?k3 ?k5 ?k6 ?k7 ?k8 ?k9 ?kB ?_ ?c2 ?c3 ?c4 ?c5; (case k3 => k_asm); (case k5 => k_asm); (case k6 => k_is); (case k7 => k_is); (case k8 => (dsimp only; omega)); (case k9 => exact BindsTo.of_eq rfl); (case c5 => decide); (case kB => exact locs rfl); (case c2 => exact rfl); (case c3 => exact rfl); (case c4 => exact rfl); k_whole; intro g' L' h' tk' G' F' N' X' T'; (try dsimp only); (try k_fold))
  clear X T
  replace F' := Fr.to F' (frm_of_lookup [(Str.ofString "B", Value.str y u), (Str.ofString "A", Value.str x t)])
  k_steps
  all_goals (show Q _ _; exact hret _ _ _ (by simp_all) (fun b o e => Fr.keep (by k_asm) b o (G' b o e)))

structure Hdn (x : Str) : Prop where
  len : x.length ≤ 1000
  pos : 1 ≤ x.length
  dig : NoDig x
  ne : (x == Str.ofString "") = false
  first : (Txt.item x 0 == Str.ofString ".") = false
  last : (Txt.item x (-1) == Str.ofString ".") = false

set_option maxRecDepth 100000 in
set_option maxHeartbeats 8000000 in
set_option pp.deepTerms false in
set_option pp.maxSteps 30000 in
theorem isHDN_c : ∀ (w : World) (x : Str) (t : Tok) (_ : Hdn x), Gv w 43 [.str x t] 1 (fun v _ _ => v = .bool true) := by
  unfold Gv
  k_fill
  intro w x t hx mean mg mb dp un gd fr s Q E hd hu X T hret
  obtain ⟨hx1, hx0, hx2, hx3, hx4, hx5⟩ := hx
  refine wpAny_call ?_
  k_dflt (refine' enter0 ?k3 ?k5 ?k6 ?k7 ?k8 ?k9 ?kB ?_ ?c2 ?c3 ?c4 ?c5; (case k3 => k_asm); (case k5 => k_asm); (case k6 => k_is); (case k7 => k_is); (case k8 => (dsimp only; omega)); (case k9 => exact BindsTo.of_eq rfl); (case c5 => decide); (case kB => exact locs rfl); (case c2 => exact rfl); (case c3 => exact rfl); (case c4 => exact rfl); k_whole; intro g' L' h' tk' G' F' N' X' T'; (try dsimp only); (try k_fold))
  clear X T
  replace F' := Fr.to F' (frm_of_lookup [(Str.ofString "text", Value.str x t)])
  k_steps
  all_goals (show Q _ _; exact hret _ _ _ rfl (fun b o e => Fr.keep (by k_asm) b o (G' b o e)))

local macro_rules | `(tactic| walk_at "call ref") => `(tactic| (k_here; (with_reducible show wpAny _ _ (call (Value.ref 43) _) _ _ _); k_dflt (refine' Gv.use (isHDN_c _ _ _ ?kp) ?k2 ?k4 ?k3 ?k5 ?kd ?ku ?_; (case kp => assumption); (case k2 => k_asm); (case k4 => k_asm); (case k3 => k_asm); (case k5 => k_asm); (case kd => ktr_room); (case ku => ktr_units)); k_whole; intro v9 h9 tk9 p9 K9 F9 N9; subst p9; (try dsimp only); (try k_fold)))

set_option maxRecDepth 100000 in
set_option maxHeartbeats 8000000 in
set_option pp.deepTerms false in
set_option pp.maxSteps 30000 in
theorem domain_c : ∀ (w : World) (x y : Str) (t u : Tok) (_ : x.length ≤ 1000) (_ : y.length ≤ 1000) (_ : (Txt.lower x == Txt.lower y) = false) (_ : Hdn (Txt.lower x)) (_ : Txt.startswith (Txt.lower y) (Str.ofString ".") = true) (_ : Hdn (Txt.slice (Txt.lower y) (some 1) none)), Gv w 50 [.str x t, .str y u] 2 (fun v _ _ => v = .bool (decide (Txt.rfind (Txt.lower x) (Txt.lower y) ≠ -1 ∧ Txt.rfind (Txt.lower x) (Txt.lower y) ≠ 0))) := by
  unfold Gv
  k_fill
  intro w x y t u hx hy hne hX hst hY mean mg mb dp un gd fr s Q E hd hu X T hret
  refine wpAny_call ?_
  k_dflt (refine' enter0 ?k3 ?k5 ?k6 ?k7 ?k8 ?k9 ?kB ?_ ?c2 ?c3 ?c4 ?c5; (case k3 => k_asm); (case k5 => k_asm); (case k6 => k_is); (case k7 => k_is); (case k8 => (dsimp only; omega)); (case k9 => exact BindsTo.of_eq rfl); (case c5 => decide); (case kB => exact locs rfl); (case c2 => exact rfl); (case c3 => exact rfl); (case c4 => exact rfl); k_whole; intro g' L' h' tk' G' F' N' X' T'; (try dsimp only); (try k_fold))
  clear X T
  replace F' := Fr.to F' (frm_of_lookup [(Str.ofString "B", Value.str y u), (Str.ofString "A", Value.str x t)])
  k_steps
  all_goals (show Q _ _; exact hret _ _ _ (by simp [*]) (fun b o e => Fr.keep (by k_asm) b o (G' b o e)))
end Mine
end
section -- Lp
open PySem PySem.W PyProof.Rows PySem.Calls
namespace Mine
section
variable {prog : Program} {w : World} {A : Around} {s : Shared} {env : Env} {h₀ : Heap} {target : Expr} {body orelse : List Stmt} {Q : Flow → Shared → Prop}

/-- a turn's end: the loop goes on -/
def TurnEnd (h₀ : Heap) (L : Addr) (wr : List Addr) (own : List (Addr × Obj)) (J : (Str → Option Value) → List (Addr × Obj) → Prop) (s s₃ : Shared) : Prop :=
  ∃ h' tk m₂ news₂, s₃ = { s with heap := h', toks := tk } ∧ Fr h₀ L h' m₂ ∧ News h₀ L h' (own ++ news₂) ∧ (∀ p ∈ news₂, p.1 ∉ wr) ∧ J m₂ news₂

def TurnPost (h₀ : Heap) (L : Addr) (wr : List Addr) (own : List (Addr × Obj)) (J : (Str → Option Value) → List (Addr × Obj) → Prop) (s : Shared) (Q : Flow → Shared → Prop) (f : Flow) (s₃ : Shared) : Prop :=
  match f with
  | .next | .cont => TurnEnd h₀ L wr own J s s₃
  | .brk => Q .next s₃
  | .ret v => Q (.ret v) s₃

theorem my_loop {I : Addr} {fp wr : List Addr} {n : Nat} {P Md : Nat → Value → Heap → Prop} {St : Nat → Heap → Prop} {m : Str → Option Value} {news src : List (Addr × Obj)} (W : KTurns prog w A target I fp wr n P Md St)
    (hLf : env.locals ∉ fp) (hwr : ∀ b ∈ wr, h₀.get? b = none) (hsrc : ∀ b ∈ fp, b ∉ wr → (∃ o, h₀.get? b = some o) ∨ ∃ o, (b, o) ∈ src)
    (live : ∀ i h, St i h → ∃ own : List (Addr × Obj), own.map (·.1) = wr ∧ ∀ p ∈ own, h.get? p.1 = some p.2)
    (hst : St 0 s.heap) (F : Fr h₀ env.locals s.heap m) (N : News h₀ env.locals s.heap news) (hoff : ∀ p ∈ news, p.1 ∉ wr)
    (J : Nat → (Str → Option Value) → List (Addr × Obj) → Prop) (h0 : J 0 m news) (hJs : ∀ i m' news', J i m' news' → ∀ p ∈ src, p ∈ news')
    (step : ∀ i v m₁ news₁ h₁ tk₁ own, i < n → own.map (·.1) = wr → P i v h₁ → J i m₁ news₁ → (∀ p ∈ news₁, p.1 ∉ wr) → Fr h₀ env.locals h₁ m₁ → News h₀ env.locals h₁ (own ++ news₁) →
      wpAny (model prog w) A (assign target env v) (fun _ s₂ => wpAny (model prog w) A (execs body env) (TurnPost h₀ env.locals wr own (J (i + 1)) s Q) (fun _ _ => False) s₂) (fun _ _ => False) { s with heap := h₁, toks := tk₁ })
    (hend : ∀ h' tk m' news', Fr h₀ env.locals h' m' → News h₀ env.locals h' news' → J n m' news' → wpAny (model prog w) A (execs orelse env) Q (fun _ _ => False) { s with heap := h', toks := tk }) :
    codeAny (model prog w) A (.forLoop target (.ref I) body orelse env) (fun r s' => match r with | .ok f => Q f s' | .error _ => False) s := by
  have hLw : env.locals ∉ wr := fun h => hLf (W.sub _ h)
  have old : ∀ b o, h₀.get? b = some o → b ∉ wr := fun b o e hb => by rw [hwr b hb] at e; cases e
  refine codeAny_forLoop_any
    (fun k s' => ∃ h' tk m' news' i, s' = { s with heap := h', toks := tk } ∧ St i h' ∧ Fr h₀ env.locals h' m' ∧ News h₀ env.locals h' news' ∧ (∀ p ∈ news', p.1 ∉ wr) ∧ J i m' news' ∧ i ≤ n ∧ k = n + 1 - i) ?_ (n + 1)
    ⟨s.heap, s.toks, m, news, 0, rfl, hst, F, N, hoff, h0, Nat.zero_le _, rfl⟩
  rintro k s' ⟨h', tk, m', news', i, rfl, hst', F', N', hnw', hJ, hi, rfl⟩
  have next : ∀ h₁ : Heap, (∀ b o, b ∉ wr → h'.get? b = some o → h₁.get? b = some o) → Fr h₀ env.locals h₁ m' ∧ News h₀ env.locals h₁ news' := fun h₁ hk₁ =>
    ⟨⟨F'.ns.at' fun o e => hk₁ _ o hLw e, fun b o e => hk₁ b o (old b o e) (F'.keep b o e), F'.above⟩, fun p hp => ⟨hk₁ _ _ (hnw' p hp) (N' p hp).1, (N' p hp).2⟩⟩
  by_cases hlt : i < n
  · refine W.item i _ _ _ hlt hst' fun v h₁ tk₁ hMd hk₁ => ?_
    refine W.go i v _ _ _ hMd fun h₂ hP hst₂ hk₂ => ?_
    obtain ⟨F₂, N₂⟩ := next h₂ fun b o hb x => hk₂ b o hb (hk₁ b o hb x)
    obtain ⟨own, hown, hget⟩ := live _ _ hst₂
    have Nown : News h₀ env.locals h₂ (own ++ news') := fun p hp => by
      rcases List.mem_append.mp hp with hp | hp
      · have hw : p.1 ∈ wr := by rw [← hown]; exact List.mem_map_of_mem hp
        exact ⟨hget p hp, fun e => hLw (e ▸ hw), hwr _ hw⟩
      · exact N₂ p hp
    refine wpAny_mono (step i v m' news' h₂ tk₁ own hlt hown hP hJ hnw' F₂ Nown) (fun _ s₂ h₂' => wpAny_mono h₂' (fun f s₃ h₃ => ?_) fun _ _ e => e.elim) fun _ _ e => e.elim
    have goes : TurnEnd h₀ env.locals wr own (J (i + 1)) s s₃ → ∃ k, k < n + 1 - i ∧ ∃ h' tk m' news' i, s₃ = { s with heap := h', toks := tk } ∧ St i h' ∧ Fr h₀ env.locals h' m' ∧ News h₀ env.locals h' news' ∧ (∀ p ∈ news', p.1 ∉ wr) ∧ J i m' news' ∧ i ≤ n ∧ k = n + 1 - i := by
      rintro ⟨h₃', tk₃, m₂, news₂, rfl, F₃, N₃, ha₃, hJ₃⟩
      refine ⟨n + 1 - (i + 1), by omega, h₃', tk₃, m₂, news₂, i + 1, rfl, ?_, F₃, fun p hp => N₃ p (List.mem_append_right _ hp), ha₃, hJ₃, hlt, rfl⟩
      refine W.frame _ _ _ hst₂ fun b hb o e => ?_
      by_cases hbw : b ∈ wr
      · rw [← hown] at hbw
        obtain ⟨⟨qa, qo⟩, hq, hqe⟩ := List.mem_map.mp hbw
        have hqe' : qa = b := hqe
        subst hqe'
        have h5 := (N₃ _ (List.mem_append_left _ hq)).1
        have h6 : h₂.get? qa = some qo := hget _ hq
        rw [e] at h6; cases h6; exact h5
      · rcases hsrc b hb hbw with ⟨o₀, ho⟩ | ⟨o₀, ho⟩
        · have q := F₂.keep b o₀ ho
          rw [e] at q; cases q
          exact F₃.keep b o ho
        · have q := (N₂ _ (hJs _ _ _ hJ _ ho)).1
          simp only at q
          rw [e] at q; cases q
          exact (N₃ _ (List.mem_append_right _ (hJs _ _ _ hJ₃ _ ho))).1
    cases f with
    | ret v => exact h₃
    | brk => exact h₃
    | cont => exact goes h₃
    | next => exact goes h₃
  · have hin : i = n := by omega
    subst hin
    refine W.done _ _ _ hst' fun h₁ tk₁ hk₁ => ?_
    obtain ⟨F₁, N₁⟩ := next h₁ hk₁
    exact wpAny_mono (hend h₁ tk₁ m' news' F₁ N₁ hJ) (fun _ _ x => x) fun _ _ e => e.elim
end
end Mine
end
section -- Lq
open PySem PySem.W PyProof.Rows PySem.Calls
namespace Mine
theorem own1 {own : List (Addr × Obj)} {I : Addr} (h : own.map (·.1) = [I]) : ∃ o, own = [(I, o)] := by
  cases own with
  | nil => cases h
  | cons p r => cases r with
    | nil => obtain ⟨a, o⟩ := p; cases h; exact ⟨o, rfl⟩
    | cons q r => cases h
theorem own2 {own : List (Addr × Obj)} {I K : Addr} (h : own.map (·.1) = [I, K]) : ∃ o q, own = [(I, o), (K, q)] := by
  cases own with
  | nil => cases h
  | cons p r => cases r with
    | nil => cases h
    | cons q r => cases r with
      | nil => obtain ⟨a, o⟩ := p; obtain ⟨b, q⟩ := q; cases h; exact ⟨o, q, rfl⟩
      | cons q r => cases h
section
variable {prog : Program} {w : World} {A : Around} {E : Value → Shared → Prop} {s : Shared} {env : Env} {h₀ : Heap} {target : Expr} {body orelse : List Stmt} {Q : Flow → Shared → Prop}

theorem tup_loop {ax : Addr} {vs : List Value} {m : Str → Option Value} {news : List (Addr × Obj)} (hh : A.handled = none) (F : Fr h₀ env.locals s.heap m) (N : News h₀ env.locals s.heap news) (ht : h₀.IsTuple ax vs.toArray)
    (J : Nat → (Str → Option Value) → List (Addr × Obj) → Prop) (h0 : J 0 m news)
    (step : ∀ I i v m₁ news₁ h₁ tk₁ o, (∀ p ∈ news, p.1 < I) → vs[i]? = some v → J i m₁ news₁ → (∀ p ∈ news₁, p.1 ∉ [I]) → Fr h₀ env.locals h₁ m₁ → News h₀ env.locals h₁ ([(I, o)] ++ news₁) →
      wpAny (model prog w) A (assign target env v) (fun _ s₂ => wpAny (model prog w) A (execs body env) (TurnPost h₀ env.locals [I] [(I, o)] (J (i + 1)) s Q) (fun _ _ => False) s₂) (fun _ _ => False) { s with heap := h₁, toks := tk₁ })
    (hend : ∀ h' tk m' news', Fr h₀ env.locals h' m' → News h₀ env.locals h' news' → J vs.length m' news' → wpAny (model prog w) A (execs orelse env) Q (fun _ _ => False) { s with heap := h', toks := tk }) :
    wpAny (model prog w) A (pyIter (.ref ax)) (fun it s₂ => codeAny (model prog w) A (.forLoop target it body orelse env) (fun r s' => match r with | .ok f => Q f s' | .error e => cameBackBy (model prog w) A env E e s') s₂) E s := by
  have ht' : s.heap.IsTuple ax vs.toArray := ht.at fun o e => F.keep _ _ e
  obtain ⟨o₀, ho₀, _⟩ := id ht
  have hlt : ax < s.heap.objs.size := Heap.lt_size (F.keep _ _ ho₀)
  have hne : ax ≠ s.heap.objs.size := Nat.ne_of_lt hlt
  refine wpAny_pyIter_tuple ht' ?_
  refine codeAny_mono (my_loop (Q := Q) (s := { s with heap := s.heap.push { cls := .type "tuple_iterator", data := .fields #[.ref ax, .int 0 0] } }) (src := []) (KTurns.ofWalks (Walks.tuple hh s.heap.objs.size ax hne vs.toArray) fun i v s Q E st q => letGo_tupleiter st.1 q) ?_ ?_ ?_ ?_ ?_ (F.push _) (fun p hp => ⟨Heap.get?_push_of_some _ (N p hp).1, (N p hp).2⟩) ?_ J h0 (fun _ _ _ _ _ hp => nomatch hp) ?_ ?_) ?_
  · intro hI
    rcases List.mem_cons.mp hI with e | hI
    · exact absurd F.ns.lt (e ▸ Nat.lt_irrefl _)
    · have := List.mem_singleton.mp hI
      exact absurd (Nat.lt_of_lt_of_le (Heap.lt_size ho₀) F.above) (this ▸ Nat.lt_irrefl _)
  · intro b hb
    rw [List.mem_singleton.mp hb]; exact next_is_new F
  · intro b hb hn
    rcases List.mem_cons.mp hb with e | hb
    · exact absurd (by rw [e]; exact List.mem_singleton_self _) hn
    · rw [List.mem_singleton.mp hb]; exact .inl ⟨o₀, ho₀⟩
  · rintro i h ⟨⟨it, hit, _⟩, _⟩
    exact ⟨[(s.heap.objs.size, it)], rfl, fun p hp => by rw [List.mem_singleton.mp hp]; exact hit⟩
  · exact ⟨⟨_, Heap.get?_push_size _ rfl, rfl, rfl⟩, ht'.push _⟩
  · intro p hp hI
    exact absurd (Heap.lt_size (N p hp).1) ((List.mem_singleton.mp hI) ▸ Nat.lt_irrefl _)
  · intro i v m₁ news₁ h₁ tk₁ own hi hown hP hJ hoff F₁ N₁
    obtain ⟨o, rfl⟩ := own1 hown
    have hv : vs[i]? = some v := by have : vs.toArray[i]? = some v := hP; simpa using this
    exact step _ i v m₁ news₁ h₁ tk₁ o (fun p hp => Heap.lt_size (N p hp).1) hv hJ hoff F₁ N₁
  · intro h' tk m' news' F' N' hJ
    exact hend h' tk m' news' F' N' (by simpa using hJ)
  · intro r s' h
    cases r with
    | ok f => exact h
    | error e => exact h.elim

theorem nextOf_tuple_item {it l : Addr} {i : Nat} {items} {x : Value} {Q : Value → Shared → Prop} (hit : s.heap.IsTupleIter it l i)
    (hl : s.heap.IsTuple l items) (hx : items[i]? = some x)
    (hQ : ∀ h', h'.IsTupleIter it l (i + 1) → Heap.SameBut it s.heap h' → Q x { s with heap := h' }) :
    wpAny (model prog w) A (Builtin.SmallTypes.nextOf (.ref it)) Q E s := by
  obtain ⟨o, ho, hc, hd⟩ := id hit
  obtain ⟨ol, hol, _, nl, hdl⟩ := hl
  unfold Builtin.SmallTypes.nextOf
  refine wpAny_bind (wpAny_callSpecial?_slot (name := Str.ofString "__next__") hit.typeIs F.slot_tuple_iterator_next
    (wpAny_call_entry F.slot_tuple_iterator_next hit.typeIs F.entry_tuple_iterator_next ?_ (F.args_tuple_iterator_next_1 _)))
  show wpAny _ _ (field (.ref it) 0 >>= _) _ _ s
  refine wpAny_bind (wpAny_field ho hd (x := .ref l) rfl ?_)
  show wpAny _ _ (if (Value.ref l == Value.none) = true then _ else _) _ _ s
  rw [if_neg (show ¬ ((Value.ref l == Value.none) = true) from Bool.false_ne_true)]
  show wpAny _ _ (field (.ref it) 1 >>= _) _ _ s
  refine wpAny_bind (wpAny_field ho hd (x := .int i 0) rfl ?_)
  show wpAny _ _ (seqItems? (.ref l) >>= _) _ _ s
  refine wpAny_bind (wpAny_seqItems hol hdl ?_)
  simp only [Int.toNat_natCast, hx]
  refine wpAny_bind (wpAny_setField ho hd (by simp) (wpAny_pure ⟨x, rfl, wpAny_pure (hQ _ ?_ (Heap.SameBut.update ..))⟩))
  exact ⟨_, Heap.get?_update_self _ ho (Obj.isFreed_of_fields (Obj.data_mapFields hd _)), (Obj.cls_mapFields ..).trans hc, by
    rw [Obj.data_mapFields hd]; simp [rawInt]⟩

theorem nextOf_tuple_end {it l : Addr} {i : Nat} {items} {Q : Value → Shared → Prop} (hh : A.handled = none)
    (hit : s.heap.IsTupleIter it l i) (hl : s.heap.IsTuple l items) (hx : items[i]? = none)
    (hE : ∀ h' e, Heap.ExtBut it s.heap h' → (∃ o, h'.get? e = some o ∧ o.cls = .type "StopIteration") → E (.ref e) { s with heap := h' }) :
    wpAny (model prog w) A (Builtin.SmallTypes.nextOf (.ref it)) Q E s := by
  obtain ⟨o, ho, hc, hd⟩ := id hit
  obtain ⟨ol, hol, _, nl, hdl⟩ := hl
  unfold Builtin.SmallTypes.nextOf
  refine wpAny_bind (wpAny_callSpecial?_slot (name := Str.ofString "__next__") hit.typeIs F.slot_tuple_iterator_next
    (wpAny_call_entry F.slot_tuple_iterator_next hit.typeIs F.entry_tuple_iterator_next ?_ (F.args_tuple_iterator_next_1 _)))
  show wpAny _ _ (field (.ref it) 0 >>= _) _ _ s
  refine wpAny_bind (wpAny_field ho hd (x := .ref l) rfl ?_)
  show wpAny _ _ (if (Value.ref l == Value.none) = true then _ else _) _ _ s
  rw [if_neg (show ¬ ((Value.ref l == Value.none) = true) from Bool.false_ne_true)]
  show wpAny _ _ (field (.ref it) 1 >>= _) _ _ s
  refine wpAny_bind (wpAny_field ho hd (x := .int i 0) rfl ?_)
  show wpAny _ _ (seqItems? (.ref l) >>= _) _ _ s
  refine wpAny_bind (wpAny_seqItems hol hdl ?_)
  simp only [Int.toNat_natCast, hx]
  refine wpAny_bind (wpAny_rule (wpAny_bind (wpAny_setField ho hd (by simp) ?_)))
  show wpAny _ _ (newExc (.type "StopIteration") [] >>= _) _ _ _
  refine wpAny_bind ?_
  simp only [newExc, newTuple]
  refine wpAny_bind (wpAny_newObj_type ?_ (by size_fits))
  refine wpAny_bind (m := firstArgMember _ _) (wpAny_of_eq (a := Value.none) (by first | rfl | (simp only [firstArgMember]; rfl)) ?_)
  refine wpAny_newObj_type ?_ (by size_fits)
  simp only [raiseNew]
  refine wpAny_bind (wpAny_handled ?_)
  first | rw [show A.in1.handled = none from hh] | rw [hh]
  refine wpAny_bind (wpAny_pure (wpAny_throw ?_))
  exact hE _ _ (((Heap.SameBut.update ..).extBut.push _).push _) ⟨_, Heap.get?_push_size _ rfl, rfl⟩

theorem drawsTuple (hh : A.handled = none) (it l : Addr) (hne : l ≠ it) (items : Array Value) :
    Draws prog w A it [it, l] items.size (fun i v => items[i]? = some v) (fun i h => h.IsTupleIter it l i ∧ h.IsTuple l items) where
  live := fun _ _ st => let ⟨o, ho, _⟩ := st.1; ⟨o, ho⟩
  frame := fun _ _ _ st hk => ⟨st.1.at fun o e => hk it (by simp) o e, st.2.at fun o e => hk l (by simp) o e⟩
  item := fun i s Q E hi st hQ => by
    refine nextOf_tuple_item st.1 st.2 (x := items[i]) (by simp [hi]) fun h' hit' hs' => ?_
    exact hQ _ h' s.toks (by simp [hi]) ⟨hit', st.2.extBut hs'.extBut hne⟩ hs'
  done := fun s Q E st hE => nextOf_tuple_end hh st.1 st.2 (by simp) hE
end
open AutoSeq1 (wpAny_loadPart') in
theorem meets_enumT (l : Addr) (items : Array Value) (n : Nat) (dct : Option Addr) (sl : Array (Option Value)) :
    Meets (Builtin.«enumerate.__new__» ⟨[.type "enumerate", .ref l], []⟩) (fun _ R s => s.heap.get? l = some { cls := .type "tuple", dict := dct, data := .seq items n, slots := sl } ∧
      R (.ok (.ret (.ref (s.heap.push { cls := .type "tuple_iterator", data := .fields #[.ref l, .int 0 0] }).objs.size)))
        { s with heap := (s.heap.push { cls := .type "tuple_iterator", data := .fields #[.ref l, .int 0 0] }).push { cls := .type "enumerate", data := .fields #[.none, .bool false, .ref s.heap.objs.size, rawInt 0, .none, .none] } }) :=
  .of_wp fun prog w A R s h => by
    obtain ⟨hp, g, d, tk, os⟩ := s; obtain ⟨hl, h⟩ := h
    have hsub := sub_enumerate
    have hL : Heap.IsTuple (Shared.heap ⟨hp, g, d, tk, os⟩) l items := ⟨_, hl, rfl, n, rfl⟩
    wp_walk using wpAny_loadPart' hl
    refine wpAny_stack_any fun st => wpAny_pure ?_
    split
    · rename_i c _ _ _ _ _
      cases (c == Value.type "enumerate")
      · wp_walk using wpAny_loadPart' hl, wpAny_pyIter_tuple hL
        exact ⟨_, rfl, h⟩
      · wp_walk using wpAny_loadPart' hl, wpAny_pyIter_tuple hL
        exact ⟨_, rfl, h⟩
    · wp_walk using wpAny_loadPart' hl, wpAny_pyIter_tuple hL
      exact ⟨_, rfl, h⟩

theorem call_enumT {prog : Program} {w : World} {A : Around} {E : Value → Shared → Prop} {s : Shared} {l : Addr} {items : Array Value} {Q : Value → Shared → Prop} (hL : s.heap.IsTuple l items)
    (h : ∀ h', IsEnum h' (s.heap.objs.size + 1) s.heap.objs.size 0 .none → h'.IsTupleIter s.heap.objs.size l 0 → h'.objs.size = s.heap.objs.size + 2 →
      (∀ b o, s.heap.get? b = some o → h'.get? b = some o) → Q (.ref (s.heap.objs.size + 1)) { s with heap := h' }) :
    wpAny (model prog w) A (call (.type "enumerate") [.ref l]) Q E s := by
  obtain ⟨⟨c, dct, dt, sl⟩, hl, hc, n, hd⟩ := hL
  replace hc : c = .type "tuple" := hc
  replace hd : dt = .seq items n := hd
  subst hc hd
  refine callType_new F.called_enumerate (by decide) (F.typeCall_enumerate_1 _) (F.newCall_enumerate_1 _) (fun obj => F.args_object_init_2 obj _) F.entry_enumerate_new
    (meets_enumT l items n dct sl) ⟨hl, ?_⟩
  have hz : (s.heap.push { cls := .type "tuple_iterator", data := .fields #[.ref l, .int 0 0] }).objs.size = s.heap.objs.size + 1 := Heap.size_push ..
  show _ ∧ _
  rw [hz]
  have he : IsEnum ((s.heap.push { cls := .type "tuple_iterator", data := .fields #[.ref l, .int 0 0] }).push
      { cls := .type "enumerate", data := .fields #[.none, .bool false, .ref s.heap.objs.size, rawInt 0, .none, .none] }) (s.heap.objs.size + 1) s.heap.objs.size 0 .none := by
    have := Heap.get?_push_size (s.heap.push { cls := .type "tuple_iterator", data := .fields #[.ref l, .int 0 0] })
      (o := { cls := .type "enumerate", data := .fields #[.none, .bool false, .ref s.heap.objs.size, rawInt 0, .none, .none] }) rfl
    rw [hz] at this; exact this
  refine ⟨⟨_, he, rfl⟩, h _ he ⟨_, Heap.get?_push_of_some _ (Heap.get?_push_size _ rfl), rfl, rfl⟩ (by rw [Heap.size_push, hz]) fun b o x => Heap.get?_push_of_some _ (Heap.get?_push_of_some _ x)⟩
end Mine
end
section -- Lr
open PySem PySem.W PyProof.Rows PySem.Calls
namespace Mine
section
variable {prog : Program} {w : World} {A : Around} {E : Value → Shared → Prop} {s : Shared} {env : Env} {h₀ : Heap} {body orelse : List Stmt} {Q : Flow → Shared → Prop}
theorem enumT_loop {elts : List Expr} {k : Nat} {pos : Pos} {ax : Addr} {vs : List Value} {m : Str → Option Value} {news : List (Addr × Obj)} (hh : A.handled = none) (F : Fr h₀ env.locals s.heap m) (N : News h₀ env.locals s.heap news) (ht : h₀.IsTuple ax vs.toArray)
    (J : Nat → (Str → Option Value) → List (Addr × Obj) → Prop) (h0 : J 0 m news)
    (step : ∀ I i T t x m₁ news₁ h₁ tk₁ oe oi, (∀ p ∈ news, p.1 < I) → vs[i]? = some x → h₁.IsTuple T #[.int (i : Int) t, x] → J i m₁ news₁ → (∀ p ∈ news₁, p.1 ∉ [I + 1, I]) → Fr h₀ env.locals h₁ m₁ → News h₀ env.locals h₁ ([(I + 1, oe), (I, oi)] ++ news₁) →
      wpAny (model prog w) A (assign (.Tuple elts k pos) env (.ref T)) (fun _ s₂ => wpAny (model prog w) A (execs body env) (TurnPost h₀ env.locals [I + 1, I] [(I + 1, oe), (I, oi)] (J (i + 1)) s Q) (fun _ _ => False) s₂) (fun _ _ => False) { s with heap := h₁, toks := tk₁ })
    (hend : ∀ h' tk m' news', Fr h₀ env.locals h' m' → News h₀ env.locals h' news' → J vs.length m' news' → wpAny (model prog w) A (execs orelse env) Q (fun _ _ => False) { s with heap := h', toks := tk }) :
    wpAny (model prog w) A (call (.type "enumerate") [.ref ax]) (fun xv s₁ => wpAny (model prog w) A (pyIter xv) (fun it s₂ => codeAny (model prog w) A (.forLoop (.Tuple elts k pos) it body orelse env) (fun r s' => match r with | .ok f => Q f s' | .error e => cameBackBy (model prog w) A env E e s') s₂) E s₁) E s := by
  have ht' : s.heap.IsTuple ax vs.toArray := ht.at fun o e => F.keep _ _ e
  obtain ⟨o₀, ho₀, _⟩ := id ht
  have hlt : ax < s.heap.objs.size := Heap.lt_size (F.keep _ _ ho₀)
  have hne : ax ≠ s.heap.objs.size := Nat.ne_of_lt hlt
  have hax1 : ax ≠ s.heap.objs.size + 1 := Nat.ne_of_lt (Nat.lt_succ_of_lt hlt)
  have hL : env.locals < s.heap.objs.size := F.ns.lt
  have hsz0 : h₀.objs.size ≤ s.heap.objs.size := Nat.le_of_lt (Nat.lt_of_le_of_lt F.above F.ns.lt)
  refine call_enumT ht' fun h' hE hI hsz hk => ?_
  refine wpAny_pyIter_enum hE ?_
  refine codeAny_mono (my_loop (Q := Q) (s := { s with heap := h' }) (src := []) (KTurns.ofWalksU (WalksT.enumerateD (drawsTuple (A := A.in1) (by exact hh) s.heap.objs.size ax hne vs.toArray) (s.heap.objs.size + 1) (Nat.succ_ne_self _) (by intro hm; rcases List.mem_cons.mp hm with e | hm; exact absurd e (Nat.succ_ne_self _); exact hax1 (List.mem_singleton.mp hm).symm) (List.mem_cons_self ..)).toU) ?_ ?_ ?_ ?_ ?_ (F.keeps hk) (N.grown hk) ?_ J h0 (fun _ _ _ _ _ hp => nomatch hp) ?_ ?_) ?_
  · intro hI
    rcases List.mem_cons.mp hI with e | hI
    · exact absurd hL (e ▸ Nat.not_lt.mpr (Nat.le_succ _))
    · rcases List.mem_cons.mp hI with e | hI
      · exact absurd hL (e ▸ Nat.lt_irrefl _)
      · have := List.mem_singleton.mp hI
        exact absurd (Nat.lt_of_lt_of_le (Heap.lt_size ho₀) F.above) (this ▸ Nat.lt_irrefl _)
  · intro b hb
    rcases List.mem_cons.mp hb with e | hb
    · rw [e]; exact Heap.get?_none_of_le (Nat.le_succ_of_le hsz0)
    · rw [List.mem_singleton.mp hb]; exact Heap.get?_none_of_le hsz0
  · intro b hb hn
    rcases List.mem_cons.mp hb with e | hb
    · exact absurd (by rw [e]; exact List.mem_cons_self ..) hn
    · rcases List.mem_cons.mp hb with e | hb
      · exact absurd (by rw [e]; exact List.mem_cons_of_mem _ (List.mem_singleton_self _)) hn
      · rw [List.mem_singleton.mp hb]; exact .inl ⟨o₀, ho₀⟩
  · rintro i h ⟨⟨old, he⟩, ⟨it, hit, _⟩, _⟩
    obtain ⟨oe, hoe⟩ : ∃ oe, h.get? (s.heap.objs.size + 1) = some oe := ⟨_, he⟩
    refine ⟨[(s.heap.objs.size + 1, oe), (s.heap.objs.size, it)], rfl, fun p hp => ?_⟩
    rcases List.mem_cons.mp hp with rfl | hp
    · exact hoe
    · rw [List.mem_singleton.mp hp]; exact hit
  · exact ⟨⟨_, hE⟩, hI, ht'.at fun o e => hk _ _ e⟩
  · intro p hp hI
    have hl := Heap.lt_size (N p hp).1
    rcases List.mem_cons.mp hI with e | hI
    · exact absurd hl (e ▸ Nat.not_lt.mpr (Nat.le_succ _))
    · exact absurd hl ((List.mem_singleton.mp hI) ▸ Nat.lt_irrefl _)
  · intro i v m₁ news₁ h₁ tk₁ own hi hown hP hJ hoff F₁ N₁
    obtain ⟨oe, oi, rfl⟩ := own2 hown
    obtain ⟨T, vals, rfl, ⟨t, x, hx, rfl⟩, hT⟩ := hP
    have hv : vs[i]? = some x := by have : vs.toArray[i]? = some x := hx; simpa using this
    exact step _ i T t x m₁ news₁ h₁ tk₁ oe oi (fun p hp => Heap.lt_size (N p hp).1) hv hT hJ hoff F₁ N₁
  · intro h' tk m' news' F' N' hJ
    exact hend h' tk m' news' F' N' (by simpa using hJ)
  · intro r s' h
    cases r with
    | ok f => exact h
    | error e => exact h.elim
end
end Mine
end
section -- Ls
open PySem PySem.W PyProof.Rows PySem.Calls
namespace Mine
section
variable {prog : Program} {w : World} {A : Around} {E : Value → Shared → Prop} {s : Shared} {env : Env} {h₀ : Heap} {target : Expr} {body orelse : List Stmt} {Q : Flow → Shared → Prop}

theorem list_loop {ax : Addr} {its : Array Value} {n : Nat} {m : Str → Option Value} {news : List (Addr × Obj)} (hh : A.handled = none) (F : Fr h₀ env.locals s.heap m) (N : News h₀ env.locals s.heap news) (hm : (ax, W.listOf its n) ∈ news)
    (J : Nat → (Str → Option Value) → List (Addr × Obj) → Prop) (h0 : J 0 m news) (hJs : ∀ i m' news', J i m' news' → (ax, W.listOf its n) ∈ news')
    (step : ∀ I i v m₁ news₁ h₁ tk₁ o, (∀ p ∈ news, @LT.lt Nat _ p.1 I) → its[i]? = some v → J i m₁ news₁ → (∀ p ∈ news₁, p.1 ∉ [I]) → Fr h₀ env.locals h₁ m₁ → News h₀ env.locals h₁ ([(I, o)] ++ news₁) →
      wpAny (model prog w) A (assign target env v) (fun _ s₂ => wpAny (model prog w) A (execs body env) (TurnPost h₀ env.locals [I] [(I, o)] (J (i + 1)) s Q) (fun _ _ => False) s₂) (fun _ _ => False) { s with heap := h₁, toks := tk₁ })
    (hend : ∀ h' tk m' news', Fr h₀ env.locals h' m' → News h₀ env.locals h' news' → J its.size m' news' → wpAny (model prog w) A (execs orelse env) Q (fun _ _ => False) { s with heap := h', toks := tk }) :
    wpAny (model prog w) A (pyIter (.ref ax)) (fun it s₂ => codeAny (model prog w) A (.forLoop target it body orelse env) (fun r s' => match r with | .ok f => Q f s' | .error e => cameBackBy (model prog w) A env E e s') s₂) E s := by
  have hax := N _ hm
  have ht' : s.heap.IsList ax its := ⟨_, hax.1, rfl, n, rfl⟩
  have hlt : ax < s.heap.objs.size := Heap.lt_size hax.1
  have hne : ax ≠ s.heap.objs.size := Nat.ne_of_lt hlt
  refine wpAny_pyIter_list ht' ?_
  refine codeAny_mono (my_loop (Q := Q) (s := { s with heap := s.heap.push { cls := .type "list_iterator", data := .fields #[.ref ax, .int 0 0] } }) (src := [(ax, W.listOf its n)]) (KTurns.ofWalks (Walks.list hh s.heap.objs.size ax hne its) fun i v s Q E st q => letGo_listiter st.1 q) ?_ ?_ ?_ ?_ ?_ (F.push _) (fun p hp => ⟨Heap.get?_push_of_some _ (N p hp).1, (N p hp).2⟩) ?_ J h0 (fun i m' news' hJ p hp => by rw [List.mem_singleton.mp hp]; exact hJs i m' news' hJ) ?_ hend) ?_
  · intro hI
    rcases List.mem_cons.mp hI with e | hI
    · exact absurd F.ns.lt (e ▸ Nat.lt_irrefl _)
    · exact hax.2.1 (List.mem_singleton.mp hI).symm
  · intro b hb
    rw [List.mem_singleton.mp hb]; exact next_is_new F
  · intro b hb hn
    rcases List.mem_cons.mp hb with e | hb
    · exact absurd (by rw [e]; exact List.mem_singleton_self _) hn
    · rw [List.mem_singleton.mp hb]; exact .inr ⟨_, List.mem_singleton_self _⟩
  · rintro i h ⟨⟨it, hit, _⟩, _⟩
    exact ⟨[(s.heap.objs.size, it)], rfl, fun p hp => by rw [List.mem_singleton.mp hp]; exact hit⟩
  · exact ⟨⟨_, Heap.get?_push_size _ rfl, rfl, rfl⟩, ht'.at fun o e => Heap.get?_push_of_some _ e⟩
  · intro p hp hI
    exact absurd (Heap.lt_size (N p hp).1) ((List.mem_singleton.mp hI) ▸ Nat.lt_irrefl _)
  · intro i v m₁ news₁ h₁ tk₁ own hi hown hP hJ hoff F₁ N₁
    obtain ⟨o, rfl⟩ := own1 hown
    exact step _ i v m₁ news₁ h₁ tk₁ o (fun p hp => Heap.lt_size (N p hp).1) hP hJ hoff F₁ N₁
  · intro r s' h
    cases r with
    | ok f => exact h
    | error e => exact h.elim
theorem off1 {I : Addr} {l : List (Addr × Obj)} (h : ∀ p ∈ l, @LT.lt Nat _ p.1 I) : ∀ p ∈ l, p.1 ∉ [I] :=
  fun p hp hq => absurd (h p hp) ((List.mem_singleton.mp hq) ▸ Nat.lt_irrefl _)
end
end Mine
end
section -- Lu
open PySem PySem.W PyProof.Rows PySem.Calls
namespace Mine
section
variable {prog : Program} {w : World} {A : Around} {E : Value → Shared → Prop} {s : Shared} {env : Env} {h₀ : Heap} {body orelse : List Stmt} {Q : Flow → Shared → Prop}
theorem range_loop {x : Str} {px : Pos} {n : Nat} {t : Tok} {m : Str → Option Value} {news : List (Addr × Obj)} (hn : n ≤ 1000) (hh : A.handled = none) (F : Fr h₀ env.locals s.heap m) (N : News h₀ env.locals s.heap news)
    (J : Nat → (Str → Option Value) → List (Addr × Obj) → Prop) (h0 : J 0 m news)
    (step : ∀ I i u m₁ news₁ h₁ tk₁ o, (∀ p ∈ news, @LT.lt Nat _ p.1 I) → i < n → J i m₁ news₁ → (∀ p ∈ news₁, p.1 ∉ [I]) → Fr h₀ env.locals h₁ m₁ → News h₀ env.locals h₁ ([(I, o)] ++ news₁) →
      wpAny (model prog w) A (assign (.Name x px) env (.int (i : Nat) u)) (fun _ s₂ => wpAny (model prog w) A (execs body env) (TurnPost h₀ env.locals [I] [(I, o)] (J (i + 1)) s Q) (fun _ _ => False) s₂) (fun _ _ => False) { s with heap := h₁, toks := tk₁ })
    (hend : ∀ h' tk m' news', Fr h₀ env.locals h' m' → News h₀ env.locals h' news' → J n m' news' → wpAny (model prog w) A (execs orelse env) Q (fun _ _ => False) { s with heap := h', toks := tk }) :
    wpAny (model prog w) A (call (.type "range") [.int (n : Nat) t]) (fun xv s₁ => wpAny (model prog w) A (pyIter xv) (fun it s₂ => codeAny (model prog w) A (.forLoop (.Name x px) it body orelse env) (fun r s' => match r with | .ok f => Q f s' | .error e => cameBackBy (model prog w) A env E e s') s₂) E s₁) E s := by
  refine call_range_1 ?_
  have hsz : Builtin.Range.rangeSize 0 (n : Int) 1 = (n : Int) := by rw [rangeSize_one]; split <;> omega
  refine wpAny_pyIter_range (IsRange.new _ _ _ _ _ _ _) (small_one (by omega) (by omega) (by omega) (by omega)) ?_
  rw [hsz]
  have F1 := F.push { cls := .type "range", data := .fields #[.int 0 s.toks, .int (n : Int) t, .int 1 (s.toks + 1)] }
  generalize hR : s.heap.push { cls := .type "range", data := .fields #[.int 0 s.toks, .int (n : Int) t, .int 1 (s.toks + 1)] } = hr at *
  have hk : ∀ b o, s.heap.get? b = some o → hr.get? b = some o := fun b o e => by rw [← hR]; exact Heap.get?_push_of_some _ e
  have N1 : News h₀ env.locals hr news := N.grown hk
  have hlt : ∀ p ∈ news, @LT.lt Nat _ p.1 hr.objs.size := fun p hp => Heap.lt_size (N1 p hp).1
  dsimp only
  refine codeAny_mono (my_loop (Q := Q) (s := { s with heap := hr.push { cls := .type "range_iterator", data := .fields #[rawInt 0, rawInt (n : Int), rawInt 1] }, toks := s.toks + 1 + 1 }) (src := []) (KTurns.ofWalks (Walks.range hh hr.objs.size 0 1 n) fun i v s Q E st q => wpAny_pure q) ?_ ?_ ?_ ?_ ?_ (F1.push _) (fun p hp => ⟨Heap.get?_push_of_some _ (N1 p hp).1, (N1 p hp).2⟩) ?_ J h0 (fun _ _ _ _ _ hp => nomatch hp) ?_ hend) ?_
  · intro hI
    exact absurd F1.ns.lt ((List.mem_singleton.mp hI) ▸ Nat.lt_irrefl _)
  · intro b hb
    rw [List.mem_singleton.mp hb]; exact next_is_new F1
  · intro b hb hn
    exact absurd hb hn
  · intro i h hit
    obtain ⟨oi, hoi⟩ : ∃ oi, h.get? hr.objs.size = some oi := ⟨_, hit⟩
    exact ⟨[(hr.objs.size, oi)], rfl, fun p hp => by rw [List.mem_singleton.mp hp]; exact hoi⟩
  · show IsRangeIter _ _ (0 + ((0 : Nat) : Int) * 1) ((n : Int) - ((0 : Nat) : Int)) 1
    rw [show (0 + ((0 : Nat) : Int) * 1) = 0 from rfl, show ((n : Int) - ((0 : Nat) : Int)) = (n : Int) by omega]
    exact Heap.get?_push_size _ rfl
  · intro p hp hI
    exact absurd (hlt p hp) ((List.mem_singleton.mp hI) ▸ Nat.lt_irrefl _)
  · intro i v m₁ news₁ h₁ tk₁ own hi hown hP hJ hoff F₁ N₁
    obtain ⟨o, rfl⟩ := own1 hown
    obtain ⟨u, rfl⟩ := hP
    rw [show (0 + (i : Int) * 1) = ((i : Nat) : Int) by omega]
    exact step _ i u m₁ news₁ h₁ tk₁ o hlt hi hJ hoff F₁ N₁
  · intro r s' h
    cases r with
    | ok f => exact h
    | error e => exact h.elim
end
end Mine
end
section -- Sl
open PySem PySem.W PyProof.Rows PySem.Calls
namespace Mine
theorem pick_upto {vs : List Value} {y : Int} (h : 0 ≤ y) : slicePick vs.toArray none (some y) none = (vs.take y.toNat).toArray := by
  have e : sliceBounds none (some y) none vs.toArray.size = (((0 : Nat) : Int), ((min y.toNat vs.toArray.size : Nat) : Int), 1) := by
    simp only [sliceBounds, Option.getD_none, show (1 : Int) > 0 by decide, if_true, if_neg (show ¬ (y < 0) by omega)]
    congr 1
    congr 1
    omega
  rw [kmk_pick_nat _ e]
  show ((vs.drop 0).take (min y.toNat vs.toArray.size - 0)).toArray = _
  rw [List.drop_zero, Nat.sub_zero, List.size_toArray, kmk_take_min]
theorem pick_from {vs : List Value} {x : Int} (h : 0 ≤ x) : slicePick vs.toArray (some x) none none = (vs.drop x.toNat).toArray := by
  have e : sliceBounds (some x) none none vs.toArray.size = (((min x.toNat vs.toArray.size : Nat) : Int), ((vs.toArray.size : Nat) : Int), 1) := by
    simp only [sliceBounds, Option.getD_none, show (1 : Int) > 0 by decide, if_true, if_neg (show ¬ (x < 0) by omega)]
    congr 1
    omega
  rw [kmk_pick_nat _ e]
  show ((vs.drop (min x.toNat vs.toArray.size)).take (vs.toArray.size - min x.toNat vs.toArray.size)).toArray = _
  rw [List.size_toArray, kmk_drop_min, List.take_of_length_le (by rw [List.length_drop]; omega)]
theorem pick_all {vs : List Value} : slicePick vs.toArray none none none = vs.toArray := by
  have e : sliceBounds none none none vs.toArray.size = (((0 : Nat) : Int), ((vs.toArray.size : Nat) : Int), 1) := by
    simp only [sliceBounds, Option.getD_none, show (1 : Int) > 0 by decide, if_true]
    rfl
  rw [kmk_pick_nat _ e]
  show ((vs.drop 0).take (vs.toArray.size - 0)).toArray = _
  rw [List.drop_zero, Nat.sub_zero, List.size_toArray, List.take_of_length_le (Nat.le_refl _)]
theorem revS : ∀ {vs : List Value} {ss : List Str}, StrsAre vs ss → StrsAre vs.reverse ss.reverse
  | _, _, .nil => .nil
  | _, _, .cons y t h => by rw [List.reverse_cons, List.reverse_cons]; exact (revS h).append' (.cons _ _ .nil)
section
variable {prog : Program} {w : World} {A : Around} {E : Value → Shared → Prop} {s : Shared} {h₀ : Heap} {L l : Addr} {m : Str → Option Value} {news : List (Addr × Obj)} {value slice : PySem.Expr} {vs : List Value} {x y : Int} {t : Tok} {Q : Value → Shared → Prop}
theorem sl_upto (F : Fr h₀ L s.heap m) (N : News h₀ L s.heap news) (hl : s.heap.IsList l vs.toArray) (hy : 0 ≤ y) (hz : vs.length ≤ 1000)
    (hs : subscripted slice false (.ref l) (.ref s.heap.objs.size) = operate [.ref s.heap.objs.size, .ref l] (getItem (.ref l) (.ref s.heap.objs.size))) (ht : ∀ r, letTemporaryGo value (.ref l) r = pure ())
    (h : ∀ D h', Fr h₀ L h' m → News h₀ L h' ((D, W.listOf (vs.take y.toNat).toArray 0) :: news) → (∀ p ∈ news, p.1 < D) → Q (.ref D) { s with heap := h' }) :
    wpAny (model prog w) A (subscriptTail value slice (.ref l) (.ref s.heap.objs.size)) Q E { s with heap := s.heap.push { cls := .type "slice", data := .fields #[.none, .int y t, .none] } } := by
  refine kmk_slice F N hl .none (.int y t) (fun D h' F' N' l1 => h D h' F' ?_ l1) hs ht (by rw [List.size_toArray, sizeLine_eq]; omega)
  rw [pick_upto hy] at N'; exact N'
theorem sl_from (F : Fr h₀ L s.heap m) (N : News h₀ L s.heap news) (hl : s.heap.IsList l vs.toArray) (hy : 0 ≤ y) (hz : vs.length ≤ 1000)
    (hs : subscripted slice false (.ref l) (.ref s.heap.objs.size) = operate [.ref s.heap.objs.size, .ref l] (getItem (.ref l) (.ref s.heap.objs.size))) (ht : ∀ r, letTemporaryGo value (.ref l) r = pure ())
    (h : ∀ D h', Fr h₀ L h' m → News h₀ L h' ((D, W.listOf (vs.drop y.toNat).toArray 0) :: news) → (∀ p ∈ news, p.1 < D) → Q (.ref D) { s with heap := h' }) :
    wpAny (model prog w) A (subscriptTail value slice (.ref l) (.ref s.heap.objs.size)) Q E { s with heap := s.heap.push { cls := .type "slice", data := .fields #[.int y t, .none, .none] } } := by
  refine kmk_slice F N hl (.int y t) .none (fun D h' F' N' l1 => h D h' F' ?_ l1) hs ht (by rw [List.size_toArray, sizeLine_eq]; omega)
  rw [pick_from hy] at N'; exact N'
theorem sl_all (F : Fr h₀ L s.heap m) (N : News h₀ L s.heap news) (hl : s.heap.IsList l vs.toArray) (hz : vs.length ≤ 1000)
    (hs : subscripted slice false (.ref l) (.ref s.heap.objs.size) = operate [.ref s.heap.objs.size, .ref l] (getItem (.ref l) (.ref s.heap.objs.size))) (ht : ∀ r, letTemporaryGo value (.ref l) r = pure ())
    (h : ∀ D h', Fr h₀ L h' m → News h₀ L h' ((D, W.listOf vs.toArray 0) :: news) → (∀ p ∈ news, p.1 < D) → Q (.ref D) { s with heap := h' }) :
    wpAny (model prog w) A (subscriptTail value slice (.ref l) (.ref s.heap.objs.size)) Q E { s with heap := s.heap.push { cls := .type "slice", data := .fields #[.none, .none, .none] } } := by
  refine kmk_slice F N hl .none .none (fun D h' F' N' l1 => h D h' F' ?_ l1) hs ht (by rw [List.size_toArray, sizeLine_eq]; omega)
  rw [pick_all] at N'; exact N'
theorem sl_rev {ops : List Value} {t : Tok} (F : Fr h₀ L s.heap m) (N : News h₀ L s.heap news) (hl : s.heap.IsList l vs.toArray) (hz : vs.length ≤ 1000)
    (hs : subscripted slice false (.ref l) (.ref s.heap.objs.size) = operate ops (getItem (.ref l) (.ref s.heap.objs.size))) (ht : ∀ r, letTemporaryGo value (.ref l) r = pure ())
    (h : ∀ D h', Fr h₀ L h' m → News h₀ L h' ((D, W.listOf vs.reverse.toArray 0) :: news) → (∀ p ∈ news, p.1 < D) → Q (.ref D) { s with heap := h' }) :
    wpAny (model prog w) A (subscriptTail value slice (.ref l) (.ref s.heap.objs.size)) Q E { s with heap := s.heap.push { cls := .type "slice", data := .fields #[.none, .none, .int (-1) t] } } :=
  krv_lit F N hl (.int (-1) t) rfl h hs ht (by rw [List.size_toArray, sizeLine_eq]; omega)
theorem sl_upto_i {ns : List Int} (F : Fr h₀ L s.heap m) (N : News h₀ L s.heap news) (hl : s.heap.IsList l vs.toArray) (hi : IntsAre vs ns) (hy : 0 ≤ y) (hz : ns.length ≤ 1000)
    (hs : subscripted slice false (.ref l) (.ref s.heap.objs.size) = operate [.ref s.heap.objs.size, .ref l] (getItem (.ref l) (.ref s.heap.objs.size))) (ht : ∀ r, letTemporaryGo value (.ref l) r = pure ())
    (h : ∀ D h', Fr h₀ L h' m → News h₀ L h' ((D, W.listOf (vs.take y.toNat).toArray 0) :: news) → (∀ p ∈ news, p.1 < D) → IntsAre (vs.take y.toNat) (ns.take y.toNat) → Q (.ref D) { s with heap := h' }) :
    wpAny (model prog w) A (subscriptTail value slice (.ref l) (.ref s.heap.objs.size)) Q E { s with heap := s.heap.push { cls := .type "slice", data := .fields #[.none, .int y t, .none] } } :=
  sl_upto F N hl hy (by rw [hi.length]; exact hz) hs ht fun D h' F' N' l1 => h D h' F' N' l1 (hi.take _)
theorem sl_from_i {ns : List Int} (F : Fr h₀ L s.heap m) (N : News h₀ L s.heap news) (hl : s.heap.IsList l vs.toArray) (hi : IntsAre vs ns) (hy : 0 ≤ y) (hz : ns.length ≤ 1000)
    (hs : subscripted slice false (.ref l) (.ref s.heap.objs.size) = operate [.ref s.heap.objs.size, .ref l] (getItem (.ref l) (.ref s.heap.objs.size))) (ht : ∀ r, letTemporaryGo value (.ref l) r = pure ())
    (h : ∀ D h', Fr h₀ L h' m → News h₀ L h' ((D, W.listOf (vs.drop y.toNat).toArray 0) :: news) → (∀ p ∈ news, p.1 < D) → IntsAre (vs.drop y.toNat) (ns.drop y.toNat) → Q (.ref D) { s with heap := h' }) :
    wpAny (model prog w) A (subscriptTail value slice (.ref l) (.ref s.heap.objs.size)) Q E { s with heap := s.heap.push { cls := .type "slice", data := .fields #[.int y t, .none, .none] } } :=
  sl_from F N hl hy (by rw [hi.length]; exact hz) hs ht fun D h' F' N' l1 => h D h' F' N' l1 (hi.drop _)
theorem sl_all_i {ns : List Int} (F : Fr h₀ L s.heap m) (N : News h₀ L s.heap news) (hl : s.heap.IsList l vs.toArray) (hi : IntsAre vs ns)  (hz : ns.length ≤ 1000)
    (hs : subscripted slice false (.ref l) (.ref s.heap.objs.size) = operate [.ref s.heap.objs.size, .ref l] (getItem (.ref l) (.ref s.heap.objs.size))) (ht : ∀ r, letTemporaryGo value (.ref l) r = pure ())
    (h : ∀ D h', Fr h₀ L h' m → News h₀ L h' ((D, W.listOf (vs).toArray 0) :: news) → (∀ p ∈ news, p.1 < D) → IntsAre (vs) (ns) → Q (.ref D) { s with heap := h' }) :
    wpAny (model prog w) A (subscriptTail value slice (.ref l) (.ref s.heap.objs.size)) Q E { s with heap := s.heap.push { cls := .type "slice", data := .fields #[.none, .none, .none] } } :=
  sl_all F N hl (by rw [hi.length]; exact hz) hs ht fun D h' F' N' l1 => h D h' F' N' l1 (hi)
theorem sl_rev_i {ops : List Value} {ns : List Int} (F : Fr h₀ L s.heap m) (N : News h₀ L s.heap news) (hl : s.heap.IsList l vs.toArray) (hi : IntsAre vs ns)  (hz : ns.length ≤ 1000)
    (hs : subscripted slice false (.ref l) (.ref s.heap.objs.size) = operate ops (getItem (.ref l) (.ref s.heap.objs.size))) (ht : ∀ r, letTemporaryGo value (.ref l) r = pure ())
    (h : ∀ D h', Fr h₀ L h' m → News h₀ L h' ((D, W.listOf (vs.reverse).toArray 0) :: news) → (∀ p ∈ news, p.1 < D) → IntsAre (vs.reverse) (ns.reverse) → Q (.ref D) { s with heap := h' }) :
    wpAny (model prog w) A (subscriptTail value slice (.ref l) (.ref s.heap.objs.size)) Q E { s with heap := s.heap.push { cls := .type "slice", data := .fields #[.none, .none, .int (-1) t] } } :=
  sl_rev F N hl (by rw [hi.length]; exact hz) hs ht fun D h' F' N' l1 => h D h' F' N' l1 (hi.reverse)
theorem sl_upto_s {ns : List Str} (F : Fr h₀ L s.heap m) (N : News h₀ L s.heap news) (hl : s.heap.IsList l vs.toArray) (hi : StrsAre vs ns) (hy : 0 ≤ y) (hz : ns.length ≤ 1000)
    (hs : subscripted slice false (.ref l) (.ref s.heap.objs.size) = operate [.ref s.heap.objs.size, .ref l] (getItem (.ref l) (.ref s.heap.objs.size))) (ht : ∀ r, letTemporaryGo value (.ref l) r = pure ())
    (h : ∀ D h', Fr h₀ L h' m → News h₀ L h' ((D, W.listOf (vs.take y.toNat).toArray 0) :: news) → (∀ p ∈ news, p.1 < D) → StrsAre (vs.take y.toNat) (ns.take y.toNat) → Q (.ref D) { s with heap := h' }) :
    wpAny (model prog w) A (subscriptTail value slice (.ref l) (.ref s.heap.objs.size)) Q E { s with heap := s.heap.push { cls := .type "slice", data := .fields #[.none, .int y t, .none] } } :=
  sl_upto F N hl hy (by rw [hi.length]; exact hz) hs ht fun D h' F' N' l1 => h D h' F' N' l1 (hi.take' _)
theorem sl_from_s {ns : List Str} (F : Fr h₀ L s.heap m) (N : News h₀ L s.heap news) (hl : s.heap.IsList l vs.toArray) (hi : StrsAre vs ns) (hy : 0 ≤ y) (hz : ns.length ≤ 1000)
    (hs : subscripted slice false (.ref l) (.ref s.heap.objs.size) = operate [.ref s.heap.objs.size, .ref l] (getItem (.ref l) (.ref s.heap.objs.size))) (ht : ∀ r, letTemporaryGo value (.ref l) r = pure ())
    (h : ∀ D h', Fr h₀ L h' m → News h₀ L h' ((D, W.listOf (vs.drop y.toNat).toArray 0) :: news) → (∀ p ∈ news, p.1 < D) → StrsAre (vs.drop y.toNat) (ns.drop y.toNat) → Q (.ref D) { s with heap := h' }) :
    wpAny (model prog w) A (subscriptTail value slice (.ref l) (.ref s.heap.objs.size)) Q E { s with heap := s.heap.push { cls := .type "slice", data := .fields #[.int y t, .none, .none] } } :=
  sl_from F N hl hy (by rw [hi.length]; exact hz) hs ht fun D h' F' N' l1 => h D h' F' N' l1 (hi.drop' _)
theorem sl_all_s {ns : List Str} (F : Fr h₀ L s.heap m) (N : News h₀ L s.heap news) (hl : s.heap.IsList l vs.toArray) (hi : StrsAre vs ns)  (hz : ns.length ≤ 1000)
    (hs : subscripted slice false (.ref l) (.ref s.heap.objs.size) = operate [.ref s.heap.objs.size, .ref l] (getItem (.ref l) (.ref s.heap.objs.size))) (ht : ∀ r, letTemporaryGo value (.ref l) r = pure ())
    (h : ∀ D h', Fr h₀ L h' m → News h₀ L h' ((D, W.listOf (vs).toArray 0) :: news) → (∀ p ∈ news, p.1 < D) → StrsAre (vs) (ns) → Q (.ref D) { s with heap := h' }) :
    wpAny (model prog w) A (subscriptTail value slice (.ref l) (.ref s.heap.objs.size)) Q E { s with heap := s.heap.push { cls := .type "slice", data := .fields #[.none, .none, .none] } } :=
  sl_all F N hl (by rw [hi.length]; exact hz) hs ht fun D h' F' N' l1 => h D h' F' N' l1 (hi)
theorem sl_rev_s {ops : List Value} {ns : List Str} (F : Fr h₀ L s.heap m) (N : News h₀ L s.heap news) (hl : s.heap.IsList l vs.toArray) (hi : StrsAre vs ns)  (hz : ns.length ≤ 1000)
    (hs : subscripted slice false (.ref l) (.ref s.heap.objs.size) = operate ops (getItem (.ref l) (.ref s.heap.objs.size))) (ht : ∀ r, letTemporaryGo value (.ref l) r = pure ())
    (h : ∀ D h', Fr h₀ L h' m → News h₀ L h' ((D, W.listOf (vs.reverse).toArray 0) :: news) → (∀ p ∈ news, p.1 < D) → StrsAre (vs.reverse) (ns.reverse) → Q (.ref D) { s with heap := h' }) :
    wpAny (model prog w) A (subscriptTail value slice (.ref l) (.ref s.heap.objs.size)) Q E { s with heap := s.heap.push { cls := .type "slice", data := .fields #[.none, .none, .int (-1) t] } } :=
  sl_rev F N hl (by rw [hi.length]; exact hz) hs ht fun D h' F' N' l1 => h D h' F' N' l1 (revS hi)
theorem add_gen {b : Addr} {ws : List Value} (F : Fr h₀ L s.heap m) (N : News h₀ L s.heap news) (hl : s.heap.IsList l vs.toArray) (hb : s.heap.IsList b ws.toArray) (hz : vs.length + ws.length ≤ 1000)
    (h : ∀ D h', Fr h₀ L h' m → News h₀ L h' ((D, W.listOf (vs ++ ws).toArray 0) :: news) → (∀ p ∈ news, p.1 < D) → Q (.ref D) { s with heap := h' }) :
    wpAny (model prog w) A (binaryOp .Add (.ref l) (.ref b)) Q E s :=
  add_lists (hsz := by rw [sizeLine_eq]; omega) F N hl hb fun h' F' N' => h _ h' F' N' fun p hp => Heap.lt_size (N p hp).1
theorem add_s {b : Addr} {ws : List Value} {ss ts : List Str} (F : Fr h₀ L s.heap m) (N : News h₀ L s.heap news) (hl : s.heap.IsList l vs.toArray) (hb : s.heap.IsList b ws.toArray) (hi : StrsAre vs ss) (hj : StrsAre ws ts) (hz : ss.length + ts.length ≤ 1000)
    (h : ∀ D h', Fr h₀ L h' m → News h₀ L h' ((D, W.listOf (vs ++ ws).toArray 0) :: news) → (∀ p ∈ news, p.1 < D) → StrsAre (vs ++ ws) (ss ++ ts) → Q (.ref D) { s with heap := h' }) :
    wpAny (model prog w) A (binaryOp .Add (.ref l) (.ref b)) Q E s :=
  add_gen F N hl hb (by rw [hi.length, hj.length]; exact hz) fun D h' F' N' l1 => h D h' F' N' l1 (hi.append' hj)
theorem add_i {b : Addr} {ws : List Value} {ss ts : List Int} (F : Fr h₀ L s.heap m) (N : News h₀ L s.heap news) (hl : s.heap.IsList l vs.toArray) (hb : s.heap.IsList b ws.toArray) (hi : IntsAre vs ss) (hj : IntsAre ws ts) (hz : ss.length + ts.length ≤ 1000)
    (h : ∀ D h', Fr h₀ L h' m → News h₀ L h' ((D, W.listOf (vs ++ ws).toArray 0) :: news) → (∀ p ∈ news, p.1 < D) → IntsAre (vs ++ ws) (ss ++ ts) → Q (.ref D) { s with heap := h' }) :
    wpAny (model prog w) A (binaryOp .Add (.ref l) (.ref b)) Q E s :=
  add_gen F N hl hb (by rw [hi.length, hj.length]; exact hz) fun D h' F' N' l1 => h D h' F' N' l1 (hi.append hj)
theorem sumLen {ss : List Str} {B : Nat} (h : ∀ x ∈ ss, x.length ≤ B) : (ss.map (·.length)).sum ≤ B * ss.length := by
  induction ss with
  | nil => simp
  | cons x r ih =>
    have h1 := h x (List.mem_cons_self ..)
    have h2 := ih fun y hy => h y (List.mem_cons_of_mem _ hy)
    simp only [List.map_cons, List.sum_cons, List.length_cons]
    rw [Nat.mul_succ]; omega
theorem joinFits {ss : List Str} (h : ∀ x ∈ ss, x.length ≤ 20) (hl : ss.length ≤ 100) : (ss.map (·.length)).sum + ss.length ≤ 1048576 := by
  have := sumLen h
  omega
end
end Mine
end
section -- Cp
open PySem PySem.W PyProof.Rows PySem.Calls
namespace Mine
section
variable {prog : Program} {w : World} {A : Around} {E : Value → Shared → Prop} {R : Result → Shared → Prop} {s : Shared}

abbrev testsOf (ifs : List Expr) (env : Env) : Sem Bool := forIn ifs true fun c r => if r = true then do let ok ← isTrue c env (eval c env); pure (ForInStep.yield ok) else pure (ForInStep.yield r)

theorem comp_base {elt target iter : Expr} {ifs : List Expr} {scope : Scope} {pos : Pos} {it acc : Value} {env : Env} (I : Nat → Shared → Prop)
    (turn : ∀ n s, I n s → wpAny (model prog w) A (pyNext it) (fun r s₁ => match r with
      | none => R (.ok .next) s₁
      | some v => wpAny (model prog w) A (letOwnedTupleGo target it v) (fun _ s₁' => wpAny (model prog w) A (assign target env v) (fun _ s₂ =>
          wpAny (model prog w) A (testsOf ifs env) (fun ok s₃ =>
            if ok = true then wpAny (model prog w) A (eval elt env) (fun x s₄ =>
              wpAny (model prog w) A (call (.builtin "list.append") [acc, x]) (fun _ s₅ => ∃ m, m < n ∧ I m s₅) (fun _ _ => False) s₄) (fun _ _ => False) s₃
            else ∃ m, m < n ∧ I m s₃) (fun _ _ => False) s₂) (fun _ _ => False) s₁') (fun _ _ => False) s₁) (fun _ _ => False) s)
    (n : Nat) (h : I n s) :
    codeAny (model prog w) A (.compLoop (.ListComp elt [⟨target, iter, ifs, 0⟩] scope pos) 0 it acc env) R s := by
  refine codeAny_loop rfl I (fun n s hI => ?_) n h
  show wpAny _ A ((compTurn (.ListComp elt [⟨target, iter, ifs, 0⟩] scope pos) 0 it acc env).onRaise (fun x => do noteFrame x env; theTreesLotGoes x)) _ _ s
  refine wpAny_noted ?_
  rw [compTurn_list]
  refine wpAny_bind (wpAny_standAt (wpAny_bind (wpAny_mono (turn n s hI) (fun r s₁ h₁ => ?_) fun _ _ h' => h'.elim)))
  cases r with
  | none => exact wpAny_pure h₁
  | some v =>
    refine wpAny_bind (wpAny_mono h₁ (fun _ s₁' h₁' => ?_) fun _ _ h' => h'.elim)
    refine wpAny_bind (wpAny_mono h₁' (fun _ s₂ h₂ => wpAny_bind (wpAny_mono h₂ (fun ok s₃ h₃ => ?_) fun _ _ h' => h'.elim)) fun _ _ h' => h'.elim)
    cases ok with
    | false => exact wpAny_pure ⟨rfl, h₃⟩
    | true =>
      exact wpAny_bind (wpAny_bind (wpAny_mono h₃ (fun x s₄ h₄ => wpAny_bind (wpAny_mono h₄ (fun _ s₅ h₅ => wpAny_pure (wpAny_pure ⟨rfl, h₅⟩)) fun _ _ h' => h'.elim)) fun _ _ h' => h'.elim))

theorem updIn {D : Addr} {o o' : Obj} : ∀ (own news : List (Addr × Obj)), (∀ p ∈ own, p.1 ≠ D) → (∀ p ∈ news, p.1 ≠ D) → Upd D o o' (own ++ (D, o) :: news) (own ++ (D, o') :: news)
  | [], _, _, h => Upd.head h
  | q :: r, news, h1, h2 => Upd.tail (fun e => h1 q (List.mem_cons_self ..) e) (updIn r news (fun p hp => h1 p (List.mem_cons_of_mem _ hp)) h2)

/-- behind an element that is kept -/
def EltEnd (g : Heap) (C : Addr) (wr : List Addr) (own : List (Addr × Obj)) (D : Addr) (ys : List Value) (k : Nat) (J : List Value → (Str → Option Value) → List (Addr × Obj) → Prop) (s : Shared) (y : Value) (s₄ : Shared) : Prop :=
  ∃ h' tk m₂ news₂, s₄ = { s with heap := h', toks := tk } ∧ Fr g C h' m₂ ∧ News g C h' (own ++ (D, W.listOf ys.toArray k) :: news₂) ∧ (∀ p ∈ news₂, p.1 ∉ wr) ∧ (∀ p ∈ news₂, p.1 ≠ D) ∧ J (ys ++ [y]) m₂ news₂
/-- behind a test that refuses -/
def EltNo (g : Heap) (C : Addr) (wr : List Addr) (own : List (Addr × Obj)) (D : Addr) (ys : List Value) (k : Nat) (J : List Value → (Str → Option Value) → List (Addr × Obj) → Prop) (s s₄ : Shared) : Prop :=
  ∃ h' tk m₂ news₂, s₄ = { s with heap := h', toks := tk } ∧ Fr g C h' m₂ ∧ News g C h' (own ++ (D, W.listOf ys.toArray k) :: news₂) ∧ (∀ p ∈ news₂, p.1 ∉ wr) ∧ (∀ p ∈ news₂, p.1 ≠ D) ∧ J ys m₂ news₂

theorem comp_loop {elt target iter : Expr} {ifs : List Expr} {scope : Scope} {pos : Pos} {env : Env} {g : Heap} {I D : Addr} {fp wr : List Addr} {n : Nat} {P Md : Nat → Value → Heap → Prop} {St : Nat → Heap → Prop} {m : Str → Option Value} {news src : List (Addr × Obj)}
    (Z : KTurns prog w A target I fp wr n P Md St)
    (hLf : env.locals ∉ fp) (hDw : D ∉ wr) (hwr : ∀ b ∈ wr, g.get? b = none) (hsrc : ∀ b ∈ fp, b ∉ wr → (∃ o, g.get? b = some o) ∨ ∃ o, (b, o) ∈ src)
    (live : ∀ i h, St i h → ∃ own : List (Addr × Obj), own.map (·.1) = wr ∧ ∀ p ∈ own, h.get? p.1 = some p.2)
    (hst : St 0 s.heap) (F : Fr g env.locals s.heap m) (N : News g env.locals s.heap ((D, W.listOf #[] 0) :: news)) (hoff : ∀ p ∈ news, p.1 ∉ wr) (hoffD : ∀ p ∈ news, p.1 ≠ D)
    (J : Nat → List Value → (Str → Option Value) → List (Addr × Obj) → Prop) (h0 : J 0 [] m news) (hJs : ∀ i ys m' news', J i ys m' news' → ys.length ≤ i ∧ ∀ p ∈ src, p ∈ news') (hn : n ≤ 1000)
    (step : ∀ i v ys k m₁ news₁ h₁ tk₁ own, i < n → own.map (·.1) = wr → P i v h₁ → J i ys m₁ news₁ → (∀ p ∈ news₁, p.1 ∉ wr) → (∀ p ∈ news₁, p.1 ≠ D) → Fr g env.locals h₁ m₁ → News g env.locals h₁ (own ++ (D, W.listOf ys.toArray k) :: news₁) →
      wpAny (model prog w) A (assign target env v) (fun _ s₂ => wpAny (model prog w) A (testsOf ifs env) (fun ok s₃ => if ok = true then wpAny (model prog w) A (eval elt env) (EltEnd g env.locals wr own D ys k (J (i + 1)) s) (fun _ _ => False) s₃ else EltNo g env.locals wr own D ys k (J (i + 1)) s s₃) (fun _ _ => False) s₂) (fun _ _ => False) { s with heap := h₁, toks := tk₁ })
    (hend : ∀ h' tk m' ys k news', Fr g env.locals h' m' → News g env.locals h' ((D, W.listOf ys.toArray k) :: news') → J n ys m' news' → R (.ok .next) { s with heap := h', toks := tk }) :
    codeAny (model prog w) A (.compLoop (.ListComp elt [⟨target, iter, ifs, 0⟩] scope pos) 0 (.ref I) (.ref D) env) R s := by
  have hLw : env.locals ∉ wr := fun h => hLf (Z.sub _ h)
  have old : ∀ b o, g.get? b = some o → b ∉ wr := fun b o e hb => by rw [hwr b hb] at e; cases e
  refine comp_base
    (fun k s' => ∃ h' tk m' ys c news' i, s' = { s with heap := h', toks := tk } ∧ St i h' ∧ Fr g env.locals h' m' ∧ News g env.locals h' ((D, W.listOf ys.toArray c) :: news') ∧ (∀ p ∈ news', p.1 ∉ wr) ∧ (∀ p ∈ news', p.1 ≠ D) ∧ J i ys m' news' ∧ i ≤ n ∧ k = n + 1 - i) ?_ (n + 1)
    ⟨s.heap, s.toks, m, [], 0, news, 0, rfl, hst, F, N, hoff, hoffD, h0, Nat.zero_le _, rfl⟩
  rintro k s' ⟨h', tk, m', ys, c, news', i, rfl, hst', F', N', hnw', hnD', hJ, hi, rfl⟩
  have hall : ∀ p ∈ (D, W.listOf ys.toArray c) :: news', p.1 ∉ wr := fun p hp => by
    rcases List.mem_cons.mp hp with rfl | hp
    · exact hDw
    · exact hnw' p hp
  have next : ∀ h₁ : Heap, (∀ b o, b ∉ wr → h'.get? b = some o → h₁.get? b = some o) → Fr g env.locals h₁ m' ∧ News g env.locals h₁ ((D, W.listOf ys.toArray c) :: news') := fun h₁ hk₁ =>
    ⟨⟨F'.ns.at' fun o e => hk₁ _ o hLw e, fun b o e => hk₁ b o (old b o e) (F'.keep b o e), F'.above⟩, fun p hp => ⟨hk₁ _ _ (hall p hp) (N' p hp).1, (N' p hp).2⟩⟩
  by_cases hlt : i < n
  · refine Z.item i _ _ _ hlt hst' fun v h₁ tk₁ hMd hk₁ => ?_
    refine Z.go i v _ _ _ hMd fun h₂ hP hst₂ hk₂ => ?_
    obtain ⟨F₂, N₂⟩ := next h₂ fun b o hb x => hk₂ b o hb (hk₁ b o hb x)
    obtain ⟨own, hown, hget⟩ := live _ _ hst₂
    have Nown : News g env.locals h₂ (own ++ (D, W.listOf ys.toArray c) :: news') := fun p hp => by
      rcases List.mem_append.mp hp with hp | hp
      · have hw : p.1 ∈ wr := by rw [← hown]; exact List.mem_map_of_mem hp
        exact ⟨hget p hp, fun e => hLw (e ▸ hw), hwr _ hw⟩
      · exact N₂ p hp
    have frame : ∀ (h₃ : Heap) (m₃ : Str → Option Value) (o : Obj) (news₃ : List (Addr × Obj)) (zs : List Value), Fr g env.locals h₃ m₃ → News g env.locals h₃ (own ++ (D, o) :: news₃) → J (i + 1) zs m₃ news₃ → St (i + 1) h₃ := by
      intro h₃ m₃ o₃ news₃ zs F₃ N₃ hJ₃
      refine Z.frame _ _ _ hst₂ fun b hb o e => ?_
      by_cases hbw : b ∈ wr
      · rw [← hown] at hbw
        obtain ⟨⟨qa, qo⟩, hq, hqe⟩ := List.mem_map.mp hbw
        have hqe' : qa = b := hqe
        subst hqe'
        have h5 := (N₃ _ (List.mem_append_left _ hq)).1
        have h6 : h₂.get? qa = some qo := hget _ hq
        rw [e] at h6; cases h6; exact h5
      · rcases hsrc b hb hbw with ⟨o₀, ho⟩ | ⟨o₀, ho⟩
        · have q := F₂.keep b o₀ ho
          rw [e] at q; cases q
          exact F₃.keep b o ho
        · have q := (N₂ _ (List.mem_cons_of_mem _ ((hJs _ _ _ _ hJ).2 _ ho))).1
          simp only at q
          rw [e] at q; cases q
          exact (N₃ _ (List.mem_append_right _ (List.mem_cons_of_mem _ ((hJs _ _ _ _ hJ₃).2 _ ho)))).1
    have hlen := (hJs _ _ _ _ hJ).1
    refine wpAny_mono (step i v ys c m' news' h₂ tk₁ own hlt hown hP hJ hnw' hnD' F₂ Nown) (fun _ s₂ h₂' => wpAny_mono h₂' (fun ok s₃ h₃ => ?_) fun _ _ e => e) fun _ _ e => e
    cases ok with
    | false =>
      rw [if_neg Bool.false_ne_true] at h₃ ⊢
      obtain ⟨h₃', tk₃, m₂, news₂, rfl, F₃, N₃, ha₃, hb₃, hJ₃⟩ := h₃
      exact ⟨n + 1 - (i + 1), by omega, h₃', tk₃, m₂, ys, c, news₂, i + 1, rfl, frame _ _ _ _ _ F₃ N₃ hJ₃, F₃, fun p hp => N₃ p (List.mem_append_right _ hp), ha₃, hb₃, hJ₃, hlt, rfl⟩
    | true =>
      rw [if_pos rfl] at h₃ ⊢
      refine wpAny_mono h₃ (fun y s₄ h₄ => ?_) fun _ _ e => e
      obtain ⟨h₄', tk₄, m₂, news₂, rfl, F₄, N₄, ha₄, hb₄, hJ₄⟩ := h₄
      have hDget := N₄ (D, W.listOf ys.toArray c) (List.mem_append_right _ (List.mem_cons_self ..))
      refine append_K (D := D) (its := ys.toArray) (n := c) (x := y) (hsz := by rw [List.size_toArray, sizeLine_eq]; omega) F₄ N₄ (news' := own ++ (D, W.listOf (ys.toArray.push y) (c + 1)) :: news₂) ?_ fun h₅ F₅ N₅ => ?_
      · have hownD : ∀ p ∈ own, p.1 ≠ D := fun p hp e => hDw (e ▸ (hown ▸ List.mem_map_of_mem hp))
        exact updIn own news₂ hownD hb₄
      · have e5 : ys.toArray.push y = (ys ++ [y]).toArray := by simp
        rw [e5] at N₅
        exact ⟨n + 1 - (i + 1), by omega, h₅, tk₄, m₂, ys ++ [y], c + 1, news₂, i + 1, rfl, frame _ _ _ _ _ F₅ N₅ hJ₄, F₅, fun p hp => N₅ p (List.mem_append_right _ hp), ha₄, hb₄, hJ₄, hlt, rfl⟩
  · have hin : i = n := by omega
    subst hin
    refine Z.done _ _ _ hst' fun h₁ tk₁ hk₁ => ?_
    obtain ⟨F₁, N₁⟩ := next h₁ hk₁
    exact hend h₁ tk₁ m' ys c news' F₁ N₁ hJ
end
end Mine
end
section -- Cq
open PySem PySem.W PyProof.Rows PySem.Calls
namespace Mine
section
variable {prog : Program} {w : World} {A : Around} {E : Value → Shared → Prop} {s : Shared} {env : Env}

/-- what a comprehension's block needs of its source, at the heap g ahead of it and h₂ behind the source's iterator -/
structure Src (prog : Program) (w : World) (A : Around) (target : Expr) (g h₂ : Heap) (I : Addr) (fp wr : List Addr) (n : Nat) (P Md : Nat → Value → Heap → Prop) (St : Nat → Heap → Prop) : Prop where
  turns : KTurns prog w A target I fp wr n P Md St
  self : ∀ (s : Shared) (Q : Value → Shared → Prop) (E : Value → Shared → Prop), St 0 s.heap → Q (.ref I) s → wpAny (model prog w) A (pyIter (.ref I)) Q E s
  few : n ≤ 1000
  keep : ∀ b o, g.get? b = some o → h₂.get? b = some o
  size : g.objs.size ≤ h₂.objs.size
  below : ∀ b ∈ fp, b < h₂.objs.size
  news : ∀ b ∈ wr, g.get? b = none
  olds : ∀ b ∈ fp, b ∉ wr → ∃ o, g.get? b = some o
  live : ∀ i h, St i h → ∃ own : List (Addr × Obj), own.map (·.1) = wr ∧ ∀ p ∈ own, h.get? p.1 = some p.2
  start : St 0 h₂

theorem comp_block {elt target iter : Expr} {ifs : List Expr} {scope : Scope} {cl : List (Str × Addr)} {pos : Pos} {use : Option (Value → Sem Unit)} {Q : Value → Shared → Prop} {g h₂ : Heap} {I : Addr} {fp wr : List Addr} {n : Nat} {P Md : Nat → Value → Heap → Prop} {St : Nat → Heap → Prop}
    (Z : Src prog w A target g h₂ I fp wr n P Md St) (hcell : ∀ y ∈ scope.names, y.2 ≠ .cell) (hkind : scope.kind = .function)
    (J : Nat → List Value → (Str → Option Value) → List (Addr × Obj) → Prop) (h0 : J 0 [] (frm []) []) (hJs : ∀ i ys m' news', J i ys m' news' → ys.length ≤ i)
    (step : ∀ C D i v ys k m₁ news₁ h₁ tk₁ own, (∀ b ∈ wr, @LT.lt Nat _ b D) → @LT.lt Nat _ D C → i < n → own.map (·.1) = wr → P i v h₁ → J i ys m₁ news₁ → (∀ p ∈ news₁, p.1 ∉ wr) → (∀ p ∈ news₁, p.1 ≠ D) → Fr g C h₁ m₁ → News g C h₁ (own ++ (D, W.listOf ys.toArray k) :: news₁) →
      wpAny (model prog w) A (assign target (compEnvC scope cl C env) v) (fun _ s₂ => wpAny (model prog w) A (testsOf ifs (compEnvC scope cl C env)) (fun ok s₃ => if ok = true then wpAny (model prog w) A (eval elt (compEnvC scope cl C env)) (EltEnd g C wr own D ys k (J (i + 1)) s) (fun _ _ => False) s₃ else EltNo g C wr own D ys k (J (i + 1)) s s₃) (fun _ _ => False) s₂) (fun _ _ => False) { s with heap := h₁, toks := tk₁ })
    (hend : ∀ D C h' tk ys k m' news', g.get? D = none → g.objs.size ≤ C → D ≠ C → h'.Ns C m' → h'.get? D = some (W.listOf ys.toArray k) → (∀ b o, g.get? b = some o → h'.get? b = some o) → J n ys m' news' → compPost (model prog w) A E use Q (.ref D) C (.ok .next) { s with heap := h', toks := tk }) :
    wpAny (model prog w) A (newList []) (fun acc s₃ => wpAny (model prog w) A (newFunctionEnv scope env.globals cl [] env.qual none .none (some env)) (fun cenv s₄ =>
      codeAny (model prog w) A (.compStart (.ListComp elt [⟨target, iter, ifs, 0⟩] scope pos) 0 (.ref I) acc { cenv with scope := relabel scope env }) (compPost (model prog w) A E use Q acc cenv.locals) s₄) E s₃) E { s with heap := h₂ } := by
  refine wpAny_newObj_type (wpAny_newFunctionEnv hcell (by intro y hy; simp at hy) (fun h₁ hns₁ hsb₁ => ?_) hkind)
  dsimp only at hns₁ hsb₁ ⊢
  generalize hH2 : h₂.push { cls := .type "list", dict := none, data := .seq ([] : List Value).toArray } = H2 at hns₁ hsb₁ ⊢
  have hC : H2.objs.size = h₂.objs.size + 1 := by rw [← hH2, Heap.size_push]
  have hDC : @LT.lt Nat _ h₂.objs.size H2.objs.size := by rw [hC]; exact Nat.lt_succ_self _
  have up : ∀ b o, h₂.get? b = some o → h₁.get? b = some o := fun b o e => hsb₁.extBut b o (Nat.ne_of_lt (Nat.lt_trans (Heap.lt_size e) hDC)) (Heap.get?_push_of_some _ (hH2 ▸ Heap.get?_push_of_some _ e))
  have hD : h₁.get? h₂.objs.size = some (W.listOf #[] 0) := hsb₁.extBut _ _ (Nat.ne_of_lt hDC) (Heap.get?_push_of_some _ (hH2 ▸ Heap.get?_push_size _ rfl))
  have hDg : g.get? h₂.objs.size = none := Heap.get?_none_of_le Z.size
  have hCg : g.objs.size ≤ H2.objs.size := Nat.le_of_lt (Nat.lt_of_le_of_lt Z.size hDC)
  have F₁ : Fr g H2.objs.size h₁ (frm []) := ⟨hns₁, fun b o e => up b o (Z.keep b o e), hCg⟩
  have N₁ : News g H2.objs.size h₁ [(h₂.objs.size, W.listOf #[] 0)] := fun p hp => by rw [List.mem_singleton.mp hp]; exact ⟨hD, Nat.ne_of_lt hDC, hDg⟩
  have st₁ : St 0 h₁ := Z.turns.frame _ _ _ Z.start fun b _ o e => up b o e
  have wrlt : ∀ b ∈ wr, @LT.lt Nat _ b h₂.objs.size := fun b hb => Z.below b (Z.turns.sub b hb)
  have loop : codeAny (model prog w) A (.compLoop (.ListComp elt [⟨target, iter, ifs, 0⟩] scope pos) 0 (.ref I) (.ref h₂.objs.size) (compEnvC scope cl H2.objs.size env)) (compPost (model prog w) A E use Q (.ref h₂.objs.size) H2.objs.size) { s with heap := h₁, toks := s.toks } := by
    refine comp_loop (s := { s with heap := h₁, toks := s.toks }) (src := []) (env := compEnvC scope cl H2.objs.size env) Z.turns ?_ ?_ Z.news (fun b hb hn => .inl (Z.olds b hb hn)) Z.live st₁ F₁ N₁ (fun _ hp => nomatch hp) (fun _ hp => nomatch hp) J h0 (fun i ys m' news' hJ => ⟨hJs i ys m' news' hJ, fun _ hp => nomatch hp⟩) Z.few ?_ ?_
    · intro hm
      exact absurd (Nat.lt_trans (Z.below _ hm) hDC) (Nat.lt_irrefl _)
    · intro hm
      exact absurd (wrlt _ hm) (Nat.lt_irrefl _)
    · intro i v ys k m₁ news₁ h₃ tk₃ own a b c d e f F' N'
      exact step H2.objs.size h₂.objs.size i v ys k m₁ news₁ h₃ tk₃ own wrlt hDC a b c d e f F' N'
    · intro h' tk m' ys k news' F' N' hJ
      exact hend h₂.objs.size H2.objs.size h' tk ys k m' news' hDg hCg (Nat.ne_of_lt hDC) F'.ns (N' _ (List.mem_cons_self ..)).1 F'.keep hJ
  exact codeAny_compStart_list loop (Z.self _ _ _ st₁ loop)

theorem comp_eval {elt target iter : Expr} {ifs : List Expr} {scope : Scope} {cl : List (Str × Addr)} {pos : Pos} {Q : Value → Shared → Prop}
    (hclos : closureFor scope env = pure cl) (hcell : ∀ y ∈ scope.names, y.2 ≠ .cell) (hkind : scope.kind = .function)
    (hnames : ∀ y ∈ scope.names, y.2 = .local → scope.names.lookup y.1 = some .local)
    (h : wpAny (model prog w) A (eval iter env) (fun xv s₁ => wpAny (model prog w) A (pyIter xv) (fun it s₂ => ∃ (g h₂ : Heap) (I : Addr) (fp wr : List Addr) (n : Nat) (P Md : Nat → Value → Heap → Prop) (St : Nat → Heap → Prop) (J : Nat → List Value → (Str → Option Value) → List (Addr × Obj) → Prop), it = .ref I ∧ s₂ = { s₁ with heap := h₂, toks := s₂.toks } ∧ Src prog w A target g h₂ I fp wr n P Md St ∧
      J 0 [] (frm []) [] ∧ (∀ i ys m' news', J i ys m' news' → ys.length ≤ i) ∧
      (∀ C D i v ys k m₁ news₁ h₁ tk₁ own, (∀ b ∈ wr, @LT.lt Nat _ b D) → @LT.lt Nat _ D C → i < n → own.map (·.1) = wr → P i v h₁ → J i ys m₁ news₁ → (∀ p ∈ news₁, p.1 ∉ wr) → (∀ p ∈ news₁, p.1 ≠ D) → Fr g C h₁ m₁ → News g C h₁ (own ++ (D, W.listOf ys.toArray k) :: news₁) →
        wpAny (model prog w) A (assign target (compEnvC scope cl C env) v) (fun _ s₃ => wpAny (model prog w) A (testsOf ifs (compEnvC scope cl C env)) (fun ok s₄ => if ok = true then wpAny (model prog w) A (eval elt (compEnvC scope cl C env)) (EltEnd g C wr own D ys k (J (i + 1)) s₂) (fun _ _ => False) s₄ else EltNo g C wr own D ys k (J (i + 1)) s₂ s₄) (fun _ _ => False) s₃) (fun _ _ => False) { s₂ with heap := h₁, toks := tk₁ }) ∧
      (∀ D h' tk ys k m' news', g.get? D = none → h'.get? D = some (W.listOf ys.toArray k) → (∀ b o, g.get? b = some o → h'.get? b = some o) → J n ys m' news' → Q (.ref D) { s₂ with heap := h', toks := tk })) E s₁) E s)
    (hs : ∀ x, foldedSetIterable iter env x = pure x := by intro _; rfl) :
    wpAny (model prog w) A (eval (.ListComp elt [⟨target, iter, ifs, 0⟩] scope pos) env) Q E s := by
  rw [eval_ListComp]
  refine wpAny_comprehension_free (use := none) rfl hs hclos hkind hnames (wpAny_mono h (fun xv s₁ h₁ => wpAny_mono h₁ (fun it s₂ h₂ => ?_) fun _ _ e => e) fun _ _ e => e)
  obtain ⟨g, h₂, I, fp, wr, n, P, Md, St, J, rfl, e₂, Z, h0, hJs, step, hend⟩ := h₂
  have e₃ : s₂ = { s₂ with heap := h₂ } := by rw [e₂]
  rw [e₃]
  refine comp_block (s := s₂) Z hcell hkind J h0 hJs step ?_
  intro D C h' tk ys k m' news' hD hC hDC hns hget hk hJ
  refine ⟨m', hns, fun h'' hs'' => hend D h'' tk ys k m' news' hD (hs''.extBut _ _ hDC hget) (fun b o e => hs''.extBut b o (Nat.ne_of_lt (Nat.lt_of_lt_of_le (Heap.lt_size e) hC)) (hk b o e)) hJ⟩

theorem comp_assign {elt target iter : Expr} {y : Str} {py : Pos} {spos : Pos} {ifs : List Expr} {scope : Scope} {cl : List (Str × Addr)} {pos : Pos} {Q : Flow → Shared → Prop}
    (hsw : swapsWith (.ListComp elt [⟨target, iter, ifs, 0⟩] scope pos) (some (.Name y py)) spos.line env = pure true)
    (hclos : closureFor scope env = pure cl) (hcell : ∀ y ∈ scope.names, y.2 ≠ .cell) (hkind : scope.kind = .function)
    (hnames : ∀ y ∈ scope.names, y.2 = .local → scope.names.lookup y.1 = some .local)
    (hy : env.kindOf y = some .local) (hp : (env.scope.kind == .class || (env.scope.kind == .module && env.locals != env.globals)) = false)
    (h : wpAny (model prog w) A (eval iter env) (fun xv s₁ => wpAny (model prog w) A (pyIter xv) (fun it s₂ => ∃ (g h₂ : Heap) (I : Addr) (fp wr : List Addr) (n : Nat) (P Md : Nat → Value → Heap → Prop) (St : Nat → Heap → Prop) (J : Nat → List Value → (Str → Option Value) → List (Addr × Obj) → Prop) (m : Str → Option Value) (h₀ : Heap), it = .ref I ∧ s₂ = { s₁ with heap := h₂, toks := s₂.toks } ∧ Src prog w A target g h₂ I fp wr n P Md St ∧ Fr h₀ env.locals g m ∧
      J 0 [] (frm []) [] ∧ (∀ i ys m' news', J i ys m' news' → ys.length ≤ i) ∧
      (∀ C D i v ys k m₁ news₁ h₁ tk₁ own, (∀ b ∈ wr, @LT.lt Nat _ b D) → @LT.lt Nat _ D C → i < n → own.map (·.1) = wr → P i v h₁ → J i ys m₁ news₁ → (∀ p ∈ news₁, p.1 ∉ wr) → (∀ p ∈ news₁, p.1 ≠ D) → Fr g C h₁ m₁ → News g C h₁ (own ++ (D, W.listOf ys.toArray k) :: news₁) →
        wpAny (model prog w) A (assign target (compEnvC scope cl C env) v) (fun _ s₃ => wpAny (model prog w) A (testsOf ifs (compEnvC scope cl C env)) (fun ok s₄ => if ok = true then wpAny (model prog w) A (eval elt (compEnvC scope cl C env)) (EltEnd g C wr own D ys k (J (i + 1)) s₂) (fun _ _ => False) s₄ else EltNo g C wr own D ys k (J (i + 1)) s₂ s₄) (fun _ _ => False) s₃) (fun _ _ => False) { s₂ with heap := h₁, toks := tk₁ }) ∧
      (∀ D h' tk ys k m' news', g.get? D = none → h'.get? D = some (W.listOf ys.toArray k) → (∀ b o, b ≠ env.locals → g.get? b = some o → h'.get? b = some o) → Fr h₀ env.locals h' (fun z => if z = y then some (.ref D) else m z) → J n ys m' news' → Q .next { s₂ with heap := h', toks := tk })) E s₁) E s)
    (hs : ∀ x, foldedSetIterable iter env x = pure x := by intro _; rfl) :
    wpAny (model prog w) A (exec (.Assign [.Name y py] (.ListComp elt [⟨target, iter, ifs, 0⟩] scope pos) spos) env) Q E s := by
  rw [exec_Assign_Name_used _ _ _ _ hsw]
  refine wpAny_bind (wpAny_standAt (wpAny_bind ?_))
  show wpAny _ A (do let _ ← comprehension (.ListComp elt [⟨target, iter, ifs, 0⟩] scope pos) scope env _ (newList []) false (eval iter env) (some (assign (.Name y py) env))) _ _ s
  refine wpAny_bind (wpAny_mono (wpAny_comprehension_free (use := some (assign (.Name y py) env)) (Q := fun _ s' => Q .next s') rfl hs hclos hkind hnames
    (wpAny_mono h (fun xv s₁ h₁ => wpAny_mono h₁ (fun it s₂ h₂ => ?_) fun _ _ e => e) fun _ _ e => e)) (fun _ s' hq => wpAny_pure (wpAny_pure hq)) fun _ _ e => e)
  obtain ⟨g, h₂, I, fp, wr, n, P, Md, St, J, m, h₀, rfl, e₂, Z, FL, h0, hJs, step, hend⟩ := h₂
  have e₃ : s₂ = { s₂ with heap := h₂ } := by rw [e₂]
  rw [e₃]
  refine comp_block (s := s₂) Z hcell hkind J h0 hJs step ?_
  intro D C h' tk ys k m' news' hD hC hDC hns hget hk hJ
  show wpAny _ A (assign (.Name y py) env (.ref D)) _ _ _
  have FL' : Fr h₀ env.locals h' m := FL.keeps hk
  have hLlt : env.locals < g.objs.size := FL.ns.lt
  have hLC : env.locals ≠ C := Nat.ne_of_lt (Nat.lt_of_lt_of_le hLlt hC)
  have hLD : D ≠ env.locals := by
    rintro rfl
    obtain ⟨oL, _, _, hL, _⟩ := FL.ns
    rw [hD] at hL; cases hL
  refine wpAny_assign_Name (wpAny_storeName_local hy FL'.ns (fun h₃ hn₃ hs₃ => ?_) hp)
  refine ⟨m', hns.sameBut hs₃ (Ne.symm hLC), fun h₄ hs₄ => ?_⟩
  have FL3 : Fr h₀ env.locals h₃ (fun z => if z = y then some (.ref D) else m z) := FL'.set hn₃ hs₃
  have ne : ∀ b o, g.get? b = some o → b ≠ C := fun b o e => Nat.ne_of_lt (Nat.lt_of_lt_of_le (Heap.lt_size e) hC)
  refine hend D h₄ _ ys k m' news' hD (hs₄.extBut _ _ hDC (hs₃.extBut _ _ hLD hget)) (fun b o hb e => hs₄.extBut b o (ne b o e) (hs₃.extBut b o hb (hk b o e))) ⟨FL3.ns.sameBut hs₄ hLC, fun b o e => ?_, FL3.above⟩ hJ
  have e' := FL.keep b o e
  exact hs₄.extBut b o (ne b o e') (FL3.keep b o e)
end
end Mine
end
section -- Cr
open PySem PySem.W PyProof.Rows PySem.Calls
namespace Mine
section
variable {prog : Program} {w : World} {A : Around}
theorem src_list {target : Expr} {g : Heap} {ax : Addr} {its : Array Value} (hh : A.handled = none) (hl : g.IsList ax its) (hn : its.size ≤ 1000) :
    Src prog w A target g (g.push { cls := .type "list_iterator", data := .fields #[.ref ax, .int 0 0] }) g.objs.size [g.objs.size, ax] [g.objs.size] its.size (fun i v _ => its[i]? = some v) (fun i v h => its[i]? = some v ∧ (h.IsListIter g.objs.size ax (i + 1) ∧ h.IsList ax its)) (fun i h => h.IsListIter g.objs.size ax i ∧ h.IsList ax its) := by
  obtain ⟨o₀, ho₀, _⟩ := id hl
  have hlt : ax < g.objs.size := Heap.lt_size ho₀
  have Wl := Walks.list (prog := prog) (w := w) hh g.objs.size ax (Nat.ne_of_lt hlt) its
  refine ⟨KTurns.ofWalks Wl fun i v s Q E st q => letGo_listiter st.1 q, fun s Q E st q => Wl.self 0 s Q E st q, hn, fun b o e => Heap.get?_push_of_some _ e, by rw [Heap.size_push]; exact Nat.le_succ _, ?_, ?_, ?_, ?_, ?_⟩
  · intro b hb
    rw [Heap.size_push]
    rcases List.mem_cons.mp hb with e | hb
    · rw [e]; exact Nat.lt_succ_self _
    · rw [List.mem_singleton.mp hb]; exact Nat.lt_succ_of_lt hlt
  · intro b hb
    rw [List.mem_singleton.mp hb]; exact Heap.get?_none_of_le (Nat.le_refl _)
  · intro b hb hnb
    rcases List.mem_cons.mp hb with e | hb
    · exact absurd (by rw [e]; exact List.mem_singleton_self _) hnb
    · rw [List.mem_singleton.mp hb]; exact ⟨o₀, ho₀⟩
  · rintro i h ⟨⟨it, hit, _⟩, _⟩
    exact ⟨[(g.objs.size, it)], rfl, fun p hp => by rw [List.mem_singleton.mp hp]; exact hit⟩
  · exact ⟨⟨_, Heap.get?_push_size _ rfl, rfl, rfl⟩, hl.at fun o e => Heap.get?_push_of_some _ e⟩

theorem src_range {x : Str} {px : Pos} {g : Heap} {a : Int} {n : Nat} (hh : A.handled = none) (hn : n ≤ 1000) :
    Src prog w A (.Name x px) g (g.push { cls := .type "range_iterator", data := .fields #[rawInt a, rawInt (n : Int), rawInt 1] }) g.objs.size [g.objs.size] [g.objs.size] n (fun i v _ => ∃ t, v = .int (a + i * 1) t) (fun i v h => (∃ t, v = .int (a + i * 1) t) ∧ IsRangeIter h g.objs.size (a + ((i + 1 : Nat) : Int) * 1) ((n : Int) - ((i + 1 : Nat) : Int)) 1) (fun i h => IsRangeIter h g.objs.size (a + (i : Nat) * 1) ((n : Int) - (i : Nat)) 1) := by
  have Wl := Walks.range (prog := prog) (w := w) hh g.objs.size a 1 n
  refine ⟨KTurns.ofWalks Wl fun i v s Q E st q => wpAny_pure q, fun s Q E st q => Wl.self 0 s Q E st q, hn, fun b o e => Heap.get?_push_of_some _ e, by rw [Heap.size_push]; exact Nat.le_succ _, ?_, ?_, ?_, ?_, ?_⟩
  · intro b hb
    rw [Heap.size_push, List.mem_singleton.mp hb]; exact Nat.lt_succ_self _
  · intro b hb
    rw [List.mem_singleton.mp hb]; exact Heap.get?_none_of_le (Nat.le_refl _)
  · intro b hb hnb
    exact absurd hb hnb
  · intro i h hit
    obtain ⟨oi, hoi⟩ : ∃ oi, h.get? g.objs.size = some oi := ⟨_, hit⟩
    exact ⟨[(g.objs.size, oi)], rfl, fun p hp => by rw [List.mem_singleton.mp hp]; exact hoi⟩
  · show IsRangeIter _ _ (a + ((0 : Nat) : Int) * 1) ((n : Int) - ((0 : Nat) : Int)) 1
    rw [show (a + ((0 : Nat) : Int) * 1) = a by omega, show ((n : Int) - ((0 : Nat) : Int)) = (n : Int) by omega]
    exact Heap.get?_push_size _ rfl

theorem src_enum {elts : List Expr} {k : Nat} {pos : Pos} {g h₂ : Heap} {ax e it : Addr} {its : Array Value} (hh : A.handled = none) (hl : g.IsList ax its) (hn : its.size ≤ 1000)
    (hE : IsEnum h₂ e it 0 .none) (hI : h₂.IsListIter it ax 0) (he : e = g.objs.size + 1) (hit : it = g.objs.size) (hsz : h₂.objs.size = g.objs.size + 2) (hk : ∀ b o, g.get? b = some o → h₂.get? b = some o) :
    Src prog w A (.Tuple elts k pos) g h₂ e [e, it, ax] [e, it] its.size (fun i v h => ∃ T vals, v = .ref T ∧ (∃ t x, its[i]? = some x ∧ vals = #[.int i t, x]) ∧ h.IsTuple T vals)
      (fun i v h => ∃ T vals, v = .ref T ∧ (∃ t x, its[i]? = some x ∧ vals = #[.int i t, x]) ∧ h.IsTuple T vals ∧ ((∃ x, IsEnumOut h e it ((i : Int) + 1) x T) ∧ h.IsListIter it ax (i + 1) ∧ h.IsList ax its ∧ T ≠ e ∧ T ≠ it))
      (fun i h => (∃ old, IsEnum h e it i old) ∧ h.IsListIter it ax i ∧ h.IsList ax its) := by
  obtain ⟨o₀, ho₀, _⟩ := id hl
  have hlt : ax < g.objs.size := Heap.lt_size ho₀
  have hei : e ≠ it := by rw [he, hit]; exact Nat.succ_ne_self _
  have hae : ax ≠ e := by rw [he]; exact Nat.ne_of_lt (Nat.lt_succ_of_lt hlt)
  have hai : ax ≠ it := by rw [hit]; exact Nat.ne_of_lt hlt
  have Wl := WalksT.enumerate (prog := prog) (w := w) hh e it ax hei hae hai its
  refine ⟨KTurns.ofWalksU Wl.toU, fun s Q E st q => Wl.self 0 s Q E st q, hn, hk, by rw [hsz]; exact Nat.le_add_right _ _, ?_, ?_, ?_, ?_, ?_⟩
  · intro b hb
    rw [hsz]
    rcases List.mem_cons.mp hb with h | hb
    · rw [h, he]; exact Nat.lt_succ_self _
    · rcases List.mem_cons.mp hb with h | hb
      · rw [h, hit]; exact Nat.lt_succ_of_lt (Nat.lt_succ_self _)
      · rw [List.mem_singleton.mp hb]; exact Nat.lt_succ_of_lt (Nat.lt_succ_of_lt hlt)
  · intro b hb
    rcases List.mem_cons.mp hb with h | hb
    · rw [h, he]; exact Heap.get?_none_of_le (Nat.le_succ _)
    · rw [List.mem_singleton.mp hb, hit]; exact Heap.get?_none_of_le (Nat.le_refl _)
  · intro b hb hnb
    rcases List.mem_cons.mp hb with h | hb
    · exact absurd (by rw [h]; exact List.mem_cons_self ..) hnb
    · rcases List.mem_cons.mp hb with h | hb
      · exact absurd (by rw [h]; exact List.mem_cons_of_mem _ (List.mem_singleton_self _)) hnb
      · rw [List.mem_singleton.mp hb]; exact ⟨o₀, ho₀⟩
  · rintro i h ⟨⟨old, hE'⟩, ⟨oi, hoi, _⟩, _⟩
    obtain ⟨oe, hoe⟩ : ∃ oe, h.get? e = some oe := ⟨_, hE'⟩
    refine ⟨[(e, oe), (it, oi)], rfl, fun p hp => ?_⟩
    rcases List.mem_cons.mp hp with rfl | hp
    · exact hoe
    · rw [List.mem_singleton.mp hp]; exact hoi
  · exact ⟨⟨_, hE⟩, hI, hl.at fun o e => hk _ _ e⟩
end
end Mine
end
section -- Md
theorem Mine.quiet_Md : True := by
  w_top off
  trivial
open PySem PySem.W PyProof.Rows PySem.Calls
namespace Mine
/-- the answer is a new list of these ints -/
def RetInts (v : Value) (h h' : Heap) (ns : List Int) : Prop := ∃ a vs n, v = .ref a ∧ h'.get? a = some (W.listOf vs.toArray n) ∧ h.get? a = none ∧ IntsAre vs ns
def RetStrs (v : Value) (h h' : Heap) (ss : List Str) : Prop := ∃ a vs n, v = .ref a ∧ h'.get? a = some (W.listOf vs.toArray n) ∧ h.get? a = none ∧ StrsAre vs ss
theorem newsRet {g h h' : Heap} {L a : Addr} {m : Str → Option Value} {news : List (Addr × Obj)} {o : Obj} (F : Fr g L h m) (N : News g L h' news) (ha : h.get? a = none) (ho : h'.get? a = some o) : News g L h' ((a, o) :: news) := by
  intro p hp
  rcases List.mem_cons.mp hp with rfl | hp
  · refine ⟨ho, fun e => ?_, ?_⟩
    · obtain ⟨oL, _, _, hL, _⟩ := F.ns
      have e' : a = L := e
      rw [e', hL] at ha; cases ha
    · cases q : g.get? a with
      | none => rfl
      | some o' => rw [F.keep _ _ q] at ha; cases ha
  · exact N p hp
theorem goneUp {s : Shared} {g : Heap} {a : Addr} (G : ∀ b o, s.heap.get? b = some o → g.get? b = some o) (h : g.get? a = none) : s.heap.get? a = none := by
  cases q : s.heap.get? a with
  | none => rfl
  | some o => rw [G _ _ q] at h; cases h

def modesZ (k : Int) : List Int :=
  [(k * 2053).fmod 65536, if (((k * 2053).fmod 65536).fdiv 64).fmod 2 = 1 then (k * 2053).fmod 65536 - 64 else (k * 2053).fmod 65536 + 64, ((k * 2053).fmod 65536 + 20480).fmod 65536]

set_option maxRecDepth 100000 in
set_option maxHeartbeats 8000000 in
set_option pp.deepTerms false in
set_option pp.maxSteps 30000 in
theorem modes_c : ∀ (w : World) (k : Int) (t : Tok), Gv w 146 [.int k t] 1 (fun v h h' => RetInts v h h' (modesZ k)) := by
  unfold Gv
  k_fill
  intro w k t mean mg mb dp un gd fr s Q E hd hu X T hret
  refine wpAny_call ?_
  k_dflt (refine' enter0 ?k3 ?k5 ?k6 ?k7 ?k8 ?k9 ?kB ?_ ?c2 ?c3 ?c4 ?c5; (case k3 => k_asm); (case k5 => k_asm); (case k6 => k_is); (case k7 => k_is); (case k8 => (dsimp only; omega)); (case k9 => exact BindsTo.of_eq rfl); (case c5 => decide); (case kB => exact locs rfl); (case c2 => exact rfl); (case c3 => exact rfl); (case c4 => exact rfl); k_whole; intro g' L' h' tk' G' F' N' X' T'; (try dsimp only); (try k_fold))
  clear X T
  replace F' := Fr.to F' (frm_of_lookup [(Str.ofString "total", Value.int k t)])
  k_steps
  all_goals (show Q _ _; refine hret _ _ _ ⟨_, _, _, rfl, News.get (by k_asm) (List.Mem.head _), goneUp G' (News.fresh (by k_asm) (List.Mem.head _)), ?_⟩ (fun b o e => Fr.keep (by k_asm) b o (G' b o e)); unfold modesZ)
  · rw [if_pos (by assumption)]; exact .cons _ _ (.cons _ _ (.cons _ _ .nil))
  · rw [if_neg (by assumption)]; exact .cons _ _ (.cons _ _ (.cons _ _ .nil))

end Mine
end
section -- En
open PySem PySem.W PyProof.Rows PySem.Calls
namespace Mine
theorem enterC {prog : Program} {w : World} {A : Around} {s : Shared} {K : Frag} {p : Program} {loose : List Str} {mean : ExcName → Option Value} {mg mb : Str → Option Value} {R : Result → Shared → Prop} {name qual : Str} {params : Arguments} {body : List Stmt} {scope : Scope} {dV kV doc pm cdv ct oc : Value} {an od : Option Addr} {osl : Array (Option Value)} {f : Addr} {args : Args} {binds : List (Str × Value)}
    (X₀ : K.In s.heap) (T : Top p loose mean mg mb s.heap)
    (ho : K.lookup f = some ⟨oc, od, .func (fnOf name qual params body scope dV kV doc pm an cdv ct), osl⟩) (hcd : codeIn K cdv qual = true) (hroom : A.depth < recursionLimit)
    (hbind : BindsTo s (fnOf name qual params body scope dV kV doc pm an cdv ct) args binds)
    (hkind : (binds.all fun y => scope.names.lookup y.1 == some .local || scope.names.lookup y.1 == some .cell) = true)
    (hnd : ((cellsFrom 0 scope.names []).map (·.1)).Nodup)
    (h : ∀ g L' h₁ tk cells, (∀ b o, s.heap.get? b = some o → g.get? b = some o) → Fr g L' h₁ (bindL (envOfC qual scope L' f cdv).kindOf binds fun _ => none) → News g L' h₁ cells →
      CellsAre (bindC (envOfC qual scope L' f cdv).kindOf binds fun _ => none) (cellsFrom (L' + 1) scope.names []) cells → K.In g → Top p loose mean mg mb g →
      wpAny (model prog w) (A.deeper (envOfC qual scope L' f cdv)) (execs body (envOfC qual scope L' f cdv))
        (fun fl s' => R (.ok (.ret (match fl with | .ret v => v | _ => .none))) s')
        (fun _ _ => False)
        { s with heap := h₁, toks := tk })
    (hco : scope.isCoroutine = false) (hgen : scope.isGenerator = false) (hk : scope.kind = .function) : codeAny (model prog w) A (.call (.ref f) args) R s := by
  refine codeAny_call_function hroom (X₀ _ _ ho) rfl hco hgen rfl (codeRec_of X₀ hcd) (hbind _ _ _ _ ?_)
  refine wpAny_newFunctionEnv_cells hk (kindsX hkind _) fun env' he s' x => ?_
  subst he
  refine ⟨T.nolimit.keeps x.toInCall.keep, codeAny_func ?_⟩
  obtain ⟨h₁, tk, rfl, _⟩ := x.done
  have hk₁ := x.toInCall.keep
  obtain ⟨cells, NC, Y⟩ := Cl.news (h₀ := s.heap) (Nat.le_refl _) fun n c hm => ⟨x.cell n c (lookup_of_mem_nodup (cellsFrom_names scope.names 0 (s.heap.objs.size + 1) [] [] rfl ▸ hnd) hm), x.above n c hm⟩
  exact wpAny_mono (h s.heap s.heap.objs.size h₁ tk cells (fun _ _ e => e) ⟨x.toInCall.ns, hk₁, Nat.le_refl _⟩ NC Y X₀ T) (fun _ _ x => x) fun _ _ x => x.elim

section
variable {M : Model} {A : Around} {E : Value → Shared → Prop} {s : Shared} {g : Heap} {C : Addr} {m : Str → Option Value} {scope : Scope} {cl : List (Str × Addr)} {env : Env} {x : Str} {pos : Pos} {v : Value} {Q : Value → Shared → Prop}
theorem cn_local (F : Fr g C s.heap m) (hv : m x = some v) (h : Q v s) (hk : (compEnvC scope cl C env).scope.kind = .function) (hx : (compEnvC scope cl C env).kindOf x = some .local) (hd : (x == ("__debug__" : Str)) = false) :
    wpAny M A (eval (.Name x pos) (compEnvC scope cl C env)) Q E s := wpAny_Name (wpAny_loadName_local hk hx F.ns hv h) hd
theorem cn_cell {c : Addr} {o : Obj} (F : Fr g C s.heap m) (hc : cl.lookup x = some c) (ho : g.get? c = some o) (hdt : o.data = .cell (some v)) (h : Q v s) (hk : (compEnvC scope cl C env).scope.kind = .function) (hx : (compEnvC scope cl C env).kindOf x = some .cell) (hd : (x == ("__debug__" : Str)) = false) :
    wpAny M A (eval (.Name x pos) (compEnvC scope cl C env)) Q E s := wpAny_Name (wpAny_loadName_cell hk hx hc ⟨o, F.keep _ _ ho, hdt⟩ h) hd
end

section
variable {prog : Program} {w : World} {A : Around} {E : Value → Shared → Prop} {s : Shared}
theorem iter_range1 {n : Nat} {t : Tok} {P : Shared → Value → Shared → Prop} (hn : n ≤ 1000)
    (h : ∀ g tk, (∀ b o, s.heap.get? b = some o → g.get? b = some o) → P { s with heap := g, toks := tk } (.ref g.objs.size) { s with heap := g.push { cls := .type "range_iterator", data := .fields #[rawInt 0, rawInt (n : Int), rawInt 1] }, toks := tk }) :
    wpAny (model prog w) A (call (.type "range") [.int (n : Nat) t]) (fun xv s₁ => wpAny (model prog w) A (pyIter xv) (fun it s₂ => P s₁ it s₂) E s₁) E s := by
  refine call_range_1 ?_
  have hsz : Builtin.Range.rangeSize 0 (n : Int) 1 = (n : Int) := by rw [rangeSize_one]; split <;> omega
  refine wpAny_pyIter_range (IsRange.new _ _ _ _ _ _ _) (small_one (by omega) (by omega) (by omega) (by omega)) ?_
  rw [hsz]
  exact h _ _ fun b o e => Heap.get?_push_of_some _ e
theorem iter_range2 {n : Nat} {t u : Tok} {P : Shared → Value → Shared → Prop} (hn : n ≤ 1000)
    (h : ∀ g tk, (∀ b o, s.heap.get? b = some o → g.get? b = some o) → P { s with heap := g, toks := tk } (.ref g.objs.size) { s with heap := g.push { cls := .type "range_iterator", data := .fields #[rawInt 1, rawInt (n : Int), rawInt 1] }, toks := tk }) :
    wpAny (model prog w) A (call (.type "range") [.int 1 t, .int ((n : Nat) + 1) u]) (fun xv s₁ => wpAny (model prog w) A (pyIter xv) (fun it s₂ => P s₁ it s₂) E s₁) E s := by
  refine call_range_2 ?_
  have hsz : Builtin.Range.rangeSize 1 ((n : Int) + 1) 1 = (n : Int) := by rw [rangeSize_one]; split <;> omega
  refine wpAny_pyIter_range (IsRange.new _ _ _ _ _ _ _) (small_one (by omega) (by omega) (by omega) (by omega)) ?_
  rw [hsz]
  exact h _ _ fun b o e => Heap.get?_push_of_some _ e
theorem c_assign {g : Heap} {C : Addr} {m : Str → Option Value} {news : List (Addr × Obj)} {scope : Scope} {cl : List (Str × Addr)} {env : Env} {x : Str} {pos : Pos} {v : Value} {Q : Unit → Shared → Prop} (F : Fr g C s.heap m) (N : News g C s.heap news)
    (hx : (compEnvC scope cl C env).kindOf x = some .local) (hp : ((compEnvC scope cl C env).scope.kind == .class || ((compEnvC scope cl C env).scope.kind == .module && (compEnvC scope cl C env).locals != (compEnvC scope cl C env).globals)) = false)
    (h : ∀ h' tk, Fr g C h' (fun y => if y = x then some v else m y) → News g C h' news → Q () { s with heap := h', toks := tk }) :
    wpAny (model prog w) A (assign (.Name x pos) (compEnvC scope cl C env) v) Q E s :=
  wpAny_assign_Name (wpAny_storeName_local hx F.ns (fun h' hn hs => h h' _ (F.set hn hs) (N.set hs)) hp)
theorem tests_nil {env : Env} {Q : Bool → Shared → Prop} (h : Q true s) : wpAny (model prog w) A (testsOf [] env) Q E s := wpAny_pure h
theorem tests_one {env : Env} {c : Expr} {Q : Bool → Shared → Prop} (h : wpAny (model prog w) A (isTrue c env (eval c env)) Q E s) : wpAny (model prog w) A (testsOf [c] env) Q E s := by
  unfold testsOf
  rw [List.forIn_cons]
  rw [if_pos rfl]
  refine wpAny_bind (wpAny_bind (wpAny_mono h (fun ok s' h' => wpAny_pure ?_) fun _ _ e => e))
  exact wpAny_pure h'
end
end Mine
end
section -- Fm
open PySem PySem.W PyProof.Rows PySem.Calls
namespace Mine
def fmRows : List (List (Int × Nat)) := [[(40960, 108), (49152, 115), (32768, 45), (24576, 98), (16384, 100), (8192, 99), (4096, 112)], [(256, 114)], [(128, 119)], [(2112, 115), (2048, 83), (64, 120)], [(32, 114)], [(16, 119)], [(1032, 115), (1024, 83), (8, 120)], [(4, 114)], [(2, 119)], [(513, 116), (512, 84), (1, 120)]]
def fmT (i : Nat) (k b : Int) : Bool := if i = 0 then decide (Builtin.bitAnd k 61440 = b) else decide (Builtin.bitAnd k b = b)
def fmPick (i : Nat) (k : Int) : List (Int × Nat) → Nat
  | [] => if i = 0 then 63 else 45
  | (b, c) :: r => if fmT i k b then c else fmPick i k r
/-- the signs of the first i rows -/
def fmUpTo (k : Int) (i : Nat) : List Nat := (fmRows.zipIdx.take i).map fun p => fmPick p.2 k p.1

def RowOk (h : Heap) (ax : Addr) (prs : List (Int × Nat)) : Prop :=
  ∃ vs : List Value, h.IsTuple ax vs.toArray ∧ vs.length = prs.length ∧ ∀ (j : Nat) v, vs[j]? = some v → ∃ a b c t u, v = .ref a ∧ prs[j]? = some (b, c) ∧ IsTup h a #[.int b t, .str ⟨#[c]⟩ u]

theorem rowOk1 {h : Heap} {ax a : Addr} {b : Int} {c : Nat} {t u : Tok} (h1 : h.IsTuple ax #[.ref a]) (h2 : IsTup h a #[.int b t, .str ⟨#[c]⟩ u]) : RowOk h ax [(b, c)] := by
  refine ⟨[.ref a], h1, rfl, fun j v e => ?_⟩
  match j, e with
  | 0, e => cases e; exact ⟨a, b, c, t, u, rfl, rfl, h2⟩
theorem rowOk3 {h : Heap} {ax a1 a2 a3 : Addr} {b1 b2 b3 : Int} {c1 c2 c3 : Nat} {t1 u1 t2 u2 t3 u3 : Tok} (h1 : h.IsTuple ax #[.ref a1, .ref a2, .ref a3]) (g1 : IsTup h a1 #[.int b1 t1, .str ⟨#[c1]⟩ u1])
    (g2 : IsTup h a2 #[.int b2 t2, .str ⟨#[c2]⟩ u2]) (g3 : IsTup h a3 #[.int b3 t3, .str ⟨#[c3]⟩ u3]) : RowOk h ax [(b1, c1), (b2, c2), (b3, c3)] := by
  refine ⟨[.ref a1, .ref a2, .ref a3], h1, rfl, fun j v e => ?_⟩
  match j, e with
  | 0, e => cases e; exact ⟨a1, b1, c1, t1, u1, rfl, rfl, g1⟩
  | 1, e => cases e; exact ⟨a2, b2, c2, t2, u2, rfl, rfl, g2⟩
  | 2, e => cases e; exact ⟨a3, b3, c3, t3, u3, rfl, rfl, g3⟩
theorem rowOk7 {h : Heap} {ax a1 a2 a3 a4 a5 a6 a7 : Addr} {b1 b2 b3 b4 b5 b6 b7 : Int} {c1 c2 c3 c4 c5 c6 c7 : Nat} {t1 u1 t2 u2 t3 u3 t4 u4 t5 u5 t6 u6 t7 u7 : Tok} (h1 : h.IsTuple ax #[.ref a1, .ref a2, .ref a3, .ref a4, .ref a5, .ref a6, .ref a7])
    (g1 : IsTup h a1 #[.int b1 t1, .str ⟨#[c1]⟩ u1]) (g2 : IsTup h a2 #[.int b2 t2, .str ⟨#[c2]⟩ u2]) (g3 : IsTup h a3 #[.int b3 t3, .str ⟨#[c3]⟩ u3]) (g4 : IsTup h a4 #[.int b4 t4, .str ⟨#[c4]⟩ u4])
    (g5 : IsTup h a5 #[.int b5 t5, .str ⟨#[c5]⟩ u5]) (g6 : IsTup h a6 #[.int b6 t6, .str ⟨#[c6]⟩ u6]) (g7 : IsTup h a7 #[.int b7 t7, .str ⟨#[c7]⟩ u7]) :
    RowOk h ax [(b1, c1), (b2, c2), (b3, c3), (b4, c4), (b5, c5), (b6, c6), (b7, c7)] := by
  refine ⟨[.ref a1, .ref a2, .ref a3, .ref a4, .ref a5, .ref a6, .ref a7], h1, rfl, fun j v e => ?_⟩
  match j, e with
  | 0, e => cases e; exact ⟨a1, b1, c1, t1, u1, rfl, rfl, g1⟩
  | 1, e => cases e; exact ⟨a2, b2, c2, t2, u2, rfl, rfl, g2⟩
  | 2, e => cases e; exact ⟨a3, b3, c3, t3, u3, rfl, rfl, g3⟩
  | 3, e => cases e; exact ⟨a4, b4, c4, t4, u4, rfl, rfl, g4⟩
  | 4, e => cases e; exact ⟨a5, b5, c5, t5, u5, rfl, rfl, g5⟩
  | 5, e => cases e; exact ⟨a6, b6, c6, t6, u6, rfl, rfl, g6⟩
  | 6, e => cases e; exact ⟨a7, b7, c7, t7, u7, rfl, rfl, g7⟩

def fmTop : List Value := [.ref 79, .ref 81, .ref 83, .ref 87, .ref 89, .ref 91, .ref 95, .ref 97, .ref 99, .ref 103]

theorem fm_ground {w : World} {h : Heap} (X : (Mine.hd.heap_39 w.params).In h) : h.IsTuple 104 fmTop.toArray ∧ ∀ (i : Nat) x, fmTop[i]? = some x → ∃ ax prs, x = .ref ax ∧ fmRows[i]? = some prs ∧ RowOk h ax prs := by
  have T : ∀ (a : Addr) (l : List Value) (n : Nat), (Mine.hd.heap_39 w.params).lookup a = some { cls := .type "tuple", data := .seq l.toArray n } → h.IsTuple a l.toArray := fun a l n e => ⟨_, X _ _ e, rfl, n, rfl⟩
  refine ⟨T 104 fmTop 0 (by kernel_rfl), fun i x e => ?_⟩
  match i, e with
  | 0, e => cases e; exact ⟨79, _, rfl, rfl, rowOk7 (T 79 [.ref 72, .ref 73, .ref 74, .ref 75, .ref 76, .ref 77, .ref 78] 0 (by kernel_rfl)) (T 72 [.int 40960 365, .str ⟨#[108]⟩ 393] 0 (by kernel_rfl)) (T 73 [.int 49152 367, .str ⟨#[115]⟩ 394] 0 (by kernel_rfl)) (T 74 [.int 32768 361, .str ⟨#[45]⟩ 395] 0 (by kernel_rfl)) (T 75 [.int 24576 359, .str ⟨#[98]⟩ 396] 0 (by kernel_rfl)) (T 76 [.int 16384 355, .str ⟨#[100]⟩ 397] 0 (by kernel_rfl)) (T 77 [.int 8192 357, .str ⟨#[99]⟩ 398] 0 (by kernel_rfl)) (T 78 [.int 4096 363, .str ⟨#[112]⟩ 399] 0 (by kernel_rfl))⟩
  | 1, e => cases e; exact ⟨81, _, rfl, rfl, rowOk1 (T 81 [.ref 80] 0 (by kernel_rfl)) (T 80 [.int 256 375, .str ⟨#[114]⟩ 400] 0 (by kernel_rfl))⟩
  | 2, e => cases e; exact ⟨83, _, rfl, rfl, rowOk1 (T 83 [.ref 82] 0 (by kernel_rfl)) (T 82 [.int 128 377, .str ⟨#[119]⟩ 401] 0 (by kernel_rfl))⟩
  | 3, e => cases e; exact ⟨87, _, rfl, rfl, rowOk3 (T 87 [.ref 84, .ref 85, .ref 86] 0 (by kernel_rfl)) (T 84 [.int 2112 402, .str ⟨#[115]⟩ 403] 0 (by kernel_rfl)) (T 85 [.int 2048 369, .str ⟨#[83]⟩ 404] 0 (by kernel_rfl)) (T 86 [.int 64 379, .str ⟨#[120]⟩ 405] 0 (by kernel_rfl))⟩
  | 4, e => cases e; exact ⟨89, _, rfl, rfl, rowOk1 (T 89 [.ref 88] 0 (by kernel_rfl)) (T 88 [.int 32 381, .str ⟨#[114]⟩ 406] 0 (by kernel_rfl))⟩
  | 5, e => cases e; exact ⟨91, _, rfl, rfl, rowOk1 (T 91 [.ref 90] 0 (by kernel_rfl)) (T 90 [.int 16 383, .str ⟨#[119]⟩ 407] 0 (by kernel_rfl))⟩
  | 6, e => cases e; exact ⟨95, _, rfl, rfl, rowOk3 (T 95 [.ref 92, .ref 93, .ref 94] 0 (by kernel_rfl)) (T 92 [.int 1032 408, .str ⟨#[115]⟩ 409] 0 (by kernel_rfl)) (T 93 [.int 1024 371, .str ⟨#[83]⟩ 410] 0 (by kernel_rfl)) (T 94 [.int 8 385, .str ⟨#[120]⟩ 411] 0 (by kernel_rfl))⟩
  | 7, e => cases e; exact ⟨97, _, rfl, rfl, rowOk1 (T 97 [.ref 96] 0 (by kernel_rfl)) (T 96 [.int 4 387, .str ⟨#[114]⟩ 412] 0 (by kernel_rfl))⟩
  | 8, e => cases e; exact ⟨99, _, rfl, rfl, rowOk1 (T 99 [.ref 98] 0 (by kernel_rfl)) (T 98 [.int 2 389, .str ⟨#[119]⟩ 413] 0 (by kernel_rfl))⟩
  | 9, e => cases e; exact ⟨103, _, rfl, rfl, rowOk3 (T 103 [.ref 100, .ref 101, .ref 102] 0 (by kernel_rfl)) (T 100 [.int 513 414, .str ⟨#[116]⟩ 415] 0 (by kernel_rfl)) (T 101 [.int 512 373, .str ⟨#[84]⟩ 416] 0 (by kernel_rfl)) (T 102 [.int 1 391, .str ⟨#[120]⟩ 417] 0 (by kernel_rfl))⟩
end Mine
end
section -- Fn
theorem Mine.quiet_Fn : True := by
  w_top off
  trivial
open PySem PySem.W PyProof.Rows PySem.Calls
namespace Mine
set_option maxRecDepth 100000 in
set_option maxHeartbeats 8000000 in
set_option pp.deepTerms false in
set_option pp.maxSteps 30000 in
theorem ifmt_c : ∀ (w : World) (k : Int) (t : Tok), Gv w 71 [.int k t] 1 (fun v _ _ => ∃ u, v = .int (Builtin.bitAnd k 61440) u) := by
  unfold Gv
  k_fill
  intro w k t mean mg mb dp un gd fr s Q E hd hu X T hret
  refine wpAny_call ?_
  k_dflt (refine' enter0 ?k3 ?k5 ?k6 ?k7 ?k8 ?k9 ?kB ?_ ?c2 ?c3 ?c4 ?c5; (case k3 => k_asm); (case k5 => k_asm); (case k6 => k_is); (case k7 => k_is); (case k8 => (dsimp only; omega)); (case k9 => exact BindsTo.of_eq rfl); (case c5 => decide); (case kB => exact locs rfl); (case c2 => exact rfl); (case c3 => exact rfl); (case c4 => exact rfl); k_whole; intro g' L' h' tk' G' F' N' X' T'; (try dsimp only); (try k_fold))
  clear X T
  replace F' := Fr.to F' (frm_of_lookup [(Str.ofString "mode", Value.int k t)])
  k_steps
  all_goals (show Q _ _; exact hret _ _ _ ⟨_, rfl⟩ (fun b o e => Fr.keep (by k_asm) b o (G' b o e)))

local macro_rules | `(tactic| walk_at "call ref") => `(tactic| (k_here; (with_reducible show wpAny _ _ (call (Value.ref 71) _) _ _ _); k_dflt (refine' Gv.use (ifmt_c _ _ _) ?k2 ?k4 ?k3 ?k5 ?kd ?ku ?_;  (case k2 => k_asm); (case k4 => k_asm); (case k3 => k_asm); (case k5 => k_asm); (case kd => ktr_room); (case ku => ktr_units)); k_whole; intro v9 h9 tk9 p9 K9 F9 N9; obtain ⟨_, p9⟩ := p9; subst p9; (try dsimp only); (try k_fold)))

local macro_rules | `(tactic| walk_at "call builtin:list.append") => `(tactic| (k_here; (with_reducible show wpAny _ _ (call (Value.builtin _) [Value.ref _, _]) _ _ _); k_dflt (refine' append_K ?k1 ?k2 ?k3 ?_ ?z; (case k1 => k_asm); (case k2 => k_asm); (case k3 => k_upd); (case z => assumption); k_whole); intro h' F' N'; (try k_sweep)))

def oneOf (c : Nat) : Str := ⟨#[c]⟩
theorem fmUp_succ {k : Int} {i : Nat} {prs : List (Int × Nat)} (h : fmRows[i]? = some prs) : fmUpTo k (i + 1) = fmUpTo k i ++ [fmPick i k prs] := by
  have hi : i < fmRows.length := (List.getElem?_eq_some_iff.mp h).1
  unfold fmUpTo
  rw [List.take_add_one]
  have : fmRows.zipIdx[i]? = some (prs, i) := by simp [List.getElem?_zipIdx, h]
  rw [this]
  simp
theorem fmUp_len (k : Int) (i : Nat) : (fmUpTo k i).length ≤ 10 := by unfold fmUpTo; simp only [List.length_map, List.length_take]; exact Nat.min_le_right ..
theorem fmPick_at {i : Nat} {k : Int} : ∀ {prs : List (Int × Nat)} {j : Nat} {b : Int} {c : Nat}, (∀ (q : Nat) b c, q < j → prs[q]? = some (b, c) → fmT i k b = false) → prs[j]? = some (b, c) → fmT i k b = true → fmPick i k prs = c
  | [], j, b, c, _, h, _ => by simp at h
  | (b', c') :: r, 0, b, c, _, h, ht => by
    simp only [List.getElem?_cons_zero, Option.some.injEq, Prod.mk.injEq] at h
    unfold fmPick
    rw [h.1, ht, if_pos rfl, h.2]
  | (b', c') :: r, j + 1, b, c, hf, h, ht => by
    unfold fmPick
    rw [hf 0 b' c' (Nat.succ_pos _) rfl, if_neg Bool.false_ne_true]
    exact fmPick_at (fun q b c hq e => hf (q + 1) b c (Nat.succ_lt_succ hq) (by simpa using e)) (by simpa using h) ht
theorem fmPick_none {i : Nat} {k : Int} : ∀ {prs : List (Int × Nat)}, (∀ (q : Nat) b c, q < prs.length → prs[q]? = some (b, c) → fmT i k b = false) → fmPick i k prs = if i = 0 then 63 else 45
  | [], _ => rfl
  | (b', c') :: r, hf => by
    unfold fmPick
    rw [hf 0 b' c' (Nat.succ_pos _) rfl, if_neg Bool.false_ne_true]
    exact fmPick_none (fun q b c hq e => hf (q + 1) b c (Nat.succ_lt_succ hq) (by simpa using e))
theorem signs_snoc {its : Array Value} {cs : List Nat} {c : Nat} {u : Tok} (h : StrsAre its.toList (cs.map oneOf)) : StrsAre (its.push (.str ⟨#[c]⟩ u)).toList ((cs ++ [c]).map oneOf) := by
  rw [Array.toList_push, List.map_append]
  exact h.append' (.cons _ _ .nil)
theorem join_ones : ∀ cs : List Nat, Str.join (Str.ofString "") (cs.map oneOf) = ⟨cs.toArray⟩
  | [] => rfl
  | [c] => rfl
  | c :: d :: r => by
    have ih := join_ones (d :: r)
    show oneOf c ++ Str.ofString "" ++ Str.join (Str.ofString "") ((d :: r).map oneOf) = _
    have e0 : Str.ofString "" = ⟨#[]⟩ := by decide +kernel
    rw [ih, e0]
    apply Str.ext'
    simp [Str.cps_append, oneOf]
theorem offTwo {Pm I : Addr} {x : Obj} (h : @LT.lt Nat _ Pm I) : ∀ p ∈ [(Pm, x)], p.1 ∉ [I + 1, I] := by
  intro p hp hq
  have e : p.1 = Pm := by rw [List.mem_singleton.mp hp]
  rw [e] at hq
  rcases List.mem_cons.mp hq with hq | hq
  · rw [hq] at h; exact absurd h (Nat.not_lt.mpr (Nat.le_succ _))
  · rw [List.mem_singleton.mp hq] at h; exact absurd h (Nat.lt_irrefl _)
theorem newsTail {g h : Heap} {L : Addr} {p : Addr × Obj} {l : List (Addr × Obj)} (N : News g L h (p :: l)) : News g L h l := fun q hq => N q (List.mem_cons_of_mem _ hq)

local macro_rules | `(tactic| walk_at "call builtin:str.join") => `(tactic| (k_here; (with_reducible show wpAny _ _ (call (Value.builtin "str.join") [Value.str _ _, Value.ref _]) _ _ _); refine join_listW (News.isList (by k_asm) (by k_mem)) (by assumption) (by decide) (by assumption) ?_; intro _ _))

def fmFrame (k : Int) (t : Tok) (P : Addr) (iv tv bv cv : Option Value) : List (Str × Option Value) :=
  [(Str.ofString "mode", some (.int k t)), (Str.ofString "perm", some (.ref P)), (Str.ofString "index", iv), (Str.ofString "table", tv), (Str.ofString "bit", bv), (Str.ofString "char", cv)]

set_option maxRecDepth 100000 in
set_option maxHeartbeats 8000000 in
set_option pp.deepTerms false in
set_option pp.maxSteps 30000 in
theorem filemode_c : ∀ (w : World) (k : Int) (t : Tok), Gv w 111 [.int k t] 2 (fun v _ _ => ∃ u, v = .str ⟨(fmUpTo k 10).toArray⟩ u) := by
  unfold Gv
  k_fill
  intro w k t mean mg mb dp un gd fr s Q E hd hu X T hret
  refine wpAny_call ?_
  k_dflt (refine' enter0 ?k3 ?k5 ?k6 ?k7 ?k8 ?k9 ?kB ?_ ?c2 ?c3 ?c4 ?c5; (case k3 => k_asm); (case k5 => k_asm); (case k6 => k_is); (case k7 => k_is); (case k8 => (dsimp only; omega)); (case k9 => exact BindsTo.of_eq rfl); (case c5 => decide); (case kB => exact locs rfl); (case c2 => exact rfl); (case c3 => exact rfl); (case c4 => exact rfl); k_whole; intro g' L' h' tk' G' F' N' X' T'; (try dsimp only); (try k_fold))
  clear X T
  replace F' := Fr.to F' (frm_of_lookup [(Str.ofString "mode", Value.int k t)])
  repeat ((fail_if_success (with_reducible show wpAny _ _ (exec (Stmt.For _ _ _ _ _) _) _ _ _)); (first | (k_unfold; (try dsimp only)) | walk1 | (dsimp only; walk1)))
  rename_i Pm _ _ hA FA NA
  have FB := Fr.to FA ((frm_set' rfl).trans ((frm_none "index" _).trans ((frm_none "table" _).trans ((frm_none "bit" _).trans (frm_none "char" _)))))
  clear FA
  obtain ⟨hT, hR⟩ := fm_ground X'
  refine wpAny_For (hs := ?hs) ?_
  case hs => intro _; rfl
  iterate 6 (first | (k_unfold; (try dsimp only)) | walk1 | (dsimp only; walk1))
  replace FB : Fr g' L' hA (frm (fmFrame k t Pm none none none none)) := FB
  refine enumT_loop rfl FB NA hT (fun i m news => ∃ iv tv bv cv its n, m = frm (fmFrame k t Pm iv tv bv cv) ∧ news = [(Pm, W.listOf its n)] ∧ StrsAre its.toList ((fmUpTo k i).map oneOf)) ⟨none, none, none, none, #[], 0, rfl, rfl, .nil⟩ ?step ?hend
  case step =>
    intro I i T ti x m₁ news₁ h₁ tk₁ oe oi hlt hx hTi hJ hoff F₁ N₁
    obtain ⟨iv, tv, bv, cv, its, n, rfl, rfl, hs⟩ := hJ
    obtain ⟨ax, prs, rfl, hprs, hrow⟩ := hR i x hx
    have hPI : @LT.lt Nat _ Pm I := hlt _ (List.Mem.head _)
    replace hTi : IsTup h₁ T #[.int (i : Int) ti, .ref ax] := hTi
    replace F₁ : Fr g' L' h₁ (frm (fmFrame k t Pm iv tv bv cv)) := F₁
    replace N₁ : News g' L' h₁ [(I + 1, oe), (I, oi), (Pm, W.listOf its n)] := N₁
    clear hret hlt hoff
    repeat ((fail_if_success (with_reducible show wpAny _ _ (exec (Stmt.For _ _ _ _ _) _) _ _ _)); (first | (k_unfold; (try dsimp only)) | walk1 | (dsimp only; walk1)))
    rename_i hB FC NC
    replace FC : Fr g' L' hB (frm (fmFrame k t Pm (some (.int (i : Int) ti)) (some (.ref ax)) bv cv)) := Fr.to FC (frm_set' (frm_set' rfl))
    obtain ⟨ps, hpt, hpl, hpp⟩ := hrow
    have hsz : its.size ≤ sizeLine := by
      have h1 : its.toList.length = (fmUpTo k i).length := by rw [hs.length, List.length_map]
      have h2 := fmUp_len k i
      rw [← Array.length_toList, h1, sizeLine_eq]; omega
    have hup := fmUp_succ (k := k) hprs
    refine wpAny_For (hs := ?hs) ?_
    case hs => intro _; rfl
    iterate 1 (first | (k_unfold; (try dsimp only)) | walk1 | (dsimp only; walk1))
    refine tup_loop rfl FC NC hpt (fun j m news => (∀ (q : Nat) b c, q < j → prs[q]? = some (b, c) → fmT i k b = false) ∧ ∃ bv cv, m = frm (fmFrame k t Pm (some (.int (i : Int) ti)) (some (.ref ax)) bv cv) ∧ news = [(I + 1, oe), (I, oi), (Pm, W.listOf its n)]) ⟨fun q _ _ h _ => absurd h (Nat.not_lt_zero q), bv, cv, rfl, rfl⟩ ?step2 ?hend2
    case step2 =>
      intro I₂ j v m₂ news₂ h₂ tk₂ o hlt hv hJ hoff F₂ N₂
      obtain ⟨hfail, bv, cv, rfl, rfl⟩ := hJ
      obtain ⟨pa, b, c, tb, tc, rfl, hbc, hpa⟩ := hpp j v hv
      have hPI2 : @LT.lt Nat _ (I + 1) I₂ := hlt _ (List.Mem.head _)
      have hoff2 : ∀ p ∈ [(I + 1, oe), (I, oi), (Pm, W.listOf its n)], p.1 ∉ [I₂] := fun p hp hq => absurd (hlt p hp) (List.mem_singleton.mp hq ▸ Nat.lt_irrefl _)
      replace F₂ : Fr g' L' h₂ (frm (fmFrame k t Pm (some (.int (i : Int) ti)) (some (.ref ax)) bv cv)) := F₂
      replace N₂ : News g' L' h₂ [(I₂, o), (I + 1, oe), (I, oi), (Pm, W.listOf its n)] := N₂
      have next : fmT i k b = false → ∀ (q : Nat) b c, q < j + 1 → prs[q]? = some (b, c) → fmT i k b = false := fun hb q b' c' hq e => by
        rcases Nat.lt_succ_iff_lt_or_eq.mp hq with hq | rfl
        · exact hfail q b' c' hq e
        · rw [hbc] at e; cases e; exact hb
      have pick : fmT i k b = true → fmUpTo k (i + 1) = fmUpTo k i ++ [c] := fun hb => by rw [hup, fmPick_at hfail hbc hb]
      clear hlt hoff hfail
      by_cases hi0 : (i : Int) = 0
      · have hi1 : i = 0 := by omega
        k_steps
        · refine wpAny_execs_nil ?_
          refine ⟨_, _, _, _, rfl, by k_asm, newsTail (by k_asm), offTwo hPI, ⟨_, _, some _, some _, _, _, frm_set' (frm_set' rfl), rfl, ?_⟩⟩
          rw [pick (by unfold fmT; rw [if_pos hi1]; exact decide_eq_true (by assumption))]
          exact signs_snoc hs
        · exact ⟨_, _, _, _, rfl, by k_asm, by k_asm, hoff2, next (by unfold fmT; rw [if_pos hi1]; exact decide_eq_false (by assumption)), some _, some _, frm_set' (frm_set' rfl), rfl⟩
        · exact absurd hi0 (by assumption)
      · have hi1 : i ≠ 0 := by omega
        k_steps
        · exact absurd (by assumption) hi0
        · refine wpAny_execs_nil ?_
          refine ⟨_, _, _, _, rfl, by k_asm, newsTail (by k_asm), offTwo hPI, ⟨_, _, some _, some _, _, _, frm_set' (frm_set' rfl), rfl, ?_⟩⟩
          rw [pick (by unfold fmT; rw [if_neg hi1]; exact decide_eq_true (by assumption))]
          exact signs_snoc hs
        · exact ⟨_, _, _, _, rfl, by k_asm, by k_asm, hoff2, next (by unfold fmT; rw [if_neg hi1]; exact decide_eq_false (by assumption)), some _, some _, frm_set' (frm_set' rfl), rfl⟩
    case hend2 =>
      intro h₃ tk₃ m₃ news₃ F₃ N₃ hJ
      obtain ⟨hfail, bv, cv, rfl, rfl⟩ := hJ
      have pick : fmUpTo k (i + 1) = fmUpTo k i ++ [if i = 0 then 63 else 45] := by rw [hup, fmPick_none (by rw [← hpl]; exact hfail)]
      replace F₃ : Fr g' L' h₃ (frm (fmFrame k t Pm (some (.int (i : Int) ti)) (some (.ref ax)) bv cv)) := F₃
      replace N₃ : News g' L' h₃ [(I + 1, oe), (I, oi), (Pm, W.listOf its n)] := N₃
      k_steps
      all_goals (refine ⟨_, _, _, _, rfl, by k_asm, by k_asm, offTwo hPI, ⟨_, _, _, _, _, _, rfl, rfl, ?_⟩⟩)
      all_goals (have hq : (i : Int) = 0 ∨ (i : Int) ≠ 0 := by first | exact Or.inl (by assumption) | exact Or.inr (by assumption))
      · have hi1 : i = 0 := by omega
        rw [pick, if_pos hi1]
        exact signs_snoc hs
      · have hi1 : i ≠ 0 := by omega
        rw [pick, if_neg hi1]
        exact signs_snoc hs
  case hend =>
    intro h₄ tk₄ m₄ news₄ F₄ N₄ hJ
    obtain ⟨iv, tv, bv, cv, its, n, rfl, rfl, hs⟩ := hJ
    replace F₄ : Fr g' L' h₄ (frm (fmFrame k t Pm iv tv bv cv)) := F₄
    replace N₄ : News g' L' h₄ [(Pm, W.listOf its n)] := N₄
    have hw : (((fmUpTo k fmTop.length).map oneOf).map (·.length)).sum + ((fmUpTo k fmTop.length).map oneOf).length ≤ 1048576 := by
      have h1 := fmUp_len k fmTop.length
      have h2 : ∀ cs : List Nat, ((cs.map oneOf).map (·.length)).sum = cs.length := by
        intro cs
        induction cs with
        | nil => rfl
        | cons c r ih => simp only [List.map_cons, List.sum_cons, List.length_cons, ih]; show 1 + r.length = _; omega
      rw [h2, List.length_map]; omega
    k_steps
    have hj : Txt.join (Str.ofString "") ((fmUpTo k fmTop.length).map oneOf) = ⟨(fmUpTo k 10).toArray⟩ := (StrLaws.glued_eq_join _ _).trans (join_ones _)
    all_goals (show Q _ _; exact hret _ _ _ ⟨_, by rw [hj]⟩ (fun b o e => Fr.keep (by k_asm) b o (G' b o e)))
end Mine
end
section -- Sn
theorem Mine.quiet_Sn : True := by
  w_top off
  trivial
open PySem PySem.W PyProof.Rows PySem.Calls
namespace Mine
def seenStep (k r : Int) (p : Int × Int) : Int := if (k.fdiv p.1).fmod 2 = 1 ∧ (k.fdiv p.2).fmod 2 = 1 then r - p.2 else r
def seenPairs : List (Int × Int) := [(2048, 64), (1024, 8), (512, 1)]
def seenRights (k : Int) (i : Nat) : Int := (seenPairs.take i).foldl (seenStep k) (k.fmod 4096)
def seenFrame (k : Int) (t tk tr : Tok) (r : Int) (sv rv : Option Value) : List (Str × Option Value) :=
  [(Str.ofString "mode", some (.int k t)), (Str.ofString "kind", some (.int (k.fdiv 4096) tk)), (Str.ofString "rights", some (.int r tr)), (Str.ofString "special", sv), (Str.ofString "run", rv)]
def seenZ (k : Int) : Int := if ([1, 2, 4, 6, 8, 10, 12].any fun x => x == k.fdiv 4096) = true then k.fdiv 4096 * 4096 + seenRights k 3 else seenRights k 3
theorem seen_yes {k r a b : Int} (h1 : (k.fdiv a).fmod 2 = 1) (h2 : (k.fdiv b).fmod 2 = 1) : r - b = seenStep k r (a, b) := by unfold seenStep; rw [if_pos ⟨h1, h2⟩]
theorem seen_no1 {k r a b : Int} (h1 : (k.fdiv a).fmod 2 ≠ 1) : r = seenStep k r (a, b) := by unfold seenStep; rw [if_neg fun h => h1 h.1]
theorem seen_no2 {k r a b : Int} (h1 : (k.fdiv b).fmod 2 ≠ 1) : r = seenStep k r (a, b) := by unfold seenStep; rw [if_neg fun h => h1 h.2]

theorem seen_succ {k : Int} {i : Nat} {p : Int × Int} (h : seenPairs[i]? = some p) : seenRights k (i + 1) = seenStep k (seenRights k i) p := by
  unfold seenRights
  obtain ⟨hi, he⟩ := List.getElem?_eq_some_iff.mp h
  rw [List.take_succ_eq_append_getElem hi, he, List.foldl_append]; rfl
set_option maxRecDepth 100000 in
set_option maxHeartbeats 8000000 in
set_option pp.deepTerms false in
set_option pp.maxSteps 30000 in
theorem seen_c : ∀ (w : World) (k : Int) (t : Tok) (_ : 0 ≤ k) (_ : k < 65536), Gv w 132 [.int k t] 1 (fun v _ _ => ∃ u, v = .int (seenZ k) u) := by
  unfold Gv
  k_fill
  intro w k t hk0 hk1 mean mg mb dp un gd fr s Q E hd hu X T hret
  refine wpAny_call ?_
  k_dflt (refine' enter0 ?k3 ?k5 ?k6 ?k7 ?k8 ?k9 ?kB ?_ ?c2 ?c3 ?c4 ?c5; (case k3 => k_asm); (case k5 => k_asm); (case k6 => k_is); (case k7 => k_is); (case k8 => (dsimp only; omega)); (case k9 => exact BindsTo.of_eq rfl); (case c5 => decide); (case kB => exact locs rfl); (case c2 => exact rfl); (case c3 => exact rfl); (case c4 => exact rfl); k_whole; intro g' L' h' tk' G' F' N' X' T'; (try dsimp only); (try k_fold))
  clear X T
  replace F' := Fr.to F' (frm_of_lookup [(Str.ofString "mode", Value.int k t)])
  repeat ((fail_if_success (with_reducible show wpAny _ _ (exec (Stmt.For _ _ _ _ _) _) _ _ _)); (first | (k_unfold; (try dsimp only)) | walk1 | (dsimp only; walk1)))
  refine wpAny_For (hs := ?hs) ?_
  case hs => intro _; rfl
  repeat ((fail_if_success (with_reducible show wpAny _ _ (pyIter _) _ _ _)); (first | (k_unfold; (try dsimp only)) | walk1 | (dsimp only; walk1)))
  rename_i D1 _ _ D2 _ _ D3 _ _ Ls hA FA NA hl
  have FB := Fr.to FA ((frm_set' (frm_set' rfl)).trans ((frm_none "special" _).trans (frm_none "run" _)))
  clear FA
  obtain ⟨hl1, hl2, hl3⟩ := hl
  refine list_loop rfl FB NA (List.Mem.head _) (fun i m news => (∃ r tr sv rv, m = frm (seenFrame k t _ tr r sv rv) ∧ r = seenRights k i) ∧ news = _) ⟨⟨_, _, none, none, rfl, rfl⟩, rfl⟩ (fun i m' news' hJ => by rw [hJ.2]; exact List.Mem.head _) ?step ?hend
  case step =>
    intro I i v m₁ news₁ h₁ tk₁ o hlt hv hJ hoff F₁ N₁
    obtain ⟨⟨r, tr, sv, rv, rfl, hr⟩, rfl⟩ := hJ
    replace F₁ := (show Fr g' L' h₁ (frm (seenFrame k t _ tr r sv rv)) from F₁)
    dsimp only [List.singleton_append, List.cons_append, List.nil_append] at N₁
    obtain ⟨D, a, b, ta, tb, rfl, hT, hp, ha, hb, ha2, hb2⟩ : ∃ D a b ta tb, v = Value.ref D ∧ IsTup h₁ D #[.int a ta, .int b tb] ∧ seenPairs[i]? = some (a, b) ∧ 1 ≤ a ∧ 1 ≤ b ∧ a ≤ 2048 ∧ b ≤ 64 := by
      match i, hv with
      | 0, hv =>
        obtain rfl : Value.ref D1 = v := by simpa using hv
        exact ⟨D1, _, _, _, _, rfl, ⟨_, N₁.get (by k_mem), rfl, _, rfl⟩, rfl, by decide, by decide, by decide, by decide⟩
      | 1, hv =>
        obtain rfl : Value.ref D2 = v := by simpa using hv
        exact ⟨D2, _, _, _, _, rfl, ⟨_, N₁.get (by k_mem), rfl, _, rfl⟩, rfl, by decide, by decide, by decide, by decide⟩
      | 2, hv =>
        obtain rfl : Value.ref D3 = v := by simpa using hv
        exact ⟨D3, _, _, _, _, rfl, ⟨_, N₁.get (by k_mem), rfl, _, rfl⟩, rfl, by decide, by decide, by decide, by decide⟩
      | i + 3, hv => simp at hv
    have hs : seenRights k (i + 1) = seenStep k r (a, b) := by rw [hr]; exact seen_succ hp
    clear hr hv hp
    k_steps
    · exact ⟨_, _, _, _, rfl, by k_asm, by k_asm, off1 hlt, ⟨⟨_, _, some _, some _, frm_set' (frm_set' (frm_set' rfl)), by rw [hs]; exact seen_yes (by assumption) (by assumption)⟩, rfl⟩⟩
    · exact ⟨_, _, _, _, rfl, by k_asm, by k_asm, off1 hlt, ⟨⟨_, _, some _, some _, frm_set' (frm_set' rfl), by rw [hs]; exact seen_no2 (by assumption)⟩, rfl⟩⟩
    · exact ⟨_, _, _, _, rfl, by k_asm, by k_asm, off1 hlt, ⟨⟨_, _, some _, some _, frm_set' (frm_set' rfl), by rw [hs]; exact seen_no1 (by assumption)⟩, rfl⟩⟩
  case hend =>
    intro h₄ tk₄ m₄ news₄ F₄ N₄ hJ
    obtain ⟨⟨r, tr, sv, rv, rfl, hr⟩, rfl⟩ := hJ
    replace F₄ := (show Fr g' L' h₄ (frm (seenFrame k t _ tr r sv rv)) from F₄)
    k_steps
    · rename_i hq _
      show Q _ _
      exact hret _ _ _ ⟨_, by unfold seenZ; rw [if_pos (by assumption), hr]; rfl⟩ (fun b o e => Fr.keep (by k_asm) b o (G' b o e))
    · show Q _ _
      exact hret _ _ _ ⟨_, by unfold seenZ; rw [if_neg (by rw [Bool.not_eq_true]; assumption), hr]; rfl⟩ (fun b o e => Fr.keep (by k_asm) b o (G' b o e))
end Mine
end
section -- Rt
theorem Mine.quiet_Rt : True := by
  w_top off
  trivial
open PySem PySem.W PyProof.Rows PySem.Calls
namespace Mine
theorem mul_ints {prog : Program} {w : World} {A : Around} {E : Value → Shared → Prop} {s : Shared} {h₀ : Heap} {L : Addr} {m : Str → Option Value} {news : List (Addr × Obj)} {l : Addr} {vs : List Value} {ns : List Int} {x : Int} {u : Tok} {Q : Value → Shared → Prop}
    (F : Fr h₀ L s.heap m) (N : News h₀ L s.heap news) (hl : s.heap.IsList l vs.toArray) (hc : IntsAre vs ns) (hn : ns.length ≤ 6) (h0 : 0 ≤ x) (h6 : x ≤ 6)
    (h : ∀ D h', Fr h₀ L h' m → News h₀ L h' news → h'.IsList D (List.replicate x.toNat vs).flatten.toArray → IntsAre (List.replicate x.toNat vs).flatten (List.replicate x.toNat ns).flatten → Q (.ref D) { s with heap := h' }) :
    wpAny (model prog w) A (binaryOp .Mult (.ref l) (.int x u)) Q E s := by
  refine mul_list_is F N hl (lm_carried_ints hc) (by omega) (by omega) ?_ fun h' F' N' _ hL hC => h _ h' F' N' hL ?_
  · have h1 : vs.length ≤ 6 := by rw [hc.length]; exact hn
    have h2 : x.toNat ≤ 6 := by omega
    exact Nat.le_trans (Nat.mul_le_mul h1 h2) (by decide)
  · refine IntsAre.ofCarried ?_
    have e : (List.replicate x.toNat (ns.map PyData.int)).flatten = (List.replicate x.toNat ns).flatten.map PyData.int := by
      rw [List.map_flatten, List.map_replicate]
    rw [← e]; exact hC
local macro_rules | `(tactic| walk_at "binaryOp Mult ref int") => `(tactic| (k_here; (with_reducible show wpAny _ _ (binaryOp Operator.Mult (Value.ref _) (Value.int _ _)) _ _ _); refine mul_ints (by k_asm) (by k_asm) (News.isList (by k_asm) (by k_mem)) (by assumption) (by omega) (by assumption) (by assumption) ?_; intro D' h' F' N' hL' hI'))
theorem fdiv_small {n : Nat} {k : Int} (h : n ≤ 6) (hk : 1 ≤ k) : 0 ≤ (n : Int).fdiv k ∧ (n : Int).fdiv k ≤ 6 := by
  rw [Int.fdiv_eq_ediv_of_nonneg _ (by omega)]
  refine ⟨Int.ediv_nonneg (by omega) (by omega), ?_⟩
  exact Int.le_trans (Int.ediv_le_self _ (by omega)) (by omega)
/-- the ring is its first k items over and over -/
def Rep (ns : List Int) (k : Nat) : Prop := ns.length % k = 0 ∧ ns = (List.replicate (ns.length / k) (ns.take k)).flatten
/-- the least such part -/
def IsRoot (ns : List Int) (k : Nat) : Prop := 1 ≤ k ∧ k ≤ ns.length ∧ Rep ns k ∧ ∀ q, 1 ≤ q → q < k → ¬ Rep ns q
theorem rep_whole (ns : List Int) (h : 1 ≤ ns.length) : Rep ns ns.length := by
  refine ⟨Nat.mod_self _, ?_⟩
  rw [Nat.div_self h, List.take_length]; simp
def rootFrame (l : Addr) (k : Int) (t : Tok) : List (Str × Option Value) := [(Str.ofString "ring", some (.ref l)), (Str.ofString "size", some (.int k t))]
set_option maxRecDepth 100000 in
set_option maxHeartbeats 8000000 in
set_option pp.deepTerms false in
set_option pp.maxSteps 30000 in
theorem root_c : ∀ (w : World) (l : Addr) (vs : List Value) (ns : List Int) (_ : IntsAre vs ns) (_ : 1 ≤ ns.length) (_ : ns.length ≤ 6), Gh w 139 [.ref l] 1 (fun h => h.IsList l vs.toArray) (fun v _ _ => ∃ k u, v = .int (k : Nat) u ∧ IsRoot ns k) := by
  unfold Gh
  k_fill
  intro w l vs ns hI hne hlen mean mg mb dp un gd fr s Q E hd hu X T hL hret
  refine wpAny_call ?_
  k_dflt (refine' enter0 ?k3 ?k5 ?k6 ?k7 ?k8 ?k9 ?kB ?_ ?c2 ?c3 ?c4 ?c5; (case k3 => k_asm); (case k5 => k_asm); (case k6 => k_is); (case k7 => k_is); (case k8 => (dsimp only; omega)); (case k9 => exact BindsTo.of_eq rfl); (case c5 => decide); (case kB => exact locs rfl); (case c2 => exact rfl); (case c3 => exact rfl); (case c4 => exact rfl); k_whole; intro g' L' h' tk' G' F' N' X' T'; (try dsimp only); (try k_fold))
  clear X T
  replace F' := Fr.to F' (frm_of_lookup [(Str.ofString "ring", Value.ref l)])
  replace hL : g'.IsList l vs.toArray := hL.at fun o e => G' _ _ e
  repeat ((fail_if_success (with_reducible show wpAny _ _ (exec (Stmt.While _ _ _ _) _) _ _ _)); (first | (k_unfold; (try dsimp only)) | walk1 | (dsimp only; walk1)))
  rename_i hA FA NA
  replace FA : Fr g' L' hA (frm (rootFrame l 1 _)) := Fr.to FA (frm_set' rfl)
  refine While_inv2 (fun n m news => (∃ k t, m = frm (rootFrame l ((k : Nat) : Int) t) ∧ 1 ≤ k ∧ k ≤ ns.length ∧ n = ns.length - k ∧ ∀ q, 1 ≤ q → q < k → ¬ Rep ns q) ∧ news = []) (n₀ := ns.length - 1) FA NA ⟨⟨1, _, rfl, by omega, by omega, rfl, fun q h1 h2 => by omega⟩, rfl⟩ ?turn (hE := fun _ _ h => h.elim)
  case turn =>
    intro n m₁ news₁ h₁ tk₁ F₁ N₁ hJ
    obtain ⟨⟨k, t, rfl, hk1, hk2, hn, hno⟩, rfl⟩ := hJ
    have hkz : (1 : Int) ≤ (k : Int) := by omega
    obtain ⟨hq0, hq6⟩ := fdiv_small hlen hkz
    have e1 : ((ns.length : Nat) : Int).fmod (k : Int) = ((ns.length % k : Nat) : Int) := by rw [Int.fmod_eq_emod_of_nonneg _ (by omega)]; norm_cast
    have e2 : (((ns.length : Nat) : Int).fdiv (k : Int)).toNat = ns.length / k := by rw [Int.fdiv_eq_ediv_of_nonneg _ (by omega)]; norm_cast
    have up : ¬ Rep ns k → k < ns.length := fun h => by
      rcases Nat.lt_or_eq_of_le hk2 with h' | h'
      · exact h'
      · exact absurd (h' ▸ rep_whole ns hne) h
    have goes : ¬ Rep ns k → ∀ q, 1 ≤ q → q < k + 1 → ¬ Rep ns q := fun h q h1 h2 => by
      rcases Nat.lt_succ_iff_lt_or_eq.mp h2 with h2 | rfl
      · exact hno q h1 h2
      · exact h
    k_steps
    · have hq : ((ns.length : Nat) : Int).fmod (k : Int) ≠ 0 := by assumption
      have hnr : ¬ Rep ns k := fun h => hq (by rw [e1, h.1]; rfl)
      have := up hnr
      exact ⟨_, _, _, _, ns.length - (k + 1), rfl, by k_asm, News.nil, by omega, ⟨⟨k + 1, _, frm_set' rfl, by omega, by omega, rfl, goes hnr⟩, rfl⟩⟩
    · show Q _ _
      refine hret _ _ _ ⟨k, _, rfl, hk1, hk2, ⟨?_, ?_⟩, hno⟩ (fun b o e => Fr.keep (by k_asm) b o (G' b o e))
      · have h5 : ((ns.length : Nat) : Int).fmod (k : Int) = 0 := by assumption
        rw [e1] at h5; omega
      · have h6 : ns = (List.replicate (((ns.length : Nat) : Int).fdiv (k : Int)).toNat (List.take ((k : Nat) : Int).toNat ns)).flatten := by assumption
        rw [e2] at h6; exact h6
    · have hnr : ¬ Rep ns k := fun h => by
        have h6 : ¬ ns = (List.replicate (((ns.length : Nat) : Int).fdiv (k : Int)).toNat (List.take ((k : Nat) : Int).toNat ns)).flatten := by assumption
        rw [e2] at h6; exact h6 h.2
      have := up hnr
      exact ⟨_, _, _, _, ns.length - (k + 1), rfl, by k_asm, News.nil, by omega, ⟨⟨k + 1, _, frm_set' rfl, by omega, by omega, rfl, goes hnr⟩, rfl⟩⟩
end Mine
end
section -- the lines for slices, sums, names
open PySem PySem.W PyProof.Rows PySem.Calls Mine
local macro_rules | `(tactic| walk_at "eval Name") => `(tactic| (k_here; (with_reducible show wpAny _ _ (eval (Expr.Name _ _) (compEnvC _ _ _ _)) _ _ _); k_dflt (refine' cn_local ?kF ?kV ?_ ?kA ?kB ?kC; (case kA => exact rfl); (case kB => exact rfl); (case kC => decide); (case kF => k_asm); (case kV => exact rfl); k_whole)))
local macro_rules | `(tactic| walk_at "eval Name") => `(tactic| (k_here; (with_reducible show wpAny _ _ (eval (Expr.Name _ _) (compEnvC _ _ _ _)) _ _ _); k_dflt (refine' cn_cell ?kF ?kL ?kG ?kD ?_ ?kA ?kB ?kC; (case kA => exact rfl); (case kB => exact rfl); (case kC => decide); (case kF => k_asm); (case kL => exact rfl); (case kG => k_asm); (case kD => k_asm); k_whole)))
local macro_rules | `(tactic| walk_at "eval Name") => `(tactic| (k_here; (with_reducible show wpAny _ _ (eval (Expr.Name _ _) (compEnvC _ _ _ _)) _ _ _); k_dflt (refine' nameG_K ?kF ?k1 ?k2 ?k3 ?_ ?k4 ?k5 ?k6 ?k7; (case k4 => exact rfl); (case k5 => exact rfl); (case k6 => exact rfl); (case k7 => decide); (case kF => k_asm); (case k1 => k_asm); (case k2 => k_asm); (case k3 => k_is); k_whole)))
local macro_rules | `(tactic| walk_at "mine list") => `(tactic| first | exact News.isList (by k_asm) (by k_mem) | exact Fr.lst (by k_asm) (by k_asm))
local macro_rules | `(tactic| walk_at "mine size") => `(tactic| ((try simp only [List.length_reverse, List.length_take, List.length_drop, List.length_append, List.length_cons, List.length_nil, List.length_map]); omega))
local macro_rules | `(tactic| walk_at "subscriptTail Name Slice ref ref") => `(tactic| (k_here; (with_reducible show wpAny _ _ (subscriptTail _ (PySem.Expr.Slice none (some _) none _) (Value.ref _) (Value.ref _)) _ _ _); k_dflt (refine' sl_upto_s ?F ?N ?l ?i ?y ?z ?s ?t ?_; (case F => k_asm); (case N => k_asm); (case l => walk_at "mine list"); (case i => with_reducible assumption); (case y => omega); (case z => walk_at "mine size"); (case s => with_unfolding_all rfl); (case t => (intro _; with_unfolding_all rfl))); intro D' h' F' N' l1 hI'; (try k_lt l1); (try k_sweep)))
local macro_rules | `(tactic| walk_at "subscriptTail Name Slice ref ref") => `(tactic| (k_here; (with_reducible show wpAny _ _ (subscriptTail _ (PySem.Expr.Slice none (some _) none _) (Value.ref _) (Value.ref _)) _ _ _); k_dflt (refine' sl_upto_i ?F ?N ?l ?i ?y ?z ?s ?t ?_; (case F => k_asm); (case N => k_asm); (case l => walk_at "mine list"); (case i => with_reducible assumption); (case y => omega); (case z => walk_at "mine size"); (case s => with_unfolding_all rfl); (case t => (intro _; with_unfolding_all rfl))); intro D' h' F' N' l1 hI'; (try k_lt l1); (try k_sweep)))
local macro_rules | `(tactic| walk_at "subscriptTail Name Slice ref ref") => `(tactic| (k_here; (with_reducible show wpAny _ _ (subscriptTail _ (PySem.Expr.Slice (some _) none none _) (Value.ref _) (Value.ref _)) _ _ _); k_dflt (refine' sl_from_s ?F ?N ?l ?i ?y ?z ?s ?t ?_; (case F => k_asm); (case N => k_asm); (case l => walk_at "mine list"); (case i => with_reducible assumption); (case y => omega); (case z => walk_at "mine size"); (case s => with_unfolding_all rfl); (case t => (intro _; with_unfolding_all rfl))); intro D' h' F' N' l1 hI'; (try k_lt l1); (try k_sweep)))
local macro_rules | `(tactic| walk_at "subscriptTail Name Slice ref ref") => `(tactic| (k_here; (with_reducible show wpAny _ _ (subscriptTail _ (PySem.Expr.Slice (some _) none none _) (Value.ref _) (Value.ref _)) _ _ _); k_dflt (refine' sl_from_i ?F ?N ?l ?i ?y ?z ?s ?t ?_; (case F => k_asm); (case N => k_asm); (case l => walk_at "mine list"); (case i => with_reducible assumption); (case y => omega); (case z => walk_at "mine size"); (case s => with_unfolding_all rfl); (case t => (intro _; with_unfolding_all rfl))); intro D' h' F' N' l1 hI'; (try k_lt l1); (try k_sweep)))
local macro_rules | `(tactic| walk_at "subscriptTail Name Slice ref ref") => `(tactic| (k_here; (with_reducible show wpAny _ _ (subscriptTail _ (PySem.Expr.Slice none none none _) (Value.ref _) (Value.ref _)) _ _ _); k_dflt (refine' sl_all_s ?F ?N ?l ?i ?z ?s ?t ?_; (case F => k_asm); (case N => k_asm); (case l => walk_at "mine list"); (case i => with_reducible assumption); (case z => walk_at "mine size"); (case s => with_unfolding_all rfl); (case t => (intro _; with_unfolding_all rfl))); intro D' h' F' N' l1 hI'; (try k_lt l1); (try k_sweep)))
local macro_rules | `(tactic| walk_at "subscriptTail Name Slice ref ref") => `(tactic| (k_here; (with_reducible show wpAny _ _ (subscriptTail _ (PySem.Expr.Slice none none (some _) _) (Value.ref _) (Value.ref _)) _ _ _); k_dflt (refine' sl_rev_s ?F ?N ?l ?i ?z ?s ?t ?_; (case F => k_asm); (case N => k_asm); (case l => walk_at "mine list"); (case i => with_reducible assumption); (case z => walk_at "mine size"); (case s => with_unfolding_all rfl); (case t => (intro _; with_unfolding_all rfl))); intro D' h' F' N' l1 hI'; (try k_lt l1); (try k_sweep)))
local macro_rules | `(tactic| walk_at "subscriptTail Name Slice ref ref") => `(tactic| (k_here; (with_reducible show wpAny _ _ (subscriptTail _ (PySem.Expr.Slice none none (some _) _) (Value.ref _) (Value.ref _)) _ _ _); k_dflt (refine' sl_rev_i ?F ?N ?l ?i ?z ?s ?t ?_; (case F => k_asm); (case N => k_asm); (case l => walk_at "mine list"); (case i => with_reducible assumption); (case z => walk_at "mine size"); (case s => with_unfolding_all rfl); (case t => (intro _; with_unfolding_all rfl))); intro D' h' F' N' l1 hI'; (try k_lt l1); (try k_sweep)))
local macro_rules | `(tactic| walk_at "binaryOp Add ref ref") => `(tactic| (k_here; (with_reducible show wpAny _ _ (binaryOp Operator.Add (Value.ref _) (Value.ref _)) _ _ _); k_dflt (refine' add_i ?F ?N ?l ?b ?i ?j ?z ?_; (case F => k_asm); (case N => k_asm); (case l => walk_at "mine list"); (case b => walk_at "mine list"); (case i => with_reducible assumption); (case j => with_reducible assumption); (case z => walk_at "mine size")); intro D' h' F' N' l1 hI'; (try k_lt l1); (try k_sweep)))
local macro_rules | `(tactic| walk_at "binaryOp Add ref ref") => `(tactic| (k_here; (with_reducible show wpAny _ _ (binaryOp Operator.Add (Value.ref _) (Value.ref _)) _ _ _); k_dflt (refine' add_s ?F ?N ?l ?b ?i ?j ?z ?_; (case F => k_asm); (case N => k_asm); (case l => walk_at "mine list"); (case b => walk_at "mine list"); (case i => with_reducible assumption); (case j => with_reducible assumption); (case z => walk_at "mine size")); intro D' h' F' N' l1 hI'; (try k_lt l1); (try k_sweep)))
local macro_rules | `(tactic| walk_at "call builtin:str.join") => `(tactic| (k_here; (with_reducible show wpAny _ _ (call (Value.builtin "str.join") [Value.str _ _, Value.ref _]) _ _ _); refine join_listW (by walk_at "mine list") (by with_reducible assumption) (by decide) (by assumption) ?_; intro _ _))
section -- Tu
theorem Mine.quiet_Tu : True := by
  w_top off
  trivial
open PySem PySem.W PyProof.Rows PySem.Calls
namespace Mine
def turnAt (ss : List Str) (i : Nat) : Str := Txt.join (Str.ofString ".") (ss.drop i ++ ss.take i)
def turnsS (ss : List Str) : List Str := (List.range ss.length).map (turnAt ss)
set_option maxRecDepth 100000 in
set_option maxHeartbeats 8000000 in
set_option pp.deepTerms false in
set_option pp.maxSteps 30000 in
theorem turns_c : ∀ (w : World) (l : Addr) (vs : List Value) (ss : List Str) (_ : StrsAre vs ss) (_ : ss.length ≤ 6) (_ : ∀ x ∈ ss, x.length ≤ 20), Gh w 151 [.ref l] 1 (fun h => h.IsList l vs.toArray) (fun v h h' => RetStrs v h h' (turnsS ss)) := by
  unfold Gh
  k_fill
  intro w l vs ss hI hlen hsm mean mg mb dp un gd fr s Q E hd hu X T hL hret
  refine wpAny_call ?_
  k_dflt (refine' enterC ?k3 ?k5 ?k6 ?k7 ?k8 ?k9 ?kB ?kN ?_ ?c2 ?c3 ?c4; (case k3 => k_asm); (case k5 => k_asm); (case k6 => k_is); (case k7 => k_is); (case k8 => (dsimp only; omega)); (case k9 => exact BindsTo.of_eq rfl); (case kB => rfl); (case kN => decide); (case c2 => exact rfl); (case c3 => exact rfl); (case c4 => exact rfl); k_whole; intro g' L' h' tk' cells G' F' N' C' X' T'; (try dsimp only); (try k_fold))
  clear X T
  obtain ⟨oc, rfl, hoc⟩ := CellsAre.one (show CellsAre _ [(Str.ofString "row", L' + 1)] cells from C')
  replace hoc : oc.data = .cell (some (.ref l)) := hoc
  clear C'
  replace F' : Fr g' L' h' (frm []) := F'
  replace hL : g'.IsList l vs.toArray := hL.at fun o e => G' _ _ e
  repeat ((fail_if_success (with_reducible show wpAny _ _ (eval (Expr.ListComp _ _ _ _) _) _ _ _)); (first | (k_unfold; (try dsimp only)) | walk1 | (dsimp only; walk1)))
  refine comp_eval (cl := [(Str.ofString "row", L' + 1)]) ?hclos ?hcell ?hkind ?hnames ?_ ?hs
  case hclos => with_unfolding_all rfl
  case hcell => decide
  case hkind => rfl
  case hnames => decide
  case hs => intro _; rfl
  repeat ((fail_if_success (with_reducible show wpAny _ _ (call (Value.type "range") _) _ _ _)); (first | (k_unfold; (try dsimp only)) | walk1 | (dsimp only; walk1)))
  refine iter_range1 (by omega) fun g tk hg => ?_
  have Fg := F'.keeps hg
  have Ng := N'.grown hg
  have Xg := X'.keeps Fg.keep
  have Tg := T'.keeps Fg.keep
  have Lg : g.IsList l vs.toArray := hL.at fun o e => Fg.keep _ _ e
  have Cg : g.get? (L' + 1) = some oc := Ng.get (List.Mem.head _)
  clear F' N' X' T' hL
  refine ⟨g, _, _, _, _, ss.length, _, _, _, fun i ys m news => (∃ cv, m = frm cv) ∧ news = [] ∧ StrsAre ys ((List.range i).map (turnAt ss)), rfl, rfl, src_range rfl (by omega), ⟨⟨[], rfl⟩, rfl, .nil⟩, ?hJs, ?step, ?hend⟩
  case hJs =>
    rintro i ys m' news' ⟨-, -, h⟩
    rw [h.length]; simp
  case step =>
    intro C D i v ys k m₁ news₁ h₁ tk₁ own hwD hDC hi hown hP hJ hoff hoffD F₁ N₁
    obtain ⟨o, rfl⟩ := own1 hown
    obtain ⟨⟨cv, rfl⟩, rfl, hys⟩ := hJ
    obtain ⟨u, rfl⟩ := hP
    rw [show (0 + (i : Int) * 1) = ((i : Nat) : Int) by omega]
    refine c_assign F₁ N₁ rfl rfl fun h₂ tk₂ F₂ N₂ => ?_
    refine tests_nil ?_
    rw [if_pos rfl]
    dsimp only [List.singleton_append, List.cons_append, List.nil_append] at N₂
    have hw : ((List.drop (i : Int).toNat ss ++ List.take (i : Int).toNat ss).map (·.length)).sum + (List.drop (i : Int).toNat ss ++ List.take (i : Int).toNat ss).length ≤ 1048576 :=
      joinFits (fun x hx => by rcases List.mem_append.mp hx with h | h; exact hsm x (List.mem_of_mem_drop h); exact hsm x (List.mem_of_mem_take h)) (by simp only [List.length_append, List.length_drop, List.length_take]; omega)
    k_steps
    refine ⟨_, _, _, [], rfl, by k_asm, cb_drop (by k_asm) (fun p hp => ?_), (fun _ hp => by cases hp), (fun _ hp => by cases hp), ⟨_, frm_set' rfl⟩, rfl, ?_⟩
    · rcases List.mem_cons.mp hp with rfl | hp
      · k_mem
      · rw [List.mem_singleton.mp hp]; k_mem
    · rw [List.range_succ, List.map_append]
      exact hys.append' (.cons _ _ .nil)
  case hend =>
    intro D h₃ tk₃ ys k m' news' hDn hDg hk hJ
    obtain ⟨⟨cv, rfl⟩, rfl, hys⟩ := hJ
    show Q _ _
    refine hret _ _ _ ⟨D, ys, k, rfl, hDg, ?_, hys⟩ (fun b o e => hk _ _ (Fg.keep b o (G' b o e)))
    cases hx : s.heap.get? D with
    | none => rfl
    | some o => rw [Fg.keep _ _ (G' _ _ hx)] at hDn; cases hDn
end Mine
end
section -- Ux
open PySem PySem.W PyProof.Rows PySem.Calls
namespace Mine
/-- a call inside which an exception is raised and caught: the caller's frame may get slots, the lists of mt may change -/
def Gx (w : World) (f : Addr) (vs : List Value) (d : Nat) (mt : List (Addr × Obj)) (P : Value → List (Addr × Obj) → Prop) : Prop :=
  ∀ (mean : ExcName → Option Value) (mg mb : Str → Option Value) (dp un : Nat) (gd : Option (List Code)) (ce : Env) (g : Heap) (L : Addr) (m : Str → Option Value) (news : List (Addr × Obj)) (s : Shared) (Q E : Value → Shared → Prop)
  (_ : ce.frame = some L) (_ : ce.scope.kind ≠ .module)
  (_ : dp + d < recursionLimit) (_ : un + 8 * d + 100 < cLine) (_ : (Mine.hd.heap_39 w.params).In g) (_ : Top Mine.hd.view_39 LO mean mg mb g) (_ : Fr g L s.heap m) (_ : News g L s.heap (mt ++ news)) (_ : ∀ p ∈ news, ∀ q ∈ mt, p.1 ≠ q.1)
  (_ : ∀ v h' tk' news', P v news' → Fr g L h' m → News g L h' (news' ++ news) → Q v {s with heap := h', toks := tk'}),
  wpAny (model PySem.Challenge.rw_of0050_01.row.prog w) { handled := none, depth := dp, frames := some [ce], guards := gd, units := un } (call (.ref f) vs) Q E s

theorem enterX {prog : Program} {w : World} {A : Around} {s : Shared} {K : Frag} {p : Program} {loose : List Str} {mean : ExcName → Option Value} {mg mb : Str → Option Value} {R : Result → Shared → Prop} {name qual : Str} {params : Arguments} {body : List Stmt} {scope : Scope} {dV kV doc pm cdv ct oc : Value} {an od : Option Addr} {osl : Array (Option Value)} {f : Addr} {args : Args} {binds : List (Str × Value)} {ce : Env} {g : Heap} {L : Addr} {m : Str → Option Value} {mt news : List (Addr × Obj)}
    (X₀ : K.In g) (T : Top p loose mean mg mb g) (F : Fr g L s.heap m) (N : News g L s.heap (mt ++ news)) (hap : ∀ p ∈ news, ∀ q ∈ mt, p.1 ≠ q.1) (hcf : ce.frame = some L) (hck : ce.scope.kind ≠ .module)
    (ho : K.lookup f = some ⟨oc, od, .func (fnOf name qual params body scope dV kV doc pm an cdv ct), osl⟩) (hcd : codeIn K cdv qual = true) (hroom : A.depth < recursionLimit)
    (hbind : BindsTo s (fnOf name qual params body scope dV kV doc pm an cdv ct) args binds) (hloc : ∀ y ∈ binds, scope.names.lookup y.1 = some .local)
    (h : ∀ B L' h₁ tk oL, TI.Frs [ce] [(L, oL)] → TLg.AllNe L mt → (∀ p ∈ mt, @LT.lt Nat _ p.1 L') → @LT.lt Nat _ L L' → K.In B → Top p loose mean mg mb B → Fr B L' h₁ (fun y => binds.reverse.lookup y) → News B L' h₁ (mt ++ [(L, oL)]) →
      (∀ h' sl news' m', Fr B L' h' m' → News B L' h' (news' ++ [(L, { oL with slots := sl })]) → TLg.AllNe L news' → Fr g L h' m ∧ News g L h' (news' ++ news)) →
      wpAny (model prog w) (A.deeper (envOf qual scope L' f cdv)) (execs body (envOf qual scope L' f cdv))
        (fun fl s' => R (.ok (.ret (match fl with | .ret v => v | _ => .none))) s')
        (fun _ _ => False)
        { s with heap := h₁, toks := tk })
    (hco : scope.isCoroutine = false) (hgen : scope.isGenerator = false) (hk : scope.kind = .function)
    (hcell : ∀ x ∈ scope.names, x.2 ≠ .cell) : codeAny (model prog w) A (.call (.ref f) args) R s := by
  have X := X₀.keeps F.keep
  obtain ⟨oL, es, ep, hL, hLd, hLk, hLf⟩ := id F.ns
  have hLt : @LT.lt Nat _ L s.heap.objs.size := Heap.lt_size hL
  refine codeAny_call_def (fd := fnX name qual params body scope [] dV kV doc pm an cdv ct) (body := body) (binds := binds) hroom (X _ _ ho) rfl (T.nolimit.keeps F.keep) (codeRec_of X hcd) rfl hbind hcell hloc (fun h₁ hns hk₁ => ?_) hco hgen hk
  have gB : ∀ b o, g.get? b = some o → (hideAll s.heap (L :: mt.map (·.1))).get? b = some o := fun b o e => hideAll_get _ (F.keep b o e) fun hm => by
    rcases List.mem_cons.mp hm with rfl | hm
    · exact absurd (Nat.lt_of_lt_of_le (Heap.lt_size e) F.above) (Nat.lt_irrefl _)
    · obtain ⟨q, hq, rfl⟩ := List.mem_map.mp hm
      rw [(N q (List.mem_append_left _ hq)).2.2] at e; cases e
  have hmutL : ∀ p ∈ mt, p.1 ≠ L := fun p hp => (N p (List.mem_append_left _ hp)).2.1
  refine wpAny_mono (h (hideAll s.heap (L :: mt.map (·.1))) s.heap.objs.size h₁ _ oL ⟨hck, hcf, ⟨es, ep, hLd⟩, trivial⟩ (TLgL.allNe_of hmutL) (fun p hp => Heap.lt_size (N p (List.mem_append_left _ hp)).1) hLt (X₀.keeps gB) (T.keeps gB)
    ⟨hns, fun b o e => hk₁ b o (of_hideAll _ e), by rw [hideAll_size]; exact Nat.le_refl _⟩ (fun p hp => ?_) (fun h' sl news' m' F' N' hne => ?_)) (fun _ _ x => x) fun _ _ x => x.elim
  · rcases List.mem_append.mp hp with hp | hp
    · obtain ⟨h1, h2, h3⟩ := N p (List.mem_append_left _ hp)
      exact ⟨hk₁ _ _ h1, Nat.ne_of_lt (Heap.lt_size h1), hideAll_none _ (List.mem_cons_of_mem _ (List.mem_map_of_mem hp))⟩
    · rw [List.mem_singleton.mp hp]
      exact ⟨hk₁ _ _ hL, Nat.ne_of_lt hLt, hideAll_none _ (List.mem_cons_self ..)⟩
  · have hL' : h'.get? L = some { oL with slots := sl } := (N' _ (List.mem_append_right _ (List.mem_singleton_self _))).1
    refine ⟨⟨⟨_, es, ep, hL', hLd, hLk, hLf⟩, fun b o e => F'.keep b o (gB b o e), F.above⟩, fun p hp => ?_⟩
    rcases List.mem_append.mp hp with hp | hp
    · obtain ⟨h1, h2, h3⟩ := N' p (List.mem_append_left _ hp)
      refine ⟨h1, hne.mem p hp, ?_⟩
      cases q : g.get? p.1 with
      | none => rfl
      | some o => rw [gB _ _ q] at h3; cases h3
    · obtain ⟨h1, h2, h3⟩ := N p (List.mem_append_right _ hp)
      refine ⟨F'.keep _ _ (hideAll_get _ h1 fun hm => ?_), h2, h3⟩
      rcases List.mem_cons.mp hm with e | hm
      · exact h2 e
      · obtain ⟨q, hq, e⟩ := List.mem_map.mp hm
        exact hap p hp q hq e.symm

theorem strs_last : ∀ {vs : List Value} {ss : List Str}, StrsAre vs ss → ss ≠ [] → ∃ y x t, vs = vs.dropLast ++ [y] ∧ y = Value.str x t ∧ ss = ss.dropLast ++ [x] ∧ StrsAre vs.dropLast ss.dropLast
  | _, _, .nil, h => absurd rfl h
  | _, _, .cons k t .nil, _ => ⟨.str k t, k, t, rfl, rfl, rfl, .nil⟩
  | _, _, .cons k t (.cons k' t' r), _ => by
    obtain ⟨y, x, u, h1, h2, h3, h4⟩ := strs_last (.cons k' t' r) (by simp)
    exact ⟨y, x, u, congrArg (List.cons _) h1, h2, congrArg (List.cons _) h3, .cons k t h4⟩
section
variable {prog : Program} {w : World} {A : Around} {E : Value → Shared → Prop} {s : Shared} {h₀ : Heap} {L D : Addr} {m : Str → Option Value} {news news' : List (Addr × Obj)} {n : Nat} {vs : List Value} {ss : List Str} {Q : Value → Shared → Prop}
theorem pop_s {x : Str} (F : Fr h₀ L s.heap m) (N : News h₀ L s.heap news) (hi : StrsAre vs ss) (he : ss.getLast? = some x) (hz : ss.length ≤ 1000) (U : Upd D (W.listOf vs.toArray n) (W.listOf vs.dropLast.toArray (n + 1)) news news')
    (h : ∀ h' t, Fr h₀ L h' m → News h₀ L h' news' → StrsAre vs.dropLast ss.dropLast → Q (.str x t) { s with heap := h' }) : wpAny (model prog w) A (call (.builtin "list.pop") [.ref D]) Q E s := by
  obtain ⟨y, x', t, h1, h2, h3, h4⟩ := strs_last hi (fun e => by rw [e] at he; cases he)
  have ex : x' = x := by rw [h3, List.getLast?_append] at he; simpa using he
  subst ex h2
  refine kl_pop F N (p := vs.dropLast) (y := .str x' t) ?_ U ?_ fun h' F' N' => h h' t F' N' h4
  · have e := kpa_last (.str x' t) vs.dropLast
    rw [← h1] at e
    simpa using e
  · rw [sizeLine_eq]; simp [hi.length]; omega
def isStr' (x : Str) : Value → Bool
  | .str y _ => y.cps.toList == x.cps.toList
  | _ => false
theorem cps_eq {x y : Str} : (x.cps.toList == y.cps.toList) = true ↔ x = y := by
  constructor
  · intro h
    have := Array.toList_inj.mp (beq_iff_eq.mp h)
    cases x; cases y; cases this; rfl
  · rintro rfl; simp
theorem eqg {x : Str} {t : Tok} (hi : StrsAre vs ss) : ∀ y ∈ vs, MeetsSeq.EqGives y (.str x t) (isStr' x y) := by
  intro y hy
  obtain ⟨z, u, rfl⟩ := StrsAre.all hi y hy
  exact SeqRoads2.EqGives.str z x u t
theorem strs_getS : ∀ {vs : List Value} {ss : List Str} {x : Str}, StrsAre vs ss → ∀ (i : Nat) (hi : i < vs.length), ∃ hj : i < ss.length, isStr' x vs[i] = decide (ss[i] = x)
  | _, _, x, .cons y t r, 0, _ => ⟨Nat.zero_lt_succ _, by
      show (y.cps.toList == x.cps.toList) = decide (y = x)
      rw [Bool.eq_iff_iff, cps_eq, decide_eq_true_iff]⟩
  | _, _, x, .cons y t r, i + 1, h => by
    obtain ⟨a, b⟩ := strs_getS (x := x) r i (Nat.lt_of_succ_lt_succ h)
    exact ⟨Nat.succ_lt_succ a, b⟩
theorem strs_erase : ∀ {vs : List Value} {ss : List Str}, StrsAre vs ss → ∀ j, StrsAre (vs.eraseIdx j) (ss.eraseIdx j)
  | _, _, .nil, _ => .nil
  | _, _, .cons _ _ r, 0 => r
  | _, _, .cons k t r, j + 1 => .cons k t (strs_erase r j)
theorem rm_s {x : Str} {t : Tok} (hA : A.handled = none) (F : Fr h₀ L s.heap m) (N : News h₀ L s.heap news) (hi : StrsAre vs ss) (hz : ss.length ≤ 1000) (U : Upd D (W.listOf vs.toArray n) (W.listOf (vs.eraseIdx (ss.idxOf x)).toArray (n + 1)) news news')
    (h : x ∈ ss → ∀ h', Fr h₀ L h' m → News h₀ L h' news' → StrsAre (vs.eraseIdx (ss.idxOf x)) (ss.erase x) → Q .none { s with heap := h' })
    (hn : x ∉ ss → ∀ h' tk e, Heap.NewExc s.heap h' e "ValueError" → E (.ref e) { s with heap := h', toks := tk }) :
    wpAny (model prog w) A (call (.builtin "list.remove") [.ref D, .str x t]) Q E s := by
  have hlen : vs.length = ss.length := hi.length
  obtain ⟨pre, post, rfl, rfl, a', b'⟩ := U.split
  have z := N (D, W.listOf vs.toArray n) (List.mem_append.mpr (.inr (.head _)))
  by_cases hx : x ∈ ss
  · have hj : ss.idxOf x < ss.length := List.idxOf_lt_length_iff.mpr hx
    refine call_meets PySem.F.slot_list_remove ⟨_, z.1, rfl⟩ PySem.F.entry_list_remove (PySem.F.args_list_remove_2 _ _)
      (MeetsSeq.list_remove D vs.toArray n (.str x t) (isStr' x) (fun y hy => eqg hi y (by simpa using hy)) (ss.idxOf x) (by rw [List.size_toArray, hlen]; exact hj) ?_ ?_ (by rw [List.size_toArray, hlen, sizeLine_eq]; omega))
      ⟨z.1, h hx _ (F.change (Heap.SameBut.update ..) z.2.1 z.2.2) (ki_turn _ N a' b' ?_ ?_) ?_⟩
    · obtain ⟨h1, h2⟩ := strs_getS (x := x) hi (ss.idxOf x) (by omega)
      simp only [List.getElem_toArray]
      rw [h2, decide_eq_true_iff]
      exact List.getElem_idxOf h1
    · intro i h1 h2
      obtain ⟨h3, h4⟩ := strs_getS (x := x) hi i (by simpa using h1)
      simp only [List.getElem_toArray]
      rw [h4, decide_eq_false_iff_not]
      intro e
      have := List.not_of_lt_findIdx (p := (· == x)) (xs := ss) (i := i) h2
      simp [e] at this
    · show vs.toArray.eraseIdxIfInBounds (ss.idxOf x) = (vs.eraseIdx (ss.idxOf x)).toArray
      apply Array.toList_inj.mp
      simp [Array.toList_eraseIdxIfInBounds]
    · have hq : (vs.eraseIdx (ss.idxOf x)).toArray.size ≠ vs.toArray.size := by
        rw [List.size_toArray, List.size_toArray, List.length_eraseIdx, if_pos (by omega)]; omega
      rw [if_neg (by simpa using hq)]
    · rw [List.erase_eq_eraseIdx_of_idxOf rfl]
      exact strs_erase hi _
  · refine call_meets PySem.F.slot_list_remove ⟨_, z.1, rfl⟩ PySem.F.entry_list_remove (PySem.F.args_list_remove_2 _ _)
      (MeetsSeq.list_remove_none D vs.toArray n (.str x t) (isStr' x) (fun y hy => eqg hi y (by simpa using hy)) ?_) ⟨z.1, hA, hn hx⟩
    intro i h1
    obtain ⟨h3, h4⟩ := strs_getS (x := x) hi i (by simpa using h1)
    simp only [List.getElem_toArray]
    rw [h4, decide_eq_false_iff_not]
    intro e
    exact hx (e ▸ List.getElem_mem h3)
end
end Mine
end
section -- Ud
theorem Mine.quiet_Ud : True := by
  w_top off
  trivial
open PySem PySem.W PyProof.Rows PySem.Calls
namespace Mine
def ulGo : List Str → List Str → List Str → List Str × List Str
  | [], a, m => (m, a)
  | x :: r, a, m => if x ∈ a then ulGo r (a.erase x) m else ulGo r a (m ++ [x])
def udFrame (A1 A2 M : Addr) (iv : Option Value) : List (Str × Option Value) := [(Str.ofString "actual", some (.ref A2)), (Str.ofString "expected", some (.ref A1)), (Str.ofString "missing", some (.ref M)), (Str.ofString "item", iv)]
theorem truthy_s {prog : Program} {w : World} {A : Around} {E : Value → Shared → Prop} {s : Shared} {l : Addr} {vs : List Value} {xs : List Str} {Q : Bool → Shared → Prop} (hl : s.heap.IsList l vs.toArray) (hi : StrsAre vs xs) (hz : xs.length ≤ 1000)
    (h : Q (decide (0 < xs.length)) { s with toks := s.toks + 1 + 1 }) : wpAny (model prog w) A (truthy (.ref l)) Q E s :=
  wpAny_truthy_list hl (by rw [List.size_toArray, hi.length]; omega) (by
    have e : (!vs.toArray.isEmpty) = decide (0 < xs.length) := by
      cases hi with
      | nil => rfl
      | cons _ _ _ => simp
    rw [e]; exact h)
theorem ulGo_last {es as ms : List Str} {x : Str} (h : es.getLast? = some x) : ulGo es.reverse as ms = if x ∈ as then ulGo es.dropLast.reverse (as.erase x) ms else ulGo es.dropLast.reverse as (ms ++ [x]) := by
  obtain ⟨ys, rfl⟩ := List.getLast?_eq_some_iff.mp h
  rw [List.reverse_append, List.dropLast_concat]
  rfl
local macro_rules | `(tactic| walk_at "truthy ref") => `(tactic| (k_here; (with_reducible show wpAny _ _ (truthy (Value.ref _)) _ _ _); refine truthy_s (News.isList (by k_asm) (by k_mem)) (by with_reducible assumption) (by omega) ?_))
local macro_rules | `(tactic| walk_at "call builtin:list.pop") => `(tactic| (k_here; (with_reducible show wpAny _ _ (call (Value.builtin _) [Value.ref _]) _ _ _); k_dflt (refine' pop_s ?F ?N ?i ?e ?z ?U ?_; (case F => k_asm); (case N => k_asm); (case U => k_upd); (case i => with_reducible assumption); (case e => assumption); (case z => omega)); (intro h' t' F' N' hI'; (try dsimp only [List.nil_append, List.cons_append] at N'))))
local macro_rules | `(tactic| walk_at "call builtin:list.remove") => `(tactic| (k_here; (with_reducible show wpAny _ _ (call (Value.builtin _) [Value.ref _, Value.str _ _]) _ _ _); k_dflt (refine' rm_s rfl ?F ?N ?i ?z ?U ?_ ?_; (case F => k_asm); (case N => k_asm); (case U => k_upd); (case i => with_reducible assumption); (case z => omega)); (first | (intro hx' h' F' N' hI'; (try dsimp only [List.nil_append, List.cons_append] at N')) | intro hx' h' tk' e' x')))
local macro_rules | `(tactic| walk_at "noteFrame ref") => `(tactic| (k_here; (with_reducible rename Heap.NewExc _ _ _ _ => tiX'); k_dflt (tlg_noted tiX'); clear tiX'; intro h' sl' tiF' tiH'; (try simp only [List.nil_append, List.cons_append] at tiH'); have tiHH' := TT.HeldNA.held tiH'))
set_option maxRecDepth 100000 in
set_option maxHeartbeats 8000000 in
set_option pp.deepTerms false in
set_option pp.maxSteps 30000 in
theorem unord_c : ∀ (w : World) (A1 A2 : Addr) (vs ws : List Value) (es as : List Str) (n1 n2 : Nat) (_ : StrsAre vs es) (_ : StrsAre ws as) (_ : es.length ≤ 6) (_ : as.length ≤ 6) (_ : @LT.lt Nat _ A1 A2), Gx w 125 [.ref A1, .ref A2] 1 [(A1, W.listOf vs.toArray n1), (A2, W.listOf ws.toArray n2)] (fun v news' => ∃ T M xs ys k l, v = .ref T ∧ StrsAre xs (ulGo es.reverse as []).1 ∧ StrsAre ys (ulGo es.reverse as []).2 ∧ news' = [(T, { cls := .type "tuple", data := .seq #[.ref M, .ref A2] }), (M, W.listOf xs.toArray k), (A2, W.listOf ys.toArray l)]) := by
  unfold Gx
  k_fill
  intro w A1 A2 vs ws es as n1 n2 hI1 hI2 hl1 hl2 h12 mean mg mb dp un gd ce g L m news s Q E hcf hck hd hu X T F N hap hret
  refine wpAny_call ?_
  k_dflt (refine' enterX ?k3 ?k5 ?kF ?kN ?ka ?kc ?kk ?k6 ?k7 ?k8 ?k9 ?kB ?_ ?c2 ?c3 ?c4 ?c5; (case k3 => k_asm); (case k5 => k_asm); (case kF => exact F); (case kN => exact N); (case ka => exact hap); (case kc => exact hcf); (case kk => exact hck); (case k6 => k_is); (case k7 => k_is); (case k8 => (dsimp only; omega)); (case k9 => exact BindsTo.of_eq rfl); (case c5 => decide); (case kB => exact locs rfl); (case c2 => exact rfl); (case c3 => exact rfl); (case c4 => exact rfl); k_whole; intro g' L' h' tk' oL tiF' ne' lt1' lt2' X' T' F' N' back'; (try dsimp only); (try k_fold))
  clear X T F N
  replace F' := Fr.to F' (frm_of_lookup [(Str.ofString "actual", Value.ref A2), (Str.ofString "expected", Value.ref A1)])
  dsimp only [List.cons_append, List.nil_append] at N'
  have neA1 : @Ne Nat A1 L := ne'.1
  have neA2 : @Ne Nat A2 L := ne'.2.1
  have ltA1 : @LT.lt Nat _ A1 L' := lt1' _ (List.mem_cons_self ..)
  have ltA2 : @LT.lt Nat _ A2 L' := lt1' _ (List.mem_cons_of_mem _ (List.mem_cons_self ..))
  clear ne' lt1'
  repeat ((fail_if_success (with_reducible show wpAny _ _ (exec (Stmt.While _ _ _ _) _) _ _ _)); (first | (k_unfold; (try dsimp only)) | walk1 | (dsimp only; walk1)))
  rename_i M _ l1 hA FA NA
  replace FA : Fr g' L' hA (frm (udFrame A1 A2 M none)) := Fr.to FA ((frm_set' rfl).trans (frm_none (Str.ofString "item") _))
  obtain ⟨lM1, lM2, lM3⟩ := l1
  refine While_inv2 (fun n mm nw => ∃ iv vs' ws' xs' es' as' ms' k k1 k2 sl, mm = frm (udFrame A1 A2 M iv) ∧ nw = [(M, W.listOf xs'.toArray k), (A1, W.listOf vs'.toArray k1), (A2, W.listOf ws'.toArray k2), (L, { oL with slots := sl })] ∧ StrsAre vs' es' ∧ StrsAre ws' as' ∧ StrsAre xs' ms' ∧ TI.Frs [ce] [(L, { oL with slots := sl })] ∧ es'.length ≤ 6 ∧ as'.length ≤ 6 ∧ ms'.length + es'.length ≤ 6 ∧ n = es'.length ∧ ulGo es'.reverse as' ms' = ulGo es.reverse as []) (n₀ := es.length) FA NA ⟨none, vs, ws, [], es, as, [], 0, n1, n2, oL.slots, rfl, rfl, hI1, hI2, .nil, tiF', hl1, hl2, by simpa using hl1, rfl, rfl⟩ ?turn (hE := fun _ _ h => h.elim)
  case turn =>
    clear FA NA hI1 hI2 tiF'
    intro n m₁ news₁ h₁ tk₁ F₁ N₁ hJ
    obtain ⟨iv, vs', ws', xs', es', as', ms', k, k1, k2, sl, rfl, rfl, hI1, hI2, hI3, tiF, hl3, hl4, hl5, rfl, hgo⟩ := hJ
    cases hes : es'.getLast? with
    | none =>
      have e0 : es' = [] := List.getLast?_eq_none_iff.mp hes
      subst e0
      k_steps
      rename_i D' h' F' N' l1'
      obtain ⟨l1, l2, l3, l4⟩ := l1'
      have e1 : vs' = [] := by cases hI1; rfl
      subst e1
      have hgo' : ulGo es.reverse as [] = (ms', as') := hgo.symm
      have N2 : News g' L' h' ([(D', { cls := .type "tuple", data := .seq #[.ref M, .ref A2] }), (M, W.listOf xs'.toArray k), (A2, W.listOf ws'.toArray k2)] ++ [(L, { oL with slots := sl })]) := cb_drop N' (fun p hp => by
        simp only [List.cons_append, List.nil_append, List.mem_cons, List.not_mem_nil, or_false] at hp ⊢
        rcases hp with h | h | h | h
        · exact .inl h
        · exact .inr (.inl h)
        · exact .inr (.inr (.inr (.inl h)))
        · exact .inr (.inr (.inr (.inr h))))
      obtain ⟨Fb, Nb⟩ := back' h' sl _ _ F' N2 ⟨Nat.ne_of_gt l4, Nat.ne_of_gt lM3, neA2, trivial⟩
      exact hret _ _ _ _ ⟨D', M, xs', ws', k, k2, rfl, by rw [hgo']; exact hI3, by rw [hgo']; exact hI2, rfl⟩ Fb Nb
    | some x =>
      have e0 : 0 < es'.length := by cases es' with | nil => cases hes | cons _ _ => simp
      have e1 : es'.dropLast.length = es'.length - 1 := List.length_dropLast
      rw [ulGo_last hes] at hgo
      k_steps
      · have hx : x ∈ as' := by assumption
        rw [if_pos hx] at hgo
        exact ⟨_, _, _, _, es'.dropLast.length, rfl, by k_asm, by k_asm, by omega, ⟨_, _, _, _, _, _, _, _, _, _, _, frm_set' rfl, rfl, by assumption, by assumption, hI3, tiF, by omega, by rw [List.length_erase_of_mem hx]; omega, by omega, rfl, hgo⟩⟩
      · have hx : x ∉ as' := by assumption
        rw [if_neg hx] at hgo
        rename News _ _ _ ((M, W.listOf (Array.push _ _) _) :: _) => N9
        have ep : ∀ t, xs'.toArray.push (Value.str x t) = (xs' ++ [Value.str x t]).toArray := fun t => by simp
        simp only [ep] at N9
        refine ⟨_, _, _, _, es'.dropLast.length, rfl, by k_asm, N9, by omega, ⟨_, _, _, _, _, _, _, _, _, _, _, frm_set' rfl, rfl, by assumption, hI2, hI3.append' (.cons _ _ .nil), by assumption, by omega, hl4, by rw [List.length_append]; simp only [List.length_cons, List.length_nil]; omega, rfl, hgo⟩⟩
end Mine
end
section -- Ex
open PySem PySem.W PyProof.Rows PySem.Calls
namespace Mine
section
variable {prog : Program} {w : World} {A : Around} {E : Value → Shared → Prop} {s : Shared} {B : Heap} {L L' e e1 T : Addr} {m : Str → Option Value} {new news : List (Addr × Obj)} {oL oe oT o1 : Obj} {env ce : Env} {vs ts vs1 : Array Value}

theorem ne_of_data {h : Heap} {a b : Addr} {oa ob : Obj} (ha : h.get? a = some oa) (hb : h.get? b = some ob) (hd : oa.data ≠ ob.data) : a ≠ b := fun q => by
  subst q; rw [ha] at hb; cases hb; exact hd rfl

/-- the first look of a frame at a new exception, in a ledger -/
theorem note_first {Q : Unit → Shared → Prop} (hfr : A.frames = some [env, ce]) (hf : env.frame = some L') (hk : env.scope.kind ≠ .module) (Fs : TI.Frs [ce] [(L, oL)]) (F : Fr B L' s.heap m) (N : News B L' s.heap ((e, oe) :: (new ++ [(L, oL)]))) (hne : TLg.AllNe L new)
    (hd : oe.data = .fields vs) (h1 : vs[1]? = some .none) (hee : ∀ p ∈ new, p.1 ≠ e)
    (k : ∀ h' T oT ts sl oe', Fr B L' h' m → TI.Frs [ce] [(L, { oL with slots := sl })] → s.heap.get? T = none → oT.data = .fields ts → ts[3]? = some (rawInt L') → oe'.cls = oe.cls → oe'.data = .fields (vs.setIfInBounds 1 (.ref T)) →
      News B L' h' ((T, oT) :: (e, oe') :: (new ++ [(L, { oL with slots := sl })])) → Q () { s with heap := h' }) :
    wpAny (model prog w) A (noteFrame (.ref e) env) Q E s := by
  have he := (N (e, oe) (List.mem_cons_self ..)).1
  have hL := N (L, oL) (List.mem_cons_of_mem _ (List.mem_append_right _ (List.mem_singleton_self _)))
  obtain ⟨hck, hcf, ⟨des, dep, hLd⟩, -⟩ := Fs
  have hcf' : ce.frame = some L := hcf
  have hLd' : oL.data = .dict des dep := hLd
  obtain ⟨o', es', ep', ho', hd', hk', hf'⟩ := id F.ns
  have hBL' : B.get? L' = none := Heap.get?_none_of_le F.above
  have hl : s.heap.FunFrames B [env, ce] := ⟨hk, ⟨L', o', hf, hBL', ho', fun vs q => by rw [hd'] at q; cases q⟩, hck, ⟨L, oL, hcf', hL.2.2, hL.1, fun vs q => by rw [hLd'] at q; cases q⟩, trivial⟩
  have hsz : 1 < vs.size := (Array.getElem?_eq_some_iff.mp h1).1
  unfold noteFrame
  simp only [hf]
  refine wpAny_bind (wpAny_field he hd h1 ?_)
  rw [if_neg (by decide)]
  refine wpAny_bind (wpAny_frameOf_fun hfr hl hf fun h₁ hs₁ => ?_)
  refine wpAny_bind (wpAny_entryPlaceOf fun pl hpl => ?_)
  unfold EntryCells.newEntry newFields
  refine wpAny_bind (wpAny_newObj_type ?_ (hpl.sizeOk5 _ _ _ _ _))
  have hfm : [env, ce].filterMap (·.frame) = [L', L] := by simp [hf, hcf']
  rw [hfm] at hs₁
  have other : ∀ b o, b ≠ L' → b ≠ L → s.heap.get? b = some o → h₁.get? b = some o := fun b o h1 h2 e => (hs₁.2.1 b (by simp [h1, h2])).trans e
  have heL : e ≠ L := ne_of_data he hL.1 (by rw [hd, hLd']; intro q; cases q)
  have heL' : e ≠ L' := ne_of_data he ho' (by rw [hd, hd']; intro q; cases q)
  have he₁ : h₁.get? e = some oe := other e oe heL' heL he
  have hTe : h₁.objs.size ≠ e := Nat.ne_of_gt (Heap.lt_size he₁)
  obtain ⟨slL, hL₁⟩ := hs₁.2.2 L oL hL.1
  obtain ⟨slL', hL'₁⟩ := hs₁.2.2 L' o' ho'
  have hTn : s.heap.get? h₁.objs.size = none := Heap.get?_none_of_le (by rw [hs₁.1]; exact Nat.le_refl _)
  generalize hTo : ({ cls := .type "traceback", dict := none, data := .fields ([Value.none, .ref L', .none, rawInt L', .none] ++ (if pl.isEmpty then List.replicate 6 Value.none else pl)).toArray } : Obj) = tob
  have htd : tob.data = .fields ([Value.none, .ref L', .none, rawInt L', .none] ++ (if pl.isEmpty then List.replicate 6 Value.none else pl)).toArray := by rw [← hTo]
  have htf : tob.isFreed = false := Obj.isFreed_of_fields htd
  have he₂ : (h₁.push tob).get? e = some oe := Heap.get?_push_of_some _ he₁
  refine wpAny_setField he₂ hd hsz ?_
  have hd₃ := Obj.data_mapFields hd (·.setIfInBounds 1 (Value.ref h₁.objs.size))
  have he₃ := Heap.get?_update_self (Obj.mapFields (·.setIfInBounds 1 (Value.ref h₁.objs.size))) he₂ (Obj.isFreed_of_fields hd₃)
  have keep : ∀ b o, b ≠ e → h₁.get? b = some o → ((h₁.push tob).update e (Obj.mapFields (·.setIfInBounds 1 (Value.ref h₁.objs.size)))).get? b = some o := fun b o hbe hb => by
    rw [Heap.get?_update_other _ _ (Ne.symm hbe)]
    exact Heap.get?_push_of_some _ hb
  have hT₃ : ((h₁.push tob).update e (Obj.mapFields (·.setIfInBounds 1 (Value.ref h₁.objs.size)))).get? h₁.objs.size = some tob := by
    rw [Heap.get?_update_other _ _ (Ne.symm hTe)]
    exact Heap.get?_push_size h₁ htf
  refine k _ h₁.objs.size tob _ slL _ ⟨⟨_, es', ep', keep _ _ (Ne.symm heL') hL'₁, hd', hk', hf'⟩, fun b o hb => ?_, F.above⟩ ⟨hck, hcf, ⟨des, dep, hLd⟩, trivial⟩ hTn htd (by first | (simp; done) | (rcases hpl with rfl | ⟨_, _, _, _, _, _, _, rfl⟩ <;> simp)) (Obj.cls_mapFields _ _) hd₃ fun p hp => ?_
  · have hbL : b ≠ L := fun q => by rw [q, hL.2.2] at hb; cases hb
    have hbL' : b ≠ L' := fun q => by rw [q, hBL'] at hb; cases hb
    have hbe : b ≠ e := fun q => by rw [q, (N (e, oe) (List.mem_cons_self ..)).2.2] at hb; cases hb
    exact keep b o hbe (other b o hbL' hbL (F.keep b o hb))
  · rcases List.mem_cons.mp hp with rfl | hp
    · refine ⟨hT₃, fun q => ?_, ?_⟩
      · have q' : h₁.objs.size = L' := q
        rw [q', ho'] at hTn; cases hTn
      · cases hq : B.get? h₁.objs.size with
        | none => rfl
        | some o => rw [F.keep _ _ hq] at hTn; cases hTn
    rcases List.mem_cons.mp hp with rfl | hp
    · exact ⟨he₃, (N (e, oe) (List.mem_cons_self ..)).2⟩
    rcases List.mem_append.mp hp with hp | hp
    · obtain ⟨x1, x2, x3⟩ := N p (List.mem_cons_of_mem _ (List.mem_append_left _ hp))
      exact ⟨keep _ _ (hee p hp) (other _ _ x2 (hne.mem p hp) x1), x2, x3⟩
    · rw [List.mem_singleton.mp hp]
      exact ⟨keep _ _ (Ne.symm heL) hL₁, hL.2⟩

/-- a second look of the same frame -/
theorem note_again {Q : Unit → Shared → Prop} {f : Addr} (hf : env.frame = some f) (he : s.heap.get? e = some oe) (hd : oe.data = .fields vs) (h1 : vs[1]? = some (.ref T)) (hT : s.heap.get? T = some oT) (hdT : oT.data = .fields ts) (h3 : ts[3]? = some (rawInt f)) (h : Q () s) :
    wpAny (model prog w) A (noteFrame (.ref e) env) Q E s := by
  unfold noteFrame
  simp only [hf]
  refine wpAny_bind (wpAny_field he hd h1 ?_)
  rw [if_pos (show (Value.ref T != Value.none) = true from by simp)]
  refine wpAny_bind (wpAny_field hT hdT h3 ?_)
  rw [if_pos (by simp)]
  exact wpAny_pure h

theorem flight_set {Q : Unit → Shared → Prop} {fr : Option Addr} {fl : Value} (F : Fr B L' s.heap m) (N : News B L' s.heap ((T, oT) :: news)) (hx : ∀ p ∈ news, p.1 ≠ T) (he : s.heap.get? e = some oe) (hd : oe.data = .fields vs) (h1 : vs[1]? = some (.ref T)) (hdT : oT.data = .fields ts) (h3 : ts[3]? = some fl)
    (h : ∀ h' oT', Fr B L' h' m → oT'.data = .fields (ts.setIfInBounds 3 (fr.elim .none fun f => rawInt f)) → News B L' h' ((T, oT') :: news) → Q () { s with heap := h' }) :
    wpAny (model prog w) A (setFlight (.ref e) fr) Q E s := by
  obtain ⟨hT, hTL, hTB⟩ := N (T, oT) (List.mem_cons_self ..)
  unfold setFlight
  refine wpAny_bind (wpAny_field he hd h1 ?_)
  rw [if_pos (show (Value.ref T != Value.none) = true from by simp)]
  have hd₃ := Obj.data_mapFields hdT (·.setIfInBounds 3 (fr.elim Value.none fun f => rawInt f))
  refine wpAny_setField hT hdT (Array.getElem?_eq_some_iff.mp h3).1 (h _ _ (F.change (Heap.SameBut.update ..) hTL hTB) hd₃ fun p hp => ?_)
  rcases List.mem_cons.mp hp with rfl | hp
  · exact ⟨Heap.get?_update_self _ hT (Obj.isFreed_of_fields hd₃), hTL, hTB⟩
  · obtain ⟨x1, x2, x3⟩ := N p (List.mem_cons_of_mem _ hp)
    refine ⟨?_, x2, x3⟩
    rw [Heap.get?_update_other _ _ (Ne.symm (hx p hp))]; exact x1

theorem plain_unchain : plainId "proto.unchain" = true := by decide +kernel
theorem entry_unchain : entryFor table "proto.unchain" = some Builtin.«proto.unchain» := entryFor_of_fast (by kernel_rfl)

/-- a new exception while another is in hand -/
structure NewExcC (h h' : Heap) (e : Addr) (cls : String) (e1 : Addr) : Prop where
  keeps : ∀ b o, h.get? b = some o → h'.get? b = some o
  new : h.get? e = none
  there : ∃ ob t, h'.get? e = some ob ∧ ob.cls = .type cls ∧ ob.data = .fields #[t, .none, .ref e1, .none, .bool false, .none]

theorem raise_ctx {α : Type} {cls msg : String} {Q : α → Shared → Prop} (hp : PlainExc cls) (hh : A.handled = some (.ref e1)) (he1 : s.heap.get? e1 = some o1) (hd1 : o1.data = .fields vs1) (h2 : vs1[2]? = some .none)
    (h : ∀ h' tk e, NewExcC s.heap h' e cls e1 → E (.ref e) { s with heap := h', toks := tk }) :
    wpAny (model prog w) A (raiseErrorWords cls msg : Sem α) Q E s := by
  unfold raiseErrorWords
  refine wpAny_bind (wpAny_mkText (wpAny_bind ?_))
  unfold newExc newTuple
  refine wpAny_bind (wpAny_newObj_type ?_)
  refine wpAny_bind (m := firstArgMember _ _) (wpAny_of_eq (a := Value.none) (by simp only [firstArgMember, hp.first]; rfl) ?_)
  rw [hp.own]
  refine wpAny_newObj_type ?_
  unfold raiseNew
  refine wpAny_bind (wpAny_handled ?_)
  rw [hh]
  dsimp only
  generalize hH : (s.heap.push { cls := .type "tuple", dict := none, data := .seq _ }) = H1
  have k1 : ∀ b o, s.heap.get? b = some o → H1.get? b = some o := fun b o q => by rw [← hH]; exact Heap.get?_push_of_some _ q
  have hne : e1 ≠ H1.objs.size := Nat.ne_of_lt (Heap.lt_size (k1 _ _ he1))
  rw [if_pos (by simp [hne])]
  refine wpAny_bind (wpAny_holding (wpAny_runValue (codeAny_builtin entry_unchain ?_)))
  rw [Around.under_plainId plain_unchain _]
  unfold Builtin.«proto.unchain»
  dsimp only
  refine wpAny_bind (wpAny_field (Heap.get?_push_of_some _ (k1 _ _ he1)) hd1 h2 ?_)
  rw [if_pos (by simp)]
  refine wpAny_bind (wpAny_pure ?_)
  refine wpAny_pure ?_
  dsimp only
  generalize hO : ({ cls := .type cls, dict := none, data := .fields (#[Value.ref s.heap.objs.size, Value.none, Value.none, Value.none, Value.bool false, Value.none] ++ #[]) } : Obj) = o2
  have hod : o2.data = .fields #[Value.ref s.heap.objs.size, Value.none, Value.none, Value.none, Value.bool false, Value.none] := by rw [← hO]; rfl
  have hof : o2.isFreed = false := Obj.isFreed_of_fields hod
  have ho2 : (H1.push o2).get? H1.objs.size = some o2 := Heap.get?_push_size _ hof
  show wpAny (model prog w) A (setField (.ref H1.objs.size) 2 (.ref e1) >>= fun _ => throw (Value.ref H1.objs.size)) Q E _
  refine wpAny_bind (wpAny_setField ho2 hod (by show 2 < 6; decide) (wpAny_throw (h _ _ _ ⟨fun b o q => ?_, ?_, ?_⟩)))
  · rw [Heap.get?_update_other _ _ (Nat.ne_of_gt (Heap.lt_size (k1 _ _ q)))]
    exact Heap.get?_push_of_some _ (k1 _ _ q)
  · exact Heap.get?_none_of_le (by rw [← hH, Heap.size_push]; exact Nat.le_succ _)
  · have hd₃ := Obj.data_mapFields hod (·.setIfInBounds 2 (Value.ref e1))
    exact ⟨_, _, Heap.get?_update_self _ ho2 (Obj.isFreed_of_fields hd₃), by rw [Obj.cls_mapFields, ← hO], by rw [hd₃]; rfl⟩

theorem getItem_out_ctx {l : Addr} {items : Array Value} {k : Int} {t : Tok} {Q : Value → Shared → Prop} (hh : A.handled = some (.ref e1)) (he1 : s.heap.get? e1 = some o1) (hd1 : o1.data = .fields vs1) (h2 : vs1[2]? = some .none) (hl : s.heap.IsList l items)
    (hout : (items.size : Int) ≤ k) (hhi : k ≤ 1000)
    (hE : ∀ h' tk e, NewExcC s.heap h' e "IndexError" e1 → E (.ref e) { s with heap := h', toks := tk }) :
    wpAny (model prog w) A (getItem (.ref l) (.int k t)) Q E s := by
  obtain ⟨o, ho, hc, ne, hd⟩ := id hl
  unfold getItem
  try with_reducible refine wpAny_holding ?_
  first | refine wpAny_bind (wpAny_pure ?_) | skip
  refine wpAny_bind (wpAny_sequenceKey hl.typeIs (by decide) ?_)
  refine wpAny_bind (wpAny_callSpecial?_slot (name := Str.ofString "__getitem__") hl.typeIs slot_list_getitem
    (wpAny_call_entry slot_list_getitem hl.typeIs entry_list_getitem ?_ (args_list_getitem _ _)))
  show wpAny _ _ (Builtin.List.listSubscript? (.int k t) >>= _) _ _ s
  refine wpAny_bind (wpAny_listSubscript_int (fitsIndex_both (by omega) (by omega)) ?_)
  cases k with
  | ofNat j =>
    have hx : items[j]? = none := Array.getElem?_eq_none (by have : (items.size : Int) ≤ (j : Int) := hout; omega)
    show wpAny _ _ ((seqItemAt l j >>= fun r => pure (r.map (j, ·))) >>= _) _ _ s
    refine wpAny_bind (wpAny_bind (wpAny_seqItemAt ho hd (wpAny_pure ?_)))
    rw [hx]
    first
      | exact wpAny_bind (wpAny_rule (raise_ctx plainExc_IndexError hh he1 hd1 h2 hE))
      | exact wpAny_bind (wpAny_rule (wpAny_bind (raise_ctx plainExc_IndexError hh he1 hd1 h2 hE)))
      | exact wpAny_bind (wpAny_bind (wpAny_rule (raise_ctx plainExc_IndexError hh he1 hd1 h2 hE)))
      | exact wpAny_rule (raise_ctx plainExc_IndexError hh he1 hd1 h2 hE)
  | negSucc j => exact absurd hout (by have := Int.negSucc_lt_zero j; omega)

theorem item_out_ctx {value slice : PySem.Expr} {l : Addr} {items : Array Value} {k : Int} {u : Tok} {Q : Value → Shared → Prop} (hh : A.handled = some (.ref e1)) (he1 : s.heap.get? e1 = some o1) (hd1 : o1.data = .fields vs1) (h2 : vs1[2]? = some .none) (hl : s.heap.IsList l items)
    (hout : (items.size : Int) ≤ k) (hhi : k ≤ 1000)
    (hE : ∀ h' tk e, NewExcC s.heap h' e "IndexError" e1 → E (.ref e) { s with heap := h', toks := tk })
    (hs : subscripted slice false (.ref l) (.int k u) = operate [.ref l, .int k u] (getItem (.ref l) (.int k u)) := by with_unfolding_all rfl) :
    wpAny (model prog w) A (subscriptTail value slice (.ref l) (.int k u)) Q E s :=
  tail_any hl.typeIs slot_list_getitem.lookup (getItem_out_ctx hh he1 hd1 h2 hl hout hhi hE) hs
end
end Mine
end
section -- Sd
theorem Mine.quiet_Sd : True := by
  w_top off
  trivial
local macro_rules | `(tactic| walk_at "idle") => `(tactic| skip)
open PySem PySem.W PyProof.Rows PySem.Calls
namespace Mine
section
variable {prog : Program} {w : World} {A : Around} {E : Value → Shared → Prop} {s : Shared} {l : Addr} {vs : List Value} {ys : List Str} {k : Int} {u : Tok} {x : Str} {Q : Value → Shared → Prop} {value slice : PySem.Expr}
theorem item_in (hl : s.heap.IsList l vs.toArray) (hi : StrsAre vs ys) (hx : ys[k.toNat]? = some x) (h0 : 0 ≤ k) (h1 : k ≤ 1000) (h : ∀ t', Q (.str x t') s)
    (hs : subscripted slice false (.ref l) (.int k u) = operate [.ref l, .int k u] (getItem (.ref l) (.int k u)) := by with_unfolding_all rfl) (hg : ∀ r, letTemporaryGo value (.ref l) r = pure () := by intro _; with_unfolding_all rfl) :
    wpAny (model prog w) A (subscriptTail value slice (.ref l) (.int k u)) Q E s := by
  obtain ⟨t, ht⟩ := hi.at hx
  exact item_list hl h0 (by omega) (by simpa using ht) (h t) hs hg
theorem item_out (hA : A.handled = none) (hl : s.heap.IsList l vs.toArray) (hi : StrsAre vs ys) (hx : ys[k.toNat]? = none) (h0 : 0 ≤ k) (h1 : k ≤ 1000) (h : ∀ h' tk e, Heap.NewExc s.heap h' e "IndexError" → E (.ref e) { s with heap := h', toks := tk })
    (hs : subscripted slice false (.ref l) (.int k u) = operate [.ref l, .int k u] (getItem (.ref l) (.int k u)) := by with_unfolding_all rfl) :
    wpAny (model prog w) A (subscriptTail value slice (.ref l) (.int k u)) Q E s :=
  item_outK hA hl (.inr (by have := List.getElem?_eq_none_iff.mp hx; rw [List.size_toArray, hi.length]; omega)) (by omega) (by omega) h hs
def extV (n : Nat) (zs : List Value) : Nat := if zs.length = 0 then n else n + 1
theorem ext_s {h₀ : Heap} {L D b : Addr} {m : Str → Option Value} {news news' : List (Addr × Obj)} {n n2 : Nat} {xs zs : List Value} {ss ts : List Str} (F : Fr h₀ L s.heap m) (N : News h₀ L s.heap news) (hb : (b, W.listOf zs.toArray n2) ∈ news) (hi : StrsAre xs ss) (hj : StrsAre zs ts) (hz : ss.length + ts.length ≤ 1000)
    (U : Upd D (W.listOf xs.toArray n) (W.listOf (xs ++ zs).toArray (extV n zs)) news news')
    (h : ∀ h', Fr h₀ L h' m → News h₀ L h' news' → StrsAre (xs ++ zs) (ss ++ ts) → Q .none { s with heap := h' }) : wpAny (model prog w) A (call (.builtin "list.extend") [.ref D, .ref b]) Q E s := by
  have h1 : xs.length = ss.length := hi.length
  have h2 : zs.length = ts.length := hj.length
  have hd : ¬(!xs.toArray.isEmpty && Builtin.List.listTooLong (xs.toArray.size + zs.toArray.size)) = true := by
    have : Builtin.List.listTooLong (xs.toArray.size + zs.toArray.size) = false := by
      unfold Builtin.List.listTooLong
      rw [decide_eq_false_iff_not, sizeLine_eq, List.size_toArray, List.size_toArray]
      omega
    rw [this, Bool.and_false]; decide
  have z1 : xs.toArray.toList.length ≤ sizeLine := by rw [sizeLine_eq]; simp; omega
  have z2 : xs.toArray.size + zs.toArray.size ≤ sizeLine + 1 := by rw [sizeLine_eq]; simp; omega
  by_cases hz0 : zs.length = 0
  · have e : zs = [] := List.eq_nil_of_length_eq_zero hz0
    subst e
    have hv : extV n ([] : List Value) = n := rfl
    rw [hv, List.append_nil] at U
    refine kxn_extend F N hb rfl U hd z1 z2 fun h' F' N' => h h' F' N' (hi.append' hj)
  · have hv : extV n zs = n + 1 := if_neg hz0
    rw [hv] at U
    exact kl_extend F N hb (by simp) (by simpa using hz0) U hd z1 z2 fun h' F' N' => h h' F' N' (hi.append' hj)
end
theorem str_total {x y : Str} (h1 : ¬ x.cps.toList < y.cps.toList) (h2 : ¬ y.cps.toList < x.cps.toList) : x = y := by
  have := List.le_antisymm (List.not_lt.mp h2) (List.not_lt.mp h1)
  have := Array.toList_inj.mp this
  cases x; cases y; cases this; rfl
theorem take_snoc {es : List Str} {i : Nat} {x : Str} (h : es[((i : Nat) : Int).toNat]? = some x) : es.take i ++ [x] = es.take (i + 1) := by
  rw [List.take_add_one]
  have : es[i]? = some x := h
  rw [this]; rfl
theorem next_ne {es : List Str} {i : Nat} {x y : Str} (hn : es.Nodup) (h : es[((i : Nat) : Int).toNat]? = some x) (h2 : es[(((i : Nat) : Int) + 1).toNat]? = some y) : (y == x) = false := by
  have h1 : es[i]? = some x := h
  have h3 : es[i + 1]? = some y := h2
  rw [beq_eq_false_iff_ne]
  rintro rfl
  have := (List.getElem?_inj (List.getElem?_eq_some_iff.mp h1).1 hn).mp (h1.trans h3.symm)
  omega
theorem sd_fin {B h : Heap} {L L' T M U A1 A2 : Addr} {l : List (Addr × Obj)} {oL oT oU oM o1 o2 : Obj} {ce : Env} (N : News B L' h l) (Fs : TI.Frs [ce] [(L, oL)]) (hT : (T, oT) ∈ l) (hU : (U, oU) ∈ l) (hM : (M, oM) ∈ l) (h1 : (A1, o1) ∈ l) (h2 : (A2, o2) ∈ l) (hL : (L, oL) ∈ l)
    (dT : ∃ a n, oT.data = .seq a n) (dU : ∃ a n, oU.data = .seq a n) (dM : ∃ a n, oM.data = .seq a n) (d1 : ∃ a n, o1.data = .seq a n) (d2 : ∃ a n, o2.data = .seq a n) :
    News B L' h ([(T, oT), (U, oU), (M, oM), (A1, o1), (A2, o2)] ++ [(L, oL)]) ∧ TLg.AllNe L [(T, oT), (U, oU), (M, oM), (A1, o1), (A2, o2)] := by
  obtain ⟨_, _, ⟨es, ep, hd⟩, -⟩ := Fs
  have hd' : oL.data = .dict es ep := hd
  have ne : ∀ {a : Addr} {o : Obj}, (a, o) ∈ l → (∃ x n, o.data = .seq x n) → a ≠ L := fun {a o} ha ⟨x, n, hx⟩ => ne_of_data (N _ ha).1 (N _ hL).1 (by rw [show (a, o).2 = o from rfl, hx, show (L, oL).2 = oL from rfl, hd']; intro q; cases q)
  refine ⟨fun p hp => ?_, ne hT dT, ne hU dU, ne hM dM, ne h1 d1, ne h2 d2, trivial⟩
  simp only [List.cons_append, List.nil_append, List.mem_cons, List.not_mem_nil, or_false] at hp
  rcases hp with h | h | h | h | h | h <;> (rw [h]; exact N _ (by assumption))
theorem pushS1 {B h : Heap} {L' M : Addr} {u : Addr × Obj} {r : List (Addr × Obj)} {xs : List Value} {ss : List Str} {x : Str} {t : Tok} {n : Nat} (N : News B L' h (u :: (M, W.listOf (xs.toArray.push (.str x t)) n) :: r)) (hi : StrsAre xs ss) : ∃ zs, StrsAre zs (ss ++ [x]) ∧ News B L' h (u :: (M, W.listOf zs.toArray n) :: r) :=
  ⟨xs ++ [.str x t], hi.append' (.cons _ _ .nil), by have e : xs.toArray.push (Value.str x t) = (xs ++ [Value.str x t]).toArray := by simp
                                                     rw [e] at N; exact N⟩
theorem pushS0 {B h : Heap} {L' M : Addr} {r : List (Addr × Obj)} {xs : List Value} {ss : List Str} {x : Str} {t : Tok} {n : Nat} (N : News B L' h ((M, W.listOf (xs.toArray.push (.str x t)) n) :: r)) (hi : StrsAre xs ss) : ∃ zs, StrsAre zs (ss ++ [x]) ∧ News B L' h ((M, W.listOf zs.toArray n) :: r) :=
  ⟨xs ++ [.str x t], hi.append' (.cons _ _ .nil), by have e : xs.toArray.push (Value.str x t) = (xs ++ [Value.str x t]).toArray := by simp
                                                     rw [e] at N; exact N⟩
def sdFrame (A1 A2 : Addr) (i j M U ev av : Option Value) : List (Str × Option Value) := [(Str.ofString "actual", some (.ref A2)), (Str.ofString "expected", some (.ref A1)), (Str.ofString "i", i), (Str.ofString "j", j), (Str.ofString "missing", M), (Str.ofString "unexpected", U), (Str.ofString "e", ev), (Str.ofString "a", av)]
local macro_rules | `(tactic| walk_at "subscriptTail Name Name ref int") => `(tactic| (k_here; (with_reducible show wpAny _ _ (subscriptTail _ _ (Value.ref _) (Value.int _ _)) _ _ _); k_dflt (refine' item_out ?k0 ?k1 ?k2 ?k3 ?k4 ?k5 ?_ ?k6; (case k0 => rfl); (case k1 => exact News.isList (by k_asm) (by k_mem)); (case k2 => with_reducible assumption); (case k3 => with_reducible assumption); (case k4 => omega); (case k5 => omega); (case k6 => with_unfolding_all rfl)); intro h' tk' e' x'))
local macro_rules | `(tactic| walk_at "subscriptTail Name Name ref int") => `(tactic| (k_here; (with_reducible show wpAny _ _ (subscriptTail _ _ (Value.ref _) (Value.int _ _)) _ _ _); k_dflt (refine' item_in ?k1 ?k2 ?k3 ?k4 ?k5 ?_ ?k6 ?k7; (case k1 => exact News.isList (by k_asm) (by k_mem)); (case k2 => with_reducible assumption); (case k3 => with_reducible assumption); (case k4 => omega); (case k5 => omega); (case k6 => with_unfolding_all rfl); (case k7 => (intro _; with_unfolding_all rfl))); intro t'))
local macro_rules | `(tactic| walk_at "noteFrame ref") => `(tactic| (k_here; (with_reducible rename Heap.NewExc _ _ _ _ => tiX'); k_dflt (tlg_noted tiX'); clear tiX'; intro h' sl' tiF' tiH'; (try simp only [List.nil_append, List.cons_append] at tiH'); have tiHH' := TT.HeldNA.held tiH'))
local macro_rules | `(tactic| walk_at "call builtin:list.extend") => `(tactic| (k_here; (with_reducible show wpAny _ _ (call (Value.builtin _) [Value.ref _, Value.ref _]) _ _ _); k_dflt (refine' ext_s ?F ?N ?b ?i ?j ?z ?U ?_; (case F => k_asm); (case N => k_asm); (case b => k_mem); (case U => k_upd); (case i => with_reducible assumption); (case j => with_reducible assumption); (case z => ((try simp only [List.length_reverse, List.length_take, List.length_drop, List.length_append, List.length_cons, List.length_nil, List.length_map]); omega))); intro h' F' N' hI'; (try dsimp only [List.nil_append, List.cons_append] at N'); (try k_sweep)))
set_option maxRecDepth 100000 in
set_option maxHeartbeats 8000000 in
set_option pp.deepTerms false in
set_option pp.maxSteps 30000 in
theorem sortedD_c : ∀ (w : World) (A1 A2 : Addr) (vs ws : List Value) (es as : List Str) (n1 n2 : Nat) (_ : StrsAre vs es) (_ : StrsAre ws as) (_ : es.length ≤ 6) (_ : as.length ≤ 6) (_ : 1 ≤ es.length) (_ : 1 ≤ as.length) (_ : es.Nodup) (_ : as.Nodup) (_ : ∀ x ∈ es, x ∉ as) (_ : @LT.lt Nat _ A1 A2), Gx w 118 [.ref A1, .ref A2] 1 [(A1, W.listOf vs.toArray n1), (A2, W.listOf ws.toArray n2)] (fun v news' => ∃ T M U xs ys k l, v = .ref T ∧ StrsAre xs es ∧ StrsAre ys as ∧ news' = [(T, { cls := .type "tuple", data := .seq #[.ref M, .ref U] }), (U, W.listOf ys.toArray l), (M, W.listOf xs.toArray k), (A1, W.listOf vs.toArray n1), (A2, W.listOf ws.toArray n2)]) := by
  unfold Gx
  k_fill
  intro w A1 A2 vs ws es as n1 n2 hI1 hI2 hl1 hl2 hp1 hp2 hn1 hn2 hdj h12 mean mg mb dp un gd ce g L m news s Q E hcf hck hd hu X T F N hap hret
  refine wpAny_call ?_
  k_dflt (refine' enterX ?k3 ?k5 ?kF ?kN ?ka ?kc ?kk ?k6 ?k7 ?k8 ?k9 ?kB ?_ ?c2 ?c3 ?c4 ?c5; (case k3 => k_asm); (case k5 => k_asm); (case kF => exact F); (case kN => exact N); (case ka => exact hap); (case kc => exact hcf); (case kk => exact hck); (case k6 => k_is); (case k7 => k_is); (case k8 => (dsimp only; omega)); (case k9 => exact BindsTo.of_eq rfl); (case c5 => decide); (case kB => exact locs rfl); (case c2 => exact rfl); (case c3 => exact rfl); (case c4 => exact rfl); k_whole; intro g' L' h' tk' oL tiF' ne' lt1' lt2' X' T' F' N' back'; (try dsimp only); (try k_fold))
  clear X T F N
  replace F' := Fr.to F' (frm_of_lookup [(Str.ofString "actual", Value.ref A2), (Str.ofString "expected", Value.ref A1)])
  dsimp only [List.cons_append, List.nil_append] at N'
  have neA1 : @Ne Nat A1 L := ne'.1
  have neA2 : @Ne Nat A2 L := ne'.2.1
  have ltA1 : @LT.lt Nat _ A1 L' := lt1' _ (List.mem_cons_self ..)
  have ltA2 : @LT.lt Nat _ A2 L' := lt1' _ (List.mem_cons_of_mem _ (List.mem_cons_self ..))
  clear ne' lt1'
  repeat ((fail_if_success (with_reducible show wpAny _ _ (exec (Stmt.While _ _ _ _) _) _ _ _)); (first | (k_unfold; (try dsimp only)) | walk1 | (dsimp only; walk1)))
  rename_i _ _ M _ l1 _ _ U _ l2 hA FA NA
  replace FA : Fr g' L' hA (frm (sdFrame A1 A2 (some (.int 0 _)) (some (.int 0 _)) (some (.ref M)) (some (.ref U)) none none)) := Fr.to FA ((frm_set' (frm_set' (frm_set' (frm_set' rfl)))).trans ((frm_none (Str.ofString "e") _).trans (frm_none (Str.ofString "a") _)))
  obtain ⟨lM1, lM2, lM3⟩ := l1
  obtain ⟨lU0, lU1, lU2, lU3⟩ := l2
  refine While_inv2 (fun n mm nw => ∃ i j iv jv ev av xs' ys' k l sl, mm = frm (sdFrame A1 A2 (some (.int ((i : Nat) : Int) iv)) (some (.int ((j : Nat) : Int) jv)) (some (.ref M)) (some (.ref U)) ev av) ∧ nw = [(U, W.listOf ys'.toArray l), (M, W.listOf xs'.toArray k), (A1, W.listOf vs.toArray n1), (A2, W.listOf ws.toArray n2), (L, { oL with slots := sl })] ∧ StrsAre xs' (es.take i) ∧ StrsAre ys' (as.take j) ∧ TI.Frs [ce] [(L, { oL with slots := sl })] ∧ i < es.length ∧ j < as.length ∧ n = (es.length - i) + (as.length - j)) (n₀ := es.length + as.length) FA NA ⟨0, 0, _, _, none, none, [], [], 0, 0, oL.slots, rfl, rfl, .nil, .nil, tiF', hp1, hp2, rfl⟩ ?turn (hE := fun _ _ h => h.elim)
  case turn =>
    clear FA NA tiF'
    intro n m₁ news₁ h₁ tk₁ F₁ N₁ hJ
    obtain ⟨i, j, iv, jv, ev, av, xs', ys', k, l, sl, rfl, rfl, hI3, hI4, tiF, hi, hj, rfl⟩ := hJ
    obtain ⟨x, hx⟩ : ∃ x, es[((i : Nat) : Int).toNat]? = some x := ⟨_, List.getElem?_eq_getElem hi⟩
    obtain ⟨y, hy⟩ : ∃ y, as[((j : Nat) : Int).toNat]? = some y := ⟨_, List.getElem?_eq_getElem hj⟩
    have hxy : x ≠ y := fun q => hdj x (List.mem_of_getElem? hx) (q ▸ List.mem_of_getElem? hy)
    have l3 : (es.take i).length ≤ 6 := by rw [List.length_take]; omega
    have l4 : (as.take j).length ≤ 6 := by rw [List.length_take]; omega
    repeat ((fail_if_success (with_reducible show wpAny _ _ (exec (Stmt.While _ _ _ _) _) _ _ _)); (first | (k_unfold; (try dsimp only)) | walk1 | (dsimp only; walk1)))
    · rename Fr g' L' _ _ => FI
      rename News g' L' _ _ => NI
      obtain ⟨zs, hI5, NI⟩ := pushS1 NI hI3
      rw [take_snoc hx] at hI5
      clear hI3
      have l5 : (es.take (i + 1)).length ≤ 6 := by rw [List.length_take]; omega
      refine While_inv2 (fun _ mm nw => mm = _ ∧ nw = _) (n₀ := 0) FI NI ⟨rfl, rfl⟩ ?_
      rintro _ m₂ nw₂ h₂ tk₂ F₂ N₂ ⟨rfl, rfl⟩
      clear FI NI
      cases hx2 : es[(((i : Nat) : Int) + 1).toNat]? with
      | none =>
        k_steps
        dsimp only [WhileStep2]
        k_steps
        show Q _ _
        have hA : StrsAre (zs ++ vs.drop (((i : Nat) : Int) + 1).toNat) es := by
          have h9 : StrsAre (zs ++ vs.drop (((i : Nat) : Int) + 1).toNat) (es.take (i + 1) ++ es.drop (i + 1)) := by assumption
          rw [List.take_append_drop] at h9; exact h9
        have hB : StrsAre (ys' ++ ws.drop ((j : Nat) : Int).toNat) as := by
          have h9 : StrsAre (ys' ++ ws.drop ((j : Nat) : Int).toNat) (as.take j ++ as.drop j) := by assumption
          rw [List.take_append_drop] at h9; exact h9
        rename News g' L' _ _ => NF
        rename Fr g' L' _ _ => FF
        obtain ⟨N2, ne2⟩ := sd_fin NF (by assumption) (.head _) (U := U) (M := M) (A1 := A1) (A2 := A2) (by k_mem) (by k_mem) (by k_mem) (by k_mem) (by k_mem) ⟨_, _, rfl⟩ ⟨_, _, rfl⟩ ⟨_, _, rfl⟩ ⟨_, _, rfl⟩ ⟨_, _, rfl⟩
        obtain ⟨Fb, Nb⟩ := back' _ _ _ _ FF N2 ne2
        exact hret _ _ _ _ ⟨_, M, U, _, _, _, _, rfl, hA, hB, rfl⟩ Fb Nb
      | some x' =>
        have hne := next_ne hn1 hx hx2
        have hlt : i + 1 < es.length := (List.getElem?_eq_some_iff.mp hx2).1
        k_steps
        exact ⟨_, _, _, _, (es.length - (i + 1)) + (as.length - j), rfl, F₂, N₂, by omega, ⟨(i + 1), j, _, _, _, _, _, _, _, _, _, frm_set' (frm_set' (frm_set' rfl)), rfl, hI5, hI4, tiF, hlt, hj, rfl⟩⟩
    · repeat ((fail_if_success (with_reducible show wpAny _ _ (exec (Stmt.While _ _ _ _) _) _ _ _)); (first | (k_unfold; (try dsimp only)) | walk1 | (dsimp only; walk1)))
      · rename Fr g' L' _ _ => FI
        rename News g' L' _ _ => NI
        obtain ⟨zs, hI5, NI⟩ := pushS0 NI hI4
        rw [take_snoc hy] at hI5
        clear hI4
        have l5 : (as.take (j + 1)).length ≤ 6 := by rw [List.length_take]; omega
        refine While_inv2 (fun _ mm nw => mm = _ ∧ nw = _) (n₀ := 0) FI NI ⟨rfl, rfl⟩ ?_
        rintro _ m₂ nw₂ h₂ tk₂ F₂ N₂ ⟨rfl, rfl⟩
        clear FI NI
        cases hx2 : as[(((j : Nat) : Int) + 1).toNat]? with
        | none =>
          k_steps
          dsimp only [WhileStep2]
          k_steps
          show Q _ _
          have hA : StrsAre (xs' ++ vs.drop ((i : Nat) : Int).toNat) es := by
            have h9 : StrsAre (xs' ++ vs.drop ((i : Nat) : Int).toNat) (es.take i ++ es.drop i) := by assumption
            rw [List.take_append_drop] at h9; exact h9
          have hB : StrsAre (zs ++ ws.drop (((j : Nat) : Int) + 1).toNat) as := by
            have h9 : StrsAre (zs ++ ws.drop (((j : Nat) : Int) + 1).toNat) (as.take (j + 1) ++ as.drop (j + 1)) := by assumption
            rw [List.take_append_drop] at h9; exact h9
          rename News g' L' _ _ => NF
          rename Fr g' L' _ _ => FF
          obtain ⟨N2, ne2⟩ := sd_fin NF (by assumption) (.head _) (U := U) (M := M) (A1 := A1) (A2 := A2) (by k_mem) (by k_mem) (by k_mem) (by k_mem) (by k_mem) ⟨_, _, rfl⟩ ⟨_, _, rfl⟩ ⟨_, _, rfl⟩ ⟨_, _, rfl⟩ ⟨_, _, rfl⟩
          obtain ⟨Fb, Nb⟩ := back' _ _ _ _ FF N2 ne2
          exact hret _ _ _ _ ⟨_, M, U, _, _, _, _, rfl, hA, hB, rfl⟩ Fb Nb
        | some x' =>
          have hne := next_ne hn2 hy hx2
          have hlt : j + 1 < as.length := (List.getElem?_eq_some_iff.mp hx2).1
          k_steps
          exact ⟨_, _, _, _, (es.length - i) + (as.length - (j + 1)), rfl, F₂, N₂, by omega, ⟨i, (j + 1), _, _, _, _, _, _, _, _, _, frm_set' (frm_set' (frm_set' rfl)), rfl, hI3, hI5, tiF, hi, hlt, rfl⟩⟩

      · have q1 : ¬ x.cps.toList < y.cps.toList := by assumption
        have q2 : ¬ y.cps.toList < x.cps.toList := by assumption
        exact absurd (str_total q1 q2) hxy
-- Se
theorem quiet_Se : True := by
  w_top off
  trivial

theorem apart_of {B h : Heap} {L' T : Addr} {l : List (Addr × Obj)} (hn : h.get? T = none) (N : News B L' h l) : ∀ p ∈ l, p.1 ≠ T := fun p hp q => by
  have := (N p hp).1
  rw [q, hn] at this; cases this
theorem apart_map {T : Addr} {l1 l2 : List (Addr × Obj)} (h : ∀ p ∈ l1, p.1 ≠ T) (e : l2.map (·.1) = l1.map (·.1)) : ∀ p ∈ l2, p.1 ≠ T := fun p hp q => by
  have h1 : p.1 ∈ l1.map (·.1) := e ▸ List.mem_map_of_mem hp
  obtain ⟨r, hr, hrp⟩ := List.mem_map.mp h1
  exact h r hr (hrp.trans q)
set_option maxRecDepth 100000 in
set_option maxHeartbeats 8000000 in
set_option pp.deepTerms false in
set_option pp.maxSteps 30000 in
theorem sortedE_c : ∀ (w : World) (A1 A2 : Addr) (vs ws : List Value) (es : List Str) (n1 n2 : Nat) (_ : StrsAre vs es) (_ : StrsAre ws es) (_ : es.length ≤ 6) (_ : 1 ≤ es.length) (_ : es.Nodup) (_ : @LT.lt Nat _ A1 A2), Gx w 118 [.ref A1, .ref A2] 1 [(A1, W.listOf vs.toArray n1), (A2, W.listOf ws.toArray n2)] (fun v news' => ∃ T M U xs ys k l, v = .ref T ∧ StrsAre xs [] ∧ StrsAre ys [] ∧ news' = [(T, { cls := .type "tuple", data := .seq #[.ref M, .ref U] }), (U, W.listOf ys.toArray l), (M, W.listOf xs.toArray k), (A1, W.listOf vs.toArray n1), (A2, W.listOf ws.toArray n2)]) := by
  unfold Gx
  k_fill
  intro w A1 A2 vs ws es n1 n2 hI1 hI2 hl1 hp1 hn1 h12 mean mg mb dp un gd ce g L m news s Q E hcf hck hd hu X T F N hap hret
  refine wpAny_call ?_
  k_dflt (refine' enterX ?k3 ?k5 ?kF ?kN ?ka ?kc ?kk ?k6 ?k7 ?k8 ?k9 ?kB ?_ ?c2 ?c3 ?c4 ?c5; (case k3 => k_asm); (case k5 => k_asm); (case kF => exact F); (case kN => exact N); (case ka => exact hap); (case kc => exact hcf); (case kk => exact hck); (case k6 => k_is); (case k7 => k_is); (case k8 => (dsimp only; omega)); (case k9 => exact BindsTo.of_eq rfl); (case c5 => decide); (case kB => exact locs rfl); (case c2 => exact rfl); (case c3 => exact rfl); (case c4 => exact rfl); k_whole; intro g' L' h' tk' oL tiF' ne' lt1' lt2' X' T' F' N' back'; (try dsimp only); (try k_fold))
  clear X T F N
  replace F' := Fr.to F' (frm_of_lookup [(Str.ofString "actual", Value.ref A2), (Str.ofString "expected", Value.ref A1)])
  dsimp only [List.cons_append, List.nil_append] at N'
  have neA1 : @Ne Nat A1 L := ne'.1
  have neA2 : @Ne Nat A2 L := ne'.2.1
  have ltA1 : @LT.lt Nat _ A1 L' := lt1' _ (List.mem_cons_self ..)
  have ltA2 : @LT.lt Nat _ A2 L' := lt1' _ (List.mem_cons_of_mem _ (List.mem_cons_self ..))
  clear ne' lt1'
  repeat ((fail_if_success (with_reducible show wpAny _ _ (exec (Stmt.While _ _ _ _) _) _ _ _)); (first | (k_unfold; (try dsimp only)) | walk1 | (dsimp only; walk1)))
  rename_i _ _ M _ l1 _ _ U _ l2 hA FA NA
  replace FA : Fr g' L' hA (frm (sdFrame A1 A2 (some (.int 0 _)) (some (.int 0 _)) (some (.ref M)) (some (.ref U)) none none)) := Fr.to FA ((frm_set' (frm_set' (frm_set' (frm_set' rfl)))).trans ((frm_none (Str.ofString "e") _).trans (frm_none (Str.ofString "a") _)))
  obtain ⟨lM1, lM2, lM3⟩ := l1
  obtain ⟨lU0, lU1, lU2, lU3⟩ := l2
  refine While_inv2 (fun n mm nw => ∃ i iv jv ev av xs' ys' k l sl, mm = frm (sdFrame A1 A2 (some (.int ((i : Nat) : Int) iv)) (some (.int ((i : Nat) : Int) jv)) (some (.ref M)) (some (.ref U)) ev av) ∧ nw = [(U, W.listOf ys'.toArray l), (M, W.listOf xs'.toArray k), (A1, W.listOf vs.toArray n1), (A2, W.listOf ws.toArray n2), (L, { oL with slots := sl })] ∧ StrsAre xs' [] ∧ StrsAre ys' [] ∧ TI.Frs [ce] [(L, { oL with slots := sl })] ∧ i < es.length ∧ n = es.length - i) (n₀ := es.length) FA NA ⟨0, _, _, none, none, [], [], 0, 0, oL.slots, rfl, rfl, .nil, .nil, tiF', hp1, rfl⟩ ?turn (hE := fun _ _ h => h.elim)
  case turn =>
    clear FA NA tiF'
    intro n m₁ news₁ h₁ tk₁ F₁ N₁ hJ
    obtain ⟨i, iv, jv, ev, av, xs', ys', k, l, sl, rfl, rfl, hI3, hI4, tiF, hi, rfl⟩ := hJ
    obtain ⟨x, hx⟩ : ∃ x, es[((i : Nat) : Int).toNat]? = some x := ⟨_, List.getElem?_eq_getElem hi⟩
    have hirr : ¬ x.cps.toList < x.cps.toList := List.lt_irrefl _
    repeat ((fail_if_success (with_reducible show wpAny _ _ (exec (Stmt.While _ _ _ _) _) _ _ _)); (first | (k_unfold; (try dsimp only)) | walk1 | (dsimp only; walk1)))
    rename Fr g' L' _ _ => FI
    rename News g' L' _ _ => NI
    refine While_inv2 (fun _ mm nw => mm = _ ∧ nw = _) (n₀ := 0) FI NI ⟨rfl, rfl⟩ ?_
    rintro _ m₂ nw₂ h₂ tk₂ F₂ N₂ ⟨rfl, rfl⟩
    clear FI NI
    cases hx2 : es[(((i : Nat) : Int) + 1).toNat]? with
    | none =>
      repeat ((fail_if_success (with_reducible show wpAny _ _ (subscriptTail _ _ _ _) _ _ _)); (first | (k_unfold; (try dsimp only)) | walk1 | (dsimp only; walk1)))
      refine item_out rfl (News.isList N₂ (by k_mem)) hI1 hx2 (by omega) (by omega) fun h3 tk3 e1 x3 => ?_
      have kL' := F₂.ns
      have F3 := F₂.keeps x3.keeps
      have N3 := N₂.grown x3.keeps
      obtain ⟨ob1, tp1, he1, hc1, hd1⟩ := x3.there
      have N3' := newsRet F₂ N3 x3.new he1
      have ap1 : ∀ p ∈ [(U, W.listOf ys'.toArray l), (M, W.listOf xs'.toArray k), (A1, W.listOf vs.toArray n1), (A2, W.listOf ws.toArray n2)], p.1 ≠ e1 := fun p hp q => by
        have h9 := (N₂ p (List.mem_append_left [(L, ({ oL with slots := sl } : Obj))] hp)).1
        rw [q, x3.new] at h9; cases h9
      have neL : TLg.AllNe L [(U, W.listOf ys'.toArray l), (M, W.listOf xs'.toArray k), (A1, W.listOf vs.toArray n1), (A2, W.listOf ws.toArray n2)] := ⟨Nat.ne_of_gt lU3, Nat.ne_of_gt lM3, neA1, neA2, trivial⟩
      refine note_first (new := [(U, W.listOf ys'.toArray l), (M, W.listOf xs'.toArray k), (A1, W.listOf vs.toArray n1), (A2, W.listOf ws.toArray n2)]) rfl rfl (by show ScopeKind.function ≠ ScopeKind.module; decide) tiF F3 N3' neL hd1 rfl ap1 fun h4 T1 oT1 ts1 sl1 oe5 F4 tiF4 hT1n hdT1 hf1 hc4 hd4 N4 => ?_
      clear F₂ N₂ F3 N3 tiF
      have hE4 := (N4 _ (List.mem_cons_of_mem _ (List.mem_cons_self ..))).1
      have hT4 := (N4 _ (List.mem_cons_self ..)).1
      refine ⟨ref_ne_byPass _, note_again rfl hE4 hd4 rfl hT4 hdT1 hf1 (flight_set (ts := ts1) F4 N4 ?_ hE4 hd4 rfl hdT1 hf1 fun h5 oT5 F5 hdT5 N5 => ?_)⟩
      · exact apart_map (apart_of hT1n N3') rfl
      have ap5 := apart_map (apart_of hT1n N3') (T := T1) (l2 := (e1, oe5) :: ([(U, W.listOf ys'.toArray l), (M, W.listOf xs'.toArray k), (A1, W.listOf vs.toArray n1), (A2, W.listOf ws.toArray n2)] ++ [(L, { oL with slots := sl1 })])) rfl
      clear F4 N4 hE4 hT4
      dsimp only [List.cons_append, List.nil_append] at N5 ap5
      clear N3' ap1 hT1n he1
      have hneT1e1 : e1 ≠ T1 := ap5 _ (List.mem_cons_self ..)
      repeat ((fail_if_success (with_reducible show wpAny _ _ (exec (Stmt.While _ _ _ _) _) _ _ _)); (first | (k_unfold; (try dsimp only)) | walk1 | (dsimp only; walk1)))
      rename Fr g' L' _ _ => FI
      rename News g' L' _ _ => NI
      refine While_inv2 (fun _ mm nw => mm = _ ∧ nw = _) (n₀ := 0) FI NI ⟨rfl, rfl⟩ ?_ (hE := PassesOwn.looking)
      rintro _ m₂ nw₂ h6 tk6 F6 N6 ⟨rfl, rfl⟩
      clear FI NI
      repeat ((fail_if_success (with_reducible show wpAny _ _ (subscriptTail _ _ _ _) _ _ _)); (first | (k_unfold; (try dsimp only)) | walk1 | (dsimp only; walk1)))
      have hsz2 : (ws.toArray.size : Int) ≤ ((i : Nat) : Int) + 1 := by
        have := List.getElem?_eq_none_iff.mp hx2
        rw [List.size_toArray, hI2.length]; omega
      refine item_out_ctx (o1 := oe5) rfl (N6.get (List.mem_cons_of_mem _ (List.mem_cons_self ..))) hd4 rfl (News.isList N6 (by k_mem)) hsz2 (by omega) fun h7 tk7 e2 x7 => ?_
      have F7 := F6.keeps x7.keeps
      have N7 := N6.grown x7.keeps
      obtain ⟨ob2, tp2, he2, hc2, hd2⟩ := x7.there
      have N7' := newsRet F6 N7 x7.new he2
      have ap7 : ∀ p ∈ [(T1, oT5), (e1, oe5), (U, W.listOf ys'.toArray l), (M, W.listOf xs'.toArray k), (A1, W.listOf vs.toArray n1), (A2, W.listOf ws.toArray n2)], p.1 ≠ e2 := fun p hp => apart_of x7.new N6 p (List.mem_append_left [(L, ({ oL with slots := sl1 } : Obj))] hp)
      have hLm := tiF4.2.2.1
      obtain ⟨dLe, dLp, hLd⟩ := hLm
      have hLd' : ({ oL with slots := sl1 } : Obj).data = .dict dLe dLp := hLd
      have hLg := N6.get (show (L, ({ oL with slots := sl1 } : Obj)) ∈ _ by k_mem)
      have neT : T1 ≠ L := ne_of_data (N6.get (List.mem_cons_self ..)) hLg (by rw [hdT5, hLd']; intro q; cases q)
      have neE : e1 ≠ L := ne_of_data (N6.get (List.mem_cons_of_mem _ (List.mem_cons_self ..))) hLg (by rw [hd4, hLd']; intro q; cases q)
      refine note_first (new := [(T1, oT5), (e1, oe5), (U, W.listOf ys'.toArray l), (M, W.listOf xs'.toArray k), (A1, W.listOf vs.toArray n1), (A2, W.listOf ws.toArray n2)]) rfl rfl (by show ScopeKind.function ≠ ScopeKind.module; decide) tiF4 F7 N7' ⟨neT, neE, neL⟩ hd2 rfl ap7 fun h8 T2 oT2 ts2 sl2 oe8 F8 tiF8 hT2n hdT2 hf2 hc8 hd8 N8 => ?_
      have ap8 := apart_map (apart_of hT2n N7') (T := T2) (l2 := (e2, oe8) :: ([(T1, oT5), (e1, oe5), (U, W.listOf ys'.toArray l), (M, W.listOf xs'.toArray k), (A1, W.listOf vs.toArray n1), (A2, W.listOf ws.toArray n2)] ++ [(L, { oL with slots := sl2 })])) rfl
      have hE8 := (N8 _ (List.mem_cons_of_mem _ (List.mem_cons_self ..))).1
      have hs2 : 3 < ts2.size := (Array.getElem?_eq_some_iff.mp hf2).1
      refine wpAny_bind (wpAny_field hE8 hd8 rfl ?_)
      rw [if_neg (by simp)]
      refine flight_set (fr := some L') F8 N8 ap8 hE8 hd8 rfl hdT2 hf2 fun h9 oT9 F9 hdT9 N9 => ?_
      have hE9 := (N9 _ (List.mem_cons_of_mem _ (List.mem_cons_self ..))).1
      have hT9 := (N9 _ (List.mem_cons_self ..)).1
      have hf9 : (ts2.setIfInBounds 3 ((some L').elim Value.none fun f => rawInt f))[3]? = some (rawInt L') := by simp [hs2]
      refine note_again rfl hE9 hd8 rfl hT9 hdT9 hf9 ?_
      refine flight_set (fr := none) F9 N9 ap8 hE9 hd8 rfl hdT9 hf9 fun h10 oT10 F10 hdT10 N10 => ?_
      have hE10 := (N10 _ (List.mem_cons_of_mem _ (List.mem_cons_self ..)))
      have hT10 := (N10 _ (List.mem_cons_self ..))
      have N11 : News g' L' h10 [(U, W.listOf ys'.toArray l), (M, W.listOf xs'.toArray k), (A1, W.listOf vs.toArray n1), (A2, W.listOf ws.toArray n2), (L, { oL with slots := sl2 })] := cb_drop N10 fun p hp => List.mem_cons_of_mem _ (List.mem_cons_of_mem _ (List.mem_cons_of_mem _ (List.mem_cons_of_mem _ hp)))
      have hf10 : ((ts2.setIfInBounds 3 ((some L').elim Value.none fun f => rawInt f)).setIfInBounds 3 ((none : Option Addr).elim Value.none fun f => rawInt f))[3]? = some Value.none := by simp [hs2]
      have HN : TT.HeldNA g' L' h10 _ e2 "IndexError" [(U, W.listOf ys'.toArray l), (M, W.listOf xs'.toArray k), (A1, W.listOf vs.toArray n1), (A2, W.listOf ws.toArray n2), (L, { oL with slots := sl2 })] Value.none := ⟨⟨F10, ⟨oe8, _, T2, oT10, _, hE10.1, hc8.trans hc2, hd8, rfl, hT10.1, hdT10, hf10, hT10.2.1, fun q => ap8 _ (List.mem_cons_self ..) q.symm, hT10.2.2⟩, hE10.2.2⟩, N11, fun ob ws' tb q1 q2 q3 p hp => ?_⟩
      rotate_left
      · rw [hE10.1] at q1
        cases q1
        rw [hd8] at q2
        cases q2
        have q4 : some (Value.ref T2) = some (.ref tb) := q3
        cases q4
        exact ap8 p (List.mem_cons_of_mem _ (List.mem_cons_of_mem _ (List.mem_cons_of_mem _ hp)))
      clear N8 N9 N10 N11 F8 F9 F10 hE8 hE9 hT9 hE10 hT10 ap8 ap7 ap5 N7' N7 F7 N6 F6 hdT10 hdT9 hd8 hdT2
      k_steps
      dsimp only [WhileStep2]
      k_steps
      show Q _ _
      have e0 : es.drop (((i : Nat) : Int) + 1).toNat = [] := List.drop_eq_nil_of_le (List.getElem?_eq_none_iff.mp hx2)
      have hA : StrsAre (xs' ++ vs.drop (((i : Nat) : Int) + 1).toNat) [] := by
        have h9 : StrsAre (xs' ++ vs.drop (((i : Nat) : Int) + 1).toNat) ([] ++ es.drop (((i : Nat) : Int) + 1).toNat) := by assumption
        rw [e0] at h9; exact h9
      have hB : StrsAre (ys' ++ ws.drop (((i : Nat) : Int) + 1).toNat) [] := by
        have h9 : StrsAre (ys' ++ ws.drop (((i : Nat) : Int) + 1).toNat) ([] ++ es.drop (((i : Nat) : Int) + 1).toNat) := by assumption
        rw [e0] at h9; exact h9
      rename News g' L' _ _ => NF
      rename Fr g' L' _ _ => FF
      obtain ⟨N2, ne2⟩ := sd_fin NF tiF8 (.head _) (U := U) (M := M) (A1 := A1) (A2 := A2) (by k_mem) (by k_mem) (by k_mem) (by k_mem) (by k_mem) ⟨_, _, rfl⟩ ⟨_, _, rfl⟩ ⟨_, _, rfl⟩ ⟨_, _, rfl⟩ ⟨_, _, rfl⟩
      obtain ⟨Fb, Nb⟩ := back' _ _ _ _ FF N2 ne2
      exact hret _ _ _ _ ⟨_, M, U, _, _, _, _, rfl, hA, hB, rfl⟩ Fb Nb
    | some x' =>
      have hne := next_ne hn1 hx hx2
      have hlt : i + 1 < es.length := (List.getElem?_eq_some_iff.mp hx2).1
      repeat ((fail_if_success (with_reducible show wpAny _ _ (exec (Stmt.While _ _ _ _) _) _ _ _)); (first | (k_unfold; (try dsimp only)) | walk1 | (dsimp only; walk1)))
      rename Fr g' L' _ _ => FI
      rename News g' L' _ _ => NI
      refine While_inv2 (fun _ mm nw => mm = _ ∧ nw = _) (n₀ := 0) FI NI ⟨rfl, rfl⟩ ?_
      rintro _ m₂ nw₂ h₄ tk₄ F₄ N₄ ⟨rfl, rfl⟩
      clear FI NI
      k_steps
      exact ⟨_, _, _, _, es.length - (i + 1), rfl, F₄, N₄, by omega, ⟨i + 1, _, _, _, _, _, _, _, _, _, frm_set' (frm_set' (frm_set' (frm_set' rfl))), rfl, hI3, hI4, tiF, hlt, rfl⟩⟩
end Mine
end
section -- Tm
theorem Mine.quiet_Tm : True := by
  w_top off
  trivial
open PySem PySem.W PyProof.Rows PySem.Calls
namespace Mine
def Mir (ns : List Int) (c : Nat) : Prop := ns.take c = (ns.take c).reverse ∧ ns.drop c = (ns.drop c).reverse
def TwoMir (ns : List Int) : Prop := ∃ c, c < ns.length ∧ Mir ns c
def tmFrame (l : Addr) (cv : Option Value) : List (Str × Option Value) := [(Str.ofString "row", some (.ref l)), (Str.ofString "cut", cv)]

set_option maxRecDepth 100000 in
set_option maxHeartbeats 8000000 in
set_option pp.deepTerms false in
set_option pp.maxSteps 30000 in
theorem mirrors_c : ∀ (w : World) (l : Addr) (vs : List Value) (ns : List Int) (_ : IntsAre vs ns) (_ : ns.length ≤ 6), Gh w 158 [.ref l] 1 (fun h => h.IsList l vs.toArray) (fun v _ _ => ∃ b, v = .bool b ∧ (b = true ↔ TwoMir ns)) := by
  unfold Gh
  k_fill
  intro w l vs ns hI hlen mean mg mb dp un gd fr s Q E hd hu X T hL hret
  refine wpAny_call ?_
  k_dflt (refine' enter0 ?k3 ?k5 ?k6 ?k7 ?k8 ?k9 ?kB ?_ ?c2 ?c3 ?c4 ?c5; (case k3 => k_asm); (case k5 => k_asm); (case k6 => k_is); (case k7 => k_is); (case k8 => (dsimp only; omega)); (case k9 => exact BindsTo.of_eq rfl); (case c5 => decide); (case kB => exact locs rfl); (case c2 => exact rfl); (case c3 => exact rfl); (case c4 => exact rfl); k_whole; intro g' L' h' tk' G' F' N' X' T'; (try dsimp only); (try k_fold))
  clear X T
  replace F' := Fr.to F' ((frm_of_lookup [(Str.ofString "row", Value.ref l)]).trans (frm_none "cut" _))
  replace F' : Fr g' L' h' (frm (tmFrame l none)) := F'
  replace hL : g'.IsList l vs.toArray := hL.at fun o e => G' _ _ e
  repeat ((fail_if_success (with_reducible show wpAny _ _ (exec (Stmt.For _ _ _ _ _) _) _ _ _)); (first | (k_unfold; (try dsimp only)) | walk1 | (dsimp only; walk1)))
  refine wpAny_For (hs := ?hs) ?_
  case hs => intro _; rfl
  repeat ((fail_if_success (with_reducible show wpAny _ _ (call (Value.type "range") _) _ _ _)); (first | (k_unfold; (try dsimp only)) | walk1 | (dsimp only; walk1)))
  refine range_loop (n := ns.length) (by omega) rfl F' N' (fun i m news => (∃ cv, m = frm (tmFrame l cv)) ∧ news = [] ∧ ∀ q, q < i → ¬ Mir ns q) ⟨⟨_, rfl⟩, rfl, fun q h => absurd h (Nat.not_lt_zero q)⟩ ?step ?hend
  case step =>
    intro I i u m₁ news₁ h₁ tk₁ o hlt hi hJ hoff F₁ N₁
    obtain ⟨⟨cv, rfl⟩, rfl, hno⟩ := hJ
    replace F₁ : Fr g' L' h₁ (frm (tmFrame l cv)) := F₁
    replace N₁ : News g' L' h₁ [(I, o)] := N₁
    have go : ¬ Mir ns i → ∀ q, q < i + 1 → ¬ Mir ns q := fun h q h2 => by
      rcases Nat.lt_succ_iff_lt_or_eq.mp h2 with h2 | rfl
      · exact hno q h2
      · exact h
    k_steps
    · show Q _ _
      exact hret _ _ _ ⟨true, rfl, iff_of_true rfl ⟨i, hi, by assumption, by assumption⟩⟩ (fun b o e => Fr.keep (by k_asm) b o (G' b o e))
    · have hx : ¬List.drop (i : Int).toNat ns = (List.drop (i : Int).toNat ns).reverse := by assumption
      exact ⟨_, _, _, [], rfl, by k_asm, cb_drop (by k_asm) (fun p hp => by rw [List.mem_singleton.mp hp]; k_mem), (fun _ hp => by cases hp), ⟨some _, frm_set' rfl⟩, rfl, go fun h => hx h.2⟩
    · have hx : ¬List.take (i : Int).toNat ns = (List.take (i : Int).toNat ns).reverse := by assumption
      exact ⟨_, _, _, [], rfl, by k_asm, cb_drop (by k_asm) (fun p hp => by rw [List.mem_singleton.mp hp]; k_mem), (fun _ hp => by cases hp), ⟨some _, frm_set' rfl⟩, rfl, go fun h => hx h.1⟩
  case hend =>
    intro h₄ tk₄ m₄ news₄ F₄ N₄ hJ
    obtain ⟨⟨cv, rfl⟩, rfl, hno⟩ := hJ
    replace F₄ : Fr g' L' h₄ (frm (tmFrame l cv)) := F₄
    replace N₄ : News g' L' h₄ [] := N₄
    k_steps
    show Q _ _
    exact hret _ _ _ ⟨false, rfl, iff_of_false Bool.false_ne_true fun ⟨c, hc, hm⟩ => hno c hc hm⟩ (fun b o e => Fr.keep (by k_asm) b o (G' b o e))
end Mine
end
section -- Lc0
open PySem PySem.W PyProof.Rows PySem.Calls
namespace Mine
theorem lookup_use {K : Frag} {f : Addr} {o o2 : Obj} {P : Prop} (h1 : K.lookup f = some o) (h2 : K.lookup f = some o2) (h : o = o2 → P) : P := h (Option.some.inj (h1.symm.trans h2))
theorem ints_at : ∀ {vs : List Value} {ys : List Int}, IntsAre vs ys → ∀ {j : Nat} {y : Int}, ys[j]? = some y → ∃ t, vs[j]? = some (.int y t)
  | _, _, .cons k t r, 0, y, h => by cases h; exact ⟨t, rfl⟩
  | _, _, .cons k t r, j + 1, y, h => ints_at r (j := j) h
theorem iter_list {prog : Program} {w : World} {A : Around} {E : Value → Shared → Prop} {s : Shared} {ax : Addr} {its : Array Value} {P : Value → Shared → Prop} (hl : s.heap.IsList ax its)
    (h : P (.ref s.heap.objs.size) { s with heap := s.heap.push { cls := .type "list_iterator", data := .fields #[.ref ax, .int 0 0] } }) :
    wpAny (model prog w) A (pyIter (.ref ax)) P E s := by
  refine wpAny_pyIter_list hl ?_
  exact h
def labS (k : Int) : Str := ⟨(fmUpTo k 10).toArray⟩
theorem joinShort {ss : List Str} (h : ∀ x ∈ ss, x.length ≤ 20) (hl : ss.length ≤ 6) : (Txt.join (Str.ofString ".") ss).length ≤ 200 := by
  show (Builtin.Str.glued _ ss).length ≤ 200
  rw [size_glued]
  have := sumLen h
  have e : (Str.ofString ".").length = 1 := rfl
  rw [e]; omega
theorem fmUpTo_len (k : Int) : (fmUpTo k 10).length = 10 := by
  unfold fmUpTo; simp only [List.length_map, List.length_take]; rfl
theorem labS_len (k : Int) : (labS k).length = 10 := by
  show (fmUpTo k 10).toArray.size = 10
  rw [List.size_toArray, fmUpTo_len]
end Mine
end
section -- Bl
open PySem PySem.W PyProof.Rows PySem.Calls
namespace Mine
theorem and_bit (m i : Nat) : m &&& 2 ^ i = if m.testBit i then 2 ^ i else 0 := by
  refine Nat.eq_of_testBit_eq fun j => ?_
  rw [Nat.testBit_and, Nat.testBit_two_pow]
  by_cases h : i = j
  · subst h
    cases hb : m.testBit i
    · simp
    · simp [Nat.testBit_two_pow_self]
  · rw [decide_eq_false h, Bool.and_false]
    split
    · exact (Nat.testBit_two_pow_of_ne h).symm
    · exact (Nat.zero_testBit _).symm
theorem bit_div (m i : Nat) : m / 2 ^ i % 2 = (m.testBit i).toNat := by
  rw [Nat.testBit_eq_decide_div_mod_eq]
  have : m / 2 ^ i % 2 < 2 := Nat.mod_lt _ (by decide)
  by_cases h : m / 2 ^ i % 2 = 1
  · rw [decide_eq_true h, h]; rfl
  · rw [decide_eq_false h]; show _ = 0; omega
theorem modS (m i : Nat) : m % 2 ^ (i + 1) = m % 2 ^ i + 2 ^ i * (m.testBit i).toNat := by rw [Nat.mod_pow_succ, bit_div]
theorem bandN (m : Nat) (b : Nat) : Builtin.bitAnd (m : Int) (b : Int) = ((m &&& b : Nat) : Int) := by
  rw [bitAnd_pp (by omega) (by omega), Int.toNat_natCast, Int.toNat_natCast]
theorem t1 (m i b : Nat) (hb : b = 2 ^ i) (hi : b ≠ 0) : decide (Builtin.bitAnd (m : Int) (b : Int) = (b : Int)) = m.testBit i := by
  rw [bandN, hb, and_bit]
  cases m.testBit i
  · rw [if_neg Bool.false_ne_true]
    refine decide_eq_false fun h => hi ?_
    rw [hb]; omega
  · rw [if_pos rfl]; exact decide_eq_true rfl
theorem t2 (m i j a b c : Nat) (ha : a = 2 ^ i) (hb : b = 2 ^ j) (hc : c = a ||| b) (h1 : (a ||| 0 = c) = False) (h2 : (0 ||| b = c) = False) (h3 : (0 ||| 0 = c) = False) : decide (Builtin.bitAnd (m : Int) (c : Int) = (c : Int)) = (m.testBit i && m.testBit j) := by
  rw [bandN]
  have e : m &&& c = (if m.testBit i then a else 0) ||| (if m.testBit j then b else 0) := by rw [hc, Nat.and_or_distrib_left, ha, hb, and_bit, and_bit]
  rw [e]
  cases m.testBit i <;> cases m.testBit j <;> simp only [Bool.false_eq_true, if_true, if_false, Bool.and_true, Bool.and_false, Bool.and_self]
  · exact decide_eq_false fun h => by rw [← h3]; omega
  · exact decide_eq_false fun h => by rw [← h2]; omega
  · exact decide_eq_false fun h => by rw [← h1]; omega
  · exact decide_eq_true (by rw [hc])
theorem four_bits : ∀ K, K < 16 → K = 8 * (K.testBit 3).toNat + 4 * (K.testBit 2).toNat + 2 * (K.testBit 1).toNat + (K.testBit 0).toNat := by decide
theorem tk {m : Nat} (hm : m < 65536) : Builtin.bitAnd (m : Int) 61440 = ((m / 4096 * 4096 : Nat) : Int) := by
  show Builtin.bitAnd (m : Int) ((61440 : Nat) : Int) = _
  rw [bandN]
  have e : m &&& 61440 = ((if m.testBit 15 then 32768 else 0) ||| (if m.testBit 14 then 16384 else 0)) ||| ((if m.testBit 13 then 8192 else 0) ||| (if m.testBit 12 then 4096 else 0)) := by
    rw [show (61440 : Nat) = (2 ^ 15 ||| 2 ^ 14) ||| (2 ^ 13 ||| 2 ^ 12) by decide, Nat.and_or_distrib_left, Nat.and_or_distrib_left, Nat.and_or_distrib_left, and_bit, and_bit, and_bit, and_bit]
  have e2 : m / 4096 = 8 * (m.testBit 15).toNat + 4 * (m.testBit 14).toNat + 2 * (m.testBit 13).toNat + (m.testBit 12).toNat := by
    have h := four_bits (m / 2 ^ 12) (Nat.div_lt_of_lt_mul hm)
    rwa [Nat.testBit_div_two_pow, Nat.testBit_div_two_pow, Nat.testBit_div_two_pow, Nat.testBit_div_two_pow] at h
  rw [e, e2]
  cases m.testBit 15 <;> cases m.testBit 14 <;> cases m.testBit 13 <;> cases m.testBit 12 <;> decide
def kLet (k : Nat) : Nat := if k = 10 then 108 else if k = 12 then 115 else if k = 8 then 45 else if k = 6 then 98 else if k = 4 then 100 else if k = 2 then 99 else if k = 1 then 112 else 63
def bLet (c : Nat) (b : Bool) : Nat := if b then c else 45
def sLet (c d : Nat) (x y : Bool) : Nat := if x && y then c else if x then d else if y then 120 else 45
theorem kTest {m : Nat} (hm : m < 65536) (b : Nat) (c : Int) (hc : c = ((b * 4096 : Nat) : Int)) : decide (Builtin.bitAnd (m : Int) 61440 = c) = decide (m / 4096 = b) := by
  rw [tk hm, hc, decide_eq_decide]; omega
theorem fm_letters {m : Nat} (hm : m < 65536) : fmUpTo (m : Int) 10 = [kLet (m / 4096), bLet 114 (m.testBit 8), bLet 119 (m.testBit 7), sLet 115 83 (m.testBit 11) (m.testBit 6), bLet 114 (m.testBit 5), bLet 119 (m.testBit 4), sLet 115 83 (m.testBit 10) (m.testBit 3), bLet 114 (m.testBit 2), bLet 119 (m.testBit 1), sLet 116 84 (m.testBit 9) (m.testBit 0)] := by
  have h8 : decide (Builtin.bitAnd (m : Int) 256 = 256) = m.testBit 8 := t1 m 8 256 rfl (by decide)
  have h7 : decide (Builtin.bitAnd (m : Int) 128 = 128) = m.testBit 7 := t1 m 7 128 rfl (by decide)
  have h11 : decide (Builtin.bitAnd (m : Int) 2048 = 2048) = m.testBit 11 := t1 m 11 2048 rfl (by decide)
  have h6 : decide (Builtin.bitAnd (m : Int) 64 = 64) = m.testBit 6 := t1 m 6 64 rfl (by decide)
  have h5 : decide (Builtin.bitAnd (m : Int) 32 = 32) = m.testBit 5 := t1 m 5 32 rfl (by decide)
  have h4 : decide (Builtin.bitAnd (m : Int) 16 = 16) = m.testBit 4 := t1 m 4 16 rfl (by decide)
  have h10 : decide (Builtin.bitAnd (m : Int) 1024 = 1024) = m.testBit 10 := t1 m 10 1024 rfl (by decide)
  have h3 : decide (Builtin.bitAnd (m : Int) 8 = 8) = m.testBit 3 := t1 m 3 8 rfl (by decide)
  have h2 : decide (Builtin.bitAnd (m : Int) 4 = 4) = m.testBit 2 := t1 m 2 4 rfl (by decide)
  have h1 : decide (Builtin.bitAnd (m : Int) 2 = 2) = m.testBit 1 := t1 m 1 2 rfl (by decide)
  have h9 : decide (Builtin.bitAnd (m : Int) 512 = 512) = m.testBit 9 := t1 m 9 512 rfl (by decide)
  have h0 : decide (Builtin.bitAnd (m : Int) 1 = 1) = m.testBit 0 := t1 m 0 1 rfl (by decide)
  have g1 : decide (Builtin.bitAnd (m : Int) 2112 = 2112) = (m.testBit 11 && m.testBit 6) := t2 m 11 6 2048 64 2112 rfl rfl rfl (by simp) (by simp) (by simp)
  have g2 : decide (Builtin.bitAnd (m : Int) 1032 = 1032) = (m.testBit 10 && m.testBit 3) := t2 m 10 3 1024 8 1032 rfl rfl rfl (by simp) (by simp) (by simp)
  have g3 : decide (Builtin.bitAnd (m : Int) 513 = 513) = (m.testBit 9 && m.testBit 0) := t2 m 9 0 512 1 513 rfl rfl rfl (by simp) (by simp) (by simp)
  have k1 := kTest hm 10 40960 rfl
  have k2 := kTest hm 12 49152 rfl
  have k3 := kTest hm 8 32768 rfl
  have k4 := kTest hm 6 24576 rfl
  have k5 := kTest hm 4 16384 rfl
  have k6 := kTest hm 2 8192 rfl
  have k7 := kTest hm 1 4096 rfl
  unfold fmUpTo fmRows
  simp only [List.zipIdx_cons, List.zipIdx_nil, List.take_succ_cons, List.take_zero, List.map_cons, List.map_nil, Nat.zero_add, Nat.reduceAdd]
  simp only [fmPick, fmT]
  simp only [if_true, Nat.reduceEqDiff, if_false, Nat.succ_ne_self]
  simp only [h0, h1, h2, h3, h4, h5, h6, h7, h8, h9, h10, h11, g1, g2, g3, k1, k2, k3, k4, k5, k6, k7, decide_eq_true_eq]
  rfl
/-- what is seen of a mode: its kind (0 if unknown) and twelve bits -/
def seenK (k : Nat) : Nat := if k = 1 ∨ k = 2 ∨ k = 4 ∨ k = 6 ∨ k = 8 ∨ k = 10 ∨ k = 12 then k else 0
theorem seenK_all : ∀ K, K < 16 → (if ([1, 2, 4, 6, 8, 10, 12].any fun x => x == ((K : Nat) : Int)) = true then ((K : Nat) : Int) * 4096 else 0) = ((seenK K * 4096 : Nat) : Int) := by decide
def seenB (m : Nat) : List Bool := [m.testBit 11, m.testBit 10, m.testBit 9, m.testBit 8, m.testBit 7, m.testBit 6 && !m.testBit 11, m.testBit 5, m.testBit 4, m.testBit 3 && !m.testBit 10, m.testBit 2, m.testBit 1, m.testBit 0 && !m.testBit 9]
def hv : Nat → List Bool → Nat
  | K, [] => K
  | K, b :: l => hv (2 * K + b.toNat) l
theorem hv_inj : ∀ {l l' : List Bool} {K K' : Nat}, l.length = l'.length → hv K l = hv K' l' → K = K' ∧ l = l'
  | [], [], _, _, _, h => ⟨h, rfl⟩
  | [], _ :: _, _, _, hl, _ => by cases hl
  | _ :: _, [], _, _, hl, _ => by cases hl
  | b :: l, c :: l', K, K', hl, h => by
    obtain ⟨h1, h2⟩ := hv_inj (l := l) (l' := l') (Nat.succ.inj hl) h
    have hb := Bool.toNat_le b
    have hc := Bool.toNat_le c
    have e : b.toNat = c.toNat := by omega
    refine ⟨by omega, ?_⟩
    have e2 : b = c := by revert e; cases b <;> cases c <;> decide
    rw [h2, e2]
theorem seen_hv {m : Nat} (hm : m < 65536) : seenZ (m : Int) = ((hv (seenK (m / 4096)) (seenB m) : Nat) : Int) := by
  have f1 : ∀ b : Nat, ((m : Int).fdiv (b : Int)) = ((m / b : Nat) : Int) := fun b => by rw [Int.fdiv_eq_ediv_of_nonneg _ (by omega)]; norm_cast
  have f2 : ∀ a b : Nat, ((a : Int).fmod (b : Int)) = ((a % b : Nat) : Int) := fun a b => by rw [Int.fmod_eq_emod_of_nonneg _ (by omega)]; norm_cast
  have st : ∀ (r : Int) (a b i j : Nat), a = 2 ^ i → b = 2 ^ j → seenStep (m : Int) r ((a : Int), (b : Int)) = r - (b : Int) * ((m.testBit i && m.testBit j).toNat : Nat) := by
    intro r a b i j ha hb
    unfold seenStep
    dsimp only
    rw [f1, f1, show (2 : Int) = ((2 : Nat) : Int) from rfl, f2, f2, ha, hb, bit_div, bit_div]
    cases m.testBit i <;> cases m.testBit j <;> simp
  have hr : seenRights (m : Int) 3 = ((m % 4096 : Nat) : Int) - 64 * ((m.testBit 11 && m.testBit 6).toNat : Nat) - 8 * ((m.testBit 10 && m.testBit 3).toNat : Nat) - 1 * ((m.testBit 9 && m.testBit 0).toNat : Nat) := by
    unfold seenRights seenPairs
    simp only [List.take_succ_cons, List.take_zero, List.foldl_cons, List.foldl_nil]
    have e1 := fun r => st r 2048 64 11 6 rfl rfl
    have e2 := fun r => st r 1024 8 10 3 rfl rfl
    have e3 := fun r => st r 512 1 9 0 rfl rfl
    have e4 : (m : Int).fmod 4096 = ((m % 4096 : Nat) : Int) := f2 m 4096
    rw [e4]
    have e1' : ∀ r, seenStep (m : Int) r (2048, 64) = _ := e1
    have e2' : ∀ r, seenStep (m : Int) r (1024, 8) = _ := e2
    have e3' : ∀ r, seenStep (m : Int) r (512, 1) = _ := e3
    rw [e1', e2', e3']; rfl
  have hk : (m : Int).fdiv 4096 = ((m / 4096 : Nat) : Int) := f1 4096
  have hK : (if ([1, 2, 4, 6, 8, 10, 12].any fun x => x == (m : Int).fdiv 4096) = true then (m : Int).fdiv 4096 * 4096 else 0) = ((seenK (m / 4096) * 4096 : Nat) : Int) := by
    rw [hk]
    exact seenK_all _ (Nat.div_lt_of_lt_mul hm)
  have hz : seenZ (m : Int) = ((seenK (m / 4096) * 4096 : Nat) : Int) + seenRights (m : Int) 3 := by
    rw [← hK]
    unfold seenZ
    split
    · rfl
    · rw [Int.zero_add]
  rw [hz, hr]
  unfold seenB
  simp only [hv]
  have hb : m % 4096 = 2048 * (m.testBit 11).toNat + 1024 * (m.testBit 10).toNat + 512 * (m.testBit 9).toNat + 256 * (m.testBit 8).toNat + 128 * (m.testBit 7).toNat + 64 * (m.testBit 6).toNat + 32 * (m.testBit 5).toNat + 16 * (m.testBit 4).toNat + 8 * (m.testBit 3).toNat + 4 * (m.testBit 2).toNat + 2 * (m.testBit 1).toNat + (m.testBit 0).toNat := by
    rw [show (4096 : Nat) = 2 ^ 12 from rfl, modS, modS, modS, modS, modS, modS, modS, modS, modS, modS, modS, modS, Nat.pow_zero, Nat.mod_one]
    clear hz hr hK hk st f1 f2
    generalize (m.testBit 0).toNat = x0
    generalize (m.testBit 1).toNat = x1
    generalize (m.testBit 2).toNat = x2
    generalize (m.testBit 3).toNat = x3
    generalize (m.testBit 4).toNat = x4
    generalize (m.testBit 5).toNat = x5
    generalize (m.testBit 6).toNat = x6
    generalize (m.testBit 7).toNat = x7
    generalize (m.testBit 8).toNat = x8
    generalize (m.testBit 9).toNat = x9
    generalize (m.testBit 10).toNat = x10
    generalize (m.testBit 11).toNat = x11
    omega
  have a1 : (m.testBit 6).toNat = (m.testBit 11 && m.testBit 6).toNat + (m.testBit 6 && !m.testBit 11).toNat := by cases m.testBit 11 <;> cases m.testBit 6 <;> rfl
  have a2 : (m.testBit 3).toNat = (m.testBit 10 && m.testBit 3).toNat + (m.testBit 3 && !m.testBit 10).toNat := by cases m.testBit 10 <;> cases m.testBit 3 <;> rfl
  have a3 : (m.testBit 0).toNat = (m.testBit 9 && m.testBit 0).toNat + (m.testBit 0 && !m.testBit 9).toNat := by cases m.testBit 9 <;> cases m.testBit 0 <;> rfl
  clear hz hr hK hk st f1 f2
  generalize (m.testBit 6 && !m.testBit 11).toNat = y6 at *
  generalize (m.testBit 3 && !m.testBit 10).toNat = y3 at *
  generalize (m.testBit 0 && !m.testBit 9).toNat = y0 at *
  generalize (m.testBit 11 && m.testBit 6).toNat = z6 at *
  generalize (m.testBit 10 && m.testBit 3).toNat = z3 at *
  generalize (m.testBit 9 && m.testBit 0).toNat = z0 at *
  generalize (m.testBit 0).toNat = x0 at *
  generalize (m.testBit 1).toNat = x1 at *
  generalize (m.testBit 2).toNat = x2 at *
  generalize (m.testBit 3).toNat = x3 at *
  generalize (m.testBit 4).toNat = x4 at *
  generalize (m.testBit 5).toNat = x5 at *
  generalize (m.testBit 6).toNat = x6 at *
  generalize (m.testBit 7).toNat = x7 at *
  generalize (m.testBit 8).toNat = x8 at *
  generalize (m.testBit 9).toNat = x9 at *
  generalize (m.testBit 10).toNat = x10 at *
  generalize (m.testBit 11).toNat = x11 at *
  generalize seenK (m / 4096) = K
  generalize m % 4096 = M at *
  omega
end Mine
end
section -- Cy
namespace Mine
universe u
section
variable {α : Type u}
/-- the ring read at any place, also below zero -/
def cyc (ns : List α) (i : Int) : Option α := ns[(i % (ns.length : Int)).toNat]?
def rotL (ns : List α) (k : Nat) : List α := ns.drop k ++ ns.take k
theorem cyc_at (ns : List α) {i : Nat} (h : i < ns.length) : cyc ns (i : Int) = ns[i]? := by
  unfold cyc
  rw [Int.emod_eq_of_lt (by omega) (by omega)]; rfl
theorem cyc_mod {ns : List α} {a b : Int} (h : a % (ns.length : Int) = b % (ns.length : Int)) : cyc ns a = cyc ns b := by
  unfold cyc; rw [h]
theorem cyc_add (ns : List α) (a k : Int) : cyc ns (a + ns.length * k) = cyc ns a := cyc_mod (Int.add_mul_emod_self_left ..)
theorem cyc_ext {xs ys : List α} (hl : xs.length = ys.length) (h : ∀ i, cyc xs i = cyc ys i) : xs = ys := by
  refine List.ext_getElem? fun i => ?_
  by_cases hi : i < xs.length
  · have := h (i : Int)
    rwa [cyc_at xs hi, cyc_at ys (hl ▸ hi)] at this
  · rw [List.getElem?_eq_none (by omega), List.getElem?_eq_none (by omega)]
/-- a place of the ring, as one of its items -/
theorem cyc_of (ns : List α) (h : 1 ≤ ns.length) (i : Int) : ∃ j : Nat, j < ns.length ∧ (j : Int) = i % (ns.length : Int) ∧ cyc ns i = ns[j]? := by
  have h0 : 0 ≤ i % (ns.length : Int) := Int.emod_nonneg _ (by omega)
  have h1 : i % (ns.length : Int) < ns.length := Int.emod_lt_of_pos _ (by omega)
  exact ⟨(i % (ns.length : Int)).toNat, by omega, by omega, rfl⟩
theorem rotL_length (ns : List α) (k : Nat) : (rotL ns k).length = ns.length := by
  unfold rotL; rw [List.length_append, List.length_drop, List.length_take]; omega
theorem rotL_get {ns : List α} {k i : Nat} (hk : k ≤ ns.length) (hi : i < ns.length) : (rotL ns k)[i]? = ns[(i + k) % ns.length]? := by
  unfold rotL
  by_cases h : i < ns.length - k
  · rw [List.getElem?_append_left (by rw [List.length_drop]; exact h), List.getElem?_drop, Nat.mod_eq_of_lt (by omega), Nat.add_comm]
  · rw [List.getElem?_append_right (by rw [List.length_drop]; omega), List.length_drop, List.getElem?_take_of_lt (by omega)]
    have : (i + k) % ns.length = i - (ns.length - k) := by
      rw [Nat.mod_eq_sub_mod (by omega), Nat.mod_eq_of_lt (by omega)]; omega
    rw [this]
theorem cyc_rot {ns : List α} (h : 1 ≤ ns.length) {k : Nat} (hk : k ≤ ns.length) (i : Int) : cyc (rotL ns k) i = cyc ns (i + k) := by
  obtain ⟨j, hj, ej, e⟩ := cyc_of (rotL ns k) (by rw [rotL_length]; exact h) i
  rw [rotL_length] at hj ej
  rw [e, rotL_get hk hj]
  unfold cyc
  congr 1
  have : (((j + k) % ns.length : Nat) : Int) = (i + k) % (ns.length : Int) := by
    rw [Int.natCast_emod, Int.natCast_add, ej, Int.emod_add_emod]
  omega
theorem cyc_rev {ns : List α} (h : 1 ≤ ns.length) (i : Int) : cyc ns.reverse i = cyc ns (-1 - i) := by
  obtain ⟨j, hj, ej, e⟩ := cyc_of ns.reverse (by rw [List.length_reverse]; exact h) i
  rw [List.length_reverse] at hj ej
  rw [e, List.getElem?_reverse hj]
  have h2 : ((ns.length - 1 - j : Nat) : Int) = (ns.length : Int) - 1 - j := by omega
  have : cyc ns (((ns.length - 1 - j : Nat) : Int)) = ns[ns.length - 1 - j]? := cyc_at ns (by omega)
  rw [← this, h2]
  refine cyc_mod ?_
  rw [ej]
  have h3 : (ns.length : Int) - 1 - i % (ns.length : Int) = (-1 - i) + (ns.length : Int) * (1 + i / (ns.length : Int)) := by
    have := Int.mul_ediv_add_emod i (ns.length : Int)
    rw [Int.mul_add, Int.mul_one]; omega
  rw [h3, Int.add_mul_emod_self_left]
/-- a period of the ring -/
def Per (ns : List α) (p : Int) : Prop := ∀ i, cyc ns (i + p) = cyc ns i
theorem Per.sub {ns : List α} {p q : Int} (hp : Per ns p) (hq : Per ns q) : Per ns (p - q) := fun i => by
  have h1 := hq (i + (p - q))
  rw [← h1, ← hp i]; congr 1; omega
theorem Per.zero (ns : List α) : Per ns 0 := fun i => by rw [Int.add_zero]
theorem Per.neg {ns : List α} {p : Int} (hp : Per ns p) : Per ns (-p) := by
  have := (Per.zero ns).sub hp
  rwa [Int.zero_sub] at this
theorem Per.add {ns : List α} {p q : Int} (hp : Per ns p) (hq : Per ns q) : Per ns (p + q) := by
  have := hp.sub hq.neg
  rwa [Int.sub_neg] at this
theorem Per.mulN {ns : List α} {p : Int} (hp : Per ns p) : ∀ k : Nat, Per ns (p * k)
  | 0 => by rw [Int.natCast_zero, Int.mul_zero]; exact Per.zero ns
  | k + 1 => by rw [Int.natCast_succ, Int.mul_add, Int.mul_one]; exact (hp.mulN k).add hp
theorem Per.mul {ns : List α} {p : Int} (hp : Per ns p) (k : Int) : Per ns (p * k) := by
  rcases Int.natAbs_eq k with h | h
  · rw [h]; exact hp.mulN _
  · rw [h, Int.mul_neg]; exact (hp.mulN _).neg
theorem Per.whole (ns : List α) : Per ns (ns.length : Int) := fun i => by
  have := cyc_add ns i 1
  rwa [Int.mul_one] at this
theorem Per.mod {ns : List α} {p q : Int} (hp : Per ns p) (hq : Per ns q) : Per ns (p % q) := by
  rw [Int.emod_def]; exact hp.sub (hq.mul _)
theorem Per.gcd {ns : List α} (a b : Nat) : Per ns a → Per ns b → Per ns (Nat.gcd a b : Nat) := by
  induction a, b using Nat.gcd.induction with
  | H0 b => intro _ h; rw [Nat.gcd_zero_left]; exact h
  | H1 a b _ ih =>
    intro ha hb
    rw [Nat.gcd_rec]
    refine ih ?_ ha
    rw [Int.natCast_emod]; exact hb.mod ha
theorem per_rot {ns : List α} (h : 1 ≤ ns.length) {k : Nat} (hk : k ≤ ns.length) : rotL ns k = ns ↔ Per ns k := by
  constructor
  · intro e i
    rw [← cyc_rot h hk, e]
  · intro e
    refine cyc_ext (rotL_length ..) fun i => ?_
    rw [cyc_rot h hk, e]
theorem Per.rev {ns : List α} (h : 1 ≤ ns.length) {p : Int} (hp : Per ns p) : Per ns.reverse p := fun i => by
  rw [cyc_rev h, cyc_rev h, ← hp (-1 - (i + p))]; congr 1; omega
/-- the ring is its first k items over and over -/
def RepG (ns : List α) (k : Nat) : Prop := ns.length % k = 0 ∧ ns = (List.replicate (ns.length / k) (ns.take k)).flatten
theorem flat_get {l : List α} {k : Nat} (hl : l.length = k) (hk : 1 ≤ k) : ∀ (m i : Nat), i < k * m → (List.replicate m l).flatten[i]? = l[i % k]?
  | 0, i, h => by rw [Nat.mul_zero] at h; omega
  | m + 1, i, h => by
    rw [List.replicate_succ, List.flatten_cons]
    rw [Nat.mul_succ] at h
    by_cases hi : i < k
    · rw [List.getElem?_append_left (by omega), Nat.mod_eq_of_lt hi]
    · rw [List.getElem?_append_right (by omega), hl, flat_get hl hk m (i - k) (by omega), ← Nat.mod_eq_sub_mod (by omega)]
theorem flat_len {l : List α} (m : Nat) : (List.replicate m l).flatten.length = m * l.length := by
  rw [List.length_flatten, List.map_replicate, List.sum_replicate_nat]
theorem Per.at {ns : List α} {k : Nat} (hk : 1 ≤ k) (hp : Per ns k) (i : Int) : cyc ns i = cyc ns (i % k) := by
  have h := hp.mul (i / k) (i % k)
  rw [← h]; congr 1
  have := Int.mul_ediv_add_emod i k
  omega
theorem rep_per {ns : List α} {k : Nat} (hk : 1 ≤ k) (hn : k ≤ ns.length) : RepG ns k ↔ ns.length % k = 0 ∧ Per ns k := by
  have hlt : (ns.take k).length = k := by rw [List.length_take]; omega
  refine and_congr_right fun hm => ?_
  have hd : ns.length = ns.length / k * k := by have := Nat.div_add_mod ns.length k; rw [hm, Nat.add_zero, Nat.mul_comm] at this; exact this.symm
  have get : ∀ i, i < ns.length → (List.replicate (ns.length / k) (ns.take k)).flatten[i]? = ns[i % k]? := fun i hi => by
    rw [flat_get hlt hk _ i (by rw [Nat.mul_comm, ← hd]; exact hi), List.getElem?_take_of_lt (Nat.mod_lt _ hk)]
  constructor
  · intro e i
    have key : ∀ j, j < ns.length → ns[j]? = ns[j % k]? := fun j hj => by
      conv => lhs; rw [e]
      exact get j hj
    obtain ⟨j, hj, ej, e1⟩ := cyc_of ns (by omega) i
    obtain ⟨l, hl, el, e2⟩ := cyc_of ns (by omega) (i + k)
    rw [e1, e2, key j hj, key l hl]
    congr 1
    have hz : ((k : Nat) : Int) ∣ (ns.length : Int) := Int.natCast_dvd_natCast.mpr (Nat.dvd_of_mod_eq_zero hm)
    have a1 : (l : Int) % k = (j : Int) % k := by
      rw [el, ej, Int.emod_emod_of_dvd _ hz, Int.emod_emod_of_dvd _ hz, Int.add_emod_right]
    rw [← Int.natCast_emod, ← Int.natCast_emod] at a1
    omega
  · intro hp
    refine List.ext_getElem? fun i => ?_
    by_cases hi : i < ns.length
    · rw [get i hi, ← cyc_at ns hi, hp.at hk, ← Int.natCast_emod, cyc_at]
      have := Nat.mod_lt i hk; omega
    · rw [List.getElem?_eq_none (by omega), List.getElem?_eq_none (by rw [flat_len, hlt, ← hd]; omega)]
/-- the least part -/
def RootG (ns : List α) (k : Nat) : Prop := 1 ≤ k ∧ k ≤ ns.length ∧ RepG ns k ∧ ∀ q, 1 ≤ q → q < k → ¬ RepG ns q
/-- the least period -/
structure Root (ns : List α) (r : Nat) : Prop where
  one : 1 ≤ r
  le : r ≤ ns.length
  div : ns.length % r = 0
  per : Per ns r
  all : ∀ p : Int, Per ns p → (r : Int) ∣ p
theorem RootG.root {ns : List α} {r : Nat} (h : RootG ns r) : Root ns r := by
  obtain ⟨h1, h2, h3, h4⟩ := h
  obtain ⟨hm, hp⟩ := (rep_per h1 h2).mp h3
  refine ⟨h1, h2, hm, hp, fun p hpp => ?_⟩
  have hab : Per ns (p.natAbs : Nat) := by
    rcases Int.natAbs_eq p with h | h
    · rw [← h]; exact hpp
    · have := hpp.neg
      rwa [h, Int.neg_neg] at this
  have hg := Per.gcd p.natAbs r hab hp
  have hgr : Nat.gcd p.natAbs r ∣ r := Nat.gcd_dvd_right _ _
  have hg1 : 1 ≤ Nat.gcd p.natAbs r := Nat.gcd_pos_of_pos_right _ h1
  have hgle : Nat.gcd p.natAbs r ≤ r := Nat.le_of_dvd h1 hgr
  have hgn : ns.length % Nat.gcd p.natAbs r = 0 := Nat.mod_eq_zero_of_dvd (Nat.dvd_trans hgr (Nat.dvd_of_mod_eq_zero hm))
  have heq : Nat.gcd p.natAbs r = r := by
    rcases Nat.lt_or_eq_of_le hgle with hlt | he
    · exact absurd ((rep_per hg1 (by omega)).mpr ⟨hgn, hg⟩) (h4 _ hg1 hlt)
    · exact he
  have : r ∣ p.natAbs := heq ▸ Nat.gcd_dvd_left _ _
  exact Int.ofNat_dvd_left.mpr this
end
section
variable {α : Type u} {β : Type u}
/-- two rows with the same pattern of equal items -/
structure Like (xs : List α) (ys : List β) : Prop where
  len : xs.length = ys.length
  eq : ∀ i j, i < xs.length → j < xs.length → (xs[i]? = xs[j]? ↔ ys[i]? = ys[j]?)
theorem Like.cyc {xs : List α} {ys : List β} (h : Like xs ys) (h1 : 1 ≤ xs.length) (a b : Int) : Mine.cyc xs a = Mine.cyc xs b ↔ Mine.cyc ys a = Mine.cyc ys b := by
  obtain ⟨i, hi, ei, e1⟩ := cyc_of xs h1 a
  obtain ⟨j, hj, ej, e2⟩ := cyc_of xs h1 b
  have e3 : Mine.cyc ys a = ys[i]? := by unfold Mine.cyc; rw [← h.len, ← ei]; rfl
  have e4 : Mine.cyc ys b = ys[j]? := by unfold Mine.cyc; rw [← h.len, ← ej]; rfl
  rw [e1, e2, e3, e4]; exact h.eq i j hi hj
theorem Like.per {xs : List α} {ys : List β} (h : Like xs ys) (h1 : 1 ≤ xs.length) (p : Int) : Per xs p ↔ Per ys p :=
  forall_congr' fun i => h.cyc h1 (i + p) i
theorem Like.root {xs : List α} {ys : List β} (h : Like xs ys) (h1 : 1 ≤ xs.length) {r : Nat} (R : Root xs r) : Root ys r :=
  ⟨R.one, h.len ▸ R.le, h.len ▸ R.div, (h.per h1 _).mp R.per, fun p hp => R.all p ((h.per h1 _).mpr hp)⟩
end
section
variable {α : Type u}
theorem Root.rev {ns : List α} {r : Nat} (R : Root ns r) : Root ns.reverse r := by
  have h1 : 1 ≤ ns.length := Nat.le_trans R.one R.le
  refine ⟨R.one, by rw [List.length_reverse]; exact R.le, by rw [List.length_reverse]; exact R.div, R.per.rev h1, fun p hp => R.all p ?_⟩
  have := hp.rev (by rw [List.length_reverse]; exact h1)
  rwa [List.reverse_reverse] at this
def MirG (ns : List α) (c : Nat) : Prop := ns.take c = (ns.take c).reverse ∧ ns.drop c = (ns.drop c).reverse
theorem mir_iff {ns : List α} (h1 : 1 ≤ ns.length) {c : Nat} (hc : c ≤ ns.length) : MirG ns c ↔ ∀ t, cyc ns (-1 - t) = cyc ns (t + c) := by
  have e : (MirG ns c) ↔ ns.reverse = rotL ns c := by
    unfold MirG rotL
    conv => rhs; lhs; rw [← List.take_append_drop c ns, List.reverse_append]
    constructor
    · rintro ⟨a, b⟩; rw [← a, ← b]
    · intro e
      obtain ⟨a, b⟩ := List.append_inj e (by rw [List.length_reverse])
      exact ⟨b.symm, a.symm⟩
  rw [e]
  constructor
  · intro e t
    rw [← cyc_rev h1, e, cyc_rot h1 hc]
  · intro e
    refine cyc_ext (by rw [List.length_reverse, rotL_length]) fun t => ?_
    rw [cyc_rev h1, cyc_rot h1 hc, e]
theorem rot_eq {xs ys : List α} (hl : xs.length = ys.length) (h1 : 1 ≤ xs.length) {i j : Nat} (hi : i ≤ xs.length) (hj : j ≤ xs.length) : rotL xs i = rotL ys j ↔ ∀ t, cyc xs (t + i) = cyc ys (t + j) := by
  constructor
  · intro e t
    rw [← cyc_rot h1 hi, e, cyc_rot (hl ▸ h1) (hl ▸ hj)]
  · intro e
    refine cyc_ext (by rw [rotL_length, rotL_length, hl]) fun t => ?_
    rw [cyc_rot h1 hi, cyc_rot (hl ▸ h1) (hl ▸ hj), e]
theorem rots_nodup {ns : List α} {r : Nat} (R : Root ns r) {i j : Nat} (hi : i < r) (hj : j < r) (h : rotL ns i = rotL ns j) : i = j := by
  have h1 : 1 ≤ ns.length := Nat.le_trans R.one R.le
  have hle := R.le
  rw [rot_eq rfl h1 (by omega) (by omega)] at h
  have hp : Per ns ((i : Int) - j) := fun t => by
    have := h (t - j)
    rw [show t + ((i : Int) - j) = t - j + i by omega, this]; congr 1; omega
  obtain ⟨k, hk⟩ := R.all _ hp
  rcases Int.lt_trichotomy k 0 with hk0 | hk0 | hk0
  · have : (r : Int) * k ≤ r * (-1) := Int.mul_le_mul_of_nonneg_left (by omega) (by omega)
    omega
  · subst hk0; rw [Int.mul_zero] at hk; omega
  · have : (r : Int) * 1 ≤ r * k := Int.mul_le_mul_of_nonneg_left (by omega) (by omega)
    omega
theorem rots_in {ns : List α} {r : Nat} (R : Root ns r) {c : Nat} (hc : MirG ns c) (hcl : c ≤ ns.length) {j : Nat} (hj : j < r) : ∃ i, i < r ∧ rotL ns.reverse j = rotL ns i := by
  have h1 : 1 ≤ ns.length := Nat.le_trans R.one R.le
  have hle := R.le
  have hm := (mir_iff h1 hcl).mp hc
  have h0 := R.one
  have hlt := Nat.mod_lt (j + c) h0
  refine ⟨(j + c) % r, hlt, ?_⟩
  rw [rot_eq (by rw [List.length_reverse]) (by rw [List.length_reverse]; exact h1) (by rw [List.length_reverse]; omega) (by rw [List.length_reverse]; omega)]
  intro t
  rw [cyc_rev h1, hm]
  have := R.per.mul ((((j + c : Nat) : Int)) / r) (t + (((j + c) % r : Nat) : Int))
  rw [← this]; congr 1
  have h9 := Int.mul_ediv_add_emod ((j + c : Nat) : Int) (r : Int)
  rw [Int.natCast_emod]
  omega
theorem rots_apart {ns : List α} {r : Nat} (R : Root ns r) {i j : Nat} (hi : i < r) (hj : j < r) (h : rotL ns i = rotL ns.reverse j) : ∃ c, c < ns.length ∧ MirG ns c := by
  have h1 : 1 ≤ ns.length := Nat.le_trans R.one R.le
  have hle := R.le
  rw [rot_eq (by rw [List.length_reverse]) h1 (by omega) (by omega)] at h
  have h0 : 0 ≤ ((i : Int) - j) % (ns.length : Int) := Int.emod_nonneg _ (by omega)
  have h2 : ((i : Int) - j) % (ns.length : Int) < ns.length := Int.emod_lt_of_pos _ (by omega)
  refine ⟨(((i : Int) - j) % (ns.length : Int)).toNat, by omega, (mir_iff h1 (by omega)).mpr fun t => ?_⟩
  have h3 := h (t - j)
  rw [cyc_rev h1, show -1 - (t - (j : Int) + j) = -1 - t by omega] at h3
  rw [← h3]
  refine cyc_mod ?_
  rw [show (((((i : Int) - j) % (ns.length : Int)).toNat : Nat) : Int) = ((i : Int) - j) % (ns.length : Int) by omega, Int.add_emod_emod]
  congr 1; omega
end
theorem Like.mir {α β : Type u} {xs : List α} {ys : List β} (h : Like xs ys) (h1 : 1 ≤ xs.length) {c : Nat} (hc : c ≤ xs.length) : MirG xs c ↔ MirG ys c := by
  rw [mir_iff h1 hc, mir_iff (h.len ▸ h1) (h.len ▸ hc)]
  exact forall_congr' fun t => h.cyc h1 _ _
end Mine
end
section -- Bk
namespace Mine
/-- the labels, each behind a dot -/
def blocks (L : List (List Nat)) : List Nat := (L.map (46 :: ·)).flatten
theorem blocks_cons (x : List Nat) (L : List (List Nat)) : blocks (x :: L) = 46 :: (x ++ blocks L) := by
  unfold blocks; rw [List.map_cons, List.flatten_cons]; rfl
theorem blocks_nil : blocks [] = [] := rfl
theorem blocks_append (X Y : List (List Nat)) : blocks (X ++ Y) = blocks X ++ blocks Y := by
  unfold blocks; rw [List.map_append, List.flatten_append]
def Ten (L : List (List Nat)) : Prop := ∀ x ∈ L, x.length = 10
theorem Ten.tail {x : List Nat} {L : List (List Nat)} (h : Ten (x :: L)) : Ten L := fun y hy => h y (List.mem_cons_of_mem _ hy)
theorem blocks_len : ∀ {L : List (List Nat)}, Ten L → (blocks L).length = 11 * L.length
  | [], _ => rfl
  | x :: L, h => by
    rw [blocks_cons, List.length_cons, List.length_append, h x (List.mem_cons_self ..), blocks_len h.tail, List.length_cons]; omega
theorem blocks_drop : ∀ {L : List (List Nat)}, Ten L → ∀ q, (blocks L).drop (11 * q) = blocks (L.drop q)
  | L, _, 0 => by rw [Nat.mul_zero, List.drop_zero, List.drop_zero]
  | [], _, q + 1 => by rw [blocks_nil, List.drop_nil, List.drop_nil]; rfl
  | x :: L, h, q + 1 => by
    have hx := h x (List.mem_cons_self ..)
    rw [List.drop_succ_cons, ← blocks_drop h.tail q, blocks_cons, show 11 * (q + 1) = 11 * q + 10 + 1 by omega, List.drop_succ_cons, Nat.add_comm (11 * q) 10, ← List.drop_drop, ← hx, List.drop_left]
theorem blocks_take : ∀ {L : List (List Nat)}, Ten L → ∀ q, (blocks L).take (11 * q) = blocks (L.take q)
  | L, _, 0 => by rw [Nat.mul_zero, List.take_zero, List.take_zero]; rfl
  | [], _, q + 1 => by rw [blocks_nil, List.take_nil, List.take_nil]; rfl
  | x :: L, h, q + 1 => by
    have hx := h x (List.mem_cons_self ..)
    rw [List.take_succ_cons, blocks_cons, blocks_cons, ← blocks_take h.tail q, show 11 * (q + 1) = 10 + 11 * q + 1 by omega, List.take_succ_cons, ← hx, List.take_length_add_append]
theorem blocks_inj : ∀ {X Y : List (List Nat)}, Ten X → Ten Y → blocks X = blocks Y → X = Y
  | [], [], _, _, _ => rfl
  | [], y :: Y, _, _, h => by rw [blocks_cons] at h; cases h
  | x :: X, [], _, _, h => by rw [blocks_cons] at h; cases h
  | x :: X, y :: Y, hx, hy, h => by
    rw [blocks_cons, blocks_cons] at h
    injection h with _ h
    obtain ⟨h1, h2⟩ := List.append_inj h (by rw [hx x (List.mem_cons_self ..), hy y (List.mem_cons_self ..)])
    rw [h1, blocks_inj hx.tail hy.tail h2]
theorem blocks_dot : ∀ {L : List (List Nat)}, Ten L → (∀ x ∈ L, ∀ c ∈ x, c ≠ 46) → ∀ p, (blocks L)[p]? = some 46 → p % 11 = 0
  | [], _, _, p, h => by rw [blocks_nil] at h; simp at h
  | x :: L, hT, hn, p, h => by
    have hx := hT x (List.mem_cons_self ..)
    rw [blocks_cons] at h
    cases p with
    | zero => rfl
    | succ p =>
      rw [List.getElem?_cons_succ] at h
      by_cases hp : p < 10
      · rw [List.getElem?_append_left (by omega)] at h
        exact absurd rfl (hn x (List.mem_cons_self ..) 46 (List.mem_of_getElem? h))
      · rw [List.getElem?_append_right (by omega), hx] at h
        have := blocks_dot hT.tail (fun y hy => hn y (List.mem_cons_of_mem _ hy)) (p - 10) h
        omega
/-- where the labels stand in a row of labels -/
theorem blocks_at {L' L : List (List Nat)} (h' : Ten L') (h : Ten L) (hn : ∀ x ∈ L', ∀ c ∈ x, c ≠ 46) (hL : 1 ≤ L.length) {p : Nat} (hp : p + 11 * L.length ≤ 11 * L'.length) (he : ((blocks L').drop p).take (11 * L.length) = blocks L) :
    ∃ k, p = 11 * k ∧ k + L.length ≤ L'.length ∧ (L'.drop k).take L.length = L := by
  have h0 : (blocks L)[0]? = some 46 := by
    cases L with
    | nil => cases hL
    | cons x L => rw [blocks_cons]; rfl
  rw [← he, List.getElem?_take_of_lt (by omega), List.getElem?_drop, Nat.add_zero] at h0
  have hm := blocks_dot h' hn p h0
  obtain ⟨k, rfl⟩ : ∃ k, p = 11 * k := ⟨p / 11, by omega⟩
  refine ⟨k, rfl, by omega, ?_⟩
  have hd : Ten (L'.drop k) := fun x hx => h' x (List.mem_of_mem_drop hx)
  rw [blocks_drop h', blocks_take hd] at he
  exact blocks_inj (fun x hx => hd x (List.mem_of_mem_take hx)) h he
theorem blocks_at' {L' : List (List Nat)} (h' : Ten L') {k n : Nat} : ((blocks L').drop (11 * k)).take (11 * n) = blocks ((L'.drop k).take n) := by
  have hd : Ten (L'.drop k) := fun x hx => h' x (List.mem_of_mem_drop hx)
  rw [blocks_drop h', blocks_take hd]
theorem once_more {α : Type} {l : List α} {k q : Nat} (hk : k ≤ q) (hq : q ≤ l.length) : ((l ++ l.take q).drop k).take l.length = rotL l k := by
  unfold rotL
  rw [List.drop_append_of_le_length (by omega), List.take_append, List.take_of_length_le (by rw [List.length_drop]; omega), List.length_drop, show l.length - (l.length - k) = k by omega, List.take_take, Nat.min_eq_left hk]
/-- the labels stand in the row that goes round once and q labels more, behind its first label, just if q is at least the root -/
theorem found_iff {l : List (List Nat)} (h : Ten l) (hn : ∀ x ∈ l, ∀ c ∈ x, c ≠ 46) {r : Nat} (R : Root l r) {q : Nat} (hq : q ≤ l.length) :
    (∃ i, i + 11 * l.length ≤ 11 * (l.length + q) - 1 ∧ (((blocks (l ++ l.take q)).tail).drop i).take (11 * l.length) = blocks l) ↔ r ≤ q := by
  have h1 : 1 ≤ l.length := Nat.le_trans R.one R.le
  have hT : Ten (l ++ l.take q) := fun x hx => by
    rcases List.mem_append.mp hx with hx | hx
    · exact h x hx
    · exact h x (List.mem_of_mem_take hx)
  have hN : ∀ x ∈ l ++ l.take q, ∀ c ∈ x, c ≠ 46 := fun x hx => by
    rcases List.mem_append.mp hx with hx | hx
    · exact hn x hx
    · exact hn x (List.mem_of_mem_take hx)
  have hl : (l ++ l.take q).length = l.length + q := by rw [List.length_append, List.length_take]; omega
  constructor
  · rintro ⟨i, hi, he⟩
    rw [List.drop_tail] at he
    obtain ⟨k, hk, hk2, hk3⟩ := blocks_at hT h hN h1 (p := i + 1) (by rw [hl]; omega) he
    rw [hl] at hk2
    rw [once_more (by omega) hq, per_rot h1 (by omega)] at hk3
    have := R.all _ hk3
    have := Int.le_of_dvd (by omega) this
    omega
  · intro hr
    have h0 := R.one
    refine ⟨11 * r - 1, by omega, ?_⟩
    rw [List.drop_tail, show 11 * r - 1 + 1 = 11 * r by omega, blocks_at' hT, once_more hr hq, (per_rot h1 R.le).mpr R.per]
end Mine
end
section -- Bt
open PySem PySem.W PyProof.Rows PySem.Calls
namespace Mine
def Abc (c : Nat) : Prop := c ∈ [45, 46, 63, 98, 99, 100, 108, 112, 114, 115, 116, 119, 120, 83, 84]
def lowC (c : Nat) : Nat := if c = 83 then 115 else if c = 84 then 116 else c
theorem lowOf {c : Nat} (h : Abc c) : Unicode.lowerOf c = [lowC c] := by
  have : ∀ c ∈ [45, 46, 63, 98, 99, 100, 108, 112, 114, 115, 116, 119, 120, 83, 84], Unicode.lowerOf c = [lowC c] := by decide +kernel
  exact this c h
theorem lowAt {s : Array Nat} {i c : Nat} (hc : s[i]? = some c) (h : Abc c) : Unicode.lowerAt s i = [lowC c] := by
  unfold Unicode.lowerAt
  rw [hc]
  have hne : (c == 0x3A3) = false := by
    have : ∀ c ∈ [45, 46, 63, 98, 99, 100, 108, 112, 114, 115, 116, 119, 120, 83, 84], (c == 0x3A3) = false := by decide
    exact this c h
  show (if (c == 0x3A3 && Unicode.endsWord s i) = true then _ else Unicode.lowerOf c) = _
  rw [hne, Bool.false_and, if_neg Bool.false_ne_true, lowOf h]
theorem flat_ones : ∀ l : List Nat, (l.map fun c => [lowC c]).flatten = l.map lowC
  | [] => rfl
  | c :: r => by rw [List.map_cons, List.flatten_cons, flat_ones r]; rfl
theorem lower_list {x : Str} (h : ∀ c ∈ x.cps.toList, Abc c) : (Txt.lower x).cps.toList = x.cps.toList.map lowC := by
  show (placed x fun i _ => Unicode.lowerAt x.cps i).toList = _
  unfold placed
  rw [Array.toList_flatten, Array.toList_mapIdx, ← flat_ones]
  congr 1
  refine List.ext_getElem (by simp) fun i h1 h2 => ?_
  rw [List.getElem_map, List.getElem_mapIdx, List.getElem_map]
  have hi : i < x.cps.toList.length := by simpa using h2
  exact lowAt (by rw [← Array.getElem?_toList, List.getElem?_eq_getElem hi]) (h _ (List.getElem_mem hi))
theorem glued_list (sep : Str) (hs : sep.cps = #[46]) : ∀ (rest : List Str) (acc : Array Nat), (rest.foldl (fun acc p => acc ++ sep.cps ++ p.cps) acc).toList = acc.toList ++ blocks (rest.map (·.cps.toList))
  | [], acc => by rw [List.foldl_nil, List.map_nil, blocks_nil, List.append_nil]
  | p :: rest, acc => by
    rw [List.foldl_cons, glued_list sep hs rest, List.map_cons, blocks_cons, Array.toList_append, Array.toList_append, hs]
    simp
theorem join_list {ts : List Str} (h : 1 ≤ ts.length) : (Txt.join (Str.ofString ".") ts).cps.toList = (blocks (ts.map (·.cps.toList))).tail := by
  cases ts with
  | nil => cases h
  | cons t rest =>
    show ((rest.foldl (fun acc p => acc ++ (Str.ofString ".").cps ++ p.cps) t.cps)).toList = _
    rw [glued_list _ (by decide), List.map_cons, blocks_cons]; rfl
theorem str_ext {x y : Str} (h : x.cps.toList = y.cps.toList) : x = y := by
  cases x; cases y
  congr
  exact Array.toList_inj.mp h
/-- the signs of a label -/
def AbcL (c : Nat) : Prop := c ∈ [45, 63, 98, 99, 100, 108, 112, 114, 115, 116, 119, 120, 83, 84]
def LowL (c : Nat) : Prop := c ∈ [45, 63, 98, 99, 100, 108, 112, 114, 115, 116, 119, 120]
theorem fmPick_mem (i : Nat) (k : Int) : ∀ prs : List (Int × Nat), fmPick i k prs ∈ prs.map (·.2) ++ [63, 45]
  | [] => by unfold fmPick; split <;> simp
  | (b, c) :: r => by
    unfold fmPick
    split
    · exact List.mem_append_left _ (List.mem_cons_self ..)
    · exact List.mem_cons_of_mem _ (fmPick_mem i k r)
theorem fm_abc (k : Int) : ∀ c ∈ fmUpTo k 10, AbcL c := by
  intro c hc
  unfold fmUpTo at hc
  obtain ⟨p, hp, rfl⟩ := List.mem_map.mp hc
  have h1 : ∀ p ∈ fmRows.zipIdx, ∀ c ∈ p.1.map (·.2) ++ [63, 45], c ∈ [45, 63, 98, 99, 100, 108, 112, 114, 115, 116, 119, 120, 83, 84] := by decide
  exact h1 p (List.mem_of_mem_take hp) _ (fmPick_mem _ _ _)
theorem AbcL.abc {c : Nat} (h : AbcL c) : Abc c := by
  have : ∀ c ∈ [45, 63, 98, 99, 100, 108, 112, 114, 115, 116, 119, 120, 83, 84], c ∈ [45, 46, 63, 98, 99, 100, 108, 112, 114, 115, 116, 119, 120, 83, 84] := by decide
  exact this c h
theorem AbcL.low {c : Nat} (h : AbcL c) : LowL (lowC c) := by
  have : ∀ c ∈ [45, 63, 98, 99, 100, 108, 112, 114, 115, 116, 119, 120, 83, 84], lowC c ∈ [45, 63, 98, 99, 100, 108, 112, 114, 115, 116, 119, 120] := by decide
  exact this c h
theorem LowL.ne {c : Nat} (h : LowL c) : c ≠ 46 := by
  have : ∀ c ∈ [45, 63, 98, 99, 100, 108, 112, 114, 115, 116, 119, 120], c ≠ 46 := by decide
  exact this c h
theorem LowL.dig {c : Nat} (h : LowL c) : Sre.isDigit c = false := by
  have : ∀ c ∈ [45, 63, 98, 99, 100, 108, 112, 114, 115, 116, 119, 120], Sre.isDigit c = false := by decide
  exact this c h
def labL (k : Int) : List Nat := fmUpTo k 10
def lowL (k : Int) : List Nat := (fmUpTo k 10).map lowC
theorem labS_list (k : Int) : (labS k).cps.toList = labL k := rfl
theorem lowS_list (k : Int) : (Txt.lower (labS k)).cps.toList = lowL k := lower_list fun c hc => (fm_abc k c hc).abc
theorem labL_len (k : Int) : (labL k).length = 10 := fmUpTo_len k
theorem lowL_len (k : Int) : (lowL k).length = 10 := by unfold lowL; rw [List.length_map]; exact fmUpTo_len k
theorem lowL_low (k : Int) : ∀ c ∈ lowL k, LowL c := by
  intro c hc
  obtain ⟨d, hd, rfl⟩ := List.mem_map.mp hc
  exact (fm_abc k d hd).low
def lLet (c : Nat) (x y : Bool) : Nat := if x then c else if y then 120 else 45
theorem kLet_low : ∀ k, lowC (kLet k) = kLet (seenK k) := by
  intro k
  unfold seenK
  by_cases h : k = 1 ∨ k = 2 ∨ k = 4 ∨ k = 6 ∨ k = 8 ∨ k = 10 ∨ k = 12
  · rw [if_pos h]
    rcases h with rfl | rfl | rfl | rfl | rfl | rfl | rfl <;> decide
  · rw [if_neg h]
    have : kLet k = 63 := by
      unfold kLet
      simp only [not_or] at h
      obtain ⟨h1, h2, h3, h4, h5, h6, h7⟩ := h
      rw [if_neg h6, if_neg h7, if_neg h5, if_neg h4, if_neg h3, if_neg h2, if_neg h1]
    rw [this]; decide
theorem lowL_letters {m : Nat} (hm : m < 65536) : lowL (m : Int) = [kLet (seenK (m / 4096)), bLet 114 (m.testBit 8), bLet 119 (m.testBit 7), lLet 115 (m.testBit 11) (m.testBit 6 && !m.testBit 11), bLet 114 (m.testBit 5), bLet 119 (m.testBit 4), lLet 115 (m.testBit 10) (m.testBit 3 && !m.testBit 10), bLet 114 (m.testBit 2), bLet 119 (m.testBit 1), lLet 116 (m.testBit 9) (m.testBit 0 && !m.testBit 9)] := by
  have b1 : ∀ b, lowC (bLet 114 b) = bLet 114 b := by decide
  have b2 : ∀ b, lowC (bLet 119 b) = bLet 119 b := by decide
  have s1 : ∀ x y, lowC (sLet 115 83 x y) = lLet 115 x (y && !x) := by decide
  have s2 : ∀ x y, lowC (sLet 116 84 x y) = lLet 116 x (y && !x) := by decide
  unfold lowL
  rw [fm_letters hm]
  simp only [List.map_cons, List.map_nil, kLet_low, b1, b2, s1, s2]
theorem seenK_in (k : Nat) : seenK k ∈ [0, 1, 2, 4, 6, 8, 10, 12] := by
  unfold seenK
  split
  · rename_i h
    rcases h with rfl | rfl | rfl | rfl | rfl | rfl | rfl <;> decide
  · decide
theorem kLet_inj {a b : Nat} (h : kLet (seenK a) = kLet (seenK b)) : seenK a = seenK b := by
  have : ∀ x ∈ [0, 1, 2, 4, 6, 8, 10, 12], ∀ y ∈ [0, 1, 2, 4, 6, 8, 10, 12], kLet x = kLet y → x = y := by decide
  exact this _ (seenK_in a) _ (seenK_in b) h
theorem low_nat {a b : Nat} (ha : a < 65536) (hb : b < 65536) : lowL (a : Int) = lowL (b : Int) ↔ seenZ (a : Int) = seenZ (b : Int) := by
  rw [lowL_letters ha, lowL_letters hb, seen_hv ha, seen_hv hb]
  have bi : ∀ x y, bLet 114 x = bLet 114 y → x = y := by decide
  have bw : ∀ x y, bLet 119 x = bLet 119 y → x = y := by decide
  have s1 : ∀ x y z w, lLet 115 x (y && !x) = lLet 115 z (w && !z) → x = z ∧ (y && !x) = (w && !z) := by decide
  have s2 : ∀ x y z w, lLet 116 x (y && !x) = lLet 116 z (w && !z) → x = z ∧ (y && !x) = (w && !z) := by decide
  constructor
  · intro h
    injection h with h0 h
    injection h with h1 h
    injection h with h2 h
    injection h with h3 h
    injection h with h4 h
    injection h with h5 h
    injection h with h6 h
    injection h with h7 h
    injection h with h8 h
    injection h with h9 h
    obtain ⟨p1, p2⟩ := s1 _ _ _ _ h3
    obtain ⟨p3, p4⟩ := s1 _ _ _ _ h6
    obtain ⟨p5, p6⟩ := s2 _ _ _ _ h9
    unfold seenB
    rw [kLet_inj h0, bi _ _ h1, bw _ _ h2, p2, p1, bi _ _ h4, bw _ _ h5, p4, p3, bi _ _ h7, bw _ _ h8, p6, p5]
  · intro h
    obtain ⟨e1, e2⟩ := hv_inj (l := seenB a) (l' := seenB b) (by unfold seenB; rfl) (Int.natCast_inj.mp h)
    unfold seenB at e2
    injection e2 with h0 h
    injection h with h1 h
    injection h with h2 h
    injection h with h3 h
    injection h with h4 h
    injection h with h5 h
    injection h with h6 h
    injection h with h7 h
    injection h with h8 h
    injection h with h9 h
    injection h with h10 h
    injection h with h11 h
    rw [e1, h3, h4, h5, h6, h7, h8, h9, h10, h11, h0, h1, h2]
theorem low_iff {a b : Int} (ha : 0 ≤ a ∧ a < 65536) (hb : 0 ≤ b ∧ b < 65536) : lowL a = lowL b ↔ seenZ a = seenZ b := by
  have e1 : a = ((a.toNat : Nat) : Int) := by omega
  have e2 : b = ((b.toNat : Nat) : Int) := by omega
  rw [e1, e2]
  exact low_nat (by omega) (by omega)
end Mine
end
section -- Bu
open PySem PySem.W PyProof.Rows PySem.Calls
namespace Mine
theorem range_pick {α : Type} (l : List α) : ∀ m, (List.range m).filterMap (fun k => l[k]?) = l.take m
  | 0 => rfl
  | m + 1 => by
    rw [List.range_succ, List.filterMap_append, range_pick l m]
    by_cases h : m < l.length
    · rw [List.take_succ_eq_append_getElem h]; simp [h]
    · rw [List.take_of_length_le (by omega), List.take_of_length_le (by omega)]
      simp [h]
theorem slice1 {x : Str} (h : 1 ≤ x.length) : (Txt.slice x (some 1) none).cps.toList = x.cps.toList.tail := by
  have hl : x.cps.toList.length = x.length := by rw [Array.length_toList]; rfl
  have hidx : Builtin.Str.strSliceIndices (some 1) none 1 x.length = (List.range (x.length - 1)).map (· + 1) := by
    unfold Builtin.Str.strSliceIndices sliceRange
    simp only [show ¬ (1 : Int) < 0 by decide, if_false, show (1 : Int) > 0 by decide, if_true]
    have e1 : max 0 (min (1 : Int) (x.length : Int)) = 1 := by omega
    have e2 : (if (1 : Int) < (x.length : Int) then ((x.length : Int) - 1 + 1 - 1) / 1 else 0).toNat = x.length - 1 := by
      split
      · rw [Int.ediv_one]; omega
      · omega
    rw [e1, e2]
    refine List.map_congr_left fun k _ => ?_
    omega
  unfold Txt.slice
  rw [hidx, if_neg]
  · show ((List.filterMap (x.cps[·]?) ((List.range (x.length - 1)).map (· + 1))).toArray).toList = _
    rw [List.toList_toArray, List.filterMap_map]
    have e : (fun k => x.cps[k]?) ∘ (· + 1) = fun k => x.cps.toList.tail[k]? := by
      funext k
      show x.cps[k + 1]? = _
      rw [List.getElem?_tail, Array.getElem?_toList]
    rw [e, range_pick, List.take_of_length_le (by rw [List.length_tail, hl]; omega)]
  · simp only [List.length_map, List.length_range, Bool.and_eq_true, beq_iff_eq, not_and]
    intro _; omega
theorem blocks_mem {c : Nat} : ∀ {L : List (List Nat)}, c ∈ blocks L → c = 46 ∨ ∃ x ∈ L, c ∈ x
  | [], h => by rw [blocks_nil] at h; cases h
  | x :: L, h => by
    rw [blocks_cons] at h
    rcases List.mem_cons.mp h with h | h
    · exact .inl h
    · rcases List.mem_append.mp h with h | h
      · exact .inr ⟨x, List.mem_cons_self .., h⟩
      · rcases blocks_mem h with h | ⟨y, hy, h⟩
        · exact .inl h
        · exact .inr ⟨y, List.mem_cons_of_mem _ hy, h⟩
theorem blocks_low : ∀ L : List (List Nat), (blocks L).map lowC = blocks (L.map (·.map lowC))
  | [] => rfl
  | x :: L => by rw [blocks_cons, List.map_cons, List.map_append, blocks_low L, List.map_cons, blocks_cons]; rfl
theorem len_list (x : Str) : x.length = x.cps.toList.length := by rw [Array.length_toList]; rfl
/-- a row of lowered labels is a host's name -/
theorem hdn_of {z : Str} {L : List (List Nat)} (hz : z.cps.toList = (blocks L).tail) (hT : Ten L) (hlow : ∀ x ∈ L, ∀ c ∈ x, LowL c) (h1 : 1 ≤ L.length) (h12 : L.length ≤ 12) : Hdn z := by
  have hlen : z.length = 11 * L.length - 1 := by rw [len_list, hz, List.length_tail, blocks_len hT]
  have hne : ∀ x ∈ L, ∀ c ∈ x, c ≠ 46 := fun x hx c hc => (hlow x hx c hc).ne
  have at_ : ∀ i, i < z.length → (i + 1) % 11 ≠ 0 → ∃ c, z.cps[i]? = some c ∧ c ≠ 46 := fun i hi hm => by
    have hi' : i < z.cps.toList.length := by rw [← len_list]; exact hi
    refine ⟨z.cps.toList[i], by rw [← Array.getElem?_toList, List.getElem?_eq_getElem hi'], fun e => hm ?_⟩
    refine blocks_dot hT hne (i + 1) ?_
    rw [← List.getElem?_tail, ← hz, List.getElem?_eq_getElem hi', e]
  have one : ∀ c : Nat, c ≠ 46 → ((⟨#[c]⟩ : Str) == Str.ofString ".") = false := fun c hc => by
    rw [beq_eq_false_iff_ne]
    intro e
    have e' : (⟨#[c]⟩ : Str) = ⟨#[46]⟩ := e.trans (by decide)
    injection e' with e'
    have := congrArg Array.toList e'
    simp at this
    exact hc this
  refine ⟨by omega, by omega, ⟨fun p => ?_, ?_⟩, ?_, ?_, ?_⟩
  · have : z.cps.getD p 0 = (z.cps[p]?).getD 0 := by rw [Array.getD_eq_getD_getElem?]
    rw [this]
    cases hp : z.cps[p]? with
    | none => decide
    | some c =>
      have hm : c ∈ z.cps.toList := List.mem_of_getElem? (by rw [Array.getElem?_toList]; exact hp)
      rw [hz] at hm
      rcases blocks_mem (List.mem_of_mem_tail hm) with rfl | ⟨x, hx, hc⟩
      · decide
      · exact (hlow x hx c hc).dig
  · show z.length < _
    omega
  · rw [beq_eq_false_iff_ne]
    rintro rfl
    have : (Str.ofString "").length = 0 := by decide
    omega
  · obtain ⟨c, hc, hc2⟩ := at_ 0 (by omega) (by decide)
    have : Txt.item z 0 = ⟨#[c]⟩ := by
      unfold Txt.item Txt.charAt seqIndex?
      simp only [show ¬ (0 : Int) < 0 by decide, if_false]
      rw [if_pos (by simp only [Bool.and_eq_true, decide_eq_true_eq]; omega)]
      show (⟨#[(z.cps[0]?).getD 0]⟩ : Str) = _
      rw [hc]; rfl
    rw [this]; exact one c hc2
  · obtain ⟨c, hc, hc2⟩ := at_ (z.length - 1) (by omega) (by omega)
    have : Txt.item z (-1) = ⟨#[c]⟩ := by
      unfold Txt.item Txt.charAt seqIndex?
      simp only [show (-1 : Int) < 0 by decide, if_true]
      rw [if_pos (by simp only [Bool.and_eq_true, decide_eq_true_eq]; omega)]
      show (⟨#[(z.cps[((-1 : Int) + (z.length : Int)).toNat]?).getD 0]⟩ : Str) = _
      rw [show ((-1 : Int) + (z.length : Int)).toNat = z.length - 1 by omega, hc]; rfl
    rw [this]; exact one c hc2
theorem sub_list {x y : Str} {i : Nat} : Builtin.Str.subAt x y i = true ↔ (x.cps.toList.drop i).take y.cps.toList.length = y.cps.toList := by
  unfold Builtin.Str.subAt
  rw [beq_iff_eq, ← Array.toList_inj, Array.toList_extract, List.extract_eq_take_drop, ← len_list, Nat.add_sub_cancel_left]
theorem starts_dot {y : Str} {l : List Nat} (h : y.cps.toList = 46 :: l) : Txt.startswith y (Str.ofString ".") = true := by
  unfold Txt.startswith
  have hd : (Str.ofString ".").cps.toList = [46] := by decide
  rw [Bool.and_eq_true, decide_eq_true_eq, sub_list, hd, h]
  refine ⟨?_, rfl⟩
  rw [len_list, len_list, hd, h]; simp
theorem starts_no {y : Str} {c : Nat} {l : List Nat} (h : y.cps.toList = c :: l) (hc : c ≠ 46) : Txt.startswith y (Str.ofString ".") = false := by
  cases hb : Txt.startswith y (Str.ofString ".") with
  | false => rfl
  | true =>
    unfold Txt.startswith at hb
    have hd : (Str.ofString ".").cps.toList = [46] := by decide
    rw [Bool.and_eq_true, decide_eq_true_eq, sub_list, hd, h] at hb
    have := hb.2
    simp at this
    exact absurd this hc
end Mine
end
section -- Pd
open PySem PySem.W PyProof.Rows PySem.Calls
namespace Mine
structure DomFacts (x y : Str) (b : Bool) : Prop where
  lx : x.length ≤ 1000
  ly : y.length ≤ 1000
  ne : (Txt.lower x == Txt.lower y) = false
  hx : Hdn (Txt.lower x)
  st : Txt.startswith (Txt.lower y) (Str.ofString ".") = true
  hy : Hdn (Txt.slice (Txt.lower y) (some 1) none)
  res : decide (Txt.rfind (Txt.lower x) (Txt.lower y) ≠ -1 ∧ Txt.rfind (Txt.lower x) (Txt.lower y) ≠ 0) = b
structure LabOk (x : Str) : Prop where
  len : x.length ≤ 1000
  dig : NoDig (Txt.lower x)
  st : Txt.startswith (Txt.lower x) (Str.ofString ".") = false
theorem lab_ok (k : Int) : LabOk (labS k) := by
  have hl := lowS_list k
  have h10 := lowL_len k
  refine ⟨by rw [labS_len]; decide, ⟨fun p => ?_, ?_⟩, ?_⟩
  · have : (Txt.lower (labS k)).cps.getD p 0 = ((Txt.lower (labS k)).cps[p]?).getD 0 := by rw [Array.getD_eq_getD_getElem?]
    rw [this]
    cases hp : (Txt.lower (labS k)).cps[p]? with
    | none => decide
    | some c =>
      have hm : c ∈ (Txt.lower (labS k)).cps.toList := List.mem_of_getElem? (by rw [Array.getElem?_toList]; exact hp)
      rw [hl] at hm
      exact (lowL_low k c hm).dig
  · show (Txt.lower (labS k)).length < _
    rw [len_list, hl, h10]; decide
  · cases hq : lowL k with
    | nil => rw [hq] at h10; cases h10
    | cons c r =>
      rw [hq] at hl
      exact starts_no hl (lowL_low k c (by rw [hq]; exact List.mem_cons_self ..)).ne
theorem like_low {rs : List Int} (hrg : ∀ x ∈ rs, 0 ≤ x ∧ x < 65536) : Like (rs.map seenZ) (rs.map lowL) := by
  refine ⟨by rw [List.length_map, List.length_map], fun i j hi hj => ?_⟩
  rw [List.length_map] at hi hj
  rw [List.getElem?_map, List.getElem?_map, List.getElem?_map, List.getElem?_map, List.getElem?_eq_getElem hi, List.getElem?_eq_getElem hj]
  simp only [Option.map_some, Option.some.injEq]
  exact (low_iff (hrg _ (List.getElem_mem hi)) (hrg _ (List.getElem_mem hj))).symm
theorem keys_root {rs : List Int} {r : Nat} (hroot : IsRoot (rs.map seenZ) r) : Root (rs.map seenZ) r := RootG.root (show RootG (rs.map seenZ) r from hroot)
theorem ten_lab (rs : List Int) : Ten (rs.map labL) := fun x hx => by obtain ⟨k, -, rfl⟩ := List.mem_map.mp hx; exact labL_len k
theorem ten_low (rs : List Int) : Ten (rs.map lowL) := fun x hx => by obtain ⟨k, -, rfl⟩ := List.mem_map.mp hx; exact lowL_len k
theorem low_low (rs : List Int) : ∀ x ∈ rs.map lowL, ∀ c ∈ x, LowL c := fun x hx => by obtain ⟨k, -, rfl⟩ := List.mem_map.mp hx; exact lowL_low k
theorem labs_list (rs : List Int) : (rs.map labS).map (·.cps.toList) = rs.map labL := by rw [List.map_map]; rfl
theorem lab_abc {rs : List Int} {c : Nat} (h : c ∈ blocks (rs.map labL)) : Abc c := by
  rcases blocks_mem h with rfl | ⟨x, hx, hc⟩
  · unfold Abc; decide
  · obtain ⟨k, -, rfl⟩ := List.mem_map.mp hx
    exact (fm_abc k c hc).abc
theorem low_map (rs : List Int) : (rs.map labL).map (·.map lowC) = rs.map lowL := by rw [List.map_map]; rfl
theorem join_labs {rs : List Int} (h1 : 1 ≤ rs.length) : (Txt.join (Str.ofString ".") (rs.map labS)).cps.toList = (blocks (rs.map labL)).tail := by
  rw [join_list (by rw [List.length_map]; exact h1), labs_list]
theorem low_join {rs : List Int} (h1 : 1 ≤ rs.length) : (Txt.lower (Txt.join (Str.ofString ".") (rs.map labS))).cps.toList = (blocks (rs.map lowL)).tail := by
  rw [lower_list, join_labs h1, List.map_tail, blocks_low, low_map]
  intro c hc
  rw [join_labs h1] at hc
  exact lab_abc (List.mem_of_mem_tail hc)
theorem tail_dot {L : List (List Nat)} (h1 : 1 ≤ L.length) : 46 :: (blocks L).tail = blocks L := by
  cases L with
  | nil => cases h1
  | cons x L => rw [blocks_cons]; rfl
theorem dot_join {rs : List Int} (h1 : 1 ≤ rs.length) : (Str.ofString "." ++ Txt.join (Str.ofString ".") (rs.map labS)).cps.toList = blocks (rs.map labL) := by
  have e : (Str.ofString "." ++ Txt.join (Str.ofString ".") (rs.map labS)).cps = (Str.ofString ".").cps ++ (Txt.join (Str.ofString ".") (rs.map labS)).cps := rfl
  rw [e, Array.toList_append, join_labs h1, show (Str.ofString ".").cps.toList = [46] by decide]
  exact tail_dot (by rw [List.length_map]; exact h1)
theorem low_dot {rs : List Int} (h1 : 1 ≤ rs.length) : (Txt.lower (Str.ofString "." ++ Txt.join (Str.ofString ".") (rs.map labS))).cps.toList = blocks (rs.map lowL) := by
  rw [lower_list, dot_join h1, blocks_low, low_map]
  intro c hc
  rw [dot_join h1] at hc
  exact lab_abc hc
theorem dom_law {rs : List Int} {r : Nat} (h1 : 1 ≤ rs.length) (h6 : rs.length ≤ 6) (hrg : ∀ x ∈ rs, 0 ≤ x ∧ x < 65536) (hroot : IsRoot (rs.map seenZ) r) (q : Nat) (hq : 1 ≤ q) (hq6 : q ≤ rs.length) :
    DomFacts (Txt.join (Str.ofString ".") (rs.map labS ++ (rs.map labS).take q)) (Str.ofString "." ++ Txt.join (Str.ofString ".") (rs.map labS)) (decide (r ≤ q)) := by
  have hx0 : rs.map labS ++ (rs.map labS).take q = (rs ++ rs.take q).map labS := by rw [List.map_append, List.map_take]
  have hxl : (rs ++ rs.take q).length = rs.length + q := by rw [List.length_append, List.length_take]; omega
  rw [hx0]
  have hx1 : 1 ≤ (rs ++ rs.take q).length := by omega
  have R : Root (rs.map lowL) r := (like_low hrg).root (by rw [List.length_map]; exact h1) (keys_root hroot)
  have hln : (rs.map lowL).length = rs.length := List.length_map ..
  have eX := low_join hx1
  have eY := low_dot h1
  have e0 := join_labs hx1
  have e1 := dot_join h1
  generalize hX : Txt.join (Str.ofString ".") ((rs ++ rs.take q).map labS) = x at *
  generalize hY : Str.ofString "." ++ Txt.join (Str.ofString ".") (rs.map labS) = y at *
  have lX : (Txt.lower x).length = 11 * (rs.length + q) - 1 := by rw [len_list, eX, List.length_tail, blocks_len (ten_low _), List.length_map, hxl]
  have lY : (Txt.lower y).length = 11 * rs.length := by rw [len_list, eY, blocks_len (ten_low _), List.length_map]
  have hsl := slice1 (x := Txt.lower y) (by omega)
  rw [eY] at hsl
  refine ⟨?_, ?_, ?_, ?_, ?_, ?_, ?_⟩
  · rw [len_list, e0, List.length_tail, blocks_len (ten_lab _), List.length_map]; omega
  · rw [len_list, e1, blocks_len (ten_lab _), List.length_map]; omega
  · rw [beq_eq_false_iff_ne]
    intro e
    rw [e, lY] at lX
    omega
  · exact hdn_of eX (ten_low _) (low_low _) (by rw [List.length_map]; omega) (by rw [List.length_map]; omega)
  · exact starts_dot (eY.trans (tail_dot (by rw [List.length_map]; exact h1)).symm)
  · exact hdn_of hsl (ten_low _) (low_low _) (by rw [List.length_map]; omega) (by rw [List.length_map]; omega)
  · have key := found_iff (ten_low rs) (fun x hx c hc => (low_low rs x hx c hc).ne) R (q := q) (by rw [hln]; exact hq6)
    rw [hln, ← List.map_take, ← List.map_append] at key
    have atI : ∀ i, StrLaws.At (Txt.lower x) (Txt.lower y) (Txt.lower x).length i ↔ (i + 11 * rs.length ≤ 11 * (rs.length + q) - 1 ∧ (((blocks ((rs ++ rs.take q).map lowL)).tail).drop i).take (11 * rs.length) = blocks (rs.map lowL)) := fun i => by
      unfold StrLaws.At
      rw [sub_list, ← len_list, lX, lY, eX, eY]
    rw [decide_eq_decide, ← key]
    unfold Txt.rfind
    rcases StrLaws.last_spec (Txt.lower x) (Txt.lower y) with ⟨hn, hno⟩ | ⟨i, hs, hat, -⟩
    · rw [hn]
      constructor
      · intro h; exact absurd rfl h.1
      · rintro ⟨i, hi⟩; exact absurd ((atI i).mpr hi) (hno i)
    · rw [hs]
      constructor
      · intro _; exact ⟨i, (atI i).mp hat⟩
      · intro _
        refine ⟨by show ((i : Nat) : Int) ≠ -1; omega, ?_⟩
        show ((i : Nat) : Int) ≠ 0
        intro hi0
        have hi0' : i = 0 := by omega
        subst hi0'
        obtain ⟨h2, h3⟩ := (atI 0).mp hat
        rw [List.drop_tail] at h3
        obtain ⟨k, hk, -, -⟩ := blocks_at (ten_low (rs ++ rs.take q)) (ten_low rs) (fun x hx c hc => (low_low _ x hx c hc).ne) (by rw [hln]; exact h1) (p := 0 + 1) (by rw [hln, List.length_map, hxl]; omega) (by rw [hln]; exact h3)
        omega
end Mine
end
section -- Pn
open PySem PySem.W PyProof.Rows PySem.Calls
namespace Mine
/-- the first of the labels up to place i that reads like the label there -/
def firstLike (ls : List Str) (i : Nat) : Str := ((ls.take (i + 1)).filter fun o => decide (Txt.lower (ls.getD i Str.empty) = Txt.lower o)).headD Str.empty
def namesS (ls : List Str) : List Str := (List.range ls.length).map (firstLike ls)
theorem firstLike_at {ls : List Str} {i : Nat} (hi : i < ls.length) : ((ls.take (i + 1)).filter fun o => decide (Txt.lower ls[i] = Txt.lower o))[0]? = some (firstLike ls i) := by
  unfold firstLike
  rw [show ls.getD i Str.empty = ls[i] by rw [List.getD_eq_getElem?_getD, List.getElem?_eq_getElem hi]; rfl]
  have hm : ls[i] ∈ (ls.take (i + 1)).filter fun o => decide (Txt.lower ls[i] = Txt.lower o) := by
    refine List.mem_filter.mpr ⟨?_, decide_eq_true rfl⟩
    refine List.mem_of_getElem? (i := i) ?_
    rw [List.getElem?_take_of_lt (Nat.lt_succ_self i), List.getElem?_eq_getElem hi]
  generalize (ls.take (i + 1)).filter (fun o => decide (Txt.lower ls[i] = Txt.lower o)) = l at hm
  cases l with
  | nil => cases hm
  | cons a r => rfl
structure NameFacts (keys : List Int) (ns : List Str) (n r : Nat) : Prop where
  len : ns.length = n
  r1 : 1 ≤ r
  rn : r ≤ n
  sml : ∀ x ∈ ns, x.length ≤ 20
  ok : ∀ x ∈ ns, PyData.strOk x = true
  ul : ulGo ns.reverse (ns.take r) [] = ((ns.take (n - r)).reverse, [])
  tn : ((turnsS ns).take r).Nodup
  bn : ((turnsS ns.reverse).take r).Nodup
  tok : ∀ x ∈ (turnsS ns).take r, PyData.strOk x = true
  bok : ∀ x ∈ (turnsS ns.reverse).take r, PyData.strOk x = true
  mir : TwoMir keys → ((turnsS ns).take r).Perm ((turnsS ns.reverse).take r)
  apart : ¬ TwoMir keys → ∀ x ∈ (turnsS ns).take r, x ∉ (turnsS ns.reverse).take r
theorem firstLike_spec {ls : List Str} {i : Nat} (hi : i < ls.length) : firstLike ls i ∈ ls ∧ Txt.lower ls[i] = Txt.lower (firstLike ls i) := by
  have h := List.mem_filter.mp (List.mem_of_getElem? (firstLike_at hi))
  exact ⟨List.mem_of_mem_take h.1, of_decide_eq_true h.2⟩
theorem firstLike_le {ls : List Str} {i j : Nat} (hij : i ≤ j) (hj : j < ls.length) (h : Txt.lower (ls[i]'(Nat.lt_of_le_of_lt hij hj)) = Txt.lower ls[j]) : firstLike ls i = firstLike ls j := by
  have h1 := firstLike_at (Nat.lt_of_le_of_lt hij hj)
  have h2 := firstLike_at hj
  rw [← h] at h2
  have e : ls.take (j + 1) = ls.take (i + 1) ++ (ls.take (j + 1)).drop (i + 1) := by
    conv => lhs; rw [← List.take_append_drop (i + 1) (ls.take (j + 1))]
    rw [List.take_take, Nat.min_eq_left (by omega)]
  rw [e, List.filter_append, List.getElem?_append_left (by
    cases hn : (ls.take (i + 1)).filter (fun o => decide (Txt.lower (ls[i]'(Nat.lt_of_le_of_lt hij hj)) = Txt.lower o)) with
    | nil => rw [hn] at h1; cases h1
    | cons _ _ => simp), h1] at h2
  exact Option.some.inj h2
theorem firstLike_iff {ls : List Str} {i j : Nat} (hi : i < ls.length) (hj : j < ls.length) : firstLike ls i = firstLike ls j ↔ Txt.lower ls[i] = Txt.lower ls[j] := by
  constructor
  · intro h
    rw [(firstLike_spec hi).2, (firstLike_spec hj).2, h]
  · intro h
    rcases Nat.le_total i j with hij | hij
    · exact firstLike_le hij hj h
    · exact (firstLike_le hij hi h.symm).symm
theorem namesS_len (ls : List Str) : (namesS ls).length = ls.length := by unfold namesS; rw [List.length_map, List.length_range]
theorem namesS_at {ls : List Str} {i : Nat} (hi : i < ls.length) : (namesS ls)[i]? = some (firstLike ls i) := by
  unfold namesS
  rw [List.getElem?_map, List.getElem?_range hi]; rfl
theorem low_str (a b : Int) : Txt.lower (labS a) = Txt.lower (labS b) ↔ lowL a = lowL b := by
  rw [← lowS_list, ← lowS_list]
  exact ⟨fun h => by rw [h], str_ext⟩
theorem like_names {rs : List Int} (hrg : ∀ x ∈ rs, 0 ≤ x ∧ x < 65536) : Like (rs.map seenZ) (namesS (rs.map labS)) := by
  refine ⟨by rw [namesS_len, List.length_map, List.length_map], fun i j hi hj => ?_⟩
  rw [List.length_map] at hi hj
  have hi' : i < (rs.map labS).length := by rw [List.length_map]; exact hi
  have hj' : j < (rs.map labS).length := by rw [List.length_map]; exact hj
  rw [namesS_at hi', namesS_at hj', List.getElem?_map, List.getElem?_map, List.getElem?_eq_getElem hi, List.getElem?_eq_getElem hj]
  simp only [Option.map_some, Option.some.injEq]
  rw [firstLike_iff hi' hj', List.getElem_map, List.getElem_map, low_str]
  exact (low_iff (hrg _ (List.getElem_mem hi)) (hrg _ (List.getElem_mem hj))).symm
/-- a text of ten signs of labels -/
structure Lab (x : Str) : Prop where
  len : x.cps.toList.length = 10
  abc : ∀ c ∈ x.cps.toList, AbcL c
theorem names_lab {rs : List Int} : ∀ x ∈ namesS (rs.map labS), Lab x := by
  intro x hx
  unfold namesS at hx
  obtain ⟨i, hi, rfl⟩ := List.mem_map.mp hx
  obtain ⟨k, -, hk⟩ := List.mem_map.mp (firstLike_spec (List.mem_range.mp hi)).1
  rw [← hk]
  exact ⟨labL_len k, fm_abc k⟩
theorem abc_small {c : Nat} (h : AbcL c) : c < 0x110000 := by
  have : ∀ c ∈ [45, 63, 98, 99, 100, 108, 112, 114, 115, 116, 119, 120, 83, 84], c < 0x110000 := by decide
  exact this c h
theorem strOk_of {x : Str} (h : ∀ c ∈ x.cps.toList, c < 0x110000) : PyData.strOk x = true := by
  unfold PyData.strOk
  rw [← Array.all_toList, List.all_eq_true]
  intro c hc
  exact decide_eq_true (h c hc)
theorem turn_list {ss : List Str} (h1 : 1 ≤ ss.length) (i : Nat) : (turnAt ss i).cps.toList = (blocks ((rotL ss i).map (·.cps.toList))).tail := by
  have : 1 ≤ (rotL ss i).length := by rw [rotL_length]; exact h1
  exact join_list this
theorem rot_mem {α : Type} {ss : List α} {i : Nat} {x : α} (h : x ∈ rotL ss i) : x ∈ ss := by
  unfold rotL at h
  rcases List.mem_append.mp h with h | h
  · exact List.mem_of_mem_drop h
  · exact List.mem_of_mem_take h
theorem rot_ten {ss : List Str} (hs : ∀ x ∈ ss, Lab x) (i : Nat) : Ten ((rotL ss i).map (·.cps.toList)) := fun x hx => by
  obtain ⟨y, hy, rfl⟩ := List.mem_map.mp hx
  exact (hs y (rot_mem hy)).len
theorem turn_inj {ss ts : List Str} (hs : ∀ x ∈ ss, Lab x) (ht : ∀ x ∈ ts, Lab x) (h1 : 1 ≤ ss.length) (h2 : 1 ≤ ts.length) {i j : Nat} (h : turnAt ss i = turnAt ts j) : rotL ss i = rotL ts j := by
  have e : (blocks ((rotL ss i).map (·.cps.toList))).tail = (blocks ((rotL ts j).map (·.cps.toList))).tail := by rw [← turn_list h1, ← turn_list h2, h]
  have e2 : blocks ((rotL ss i).map (·.cps.toList)) = blocks ((rotL ts j).map (·.cps.toList)) := by
    rw [← tail_dot (by rw [List.length_map, rotL_length]; exact h1), ← tail_dot (L := (rotL ts j).map (·.cps.toList)) (by rw [List.length_map, rotL_length]; exact h2), e]
  exact (List.map_inj_right fun x y => str_ext).mp (blocks_inj (rot_ten hs i) (rot_ten ht j) e2)
theorem turn_ok {ss : List Str} (hs : ∀ x ∈ ss, Lab x) (h1 : 1 ≤ ss.length) (i : Nat) : PyData.strOk (turnAt ss i) = true := by
  refine strOk_of fun c hc => ?_
  rw [turn_list h1] at hc
  rcases blocks_mem (List.mem_of_mem_tail hc) with rfl | ⟨x, hx, hc⟩
  · decide
  · obtain ⟨y, hy, rfl⟩ := List.mem_map.mp hx
    exact abc_small ((hs y (rot_mem hy)).abc c hc)
theorem turns_take {ss : List Str} {r : Nat} (hr : r ≤ ss.length) : (turnsS ss).take r = (List.range r).map (turnAt ss) := by
  unfold turnsS
  rw [← List.map_take, List.take_range, Nat.min_eq_left hr]
theorem turns_mem {ss : List Str} {r : Nat} (hr : r ≤ ss.length) {x : Str} (h : x ∈ (turnsS ss).take r) : ∃ i, i < r ∧ turnAt ss i = x := by
  rw [turns_take hr] at h
  obtain ⟨i, hi, e⟩ := List.mem_map.mp h
  exact ⟨i, List.mem_range.mp hi, e⟩
theorem turns_nodup {ss : List Str} {r : Nat} (hs : ∀ x ∈ ss, Lab x) (R : Root ss r) : ((turnsS ss).take r).Nodup := by
  have h1 : 1 ≤ ss.length := Nat.le_trans R.one R.le
  rw [turns_take R.le, List.Nodup, List.pairwise_map]
  refine List.pairwise_lt_range.imp_of_mem fun {i j} hi hj hij e => ?_
  have := rots_nodup R (List.mem_range.mp hi) (List.mem_range.mp hj) (turn_inj hs hs h1 h1 e)
  omega
theorem ul_nil : ∀ (X m : List Str), ulGo X [] m = (m ++ X, [])
  | [], m => by rw [ulGo, List.append_nil]
  | x :: X, m => by
    rw [ulGo, if_neg (by simp), ul_nil X, List.append_assoc]; rfl
theorem ul_perm : ∀ (l a : List Str) (X m : List Str), l.Perm a → ulGo (l ++ X) a m = ulGo X [] m
  | [], a, X, m, h => by rw [h.nil_eq.symm]; rfl
  | x :: l, a, X, m, h => by
    have hx : x ∈ a := h.mem_iff.mp (List.mem_cons_self ..)
    rw [List.cons_append, ulGo, if_pos hx]
    refine ul_perm l _ X m ?_
    have := h.erase x
    rwa [List.erase_cons_head] at this
theorem last_part {α : Type} {ns : List α} {r : Nat} (R : Root ns r) : ns.drop (ns.length - r) = ns.take r := by
  have hle := R.le
  have h0 := R.one
  refine List.ext_getElem? fun i => ?_
  by_cases hi : i < r
  · rw [List.getElem?_drop, List.getElem?_take_of_lt hi, ← cyc_at ns (by omega), ← cyc_at ns (show i < ns.length by omega)]
    have := (Per.whole ns).sub R.per (i : Int)
    rw [← this]; congr 1; omega
  · rw [List.getElem?_eq_none (by rw [List.length_drop]; omega), List.getElem?_eq_none (by rw [List.length_take]; omega)]
theorem ul_law {ns : List Str} {r : Nat} (R : Root ns r) : ulGo ns.reverse (ns.take r) [] = ((ns.take (ns.length - r)).reverse, []) := by
  have e : ns.reverse = (ns.drop (ns.length - r)).reverse ++ (ns.take (ns.length - r)).reverse := by
    rw [← List.reverse_append, List.take_append_drop]
  rw [e, ul_perm _ _ _ _ (by rw [last_part R]; exact List.reverse_perm _), ul_nil, List.nil_append]
theorem names_law {rs : List Int} {r : Nat} (h1 : 1 ≤ rs.length) (hrg : ∀ x ∈ rs, 0 ≤ x ∧ x < 65536) (hroot : IsRoot (rs.map seenZ) r) :
    NameFacts (rs.map seenZ) (namesS (rs.map labS)) rs.length r := by
  have hk1 : 1 ≤ (rs.map seenZ).length := by rw [List.length_map]; exact h1
  have LK := like_names hrg
  have R := LK.root hk1 (keys_root hroot)
  have hlab : ∀ x ∈ namesS (rs.map labS), Lab x := names_lab
  have hlen : (namesS (rs.map labS)).length = rs.length := by rw [namesS_len, List.length_map]
  generalize namesS (rs.map labS) = ns at *
  have hn1 : 1 ≤ ns.length := by omega
  have hlabr : ∀ x ∈ ns.reverse, Lab x := fun x hx => hlab x (List.mem_reverse.mp hx)
  have hr1 : 1 ≤ ns.reverse.length := by rw [List.length_reverse]; exact hn1
  have hrle : r ≤ ns.reverse.length := by rw [List.length_reverse]; exact R.le
  have tn := turns_nodup hlab R
  have bn := turns_nodup hlabr R.rev
  have tl : ((turnsS ns).take r).length = r := by rw [turns_take R.le, List.length_map, List.length_range]
  have bl : ((turnsS ns.reverse).take r).length = r := by rw [turns_take hrle, List.length_map, List.length_range]
  refine ⟨hlen, R.one, hlen ▸ R.le, ?_, ?_, hlen ▸ ul_law R, tn, bn, ?_, ?_, ?_, ?_⟩
  · intro x hx
    rw [len_list, (hlab x hx).len]; decide
  · intro x hx
    exact strOk_of fun c hc => abc_small ((hlab x hx).abc c hc)
  · intro x hx
    obtain ⟨i, -, rfl⟩ := turns_mem R.le hx
    exact turn_ok hlab hn1 i
  · intro x hx
    obtain ⟨i, -, rfl⟩ := turns_mem hrle hx
    exact turn_ok hlabr hr1 i
  · rintro ⟨c, hc, hm⟩
    have hm' : MirG ns c := (LK.mir hk1 (Nat.le_of_lt hc)).mp hm
    have hcl : c ≤ ns.length := by rw [List.length_map] at hc; omega
    have sub : (turnsS ns.reverse).take r ⊆ (turnsS ns).take r := by
      intro x hx
      obtain ⟨j, hj, rfl⟩ := turns_mem hrle hx
      obtain ⟨i, hi, e⟩ := rots_in R hm' hcl hj
      rw [turns_take R.le]
      exact List.mem_map.mpr ⟨i, List.mem_range.mpr hi, congrArg (Txt.join (Str.ofString ".")) e.symm⟩
    rw [List.perm_ext_iff_of_nodup tn bn]
    intro x
    refine ⟨fun hx => ?_, fun hx => sub hx⟩
    by_cases hb : x ∈ (turnsS ns.reverse).take r
    · exact hb
    · have := (List.nodup_cons.mpr ⟨hb, bn⟩).length_le_of_subset (l₂ := (turnsS ns).take r) (List.cons_subset.mpr ⟨hx, sub⟩)
      rw [List.length_cons, bl, tl] at this
      omega
  · intro hno x hx hb
    obtain ⟨i, hi, rfl⟩ := turns_mem R.le hx
    obtain ⟨j, hj, e⟩ := turns_mem hrle hb
    obtain ⟨c, hc, hm⟩ := rots_apart R hi hj (turn_inj hlab hlabr hn1 hr1 e.symm)
    have hck : c < (rs.map seenZ).length := by rw [List.length_map]; omega
    exact hno ⟨c, hck, (LK.mir hk1 (Nat.le_of_lt hck)).mpr hm⟩
end Mine
end
section -- Eq
open PySem PySem.W PyProof.Rows PySem.Calls PyProof.V PySem.Spec PySem.SeqAt
namespace Mine
section
variable {α : Type} (f : α → PyData)
theorem canAll : ∀ ns : List α, (∀ a ∈ ns, PyData.canLay0 (f a) = true) → PyData.canLayAll0 (ns.map f) = true
  | [], _ => rfl
  | a :: r, hf => by simp [PyData.canLayAll0, hf a (List.mem_cons_self ..), canAll r fun b hb => hf b (List.mem_cons_of_mem _ hb)]
theorem depAll (hf : ∀ a, PyData.depth (f a) = 0) : ∀ ns : List α, PyData.depthAll (ns.map f) = 0
  | [] => rfl
  | a :: r => by simp [PyData.depthAll, hf a, depAll hf r]
theorem shapedL (h2 : ∀ a, PyData.depth (f a) = 0) (ns : List α) (h1 : ∀ a ∈ ns, PyData.canLay0 (f a) = true) : SeqAt.shaped (.list (ns.map f)) = true := by
  simp [SeqAt.shaped, PyData.canLay0, PyData.depth, canAll f ns h1, depAll f h2]
theorem noMixL (h : ∀ a b, noMix (f a) (f b) = true) : ∀ ns ms : List α, noMixAll (ns.map f) (ms.map f) = true
  | [], [] => by simp [noMixAll]
  | [], _ :: _ => by simp [noMixAll]
  | _ :: _, [] => by simp [noMixAll]
  | a :: r, b :: q => by simp [noMixAll, h a b, noMixL h r q]
theorem sameL [DecidableEq α] (h : ∀ a b, PySem.Spec.same (f a) (f b) = decide (a = b)) : ∀ ns ms : List α, PySem.Spec.sameAll (ns.map f) (ms.map f) = decide (ns = ms)
  | [], [] => by simp [PySem.Spec.sameAll]
  | [], _ :: _ => by simp [PySem.Spec.sameAll]
  | _ :: _, [] => by simp [PySem.Spec.sameAll]
  | a :: r, b :: q => by
    simp only [List.map_cons, PySem.Spec.sameAll, h a b, sameL h r q]
    by_cases h : a = b <;> by_cases h' : r = q <;> simp [h, h']
end
inductive BoolsA : List Value → List Bool → Prop
  | nil : BoolsA [] []
  | cons (b : Bool) {vs : List Value} {bs : List Bool} (h : BoolsA vs bs) : BoolsA (.bool b :: vs) (b :: bs)
theorem BoolsA.length : ∀ {vs : List Value} {bs : List Bool}, BoolsA vs bs → vs.length = bs.length
  | _, _, .nil => rfl
  | _, _, .cons _ h => by rw [List.length_cons, List.length_cons, h.length]
theorem BoolsA.append : ∀ {vs ws : List Value} {bs cs : List Bool}, BoolsA vs bs → BoolsA ws cs → BoolsA (vs ++ ws) (bs ++ cs)
  | _, _, _, _, .nil, h => h
  | _, _, _, _, .cons b r, h => .cons b (r.append h)
theorem boolsCar : ∀ {vs : List Value} {ns : List Bool}, BoolsA vs ns → CarriedAll vs (ns.map PyData.bool)
  | _, _, .nil => .nil
  | _, _, .cons _ r => .cons (.bool _) (boolsCar r)
section
variable {prog : Program} {w : World} {A : Around} {E : Value → Shared → Prop} {s : Shared} {a b : Addr} {xs ys : List Value} {Q : Value → Shared → Prop}
theorem ne_bools {ns ms : List Bool} (ha : s.heap.IsList a xs.toArray) (hb : s.heap.IsList b ys.toArray) (hi : BoolsA xs ns) (hj : BoolsA ys ms) (hu : A.units + 64 < cLine) (h : Q (.bool (!decide (ns = ms))) s) :
    wpAny (model prog w) A (compareOp .NotEq (.ref a) (.ref b)) Q E s :=
  ne_dataH_same (reads_newData ha (boolsCar hi)) (reads_newData hb (boolsCar hj)) (shapedL _ (fun _ => rfl) _ (fun _ _ => rfl)) (shapedL _ (fun _ => rfl) _ (fun _ _ => rfl)) hu (by simp only [noMix]; exact noMixL _ (fun a b => by simp [noMix]) _ _) (by simp only [PySem.Spec.same]; rw [sameL _ (fun a b => by simp only [PySem.Spec.same]; rfl)]; exact h)
theorem canStr {x : Str} (h : PyData.strOk x = true) : PyData.canLay0 (.str x) = true := by
  simp only [PyData.canLay0]; exact h
theorem ne_strs {ns ms : List Str} (ha : s.heap.IsList a xs.toArray) (hb : s.heap.IsList b ys.toArray) (hi : StrsAre xs ns) (hj : StrsAre ys ms) (hx : ∀ x ∈ ns, PyData.strOk x = true) (hy : ∀ x ∈ ms, PyData.strOk x = true) (hu : A.units + 64 < cLine) (h : Q (.bool (!decide (ns = ms))) s) :
    wpAny (model prog w) A (compareOp .NotEq (.ref a) (.ref b)) Q E s :=
  ne_dataH_same (reads_newData ha hi.carried) (reads_newData hb hj.carried) (shapedL _ (fun _ => rfl) _ (fun x h => canStr (hx x h))) (shapedL _ (fun _ => rfl) _ (fun x h => canStr (hy x h))) hu (by simp only [noMix]; exact noMixL _ (fun a b => by simp [noMix]) _ _) (by simp only [PySem.Spec.same]; rw [sameL _ (fun a b => by simp only [PySem.Spec.same]; rfl)]; exact h)
theorem eq_strs {ns ms : List Str} (ha : s.heap.IsList a xs.toArray) (hb : s.heap.IsList b ys.toArray) (hi : StrsAre xs ns) (hj : StrsAre ys ms) (hx : ∀ x ∈ ns, PyData.strOk x = true) (hy : ∀ x ∈ ms, PyData.strOk x = true) (hu : A.units + 64 < cLine) (h : Q (.bool (decide (ns = ms))) s) :
    wpAny (model prog w) A (compareOp .Eq (.ref a) (.ref b)) Q E s :=
  eq_dataH_same (reads_newData ha hi.carried) (reads_newData hb hj.carried) (shapedL _ (fun _ => rfl) _ (fun x h => canStr (hx x h))) (shapedL _ (fun _ => rfl) _ (fun x h => canStr (hy x h))) hu (by simp only [noMix]; exact noMixL _ (fun a b => by simp [noMix]) _ _) (by simp only [PySem.Spec.same]; rw [sameL _ (fun a b => by simp only [PySem.Spec.same]; rfl)]; exact h)
end
end Mine
end
section -- Cx
open PySem PySem.W PyProof.Rows PySem.Calls
namespace Mine
abbrev emptyCell : Obj := { cls := .type "cell", data := .cell none }
section
variable {prog : Program} {w : World} {A : Around} {E : Value → Shared → Prop} {s : Shared} {env : Env}
theorem newEnv1 {scope : Scope} {globals : Addr} {cl : List (Str × Addr)} {qual : Str} {x : Str} {Q : Env → Shared → Prop}
    (hcf : ∀ n, cellsFrom n scope.names cl = (x, n) :: cl) (hpc : ∀ h, pushCells h scope.names = h.push emptyCell)
    (hQ : Q (newEnv scope s.heap.objs.size globals ((x, s.heap.objs.size + 1) :: cl) qual none .none (some env) builtinsNs) { s with heap := (s.heap.push { cls := .type "dict", data := .dict #[] }).push emptyCell }) :
    wpAny (model prog w) A (newFunctionEnv scope globals cl [] qual none .none (some env)) Q E s := by
  simp only [newFunctionEnv, Option.isSome_some, if_true]
  refine wpAny_bind (wpAny_alloc ?_)
  refine wpAny_bind (wpAny_layCells _ (fun name kind cells => by cases hkc : kind == NameKind.cell <;> simp [hkc]) _ _ _ _ ?_)
  rw [hcf, hpc]
  rw [show ({ s with heap := s.heap.push { cls := .type "dict", data := .dict #[] } } : Shared).heap.objs.size = s.heap.objs.size + 1 from Heap.size_push ..]
  refine wpAny_bind (wpAny_pure ?_)
  exact wpAny_pure hQ

theorem comp_block1 {elt target iter : Expr} {ifs : List Expr} {scope : Scope} {cl : List (Str × Addr)} {x : Str} {pos : Pos} {use : Option (Value → Sem Unit)} {Q : Value → Shared → Prop} {g h₂ : Heap} {I : Addr} {fp wr : List Addr} {n : Nat} {P Md : Nat → Value → Heap → Prop} {St : Nat → Heap → Prop}
    (Z : Src prog w A target g h₂ I fp wr n P Md St) (hcf : ∀ n, cellsFrom n scope.names cl = (x, n) :: cl) (hpc : ∀ h, pushCells h scope.names = h.push emptyCell)
    (J : Addr → Nat → List Value → (Str → Option Value) → List (Addr × Obj) → Prop) (h0 : ∀ C, J C 0 [] (frm []) [(C + 1, emptyCell)]) (hJs : ∀ C i ys m' news', J C i ys m' news' → ys.length ≤ i)
    (step : ∀ C D i v ys k m₁ news₁ h₁ tk₁ own, (∀ b ∈ wr, @LT.lt Nat _ b D) → @LT.lt Nat _ D C → i < n → own.map (·.1) = wr → P i v h₁ → J C i ys m₁ news₁ → (∀ p ∈ news₁, p.1 ∉ wr) → (∀ p ∈ news₁, p.1 ≠ D) → Fr g C h₁ m₁ → News g C h₁ (own ++ (D, W.listOf ys.toArray k) :: news₁) →
      wpAny (model prog w) A (assign target (compEnvC scope ((x, C + 1) :: cl) C env) v) (fun _ s₂ => wpAny (model prog w) A (testsOf ifs (compEnvC scope ((x, C + 1) :: cl) C env)) (fun ok s₃ => if ok = true then wpAny (model prog w) A (eval elt (compEnvC scope ((x, C + 1) :: cl) C env)) (EltEnd g C wr own D ys k (J C (i + 1)) s) (fun _ _ => False) s₃ else EltNo g C wr own D ys k (J C (i + 1)) s s₃) (fun _ _ => False) s₂) (fun _ _ => False) { s with heap := h₁, toks := tk₁ })
    (hend : ∀ D C h' tk ys k m' news', g.get? D = none → g.objs.size ≤ C → D ≠ C → h'.Ns C m' → h'.get? D = some (W.listOf ys.toArray k) → (∀ b o, g.get? b = some o → h'.get? b = some o) → J C n ys m' news' → compPost (model prog w) A E use Q (.ref D) C (.ok .next) { s with heap := h', toks := tk }) :
    wpAny (model prog w) A (newList []) (fun acc s₃ => wpAny (model prog w) A (newFunctionEnv scope env.globals cl [] env.qual none .none (some env)) (fun cenv s₄ =>
      codeAny (model prog w) A (.compStart (.ListComp elt [⟨target, iter, ifs, 0⟩] scope pos) 0 (.ref I) acc { cenv with scope := relabel scope env }) (compPost (model prog w) A E use Q acc cenv.locals) s₄) E s₃) E { s with heap := h₂ } := by
  refine wpAny_newObj_type (newEnv1 hcf hpc ?_)
  dsimp only
  generalize hH2 : h₂.push { cls := .type "list", dict := none, data := .seq ([] : List Value).toArray } = H2
  have hC : H2.objs.size = h₂.objs.size + 1 := by rw [← hH2, Heap.size_push]
  have hDC : @LT.lt Nat _ h₂.objs.size H2.objs.size := by rw [hC]; exact Nat.lt_succ_self _
  generalize hH3 : H2.push { cls := .type "dict", data := .dict #[] } = H3
  have hC3 : H3.objs.size = H2.objs.size + 1 := by rw [← hH3, Heap.size_push]
  generalize hH4 : H3.push emptyCell = h₁
  have k34 : ∀ b o, H3.get? b = some o → h₁.get? b = some o := fun b o e => by rw [← hH4]; exact Heap.get?_push_of_some _ e
  have k24 : ∀ b o, H2.get? b = some o → h₁.get? b = some o := fun b o e => k34 b o (by rw [← hH3]; exact Heap.get?_push_of_some _ e)
  have up : ∀ b o, h₂.get? b = some o → h₁.get? b = some o := fun b o e => k24 b o (by rw [← hH2]; exact Heap.get?_push_of_some _ e)
  have hD : h₁.get? h₂.objs.size = some (W.listOf #[] 0) := k24 _ _ (by rw [← hH2]; exact Heap.get?_push_size _ rfl)
  have hcellg : h₁.get? (H2.objs.size + 1) = some emptyCell := by rw [← hC3, ← hH4]; exact Heap.get?_push_size _ rfl
  have hns₁ : h₁.Ns H2.objs.size (frm []) := (show H3.Ns H2.objs.size (frm []) from hH3 ▸ Heap.Ns.new H2 (.type "dict")).keeps k34
  have hDg : g.get? h₂.objs.size = none := Heap.get?_none_of_le Z.size
  have hCg : g.objs.size ≤ H2.objs.size := Nat.le_of_lt (Nat.lt_of_le_of_lt Z.size hDC)
  have hcg : g.get? (H2.objs.size + 1) = none := Heap.get?_none_of_le (Nat.le_succ_of_le hCg)
  have F₁ : Fr g H2.objs.size h₁ (frm []) := ⟨hns₁, fun b o e => up b o (Z.keep b o e), hCg⟩
  have N₁ : News g H2.objs.size h₁ [(h₂.objs.size, W.listOf #[] 0), (H2.objs.size + 1, emptyCell)] := fun p hp => by
    rcases List.mem_cons.mp hp with rfl | hp
    · exact ⟨hD, Nat.ne_of_lt hDC, hDg⟩
    · rw [List.mem_singleton.mp hp]; exact ⟨hcellg, Nat.succ_ne_self _, hcg⟩
  have st₁ : St 0 h₁ := Z.turns.frame _ _ _ Z.start fun b _ o e => up b o e
  have wrlt : ∀ b ∈ wr, @LT.lt Nat _ b h₂.objs.size := fun b hb => Z.below b (Z.turns.sub b hb)
  have loop : codeAny (model prog w) A (.compLoop (.ListComp elt [⟨target, iter, ifs, 0⟩] scope pos) 0 (.ref I) (.ref h₂.objs.size) (compEnvC scope ((x, H2.objs.size + 1) :: cl) H2.objs.size env)) (compPost (model prog w) A E use Q (.ref h₂.objs.size) H2.objs.size) { s with heap := h₁, toks := s.toks } := by
    refine comp_loop (s := { s with heap := h₁, toks := s.toks }) (src := []) (env := compEnvC scope ((x, H2.objs.size + 1) :: cl) H2.objs.size env) Z.turns ?_ ?_ Z.news (fun b hb hn => .inl (Z.olds b hb hn)) Z.live st₁ F₁ N₁ ?_ ?_ (J H2.objs.size) (h0 _) (fun i ys m' news' hJ => ⟨hJs _ i ys m' news' hJ, fun _ hp => nomatch hp⟩) Z.few ?_ ?_
    · intro hm
      exact absurd (Nat.lt_trans (Z.below _ hm) hDC) (Nat.lt_irrefl _)
    · intro hm
      exact absurd (wrlt _ hm) (Nat.lt_irrefl _)
    · intro p hp hm
      rw [List.mem_singleton.mp hp] at hm
      have := wrlt _ hm
      have h9 : @LT.lt Nat _ (H2.objs.size + 1) h₂.objs.size := this
      omega
    · intro p hp
      rw [List.mem_singleton.mp hp]
      show @Ne Nat (H2.objs.size + 1) h₂.objs.size
      omega
    · intro i v ys k m₁ news₁ h₃ tk₃ own a b c d e f F' N'
      exact step H2.objs.size h₂.objs.size i v ys k m₁ news₁ h₃ tk₃ own wrlt hDC a b c d e f F' N'
    · intro h' tk m' ys k news' F' N' hJ
      exact hend h₂.objs.size H2.objs.size h' tk ys k m' news' hDg hCg (Nat.ne_of_lt hDC) F'.ns (N' _ (List.mem_cons_self ..)).1 F'.keep hJ
  exact codeAny_compStart_list loop (Z.self _ _ _ st₁ loop)

theorem comp_assign1 {elt target iter : Expr} {y : Str} {py : Pos} {spos : Pos} {ifs : List Expr} {scope : Scope} {cl : List (Str × Addr)} {x : Str} {pos : Pos} {Q : Flow → Shared → Prop}
    (hsw : swapsWith (.ListComp elt [⟨target, iter, ifs, 0⟩] scope pos) (some (.Name y py)) spos.line env = pure true)
    (hclos : closureFor scope env = pure cl) (hcf : ∀ n, cellsFrom n scope.names cl = (x, n) :: cl) (hpc : ∀ h, pushCells h scope.names = h.push emptyCell) (hkind : scope.kind = .function)
    (hnames : ∀ y ∈ scope.names, y.2 = .local → scope.names.lookup y.1 = some .local)
    (hy : env.kindOf y = some .local) (hp : (env.scope.kind == .class || (env.scope.kind == .module && env.locals != env.globals)) = false)
    (h : wpAny (model prog w) A (eval iter env) (fun xv s₁ => wpAny (model prog w) A (pyIter xv) (fun it s₂ => ∃ (g h₂ : Heap) (I : Addr) (fp wr : List Addr) (n : Nat) (P Md : Nat → Value → Heap → Prop) (St : Nat → Heap → Prop) (J : Addr → Nat → List Value → (Str → Option Value) → List (Addr × Obj) → Prop) (m : Str → Option Value) (h₀ : Heap), it = .ref I ∧ s₂ = { s₁ with heap := h₂, toks := s₂.toks } ∧ Src prog w A target g h₂ I fp wr n P Md St ∧ Fr h₀ env.locals g m ∧
      (∀ C, J C 0 [] (frm []) [(C + 1, emptyCell)]) ∧ (∀ C i ys m' news', J C i ys m' news' → ys.length ≤ i) ∧
      (∀ C D i v ys k m₁ news₁ h₁ tk₁ own, (∀ b ∈ wr, @LT.lt Nat _ b D) → @LT.lt Nat _ D C → i < n → own.map (·.1) = wr → P i v h₁ → J C i ys m₁ news₁ → (∀ p ∈ news₁, p.1 ∉ wr) → (∀ p ∈ news₁, p.1 ≠ D) → Fr g C h₁ m₁ → News g C h₁ (own ++ (D, W.listOf ys.toArray k) :: news₁) →
        wpAny (model prog w) A (assign target (compEnvC scope ((x, C + 1) :: cl) C env) v) (fun _ s₃ => wpAny (model prog w) A (testsOf ifs (compEnvC scope ((x, C + 1) :: cl) C env)) (fun ok s₄ => if ok = true then wpAny (model prog w) A (eval elt (compEnvC scope ((x, C + 1) :: cl) C env)) (EltEnd g C wr own D ys k (J C (i + 1)) s₂) (fun _ _ => False) s₄ else EltNo g C wr own D ys k (J C (i + 1)) s₂ s₄) (fun _ _ => False) s₃) (fun _ _ => False) { s₂ with heap := h₁, toks := tk₁ }) ∧
      (∀ C D h' tk ys k m' news', g.get? D = none → h'.get? D = some (W.listOf ys.toArray k) → (∀ b o, b ≠ env.locals → g.get? b = some o → h'.get? b = some o) → Fr h₀ env.locals h' (fun z => if z = y then some (.ref D) else m z) → J C n ys m' news' → Q .next { s₂ with heap := h', toks := tk })) E s₁) E s)
    (hs : ∀ x, foldedSetIterable iter env x = pure x := by intro _; rfl) :
    wpAny (model prog w) A (exec (.Assign [.Name y py] (.ListComp elt [⟨target, iter, ifs, 0⟩] scope pos) spos) env) Q E s := by
  rw [exec_Assign_Name_used _ _ _ _ hsw]
  refine wpAny_bind (wpAny_standAt (wpAny_bind ?_))
  show wpAny _ A (do let _ ← comprehension (.ListComp elt [⟨target, iter, ifs, 0⟩] scope pos) scope env _ (newList []) false (eval iter env) (some (assign (.Name y py) env))) _ _ s
  refine wpAny_bind (wpAny_mono (wpAny_comprehension_free (use := some (assign (.Name y py) env)) (Q := fun _ s' => Q .next s') rfl hs hclos hkind hnames
    (wpAny_mono h (fun xv s₁ h₁ => wpAny_mono h₁ (fun it s₂ h₂ => ?_) fun _ _ e => e) fun _ _ e => e)) (fun _ s' hq => wpAny_pure (wpAny_pure hq)) fun _ _ e => e)
  obtain ⟨g, h₂, I, fp, wr, n, P, Md, St, J, m, h₀, rfl, e₂, Z, FL, h0, hJs, step, hend⟩ := h₂
  have e₃ : s₂ = { s₂ with heap := h₂ } := by rw [e₂]
  rw [e₃]
  refine comp_block1 (s := s₂) Z hcf hpc J h0 hJs step ?_
  intro D C h' tk ys k m' news' hD hC hDC hns hget hk hJ
  show wpAny _ A (assign (.Name y py) env (.ref D)) _ _ _
  have FL' : Fr h₀ env.locals h' m := FL.keeps hk
  have hLlt : env.locals < g.objs.size := FL.ns.lt
  have hLC : env.locals ≠ C := Nat.ne_of_lt (Nat.lt_of_lt_of_le hLlt hC)
  have hLD : D ≠ env.locals := by
    rintro rfl
    obtain ⟨oL, _, _, hL, _⟩ := FL.ns
    rw [hD] at hL; cases hL
  refine wpAny_assign_Name (wpAny_storeName_local hy FL'.ns (fun h₃ hn₃ hs₃ => ?_) hp)
  refine ⟨m', hns.sameBut hs₃ (Ne.symm hLC), fun h₄ hs₄ => ?_⟩
  have FL3 : Fr h₀ env.locals h₃ (fun z => if z = y then some (.ref D) else m z) := FL'.set hn₃ hs₃
  have ne : ∀ b o, g.get? b = some o → b ≠ C := fun b o e => Nat.ne_of_lt (Nat.lt_of_lt_of_le (Heap.lt_size e) hC)
  refine hend C D h₄ _ ys k m' news' hD (hs₄.extBut _ _ hDC (hs₃.extBut _ _ hLD hget)) (fun b o hb e => hs₄.extBut b o (ne b o e) (hs₃.extBut b o hb (hk b o e))) ⟨FL3.ns.sameBut hs₄ hLC, fun b o e => ?_, FL3.above⟩ hJ
  have e' := FL.keep b o e
  exact hs₄.extBut b o (ne b o e') (FL3.keep b o e)

theorem c_assign_pl {g : Heap} {C T : Addr} {m : Str → Option Value} {own rest : List (Addr × Obj)} {scope : Scope} {cl : List (Str × Addr)} {x y : Str} {px py pos : Pos} {k : Nat} {v1 v2 : Value} {oc : Obj} {c : Option Value} {Q : Unit → Shared → Prop} (hh : A.handled = none) (ht : s.heap.IsTuple T #[v1, v2])
    (F : Fr g C s.heap m) (N : News g C s.heap (own ++ (C + 1, oc) :: rest)) (hc : oc.data = .cell c) (ho : ∀ p ∈ own, p.1 ≠ C + 1) (hr : ∀ p ∈ rest, p.1 ≠ C + 1)
    (hx : (compEnvC scope ((y, C + 1) :: cl) C env).kindOf x = some .local) (hp : ((compEnvC scope ((y, C + 1) :: cl) C env).scope.kind == .class || ((compEnvC scope ((y, C + 1) :: cl) C env).scope.kind == .module && (compEnvC scope ((y, C + 1) :: cl) C env).locals != (compEnvC scope ((y, C + 1) :: cl) C env).globals)) = false)
    (hk : (compEnvC scope ((y, C + 1) :: cl) C env).scope.kind = .function) (hy : (compEnvC scope ((y, C + 1) :: cl) C env).kindOf y = some .cell)
    (h : ∀ h' tk oc', Fr g C h' (fun z => if z = x then some v1 else m z) → News g C h' (own ++ (C + 1, oc') :: rest) → oc'.data = .cell (some v2) → Q () { s with heap := h', toks := tk }) :
    wpAny (model prog w) A (assign (.Tuple [.Name x px, .Name y py] k pos) (compEnvC scope ((y, C + 1) :: cl) C env) (.ref T)) Q E s := by
  refine wpAny_assign_Tuple hh ht rfl rfl fun h₁ he₁ => ?_
  have k₁ : ∀ b o, s.heap.get? b = some o → h₁.get? b = some o := fun b o e => he₁ b o (Nat.ne_of_lt (Heap.lt_size e)) e
  have F₁ := F.keeps k₁
  have N₁ := N.grown k₁
  show wpAny _ A (assignInOrder [assign (.Name x px) (compEnvC scope ((y, C + 1) :: cl) C env), assign (.Name y py) (compEnvC scope ((y, C + 1) :: cl) C env)] [v1, v2]) Q E _
  unfold assignInOrder
  refine wpAny_bind (wpAny_holding ?_)
  refine c_assign F₁ N₁ hx hp fun h₂ tk₂ F₂ N₂ => ?_
  unfold assignInOrder
  refine wpAny_bind (wpAny_holding ?_)
  have hm := N₂ (C + 1, oc) (List.mem_append_right _ (.head _))
  refine wpAny_assign_Name (wpAny_storeName_cell hk hy (by show List.lookup y ((y, C + 1) :: cl) = some (C + 1); rw [List.lookup_cons, beq_self_eq_true]) ⟨oc, hm.1, hc⟩ fun h' hv hs => ?_)
  obtain ⟨o', ho', hd'⟩ := hv
  unfold assignInOrder
  refine wpAny_pure (h h' _ o' ⟨F₂.ns.sameBut hs (Ne.symm hm.2.1), fun b ob e => (hs.2 b (fun q => ?_)).trans (F₂.keep b ob e), F₂.above⟩ (N₂.setAt ho hr hs ho') hd')
  rw [q, hm.2.2] at e; cases e
end
end Mine
end
section -- So
open PySem PySem.W PyProof.Rows PySem.Calls PySem.Spec
namespace Mine
theorem rising_pw : ∀ (p : Str) (l : List Str), risingS p l = true → (p :: l).Pairwise (fun a b => a.cps.toList ≤ b.cps.toList)
  | p, [], _ => List.pairwise_singleton _ _
  | p, x :: r, h => by
    have h' : (!ltCps x.cps.toList p.cps.toList && risingS x r) = true := h
    rw [Bool.and_eq_true, Bool.not_eq_true', ltCps_eq, decide_eq_false_iff_not] at h'
    obtain ⟨h1, h2⟩ := h'
    have hpx : p.cps.toList ≤ x.cps.toList := h1
    have ih := rising_pw x r h2
    refine List.pairwise_cons.mpr ⟨fun y hy => ?_, ih⟩
    rcases List.mem_cons.mp hy with rfl | hy
    · exact hpx
    · exact List.le_trans hpx (List.rel_of_pairwise_cons ih hy)
theorem sorted_pw : ∀ (l : List Str), sortedS l = true → l.Pairwise (fun a b => a.cps.toList ≤ b.cps.toList)
  | [], _ => .nil
  | x :: r, h => rising_pw x r h
theorem sorted_one {a b : List Str} (ha : sortedS a = true) (hb : sortedS b = true) (hp : a.Perm b) : a = b := by
  refine List.Perm.eq_of_pairwise (fun x y _ _ h1 h2 => ?_) (sorted_pw a ha) (sorted_pw b hb) hp
  have := List.le_antisymm h1 h2
  cases x; cases y
  congr
  exact Array.toList_inj.mp this
end Mine
end
section -- Lf
theorem Mine.quiet_Lf : True := by
  w_top off
  trivial
local macro_rules | `(tactic| walk_at "idle") => `(tactic| skip)
open PySem PySem.W PyProof.Rows PySem.Calls
namespace Mine
theorem sorted_L {prog : Program} {w : World} {A : Around} {E : Value → Shared → Prop} {s : Shared} {h₀ : Heap} {L : Addr} {m : Str → Option Value} {news : List (Addr × Obj)} {l : Addr} {vs : List Value} {ss : List Str} {Q : Value → Shared → Prop}
    (F : Fr h₀ L s.heap m) (N : News h₀ L s.heap news) (hl : s.heap.IsList l vs.toArray) (hS : StrsAre vs ss) (h64 : ss.length < 64)
    (h : ∀ (D : Addr) (h' : Heap) (vs' : List Value) (ss' : List Str) (e : Nat), (∀ p ∈ news, @LT.lt Nat _ p.1 D) → Fr h₀ L h' m → News h₀ L h' ((D, W.listOf vs'.toArray e) :: news) →
      StrsAre vs' ss' → ss'.Perm ss → sortedS ss' = true → Q (.ref D) { s with heap := h' }) :
    wpAny (model prog w) A (call (.builtin "sorted") [.ref l]) Q E s :=
  sorted_N_str F N hl hS (by rw [hS.length]; exact h64) fun h' vs' ss' e F' N' a1 a2 a3 => h _ h' vs' ss' e (fun p hp => Nat.lt_succ_of_lt (Heap.lt_size (N p hp).1)) F' N' a1 a2 a3
set_option maxRecDepth 100000 in
set_option maxHeartbeats 8000000 in
set_option pp.deepTerms false in
set_option pp.maxSteps 30000 in
theorem law_f : ∀ (w : World) (oc : Value) (od : Option Addr) (name qual : Str) (params : Arguments) (body : List Stmt) (scope : Scope) (dV kV doc pm cd0 ct : Value) (an : Option Addr) (osl : Array (Option Value))
  (_ : (Mine.hd.heap_39 w.params).lookup 163 = some ⟨oc, od, .func (fnOf name qual params body scope dV kV doc pm an cd0 ct), osl⟩)
  (mean : ExcName → Option Value) (mg mb : Str → Option Value) (dp un : Nat) (gd : Option (List Code)) (fa : Addr) (cdv : Value) (g : Heap) (L : Addr) (h : Heap) (tk : Nat) (s : Shared) (Q : Flow → Shared → Prop)
  (_ : dp + 20 < recursionLimit) (_ : un + 400 < cLine) (_ : (Mine.hd.heap_39 w.params).In g) (_ : Top Mine.hd.view_39 LO mean mg mb g)
  (_ : ∀ h' tk' m', Fr g L h' m' → Q (.ret (.bool true)) {s with heap := h', toks := tk'}) (keys : List Int) (ns : List Str) (n : Nat) (DK DN : Addr) (kv nv : List Value) (kk kn : Nat) (sv dv rv fv zv lv lv2 : Option Value) (r : Nat) (tr : Tok) (oR : Obj) (_ : 1 ≤ n) (_ : n ≤ 6) (_ : keys.length = n) (_ : IntsAre kv keys) (_ : StrsAre nv ns) (_ : NameFacts keys ns n r)
  (_ : Fr g L h (frm [(Str.ofString "script", sv), (Str.ofString "draws", dv), (Str.ofString "ring", rv), (Str.ofString "keys", some (.ref DK)), (Str.ofString "size", zv), (Str.ofString "found", fv), (Str.ofString "names", some (.ref DN)), (Str.ofString "lacking", lv), (Str.ofString "left", lv2)])) (_ : News g L h [(DN, W.listOf nv.toArray kn), (DK, W.listOf kv.toArray kk), (L + 2, oR)])
  (_ : oR.data = .cell (some (.int (r : Nat) tr))), wpAny (model PySem.Challenge.rw_of0050_01.row.prog w) (({ handled := none, depth := dp, frames := some [], guards := gd, units := un } : Around).deeper (envOfC qual scope L fa cdv)) (execs (body.drop 13) (envOfC qual scope L fa cdv)) Q (fun _ _ => False) {s with heap := h, toks := tk} := by
  k_fill
  intro w oc od name qual params body scope dV kV doc pm cd0 ct an osl hfn mean mg mb dp un gd fa cdv g L h tk s Q hd hu X T hret keys ns n DK DN kv nv kk kn sv dv rv fv zv lv lv2 r tr oR h1 h6 hkl hik hns hNF F N hcr
  have hfn' := hfn
  k_dflt (refine' lookup_use ?k1 hfn ?_; (case k1 => k_is))
  clear hfn
  intro hq
  injection hq with q1 q2 q3 q4
  injection q3 with q3
  injection q3 with q5 q6 q7 q8 q9 q10 q11 q12 q13 q14 q15 q16 q17 q18
  injection q8 with q8
  subst q6 q8 q9
  clear q1 q2 q4 q5 q7 q10 q11 q12 q13 q14 q15 q16 q17 q18
  (try simp only [List.drop_succ_cons, List.drop_zero])
  obtain ⟨hlen, hr1, hrn, hsml, hok, -, htn, hbn, htok, hbok, hmir, hap⟩ := hNF
  have hnl : ns.reverse.length ≤ 6 := by rw [List.length_reverse]; omega
  have htl : (turnsS ns).length = n := by unfold turnsS; rw [List.length_map, List.length_range, hlen]
  have hbl : (turnsS ns.reverse).length = n := by unfold turnsS; rw [List.length_map, List.length_range, List.length_reverse, hlen]
  repeat ((fail_if_success (with_reducible show wpAny _ _ (call (Value.ref 151) _) _ _ _)); (first | (k_unfold; (try dsimp only)) | walk1 | (dsimp only; walk1)))
  refine Gh.use (turns_c _ _ _ _ hns (by omega) hsml) F N X T (by dsimp only [Around.deeper]; omega) (by dsimp only [Around.deeper]; omega) (News.isList N (by k_mem)) fun v9 h9 tk9 p9 K9 F9 N9 => ?_
  obtain ⟨a1, vs1, k1, rfl, hg1, hn1, hS1⟩ := p9
  replace N9 := newsRet F N9 hn1 hg1
  clear F N K9
  repeat ((fail_if_success (with_reducible show wpAny _ _ (call (Value.builtin "sorted") _) _ _ _)); (first | (k_unfold; (try dsimp only)) | walk1 | (dsimp only; walk1)))
  rename_i D1 hA FA NA hI1 lA
  rw [Int.toNat_natCast] at hI1
  refine sorted_L FA NA (News.isList NA (by k_mem)) hI1 (by rw [List.length_take]; omega) ?_
  intro A1 hB ws es e1 ltA FB NB hSe hpe hse
  have lt1 : @LT.lt Nat _ DN A1 := ltA (DN, _) (by k_mem)
  have lt2 : @LT.lt Nat _ DK A1 := ltA (DK, _) (by k_mem)
  have lt3 : @LT.lt Nat _ (L + 2) A1 := ltA (L + 2, oR) (by k_mem)
  replace NB : News g L hB [(A1, W.listOf ws.toArray e1), (DN, W.listOf nv.toArray kn), (DK, W.listOf kv.toArray kk), (L + 2, oR)] := cb_drop NB (fun p hp => by rcases List.mem_cons.mp hp with rfl | hp; (first | k_mem | exact List.mem_cons_self ..); rcases List.mem_cons.mp hp with rfl | hp; (first | k_mem | exact List.mem_cons_self ..); rcases List.mem_cons.mp hp with rfl | hp; (first | k_mem | exact List.mem_cons_self ..); rcases List.mem_cons.mp hp with rfl | hp; (first | k_mem | exact List.mem_cons_self ..); cases hp)
  clear FA NA ltA hI1 lA hg1 hn1 hS1
  repeat ((fail_if_success (with_reducible show wpAny _ _ (call (Value.ref 151) _) _ _ _)); (first | (k_unfold; (try dsimp only)) | walk1 | (dsimp only; walk1)))
  rename_i D2 hC FC NC hI2 lC
  refine Gh.use (turns_c _ _ _ _ hI2 (by omega) (fun x hx => hsml x (List.mem_reverse.mp hx))) FC NC X T (by dsimp only [Around.deeper]; omega) (by dsimp only [Around.deeper]; omega) (News.isList NC (by k_mem)) fun v9 h9 tk9 p9 K9 F9 N9 => ?_
  obtain ⟨a1, vs1, k1, rfl, hg1, hn1, hS1⟩ := p9
  replace N9 := newsRet FC N9 hn1 hg1
  clear FC NC K9
  repeat ((fail_if_success (with_reducible show wpAny _ _ (call (Value.builtin "sorted") _) _ _ _)); (first | (k_unfold; (try dsimp only)) | walk1 | (dsimp only; walk1)))
  rename_i D3 hD FD ND hI3 lD
  rw [Int.toNat_natCast] at hI3
  refine sorted_L FD ND (News.isList ND (by k_mem)) hI3 (by rw [List.length_take]; omega) ?_
  intro A2 hE zs as e2 ltA FE NE hSa hpa hsa
  have lt4 : @LT.lt Nat _ DN A2 := ltA (DN, _) (by k_mem)
  have lt5 : @LT.lt Nat _ DK A2 := ltA (DK, _) (by k_mem)
  have lt6 : @LT.lt Nat _ (L + 2) A2 := ltA (L + 2, oR) (by k_mem)
  have lt7 : @LT.lt Nat _ A1 A2 := ltA (A1, _) (by k_mem)
  replace NE : News g L hE [(A1, W.listOf ws.toArray e1), (A2, W.listOf zs.toArray e2), (DN, W.listOf nv.toArray kn), (DK, W.listOf kv.toArray kk), (L + 2, oR)] := cb_drop NE (fun p hp => by rcases List.mem_cons.mp hp with rfl | hp; (first | k_mem | exact List.mem_cons_self ..); rcases List.mem_cons.mp hp with rfl | hp; (first | k_mem | exact List.mem_cons_self ..); rcases List.mem_cons.mp hp with rfl | hp; (first | k_mem | exact List.mem_cons_self ..); rcases List.mem_cons.mp hp with rfl | hp; (first | k_mem | exact List.mem_cons_self ..); rcases List.mem_cons.mp hp with rfl | hp; (first | k_mem | exact List.mem_cons_self ..); cases hp)
  clear FD ND ltA hI3 lD hg1 hn1 hS1
  repeat ((fail_if_success (with_reducible show wpAny _ _ (call (Value.ref 118) _) _ _ _)); (first | (k_unfold; (try dsimp only)) | walk1 | (dsimp only; walk1)))
  clear hfn'
  rename News g L _ _ => NG
  rename Fr g L _ _ => FG
  have hel : es.length = r := by rw [hpe.length_eq, List.length_take]; omega
  have hal : as.length = r := by rw [hpa.length_eq, List.length_take]; omega
  have hle : es.length ≤ 6 := by omega
  have hla : as.length ≤ 6 := by omega
  have hl1 : 1 ≤ es.length := by omega
  have hla1 : 1 ≤ as.length := by omega
  have hen : es.Nodup := hpe.nodup_iff.mpr htn
  have han : as.Nodup := hpa.nodup_iff.mpr hbn
  have oke : ∀ x ∈ es, PyData.strOk x = true := fun x hx => htok x (hpe.mem_iff.mp hx)
  have oka : ∀ x ∈ as, PyData.strOk x = true := fun x hx => hbok x (hpa.mem_iff.mp hx)
  have hapt : ∀ p ∈ [(DN, W.listOf nv.toArray kn), (DK, W.listOf kv.toArray kk), (L + 2, oR)], ∀ q ∈ [(A1, W.listOf ws.toArray e1), (A2, W.listOf zs.toArray e2)], p.1 ≠ q.1 := by
    intro p hp q hq
    simp only [List.mem_cons, List.not_mem_nil, or_false] at hp hq
    rcases hp with rfl | rfl | rfl <;> rcases hq with rfl | rfl <;> (refine Nat.ne_of_lt ?_; with_reducible assumption)
  by_cases hm : TwoMir keys
  · have eas : es = as := sorted_one hse hsa (hpe.trans ((hmir hm).trans hpa.symm))
    subst eas
    refine sortedE_c w A1 A2 _ _ es e1 e2 hSe hSa hle hl1 hen lt7 mean mg mb _ _ gd _ g L _ [(DN, W.listOf nv.toArray kn), (DK, W.listOf kv.toArray kk), (L + 2, oR)] _ _ _ rfl (by intro hh; cases hh) (by dsimp only [Around.deeper]; omega) (by dsimp only [Around.deeper]; omega) X T FG NG hapt ?_
    intro v9 h9 tk9 news9 p9 F9 N9
    obtain ⟨TT, M, U, xs, ys, k9, l9, rfl, hxs, hys, rfl⟩ := p9
    clear NG FG
    dsimp only [List.cons_append, List.nil_append] at N9
    repeat ((fail_if_success (with_reducible show wpAny _ _ (call (Value.ref 158) _) _ _ _)); (first | (k_unfold; (try dsimp only)) | walk1 | (dsimp only; walk1)))
    rename News g L _ _ => NH
    rename Fr g L _ _ => FH
    refine Gh.use (mirrors_c _ _ _ _ hik (by omega)) FH NH X T (by dsimp only [Around.deeper]; omega) (by dsimp only [Around.deeper]; omega) (News.isList NH (by k_mem)) fun v8 h8 tk8 p8 K8 F8 N8 => ?_
    obtain ⟨b8, rfl, hb8⟩ := p8
    have eb : b8 = true := hb8.mpr hm
    subst eb
    clear FH NH K8 hb8
    repeat ((fail_if_success (with_reducible show wpAny _ _ (compareOp _ _ _) _ _ _)); (first | (k_unfold; (try dsimp only)) | walk1 | (dsimp only; walk1)))
    rename News g L _ _ => NI
    rename Fr g L _ _ => FI
    refine eq_strs (ys := []) (News.isList NI (by k_mem)) (News.isList NI (by k_mem)) hxs .nil (fun _ h => by cases h) (fun _ h => by cases h) (by dsimp only [Around.deeper]; omega) ?_
    rw [decide_eq_true rfl]
    repeat ((fail_if_success (with_reducible show wpAny _ _ (compareOp _ _ _) _ _ _)); (first | (k_unfold; (try dsimp only)) | walk1 | (dsimp only; walk1)))
    rename News g L _ _ => NJ
    rename Fr g L _ _ => FJ
    refine eq_strs (ys := []) (News.isList NJ (by k_mem)) (News.isList NJ (by k_mem)) hys .nil (fun _ h => by cases h) (fun _ h => by cases h) (by dsimp only [Around.deeper]; omega) ?_
    rw [decide_eq_true rfl]
    k_steps
    show Q _ _
    exact hret _ _ _ FJ
  · have hdis : ∀ x ∈ es, x ∉ as := fun x hx hy => hap hm x (hpe.mem_iff.mp hx) (hpa.mem_iff.mp hy)
    refine sortedD_c w A1 A2 _ _ es as e1 e2 hSe hSa hle hla hl1 hla1 hen han hdis lt7 mean mg mb _ _ gd _ g L _ [(DN, W.listOf nv.toArray kn), (DK, W.listOf kv.toArray kk), (L + 2, oR)] _ _ _ rfl (by intro hh; cases hh) (by dsimp only [Around.deeper]; omega) (by dsimp only [Around.deeper]; omega) X T FG NG hapt ?_
    intro v9 h9 tk9 news9 p9 F9 N9
    obtain ⟨TT, M, U, xs, ys, k9, l9, rfl, hxs, hys, rfl⟩ := p9
    clear NG FG
    dsimp only [List.cons_append, List.nil_append] at N9
    repeat ((fail_if_success (with_reducible show wpAny _ _ (call (Value.ref 158) _) _ _ _)); (first | (k_unfold; (try dsimp only)) | walk1 | (dsimp only; walk1)))
    rename News g L _ _ => NH
    rename Fr g L _ _ => FH
    refine Gh.use (mirrors_c _ _ _ _ hik (by omega)) FH NH X T (by dsimp only [Around.deeper]; omega) (by dsimp only [Around.deeper]; omega) (News.isList NH (by k_mem)) fun v8 h8 tk8 p8 K8 F8 N8 => ?_
    obtain ⟨b8, rfl, hb8⟩ := p8
    have eb : b8 = false := by cases b8 with | false => rfl | true => exact absurd (hb8.mp rfl) hm
    subst eb
    clear FH NH K8 hb8
    repeat ((fail_if_success (with_reducible show wpAny _ _ (compareOp _ _ _) _ _ _)); (first | (k_unfold; (try dsimp only)) | walk1 | (dsimp only; walk1)))
    rename News g L _ _ => NI
    rename Fr g L _ _ => FI
    refine eq_strs (News.isList NI (by k_mem)) (News.isList NI (by k_mem)) hxs hSe oke oke (by dsimp only [Around.deeper]; omega) ?_
    rw [decide_eq_true rfl]
    repeat ((fail_if_success (with_reducible show wpAny _ _ (compareOp _ _ _) _ _ _)); (first | (k_unfold; (try dsimp only)) | walk1 | (dsimp only; walk1)))
    rename News g L _ _ => NJ
    rename Fr g L _ _ => FJ
    refine eq_strs (News.isList NJ (by k_mem)) (News.isList NJ (by k_mem)) hys hSa oka oka (by dsimp only [Around.deeper]; omega) ?_
    rw [decide_eq_true rfl]
    k_steps
    show Q _ _
    exact hret _ _ _ FJ
end Mine
end
section -- Le
theorem Mine.quiet_Le : True := by
  w_top off
  trivial
open PySem PySem.W PyProof.Rows PySem.Calls
namespace Mine
set_option maxRecDepth 100000 in
set_option maxHeartbeats 8000000 in
set_option pp.deepTerms false in
set_option pp.maxSteps 30000 in
theorem law_e : ∀ (w : World) (oc : Value) (od : Option Addr) (name qual : Str) (params : Arguments) (body : List Stmt) (scope : Scope) (dV kV doc pm cd0 ct : Value) (an : Option Addr) (osl : Array (Option Value))
  (_ : (Mine.hd.heap_39 w.params).lookup 163 = some ⟨oc, od, .func (fnOf name qual params body scope dV kV doc pm an cd0 ct), osl⟩)
  (mean : ExcName → Option Value) (mg mb : Str → Option Value) (dp un : Nat) (gd : Option (List Code)) (fa : Addr) (cdv : Value) (g : Heap) (L : Addr) (h : Heap) (tk : Nat) (s : Shared) (Q : Flow → Shared → Prop)
  (_ : dp + 20 < recursionLimit) (_ : un + 400 < cLine) (_ : (Mine.hd.heap_39 w.params).In g) (_ : Top Mine.hd.view_39 LO mean mg mb g)
  (_ : ∀ h' tk' m', Fr g L h' m' → Q (.ret (.bool true)) {s with heap := h', toks := tk'}) (rs : List Int) (DK DN : Addr) (kv nv : List Value) (kk kn : Nat) (sv dv rv fv : Option Value) (r : Nat) (tr tn : Tok) (oR : Obj) (_ : 1 ≤ rs.length) (_ : rs.length ≤ 6) (_ : ∀ r ∈ rs, 0 ≤ r ∧ r < 65536) (_ : IntsAre kv (rs.map seenZ)) (_ : StrsAre nv (namesS (rs.map labS))) (_ : IsRoot (rs.map seenZ) r)
  (_ : Fr g L h (frm [(Str.ofString "script", sv), (Str.ofString "draws", dv), (Str.ofString "ring", rv), (Str.ofString "keys", some (.ref DK)), (Str.ofString "size", some (.int (rs.length : Nat) tn)), (Str.ofString "found", fv), (Str.ofString "names", some (.ref DN))])) (_ : News g L h [(DN, W.listOf nv.toArray kn), (DK, W.listOf kv.toArray kk), (L + 2, oR)])
  (_ : oR.data = .cell (some (.int (r : Nat) tr))), wpAny (model PySem.Challenge.rw_of0050_01.row.prog w) (({ handled := none, depth := dp, frames := some [], guards := gd, units := un } : Around).deeper (envOfC qual scope L fa cdv)) (execs (body.drop 11) (envOfC qual scope L fa cdv)) Q (fun _ _ => False) {s with heap := h, toks := tk} := by
  k_fill
  intro w oc od name qual params body scope dV kV doc pm cd0 ct an osl hfn mean mg mb dp un gd fa cdv g L h tk s Q hd hu X T hret rs DK DN kv nv kk kn sv dv rv fv r tr tn oR h1 h6 hrg hik hns hroot F N hcr
  have hfn' := hfn
  k_dflt (refine' lookup_use ?k1 hfn ?_; (case k1 => k_is))
  clear hfn
  intro hq
  injection hq with q1 q2 q3 q4
  injection q3 with q3
  injection q3 with q5 q6 q7 q8 q9 q10 q11 q12 q13 q14 q15 q16 q17 q18
  injection q8 with q8
  subst q6 q8 q9
  clear q1 q2 q4 q5 q7 q10 q11 q12 q13 q14 q15 q16 q17 q18
  (try simp only [List.drop_succ_cons, List.drop_zero])
  have hNF := names_law h1 hrg hroot
  generalize namesS (rs.map labS) = ns at hns hNF
  obtain ⟨hlen, hr1, hrn, hsml, hok, hul, -, -, -, -, -, -⟩ := id hNF
  repeat ((fail_if_success (with_reducible show wpAny _ _ (call (Value.ref 125) _) _ _ _)); (first | (k_unfold; (try dsimp only)) | walk1 | (dsimp only; walk1)))
  rename_i D1 hA hI1 lA D2 hB FB NB hI2 lB
  obtain ⟨lA1, lA2, lA3⟩ := lA
  obtain ⟨lB0, lB1, lB2, lB3⟩ := lB
  refine unord_c w D1 D2 _ _ _ _ 0 0 hI1 hI2 (by omega) (by rw [List.length_take]; omega) lB0 mean mg mb _ _ gd _ g L _ [(DN, W.listOf nv.toArray kn), (DK, W.listOf kv.toArray kk), (L + 2, oR)] _ _ _ rfl (by intro hh; cases hh) (by dsimp only [Around.deeper]; omega) (by dsimp only [Around.deeper]; omega) X T FB (cb_drop NB ?hd) ?hap ?_
  case hd =>
    intro p hp
    simp only [List.cons_append, List.nil_append, List.mem_cons, List.not_mem_nil, or_false] at hp ⊢
    rcases hp with h | h | h | h | h <;> simp only [h, true_or, or_true]
  case hap =>
    intro p hp q hq
    simp only [List.mem_cons, List.not_mem_nil, or_false] at hp hq
    rcases hp with rfl | rfl | rfl <;> rcases hq with rfl | rfl <;> (refine Nat.ne_of_lt ?_; with_reducible assumption)
  intro v9 h9 tk9 news9 p9 F9 N9
  obtain ⟨TT, M, xs, ys, k9, l9, rfl, hxs, hys, rfl⟩ := p9
  rw [Int.toNat_natCast, hul] at hxs hys
  dsimp only at hxs hys
  clear NB FB hI1 hI2
  dsimp only [List.cons_append, List.nil_append] at N9
  have hz : 0 ≤ (rs.length : Int) - (r : Int) := by omega
  repeat ((fail_if_success (with_reducible show wpAny _ _ (compareOp _ _ _) _ _ _)); (first | (k_unfold; (try dsimp only)) | walk1 | (dsimp only; walk1)))
  rename_i D3 h3 hI3 l3 D4 h4 F4 N4 hI4 l4
  have ez : ((rs.length : Int) - (r : Int)).toNat = rs.length - r := by omega
  have okt : ∀ x ∈ (List.take (rs.length - r) ns).reverse, PyData.strOk x = true := fun x hx => hok x (List.mem_of_mem_take (List.mem_reverse.mp hx))
  rw [ez] at hI4
  refine ne_strs (News.isList N4 (by k_mem)) (News.isList N4 (by rw [ez]; k_mem)) hxs hI4 okt okt (by dsimp only [Around.deeper]; omega) ?_
  rw [decide_eq_true rfl]
  dsimp only [Bool.not_true]
  clear hI3
  repeat ((fail_if_success (with_reducible show wpAny _ _ (compareOp _ _ _) _ _ _)); (first | (k_unfold; (try dsimp only)) | walk1 | (dsimp only; walk1)))
  rename News g L _ _ => N5
  rename Fr g L _ _ => F5
  refine ne_strs (ys := []) (News.isList N5 (by k_mem)) (News.isList N5 (by k_mem)) hys .nil (fun _ h => by cases h) (fun _ h => by cases h) (by dsimp only [Around.deeper]; omega) ?_
  rw [decide_eq_true rfl]
  dsimp only [Bool.not_true]
  repeat ((fail_if_success (with_reducible show wpAny _ _ (execs (Stmt.Assign [Expr.Name (Str.ofString "there") _] _ _ :: _) _) _ _ _)); (first | (k_unfold; (try dsimp only)) | walk1 | (dsimp only; walk1)))
  rename News g L _ _ => N6
  rename Fr g L _ _ => F6
  refine law_f w oc od name _ params _ _ dV kV doc pm cd0 ct an osl hfn' mean mg mb dp un gd fa cdv g L _ _ s Q hd hu X T hret (rs.map seenZ) ns rs.length _ _ _ _ _ _ _ _ _ _ _ _ _ _ _ _ h1 h6 (by rw [List.length_map]) hik hns hNF (Fr.to F6 (frm_set' (frm_set' rfl))) (cb_drop N6 (fun p hp => by rcases List.mem_cons.mp hp with rfl | hp; (first | k_mem | exact List.mem_cons_self ..); rcases List.mem_cons.mp hp with rfl | hp; (first | k_mem | exact List.mem_cons_self ..); rcases List.mem_cons.mp hp with rfl | hp; (first | k_mem | exact List.mem_cons_self ..); cases hp)) hcr
end Mine
end
section -- Ld
theorem Mine.quiet_Ld : True := by
  w_top off
  trivial
local macro_rules | `(tactic| walk_at "idle") => `(tactic| skip)
open PySem PySem.W PyProof.Rows PySem.Calls
namespace Mine
set_option maxRecDepth 100000 in
set_option maxHeartbeats 8000000 in
set_option pp.deepTerms false in
set_option pp.maxSteps 30000 in
theorem law_d : ∀ (w : World) (oc : Value) (od : Option Addr) (name qual : Str) (params : Arguments) (body : List Stmt) (scope : Scope) (dV kV doc pm cd0 ct : Value) (an : Option Addr) (osl : Array (Option Value))
  (_ : (Mine.hd.heap_39 w.params).lookup 163 = some ⟨oc, od, .func (fnOf name qual params body scope dV kV doc pm an cd0 ct), osl⟩)
  (mean : ExcName → Option Value) (mg mb : Str → Option Value) (dp un : Nat) (gd : Option (List Code)) (fa : Addr) (cdv : Value) (g : Heap) (L : Addr) (h : Heap) (tk : Nat) (s : Shared) (Q : Flow → Shared → Prop)
  (_ : dp + 20 < recursionLimit) (_ : un + 400 < cLine) (_ : (Mine.hd.heap_39 w.params).In g) (_ : Top Mine.hd.view_39 LO mean mg mb g)
  (_ : ∀ h' tk' m', Fr g L h' m' → Q (.ret (.bool true)) {s with heap := h', toks := tk'}) (rs : List Int) (DK DL : Addr) (kv lv : List Value) (kk kl : Nat) (sv dv rv fv : Option Value) (r : Nat) (tr td tn : Tok) (oR oL oD : Obj) (_ : 1 ≤ rs.length) (_ : rs.length ≤ 6) (_ : ∀ r ∈ rs, 0 ≤ r ∧ r < 65536) (_ : IntsAre kv (rs.map seenZ)) (_ : StrsAre lv (rs.map labS)) (_ : IsRoot (rs.map seenZ) r)
  (_ : Fr g L h (frm [(Str.ofString "script", sv), (Str.ofString "draws", dv), (Str.ofString "ring", rv), (Str.ofString "keys", some (.ref DK)), (Str.ofString "size", some (.int (rs.length : Nat) tn)), (Str.ofString "found", fv)])) (_ : News g L h [(DL, W.listOf lv.toArray kl), (DK, W.listOf kv.toArray kk), (L + 2, oR), (L + 3, oL), (L + 4, oD)])
  (_ : oR.data = .cell (some (.int (r : Nat) tr))) (_ : oL.data = .cell (some (.ref DL))) (_ : oD.data = .cell (some (.str (Str.ofString "." ++ Txt.join (Str.ofString ".") (rs.map labS)) td))), wpAny (model PySem.Challenge.rw_of0050_01.row.prog w) (({ handled := none, depth := dp, frames := some [], guards := gd, units := un } : Around).deeper (envOfC qual scope L fa cdv)) (execs (body.drop 10) (envOfC qual scope L fa cdv)) Q (fun _ _ => False) {s with heap := h, toks := tk} := by
  k_fill
  intro w oc od name qual params body scope dV kV doc pm cd0 ct an osl hfn mean mg mb dp un gd fa cdv g L h tk s Q hd hu X T hret rs DK DL kv lv kk kl sv dv rv fv r tr td tn oR oL oD h1 h6 hrg hik hls hroot F N hcr hcl hcd
  have hfn' := hfn
  k_dflt (refine' lookup_use ?k1 hfn ?_; (case k1 => k_is))
  clear hfn
  intro hq
  injection hq with q1 q2 q3 q4
  injection q3 with q3
  injection q3 with q5 q6 q7 q8 q9 q10 q11 q12 q13 q14 q15 q16 q17 q18
  injection q8 with q8
  subst q6 q8 q9
  clear q1 q2 q4 q5 q7 q10 q11 q12 q13 q14 q15 q16 q17 q18
  (try simp only [List.drop_succ_cons, List.drop_zero])
  repeat ((fail_if_success (with_reducible show wpAny _ _ (exec _ _) _ _ _)); (first | (k_unfold; (try dsimp only)) | walk1 | (dsimp only; walk1)))
  refine comp_assign1 (cl := [(Str.ofString "labels", L + 3)]) (x := Str.ofString "label") ?hsw ?hclos ?hcf ?hpc ?hkind ?hnames ?hy ?hp ?_ ?hs
  case hsw => with_unfolding_all rfl
  case hclos => with_unfolding_all rfl
  case hcf => intro _; rfl
  case hpc => intro _; rfl
  case hkind => rfl
  case hnames => decide
  case hy => rfl
  case hp => rfl
  case hs => intro _; rfl
  repeat ((fail_if_success (with_reducible show wpAny _ _ (call (Value.type "enumerate") _) _ _ _)); (first | (k_unfold; (try dsimp only)) | walk1 | (dsimp only; walk1)))
  have hlabs : h.IsList DL lv.toArray := News.isList N (by k_mem)
  have hgL : h.get? (L + 3) = some oL := N.get (by k_mem)
  refine call_enumerate_list hlabs fun hE1 hE2 hE3 hE4 hE5 => ?_
  refine wpAny_pyIter_enum hE2 ?_
  have XG := X.keeps F.keep
  have TG := T.keeps F.keep
  have hll : lv.length = rs.length := by rw [hls.length, List.length_map]
  refine ⟨h, _, _, _, _, _, _, _, _, fun C i ys m news => (∃ cv, m = frm cv) ∧ (∃ oc c, news = [(C + 1, oc)] ∧ oc.data = .cell c) ∧ StrsAre ys ((List.range i).map (firstLike (rs.map labS))), _, _, rfl, rfl, src_enum rfl hlabs (by rw [List.size_toArray]; omega) hE2 hE3 rfl rfl hE4 hE5, F, fun C => ⟨⟨[], rfl⟩, ⟨_, _, rfl, rfl⟩, .nil⟩, ?hJs, ?step, ?hend⟩
  case hJs =>
    rintro C i ys m' news' ⟨-, -, h⟩
    rw [h.length]; simp
  case step =>
    intro C D' i v ys k m₁ news₁ h₁ tk₁ own hwD hDC hi hown hP hJ hoff hoffD F₁ N₁
    obtain ⟨oe, oi, rfl⟩ := own2 hown
    obtain ⟨⟨cv, rfl⟩, ⟨oc, c, rfl, hoc⟩, hys⟩ := hJ
    obtain ⟨T1, vals, rfl, ⟨t1, x1, hx1, rfl⟩, hT1⟩ := hP
    have hi' : i < (rs.map labS).length := by rw [List.length_map]; rw [List.size_toArray, hll] at hi; exact hi
    obtain ⟨u1, hu1⟩ := hls.at (List.getElem?_eq_getElem hi')
    have hv : x1 = .str (rs.map labS)[i] u1 := by
      have h9 : lv[i]? = some x1 := by simpa using hx1
      rw [hu1] at h9; exact (Option.some.inj h9).symm
    subst hv
    have e1 : @LT.lt Nat _ (h.objs.size + 1) D' := hwD _ (List.mem_cons_self ..)
    have e2 : @LT.lt Nat _ h.objs.size D' := hwD _ (List.mem_cons_of_mem _ (List.mem_cons_self ..))
    dsimp only [List.cons_append, List.nil_append] at N₁
    refine c_assign_pl (own := [(h.objs.size + 1, oe), (h.objs.size, oi), (D', W.listOf ys.toArray k)]) (rest := []) rfl hT1 F₁ N₁ hoc ?_ (fun _ hp => by cases hp) rfl rfl rfl rfl fun h₂ tk₂ oc2 F₂ N₂ hc2 => ?_
    · intro p hp
      simp only [List.mem_cons, List.not_mem_nil, or_false] at hp
      rcases hp with rfl | rfl | rfl
      · show @Ne Nat _ (C + 1); omega
      · show @Ne Nat _ (C + 1); omega
      · show @Ne Nat _ (C + 1); omega
    refine tests_nil ?_
    rw [if_pos rfl]
    dsimp only [List.cons_append, List.nil_append] at N₂
    clear F N X T F₁ N₁ hT1
    repeat ((fail_if_success (with_reducible show wpAny _ _ (eval (Expr.ListComp _ _ _ _) _) _ _ _)); (first | (k_unfold; (try dsimp only)) | walk1 | (dsimp only; walk1)))
    refine comp_eval (cl := [(Str.ofString "label", C + 1)]) ?hclos ?hcell ?hkind ?hnames ?_ ?hs
    case hclos => with_unfolding_all rfl
    case hcell => decide
    case hkind => rfl
    case hnames => decide
    case hs => intro _; rfl
    repeat ((fail_if_success (with_reducible show wpAny _ _ (pyIter _) _ _ _)); (first | (k_unfold; (try dsimp only)) | walk1 | (dsimp only; walk1)))
    rename_i D4 h4 F4 N4 hI4 l4
    have hlen4 : (List.take (((i : Nat) : Int) + 1).toNat (List.map labS rs)).length ≤ 6 := by rw [List.length_take, List.length_map]; omega
    refine iter_list (News.isList N4 (by k_mem)) ?_
    have XH := XG.keeps F4.keep
    have TH := TG.keeps F4.keep
    have hgc : h4.get? (C + 1) = some oc2 := N4.get (by k_mem)
    have hlab4 : ∀ x ∈ List.take (((i : Nat) : Int) + 1).toNat (List.map labS rs), LabOk x := fun x hx => by
      obtain ⟨y, -, rfl⟩ := List.mem_map.mp (List.mem_of_mem_take hx)
      exact lab_ok y
    obtain ⟨la1, la2, la3⟩ : LabOk (rs.map labS)[i] := by
      obtain ⟨y, -, hy⟩ := List.mem_map.mp (List.getElem_mem hi')
      rw [← hy]; exact lab_ok y
    generalize htv : List.take (((i : Nat) : Int) + 1).toNat lv = tv at hI4 N4
    generalize hts : List.take (((i : Nat) : Int) + 1).toNat (List.map labS rs) = ts at hI4 hlen4 hlab4
    generalize hla : (rs.map labS)[i] = la at la1 la2 la3 hc2
    refine ⟨h4, _, _, _, _, _, _, _, _, fun j zs m news => (∃ cv, m = frm cv) ∧ news = [] ∧ StrsAre zs ((ts.take j).filter fun o => decide (Txt.lower la = Txt.lower o)), rfl, rfl, src_list rfl (News.isList N4 (by k_mem)) (by rw [List.size_toArray, hI4.length]; omega), ⟨⟨[], rfl⟩, rfl, .nil⟩, ?hJs2, ?step2, ?hend2⟩
    case hJs2 =>
      rintro j zs m' news' ⟨-, -, h⟩
      rw [h.length]
      exact Nat.le_trans (List.length_filter_le _ _) (by rw [List.length_take]; exact Nat.min_le_left _ _)
    case step2 =>
      intro C2 D2 j v2 zs k2 m₃ news₃ h₅ tk₅ own5 hwD2 hDC2 hj hown5 hP5 hJ5 hoff5 hoffD5 F₅ N₅
      obtain ⟨o5, rfl⟩ := own1 hown5
      obtain ⟨⟨cv5, rfl⟩, rfl, hzs⟩ := hJ5
      have hj' : j < ts.length := by rw [List.size_toArray, hI4.length] at hj; exact hj
      obtain ⟨u5, hu5⟩ := hI4.at (List.getElem?_eq_getElem hj')
      have hv5 : v2 = .str ts[j] u5 := by
        have h9 : tv[j]? = some v2 := by simpa using hP5
        rw [hu5] at h9; exact (Option.some.inj h9).symm
      subst hv5
      obtain ⟨lb1, lb2, lb3⟩ := hlab4 ts[j] (List.getElem_mem hj')
      refine c_assign F₅ N₅ rfl rfl fun h₆ tk₆ F₆ N₆ => ?_
      refine tests_one ?_
      dsimp only [List.cons_append, List.nil_append] at N₆
      clear F4 N4 XG TG F₅ N₅ hfn'
      repeat ((fail_if_success (with_reducible show wpAny _ _ (call (Value.ref 64) _) _ _ _)); (first | (k_unfold; (try dsimp only)) | walk1 | (dsimp only; walk1)))
      refine Gv.use (user_c _ _ _ _ _ la1 lb1 la2 lb2 lb3) (by k_asm) (by k_asm) (by k_asm) (by k_asm) (by ktr_room) (by ktr_units) fun v9 h9 tk9 p9 K9 F9 N9 => ?_
      subst p9
      (try dsimp only)
      (try k_fold)
      k_steps
      · refine ⟨_, _, _, [], rfl, by k_asm, by k_asm, (fun _ hp => by cases hp), (fun _ hp => by cases hp), ⟨_, frm_set' rfl⟩, rfl, ?_⟩
        rw [List.take_succ_eq_append_getElem hj', List.filter_append]
        have hq : Txt.lower la = Txt.lower ts[j] := by assumption
        rw [List.filter_cons_of_pos (by exact decide_eq_true hq), List.filter_nil]
        exact hzs.append' (.cons _ _ .nil)
      · refine ⟨_, _, _, [], rfl, by k_asm, by k_asm, (fun _ hp => by cases hp), (fun _ hp => by cases hp), ⟨_, frm_set' rfl⟩, rfl, ?_⟩
        rw [List.take_succ_eq_append_getElem hj', List.filter_append]
        have hq : ¬ Txt.lower la = Txt.lower ts[j] := by assumption
        rw [List.filter_cons_of_neg (by rw [decide_eq_true_eq]; exact hq), List.filter_nil, List.append_nil]
        exact hzs
    case hend2 =>
      intro D6 h₆ tk₆ zs kz m6 news6 hDn hDg hk hJ6
      obtain ⟨⟨cv6, rfl⟩, rfl, hzs⟩ := hJ6
      have F6 := F4.keeps hk
      have N6 := newsRet F4 (N4.grown hk) hDn hDg
      clear F4 N4 hfn' hk
      rw [List.size_toArray, hI4.length, List.take_length] at hzs
      have hx0 : (List.filter (fun o => decide (Txt.lower la = Txt.lower o)) ts)[(0 : Int).toNat]? = some (firstLike (rs.map labS) i) := by
        rw [← hts, ← hla, show (((i : Nat) : Int) + 1).toNat = i + 1 by omega]
        exact firstLike_at hi'
      repeat ((fail_if_success (with_reducible show wpAny _ _ (subscriptTail _ _ _ _) _ _ _)); (first | (k_unfold; (try dsimp only)) | walk1 | (dsimp only; walk1)))
      (first | (k_unfold; (try dsimp only)) | walk1 | (dsimp only; walk1))
      refine item_in (News.isList (by k_asm) (by k_mem)) hzs hx0 (by omega) (by omega) (fun t' => ?_) (by with_unfolding_all rfl) (by intro _; with_unfolding_all rfl)
      k_steps
      refine ⟨_, _, _, [(C + 1, oc2)], rfl, by k_asm, cb_drop (by k_asm) (fun p hp => by rcases List.mem_cons.mp hp with rfl | hp; (first | k_mem | exact List.mem_cons_self ..); rcases List.mem_cons.mp hp with rfl | hp; (first | k_mem | exact List.mem_cons_self ..); rcases List.mem_cons.mp hp with rfl | hp; (first | k_mem | exact List.mem_cons_self ..); rcases List.mem_cons.mp hp with rfl | hp; (first | k_mem | exact List.mem_cons_self ..); cases hp), ?_, ?_, ⟨_, frm_set' rfl⟩, ⟨oc2, _, rfl, hc2⟩, ?_⟩
      · intro p hp
        rw [List.mem_singleton.mp hp]
        exact hoff (C + 1, oc) (List.mem_singleton_self _)
      · intro p hp
        rw [List.mem_singleton.mp hp]
        exact hoffD (C + 1, oc) (List.mem_singleton_self _)
      · rw [List.range_succ, List.map_append]
        exact hys.append' (.cons _ _ .nil)
  case hend =>
    intro C DN h₃ tk₃ ys k m' news' hDn hDg hk F3 hJ
    obtain ⟨-, -, hys⟩ := hJ
    rw [List.size_toArray, hll, show rs.length = (rs.map labS).length by rw [List.length_map]] at hys
    replace hys : StrsAre ys (namesS (rs.map labS)) := hys
    replace F3 : Fr g L h₃ _ := F3
    replace hk : ∀ b o, b ≠ L → h.get? b = some o → h₃.get? b = some o := hk
    have N3 : News g L h₃ [(DL, W.listOf lv.toArray kl), (DK, W.listOf kv.toArray kk), (L + 2, oR), (L + 3, oL), (L + 4, oD)] := fun p hp => ⟨hk _ _ (N p hp).2.1 (N p hp).1, (N p hp).2⟩
    have N4 := newsRet F N3 hDn hDg
    refine law_e w oc od name _ params _ _ dV kV doc pm cd0 ct an osl hfn' mean mg mb dp un gd fa cdv g L _ _ s Q hd hu X T hret rs _ _ _ _ _ _ _ _ _ _ _ _ _ _ h1 h6 hrg hik hys hroot (Fr.to F3 (frm_set' rfl)) (cb_drop N4 (fun p hp => by rcases List.mem_cons.mp hp with rfl | hp; (first | k_mem | exact List.mem_cons_self ..); rcases List.mem_cons.mp hp with rfl | hp; (first | k_mem | exact List.mem_cons_self ..); rcases List.mem_cons.mp hp with rfl | hp; (first | k_mem | exact List.mem_cons_self ..); cases hp)) hcr
end Mine
end
section -- Lc
theorem Mine.quiet_Lc : True := by
  w_top off
  trivial
open PySem PySem.W PyProof.Rows PySem.Calls
namespace Mine
set_option maxRecDepth 100000 in
set_option maxHeartbeats 8000000 in
set_option pp.deepTerms false in
set_option pp.maxSteps 30000 in
theorem law_c : ∀ (w : World) (oc : Value) (od : Option Addr) (name qual : Str) (params : Arguments) (body : List Stmt) (scope : Scope) (dV kV doc pm cd0 ct : Value) (an : Option Addr) (osl : Array (Option Value))
  (_ : (Mine.hd.heap_39 w.params).lookup 163 = some ⟨oc, od, .func (fnOf name qual params body scope dV kV doc pm an cd0 ct), osl⟩)
  (mean : ExcName → Option Value) (mg mb : Str → Option Value) (dp un : Nat) (gd : Option (List Code)) (fa : Addr) (cdv : Value) (g : Heap) (L : Addr) (h : Heap) (tk : Nat) (s : Shared) (Q : Flow → Shared → Prop)
  (_ : dp + 20 < recursionLimit) (_ : un + 400 < cLine) (_ : (Mine.hd.heap_39 w.params).In g) (_ : Top Mine.hd.view_39 LO mean mg mb g)
  (_ : ∀ h' tk' m', Fr g L h' m' → Q (.ret (.bool true)) {s with heap := h', toks := tk'}) (rs : List Int) (DK DL : Addr) (kv lv : List Value) (kk kl : Nat) (sv dv rv : Option Value) (r : Nat) (tr td tn : Tok) (oR oL oD : Obj) (_ : 1 ≤ rs.length) (_ : rs.length ≤ 6) (_ : ∀ r ∈ rs, 0 ≤ r ∧ r < 65536) (_ : IntsAre kv (rs.map seenZ)) (_ : StrsAre lv (rs.map labS)) (_ : IsRoot (rs.map seenZ) r)
  (_ : Fr g L h (frm [(Str.ofString "script", sv), (Str.ofString "draws", dv), (Str.ofString "ring", rv), (Str.ofString "keys", some (.ref DK)), (Str.ofString "size", some (.int (rs.length : Nat) tn))])) (_ : News g L h [(DL, W.listOf lv.toArray kl), (DK, W.listOf kv.toArray kk), (L + 2, oR), (L + 3, oL), (L + 4, oD)])
  (_ : oR.data = .cell (some (.int (r : Nat) tr))) (_ : oL.data = .cell (some (.ref DL))) (_ : oD.data = .cell (some (.str (Str.ofString "." ++ Txt.join (Str.ofString ".") (rs.map labS)) td))), wpAny (model PySem.Challenge.rw_of0050_01.row.prog w) (({ handled := none, depth := dp, frames := some [], guards := gd, units := un } : Around).deeper (envOfC qual scope L fa cdv)) (execs (body.drop 8) (envOfC qual scope L fa cdv)) Q (fun _ _ => False) {s with heap := h, toks := tk} := by
  k_fill
  intro w oc od name qual params body scope dV kV doc pm cd0 ct an osl hfn mean mg mb dp un gd fa cdv g L h tk s Q hd hu X T hret rs DK DL kv lv kk kl sv dv rv r tr td tn oR oL oD h1 h6 hrg hik hls hroot F N hcr hcl hcd
  have hfn' := hfn
  k_dflt (refine' lookup_use ?k1 hfn ?_; (case k1 => k_is))
  clear hfn
  intro hq
  injection hq with q1 q2 q3 q4
  injection q3 with q3
  injection q3 with q5 q6 q7 q8 q9 q10 q11 q12 q13 q14 q15 q16 q17 q18
  injection q8 with q8
  subst q6 q8 q9
  clear q1 q2 q4 q5 q7 q10 q11 q12 q13 q14 q15 q16 q17 q18
  (try simp only [List.drop_succ_cons, List.drop_zero])
  repeat ((fail_if_success (with_reducible show wpAny _ _ (exec _ _) _ _ _)); (first | (k_unfold; (try dsimp only)) | walk1 | (dsimp only; walk1)))
  refine comp_assign (cl := [(Str.ofString "labels", L + 3), (Str.ofString "domain", L + 4)]) ?hsw ?hclos ?hcell ?hkind ?hnames ?hy ?hp ?_ ?hs
  case hsw => with_unfolding_all rfl
  case hclos => with_unfolding_all rfl
  case hcell => decide
  case hkind => rfl
  case hnames => decide
  case hy => rfl
  case hp => rfl
  case hs => intro _; rfl
  repeat ((fail_if_success (with_reducible show wpAny _ _ (call (Value.type "range") _) _ _ _)); (first | (k_unfold; (try dsimp only)) | walk1 | (dsimp only; walk1)))
  have hlabs : h.IsList DL lv.toArray := News.isList N (by k_mem)
  have hgL : h.get? (L + 3) = some oL := N.get (by k_mem)
  have hgD : h.get? (L + 4) = some oD := N.get (by k_mem)
  refine iter_range2 (n := rs.length) (by omega) fun hG tkG hgk => ?_
  have FG := F.keeps hgk
  have NG := N.grown hgk
  have XG := X.keeps FG.keep
  have TG := T.keeps FG.keep
  have hlabs' : hG.IsList DL lv.toArray := hlabs.at fun o e => hgk _ _ e
  have hgL' : hG.get? (L + 3) = some oL := hgk _ _ hgL
  have hgD' : hG.get? (L + 4) = some oD := hgk _ _ hgD
  clear hlabs hgL hgD
  have hls6 : (rs.map labS).length ≤ 6 := by rw [List.length_map]; exact h6
  refine ⟨hG, _, _, _, _, rs.length, _, _, _, fun i ys m news => (∃ cv, m = frm cv) ∧ news = [] ∧ BoolsA ys ((List.range i).map fun j => decide (r ≤ j + 1)), _, _, rfl, rfl, src_range rfl (by omega), FG, ⟨⟨[], rfl⟩, rfl, .nil⟩, ?hJs, ?step, ?hend⟩
  case hJs =>
    rintro i ys m' news' ⟨-, -, h⟩
    rw [h.length]; simp
  case step =>
    intro C D' i v ys k m₁ news₁ h₁ tk₁ own hwD hDC hi hown hP hJ hoff hoffD F₁ N₁
    obtain ⟨o, rfl⟩ := own1 hown
    obtain ⟨⟨cv, rfl⟩, rfl, hys⟩ := hJ
    obtain ⟨u, rfl⟩ := hP
    rw [show (1 + (i : Int) * 1) = ((i + 1 : Nat) : Int) by omega]
    refine c_assign F₁ N₁ rfl rfl fun h₂ tk₂ F₂ N₂ => ?_
    refine tests_nil ?_
    rw [if_pos rfl]
    dsimp only [List.singleton_append, List.cons_append, List.nil_append] at N₂
    clear F N FG NG X T F₁ N₁
    obtain ⟨d1, d2, d3, d4, d5, d6, d7⟩ := dom_law h1 h6 hrg hroot (((i + 1 : Nat) : Int).toNat) (by omega) (by omega)
    have hlb : ∀ x ∈ rs.map labS, x.length ≤ 20 := fun x hx => by obtain ⟨y, -, rfl⟩ := List.mem_map.mp hx; rw [labS_len]; decide
    have hw : ((rs.map labS ++ (rs.map labS).take (((i + 1 : Nat) : Int).toNat)).map (·.length)).sum + (rs.map labS ++ (rs.map labS).take (((i + 1 : Nat) : Int).toNat)).length ≤ 1048576 :=
      joinFits (fun x hx => by rcases List.mem_append.mp hx with h | h; exact hlb x h; exact hlb x (List.mem_of_mem_take h)) (by simp only [List.length_append, List.length_take]; omega)
    repeat ((fail_if_success (with_reducible show wpAny _ _ (call (Value.ref 50) _) _ _ _)); (first | (k_unfold; (try dsimp only)) | walk1 | (dsimp only; walk1)))
    refine Gv.use (domain_c _ _ _ _ _ d1 d2 d3 d4 d5 d6) (by k_asm) (by k_asm) (by k_asm) (by k_asm) (by ktr_room) (by ktr_units) fun v9 h9 tk9 p9 K9 F9 N9 => ?_
    subst p9
    (try dsimp only)
    (try k_fold)
    k_steps
    refine ⟨_, _, _, [], rfl, by k_asm, cb_drop (by k_asm) (fun p hp => by rcases List.mem_cons.mp hp with rfl | hp; (first | k_mem | exact List.mem_cons_self ..); rcases List.mem_cons.mp hp with rfl | hp; (first | k_mem | exact List.mem_cons_self ..); cases hp), (fun _ hp => by cases hp), (fun _ hp => by cases hp), ⟨_, frm_set' rfl⟩, rfl, ?_⟩
    rw [d7, List.range_succ, List.map_append]
    exact hys.append (.cons _ .nil)
  case hend =>
    intro DF h₃ tk₃ ys k m' news' hDn hDg hk F3 hJ
    obtain ⟨⟨cv, rfl⟩, rfl, hys⟩ := hJ
    replace F3 : Fr g L h₃ _ := F3
    replace hk : ∀ b o, b ≠ L → hG.get? b = some o → h₃.get? b = some o := hk
    have N3 : News g L h₃ [(DL, W.listOf lv.toArray kl), (DK, W.listOf kv.toArray kk), (L + 2, oR), (L + 3, oL), (L + 4, oD)] := fun p hp => ⟨hk _ _ (NG p hp).2.1 (NG p hp).1, (NG p hp).2⟩
    have N4 := newsRet FG N3 hDn hDg
    clear N F N3 hk XG TG FG NG hgL' hgD' hlabs'
    repeat ((fail_if_success (with_reducible show wpAny _ _ (eval (Expr.ListComp _ _ _ _) _) _ _ _)); (first | (k_unfold; (try dsimp only)) | walk1 | (dsimp only; walk1)))
    refine comp_eval (cl := [(Str.ofString "root", L + 2)]) ?hclos ?hcell ?hkind ?hnames ?_ ?hs
    case hclos => with_unfolding_all rfl
    case hcell => decide
    case hkind => rfl
    case hnames => decide
    case hs => intro _; rfl
    repeat ((fail_if_success (with_reducible show wpAny _ _ (call (Value.type "range") _) _ _ _)); (first | (k_unfold; (try dsimp only)) | walk1 | (dsimp only; walk1)))
    rename News g L _ _ => NB
    rename Fr g L _ _ => FB
    refine iter_range2 (n := rs.length) (by omega) fun hG tkG hgk => ?_
    have FG := FB.keeps hgk
    have NG := NB.grown hgk
    have hgR : hG.get? (L + 2) = some oR := NG.get (by k_mem)
    refine ⟨hG, _, _, _, _, rs.length, _, _, _, fun i ys m news => (∃ cv, m = frm cv) ∧ news = [] ∧ BoolsA ys ((List.range i).map fun j => decide (r ≤ j + 1)), rfl, rfl, src_range rfl (by omega), ⟨⟨[], rfl⟩, rfl, .nil⟩, ?hJs, ?step, ?hend⟩
    case hJs =>
      rintro i ys m' news' ⟨-, -, h⟩
      rw [h.length]; simp
    case step =>
      intro C D' i v ys k m₁ news₁ h₁ tk₁ own hwD hDC hi hown hP hJ hoff hoffD F₁ N₁
      obtain ⟨o, rfl⟩ := own1 hown
      obtain ⟨⟨cv, rfl⟩, rfl, hys⟩ := hJ
      obtain ⟨u, rfl⟩ := hP
      rw [show (1 + (i : Int) * 1) = ((i + 1 : Nat) : Int) by omega]
      refine c_assign F₁ N₁ rfl rfl fun h₂ tk₂ F₂ N₂ => ?_
      refine tests_nil ?_
      rw [if_pos rfl]
      dsimp only [List.singleton_append, List.cons_append, List.nil_append] at N₂
      clear FB NB FG NG F₁ N₁
      k_steps
      refine ⟨_, _, _, [], rfl, by k_asm, by k_asm, (fun _ hp => by cases hp), (fun _ hp => by cases hp), ⟨_, frm_set' rfl⟩, rfl, ?_⟩
      rw [List.range_succ, List.map_append]
      have e9 : decide (((i + 1 : Nat) : Int) ≥ ((r : Nat) : Int)) = decide (r ≤ i + 1) := by rw [decide_eq_decide]; omega
      refine hys.append ?_
      show BoolsA [.bool (decide (((i + 1 : Nat) : Int) ≥ ((r : Nat) : Int)))] [decide (r ≤ i + 1)]
      rw [e9]
      exact .cons _ .nil
    case hend =>
      intro DG h₄ tk₄ zs kz m' news' hDn hDg hk hJ
      obtain ⟨⟨cv, rfl⟩, rfl, hzs⟩ := hJ
      have F4 := FG.keeps hk
      have N4 := newsRet FG (NG.grown hk) hDn hDg
      clear FG NG FB NB hk
      refine ne_bools (News.isList N4 (by k_mem)) (News.isList N4 (by k_mem)) hys hzs (by dsimp only [Around.deeper]; omega) ?_
      rw [decide_eq_true rfl]
      dsimp only [Bool.not_true]
      repeat ((fail_if_success (with_reducible show wpAny _ _ (execs (Stmt.Assign _ (Expr.ListComp _ _ _ _) _ :: _) _) _ _ _)); (first | (k_unfold; (try dsimp only)) | walk1 | (dsimp only; walk1)))
      rename News g L _ _ => N9
      rename Fr g L _ _ => F9
      refine law_d w oc od name _ params _ _ dV kV doc pm cd0 ct an osl hfn' mean mg mb dp un gd fa cdv g L _ _ s Q hd hu X T hret rs _ _ _ _ _ _ _ _ _ _ _ _ _ _ _ _ _ h1 h6 hrg hik hls hroot (Fr.to F9 (frm_set' rfl)) (cb_drop N9 (fun p hp => by rcases List.mem_cons.mp hp with rfl | hp; (first | k_mem | exact List.mem_cons_self ..); rcases List.mem_cons.mp hp with rfl | hp; (first | k_mem | exact List.mem_cons_self ..); rcases List.mem_cons.mp hp with rfl | hp; (first | k_mem | exact List.mem_cons_self ..); rcases List.mem_cons.mp hp with rfl | hp; (first | k_mem | exact List.mem_cons_self ..); rcases List.mem_cons.mp hp with rfl | hp; (first | k_mem | exact List.mem_cons_self ..); cases hp)) hcr hcl hcd
end Mine
end
section -- Lb
theorem Mine.quiet_Lb : True := by
  w_top off
  trivial
local macro_rules | `(tactic| walk_at "idle") => `(tactic| skip)
open PySem PySem.W PyProof.Rows PySem.Calls
namespace Mine
set_option maxRecDepth 100000 in
set_option maxHeartbeats 8000000 in
set_option pp.deepTerms false in
set_option pp.maxSteps 30000 in
theorem law_b : ∀ (w : World) (oc : Value) (od : Option Addr) (name qual : Str) (params : Arguments) (body : List Stmt) (scope : Scope) (dV kV doc pm cd0 ct : Value) (an : Option Addr) (osl : Array (Option Value))
  (_ : (Mine.hd.heap_39 w.params).lookup 163 = some ⟨oc, od, .func (fnOf name qual params body scope dV kV doc pm an cd0 ct), osl⟩)
  (mean : ExcName → Option Value) (mg mb : Str → Option Value) (dp un : Nat) (gd : Option (List Code)) (fa : Addr) (cdv : Value) (g : Heap) (L : Addr) (h : Heap) (tk : Nat) (s : Shared) (Q : Flow → Shared → Prop)
  (_ : dp + 20 < recursionLimit) (_ : un + 400 < cLine) (_ : (Mine.hd.heap_39 w.params).In g) (_ : Top Mine.hd.view_39 LO mean mg mb g)
  (_ : ∀ h' tk' m', Fr g L h' m' → Q (.ret (.bool true)) {s with heap := h', toks := tk'}) (R : Addr) (rv : List Value) (rs : List Int) (k₀ : Nat) (sv dv : Option Value) (o2 o3 o4 : Obj) (_ : IntsAre rv rs) (_ : 1 ≤ rs.length) (_ : rs.length ≤ 6) (_ : ∀ r ∈ rs, 0 ≤ r ∧ r < 65536)
  (_ : Fr g L h (frm [(Str.ofString "script", sv), (Str.ofString "draws", dv), (Str.ofString "ring", some (.ref R))])) (_ : News g L h [(R, W.listOf rv.toArray k₀), (L + 2, o2), (L + 3, o3), (L + 4, o4)]) (_ : o2.data = .cell none) (_ : o3.data = .cell none) (_ : o4.data = .cell none), wpAny (model PySem.Challenge.rw_of0050_01.row.prog w) (({ handled := none, depth := dp, frames := some [], guards := gd, units := un } : Around).deeper (envOfC qual scope L fa cdv)) (execs (body.drop 3) (envOfC qual scope L fa cdv)) Q (fun _ _ => False) {s with heap := h, toks := tk} := by
  k_fill
  intro w oc od name qual params body scope dV kV doc pm cd0 ct an osl hfn mean mg mb dp un gd fa cdv g L h tk s Q hd hu X T hret R rv rs k₀ sv dv o2 o3 o4 hI h1 h6 hrg F N hc2 hc3 hc4
  have hfn' := hfn
  k_dflt (refine' lookup_use ?k1 hfn ?_; (case k1 => k_is))
  clear hfn
  intro hq
  injection hq with q1 q2 q3 q4
  injection q3 with q3
  injection q3 with q5 q6 q7 q8 q9 q10 q11 q12 q13 q14 q15 q16 q17 q18
  injection q8 with q8
  subst q6 q8 q9
  clear q1 q2 q4 q5 q7 q10 q11 q12 q13 q14 q15 q16 q17 q18
  (try simp only [List.drop_succ_cons, List.drop_zero])
  repeat ((fail_if_success (with_reducible show wpAny _ _ (exec _ _) _ _ _)); (first | (k_unfold; (try dsimp only)) | walk1 | (dsimp only; walk1)))
  refine comp_assign (cl := []) ?hsw ?hclos ?hcell ?hkind ?hnames ?hy ?hp ?_ ?hs
  case hsw => with_unfolding_all rfl
  case hclos => with_unfolding_all rfl
  case hcell => decide
  case hkind => rfl
  case hnames => decide
  case hy => rfl
  case hp => rfl
  case hs => intro _; rfl
  repeat ((fail_if_success (with_reducible show wpAny _ _ (pyIter _) _ _ _)); (first | (k_unfold; (try dsimp only)) | walk1 | (dsimp only; walk1)))
  have hlR : h.IsList R rv.toArray := News.isList N (by k_mem)
  refine iter_list hlR ?_
  have XG := X.keeps F.keep
  have TG := T.keeps F.keep
  refine ⟨h, _, _, _, _, _, _, _, _, fun i ys m news => (∃ cv, m = frm cv) ∧ news = [] ∧ IntsAre ys ((rs.take i).map seenZ), _, _, rfl, rfl, src_list rfl hlR (by rw [List.size_toArray, hI.length]; omega), F, ⟨⟨[], rfl⟩, rfl, .nil⟩, ?hJs, ?step, ?hend⟩
  case hJs =>
    rintro i ys m' news' ⟨-, -, h⟩
    rw [h.length, List.length_map, List.length_take]; exact Nat.min_le_left _ _
  case step =>
    intro C D' i v ys k m₁ news₁ h₁ tk₁ own hwD hDC hi hown hP hJ hoff hoffD F₁ N₁
    obtain ⟨o, rfl⟩ := own1 hown
    obtain ⟨⟨cv, rfl⟩, rfl, hys⟩ := hJ
    have hi' : i < rs.length := by rw [List.size_toArray, hI.length] at hi; exact hi
    have hx : rs[i]? = some rs[i] := List.getElem?_eq_getElem hi'
    obtain ⟨u, hu'⟩ := ints_at hI hx
    have hv : v = .int rs[i] u := by
      have h9 : rv[i]? = some v := by simpa using hP
      rw [hu'] at h9; exact (Option.some.inj h9).symm
    subst hv
    obtain ⟨hr0, hr1⟩ := hrg rs[i] (List.getElem_mem hi')
    refine c_assign F₁ N₁ rfl rfl fun h₂ tk₂ F₂ N₂ => ?_
    refine tests_nil ?_
    rw [if_pos rfl]
    dsimp only [List.singleton_append, List.cons_append, List.nil_append] at N₂
    clear F N X T F₁ N₁
    repeat ((fail_if_success (with_reducible show wpAny _ _ (call (Value.ref 132) _) _ _ _)); (first | (k_unfold; (try dsimp only)) | walk1 | (dsimp only; walk1)))
    refine Gv.use (seen_c _ _ _ hr0 hr1) (by k_asm) (by k_asm) (by k_asm) (by k_asm) (by ktr_room) (by ktr_units) fun v9 h9 tk9 p9 K9 F9 N9 => ?_
    obtain ⟨u9, rfl⟩ := p9
    (try dsimp only)
    (try k_fold)
    k_steps
    refine ⟨_, _, _, [], rfl, by k_asm, by k_asm, (fun _ hp => by cases hp), (fun _ hp => by cases hp), ⟨_, frm_set' rfl⟩, rfl, ?_⟩
    rw [List.take_succ_eq_append_getElem hi', List.map_append]
    exact hys.append (.cons _ _ .nil)
  case hend =>
    intro DK h₃ tk₃ ys k m' news' hDn hDg hk F3 hJ
    obtain ⟨⟨cv, rfl⟩, rfl, hys⟩ := hJ
    rw [List.size_toArray, hI.length, List.take_length] at hys
    replace F3 : Fr g L h₃ _ := F3
    replace hk : ∀ b o, b ≠ L → h.get? b = some o → h₃.get? b = some o := hk
    have N3 : News g L h₃ [(R, W.listOf rv.toArray k₀), (L + 2, o2), (L + 3, o3), (L + 4, o4)] := fun p hp => ⟨hk _ _ (N p hp).2.1 (N p hp).1, (N p hp).2⟩
    have N4 := newsRet F N3 hDn hDg
    have hlK : rs.length = (rs.map seenZ).length := by rw [List.length_map]
    clear N F N3 hk XG TG hlR
    dsimp only
    repeat ((fail_if_success (with_reducible show wpAny _ _ (call (Value.ref 139) _) _ _ _)); (first | (k_unfold; (try dsimp only)) | walk1 | (dsimp only; walk1)))
    rename News g L _ _ => NB
    rename Fr g L _ _ => FB
    refine Gh.use (root_c _ _ _ _ hys (by omega) (by omega)) FB NB X T (by dsimp only [Around.deeper]; omega) (by dsimp only [Around.deeper]; omega) (News.isList NB (by k_mem)) fun v9 h9 tk9 p9 K9 F9 N9 => ?_
    obtain ⟨r, ur, rfl, hroot⟩ := p9
    clear FB NB K9
    repeat ((fail_if_success (with_reducible show wpAny _ _ (eval (Expr.ListComp _ _ _ _) _) _ _ _)); (first | (k_unfold; (try dsimp only)) | walk1 | (dsimp only; walk1)))
    rename Obj.data _ = Data.cell (some (Value.int _ ur)) => hcr
    rename News g L _ _ => NB
    rename Fr g L _ _ => FB
    dsimp only [List.cons_append, List.nil_append] at NB
    rename_i hB oR

    refine comp_eval (cl := []) ?hclos ?hcell ?hkind ?hnames ?_ ?hs
    case hclos => with_unfolding_all rfl
    case hcell => decide
    case hkind => rfl
    case hnames => decide
    case hs => intro _; rfl
    repeat ((fail_if_success (with_reducible show wpAny _ _ (pyIter _) _ _ _)); (first | (k_unfold; (try dsimp only)) | walk1 | (dsimp only; walk1)))
    have hlR : hB.IsList R rv.toArray := News.isList NB (by k_mem)
    refine iter_list hlR ?_
    have XG := X.keeps FB.keep
    have TG := T.keeps FB.keep
    refine ⟨hB, _, _, _, _, _, _, _, _, fun i ys m news => (∃ cv, m = frm cv) ∧ news = [] ∧ StrsAre ys ((rs.take i).map labS), rfl, rfl, src_list rfl hlR (by rw [List.size_toArray, hI.length]; omega), ⟨⟨[], rfl⟩, rfl, .nil⟩, ?hJs, ?step, ?hend⟩
    case hJs =>
      rintro i ys m' news' ⟨-, -, h⟩
      rw [h.length, List.length_map, List.length_take]; exact Nat.min_le_left _ _
    case step =>
      intro C D' i v ys k m₁ news₁ h₁ tk₁ own hwD hDC hi hown hP hJ hoff hoffD F₁ N₁
      obtain ⟨o, rfl⟩ := own1 hown
      obtain ⟨⟨cv, rfl⟩, rfl, hys⟩ := hJ
      have hi' : i < rs.length := by rw [List.size_toArray, hI.length] at hi; exact hi
      have hx : rs[i]? = some rs[i] := List.getElem?_eq_getElem hi'
      obtain ⟨u, hu'⟩ := ints_at hI hx
      have hv : v = .int rs[i] u := by
        have h9 : rv[i]? = some v := by simpa using hP
        rw [hu'] at h9; exact (Option.some.inj h9).symm
      subst hv
      refine c_assign F₁ N₁ rfl rfl fun h₂ tk₂ F₂ N₂ => ?_
      refine tests_nil ?_
      rw [if_pos rfl]
      dsimp only [List.singleton_append, List.cons_append, List.nil_append] at N₂
      clear FB NB X T F₁ N₁
      repeat ((fail_if_success (with_reducible show wpAny _ _ (call (Value.ref 111) _) _ _ _)); (first | (k_unfold; (try dsimp only)) | walk1 | (dsimp only; walk1)))
      refine Gv.use (filemode_c _ _ _) (by k_asm) (by k_asm) (by k_asm) (by k_asm) (by ktr_room) (by ktr_units) fun v9 h9 tk9 p9 K9 F9 N9 => ?_
      obtain ⟨u9, rfl⟩ := p9
      (try dsimp only)
      (try k_fold)
      k_steps
      refine ⟨_, _, _, [], rfl, by k_asm, by k_asm, (fun _ hp => by cases hp), (fun _ hp => by cases hp), ⟨_, frm_set' rfl⟩, rfl, ?_⟩
      rw [List.take_succ_eq_append_getElem hi', List.map_append]
      exact hys.append' (.cons _ _ .nil)
    case hend =>
      intro DL h₄ tk₄ lv kL m' news' hDn hDg hk hJ
      obtain ⟨⟨cv, rfl⟩, rfl, hls⟩ := hJ
      rw [List.size_toArray, hI.length, List.take_length] at hls
      have F4 := FB.keeps hk
      have N4 := newsRet FB (NB.grown hk) hDn hDg
      clear FB NB hk XG TG hlR
      have hlb : ∀ x ∈ rs.map labS, x.length ≤ 20 := fun x hx => by obtain ⟨y, -, rfl⟩ := List.mem_map.mp hx; rw [labS_len]; decide
      have hw : ((rs.map labS).map (·.length)).sum + (rs.map labS).length ≤ 1048576 := joinFits hlb (by rw [List.length_map]; omega)
      with_unfolding_all refine stCNk (own := [_, _, _, _]) (rest := [_]) F4 N4 rfl hc3 (by cells_apart) (by cells_apart) ?_
      intro h5 oL F5 N5 hcl
      dsimp only [List.cons_append, List.nil_append] at N5
      clear F4 N4
      repeat ((fail_if_success (with_reducible show wpAny _ _ (binaryOp _ _ _) _ _ _)); (first | (k_unfold; (try dsimp only)) | walk1 | (dsimp only; walk1)))
      have hjl : (Txt.join (Str.ofString ".") (rs.map labS)).length ≤ 200 := joinShort hlb (by rw [List.length_map]; omega)
      refine PyProof.Rows.add_str (fun t6 tk6 => ?_) (by rw [sizeLine_eq]; show 1 + _ ≤ _; omega)
      rename News g L _ _ => N6
      rename Fr g L _ _ => F6
      with_unfolding_all refine stCNk (own := [_, _, _, _, _]) (rest := []) F6 N6 rfl hc4 (by cells_apart) (by cells_apart) ?_
      intro h7 oD F7 N7 hcd
      dsimp only [List.cons_append, List.nil_append] at N7
      clear F6 N6
      refine law_c w oc od name _ params _ _ dV kV doc pm cd0 ct an osl hfn' mean mg mb dp un gd fa cdv g L _ _ s Q hd hu X T hret rs _ _ _ _ _ _ _ _ _ _ _ _ _ _ _ _ h1 h6 hrg hys hls hroot (Fr.to F7 (frm_set' (frm_set' rfl))) (cb_drop N7 (fun p hp => by rcases List.mem_cons.mp hp with rfl | hp; (first | k_mem | exact List.mem_cons_self ..); rcases List.mem_cons.mp hp with rfl | hp; (first | k_mem | exact List.mem_cons_self ..); rcases List.mem_cons.mp hp with rfl | hp; (first | k_mem | exact List.mem_cons_self ..); rcases List.mem_cons.mp hp with rfl | hp; (first | k_mem | exact List.mem_cons_self ..); rcases List.mem_cons.mp hp with rfl | hp; (first | k_mem | exact List.mem_cons_self ..); cases hp)) hcr hcl hcd
end Mine
end
section -- La
theorem Mine.quiet_La : True := by
  w_top off
  trivial
open PySem PySem.W PyProof.Rows PySem.Calls
namespace Mine
theorem modesZ_range (k : Int) : ∀ r ∈ modesZ k, 0 ≤ r ∧ r < 65536 := by
  unfold modesZ
  have h0 : 0 ≤ (k * 2053).fmod 65536 := Int.fmod_nonneg_of_pos _ (by decide)
  have h1 : (k * 2053).fmod 65536 < 65536 := Int.fmod_lt_of_pos _ (by decide)
  generalize (k * 2053).fmod 65536 = f at *
  have e1 : f.fdiv 64 = f / 64 := Int.fdiv_eq_ediv_of_nonneg _ (by decide)
  have e2 : (f / 64).fmod 2 = (f / 64) % 2 := Int.fmod_eq_emod_of_nonneg _ (by decide)
  have e3 : (f + 20480).fmod 65536 = (f + 20480) % 65536 := Int.fmod_eq_emod_of_nonneg _ (by decide)
  rw [e1, e2, e3]
  intro r hr
  simp only [List.mem_cons, List.not_mem_nil, or_false] at hr
  rcases hr with rfl | rfl | rfl
  · exact ⟨h0, h1⟩
  · split <;> omega
  · omega
def pick3 (m0 m1 m2 x : Int) : Int := [m0, m1, m2].getD (x.fmod 3).toNat 0
theorem pick3_at (m0 m1 m2 x : Int) : [m0, m1, m2][(x.fmod 3).toNat]? = some (pick3 m0 m1 m2 x) := by
  have h0 : 0 ≤ x.fmod 3 := Int.fmod_nonneg_of_pos _ (by decide)
  have h1 : x.fmod 3 < 3 := Int.fmod_lt_of_pos _ (by decide)
  unfold pick3
  have h2 : (x.fmod 3).toNat < [m0, m1, m2].length := by show _ < 3; omega
  rw [List.getElem?_eq_getElem h2, List.getD_eq_getElem?_getD, List.getElem?_eq_getElem h2]; rfl
set_option maxRecDepth 100000 in
set_option maxHeartbeats 8000000 in
set_option pp.deepTerms false in
set_option pp.maxSteps 30000 in
theorem law_a : ∀ (w : World) (oc : Value) (od : Option Addr) (name qual : Str) (params : Arguments) (body : List Stmt) (scope : Scope) (dV kV doc pm cd0 ct : Value) (an : Option Addr) (osl : Array (Option Value))
  (_ : (Mine.hd.heap_39 w.params).lookup 163 = some ⟨oc, od, .func (fnOf name qual params body scope dV kV doc pm an cd0 ct), osl⟩)
  (mean : ExcName → Option Value) (mg mb : Str → Option Value) (dp un : Nat) (gd : Option (List Code)) (fa : Addr) (cdv : Value) (g : Heap) (L : Addr) (h : Heap) (tk : Nat) (s : Shared) (Q : Flow → Shared → Prop)
  (_ : dp + 20 < recursionLimit) (_ : un + 400 < cLine) (_ : (Mine.hd.heap_39 w.params).In g) (_ : Top Mine.hd.view_39 LO mean mg mb g)
  (_ : ∀ h' tk' m', Fr g L h' m' → Q (.ret (.bool true)) {s with heap := h', toks := tk'}) (l : Addr) (vs : List Value) (ns : List Int) (o1 o2 o3 o4 : Obj)
  (_ : IntsAre vs ns) (_ : ns.length ≤ 63) (_ : PyData.layable0 (.list (ns.map .int)) = true) (_ : g.IsList l vs.toArray)
  (_ : Fr g L h (frm [(Str.ofString "script", some (.ref l))])) (_ : News g L h [(L + 1, o1), (L + 2, o2), (L + 3, o3), (L + 4, o4)]) (_ : o1.data = .cell none) (_ : o2.data = .cell none) (_ : o3.data = .cell none) (_ : o4.data = .cell none), wpAny (model PySem.Challenge.rw_of0050_01.row.prog w) (({ handled := none, depth := dp, frames := some [], guards := gd, units := un } : Around).deeper (envOfC qual scope L fa cdv)) (execs (body.drop 0) (envOfC qual scope L fa cdv)) Q (fun _ _ => False) {s with heap := h, toks := tk} := by
  k_fill
  intro w oc od name qual params body scope dV kV doc pm cd0 ct an osl hfn mean mg mb dp un gd fa cdv g L h tk s Q hd hu X T hret l vs ns o1 o2 o3 o4 hI hlen hlay hL F N hc1 hc2 hc3 hc4
  have hfn' := hfn
  k_dflt (refine' lookup_use ?k1 hfn ?_; (case k1 => k_is))
  clear hfn
  intro hq
  injection hq with q1 q2 q3 q4
  injection q3 with q3
  injection q3 with q5 q6 q7 q8 q9 q10 q11 q12 q13 q14 q15 q16 q17 q18
  injection q8 with q8
  subst q6 q8 q9
  clear q1 q2 q4 q5 q7 q10 q11 q12 q13 q14 q15 q16 q17 q18
  (try simp only [List.drop_succ_cons, List.drop_zero])
  repeat ((fail_if_success (with_reducible show wpAny _ _ (call (Value.ref 146) _) _ _ _)); (first | (k_unfold; (try dsimp only)) | walk1 | (dsimp only; walk1)))
  refine Gv.use (modes_c _ _ _) (by k_asm) (by k_asm) X T (by dsimp only [Around.deeper]; omega) (by dsimp only [Around.deeper]; omega) fun v9 h9 tk9 p9 K9 F9 N9 => ?_
  obtain ⟨am, vm, nm, rfl, hmg, hmn, hIm⟩ := p9
  have N9' := newsRet (by k_asm) N9 hmn hmg
  clear N9
  obtain ⟨m0, m1, m2, hmz⟩ : ∃ m0 m1 m2, modesZ (List.take (Int.toNat 10) ns).sum = [m0, m1, m2] := ⟨_, _, _, rfl⟩
  rw [hmz] at hIm
  repeat ((fail_if_success (with_reducible show wpAny _ _ (eval (Expr.ListComp _ _ _ _) _) _ _ _)); (first | (k_unfold; (try dsimp only)) | walk1 | (dsimp only; walk1)))
  rename News g L _ _ => NA
  rename Fr g L _ _ => FA
  rename ∀ p ∈ _ ++ _, _ => lA
  rename Obj.data _ = Data.cell (some (Value.ref am)) => hcm
  rename_i D hD hI5 l5 hE hF tkF tF hM oM tM lS hS
  dsimp only [List.cons_append, List.nil_append] at NA
  clear lA
  refine comp_eval (cl := [(Str.ofString "modes", L + 1)]) ?hclos ?hcell ?hkind ?hnames ?_ ?hs
  case hclos => with_unfolding_all rfl
  case hcell => decide
  case hkind => rfl
  case hnames => decide
  case hs => intro _; rfl
  repeat ((fail_if_success (with_reducible show wpAny _ _ (pyIter _) _ _ _)); (first | (k_unfold; (try dsimp only)) | walk1 | (dsimp only; walk1)))
  rename_i D5 hG FG NG hI6 lG
  have hlen5 : (List.take (Int.toNat 5) (List.take (Int.toNat 10) ns)).length ≤ 5 := by rw [List.length_take]; exact Nat.min_le_left _ _
  have hlam : hG.IsList am vm.toArray := News.isList NG (by k_mem)
  have hgm : hG.get? (L + 1) = some oM := NG.get (by k_mem)
  refine iter_list (News.isList NG (by k_mem)) ?_
  generalize hds : List.take (Int.toNat 5) (List.take (Int.toNat 10) ns) = ds at hI6 hlen5
  generalize hdv : List.take (Int.toNat 5) (List.take (Int.toNat 10) vs) = dvs at hI6 NG
  refine ⟨hG, _, _, _, _, _, _, _, _, fun i ys m news => (∃ cv, m = frm cv) ∧ news = [] ∧ IntsAre ys ((ds.take i).map (pick3 m0 m1 m2)), rfl, rfl, src_list rfl (News.isList NG (by k_mem)) (by rw [List.size_toArray, hI6.length]; omega), ⟨⟨[], rfl⟩, rfl, .nil⟩, ?hJs, ?step, ?hend⟩
  case hJs =>
    rintro i ys m' news' ⟨-, -, h⟩
    rw [h.length, List.length_map, List.length_take]; exact Nat.min_le_left _ _
  case step =>
    intro C D' i v ys k m₁ news₁ h₁ tk₁ own hwD hDC hi hown hP hJ hoff hoffD F₁ N₁
    obtain ⟨o, rfl⟩ := own1 hown
    obtain ⟨⟨cv, rfl⟩, rfl, hys⟩ := hJ
    have hi' : i < ds.length := by rw [List.size_toArray, hI6.length] at hi; exact hi
    have hx : ds[i]? = some ds[i] := List.getElem?_eq_getElem hi'
    obtain ⟨u, hu'⟩ := ints_at hI6 hx
    have hv : v = .int ds[i] u := by
      have h9 : dvs[i]? = some v := by simpa using hP
      rw [hu'] at h9; exact (Option.some.inj h9).symm
    subst hv
    have hpk := pick3_at m0 m1 m2 ds[i]
    have hm0 : 0 ≤ ds[i].fmod 3 := Int.fmod_nonneg_of_pos _ (by decide)
    have hm3 : ds[i].fmod 3 < 3 := Int.fmod_lt_of_pos _ (by decide)
    refine c_assign F₁ N₁ rfl rfl fun h₂ tk₂ F₂ N₂ => ?_
    refine tests_nil ?_
    rw [if_pos rfl]
    dsimp only [List.singleton_append, List.cons_append, List.nil_append] at N₂
    clear FG NG
    k_steps
    refine ⟨_, _, _, [], rfl, by k_asm, by k_asm, (fun _ hp => by cases hp), (fun _ hp => by cases hp), ⟨_, frm_set' rfl⟩, rfl, ?_⟩
    rw [List.take_succ_eq_append_getElem hi', List.map_append]
    exact hys.append (.cons _ _ .nil)
  case hend =>
    intro DR h₃ tk₃ ys k m' news' hDn hDg hk hJ
    obtain ⟨⟨cv, rfl⟩, rfl, hys⟩ := hJ
    have F3 := FG.keeps hk
    have N3 := newsRet FG (NG.grown hk) hDn hDg
    rw [List.size_toArray, hI6.length, List.take_length] at hys
    clear FG NG
    have hIS : IntsAre [Value.int ([m0, m1, m2].getD (Int.toNat 0) 0) tM] [m0] := .cons _ _ .nil
    repeat ((fail_if_success (with_reducible show wpAny _ _ (execs (Stmt.Assign _ (Expr.ListComp _ _ _ _) _ :: _) _) _ _ _)); (first | (k_unfold; (try dsimp only)) | walk1 | (dsimp only; walk1)))
    rename News g L _ _ => NB
    rename Fr g L _ _ => FB
    rename IntsAre _ (_ ++ _) => hIR
    have hIR' : IntsAre _ (m0 :: ds.map (pick3 m0 m1 m2)) := hIR
    refine law_b w oc od name _ params _ _ dV kV doc pm cd0 ct an osl hfn' mean mg mb dp un gd fa cdv g L _ _ s Q hd hu X T hret _ _ _ 0 _ _ o2 o3 o4 hIR' ?_ ?_ ?_ (Fr.to FB (frm_set' (frm_set' rfl))) (cb_drop NB (fun p hp => by rcases List.mem_cons.mp hp with rfl | hp; (first | k_mem | exact List.mem_cons_self ..); rcases List.mem_cons.mp hp with rfl | hp; (first | k_mem | exact List.mem_cons_self ..); rcases List.mem_cons.mp hp with rfl | hp; (first | k_mem | exact List.mem_cons_self ..); rcases List.mem_cons.mp hp with rfl | hp; (first | k_mem | exact List.mem_cons_self ..); cases hp)) hc2 hc3 hc4
    · exact Nat.succ_le_succ (Nat.zero_le _)
    · rw [List.length_cons, List.length_map]; omega
    · have hr := modesZ_range (List.take (Int.toNat 10) ns).sum
      rw [hmz] at hr
      intro r hr'
      refine hr r ?_
      rcases List.mem_cons.mp hr' with rfl | hr'
      · exact List.mem_cons_self ..
      · obtain ⟨x, -, rfl⟩ := List.mem_map.mp hr'
        exact List.mem_of_getElem? (pick3_at m0 m1 m2 x)
end Mine
end
end
section -- Lz
theorem Mine.quiet_Lz : True := by
  w_top off
  trivial
open PySem PySem.W PyProof.Rows PySem.Calls
theorem Mine.fn_use {K : Frag} {f : Addr} {oc : Value} {od : Option Addr} {name qual : Str} {params : Arguments} {body : List Stmt} {scope : Scope} {dV kV doc pm cd0 ct : Value} {an : Option Addr} {osl : Array (Option Value)} {P : Prop}
    (h1 : K.lookup f = some ⟨oc, od, .func (fnOf name qual params body scope dV kV doc pm an cd0 ct), osl⟩) (h : K.lookup f = some ⟨oc, od, .func (fnOf name qual params body scope dV kV doc pm an cd0 ct), osl⟩ → P) : P := h h1
set_option maxRecDepth 100000 in
set_option maxHeartbeats 8000000 in
set_option pp.deepTerms false in
set_option pp.maxSteps 30000 in
theorem PySem.Challenge.cw_of0050_01_holds : PySem.Challenge.rw_of0050_01.Holds :=
  Mine.hd (by
    k_go0
    (all_goals try k_fold)
    rename_i w s₀ s₁ mg mb G Y fa o pm doc ho hg KX X V GL T B TE TW w13 w12 M w11 w10 hcd ns hs hlay0 hL1 hr1 hl2 w8 w7 l vs w4 hL ra w1 r0 hI hr hcond1 hcond2 K0 hD h₁ tk₁ F o4 o3 o2 o1 d4 d3 d2 d1 N0 X0
    k_dflt (refine' Mine.fn_use (K := Mine.hd.heap_39 w.params) (f := 163) ?k1 ?_; (case k1 => k_is))
    intro hfn
    refine wpAny_mono (Mine.law_a w _ _ _ _ _ _ _ _ _ _ _ _ _ _ _ hfn (ExcName.means s₀.heap) mg mb (1 + claimMargin) 4 (some []) fa (.ref w11) s₁.heap s₁.heap.objs.size h₁ tk₁ s₁ qk ?hd ?hu KX T ?hret l vs ns o1 o2 o3 o4 hI ?hlen hL1 hL ?F ?N ?c1 ?c2 ?c3 ?c4) (fun _ _ h => h) (fun _ _ h => h.elim)
    case hd => decide
    case hu => decide
    case hlen => omega
    case F => exact Mine.Fr.to F (by funext y; with_unfolding_all rfl)
    case N =>
      refine cb_drop N0 ?_
      intro p hp
      simp only [List.mem_cons, List.not_mem_nil, or_false] at hp ⊢
      rcases hp with h | h | h | h
      · exact .inr (.inr (.inr h))
      · exact .inr (.inr (.inl h))
      · exact .inr (.inl h)
      · exact .inl h
    case c1 => exact d1
    case c2 => exact d2
    case c3 => exact d3
    case c4 => exact d4
    case hret =>
      intro h' tk' m' F'
      clear F N0 X0 hfn
      k_steps)
end
