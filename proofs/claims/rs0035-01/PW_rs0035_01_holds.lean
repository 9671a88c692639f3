import PyProof.Rows.All
import Wide.All
import OpenK.AllK
import Wide.FinOn
import Lean
import PySem.Challenge.RW_rs0035_01
set_option Elab.async false

section
open PySem PySem.W PyProof.Rows
set_option Elab.async false
set_option maxRecDepth 100000
set_option maxHeartbeats 8000000
namespace Mine
open_top hd for PySem.Challenge.rw_rs0035_01
end Mine
end

section
open PySem PySem.W PyProof.Rows PySem.Calls
set_option Elab.async false
set_option maxRecDepth 100000
set_option maxHeartbeats 8000000
namespace Mine
noncomputable abbrev PG : Program := PySem.Challenge.rw_rs0035_01.prog
noncomputable abbrev KK (w : World) : Frag := Mine.hd.heap_39 w.params
noncomputable abbrev VW : Program := Mine.hd.view_39
noncomputable abbrev LS : List Str := looseW VW [Str.ofString "_twin_re_1", Str.ofString "_twin_re_2", Str.ofString "_twin_re_3"]
def Keeps (h h' : Heap) : Prop := ∀ b o, h.get? b = some o → h'.get? b = some o
structure Env0 (w : World) (mean : ExcName → Option Value) (mg mb : Str → Option Value) (h : Heap) : Prop where
  x : (KK w).In h
  t : Top VW LS mean mg mb h
theorem enter_def {w : World} {A : Around} {R : Result → Shared → Prop} {s : Shared} {K : Frag} {name qual : Str} {params : Arguments} {body : List Stmt} {scope : Scope}
    {dV kV doc pm cdv ct oc : Value} {an od : Option Addr} {osl : Array (Option Value)} {f : Addr} {args : Args} {binds : List (Str × Value)}
    (X : K.In s.heap) (hlim : s.heap.NoLimit)
    (ho : K.lookup f = some ⟨oc, od, .func (fnOf name qual params body scope dV kV doc pm an cdv ct), osl⟩) (hcd : codeIn K cdv qual = true) (hroom : A.depth < recursionLimit)
    (hbind : BindsTo s (fnOf name qual params body scope dV kV doc pm an cdv ct) args binds) (hloc : ∀ y ∈ binds, scope.names.lookup y.1 = some .local)
    (h : ∀ h₁, Fr s.heap s.heap.objs.size h₁ (fun y => binds.reverse.lookup y) →
      wpAny (model PG w) (A.deeper (envOf qual scope s.heap.objs.size f cdv)) (execs body (envOf qual scope s.heap.objs.size f cdv))
        (fun fl s' => R (.ok (.ret (match fl with | .ret v => v | _ => .none))) s') (fun _ _ => False)
        { s with heap := h₁, toks := s.toks + binds.length })
    (hco : scope.isCoroutine = false) (hgen : scope.isGenerator = false) (hk : scope.kind = .function)
    (hcell : ∀ x ∈ scope.names, x.2 ≠ .cell) : codeAny (model PG w) A (.call (.ref f) args) R s := by
  refine codeAny_call_def (fd := fnOf name qual params body scope dV kV doc pm an cdv ct) (body := body) (binds := binds) hroom (X _ _ ho) rfl hlim (codeRec_of X hcd) rfl hbind hcell hloc (fun h₁ hns hk₁ => ?_) hco hgen hk
  refine wpAny_mono (h h₁ ⟨hns, hk₁, Nat.le_refl _⟩) (fun _ _ x => x) fun _ _ x => x.elim
end Mine
end

section
open PySem PySem.W PyProof.Rows PySem.Calls
set_option Elab.async false
set_option maxRecDepth 100000
set_option maxHeartbeats 8000000
namespace Mine
theorem plainAttrs_pat : PlainAttrs "re.Pattern" :=
  ⟨⟨"object.__getattribute__", by rw [typeLookup_type, builtinLookup_eq_fast]; kernel_rfl, by decide +kernel⟩, by rw [typeLookup_type, builtinLookup_eq_fast]; kernel_rfl⟩
theorem owner_pat : Manifest.owners.lookup (String.ofList ['n', 'r', 'e', 't', 't', 'a', 'P', '.', 'e', 'r'].reverse) = some (Manifest.sig_re_Pattern) := by kernel_rfl
theorem slot_sub : Slot "re.Pattern" "sub" "re.Pattern.sub" :=
  .of (owner := "re.Pattern") (n := "sub") (by rw [typeLookup_type, builtinLookup_eq_fast]; kernel_rfl) (by decide +kernel) (by decide +kernel) (by decide +kernel)
    (by first | exact .inl (by decide +kernel) | exact .inr (by decide +kernel)) (by rw [isSubtype_type]; kernel_rfl)
theorem type_sub : typeOf (.builtin "re.Pattern.sub") = pure (.type "method_descriptor") := by show builtinType _ = _; rw [builtinType_eq_fast]; kernel_rfl
theorem entry_sub : entryFor table "re.Pattern.sub" = some Builtin.«re.Pattern.sub» := entryFor_of_tree (by kernel_rfl)
theorem entry_subloop : entryFor table "re.Pattern.sub.loop" = some Builtin.«re.Pattern.sub.loop» := entryFor_of_tree (by kernel_rfl)
theorem args_sub (a b c : Value) : argsOk "re.Pattern.sub" ⟨[a, b, c], []⟩ := by
  unfold argsOk; rw [signature?_of (id := "re.Pattern.sub") (n := ['b', 'u', 's']) (o := ['n', 'r', 'e', 't', 't', 'a', 'P', '.', 'e', 'r']) (by kernel_rfl) owner_pat]; kernel_rfl
end Mine
end

section
open PySem PySem.Sre
set_option Elab.async false
set_option maxRecDepth 100000
namespace Mine
def C1 : Array Nat := #[14, 4, 0, 1, 1, 6, 1, 16, 46, 1]
def C3 : Array Nat := #[14, 9, 4, 1, 2, 16, 10, 16, 13, 0, 7, 7, 16, 13, 16, 10, 15, 18, 5, 16, 10, 15, 13, 11, 16, 13, 5, 5, 0, 16, 10, 1, 15, 2, 0, 1]
/-- n steps bring m to its end mf -/
def Ends (n : Nat) (m mf : M) : Prop := M.runFor n m = mf ∧ mf.outcome.isSome = true
theorem runFor_done {m : M} (h : m.outcome.isSome = true) : ∀ n, M.runFor n m = m
  | 0 => rfl
  | n + 1 => by unfold M.runFor; rw [if_pos h]
theorem Ends.step {n : Nat} {m mf : M} (h0 : m.outcome.isSome = false) (h : Ends n m.step mf) : Ends (n + 1) m mf := by
  refine ⟨?_, h.2⟩
  unfold M.runFor
  rw [h0, if_neg Bool.false_ne_true]
  exact h.1
theorem Ends.more {n : Nat} {m mf : M} (h : Ends n m mf) : ∀ k, Ends (n + k) m mf := by
  intro k
  induction n generalizing m with
  | zero =>
    have e : m = mf := h.1
    subst e
    exact ⟨runFor_done h.2 _, h.2⟩
  | succ n ih =>
    cases h0 : m.outcome.isSome with
    | true =>
      have e : m = mf := (runFor_done h0 (n + 1)).symm.trans h.1
      subst e
      exact ⟨runFor_done h0 _, h0⟩
    | false =>
      rw [Nat.add_right_comm]
      refine Ends.step h0 (ih ⟨?_, h.2⟩)
      have := h.1
      unfold M.runFor at this
      rwa [h0, if_neg Bool.false_ne_true] at this
theorem runFor_add (a b : Nat) (m : M) : M.runFor (a + b) m = M.runFor b (M.runFor a m) := by
  induction a generalizing m with
  | zero => rw [Nat.zero_add]; rfl
  | succ a ih =>
    rw [Nat.add_right_comm]
    cases h0 : m.outcome.isSome with
    | true => rw [runFor_done h0, runFor_done h0 (a + 1), runFor_done h0]
    | false =>
      have e1 : M.runFor (a + b + 1) m = M.runFor (a + b) m.step := by rw [M.runFor]; rw [h0, if_neg Bool.false_ne_true]
      have e2 : M.runFor (a + 1) m = M.runFor a m.step := by rw [M.runFor]; rw [h0, if_neg Bool.false_ne_true]
      rw [e1, e2, ih]
/-! pattern 1 and 2: a dot at a line's beginning -/
def S1 (text : Array Nat) (lim s : Nat) (must om : Bool) (sn : Seen) : M :=
  { code := C1, text := text, lim := lim, start := s, lastStart := lim, mustAdvance := must, pc := 5, pos := s, handed := s, outermost := om, marks := #[],
    frames := [{ wait := .nextStart, pc := 5, pos := s, outermost := om }], weight := 1, seen := sn }
def atLine (text : Array Nat) (s : Nat) : Bool := s == 0 || text.getD (s - 1) 0 == 10
theorem S1_step1 (text : Array Nat) (lim s : Nat) (must om : Bool) (sn : Seen) :
    (S1 text lim s must om sn).step = if atLine text s then { S1 text lim s must om ((sn.add 6).add 44) with pc := 7 } else { S1 text lim s must om ((sn.add 6).add 44) with answer := some false } := rfl
theorem lit1 (c : Nat) (sn : Seen) : accepts C1 7 c sn = .ok (c == 46, sn) := rfl
theorem S1_step2 (text : Array Nat) (lim s : Nat) (must om : Bool) (sn : Seen) :
    ({ S1 text lim s must om sn with pc := 7 }).step = if s ≥ lim then { S1 text lim s must om (sn.add 16) with pc := 7, answer := some false } else
      (if (text.getD s 0 == 46) = true then { S1 text lim s must om (sn.add 16) with pc := 9, pos := s + 1 }
       else { S1 text lim s must om (sn.add 16) with pc := 7, answer := some false }) := by
  show (if s ≥ lim then _ else (match accepts C1 7 (text.getD s 0) (sn.add 16) with
    | .error why => _
    | .ok (false, seen) => _
    | .ok (true, seen) => _)) = _
  rw [lit1]
  cases (text.getD s 0 == 46) <;> rfl
theorem S1_step3 (text : Array Nat) (lim s : Nat) (must om : Bool) (sn : Seen) :
    ({ S1 text lim s must om sn with pc := 9, pos := s + 1 }).step = { S1 text lim s must om (sn.add 1) with pc := 9, pos := s + 1, handed := s + 1, answer := some true } := by
  show (if (om && ((false && (s + 1 != lim)) || (must && (s + 1 == s)))) = true then _ else _) = _
  rw [show (s + 1 == s) = false from by simp]
  simp only [Bool.false_and, Bool.and_false, Bool.or_false, Bool.false_eq_true, if_false]
  rfl
theorem S1_step4 (text : Array Nat) (lim s : Nat) (must om : Bool) (sn : Seen) (p : Nat) :
    ({ S1 text lim s must om sn with pc := 9, pos := p, handed := p, answer := some true }).step = { S1 text lim s must om sn with frames := [], weight := 0, handed := p, answer := some true } := rfl
theorem S1_step5 (text : Array Nat) (lim s : Nat) (must om : Bool) (sn : Seen) (p : Nat) :
    ({ S1 text lim s must om sn with frames := [], weight := 0, handed := p, answer := some true }).step = { S1 text lim s must om sn with frames := [], weight := 0, handed := p, answer := some true, outcome := some .matched } := rfl
theorem S1_miss (text : Array Nat) (lim s : Nat) (must om : Bool) (sn : Seen) (q : Nat) :
    ({ S1 text lim s must om sn with pc := q, answer := some false }).step = if s < lim then S1 text lim (s + 1) false false sn
      else { S1 text lim s must om sn with frames := [], weight := 0, answer := some false } := by
  show (if s < lim then _ else _) = _
  split <;> rfl
theorem S1_fail (text : Array Nat) (lim s : Nat) (must om : Bool) (sn : Seen) :
    ({ S1 text lim s must om sn with frames := [], weight := 0, answer := some false }).step = { S1 text lim s must om sn with frames := [], weight := 0, answer := some false, outcome := some .failed } := rfl
def hit1 (text : Array Nat) (s : Nat) : Bool := atLine text s && text.getD s 0 == 46
/-- where the machine finds: none, or the place -/
def Found (lim : Nat) (hit : Nat → Bool) (len : Nat → Nat) (s : Nat) (mf : M) : Prop :=
  (mf.outcome = some .failed ∧ ∀ p, s ≤ p → p < lim → hit p = false) ∨
  (∃ p, s ≤ p ∧ p < lim ∧ hit p = true ∧ (∀ q, s ≤ q → q < p → hit q = false) ∧ mf.outcome = some .matched ∧ mf.start = p ∧ mf.handed = p + len p)
theorem Ends.last {m : M} (h : m.outcome.isSome = true) : Ends 0 m m := ⟨rfl, h⟩
theorem search1 (text : Array Nat) (lim : Nat) : ∀ (d s : Nat) (must om : Bool) (sn : Seen), s + d = lim → ∃ n mf, n ≤ 3 * d + 6 ∧ Ends n (S1 text lim s must om sn) mf ∧ Found lim (hit1 text) (fun _ => 1) s mf := by
  intro d
  induction d with
  | zero =>
    intro s must om sn hs
    have hs' : s = lim := by omega
    subst hs'
    have fin : ∀ sn q, ∃ mf, Ends 2 { S1 text s s must om sn with pc := q, answer := some false } mf ∧ Found s (hit1 text) (fun _ => 1) s mf := by
      intro sn q
      refine ⟨{ S1 text s s must om sn with frames := [], weight := 0, answer := some false, outcome := some .failed }, Ends.step rfl ?_, .inl ⟨rfl, fun p h1 h2 => by omega⟩⟩
      rw [S1_miss, if_neg (Nat.lt_irrefl _)]
      refine Ends.step rfl ?_
      rw [S1_fail]
      exact Ends.last rfl
    cases ha : atLine text s with
    | false =>
      obtain ⟨mf, h1, h2⟩ := fin ((sn.add 6).add 44) 5
      refine ⟨3, mf, by omega, Ends.step rfl ?_, h2⟩
      rw [S1_step1, ha, if_neg Bool.false_ne_true]; exact h1
    | true =>
      obtain ⟨mf, h1, h2⟩ := fin (((sn.add 6).add 44).add 16) 7
      refine ⟨4, mf, by omega, Ends.step rfl ?_, h2⟩
      rw [S1_step1, ha, if_pos rfl]
      refine Ends.step rfl ?_
      rw [S1_step2, if_pos (Nat.le_refl _)]; exact h1
  | succ d ih =>
    intro s must om sn hs
    have hlt : s < lim := by omega
    have fin : hit1 text s = false → ∀ sn q, ∃ n mf, n ≤ 3 * d + 7 ∧ Ends n { S1 text lim s must om sn with pc := q, answer := some false } mf ∧ Found lim (hit1 text) (fun _ => 1) s mf := by
      intro hno sn q
      obtain ⟨n, mf, hn, h1, h2⟩ := ih (s + 1) false false sn (by omega)
      refine ⟨n + 1, mf, by omega, Ends.step rfl (by rw [S1_miss, if_pos hlt]; exact h1), ?_⟩
      rcases h2 with ⟨a, b⟩ | ⟨p, a, b, c, d', e⟩
      · refine .inl ⟨a, fun p h1 h2 => ?_⟩
        by_cases hp : p = s
        · rw [hp]; exact hno
        · exact b p (by omega) h2
      · refine .inr ⟨p, by omega, b, c, fun q h1 h2 => ?_, e⟩
        by_cases hq : q = s
        · rw [hq]; exact hno
        · exact d' q (by omega) h2
    cases ha : atLine text s with
    | false =>
      obtain ⟨n, mf, hn, h1, h2⟩ := fin (by rw [hit1, ha]; rfl) ((sn.add 6).add 44) 5
      refine ⟨n + 1, mf, by omega, Ends.step rfl ?_, h2⟩
      rw [S1_step1, ha, if_neg Bool.false_ne_true]; exact h1
    | true =>
      cases hc : (text.getD s 0 == 46) with
      | false =>
        obtain ⟨n, mf, hn, h1, h2⟩ := fin (by rw [hit1, ha, hc]; rfl) (((sn.add 6).add 44).add 16) 7
        refine ⟨n + 1 + 1, mf, by omega, Ends.step rfl ?_, h2⟩
        rw [S1_step1, ha, if_pos rfl]
        refine Ends.step rfl ?_
        rw [S1_step2, if_neg (by omega), hc, if_neg Bool.false_ne_true]; exact h1
      | true =>
        refine ⟨5, { S1 text lim s must om ((((sn.add 6).add 44).add 16).add 1) with frames := [], weight := 0, handed := s + 1, answer := some true, outcome := some .matched }, by omega, Ends.step rfl ?_, .inr ⟨s, Nat.le_refl _, hlt, by rw [hit1, ha, hc]; rfl, fun q h1 h2 => by omega, ?_⟩⟩
        · rw [S1_step1, ha, if_pos rfl]
          refine Ends.step rfl ?_
          rw [S1_step2, if_neg (by omega), hc, if_pos rfl]
          refine Ends.step rfl ?_
          rw [S1_step3]
          refine Ends.step rfl ?_
          rw [S1_step4]
          refine Ends.step rfl ?_
          rw [S1_step5]
          exact Ends.last rfl
        · exact ⟨rfl, rfl, rfl⟩
theorem forSearch1 (text : Array Nat) (s lim : Nat) (must : Bool) (hs : s ≤ lim) : ∃ n mf, n ≤ 3 * lim + 6 ∧ Ends n (forSearch C1 text 0 s lim must) mf ∧ Found lim (hit1 text) (fun _ => 1) s mf := by
  by_cases h : s < lim
  · obtain ⟨n, mf, hn, h1, h2⟩ := search1 text lim (lim - s) s must true (({} : Seen).add 14) (by omega)
    refine ⟨n, mf, by omega, ?_, h2⟩
    have e : forSearch C1 text 0 s lim must = S1 text lim s must true (({} : Seen).add 14) := by
      show (if (decide (s > lim) || decide (lim - s < 1)) = true then _ else _) = _
      rw [if_neg (by simp; omega)]
      rfl
    rw [e]; exact h1
  · have e : s = lim := by omega
    subst e
    have e : forSearch C1 text 0 s s must = { code := C1, text := text, lim := s, start := s, pc := 5, pos := s, handed := s, marks := #[], mustAdvance := must, seen := ({} : Seen).add 14, answer := some false } := by
      show (if (decide (s > s) || decide (s - s < 1)) = true then _ else _) = _
      rw [if_pos (by simp)]
      rfl
    refine ⟨1, { code := C1, text := text, lim := s, start := s, pc := 5, pos := s, handed := s, marks := #[], mustAdvance := must, seen := ({} : Seen).add 14, answer := some false, outcome := some .failed }, by omega, ?_, .inl ⟨rfl, fun p h1 h2 => by omega⟩⟩
    rw [e]
    exact Ends.step rfl ⟨rfl, rfl⟩
/-! pattern 3: an end of a line -/
def S3 (text : Array Nat) (lim s : Nat) (om : Bool) (sn : Seen) (pc pos handed : Nat) (outm : Bool) (frames : List Sre.Frame) (weight : Nat) (ans : Option Bool) : M :=
  { code := C3, text := text, lim := lim, start := s, lastStart := lim, mustAdvance := false, pc := pc, pos := pos, handed := handed, outermost := outm, marks := #[],
    frames := frames, weight := weight, seen := sn, answer := ans }
def fS (s : Nat) (om : Bool) : Sre.Frame := { wait := .nextStart, pc := 10, pos := s, outermost := om }
def fB (pc s : Nat) (om : Bool) : Sre.Frame := { wait := .nextBranch, pc := pc, pos := s, outermost := om }
def fN (p : Nat) (om : Bool) : Sre.Frame := { wait := .lookNot, pc := 26, pos := p, outermost := om }
theorem S3_lit {text : Array Nat} {lim s : Nat} {om : Bool} {sn : Seen} {pc pos handed : Nat} {outm : Bool} {frames : List Sre.Frame} {weight : Nat} (c : Nat)
    (h0 : C3.getD pc 0 = 16) (hc : C3.getD (pc + 1) 0 = c) (hlt : pc < 36) :
    (S3 text lim s om sn pc pos handed outm frames weight none).step = if pos ≥ lim then S3 text lim s om (sn.add 16) pc pos handed outm frames weight (some false) else
      (if (text.getD pos 0 == c) = true then S3 text lim s om (sn.add 16) (pc + 2) (pos + 1) handed outm frames weight none
       else S3 text lim s om (sn.add 16) pc pos handed outm frames weight (some false)) := by
  have hacc : ∀ x sn', accepts C3 pc x sn' = .ok (x == c, sn') := by
    intro x sn'
    unfold accepts
    rw [h0, hc]; rfl
  have hw : itemWidth C3 pc = 2 := by unfold itemWidth; rw [h0]; rfl
  have he : (S3 text lim s om sn pc pos handed outm frames weight none).step = (S3 text lim s om sn pc pos handed outm frames weight none).exec := by
    show (if pc < C3.size then _ else _) = _
    rw [if_pos (show pc < C3.size from hlt)]
  rw [he]
  unfold M.exec
  have hw0 : (S3 text lim s om sn pc pos handed outm frames weight none).word 0 = 16 := h0
  rw [hw0]
  show (if pos ≥ lim then _ else (match accepts C3 pc (text.getD pos 0) (sn.add 16) with
    | .error why => _
    | .ok (false, seen) => _
    | .ok (true, seen) => _)) = _
  rw [hacc]
  split
  · rfl
  · cases hb : (text.getD pos 0 == c)
    · rfl
    · show (S3 text lim s om (sn.add 16) (pc + itemWidth C3 pc) (pos + 1) handed outm frames weight none) = _
      rw [hw]; rfl
def isEnd (text : Array Nat) (p : Nat) : Bool := text.getD p 0 == 10 || text.getD p 0 == 13
def lenEnd (text : Array Nat) (p : Nat) : Nat := if text.getD p 0 == 13 && text.getD (p + 1) 0 == 10 && decide (p + 1 < text.size) then 2 else 1
theorem success3 {text : Array Nat} {lim s : Nat} {om : Bool} {sn : Seen} {p h b : Nat} {fpos : Nat} : ∃ mf, Ends 4 (S3 text lim s om sn 35 p h om [fB b fpos om, fS s om] 2 none) mf ∧ mf.outcome = some .matched ∧ mf.start = s ∧ mf.handed = p := by
  refine ⟨{ S3 text lim s om (sn.add 1) 10 s p om [] 0 (some true) with outcome := some .matched }, Ends.step rfl ?_, rfl, rfl, rfl⟩
  have e1 : (S3 text lim s om sn 35 p h om [fB b fpos om, fS s om] 2 none).step = S3 text lim s om (sn.add 1) 35 p p om [fB b fpos om, fS s om] 2 (some true) := by
    show (if (om && ((false && (p != lim)) || (false && (p == s)))) = true then _ else _) = _
    simp only [Bool.false_and, Bool.and_false, Bool.or_false, Bool.false_eq_true, if_false]
    rfl
  rw [e1]
  refine Ends.step rfl ?_
  refine Ends.step rfl ?_
  exact Ends.step rfl ⟨rfl, rfl⟩
theorem match3 (text : Array Nat) (lim s : Nat) (om : Bool) (sn : Seen) (hs : s < lim) (hl : lim = text.size) (he : isEnd text s = true) :
    ∃ n mf, n ≤ 40 ∧ Ends n (S3 text lim s om sn 10 s s om [fS s om] 1 none) mf ∧ mf.outcome = some .matched ∧ mf.start = s ∧ mf.handed = s + lenEnd text s := by
  have b0 : ∀ sn, (S3 text lim s om sn 10 s s om [fS s om] 1 none).step = S3 text lim s om (sn.add 7) 12 s s om [fB 11 s om, fS s om] 2 none := fun _ => rfl
  have b1 : ∀ sn pc pos hd, (S3 text lim s om sn pc pos hd om [fB 11 s om, fS s om] 2 (some false)).step = S3 text lim s om sn 19 s s om [fB 18 s om, fS s om] 2 none := fun _ _ _ _ => rfl
  have b2 : ∀ sn pc pos hd, (S3 text lim s om sn pc pos hd om [fB 18 s om, fS s om] 2 (some false)).step = S3 text lim s om sn 24 s s om [fB 23 s om, fS s om] 2 none := fun _ _ _ _ => rfl
  have j1 : ∀ sn pos fr w, (S3 text lim s om sn 16 pos s om fr w none).step = S3 text lim s om (sn.add 15) 35 pos s om fr w none := fun _ _ _ _ => rfl
  have j2 : ∀ sn pos fr w, (S3 text lim s om sn 21 pos s om fr w none).step = S3 text lim s om (sn.add 15) 35 pos s om fr w none := fun _ _ _ _ => rfl
  have j3 : ∀ sn pos hd fr w, (S3 text lim s om sn 32 pos hd om fr w none).step = S3 text lim s om (sn.add 15) 35 pos hd om fr w none := fun _ _ _ _ _ => rfl
  have n1 : ∀ sn p, (S3 text lim s om sn 26 p s om [fB 23 s om, fS s om] 2 none).step = S3 text lim s om (sn.add 5) 29 p p false [fN p om, fB 23 s om, fS s om] 3 none := fun _ _ => rfl
  have n2 : ∀ sn pc p hd, (S3 text lim s om sn pc p hd false [fN p om, fB 23 s om, fS s om] 3 (some false)).step = S3 text lim s om sn 32 p hd om [fB 23 s om, fS s om] 2 none := fun _ _ _ _ => rfl
  have nl : ¬ s ≥ lim := by omega
  cases h13 : (text.getD s 0 == 13) with
  | false =>
    have h10 : (text.getD s 0 == 10) = true := by unfold isEnd at he; rw [h13, Bool.or_false] at he; exact he
    obtain ⟨mf, h1, h2, h3, h4⟩ := @success3 text lim s om (((((sn.add 7).add 16).add 16).add 15)) (s + 1) s 18 s
    refine ⟨9, mf, by omega, Ends.step rfl ?_, h2, h3, ?_⟩
    · rw [b0]
      refine Ends.step rfl ?_
      rw [S3_lit 13 rfl rfl (by omega), if_neg nl, h13, if_neg Bool.false_ne_true]
      refine Ends.step rfl ?_
      rw [b1]
      refine Ends.step rfl ?_
      rw [S3_lit 10 rfl rfl (by omega), if_neg nl, h10, if_pos rfl]
      refine Ends.step rfl ?_
      rw [j2]
      exact h1
    · rw [h4]; unfold lenEnd; rw [h13]; rfl
  | true =>
    by_cases h2 : (text.getD (s + 1) 0 == 10) = true ∧ s + 1 < lim
    · obtain ⟨mf, h1, h2', h3, h4⟩ := @success3 text lim s om (((((sn.add 7).add 16).add 16).add 15)) (s + 1 + 1) s 11 s
      refine ⟨8, mf, by omega, Ends.step rfl ?_, h2', h3, ?_⟩
      · rw [b0]
        refine Ends.step rfl ?_
        rw [S3_lit 13 rfl rfl (by omega), if_neg nl, h13, if_pos rfl]
        refine Ends.step rfl ?_
        rw [S3_lit 10 rfl rfl (by omega), if_neg (by omega), h2.1, if_pos rfl]
        refine Ends.step rfl ?_
        rw [j1]
        exact h1
      · rw [h4]; unfold lenEnd; rw [h13, h2.1]; simp [← hl, h2.2]
    · have hl1 : lenEnd text s = 1 := by
        unfold lenEnd
        rw [if_neg]
        intro hh
        simp only [Bool.and_eq_true, decide_eq_true_eq] at hh
        exact h2 ⟨hh.1.2, by omega⟩
      have h10 : (text.getD s 0 == 10) = false := by
        have := eq_of_beq h13
        rw [this]; rfl
      have miss : ∀ sn pc hd outm fr w, C3.getD pc 0 = 16 → C3.getD (pc + 1) 0 = 10 → pc < 36 → (S3 text lim s om sn pc (s + 1) hd outm fr w none).step = S3 text lim s om (sn.add 16) pc (s + 1) hd outm fr w (some false) := by
        intro sn pc hd outm fr w e1 e2 e3
        rw [S3_lit 10 e1 e2 e3]
        split
        · rfl
        · rename_i hh
          rw [if_neg]
          intro hq
          exact h2 ⟨hq, by omega⟩
      obtain ⟨mf, h1, h2', h3, h4⟩ := @success3 text lim s om ((((((((sn.add 7).add 16).add 16).add 16).add 16).add 5).add 16).add 15) (s + 1) (s + 1) 23 s
      refine ⟨15, mf, by omega, Ends.step rfl ?_, h2', h3, ?_⟩
      · rw [b0]
        refine Ends.step rfl ?_
        rw [S3_lit 13 rfl rfl (by omega), if_neg nl, h13, if_pos rfl]
        refine Ends.step rfl ?_
        rw [miss _ _ _ _ _ _ rfl rfl (by omega)]
        refine Ends.step rfl ?_
        rw [b1]
        refine Ends.step rfl ?_
        rw [S3_lit 10 rfl rfl (by omega), if_neg nl, h10, if_neg Bool.false_ne_true]
        refine Ends.step rfl ?_
        rw [b2]
        refine Ends.step rfl ?_
        rw [S3_lit 13 rfl rfl (by omega), if_neg nl, h13, if_pos rfl]
        refine Ends.step rfl ?_
        rw [n1]
        refine Ends.step rfl ?_
        rw [miss _ _ _ _ _ _ rfl rfl (by omega)]
        refine Ends.step rfl ?_
        rw [n2]
        refine Ends.step rfl ?_
        rw [j3]
        exact h1
      · rw [h4, hl1]
theorem inSet3 (c : Nat) (sn : Seen) : ∃ sn', inSet C3 c C3.size 5 true sn = .ok (c == 10 || c == 13, sn') := by
  show ∃ sn', (if (c == 10) = true then _ else (if (c == 13) = true then _ else _)) = _
  cases h1 : (c == 10)
  · cases h2 : (c == 13)
    · exact ⟨_, rfl⟩
    · exact ⟨_, rfl⟩
  · exact ⟨_, rfl⟩
theorem admitted3 (m : M) (hc : m.code = C3) : ∀ (d s : Nat) (sn : Seen), s + d = m.lim + 1 → s ≤ m.lim → 
    (∃ sn', M.admitted m d s sn = .ok (none, sn') ∧ ∀ p, s ≤ p → p < m.lim → isEnd m.text p = false) ∨
    (∃ sn' p, M.admitted m d s sn = .ok (some p, sn') ∧ s ≤ p ∧ p < m.lim ∧ isEnd m.text p = true ∧ ∀ q, s ≤ q → q < p → isEnd m.text q = false) := by
  intro d
  induction d with
  | zero => intro s sn h h'; omega
  | succ d ih =>
    intro s sn h h'
    unfold M.admitted
    by_cases hs : s ≥ m.lim
    · rw [if_pos hs]; exact .inl ⟨_, rfl, fun p h1 h2 => by omega⟩
    · rw [if_neg hs, hc]
      obtain ⟨sn', e⟩ := inSet3 (m.text.getD s 0) sn
      rw [e]
      cases hE : (m.text.getD s 0 == 10 || m.text.getD s 0 == 13)
      · dsimp only
        rcases ih (s + 1) sn' (by omega) (by omega) with ⟨sn2, a, b⟩ | ⟨sn2, p, a, b, c, d', e'⟩
        · refine .inl ⟨sn2, a, fun p h1 h2 => ?_⟩
          by_cases hp : p = s
          · rw [hp]; exact hE
          · exact b p (by omega) h2
        · refine .inr ⟨sn2, p, a, by omega, c, d', fun q h1 h2 => ?_⟩
          by_cases hq : q = s
          · rw [hq]; exact hE
          · exact e' q (by omega) h2
      · exact .inr ⟨sn', s, rfl, Nat.le_refl _, by omega, hE, fun q h1 h2 => by omega⟩
theorem forSearch3 (text : Array Nat) (s lim : Nat) (must : Bool) (hs : s ≤ lim) (hl : lim = text.size) :
    ∃ n mf, n ≤ 3 * lim + 60 ∧ Ends n (forSearch C3 text 0 s lim must) mf ∧ Found lim (isEnd text) (lenEnd text) s mf := by
  by_cases h : s < lim
  · let m0 : M := { code := C3, text := text, lim := lim, start := s, lastStart := lim, pc := 10, pos := s, handed := s, marks := #[], mustAdvance := must, seen := ({} : Seen).add 14 }
    have e : forSearch C3 text 0 s lim must = m0.attemptFrom s true := by
      show (if (decide (s > lim) || decide (lim - s < 1)) = true then _ else _) = _
      rw [if_neg (by simp; omega)]
      rfl
    rw [e]
    have e2 : m0.attemptFrom s true = (match M.admitted m0 (lim + 1 - s) s m0.seen with
      | .ok (some s, seen) => { m0 with mustAdvance := false, seen }.attemptAt s true
      | .ok (none, seen) => { m0 with seen }.say false
      | .error why => m0.stick why) := rfl
    rw [e2]
    rcases admitted3 m0 rfl (lim + 1 - s) s m0.seen (by show s + (lim + 1 - s) = lim + 1; omega) hs with ⟨sn, a, b⟩ | ⟨sn, p, a, b, c, d, e'⟩
    · rw [a]
      dsimp only
      exact ⟨1, { m0 with seen := sn, answer := some false, outcome := some .failed }, by omega, Ends.step rfl ⟨rfl, rfl⟩, .inl ⟨rfl, b⟩⟩
    · rw [a]
      dsimp only
      obtain ⟨n, mf, hn, h1, h2, h3, h4⟩ := match3 text lim p true sn c hl d
      exact ⟨n, mf, by omega, h1, .inr ⟨p, b, c, d, e', h2, h3, h4⟩⟩
  · have e : s = lim := by omega
    subst e
    have e : forSearch C3 text 0 s s must = { code := C3, text := text, lim := s, start := s, pc := 10, pos := s, handed := s, marks := #[], mustAdvance := must, seen := ({} : Seen).add 14, answer := some false } := by
      show (if (decide (s > s) || decide (s - s < 1)) = true then _ else _) = _
      rw [if_pos (by simp)]
      rfl
    refine ⟨1, { code := C3, text := text, lim := s, start := s, pc := 10, pos := s, handed := s, marks := #[], mustAdvance := must, seen := ({} : Seen).add 14, answer := some false, outcome := some .failed }, by omega, ?_, .inl ⟨rfl, fun p h1 h2 => by omega⟩⟩
    rw [e]
    exact Ends.step rfl ⟨rfl, rfl⟩
end Mine
end

section
open PySem PySem.W PyProof.Rows PySem.Calls
set_option Elab.async false
set_option maxRecDepth 100000
set_option maxHeartbeats 8000000
namespace Mine
open PySem.Builtin PySem.Builtin.Re
section
variable {M : Model} {A : Around} {E : Value → Shared → Prop} {s : Shared}
theorem wpAny_reDrive {mf : Sre.M} {Q : Sre.M → Shared → Prop} (hQ : Q mf s) : ∀ (T n : Nat) (m : Sre.M), Ends n m mf → n ≤ 4 * T → 1 ≤ T → wpAny M A (reDrive T m) Q E s
  | 0, _, _, _, _, h1 => by omega
  | T + 1, n, m, h, hn, _ => by
    unfold reDrive
    show wpAny M A (if ((Sre.M.runFor 4 m).outcome.isSome) = true then pure (Sre.M.runFor 4 m) else (do rule "sre.turn"; reDrive T (Sre.M.runFor 4 m))) Q E s
    cases h0 : (Sre.M.runFor 4 m).outcome.isSome with
    | true =>
      rw [if_pos rfl]
      have e : Sre.M.runFor 4 m = mf := by
        have h1 := (h.more 4).1
        rw [Nat.add_comm, runFor_add, runFor_done h0] at h1
        exact h1
      rw [e]; exact wpAny_pure hQ
    | false =>
      rw [if_neg Bool.false_ne_true]
      have h4 : 4 < n := by
        rcases Nat.lt_or_ge 4 n with q | q
        · exact q
        · have h1 := h.more (4 - n)
          rw [show n + (4 - n) = 4 by omega] at h1
          rw [h1.1, h1.2] at h0; cases h0
      refine wpAny_bind (wpAny_rule (wpAny_reDrive hQ T (n - 4) _ ⟨?_, h.2⟩ (by omega) (by omega)))
      rw [← runFor_add, show 4 + (n - 4) = n by omega]
      exact h.1
theorem wpAny_rules {f : Nat → Bool} {g : Nat → String} {Q : PUnit → Shared → Prop} (hQ : Q ⟨⟩ s) : ∀ l : List Nat,
    wpAny M A (forIn l PUnit.unit fun i (_ : PUnit) => if f i = true then (do rule (g i); pure (ForInStep.yield PUnit.unit)) else pure (ForInStep.yield PUnit.unit)) Q E s
  | [] => by rw [List.forIn_nil]; exact wpAny_pure hQ
  | i :: l => by
    rw [List.forIn_cons]
    refine wpAny_bind ?_
    cases f i
    · exact wpAny_pure (wpAny_rules hQ l)
    · exact wpAny_bind (wpAny_rule (wpAny_pure (wpAny_rules hQ l)))
theorem wpAny_runToEnd {m mf : Sre.M} {n : Nat} (h : Ends n m mf) (hn : n ≤ 1000000) {Q : Option Sre.M → Shared → Prop}
    (hQ : (mf.outcome = some .matched ∧ Q (some mf) s) ∨ (mf.outcome = some .failed ∧ Q none s)) : wpAny M A (reRunToEnd m) Q E s := by
  unfold reRunToEnd
  refine wpAny_bind (wpAny_reDrive ?_ (2 ^ 64) n m h (by omega) (by omega))
  refine wpAny_bind (wpAny_rules (f := fun i => mf.seen.has i) (g := fun i => Sre.names.getD i "") ?_ _)
  rcases hQ with ⟨e, q⟩ | ⟨e, q⟩
  · rw [e]; exact wpAny_pure q
  · rw [e]; exact wpAny_pure q
end
end Mine
end

section
open PySem PySem.W PyProof.Rows PySem.Calls
set_option Elab.async false
set_option maxRecDepth 100000
set_option maxHeartbeats 400000
namespace Mine
open PySem.Builtin PySem.Builtin.Re
structure PatAt (h : Heap) (P C : Addr) (kd : Nat) (code : Array Nat) : Prop where
  pat : ∃ p0 p1, h.get? P = some ⟨.type "re.Pattern", none, .fields #[p0, p1, .int 0 0, .none, .none, .ref C, .int kd 0], #[]⟩
  tup : ∃ n, h.get? C = some ⟨.type "tuple", none, .seq (code.map fun (n : Nat) => Value.int (n : Int) 0) n, #[]⟩
theorem PatAt.keeps {h h' : Heap} {P C : Addr} {kd : Nat} {code : Array Nat} (x : PatAt h P C kd code) (hk : Keeps h h') : PatAt h' P C kd code :=
  ⟨let ⟨a, b, e⟩ := x.pat; ⟨a, b, hk _ _ e⟩, let ⟨n, e⟩ := x.tup; ⟨n, hk _ _ e⟩⟩
def mkVal (kd : Nat) (a : Array Nat) (t : Tok) : Value := if kd = 0 then .str ⟨a⟩ t else .bytes (a.map (·.toUInt8)) t
def Fine (kd : Nat) (a : Array Nat) : Prop := kd = 0 ∨ (kd = 1 ∧ ∀ x ∈ a.toList, x < 256)
theorem raw_code (code : Array Nat) : (Array.map (fun x => Int.toNat x) (Array.map reRawOf (Array.map (fun (n : Nat) => Value.int (n : Int) 0) code))) = code := by
  apply Array.ext'
  rw [Array.toList_map, Array.toList_map, Array.toList_map, List.map_map, List.map_map]
  conv => rhs; rw [← List.map_id code.toList]
  exact List.map_congr_left fun x _ => rfl
theorem bytes_back (a : Array Nat) (h : ∀ x ∈ a.toList, x < 256) : ((a.map (·.toUInt8)).map (·.toNat)) = a := by
  apply Array.ext'
  rw [Array.toList_map, Array.toList_map, List.map_map]
  conv => rhs; rw [← List.map_id a.toList]
  refine List.map_congr_left fun x hx => ?_
  have := h x hx
  show (x.toUInt8).toNat = x
  simp [Nat.toUInt8, UInt8.toNat_ofNat]
  omega
theorem asStr_bytes (b : Array UInt8) (t : Tok) : asStr? (.bytes b t) = pure none := rfl
section
variable {prog : Program} {w : World} {A : Around} {E : Value → Shared → Prop} {s : Shared}
theorem textOf_c {kd : Nat} {a : Array Nat} {t : Tok} (hf : Fine kd a) {Q : Array Nat × Nat → Shared → Prop} (h : Q (a, kd) s) : wpAny (model prog w) A (reTextOf (mkVal kd a t)) Q E s := by
  rcases hf with rfl | ⟨rfl, hb⟩
  · exact wpAny_bind (wpAny_pure (wpAny_pure h))
  · unfold reTextOf
    have e : mkVal 1 a t = .bytes (a.map (·.toUInt8)) t := rfl
    rw [e]
    refine wpAny_bind (wpAny_of_eq (asStr_bytes _ _) ?_)
    dsimp only
    refine wpAny_bind (wpAny_of_eq KBy.quiet_eq ?_)
    show wpAny _ _ (pure ((a.map (·.toUInt8)).map (·.toNat), 1)) _ _ _
    rw [bytes_back a hb]
    exact wpAny_pure h
theorem whole_c {P C : Addr} {kd : Nat} {code a : Array Nat} {t : Tok} (hp : PatAt s.heap P C kd code) (hf : Fine kd a) {Q : ReTarget → Shared → Prop}
    (h : Q { pattern := .ref P, string := mkVal kd a t, code := code, text := a, kind := kd, groups := 0, pos := 0, lim := a.size } s) :
    wpAny (model prog w) A (reWholeTarget (.ref P) (mkVal kd a t)) Q E s := by
  obtain ⟨p0, p1, hP⟩ := hp.pat
  obtain ⟨n, hC⟩ := hp.tup
  unfold reWholeTarget
  refine wpAny_bind (wpAny_fieldsOf hP rfl ?_)
  refine wpAny_bind (textOf_c hf ?_)
  have fin : ∀ (Q' : ReTarget → Shared → Prop), Q' { pattern := .ref P, string := mkVal kd a t, code := code, text := a, kind := kd, groups := 0, pos := 0, lim := a.size } s →
      wpAny (model prog w) A (do
        let __do_lift ← reRawItems (.ref C)
        pure { pattern := .ref P, string := mkVal kd a t, code := __do_lift.map (·.toNat), text := a, kind := kd, groups := 0, pos := 0, lim := a.size : ReTarget }) Q' E s := by
    intro Q' hq
    refine wpAny_bind ?_
    unfold reRawItems
    refine wpAny_bind (wpAny_seqItems hC rfl (wpAny_pure ?_))
    refine wpAny_pure ?_
    show Q' { pattern := .ref P, string := mkVal kd a t, code := Array.map (fun x => Int.toNat x) (Array.map reRawOf (Array.map (fun (n : Nat) => Value.int (n : Int) 0) code)), text := a, kind := kd, groups := 0, pos := 0, lim := a.size } s
    rw [raw_code]; exact hq
  rcases hf with rfl | ⟨rfl, hb⟩
  · show wpAny _ _ (pure () >>= fun _ => _) _ _ _
    exact wpAny_bind (wpAny_pure (fin Q h))
  · show wpAny _ _ ((isInstance (.bytes (a.map (·.toUInt8)) t) (.type "bytes") >>= fun r => _) >>= fun _ => _) _ _ _
    refine wpAny_bind (wpAny_bind (wpAny_of_eq KBy.isInstance_eq (wpAny_pure (fin Q h))))
theorem literal_c {kd : Nat} {a : Array Nat} {t : Tok} (hf : Fine kd a) {Q : Unit → Shared → Prop} (h : Q () s) : wpAny (model prog w) A (reLiteralCannotBeTurned (mkVal kd a t)) Q E s := by
  rcases hf with rfl | ⟨rfl, hb⟩
  · exact wpAny_bind (wpAny_pure (wpAny_pure h))
  · unfold reLiteralCannotBeTurned
    refine wpAny_bind (wpAny_of_eq (asStr_bytes _ _) ?_)
    show wpAny _ _ (isInstance (.bytes (a.map (·.toUInt8)) t) (.type "bytes") >>= fun r => _) _ _ _
    exact wpAny_bind (wpAny_of_eq KBy.isInstance_eq (wpAny_pure h))
theorem slice_c {kd : Nat} {text : Array Nat} {b e : Nat} {Q : Value → Shared → Prop} (hk : kd = 0 ∨ kd = 1) (hsz : text.size ≤ 1000) (h : ∀ t, Q (mkVal kd (text.extract b e) t) { s with toks := s.toks + 1 }) : wpAny (model prog w) A (reSlice text kd b e) Q E s := by
  have hz : (text.extract b e).size ≤ sizeLine := by rw [Array.size_extract, sizeLine_eq]; omega
  unfold reSlice
  rcases hk with rfl | rfl
  · exact wpAny_mkStr (h _) hz
  · exact wpAny_mkBytes (h _) (by rw [Array.size_map]; exact hz)
end
end Mine
end

section
open PySem PySem.W PyProof.Rows PySem.Calls
set_option Elab.async false
set_option maxRecDepth 100000
set_option maxHeartbeats 400000
namespace Mine
open PySem.Builtin PySem.Builtin.Re
theorem slot_bjoin : Slot "bytes" "join" "bytes.join" :=
  .of (owner := "bytes") (n := "join") (by rw [typeLookup_type, builtinLookup_eq_fast]; kernel_rfl) (by decide +kernel) (by decide +kernel) (by decide +kernel)
    (by first | exact .inl (by decide +kernel) | exact .inr (by decide +kernel)) (by rw [isSubtype_type]; kernel_rfl)
theorem entry_bjoin : entryFor table "bytes.join" = some Builtin.«bytes.join» := entryFor_of_tree (by kernel_rfl)
theorem args_bjoin (a b : Value) : argsOk "bytes.join" ⟨[a, b], []⟩ := by
  unfold argsOk; rw [signature?_of (id := "bytes.join") (n := ['n', 'i', 'o', 'j']) (o := ['s', 'e', 't', 'y', 'b']) (by kernel_rfl) FB.owner_bytes]; kernel_rfl
theorem take_eq (id : String) (b : Array UInt8) (t : Tok) : Bytes.takeBufferQuiet? id (.bytes b t) 0 = pure (some (b, none)) := by
  unfold Bytes.takeBufferQuiet? Bytes.takeBuffer?
  rw [KBy.special_eq KBy.look_buffer, KBy.own_buffer]
  have e : Bytes.buffer? id (.bytes b t) ((0 : Int) == Bytes.fullReadOnly) = pure (some b) := KBy.buffer_eq (id := id)
  rw [e]
  rfl
section
variable {prog : Program} {w : World} {A : Around} {E : Value → Shared → Prop} {s : Shared}
theorem joinLetGo_c {keep : List Value} {Q : Unit → Shared → Prop} (hq : Q () s) : ∀ l : List (Array UInt8 × Tok), wpAny (model prog w) A (Bytes.joinLetGo (l.map fun p => (Value.bytes p.1 p.2, none)) keep) Q E s
  | [] => wpAny_pure hq
  | p :: l => by
    show wpAny _ _ (letGo _ _ >>= fun _ => Bytes.joinLetGo (l.map fun p => (Value.bytes p.1 p.2, none)) keep) _ _ _
    exact wpAny_bind (wpAny_letGo (joinLetGo_c hq l))
theorem joined_nil (l : List (Array UInt8)) : Bytes.joined #[] l = (l.map (·.toList)).flatten.toArray := by
  unfold Bytes.joined
  have gen : ∀ (l : List (Array UInt8)) (k : Nat) (acc : Array UInt8), (l.zipIdx k).foldl (fun out (x : Array UInt8 × Nat) => (if x.2 > 0 then out ++ #[] else out) ++ x.1) acc = acc ++ (l.map (·.toList)).flatten.toArray := by
    intro l
    induction l with
    | nil => intro k acc; simp
    | cons a l ih =>
      intro k acc
      rw [List.zipIdx_cons, List.foldl_cons, ih]
      apply Array.ext'
      simp
  have := gen l 0 #[]
  simpa using this
theorem parts_size (l : List (Array UInt8)) : ∀ n, l.foldl (fun n b => n + b.size) n = n + (l.map (·.size)).sum := by
  induction l with
  | nil => intro n; simp
  | cons a l ih => intro n; rw [List.foldl_cons, ih]; simp; omega
theorem take_map_succ {α β : Type} (f : α → β) (l : List α) (i : Nat) (h : i < l.length) : (l.take (i + 1)).map f = (l.take i).map f ++ [f l[i]] := by
  rw [List.take_succ_eq_append_getElem h, List.map_append]; rfl
theorem match1_ne {α : Type} {items : Array Value} (h : ¬ items.size = 1) (f : Value → α) (g : Array Value → α) : Bytes.joinM.match_1 (fun _ => α) items f g = g items := by
  unfold Bytes.joinM.match_1
  rw [dif_neg h]
theorem bjoin_c {D : Addr} {t : Tok} {l : List (Array UInt8 × Tok)} (hl : s.heap.IsList D (l.map fun p => Value.bytes p.1 p.2).toArray) (hne : l ≠ []) (hsz : (l.map (·.1.size)).sum ≤ 100000)
    {Q : Value → Shared → Prop} (hq : ∀ t' tk, Q (.bytes (l.map (·.1.toList)).flatten.toArray t') { s with toks := tk }) :
    wpAny (model prog w) A (call (.builtin "bytes.join") [.bytes #[] t, .ref D]) Q E s := by
  obtain ⟨o, ho, hc, n, hd⟩ := hl
  refine wpAny_call_entry slot_bjoin (typeIs_bytes _ _ _) entry_bjoin ?_ (args_bjoin _ _)
  unfold Builtin.«bytes.join» Bytes.joinM
  dsimp only
  have hkk : (Bytes.Kind.bytes == Bytes.Kind.bytes) = true := rfl
  refine wpAny_bind (m := selfAndOne _ _) (wpAny_pure ?_)
  rw [if_pos hkk]
  unfold Bytes.joinItems
  refine wpAny_bind (wpAny_bind (wpAny_typeOf ⟨o, ho, hc⟩ ?_))
  rw [if_pos (show (Value.type "list" == Value.type "list" || Value.type "list" == Value.type "tuple") = true from rfl)]
  refine wpAny_pure ?_
  refine wpAny_bind (wpAny_seqItems ho hd ?_)
  dsimp only
  rw [if_pos hkk]
  match l, hne with
  | [p], _ =>
    show wpAny _ _ (typeOf (.bytes p.1 p.2) >>= fun r => _) _ _ _
    refine wpAny_bind (wpAny_typeOf (typeIs_bytes _ _ _) ?_)
    rw [if_pos (show (Value.type "bytes" == Value.type "bytes") = true from rfl)]
    refine wpAny_bind (wpAny_rule (wpAny_pure ⟨_, rfl, ?_⟩))
    have := hq p.2 s.toks
    simp at this
    exact this
  | p :: q :: r, _ =>
    generalize hL : p :: q :: r = l at hq hsz hd ⊢
    have hlen : 2 ≤ l.length := by rw [← hL]; simp
    generalize hI : (l.map fun p => Value.bytes p.1 p.2).toArray = items at hd ⊢
    have hIs : items.size = l.length := by rw [← hI]; simp
    have hget : ∀ i (h : i < l.length), items.getD i .none = .bytes l[i].1 l[i].2 := by
      intro i h
      rw [← hI, Array.getD_eq_getD_getElem?]
      simp [h]
    rw [match1_ne (by omega)]
    · refine wpAny_bind ?_
      rw [Std.Legacy.Range.forIn_eq_forIn_range']
      show wpAny _ _ (forIn (List.range' 0 ([:items.size] : Std.Legacy.Range).size 1) _ _) _ _ _
      rw [show ([:items.size] : Std.Legacy.Range).size = l.length by simp [Std.Legacy.Range.size, hIs]]
      refine wpAny_forIn_list _ (fun rest c s' => s' = s ∧ ∃ i, i ≤ l.length ∧ rest = List.range' i (l.length - i) 1 ∧ c = (((l.take i).map (·.1)).toArray, (l.take i).map fun p => (Value.bytes p.1 p.2, none))) _ ?_ ?_ _ _ ⟨rfl, 0, Nat.zero_le _, rfl, rfl⟩
      · rintro x rest c s' ⟨rfl, i, hi, hr, rfl⟩
        have hlt : i < l.length := by
          rcases Nat.lt_or_ge i l.length with h' | h'
          · exact h'
          · rw [show l.length - i = 0 by omega] at hr; simp at hr
        obtain ⟨k, hk⟩ : ∃ k, l.length - i = k + 1 := ⟨l.length - i - 1, by omega⟩
        rw [hk, List.range'_succ] at hr
        obtain ⟨rfl, rfl⟩ := List.cons.inj hr
        refine wpAny_bind (wpAny_seqItems ho hd ?_)
        dsimp only
        have hany : (Bytes.Kind.bytes == Bytes.Kind.bytearray || ((l.take x).map fun p => (Value.bytes p.1 p.2, (none : Option Value))).any fun x => x.1.onHeap) = false := by
          rw [show (Bytes.Kind.bytes == Bytes.Kind.bytearray) = false from rfl, Bool.false_or, List.any_map]
          simp only [List.any_eq_false]
          intro p _
          exact Bool.false_ne_true
        rw [hany, if_neg Bool.false_ne_true, hget x hlt]
        refine wpAny_bind (wpAny_holding (wpAny_of_eq (take_eq _ _ _) ?_))
        dsimp only
        refine wpAny_bind (wpAny_seqItems ho hd ?_)
        dsimp only
        rw [if_neg (by simp)]
        refine wpAny_pure ⟨rfl, x + 1, hlt, ?_, ?_⟩
        · congr 1; omega
        · rw [take_map_succ _ l x hlt, take_map_succ _ l x hlt]
          simp
      · rintro c s' ⟨rfl, i, hi, hr, rfl⟩
        have hie : i = l.length := by
          rcases Nat.lt_or_ge i l.length with h' | h'
          · obtain ⟨k, hk⟩ : ∃ k, l.length - i = k + 1 := ⟨l.length - i - 1, by omega⟩
            rw [hk, List.range'_succ] at hr; cases hr
          · omega
        subst hie
        rw [List.take_length]
        refine wpAny_bind (m := Bytes.payload _) (wpAny_pure ?_)
        dsimp only
        have hsum : Array.foldl (fun x1 (x2 : Array UInt8) => x1 + x2.size) ((#[] : Array UInt8).size * ((l.map (·.1)).toArray.size - 1)) (l.map (·.1)).toArray = (l.map (·.1.size)).sum := by
          rw [← Array.foldl_toList, parts_size]
          simp
          rfl
        have hz : Bytes.tooLong ((l.map (·.1.size)).sum) = false := KBy.tooLong_not (by omega)
        have hfl : (l.map (·.1.toList)).flatten.length = (l.map (·.1.size)).sum := by
          rw [List.length_flatten, List.map_map]; congr 1
        rw [hsum, hz, if_neg Bool.false_ne_true, joined_nil, List.map_map]
        refine wpAny_bind (m := Bytes.Kind.new _ _) (wpAny_mkBytes ?_ (by rw [List.size_toArray]; show (l.map (·.1.toList)).flatten.length ≤ sizeLine; rw [hfl, sizeLine_eq]; omega))
        refine wpAny_bind (wpAny_holding (wpAny_point ?_))
        refine wpAny_bind (joinLetGo_c ?_ l)
        exact wpAny_pure ⟨_, rfl, hq _ _⟩
end
end Mine
end

section
open PySem PySem.W PyProof.Rows PySem.Calls
set_option Elab.async false
set_option maxRecDepth 100000
set_option maxHeartbeats 400000
namespace Mine
open PySem.Builtin PySem.Builtin.Re
/-- what the machine's finds make of a text from p on -/
inductive Subst (text rp : Array Nat) (hit : Nat → Bool) (len : Nat → Nat) : Nat → List Nat → Prop
  | done {p : Nat} (h : text.size ≤ p) : Subst text rp hit len p []
  | hit {p : Nat} {r : List Nat} (h : p < text.size) (hh : hit p = true) (t : Subst text rp hit len (p + len p) r) : Subst text rp hit len p (rp.toList ++ r)
  | miss {p : Nat} {r : List Nat} (h : p < text.size) (hh : hit p = false) (t : Subst text rp hit len (p + 1) r) : Subst text rp hit len p (text[p] :: r)
theorem ext_cons {text : Array Nat} {p q : Nat} (h : p < q) (hq : q ≤ text.size) : (text.extract p q).toList = text[p] :: (text.extract (p + 1) q).toList := by
  simp only [Array.toList_extract, List.extract_eq_take_drop]
  rw [List.drop_eq_getElem_cons (by simpa using (by omega : p < text.size)), show q - p = (q - (p + 1)) + 1 by omega, List.take_succ_cons]
  rfl
theorem ext_nil {text : Array Nat} {p : Nat} : (text.extract p p).toList = [] := by simp
theorem Subst.none {text rp : Array Nat} {hit : Nat → Bool} {len : Nat → Nat} {p : Nat} {r : List Nat} (x : Subst text rp hit len p r) (h : ∀ q, p ≤ q → q < text.size → hit q = false) : r = (text.extract p text.size).toList := by
  induction x with
  | done h' => rw [Array.toList_extract, List.extract_eq_take_drop, List.drop_eq_nil_of_le (by simpa using h')]; simp
  | hit h' hh _ _ => rw [h _ (Nat.le_refl _) h'] at hh; cases hh
  | miss h' hh t ih => rw [ext_cons h' (Nat.le_refl _), ih fun q h1 h2 => h q (by omega) h2]
theorem Subst.next {text rp : Array Nat} {hit : Nat → Bool} {len : Nat → Nat} {p : Nat} {r : List Nat} (x : Subst text rp hit len p r) : ∀ q, p ≤ q → q < text.size → hit q = true → (∀ k, p ≤ k → k < q → hit k = false) →
    ∃ r', r = (text.extract p q).toList ++ (rp.toList ++ r') ∧ Subst text rp hit len (q + len q) r' := by
  induction x with
  | done h' => intro q h1 h2; omega
  | @hit p r h' hh t ih =>
    intro q h1 h2 h3 h4
    have e : q = p := by
      by_cases e : q = p
      · exact e
      · have := h4 p (Nat.le_refl _) (by omega); rw [hh] at this; cases this
    subst e
    exact ⟨_, by rw [ext_nil]; rfl, t⟩
  | @miss p r h' hh t ih =>
    intro q h1 h2 h3 h4
    have hne : q ≠ p := by intro e; rw [e, hh] at h3; cases h3
    obtain ⟨r', e, t'⟩ := ih q (by omega) h2 h3 fun k a b => h4 k (by omega) b
    refine ⟨r', ?_, t'⟩
    rw [ext_cons (by omega) (by omega), e]
    rfl
section
variable {prog : Program} {w : World} {A : Around} {E : Value → Shared → Prop} {s : Shared}
theorem glued_nil (l : List Str) : Builtin.Str.glued ⟨#[]⟩ l = ⟨(l.map (·.cps.toList)).flatten.toArray⟩ := by
  cases l with
  | nil => rfl
  | cons a l =>
    unfold Builtin.Str.glued
    congr 1
    have gen : ∀ (l : List Str) (acc : Array Nat), l.foldl (fun acc (p : Str) => acc ++ (#[] : Array Nat) ++ p.cps) acc = acc ++ (l.map (·.cps.toList)).flatten.toArray := by
      intro l
      induction l with
      | nil => intro acc; simp
      | cons b l ih => intro acc; rw [List.foldl_cons, ih]; apply Array.ext'; simp
    show (List.drop 1 (a :: l)).foldl _ a.cps = _
    rw [List.drop_one, List.tail_cons, gen]
    apply Array.ext'; simp
/-- the join of the pieces -/
theorem join_c {kd : Nat} (hk : kd = 0 ∨ kd = 1) {D : Addr} {t : Tok} {l : List (Array Nat × Tok)} (hl : s.heap.IsList D (l.map fun p => mkVal kd p.1 p.2).toArray) (hne : l ≠ []) (hsz : (l.map (·.1.size)).sum ≤ 10000) (hln : l.length ≤ 10000)
    {Q : Value → Shared → Prop} (hq : ∀ t' tk, Q (mkVal kd (l.map (·.1.toList)).flatten.toArray t') { s with toks := tk }) :
    wpAny (model prog w) A (call (.builtin (if (kd == 0) = true then "str.join" else "bytes.join")) [mkVal kd #[] t, .ref D]) Q E s := by
  rcases hk with rfl | rfl
  · have hm : ((l.map fun p => ((⟨p.1⟩ : Str), p.2)).map (·.1)) = l.map fun p => (⟨p.1⟩ : Str) := by rw [List.map_map]; rfl
    refine SC.join (l := l.map fun p => ((⟨p.1⟩ : Str), p.2)) (texts := l.map fun p => (⟨p.1⟩ : Str)) ?_ hm (joinOk_of_weight ?_ (by decide)) fun t' tk => ?_
    · rw [strValues, List.map_map]; exact hl
    · rw [List.map_map, List.length_map]
      have : (l.map (((·.length) : Str → Nat) ∘ fun p => (⟨p.1⟩ : Str))).sum = (l.map (·.1.size)).sum := rfl
      omega
    · have e : Txt.join (⟨#[]⟩ : Str) (l.map fun p => (⟨p.1⟩ : Str)) = ⟨(l.map (·.1.toList)).flatten.toArray⟩ := by
        show Builtin.Str.glued _ _ = _
        rw [glued_nil, List.map_map]; rfl
      have := hq t' tk
      unfold mkVal at this
      rw [if_pos rfl] at this
      rw [e]; exact this
  · have e0 : mkVal 1 #[] t = .bytes #[] t := by simp [mkVal]
    rw [e0, if_neg (by decide)]
    refine bjoin_c (l := l.map fun p => (p.1.map (·.toUInt8), p.2)) ?_ (by simpa using hne) ?_ fun t' tk => ?_
    · rw [List.map_map]; exact hl
    · rw [List.map_map]
      have : (l.map ((fun x => x.1.size) ∘ fun p : Array Nat × Tok => (p.1.map (·.toUInt8), p.2))).sum = (l.map (·.1.size)).sum := by
        congr 1
        exact List.map_congr_left fun p _ => by simp
      omega
    · have := hq t' tk
      unfold mkVal at this
      rw [if_neg (by decide)] at this
      have e : ((l.map fun p => (p.1.map (·.toUInt8), p.2)).map (·.1.toList)).flatten.toArray = (l.map (·.1.toList)).flatten.toArray.map (·.toUInt8) := by
        apply Array.ext'
        rw [List.map_map]
        simp [List.map_flatten, List.map_map, Function.comp_def]
      rw [e]; exact this
end
end Mine
end

section
open PySem PySem.W PyProof.Rows PySem.Calls
set_option Elab.async false
set_option maxRecDepth 100000
set_option maxHeartbeats 400000
namespace Mine
open PySem.Builtin PySem.Builtin.Re
section
variable {prog : Program} {w : World} {A : Around} {E : Value → Shared → Prop} {s : Shared}
def listAt (h : Heap) (L : Addr) (kd : Nat) (l : List (Array Nat × Tok)) : Prop := ∃ c, h.get? L = some ⟨.type "list", none, .seq (l.map fun p => mkVal kd p.1 p.2).toArray c, #[]⟩
theorem push_c {L : Addr} {kd : Nat} {l : List (Array Nat × Tok)} {x : Array Nat} {t : Tok} (hL : listAt s.heap L kd l) (hsz : l.length ≤ 10000) {Q : Unit → Shared → Prop}
    (h : ∀ h', listAt h' L kd (l ++ [(x, t)]) → (∀ b o, b ≠ L → s.heap.get? b = some o → h'.get? b = some o) → Q () { s with heap := h' }) : wpAny (model prog w) A (updateSeq L fun a => a.push (mkVal kd x t)) Q E s := by
  obtain ⟨c, hL⟩ := hL
  refine wpAny_updateSeq hL rfl (h _ ?_ fun b o hb e => (Heap.get?_update_other _ _ (Ne.symm hb)).trans e) ?_ ?_
  · have e : (s.heap.update L (Obj.mapSeq fun a => a.push (mkVal kd x t))).get? L = some ⟨.type "list", none, .seq ((l.map fun p => mkVal kd p.1 p.2).toArray.push (mkVal kd x t))
        (if (((l.map fun p => mkVal kd p.1 p.2).toArray.push (mkVal kd x t)).size == (l.map fun p => mkVal kd p.1 p.2).toArray.size) = true then c else c + 1), #[]⟩ := Heap.get?_update_self _ hL rfl
    have e2 : (l.map fun p => mkVal kd p.1 p.2).toArray.push (mkVal kd x t) = ((l ++ [(x, t)]).map fun p => mkVal kd p.1 p.2).toArray := by simp
    rw [e2] at e
    exact ⟨_, e⟩
  · simp only [List.size_toArray, List.length_map]; rw [sizeLine_eq]; omega
  · simp only [Array.size_push, List.size_toArray, List.length_map]; rw [sizeLine_eq]; omega
theorem mkVal_ne (kd : Nat) (a : Array Nat) (t : Tok) : (mkVal kd a t != Value.none) = true := by
  unfold mkVal; split <;> rfl
theorem PatAt.apart {h : Heap} {P C L : Addr} {kd kd' : Nat} {code : Array Nat} {l : List (Array Nat × Tok)} (hp : PatAt h P C kd code) (hL : listAt h L kd' l) : P ≠ L ∧ C ≠ L := by
  obtain ⟨p0, p1, e1⟩ := hp.pat
  obtain ⟨n, e2⟩ := hp.tup
  obtain ⟨c, e3⟩ := hL
  constructor
  · rintro rfl; rw [e1] at e3; injection e3 with e3; injection e3 with e4; injection e4 with e5; exact absurd e5 (by decide)
  · rintro rfl; rw [e2] at e3; injection e3 with e3; injection e3 with e4; injection e4 with e5; exact absurd e5 (by decide)
theorem PatAt.but {h h' : Heap} {P C L : Addr} {kd : Nat} {code : Array Nat} (hp : PatAt h P C kd code) (h1 : P ≠ L ∧ C ≠ L) (hk : ∀ b o, b ≠ L → h.get? b = some o → h'.get? b = some o) : PatAt h' P C kd code :=
  ⟨let ⟨a, b, e⟩ := hp.pat; ⟨a, b, hk _ _ h1.1 e⟩, let ⟨n, e⟩ := hp.tup; ⟨n, hk _ _ h1.2 e⟩⟩
theorem quiet_subloop (args : Args) : (Code.builtin "re.Pattern.sub.loop" args).quiet = true := Code.quiet_builtin args (by decide +kernel)
theorem under_subloop (args : Args) : A.under (.builtin "re.Pattern.sub.loop" args) = A.in1 := Around.under_plainId (by decide +kernel) args
theorem loop_c {R : Result → Shared → Prop} {P C L : Addr} {kd : Nat} {code a rp : Array Nat} {ta tr : Tok} {hit : Nat → Bool} {len : Nat → Nat} (hk : kd = 0 ∨ kd = 1) (hfa : Fine kd a) (hfr : Fine kd rp) (hsa : a.size ≤ 300) (hsr : rp.size ≤ 16)
    (hfind : ∀ start must, start ≤ a.size → ∃ n mf, n ≤ 1000000 ∧ Ends n (Sre.forSearch code a 0 start a.size must) mf ∧ Found a.size hit len start mf)
    (hlen : ∀ p, p < a.size → hit p = true → 1 ≤ len p ∧ p + len p ≤ a.size) :
    ∀ (d start : Nat) (s : Shared) (cnt : Int) (must : Bool) (l : List (Array Nat × Tok)) (r : List Nat), a.size - start = d → start ≤ a.size → PatAt s.heap P C kd code → listAt s.heap L kd l → Subst a rp hit len start r →
      l.length ≤ 2 * start → (l.map (·.1.size)).sum ≤ 20 * start → (1 ≤ start → l ≠ []) →
      (∀ h' t tk, (∀ b o, b ≠ L → s.heap.get? b = some o → h'.get? b = some o) → R (.ok (.ret (mkVal kd ((l.map (·.1.toList)).flatten ++ r).toArray t))) { s with heap := h', toks := tk }) →
      codeAny (model prog w) A (.builtin "re.Pattern.sub.loop" ⟨[.ref P, mkVal kd a ta, mkVal kd rp tr, .int 0 0, .int 0 0, .int cnt 0, .int (start : Int) 0, .int (start : Int) 0, .bool must, .ref L, .bool false], []⟩) R s := by
  intro d
  induction d using Nat.strongRecOn with
  | ind d ih =>
    intro start s cnt must l r hd hs hp hL hr hl1 hl2 hl3 hR
    refine codeAny_builtin entry_subloop ?_
    rw [under_subloop]
    unfold Builtin.«re.Pattern.sub.loop»
    dsimp only
    refine wpAny_bind (whole_c hp hfa ?_)
    dsimp only
    rw [if_pos (show ((0 : Int) == 0) = true from rfl)]
    refine wpAny_bind (literal_c hfr ?_)
    rw [if_neg (show ¬ (((0 : Int) != 0 && decide (cnt ≥ 0)) = true) from by simp)]
    unfold reNextFound
    dsimp only
    obtain ⟨n, mf, hn, hE, hF⟩ := hfind start must hs
    rw [Int.toNat_natCast]
    refine wpAny_bind (wpAny_runToEnd hE hn ?_)
    rcases hF with ⟨e, hno⟩ | ⟨p, h1, h2, h3, h4, h5, h6, h7⟩
    · refine .inr ⟨e, ?_⟩
      dsimp only
      have hr' := hr.none hno
      -- the end: join what there is
      have fin : ∀ (s' : Shared) (l' : List (Array Nat × Tok)), listAt s'.heap L kd l' → l'.length ≤ 2 * start + 1 → (l'.map (·.1.size)).sum ≤ 20 * start + 300 → (l'.map (·.1.toList)).flatten = (l.map (·.1.toList)).flatten ++ r → 
          (∀ b o, b ≠ L → s.heap.get? b = some o → s'.heap.get? b = some o) → (∃ h' tk, s' = { s with heap := h', toks := tk }) →
          wpAny (model prog w) A.in1 (do
            let joiner ← reSlice a kd 0 0
            let __do_lift ← seqItems? (Value.ref L)
            if (__do_lift.getD #[]).isEmpty = true then do
                let text ← pure joiner
                if false = true then do
                    let __do_lift ← holding [text] do
                              let __do_lift ← mkInt cnt
                              newTuple [text, __do_lift]
                    ret __do_lift
                  else ret text
              else do
                let text ← call (Value.builtin (if (kd == 0) = true then "str.join" else "bytes.join")) [joiner, Value.ref L]
                if false = true then do
                    let __do_lift ← holding [text] do
                              let __do_lift ← mkInt cnt
                              newTuple [text, __do_lift]
                    ret __do_lift
                  else ret text)
            (fun fin s' => match fin with | .done f => R (.ok f) s' | .again c' => c'.quiet = true ∧ codeAny (model prog w) A c' R s') (fun e s' => R (.error e) s') s' := by
        rintro s' l' hL' b1 b2 b3 b4 ⟨h', tk, rfl⟩
        refine wpAny_bind (slice_c hk (by omega) fun t => ?_)
        obtain ⟨c, hLc⟩ := hL'
        refine wpAny_bind (wpAny_seqItems hLc rfl ?_)
        have e0 : a.extract 0 0 = #[] := by simp
        rw [e0]
        cases l' with
        | nil =>
          rw [if_pos (by simp)]
          refine wpAny_bind (wpAny_pure ?_)
          rw [if_neg Bool.false_ne_true]
          refine wpAny_pure ?_
          have := hR h' t (tk + 1) b4
          rw [← b3] at this
          exact this
        | cons x l' =>
          rw [if_neg (by simp)]
          refine wpAny_bind (join_c (s := { s with heap := h', toks := tk + 1 }) hk (l := x :: l') ⟨_, hLc, rfl, c, rfl⟩ (by simp) (by omega) (by omega) fun t' tk' => ?_)
          rw [if_neg Bool.false_ne_true]
          refine wpAny_pure ?_
          have := hR h' t' tk' b4
          rw [← b3] at this
          exact this
      by_cases hlt : start < a.size
      · rw [if_pos hlt]
        refine wpAny_bind (slice_c hk (by omega) fun t => ?_)
        refine wpAny_bind (push_c (s := { s with toks := s.toks + 1 }) hL (by omega) fun h' hL' hk' => ?_)
        refine fin _ _ hL' (by simp; omega) ?_ ?_ hk' ⟨_, _, rfl⟩
        · rw [List.map_append, List.sum_append]
          simp
          omega
        · rw [List.map_append, List.flatten_append, hr']; simp
      · rw [if_neg hlt]
        refine fin s l hL (by omega) (by omega) ?_ (fun _ _ _ e => e) ⟨_, _, rfl⟩
        rw [hr', show start = a.size by omega]
        simp
    · refine .inl ⟨h5, ?_⟩
      dsimp only
      rw [h6, h7]
      obtain ⟨r', er, hr'⟩ := hr.next p h1 h2 h3 h4
      obtain ⟨q1, q2⟩ := hlen p h2 h3
      have go : ∀ (s' : Shared) (l' : List (Array Nat × Tok)), listAt s'.heap L kd l' → l'.length ≤ 2 * start + 1 → (l'.map (·.1.size)).sum ≤ 20 * start + (p - start) → (l'.map (·.1.toList)).flatten = (l.map (·.1.toList)).flatten ++ (a.extract start p).toList → 
          (∀ b o, b ≠ L → s.heap.get? b = some o → s'.heap.get? b = some o) → (∃ h' tk, s' = { s with heap := h', toks := tk }) →
          wpAny (model prog w) A.in1 (do
            let item ← pure (mkVal kd rp tr)
            if (item != Value.none) = true then do
                updateSeq L fun x => x.push item
                again (Code.builtin "re.Pattern.sub.loop" { pos := [.ref P, mkVal kd a ta, mkVal kd rp tr, .int 0 0, .int 0 0, rawInt (cnt + 1), rawInt ((p + len p : Nat) : Int), rawInt ((p + len p : Nat) : Int), .bool (p + len p == p), .ref L, .bool false] })
              else again (Code.builtin "re.Pattern.sub.loop" { pos := [.ref P, mkVal kd a ta, mkVal kd rp tr, .int 0 0, .int 0 0, rawInt (cnt + 1), rawInt ((p + len p : Nat) : Int), rawInt ((p + len p : Nat) : Int), .bool (p + len p == p), .ref L, .bool false] }))
            (fun fin s' => match fin with | .done f => R (.ok f) s' | .again c' => c'.quiet = true ∧ codeAny (model prog w) A c' R s') (fun e s' => R (.error e) s') s' := by
        rintro s' l' hL' b1 b2 b3 b4 ⟨h', tk, rfl⟩
        refine wpAny_bind (wpAny_pure ?_)
        rw [if_pos (mkVal_ne _ _ _)]
        refine wpAny_bind (push_c hL' (by omega) fun h'' hL'' hk'' => ?_)
        have ap := hp.apart hL
        refine wpAny_pure ⟨quiet_subloop _, ih (a.size - (p + len p)) (by omega) (p + len p) _ (cnt + 1) _ _ r' rfl q2 ((hp.but ap b4).but ap hk'') hL'' hr' (by simp; omega) ?_ (by simp) fun h3 t3 tk3 hk3 => ?_⟩
        · rw [List.map_append, List.sum_append]
          simp
          omega
        · have := hR h3 t3 tk3 fun b o hb e => hk3 b o hb (hk'' b o hb (b4 b o hb e))
          rw [er] at this
          rw [List.map_append, List.flatten_append, b3]
          simpa [List.append_assoc] using this
      by_cases hlt : start < p
      · rw [if_pos hlt]
        refine wpAny_bind (slice_c hk (by omega) fun t => ?_)
        refine wpAny_bind (push_c (s := { s with toks := s.toks + 1 }) hL (by omega) fun h' hL' hk' => ?_)
        rw [if_pos (show ((0 : Int) == 0) = true from rfl)]
        refine go _ _ hL' (by simp; omega) ?_ ?_ hk' ⟨_, _, rfl⟩
        · rw [List.map_append, List.sum_append]
          simp
          omega
        · rw [List.map_append, List.flatten_append]; simp
      · rw [if_neg hlt, if_pos (show ((0 : Int) == 0) = true from rfl)]
        refine go s l hL (by omega) (by omega) ?_ (fun _ _ _ e => e) ⟨_, _, rfl⟩
        rw [show start = p by omega]
        simp
end
end Mine
end

section
open PySem PySem.W PyProof.Rows PySem.Calls
set_option Elab.async false
set_option maxRecDepth 100000
set_option maxHeartbeats 400000
namespace Mine
open PySem.Builtin PySem.Builtin.Re
theorem noCall_str : typeLookup (.type "str") "__call__" = pure none := by rw [typeLookup_type, builtinLookup_eq_fast]; kernel_rfl
theorem noCall_bytes : typeLookup (.type "bytes") "__call__" = pure none := by rw [typeLookup_type, builtinLookup_eq_fast]; kernel_rfl
theorem named_sub (r x : Value) : reNamed "re.Pattern.sub" "sub" ["repl", "string", "count"] 2 [r, x] [] = pure [some r, some x, none] := rfl
theorem asStr_str (a : Array Nat) (t : Tok) : asStr? (mkVal 0 a t) = pure (some ⟨a⟩) := rfl
section
variable {prog : Program} {w : World} {A : Around} {E : Value → Shared → Prop} {s : Shared}
theorem sub_c {P C : Addr} {kd : Nat} {code a rp : Array Nat} {ta tr : Tok} {hit : Nat → Bool} {len : Nat → Nat} {r : List Nat} (hk : kd = 0 ∨ kd = 1) (hfa : Fine kd a) (hfr : Fine kd rp) (hsa : a.size ≤ 300) (hsr : rp.size ≤ 16)
    (hlit : rp.toList.contains 92 = false)
    (hfind : ∀ start must, start ≤ a.size → ∃ n mf, n ≤ 1000000 ∧ Ends n (Sre.forSearch code a 0 start a.size must) mf ∧ Found a.size hit len start mf)
    (hlen : ∀ p, p < a.size → hit p = true → 1 ≤ len p ∧ p + len p ≤ a.size) (hp : PatAt s.heap P C kd code) (hr : Subst a rp hit len 0 r)
    {Q : Value → Shared → Prop} (hQ : ∀ h' t tk, Keeps s.heap h' → Q (mkVal kd r.toArray t) { s with heap := h', toks := tk }) :
    wpAny (model prog w) A (call (.builtin "re.Pattern.sub") [.ref P, mkVal kd rp tr, mkVal kd a ta]) Q E s := by
  have hT : s.TypeIs (.ref P) "re.Pattern" := by obtain ⟨p0, p1, e⟩ := hp.pat; exact ⟨_, e, rfl⟩
  refine wpAny_call (codeAny_call_builtin slot_sub.plain entry_sub (slot_sub.check _ _ _ _ _ _ _ _ hT (args_sub _ _ _) ?_))
  unfold Builtin.«re.Pattern.sub» reSubstitute
  dsimp only
  refine wpAny_bind (wpAny_of_eq (named_sub _ _) ?_)
  dsimp only
  refine wpAny_bind (wpAny_pure ?_)
  have hcall : wpAny (model prog w) A.in1 (specialOf (mkVal kd rp tr) (Str.ofString "__call__")) (fun r s' => r = none ∧ s' = s) (fun _ _ => False) s := by
    rcases hk with rfl | rfl
    · exact wpAny_specialOf (typeIs_str _ _ _) noCall_str ⟨rfl, rfl⟩
    · exact wpAny_specialOf (typeIs_bytes _ _ _) noCall_bytes ⟨rfl, rfl⟩
  refine wpAny_bind (wpAny_mono hcall ?_ fun _ _ x => x.elim)
  rintro _ s2 ⟨rfl, es⟩
  subst es
  rw [if_neg (show ¬ ((none : Option Value).isSome = true) from by simp)]
  have hl1 : (!rp.contains 92) = true := by
    rw [← Array.contains_toList, hlit]; rfl
  have tail : ∀ Q' E', Q' = (fun fin s' => match fin with
        | .done f => (match (Except.ok f : Result) with | .ok (.ret v) => Q v s' | .ok _ => False | .error e => E e s')
        | .again c' => c'.quiet = true ∧ codeAny (model prog w) A c' (fun r s' => match r with | .ok (.ret v) => Q v s' | .ok _ => False | .error e => E e s') s') →
      wpAny (model prog w) A.in1 (do
        let __do_lift ← newList []
        again (Code.builtin "re.Pattern.sub.loop" { pos := [.ref P, mkVal kd a ta, mkVal kd rp tr, rawInt 0, rawInt 0, rawInt 0, rawInt 0, rawInt 0, .bool false, __do_lift, .bool false] })) Q' E' s2 := by
    rintro _ E' rfl
    refine wpAny_bind (wpAny_newObj_type (wpAny_pure ⟨quiet_subloop _, ?_⟩))
    have hK : Keeps s2.heap (s2.heap.push { cls := .type "list", dict := none, data := .seq ([] : List Value).toArray }) := fun b o e => Heap.get?_push_of_some _ e
    refine loop_c hk hfa hfr hsa hsr hfind hlen a.size 0 _ 0 false [] r (by omega) (Nat.zero_le _) (hp.keeps hK) ⟨0, Heap.get?_push_size _ rfl⟩ hr (by simp) (by simp) (by omega) fun h' t tk hk' => ?_
    exact hQ h' t tk fun b o e => hk' b o (fun q => by have := Heap.lt_size e; rw [q] at this; exact Nat.lt_irrefl _ this) (hK b o e)
  rcases hk with rfl | rfl
  · refine wpAny_bind (wpAny_of_eq (asStr_str _ _) ?_)
    dsimp only
    refine wpAny_bind (wpAny_pure ?_)
    rw [hl1, if_neg (by simp), if_pos rfl]
    refine wpAny_bind (wpAny_pure ?_)
    refine wpAny_bind (wpAny_holding (whole_c hp hfa ?_))
    dsimp only
    rw [if_neg (by decide)]
    exact tail _ _ rfl
  · have hl2 : (!(rp.map (·.toUInt8)).contains 92) = true := by
      rw [Bool.not_eq_true', Bool.eq_false_iff]
      intro hm0
      have hm : (92 : UInt8) ∈ rp.map (·.toUInt8) := by simpa using hm0
      obtain ⟨x, hx, e⟩ := Array.mem_map.mp hm
      rcases hfr with q | ⟨_, q⟩
      · cases q
      · have hx' := q x (Array.mem_toList_iff.mpr hx)
        have e2 : x = 92 := by
          have := congrArg UInt8.toNat e
          simp [Nat.toUInt8] at this
          omega
        subst e2
        have : rp.toList.contains 92 = true := by simpa using hx
        rw [hlit] at this; cases this
    have e1 : mkVal 1 rp tr = .bytes (rp.map (·.toUInt8)) tr := rfl
    refine wpAny_bind (wpAny_of_eq (by rw [e1]; exact asStr_bytes _ _) ?_)
    dsimp only
    refine wpAny_bind (wpAny_of_eq (by rw [e1]; exact KBy.quiet_eq) ?_)
    dsimp only
    refine wpAny_bind (wpAny_pure ?_)
    rw [hl2, if_neg (by simp), if_pos rfl]
    refine wpAny_bind (wpAny_pure ?_)
    refine wpAny_bind (wpAny_holding (whole_c hp hfa ?_))
    dsimp only
    rw [if_neg (by decide)]
    exact tail _ _ rfl
end
end Mine
end

section
open PySem PySem.W PyProof.Rows PySem.Calls
set_option Elab.async false
set_option maxRecDepth 100000
set_option maxHeartbeats 400000
namespace Mine
def fix : List Nat → List Nat
  | [] => []
  | 13 :: 10 :: xs => 13 :: 10 :: fix xs
  | c :: xs => if c = 13 ∨ c = 10 then 13 :: 10 :: fix xs else c :: fix xs
def quo : Bool → List Nat → List Nat
  | _, [] => []
  | b, c :: xs => if b = true ∧ c = 46 then 46 :: 46 :: quo false xs else c :: quo (c == 10) xs
theorem fix_crlf (xs : List Nat) : fix (13 :: 10 :: xs) = 13 :: 10 :: fix xs := by rw [fix]
theorem fix_gen {c : Nat} {xs : List Nat} (h : ∀ ys, c = 13 → xs ≠ 10 :: ys) : fix (c :: xs) = if c = 13 ∨ c = 10 then 13 :: 10 :: fix xs else c :: fix xs := by
  conv => lhs; rw [fix.eq_def]
  split
  · rename_i e; cases e
  · rename_i ys e; injection e with e1 e2; exact absurd e2 (h ys e1)
  · rename_i c' xs' _ e; injection e with e1 e2; subst e1; subst e2; rfl
theorem fix_cr {xs : List Nat} (h : ∀ ys, xs ≠ 10 :: ys) : fix (13 :: xs) = 13 :: 10 :: fix xs := by
  rw [fix_gen fun ys _ => h ys, if_pos (.inl rfl)]
theorem fix_lf (xs : List Nat) : fix (10 :: xs) = 13 :: 10 :: fix xs := by
  rw [fix_gen (fun _ h => absurd h (by decide)), if_pos (Or.inr rfl)]
theorem fix_other {c : Nat} (xs : List Nat) (h1 : c ≠ 13) (h2 : c ≠ 10) : fix (c :: xs) = c :: fix xs := by
  rw [fix_gen fun _ h => absurd h h1, if_neg (fun q => q.elim h1 h2)]
theorem drop_cons {a : Array Nat} {p : Nat} (h : p < a.size) : a.toList.drop p = a[p] :: a.toList.drop (p + 1) := by
  rw [List.drop_eq_getElem_cons (by simpa using h)]; rfl
theorem getD_of {a : Array Nat} {p : Nat} (h : p < a.size) : a.getD p 0 = a[p] := by simp [Array.getD, h]
theorem subst_fix (a : Array Nat) : ∀ (d p : Nat), a.size - p = d → Subst a #[13, 10] (isEnd a) (lenEnd a) p (fix (a.toList.drop p)) := by
  intro d
  induction d using Nat.strongRecOn with
  | ind d ih =>
    intro p hd
    by_cases hp : p < a.size
    · rw [drop_cons hp]
      by_cases h13 : a[p] = 13
      · have hit : isEnd a p = true := by unfold isEnd; rw [getD_of hp, h13]; rfl
        by_cases h2 : p + 1 < a.size ∧ a.getD (p + 1) 0 = 10
        · have hl : lenEnd a p = 2 := by unfold lenEnd; rw [getD_of hp, h13, h2.2]; simp [h2.1]
          have e : a[p + 1]'h2.1 = 10 := by rw [← getD_of h2.1]; exact h2.2
          rw [drop_cons h2.1, h13, e, fix_crlf]
          refine Subst.hit (rp := #[13, 10]) hp hit ?_
          rw [hl]
          exact ih _ (by omega) (p + 2) rfl
        · have hl : lenEnd a p = 1 := by
            unfold lenEnd
            rw [if_neg]
            intro hh
            simp only [Bool.and_eq_true, decide_eq_true_eq, beq_iff_eq] at hh
            exact h2 ⟨hh.2, hh.1.2⟩
          rw [h13, fix_cr]
          · refine Subst.hit (rp := #[13, 10]) hp hit ?_
            rw [hl]
            exact ih _ (by omega) (p + 1) rfl
          · intro ys e
            by_cases h1 : p + 1 < a.size
            · rw [drop_cons h1] at e
              injection e with e1 _
              exact h2 ⟨h1, by rw [getD_of h1]; exact e1⟩
            · rw [List.drop_eq_nil_of_le (by simpa using h1)] at e; cases e
      · by_cases h10 : a[p] = 10
        · have hit : isEnd a p = true := by unfold isEnd; rw [getD_of hp, h10]; rfl
          have hl : lenEnd a p = 1 := by unfold lenEnd; rw [getD_of hp, h10]; rfl
          rw [h10, fix_lf]
          refine Subst.hit (rp := #[13, 10]) hp hit ?_
          rw [hl]
          exact ih _ (by omega) (p + 1) rfl
        · have hit : isEnd a p = false := by unfold isEnd; rw [getD_of hp]; simp [h10, h13]
          rw [fix_other _ h13 h10]
          exact Subst.miss hp hit (ih _ (by omega) (p + 1) rfl)
    · rw [List.drop_eq_nil_of_le (by simpa using hp)]
      exact Subst.done (by omega)
theorem atLine_succ {a : Array Nat} {p : Nat} (h : p < a.size) : atLine a (p + 1) = (a[p] == 10) := by
  unfold atLine
  rw [show p + 1 - 1 = p from rfl, getD_of h]
  simp
theorem subst_quo (a : Array Nat) : ∀ (d p : Nat), a.size - p = d → Subst a #[46, 46] (hit1 a) (fun _ => 1) p (quo (atLine a p) (a.toList.drop p)) := by
  intro d
  induction d using Nat.strongRecOn with
  | ind d ih =>
    intro p hd
    by_cases hp : p < a.size
    · rw [drop_cons hp]
      have h' := ih _ (by omega) (p + 1) rfl
      rw [atLine_succ hp] at h'
      by_cases hh : atLine a p = true ∧ a[p] = 46
      · have hit : hit1 a p = true := by unfold hit1; rw [getD_of hp, hh.1, hh.2]; rfl
        unfold quo
        rw [if_pos hh]
        rw [hh.2] at h'
        exact Subst.hit (rp := #[46, 46]) hp hit h'
      · have hit : hit1 a p = false := by
          unfold hit1; rw [getD_of hp]
          cases h1 : atLine a p
          · rfl
          · simp only [Bool.true_and, beq_eq_false_iff_ne]; intro e; exact hh ⟨h1, e⟩
        unfold quo
        rw [if_neg hh]
        exact Subst.miss hp hit h'
    · rw [List.drop_eq_nil_of_le (by simpa using hp)]
      unfold quo
      exact Subst.done (by omega)
/-! the two laws on a text that is put together -/
def Plain (r : List Nat) : Prop := ∀ c ∈ r, c ≠ 10 ∧ c ≠ 13 ∧ c < 256
theorem fix_plain {r : List Nat} (h : Plain r) (xs : List Nat) : fix (r ++ xs) = r ++ fix xs := by
  induction r with
  | nil => rfl
  | cons c r ih =>
    obtain ⟨h1, h2, _⟩ := h c (List.mem_cons_self ..)
    rw [List.cons_append, fix_other _ h2 h1, ih fun x hx => h x (List.mem_cons_of_mem _ hx)]; rfl
def dbl (r : List Nat) : List Nat := match r with
  | 46 :: xs => 46 :: 46 :: xs
  | r => r
theorem quo_plain_false {r : List Nat} (h : Plain r) (xs : List Nat) : quo false (r ++ xs) = r ++ quo false xs := by
  induction r with
  | nil => rfl
  | cons c r ih =>
    obtain ⟨h1, _, _⟩ := h c (List.mem_cons_self ..)
    have e : (c == 10) = false := by simpa using h1
    rw [List.cons_append, quo, if_neg (by simp), e, ih fun x hx => h x (List.mem_cons_of_mem _ hx)]; rfl
theorem quo_plain_true {r : List Nat} (h : Plain r) (hne : r ≠ []) (xs : List Nat) : quo true (r ++ xs) = dbl r ++ quo false xs := by
  cases r with
  | nil => exact absurd rfl hne
  | cons c r =>
    obtain ⟨h1, _, _⟩ := h c (List.mem_cons_self ..)
    have hr : Plain r := fun x hx => h x (List.mem_cons_of_mem _ hx)
    have e : (c == 10) = false := by simpa using h1
    rw [List.cons_append, quo]
    by_cases hc : c = 46
    · subst hc
      rw [if_pos ⟨rfl, rfl⟩, quo_plain_false hr]; rfl
    · rw [if_neg (fun q => hc q.2), e, quo_plain_false hr]
      have : dbl (c :: r) = c :: r := by
        unfold dbl; split
        · rename_i q; injection q with q1 _; exact absurd q1 hc
        · rfl
      rw [this]; rfl
end Mine
end

section
open PySem PySem.W PyProof.Rows PySem.Calls
set_option Elab.async false
set_option maxRecDepth 100000
set_option maxHeartbeats 400000
namespace Mine
def sL (l : List Nat) : Str := ⟨l.toArray⟩
def bL (l : List Nat) : Array UInt8 := (l.map (·.toUInt8)).toArray
theorem crlf_eq : Str.ofString "\x0d\n" = sL [13, 10] := by decide +kernel
theorem dots_eq : Str.ofString ".." = sL [46, 46] := by decide +kernel
theorem c1_eq : (C1.map fun (n : Nat) => Value.int (n : Int) 0) = #[.int 14 0, .int 4 0, .int 0 0, .int 1 0, .int 1 0, .int 6 0, .int 1 0, .int 16 0, .int 46 0, .int 1 0] := by decide +kernel
theorem c3_eq : (C3.map fun (n : Nat) => Value.int (n : Int) 0) = #[.int 14 0, .int 9 0, .int 4 0, .int 1 0, .int 2 0, .int 16 0, .int 10 0, .int 16 0, .int 13 0, .int 0 0, .int 7 0, .int 7 0, .int 16 0, .int 13 0, .int 16 0, .int 10 0, .int 15 0, .int 18 0, .int 5 0, .int 16 0, .int 10 0, .int 15 0, .int 13 0, .int 11 0, .int 16 0, .int 13 0, .int 5 0, .int 5 0, .int 0 0, .int 16 0, .int 10 0, .int 1 0, .int 15 0, .int 2 0, .int 0 0, .int 1 0] := by decide +kernel
theorem pat3 {w : World} {h : Heap} (X : (KK w).In h) : PatAt h 46 45 0 C3 :=
  ⟨⟨_, _, X 46 _ rfl⟩, ⟨0, by rw [c3_eq]; exact X 45 _ rfl⟩⟩
theorem pat1 {w : World} {h : Heap} (X : (KK w).In h) : PatAt h 36 35 0 C1 :=
  ⟨⟨_, _, X 36 _ rfl⟩, ⟨0, by rw [c1_eq]; exact X 35 _ rfl⟩⟩
theorem pat2 {w : World} {h : Heap} (X : (KK w).In h) : PatAt h 41 40 1 C1 :=
  ⟨⟨_, _, X 41 _ rfl⟩, ⟨0, by rw [c1_eq]; exact X 40 _ rfl⟩⟩
section
variable {w : World} {A : Around} {E : Value → Shared → Prop} {s : Shared}
theorem sub3_c {x : List Nat} {ta tr : Tok} (X : (KK w).In s.heap) (hx : x.length ≤ 300) {Q : Value → Shared → Prop}
    (hQ : ∀ h' t tk, Keeps s.heap h' → Q (.str (sL (fix x)) t) { s with heap := h', toks := tk }) :
    wpAny (model PG w) A (call (.builtin "re.Pattern.sub") [.ref 46, .str (sL [13, 10]) tr, .str (sL x) ta]) Q E s := by
  refine sub_c (kd := 0) (a := x.toArray) (rp := #[13, 10]) (hit := isEnd x.toArray) (len := lenEnd x.toArray) (r := fix x) (.inl rfl) (.inl rfl) (.inl rfl) (by simpa using hx) (by decide) (by decide) ?_ ?_ (pat3 X) ?_ hQ
  · intro start must hs
    obtain ⟨n, mf, h1, h2, h3⟩ := forSearch3 x.toArray start x.toArray.size must hs rfl
    exact ⟨n, mf, by simp at h1; omega, h2, h3⟩
  · intro p hp _
    have hl : lenEnd x.toArray p = 1 ∨ (lenEnd x.toArray p = 2 ∧ p + 1 < x.toArray.size) := by
      unfold lenEnd
      by_cases h : (x.toArray.getD p 0 == 13 && x.toArray.getD (p + 1) 0 == 10 && decide (p + 1 < x.toArray.size)) = true
      · rw [if_pos h]
        simp only [Bool.and_eq_true, decide_eq_true_eq] at h
        exact .inr ⟨rfl, h.2⟩
      · rw [if_neg h]; exact .inl rfl
    omega
  · exact subst_fix x.toArray _ 0 rfl
theorem sub1_c {x : List Nat} {ta tr : Tok} (X : (KK w).In s.heap) (hx : x.length ≤ 300) {Q : Value → Shared → Prop}
    (hQ : ∀ h' t tk, Keeps s.heap h' → Q (.str (sL (quo true x)) t) { s with heap := h', toks := tk }) :
    wpAny (model PG w) A (call (.builtin "re.Pattern.sub") [.ref 36, .str (sL [46, 46]) tr, .str (sL x) ta]) Q E s := by
  refine sub_c (kd := 0) (a := x.toArray) (rp := #[46, 46]) (hit := hit1 x.toArray) (len := fun _ => 1) (r := quo true x) (.inl rfl) (.inl rfl) (.inl rfl) (by simpa using hx) (by decide) (by decide) ?_ ?_ (pat1 X) ?_ hQ
  · intro start must hs
    obtain ⟨n, mf, h1, h2, h3⟩ := forSearch1 x.toArray start x.toArray.size must hs
    exact ⟨n, mf, by simp at h1; omega, h2, h3⟩
  · intro p hp _
    omega
  · exact subst_quo x.toArray _ 0 rfl
theorem bmap (x : List Nat) : bL x = x.toArray.map (·.toUInt8) := by unfold bL; simp
theorem sub2_c {x : List Nat} {ta tr : Tok} (X : (KK w).In s.heap) (hx : x.length ≤ 300) (hb : ∀ c ∈ x, c < 256) {Q : Value → Shared → Prop}
    (hQ : ∀ h' t tk, Keeps s.heap h' → Q (.bytes (bL (quo true x)) t) { s with heap := h', toks := tk }) :
    wpAny (model PG w) A (call (.builtin "re.Pattern.sub") [.ref 41, .bytes #[46, 46] tr, .bytes (bL x) ta]) Q E s := by
  have e1 : (.bytes #[46, 46] tr : Value) = mkVal 1 #[46, 46] tr := by unfold mkVal; rw [if_neg (by decide)]; congr 1; decide +kernel
  have e2 : (.bytes (bL x) ta : Value) = mkVal 1 x.toArray ta := by unfold mkVal; rw [if_neg (by decide), bmap]
  rw [e1, e2]
  refine sub_c (kd := 1) (a := x.toArray) (rp := #[46, 46]) (hit := hit1 x.toArray) (len := fun _ => 1) (r := quo true x) (.inr rfl) (.inr ⟨rfl, hb⟩) (.inr ⟨rfl, by decide⟩) (by simpa using hx) (by decide) (by decide) ?_ ?_ (pat2 X) ?_ ?_
  · intro start must hs
    obtain ⟨n, mf, h1, h2, h3⟩ := forSearch1 x.toArray start x.toArray.size must hs
    exact ⟨n, mf, by simp at h1; omega, h2, h3⟩
  · intro p hp _
    omega
  · exact subst_quo x.toArray _ 0 rfl
  · intro h' t tk hk
    have := hQ h' t tk hk
    rw [bmap] at this
    exact this
theorem getsub {P C : Addr} {kd : Nat} {code : Array Nat} {pl : Sem Bool} {Q : Value × List Value → Shared → Prop} (hp : PatAt s.heap P C kd code) (h : Q (.builtin "re.Pattern.sub", [.ref P]) s) :
    wpAny (model PG w) A (getMethod (.ref P) "sub" pl) Q E s := by
  obtain ⟨p0, p1, e⟩ := hp.pat
  refine getMethod_builtin (T := "re.Pattern") ⟨_, e, rfl⟩ plainAttrs_pat slot_sub type_sub (fun a q => ?_) h
  injection q with q
  subst q
  exact ⟨_, e, rfl⟩
end
end Mine
end

section
open PySem PySem.W PyProof.Rows PySem.Calls
set_option Elab.async false
set_option maxRecDepth 100000
set_option maxHeartbeats 4000000
namespace Mine
theorem fill0 : ∀ (w : World) (h : Heap), (Mine.hd.heap_39 w.params).In h → PySem.Challenge.rw_rs0035_01.prog = PySem.Challenge.rw_rs0035_01.prog := by
  w_top off
  k_fill
  intros
  rfl
theorem Env0.keeps {w : World} {mean : ExcName → Option Value} {mg mb : Str → Option Value} {h h' : Heap} (H : Env0 w mean mg mb h) (hk : Keeps h h') : Env0 w mean mg mb h' := ⟨H.x.keeps hk, H.t.keeps hk⟩
theorem Keeps.refl (h : Heap) : Keeps h h := fun _ _ e => e
theorem Keeps.trans {a b c : Heap} (x : Keeps a b) (y : Keeps b c) : Keeps a c := fun q o e => y q o (x q o e)
theorem Keeps.fr {h₀ h h' : Heap} {L : Addr} {m : Str → Option Value} (k : Keeps h h') (F : Fr h₀ L h m) : Fr h₀ L h' m := ⟨F.ns.keeps k, fun b o e => k b o (F.keep b o e), F.above⟩
theorem fix_length (x : List Nat) : (fix x).length ≤ 2 * x.length := by
  have gen : ∀ n (x : List Nat), x.length = n → (fix x).length ≤ 2 * x.length := by
    intro n
    induction n using Nat.strongRecOn with
    | ind n ih =>
      intro x hx
      rw [fix.eq_def]
      split
      · simp
      · rename_i xs
        have := ih xs.length (by simp at hx; omega) xs rfl
        simp; omega
      · rename_i c xs _
        have := ih xs.length (by simp at hx; omega) xs rfl
        split <;> simp <;> omega
  exact gen _ x rfl
theorem quo_length (x : List Nat) : ∀ b, (quo b x).length ≤ 2 * x.length := by
  induction x with
  | nil => intro b; simp [quo]
  | cons c xs ih =>
    intro b
    unfold quo
    split
    · have := ih false; simp; omega
    · have := ih (c == 10); simp; omega
section
variable {w : World} {mean : ExcName → Option Value} {mg mb : Str → Option Value} {dp un : Nat} {fr : Option (List Env)} {gd : Option (List Code)} {s : Shared} {Q E : Value → Shared → Prop}
theorem fixeols_c {x : List Nat} {t : Tok} (H : Env0 w mean mg mb s.heap) (hx : x.length ≤ 300) (hd : dp + 1 < recursionLimit)
    (ret : ∀ h' t' tk', Keeps s.heap h' → Q (.str (sL (fix x)) t') { s with heap := h', toks := tk' }) :
    wpAny (model PG w) ⟨none, dp, fr, gd, un⟩ (call (.ref 67) [.str (sL x) t]) Q E s := by
  have KX : (Mine.hd.heap_39 w.params).In s.heap := H.x
  have T := H.t
  dsimp only [VW, LS] at T
  refine wpAny_call ?_
  k_dflt (refine' enter_def KX T.nolimit ?k6 ?k7 ?k8 ?k9 ?kB ?_ ?c2 ?c3 ?c4 ?c5; (case k6 => k_is); (case k7 => k_is); (case k8 => (dsimp only; omega)); (case k9 => exact BindsTo.of_eq rfl); (case kB => exact locs rfl); (case c5 => decide); (case c2 => exact rfl); (case c3 => exact rfl); (case c4 => exact rfl))
  intro h₁ F
  have N : News s.heap s.heap.objs.size h₁ [] := News.nil
  dsimp only
  iterate 4 walk1
  refine getsub (pat3 (H.x.keeps F.keep)) ?_
  iterate 6 walk1
  rw [crlf_eq]
  refine sub3_c (H.x.keeps F.keep) hx fun h' t' tk' hk => ?_
  exact ret h' t' tk' (Keeps.trans F.keep hk)
theorem quoteper_c {x : List Nat} {t : Tok} (H : Env0 w mean mg mb s.heap) (hx : x.length ≤ 300) (hb : ∀ c ∈ x, c < 256) (hd : dp + 1 < recursionLimit)
    (ret : ∀ h' t' tk', Keeps s.heap h' → Q (.bytes (bL (quo true x)) t') { s with heap := h', toks := tk' }) :
    wpAny (model PG w) ⟨none, dp, fr, gd, un⟩ (call (.ref 60) [.bytes (bL x) t]) Q E s := by
  have KX : (Mine.hd.heap_39 w.params).In s.heap := H.x
  have T := H.t
  dsimp only [VW, LS] at T
  refine wpAny_call ?_
  k_dflt (refine' enter_def KX T.nolimit ?k6 ?k7 ?k8 ?k9 ?kB ?_ ?c2 ?c3 ?c4 ?c5; (case k6 => k_is); (case k7 => k_is); (case k8 => (dsimp only; omega)); (case k9 => exact BindsTo.of_eq rfl); (case kB => exact locs rfl); (case c5 => decide); (case c2 => exact rfl); (case c3 => exact rfl); (case c4 => exact rfl))
  intro h₁ F
  have N : News s.heap s.heap.objs.size h₁ [] := News.nil
  dsimp only
  iterate 4 walk1
  refine getsub (pat2 (H.x.keeps F.keep)) ?_
  iterate 6 walk1
  refine sub2_c (H.x.keeps F.keep) hx hb fun h' t' tk' hk => ?_
  exact ret h' t' tk' (Keeps.trans F.keep hk)
theorem quotedata_c {x : List Nat} {t : Tok} (H : Env0 w mean mg mb s.heap) (hx : x.length ≤ 140) (hd : dp + 1 < recursionLimit)
    (ret : ∀ h' t' tk', Keeps s.heap h' → Q (.str (sL (quo true (fix x))) t') { s with heap := h', toks := tk' }) :
    wpAny (model PG w) ⟨none, dp, fr, gd, un⟩ (call (.ref 53) [.str (sL x) t]) Q E s := by
  have KX : (Mine.hd.heap_39 w.params).In s.heap := H.x
  have T := H.t
  dsimp only [VW, LS] at T
  refine wpAny_call ?_
  k_dflt (refine' enter_def KX T.nolimit ?k6 ?k7 ?k8 ?k9 ?kB ?_ ?c2 ?c3 ?c4 ?c5; (case k6 => k_is); (case k7 => k_is); (case k8 => (dsimp only; omega)); (case k9 => exact BindsTo.of_eq rfl); (case kB => exact locs rfl); (case c5 => decide); (case c2 => exact rfl); (case c3 => exact rfl); (case c4 => exact rfl))
  intro h₁ F
  have N : News s.heap s.heap.objs.size h₁ [] := News.nil
  dsimp only
  iterate 4 walk1
  refine getsub (pat1 (H.x.keeps F.keep)) ?_
  iterate 6 walk1
  refine getsub (pat3 (H.x.keeps F.keep)) ?_
  iterate 6 walk1
  rw [crlf_eq]
  refine sub3_c (H.x.keeps F.keep) (by omega) fun h' t' tk' hk => ?_
  have F' := hk.fr F
  have N' : News s.heap s.heap.objs.size h' [] := News.nil
  clear N
  walk1
  rw [dots_eq]
  refine sub1_c (H.x.keeps F'.keep) (by have := fix_length x; omega) fun h2 t2 tk2 hk2 => ?_
  exact ret h2 t2 tk2 (Keeps.trans F'.keep hk2)
end
end Mine
end

section
open PySem PySem.W PyProof.Rows PySem.Calls
set_option Elab.async false
set_option maxRecDepth 100000
set_option maxHeartbeats 400000
namespace Mine
@[reducible] def bytesKind : KeyKind where
  α := List Nat
  blt a b := decide (a < b)
  irrefl a := by simpa using List.lt_irrefl a
  trans a b c h1 h2 := by simp only [decide_eq_true_eq] at *; exact List.lt_trans h1 h2
  negTrans a b c h := by
    simp only [decide_eq_true_eq] at *
    by_cases hab : a < b
    · exact .inl hab
    · exact .inr (List.lt_of_le_of_lt (List.not_lt.mp hab) h)
  total a b h1 h2 := by simp only [decide_eq_false_iff_not] at *; exact List.le_antisymm (List.not_lt.mp h2) (List.not_lt.mp h1)
  keyOf v := match v with | .bytes x _ => some (x.toList.map (·.toNat)) | _ => none
  dflt := []
theorem order_lt : ∀ (xs ys : List UInt8), (Builtin.Bytes.order xs ys == .lt) = decide (xs.map (·.toNat) < ys.map (·.toNat))
  | [], [] => rfl
  | [], y :: ys => by simp [Builtin.Bytes.order]
  | x :: xs, [] => by simp [Builtin.Bytes.order]
  | x :: xs, y :: ys => by
    unfold Builtin.Bytes.order
    have ih := order_lt xs ys
    have h1 : (x < y) ↔ x.toNat < y.toNat := UInt8.lt_iff_toNat_lt
    have h2 : (x > y) ↔ y.toNat < x.toNat := UInt8.lt_iff_toNat_lt
    simp only [List.map_cons, List.cons_lt_cons_iff]
    by_cases a : x < y
    · rw [if_pos a]; simp [h1.mp a]
    · rw [if_neg a]
      by_cases b : x > y
      · rw [if_pos b]
        have := h2.mp b
        have n1 : ¬ x.toNat < y.toNat := by omega
        have n2 : ¬ x.toNat = y.toNat := by omega
        simp [n1, n2]
      · rw [if_neg b, ih]
        have n1 : ¬ x.toNat < y.toNat := fun q => a (h1.mpr q)
        have n2 : ¬ y.toNat < x.toNat := fun q => b (h2.mpr q)
        have n3 : x.toNat = y.toNat := by omega
        simp [n3]
theorem slot_bytes_lt : Slot "bytes" "__lt__" "bytes.__lt__" :=
  .of (owner := "bytes") (n := "__lt__") (by rw [typeLookup_type, builtinLookup_eq_fast]; kernel_rfl) (by decide +kernel) (by decide +kernel) (by decide +kernel)
    (by first | exact .inl (by decide +kernel) | exact .inr (by decide +kernel)) (by rw [isSubtype_type]; kernel_rfl)
theorem entry_bytes_lt : entryFor table "bytes.__lt__" = some Builtin.«bytes.__lt__» := entryFor_of_tree (by kernel_rfl)
theorem args_bytes_lt (a b : Value) : argsOk "bytes.__lt__" ⟨[a, b], []⟩ := by
  unfold argsOk; rw [signature?_of (id := "bytes.__lt__") (n := ['_', '_', 't', 'l', '_', '_']) (o := ['s', 'e', 't', 'y', 'b']) (by kernel_rfl) FB.owner_bytes]; kernel_rfl
section
variable {prog : Program} {w : World} {A : Around} {E : Value → Shared → Prop} {s : Shared}
theorem call_bytes_lt {a b : Array UInt8} {t u : Tok} {Q : Value → Shared → Prop} (h : Q (.bool (decide (a.toList.map (·.toNat) < b.toList.map (·.toNat)))) s) :
    wpAny (model prog w) A (call (.builtin "bytes.__lt__") [.bytes a t, .bytes b u]) Q E s := by
  refine wpAny_call_entry slot_bytes_lt (typeIs_bytes s a t) entry_bytes_lt ?_ (args_bytes_lt _ _)
  show wpAny _ _ (isInstance (.bytes b u) (.type "bytes") >>= fun r => _) _ _ s
  refine wpAny_bind (wpAny_isInstance (typeIs_bytes s b u) F.sub_bytes_bytes ?_)
  exact wpAny_pure ⟨_, rfl, by rw [← order_lt] at h; exact h⟩
theorem oneLt_bytes {a b : Array UInt8} {t u : Tok} {Q : Bool → Shared → Prop} (h : Q (decide (a.toList.map (·.toNat) < b.toList.map (·.toNat))) s) : wpAny (model prog w) A (oneLt' true (.bytes a t) (.bytes b u)) Q E s := by
  rw [oneLt'_eq]
  simp only [if_true]
  refine wpAny_bind (wpAny_cRoomFor_byValue rfl ?_)
  refine wpAny_bind (wpAny_callSpecialIfBound?_slot (typeIs_bytes s a t) slot_bytes_lt (call_bytes_lt ?_))
  exact wpAny_truthy_bool h
end
theorem bytesKind_oneLt : bytesKind.OneLt := by
  intro prog w A E s x y a b Q ha hb h
  cases x <;> simp only [bytesKind, reduceCtorEq, Option.some.injEq] at ha
  cases y <;> simp only [bytesKind, reduceCtorEq, Option.some.injEq] at hb
  cases ha; cases hb
  exact oneLt_bytes h
/-! texts and octets alike -/
def tv (kd : Nat) (p : List Nat × Tok) : Value := if kd = 0 then .str (sL p.1) p.2 else .bytes (bL p.1) p.2
def untv : Value → List Nat × Tok
  | .str x t => (x.cps.toList, t)
  | .bytes b t => (b.toList.map (·.toNat), t)
  | _ => ([], 0)
def Oct (kd : Nat) (x : List Nat) : Prop := kd = 0 ∨ (kd = 1 ∧ ∀ c ∈ x, c < 256)
theorem bL_back {x : List Nat} (h : ∀ c ∈ x, c < 256) : (bL x).toList.map (·.toNat) = x := by
  have := bytes_back x.toArray h
  rw [← bmap] at this
  have e := congrArg Array.toList this
  simpa using e
theorem untv_tv {kd : Nat} {p : List Nat × Tok} (h : Oct kd p.1) : untv (tv kd p) = p := by
  rcases h with rfl | ⟨rfl, h⟩
  · simp [tv, untv, sL]
  · show ((bL p.1).toList.map (·.toNat), p.2) = p
    rw [bL_back h]
theorem first_tv (kd : Nat) (p : List Nat × Tok) : firstOfTuple' (tv kd p) = pure none := by unfold tv; split <;> rfl
theorem mapM_first_tv (kd : Nat) : ∀ (vs : List (List Nat × Tok)), (vs.map (tv kd)).mapM firstOfTuple' = pure (vs.map fun _ => none)
  | [] => by simp
  | p :: vs => by rw [List.map_cons, List.mapM_cons, first_tv, mapM_first_tv kd vs]; simp
theorem type_tv (kd : Nat) (p : List Nat × Tok) : typeOf (tv kd p) = pure (.type (if kd = 0 then "str" else "bytes")) := by unfold tv; split <;> rfl
theorem mapM_type_tv (kd : Nat) : ∀ (vs : List (List Nat × Tok)), (vs.map (tv kd)).mapM typeOf = pure (vs.map fun _ => Value.type (if kd = 0 then "str" else "bytes"))
  | [] => by simp
  | p :: vs => by rw [List.map_cons, List.mapM_cons, type_tv, mapM_type_tv kd vs]; simp
theorem keyKind_tv {kd : Nat} {p q : List Nat × Tok} {vs : List (List Nat × Tok)} : keyKind' ((p :: q :: vs).map (tv kd)).toArray = pure oneType' := by
  rw [keyKind'_eq, List.mapM_toArray, mapM_first_tv]
  simp only [map_pure, pure_bind]
  rw [if_neg (by simp), if_neg (by simp)]
  rw [oneTypeOnly'_eq, List.mapM_toArray, mapM_type_tv]
  simp only [map_pure, pure_bind]
  have hall : ((List.map (fun _ => Value.type (if kd = 0 then "str" else "bytes")) (p :: q :: vs)).toArray.all fun x => x == Value.type (if kd = 0 then "str" else "bytes")) = true := by
    simp
  have h0 : (List.map (fun _ => Value.type (if kd = 0 then "str" else "bytes")) (p :: q :: vs)).toArray[0]? = some (Value.type (if kd = 0 then "str" else "bytes")) := by simp
  rw [h0]
  simp only [hall, if_true, pure_bind, Option.isSome_some]
section
variable {prog : Program} {w : World} {A : Around} {E : Value → Shared → Prop} {s : Shared}
/-- sorted(l) -/
theorem sorted_c {kd : Nat} (hk : kd = 0 ∨ kd = 1) {l : Addr} {vs : List (List Nat × Tok)} (hl : s.heap.IsList l (vs.map (tv kd)).toArray) (ho : ∀ p ∈ vs, Oct kd p.1) (h64 : vs.length < 64) {Q : Value → Shared → Prop}
    (h : ∀ (a : Addr) (h' : Heap) (ws : List (List Nat × Tok)) (e : Nat), Keeps s.heap h' → s.heap.get? a = none → h'.get? a = some (W.listOf (ws.map (tv kd)).toArray e) → ws.Perm vs → (ws.map (·.1)).Pairwise (fun x y => ¬ y < x) → Q (.ref a) { s with heap := h' }) :
    wpAny (model prog w) A (call (.builtin "sorted") [.ref l]) Q E s := by
  have key : ∀ (κ : KeyKind) (hα : κ.α = List Nat) (hO : κ.OneLt) (hkey : ∀ p : List Nat × Tok, Oct kd p.1 → κ.keyOf (tv kd p) = some (cast hα.symm p.1)) (hlt : ∀ x y : List Nat, κ.kle (cast hα.symm x) (cast hα.symm y) → ¬ y < x),
      wpAny (model prog w) A (call (.builtin "sorted") [.ref l]) Q E s := by
    intro κ hα hO hkey hlt
    have hkeys : KeysOf κ (pairsOf (vs.map (tv kd))) := by
      intro p hp
      rw [pairsOf_toList] at hp
      obtain ⟨q, hq, e⟩ := List.mem_map.mp (mem_zip_self hp).2
      exact ⟨_, by rw [← e]; exact hkey q (ho q hq)⟩
    refine sortedK hO hl hkeys (fun v₁ v₂ rest e => ?_) (by simpa using h64) fun st' hp hs => ?_
    · match vs, e with
      | p :: q :: r, e =>
        rw [← e]
        exact keyKind_tv
    · have hlp : (arrOf st').toList.Perm ((vs.map (tv kd)).zip (vs.map (tv kd))) := by rw [← pairsOf_toList]; exact Array.perm_iff_toList_perm.mp hp
      have hmem : ∀ p, p ∈ (arrOf st').toList → p.1 = p.2 ∧ ∃ q, q ∈ vs ∧ p.1 = tv kd q := fun p hp' => by
        obtain ⟨e1, e2⟩ := mem_zip_self (hlp.mem_iff.mp hp')
        obtain ⟨q, hq, e⟩ := List.mem_map.mp e2
        exact ⟨e1, q, hq, e.symm⟩
      let ws : List (List Nat × Tok) := (arrOf st').toList.map fun p => untv p.1
      have hws : ((arrOf st').map (·.2)) = (ws.map (tv kd)).toArray := by
        apply Array.ext'
        rw [Array.toList_map]
        show _ = ws.map (tv kd)
        rw [List.map_map]
        refine List.map_congr_left fun p hp' => ?_
        obtain ⟨e1, q, hq, e2⟩ := hmem p hp'
        show p.2 = tv kd (untv p.1)
        rw [← e1, e2, untv_tv (ho q hq)]
      have hperm : ws.Perm vs := by
        have h1 := hlp.map (fun p => untv p.1)
        have e2 : ((vs.map (tv kd)).zip (vs.map (tv kd))).map (fun p => untv p.1) = vs := by
          have : ((vs.map (tv kd)).zip (vs.map (tv kd))).map (fun p => untv p.1) = (((vs.map (tv kd)).zip (vs.map (tv kd))).map Prod.fst).map untv := by rw [List.map_map]; rfl
          rw [this, List.map_fst_zip (Nat.le_refl _), List.map_map]
          conv => rhs; rw [← List.map_id vs]
          exact List.map_congr_left fun p hp' => untv_tv (ho p hp')
        rwa [e2] at h1
      obtain ⟨e, he⟩ := sortedAll_at s.heap (vs.map (tv kd)) ((arrOf st').map (·.2))
      refine h _ _ ws e (fun _ _ => sortedAll_old) ?_ (by rw [he, hws]) hperm ?_
      · cases q : s.heap.get? (s.heap.objs.size + 1) with
        | none => rfl
        | some o => exact absurd (Heap.lt_size q) (Nat.not_lt.mpr (Nat.le_succ _))
      rw [List.pairwise_iff_getElem]
      intro i j hi hj hij
      have hi' : i < (arrOf st').size := by simpa [ws] using hi
      have hj' : j < (arrOf st').size := by simpa [ws] using hj
      have hK : ∀ i (h : i < (arrOf st').size), PyProof.Rows.KK κ (arrOf st') i = cast hα.symm (untv (arrOf st')[i].1).1 := by
        intro i h
        obtain ⟨_, q, hq, e2⟩ := hmem (arrOf st')[i] (by simp)
        unfold PyProof.Rows.KK
        rw [getElem?_pos (arrOf st') i h]
        show (κ.keyOf (arrOf st')[i].1).getD κ.dflt = _
        rw [e2, hkey q (ho q hq), untv_tv (ho q hq)]; rfl
      have h1 := hs i j (Nat.le_of_lt hij) (by rw [← hp.size_eq]; exact hj')
      rw [hK i hi', hK j hj'] at h1
      have := hlt _ _ h1
      simpa [ws] using this
  rcases hk with rfl | rfl
  · refine key PyProof.Rows.strKind rfl strKind_oneLt (fun p _ => ?_) fun x y hxy => ?_
    · simp [tv, PyProof.Rows.strKind, sL]
    · simpa [KeyOrd.kle, PyProof.Rows.strKind] using hxy
  · refine key bytesKind rfl bytesKind_oneLt (fun p hp => ?_) fun x y hxy => ?_
    · have hb : ∀ c ∈ p.1, c < 256 := by
        rcases hp with q | ⟨_, q⟩
        · cases q
        · exact q
      show some ((bL p.1).toList.map (·.toNat)) = some p.1
      rw [bL_back hb]
    · simpa [KeyOrd.kle, bytesKind] using hxy
end
end Mine
end

section
open PySem PySem.W PyProof.Rows PySem.Calls
set_option Elab.async false
set_option maxRecDepth 100000
set_option maxHeartbeats 4000000
namespace Mine
theorem fill1 : ∀ (w : World) (h : Heap), (Mine.hd.heap_39 w.params).In h → PySem.Challenge.rw_rs0035_01.prog = PySem.Challenge.rw_rs0035_01.prog := by
  k_fill
  intros
  rfl
theorem isl {h₀ h : Heap} {L a : Addr} {news : List (Addr × Obj)} {xs : Array Value} {e : Nat} (N : News h₀ L h news) (hm : (a, W.listOf xs e) ∈ news) : h.IsList a xs := ⟨_, (N _ hm).1, rfl, e, rfl⟩
theorem news_one {h₀ h : Heap} {L a : Addr} {o : Obj} (h1 : h.get? a = some o) (h2 : h₀.get? a = none) (h3 : a ≠ L) : News h₀ L h [(a, o)] := by
  intro p hp
  rw [List.mem_singleton] at hp
  subst hp
  exact ⟨h1, h3, h2⟩
theorem isl_keeps {h h' : Heap} {l : Addr} {xs : Array Value} (x : h.IsList l xs) (k : Keeps h h') : h'.IsList l xs := by
  obtain ⟨o, ho, hc, n, hd⟩ := x
  exact ⟨o, k _ _ ho, hc, n, hd⟩
theorem fr_ne {h₀ h : Heap} {L a : Addr} {m : Str → Option Value} (F : Fr h₀ L h m) (ha : h.get? a = none) : a ≠ L := by
  rintro rfl
  obtain ⟨o, _, _, e, _⟩ := F.ns
  rw [e] at ha; cases ha
section
variable {w : World} {mean : ExcName → Option Value} {mg mb : Str → Option Value} {dp un : Nat} {fr : Option (List Env)} {gd : Option (List Code)} {s : Shared} {Q E : Value → Shared → Prop}
theorem median_c {kd : Nat} (hk : kd = 0 ∨ kd = 1) {l : Addr} {vs : List (List Nat × Tok)} {r : List Nat} (H : Env0 w mean mg mb s.heap) (hl : s.heap.IsList l (vs.map (tv kd)).toArray) (ho : ∀ p ∈ vs, Oct kd p.1) (h64 : vs.length < 64)
    (hodd : vs.length % 2 = 1) (hr : ∀ ws : List (List Nat × Tok), ws.Perm vs → (ws.map (·.1)).Pairwise (fun x y => ¬ y < x) → (ws.map (·.1))[vs.length / 2]? = some r) (hd : dp + 1 < recursionLimit)
    (ret : ∀ h' t' tk', Keeps s.heap h' → Q (tv kd (r, t')) { s with heap := h', toks := tk' }) :
    wpAny (model PG w) ⟨none, dp, fr, gd, un⟩ (call (.ref 87) [.ref l]) Q E s := by
  have KX : (Mine.hd.heap_39 w.params).In s.heap := H.x
  have T := H.t
  dsimp only [VW, LS] at T
  refine wpAny_call ?_
  k_dflt (refine' enter_def KX T.nolimit ?k6 ?k7 ?k8 ?k9 ?kB ?_ ?c2 ?c3 ?c4 ?c5; (case k6 => k_is); (case k7 => k_is); (case k8 => (dsimp only; omega)); (case k9 => exact BindsTo.of_eq rfl); (case kB => exact locs rfl); (case c5 => decide); (case c2 => exact rfl); (case c3 => exact rfl); (case c4 => exact rfl))
  intro h₁ F
  have N : News s.heap s.heap.objs.size h₁ [] := News.nil
  dsimp only
  iterate 8 walk1
  refine sorted_c hk (by exact isl_keeps hl F.keep) ho h64 fun a h2 ws e hk2 ha he hperm hsort => ?_
  have F2 := hk2.fr F
  have N2 := news_one (h₀ := s.heap) (L := s.heap.objs.size) he (by
    cases q : s.heap.get? a with
    | none => rfl
    | some o => rw [F.keep _ _ q] at ha; cases ha) (fr_ne F ha)
  clear N F
  have hlen : ws.length = vs.length := hperm.length_eq
  iterate 10 walk1
  (rename News _ _ _ _ => N3)
  refine len_list (by exact isl N3 (List.Mem.head _)) ?_ ?_
  · simp only [List.size_toArray, List.length_map]; omega
  rw [show (((ws.map (tv kd)).toArray.size : Nat) : Int) = (vs.length : Int) by simp [hlen]]
  iterate 10 walk1
  · exfalso; omega
  have hfm : (vs.length : Int).fmod 2 = 1 := by rw [Int.fmod_eq_emod_of_nonneg _ (by omega)]; omega
  have hfd : (vs.length : Int).fdiv 2 = ((vs.length / 2 : Nat) : Int) := by rw [Int.fdiv_eq_ediv_of_nonneg _ (by omega)]; omega
  iterate 13 walk1
  rotate_left
  · exfalso; omega
  iterate 8 walk1
  (rename News _ _ _ _ => N4)
  (rename Fr _ _ _ _ => F4)
  rw [hfd]
  have hres := hr ws hperm hsort
  rw [List.getElem?_map] at hres
  obtain ⟨p, hp, hpr⟩ := Option.map_eq_some_iff.mp hres
  refine item_list (x := tv kd p) (by exact isl N4 (List.Mem.head _)) (by omega) (by omega) ?_ ?_
  · rw [Int.toNat_natCast]
    simp [hp]
  · obtain ⟨p1, p2⟩ := p
    dsimp only at hpr
    subst hpr
    exact ret _ _ _ F4.keep
theorem medlow_odd {kd : Nat} (hk : kd = 0 ∨ kd = 1) {l : Addr} {vs : List (List Nat × Tok)} {r : List Nat} (H : Env0 w mean mg mb s.heap) (hl : s.heap.IsList l (vs.map (tv kd)).toArray) (ho : ∀ p ∈ vs, Oct kd p.1) (h64 : vs.length < 64)
    (hodd : vs.length % 2 = 1) (hr : ∀ ws : List (List Nat × Tok), ws.Perm vs → (ws.map (·.1)).Pairwise (fun x y => ¬ y < x) → (ws.map (·.1))[vs.length / 2]? = some r) (hd : dp + 1 < recursionLimit)
    (ret : ∀ h' t' tk', Keeps s.heap h' → Q (tv kd (r, t')) { s with heap := h', toks := tk' }) :
    wpAny (model PG w) ⟨none, dp, fr, gd, un⟩ (call (.ref 94) [.ref l]) Q E s := by
  have KX : (Mine.hd.heap_39 w.params).In s.heap := H.x
  have T := H.t
  dsimp only [VW, LS] at T
  refine wpAny_call ?_
  k_dflt (refine' enter_def KX T.nolimit ?k6 ?k7 ?k8 ?k9 ?kB ?_ ?c2 ?c3 ?c4 ?c5; (case k6 => k_is); (case k7 => k_is); (case k8 => (dsimp only; omega)); (case k9 => exact BindsTo.of_eq rfl); (case kB => exact locs rfl); (case c5 => decide); (case c2 => exact rfl); (case c3 => exact rfl); (case c4 => exact rfl))
  intro h₁ F
  have N : News s.heap s.heap.objs.size h₁ [] := News.nil
  dsimp only
  iterate 8 walk1
  refine sorted_c hk (by exact isl_keeps hl F.keep) ho h64 fun a h2 ws e hk2 ha he hperm hsort => ?_
  have F2 := hk2.fr F
  have N2 := news_one (h₀ := s.heap) (L := s.heap.objs.size) he (by
    cases q : s.heap.get? a with
    | none => rfl
    | some o => rw [F.keep _ _ q] at ha; cases ha) (fr_ne F ha)
  clear N F
  have hlen : ws.length = vs.length := hperm.length_eq
  iterate 10 walk1
  (rename News _ _ _ _ => N3)
  refine len_list (by exact isl N3 (List.Mem.head _)) ?_ ?_
  · simp only [List.size_toArray, List.length_map]; omega
  rw [show (((ws.map (tv kd)).toArray.size : Nat) : Int) = (vs.length : Int) by simp [hlen]]
  iterate 10 walk1
  · exfalso; omega
  have hfm : (vs.length : Int).fmod 2 = 1 := by rw [Int.fmod_eq_emod_of_nonneg _ (by omega)]; omega
  have hfd : (vs.length : Int).fdiv 2 = ((vs.length / 2 : Nat) : Int) := by rw [Int.fdiv_eq_ediv_of_nonneg _ (by omega)]; omega
  iterate 13 walk1
  rotate_left
  · exfalso; omega
  iterate 8 walk1
  (rename News _ _ _ _ => N4)
  (rename Fr _ _ _ _ => F4)
  rw [hfd]
  have hres := hr ws hperm hsort
  rw [List.getElem?_map] at hres
  obtain ⟨p, hp, hpr⟩ := Option.map_eq_some_iff.mp hres
  refine item_list (x := tv kd p) (by exact isl N4 (List.Mem.head _)) (by omega) (by omega) ?_ ?_
  · rw [Int.toNat_natCast]
    simp [hp]
  · obtain ⟨p1, p2⟩ := p
    dsimp only at hpr
    subst hpr
    exact ret _ _ _ F4.keep
theorem medlow_even {kd : Nat} (hk : kd = 0 ∨ kd = 1) {l : Addr} {vs : List (List Nat × Tok)} {r : List Nat} (H : Env0 w mean mg mb s.heap) (hl : s.heap.IsList l (vs.map (tv kd)).toArray) (ho : ∀ p ∈ vs, Oct kd p.1) (h64 : vs.length < 64)
    (heven : vs.length % 2 = 0) (hpos : 1 ≤ vs.length) (hr : ∀ ws : List (List Nat × Tok), ws.Perm vs → (ws.map (·.1)).Pairwise (fun x y => ¬ y < x) → (ws.map (·.1))[vs.length / 2 - 1]? = some r) (hd : dp + 1 < recursionLimit)
    (ret : ∀ h' t' tk', Keeps s.heap h' → Q (tv kd (r, t')) { s with heap := h', toks := tk' }) :
    wpAny (model PG w) ⟨none, dp, fr, gd, un⟩ (call (.ref 94) [.ref l]) Q E s := by
  have KX : (Mine.hd.heap_39 w.params).In s.heap := H.x
  have T := H.t
  dsimp only [VW, LS] at T
  refine wpAny_call ?_
  k_dflt (refine' enter_def KX T.nolimit ?k6 ?k7 ?k8 ?k9 ?kB ?_ ?c2 ?c3 ?c4 ?c5; (case k6 => k_is); (case k7 => k_is); (case k8 => (dsimp only; omega)); (case k9 => exact BindsTo.of_eq rfl); (case kB => exact locs rfl); (case c5 => decide); (case c2 => exact rfl); (case c3 => exact rfl); (case c4 => exact rfl))
  intro h₁ F
  have N : News s.heap s.heap.objs.size h₁ [] := News.nil
  dsimp only
  iterate 8 walk1
  refine sorted_c hk (by exact isl_keeps hl F.keep) ho h64 fun a h2 ws e hk2 ha he hperm hsort => ?_
  have F2 := hk2.fr F
  have N2 := news_one (h₀ := s.heap) (L := s.heap.objs.size) he (by
    cases q : s.heap.get? a with
    | none => rfl
    | some o => rw [F.keep _ _ q] at ha; cases ha) (fr_ne F ha)
  clear N F
  have hlen : ws.length = vs.length := hperm.length_eq
  iterate 10 walk1
  (rename News _ _ _ _ => N3)
  refine len_list (by exact isl N3 (List.Mem.head _)) ?_ ?_
  · simp only [List.size_toArray, List.length_map]; omega
  rw [show (((ws.map (tv kd)).toArray.size : Nat) : Int) = (vs.length : Int) by simp [hlen]]
  iterate 10 walk1
  · exfalso; omega
  have hfm : (vs.length : Int).fmod 2 = 0 := by rw [Int.fmod_eq_emod_of_nonneg _ (by omega)]; omega
  have hfd : (vs.length : Int).fdiv 2 - 1 = ((vs.length / 2 - 1 : Nat) : Int) := by rw [Int.fdiv_eq_ediv_of_nonneg _ (by omega)]; omega
  iterate 13 walk1
  · exfalso; omega
  iterate 12 walk1
  (rename News _ _ _ _ => N4)
  (rename Fr _ _ _ _ => F4)
  rw [hfd]
  have hres := hr ws hperm hsort
  rw [List.getElem?_map] at hres
  obtain ⟨p, hp, hpr⟩ := Option.map_eq_some_iff.mp hres
  refine item_list (x := tv kd p) (by exact isl N4 (List.Mem.head _)) (by omega) (by omega) ?_ ?_
  · rw [Int.toNat_natCast]
    simp [hp]
  · obtain ⟨p1, p2⟩ := p
    dsimp only at hpr
    subst hpr
    exact ret _ _ _ F4.keep
theorem medhigh_c {kd : Nat} (hk : kd = 0 ∨ kd = 1) {l : Addr} {vs : List (List Nat × Tok)} {r : List Nat} (H : Env0 w mean mg mb s.heap) (hl : s.heap.IsList l (vs.map (tv kd)).toArray) (ho : ∀ p ∈ vs, Oct kd p.1) (h64 : vs.length < 64)
    (hpos : 1 ≤ vs.length) (hr : ∀ ws : List (List Nat × Tok), ws.Perm vs → (ws.map (·.1)).Pairwise (fun x y => ¬ y < x) → (ws.map (·.1))[vs.length / 2]? = some r) (hd : dp + 1 < recursionLimit)
    (ret : ∀ h' t' tk', Keeps s.heap h' → Q (tv kd (r, t')) { s with heap := h', toks := tk' }) :
    wpAny (model PG w) ⟨none, dp, fr, gd, un⟩ (call (.ref 101) [.ref l]) Q E s := by
  have KX : (Mine.hd.heap_39 w.params).In s.heap := H.x
  have T := H.t
  dsimp only [VW, LS] at T
  refine wpAny_call ?_
  k_dflt (refine' enter_def KX T.nolimit ?k6 ?k7 ?k8 ?k9 ?kB ?_ ?c2 ?c3 ?c4 ?c5; (case k6 => k_is); (case k7 => k_is); (case k8 => (dsimp only; omega)); (case k9 => exact BindsTo.of_eq rfl); (case kB => exact locs rfl); (case c5 => decide); (case c2 => exact rfl); (case c3 => exact rfl); (case c4 => exact rfl))
  intro h₁ F
  have N : News s.heap s.heap.objs.size h₁ [] := News.nil
  dsimp only
  iterate 8 walk1
  refine sorted_c hk (by exact isl_keeps hl F.keep) ho h64 fun a h2 ws e hk2 ha he hperm hsort => ?_
  have F2 := hk2.fr F
  have N2 := news_one (h₀ := s.heap) (L := s.heap.objs.size) he (by
    cases q : s.heap.get? a with
    | none => rfl
    | some o => rw [F.keep _ _ q] at ha; cases ha) (fr_ne F ha)
  clear N F
  have hlen : ws.length = vs.length := hperm.length_eq
  iterate 10 walk1
  (rename News _ _ _ _ => N3)
  refine len_list (by exact isl N3 (List.Mem.head _)) ?_ ?_
  · simp only [List.size_toArray, List.length_map]; omega
  rw [show (((ws.map (tv kd)).toArray.size : Nat) : Int) = (vs.length : Int) by simp [hlen]]
  iterate 10 walk1
  · exfalso; omega
  have hfd : (vs.length : Int).fdiv 2 = ((vs.length / 2 : Nat) : Int) := by rw [Int.fdiv_eq_ediv_of_nonneg _ (by omega)]; omega
  iterate 9 walk1
  (rename News _ _ _ _ => N4)
  (rename Fr _ _ _ _ => F4)
  rw [hfd]
  have hres := hr ws hperm hsort
  rw [List.getElem?_map] at hres
  obtain ⟨p, hp, hpr⟩ := Option.map_eq_some_iff.mp hres
  refine item_list (x := tv kd p) (by exact isl N4 (List.Mem.head _)) (by omega) (by omega) ?_ ?_
  · rw [Int.toNat_natCast]
    simp [hp]
  · obtain ⟨p1, p2⟩ := p
    dsimp only at hpr
    subst hpr
    exact ret _ _ _ F4.keep
end
end Mine
end

section
open PySem PySem.W PyProof.Rows PySem.Calls
set_option Elab.async false
set_option maxRecDepth 100000
set_option maxHeartbeats 400000
namespace Mine
/-- a thing that can be gone through: n values, the i-th of which is a P i -/
def Iter (lv : Prop) (w : World) (A : Around) (s : Shared) (xv : Value) (n : Nat) (P : Nat → Value → Prop) : Prop :=
  ∀ (Q : Value → Shared → Prop) (E : Value → Shared → Prop),
    (∀ (o : Obj) (fp : List Addr) (St : Nat → Heap → Prop), Walks PG w A s.heap.objs.size fp [s.heap.objs.size] n P St → St 0 (s.heap.push o) → (∀ b ∈ fp, b < (s.heap.push o).objs.size) →
      (lv → ∀ i h, St i h → ∃ ob, h.get? s.heap.objs.size = some ob) → Q (.ref s.heap.objs.size) { s with heap := s.heap.push o }) →
    wpAny (model PG w) A (pyIter xv) Q E s
section
variable {w : World} {A : Around} {E : Value → Shared → Prop} {s : Shared}
theorem iter_list (hh : A.handled = none) {l : Addr} {items : Array Value} (hl : s.heap.IsList l items) : Iter True w A s (.ref l) items.size (fun i v => items[i]? = some v) := by
  intro Q E h
  have hlt : l < s.heap.objs.size := by obtain ⟨_, e, _⟩ := hl; exact Heap.lt_size e
  refine wpAny_pyIter_list hl (h _ _ _ (Walks.list hh _ l (Nat.ne_of_lt hlt) items) ⟨⟨_, Heap.get?_push_size _ rfl, rfl, rfl⟩, hl.at fun o e => Heap.get?_push_of_some _ e⟩ ?_ fun _ i h' st => ?_)
  · intro b hb
    rw [Heap.size_push]
    rcases List.mem_cons.mp hb with rfl | hb
    · exact Nat.lt_succ_self _
    · rw [List.mem_singleton.mp hb]; exact Nat.lt_succ_of_lt hlt
  · obtain ⟨o, ho, _⟩ := st.1
    exact ⟨o, ho⟩
theorem iter_range (hh : A.handled = none) {r : Addr} {n : Nat} {t u v : Tok} (hr : IsRange s.heap r 0 n 1 t u v) (hn : n ≤ 1000) : Iter True w A s (.ref r) n (fun i v => i < n ∧ ∃ t, v = .int (i : Int) t) := by
  intro Q E h
  have hsz : Builtin.Range.rangeSize 0 n 1 = n := by simp [Builtin.Range.rangeSize]; omega
  have hsm : Builtin.Range.small 0 n 1 = true := by
    unfold Builtin.Range.small
    rw [hsz]
    simp [Builtin.Range.rangeFitsLong]
    omega
  refine wpAny_pyIter_range hr hsm ?_
  have W := Walks.range (prog := PG) (w := w) (A := A) hh s.heap.objs.size 0 1 n
  have W' : Walks PG w A s.heap.objs.size [s.heap.objs.size] [s.heap.objs.size] n (fun i v => ∃ t, v = .int (i : Int) t) (fun i h => IsRangeIter h s.heap.objs.size (0 + (i : Nat) * 1) ((n : Int) - (i : Nat)) 1) := by
    have e : (fun (i : Nat) (v : Value) => ∃ t, v = Value.int ((0 : Int) + i * 1) t) = fun (i : Nat) (v : Value) => ∃ t, v = Value.int (i : Int) t := by
      funext i v
      rw [Int.zero_add, Int.mul_one]
    rw [← e]; exact W
  refine h _ _ _ W'.bound ?_ ?_ fun _ i h' st => ⟨_, st⟩
  · show IsRangeIter _ _ _ _ _
    rw [hsz]
    simpa using Heap.get?_push_size _ rfl
  · intro b hb
    rw [Heap.size_push, List.mem_singleton.mp hb]; exact Nat.lt_succ_self _
theorem iter_str (hh : A.handled = none) {x : Str} {t : Tok} : Iter False w A s (.str x t) x.cps.size (SignAt x) := by
  intro Q E h
  refine wpAny_pyIter_str fun o St W hst => h o _ St (W A hh) hst ?_ fun f => f.elim
  intro b hb
  rw [Heap.size_push, List.mem_singleton.mp hb]; exact Nat.lt_succ_self _
/-- a comprehension whose items are no lists -/
theorem comp_c {lv : Prop} {env : Env} {elt iter : Expr} {x : Str} {px : Pos} {scope : Scope} {cl : List (Str × Addr)} {pos : Pos} {Q : Value → Shared → Prop} (F : Value → Value → Prop)
    (hclos : closureFor scope env = pure cl) (hcell : ∀ y ∈ scope.names, y.2 ≠ .cell) (hkind : scope.kind = .function)
    (hnames : ∀ y ∈ scope.names, y.2 = .local → scope.names.lookup y.1 = some .local) (hx : scope.names.lookup x = some .local)
    (hs : ∀ x, foldedSetIterable iter env x = pure x)
    (h : wpAny (model PG w) A (eval iter env) (fun xv s₁ => ∃ n P, Iter lv w A s₁ xv n P ∧ n ≤ 1000 ∧
      (∀ C i v s₃ m₃ E', P i v → s₃.heap.Ns C m₃ → m₃ x = some v → Keeps s₁.heap s₃.heap → wpAny (model PG w) A (eval elt (compEnvC scope cl C env)) (fun y s₄ => F v y ∧ PySem.Keeps s₃ s₄) E' s₃) ∧
      (∀ D h' tk e ys (vs : List Value), s₁.heap.get? D = none → Keeps s₁.heap h' → h'.get? D = some (W.listOf ys e) → vs.length = n → (∀ (j : Nat) v, vs[j]? = some v → P j v) → Paired F vs ys.toList → Q (.ref D) { s₁ with heap := h', toks := tk })) E s) :
    wpAny (model PG w) A (eval (.ListComp elt [⟨.Name x px, iter, [], 0⟩] scope pos) env) Q E s := by
  refine wpAny_ListComp_free (fun _ => true) F hclos hcell hkind hnames hx (wpAny_mono h (fun xv s₁ h₁ => ?_) fun _ _ e => e) hs
  obtain ⟨n, P, hit, hn, helt, hQ⟩ := h₁
  refine hit _ _ fun o fp St W hst hfp _ => ?_
  have hk0 : Keeps s₁.heap (s₁.heap.push o) := fun b o' e => Heap.get?_push_of_some _ e
  have up : ∀ h' : Heap, (∀ b o', b ∉ [s₁.heap.objs.size] → (s₁.heap.push o).get? b = some o' → h'.get? b = some o') → Keeps s₁.heap h' :=
    fun h' hk b o' e => hk b o' (not_iter_of_old e) (hk0 _ _ e)
  refine ⟨_, fp, _, n, P, St, rfl, W, (by rw [sizeLine_eq]; omega), hst, hfp, ⟨?_, ?_⟩, ?_⟩
  · intro C i v s₃ m₃ E' _ _ _ _ _ _
    rw [List.forIn_nil]
    exact wpAny_pure ⟨rfl, _, _, rfl, fun _ _ e => e⟩
  · intro C i v s₃ m₃ E' _ hP _ hns hm hk _
    exact helt C i v s₃ m₃ E' hP hns hm (up _ hk)
  · intro D h' tk ys vs hD hl hpl hlen hP hF hk
    obtain ⟨e, he⟩ := hpl
    refine hQ D h' tk e ys vs ?_ (up _ hk) he hlen hP ?_
    · cases q : s₁.heap.get? D with
      | none => rfl
      | some o' => rw [hk0 _ _ q] at hD; cases hD
    · rw [List.filter_eq_self.mpr (fun _ _ => rfl)] at hF; exact hF
/-- the same, its list stored at once under a local name -/
theorem comp_assign {lv : Prop} {env : Env} {elt iter : Expr} {x y : Str} {px py : Pos} {scope : Scope} {cl : List (Str × Addr)} {pos spos : Pos} {Q : Flow → Shared → Prop} (F : Value → Value → Prop)
    (hsw : swapsWith (.ListComp elt [⟨.Name x px, iter, [], 0⟩] scope pos) (some (.Name y py)) spos.line env = pure true)
    (hclos : closureFor scope env = pure cl) (hcell : ∀ y ∈ scope.names, y.2 ≠ .cell) (hkind : scope.kind = .function)
    (hnames : ∀ y ∈ scope.names, y.2 = .local → scope.names.lookup y.1 = some .local) (hx : scope.names.lookup x = some .local)
    (hy : env.kindOf y = some .local) (hp : (env.scope.kind == .class || (env.scope.kind == .module && env.locals != env.globals)) = false)
    (hs : ∀ x, foldedSetIterable iter env x = pure x)
    (h : wpAny (model PG w) A (eval iter env) (fun xv s₁ => ∃ n P m, Iter lv w A s₁ xv n P ∧ n ≤ 1000 ∧ s₁.heap.Ns env.locals m ∧
      (∀ C i v s₃ m₃ E', P i v → s₃.heap.Ns C m₃ → m₃ x = some v → Keeps s₁.heap s₃.heap → wpAny (model PG w) A (eval elt (compEnvC scope cl C env)) (fun y s₄ => F v y ∧ PySem.Keeps s₃ s₄) E' s₃) ∧
      (∀ D h' tk e ys (vs : List Value), s₁.heap.get? D = none → h'.get? D = some (W.listOf ys e) → vs.length = n → (∀ (j : Nat) v, vs[j]? = some v → P j v) → Paired F vs ys.toList →
        h'.Ns env.locals (fun z => if z = y then some (.ref D) else m z) → (∀ b o, b ≠ env.locals → s₁.heap.get? b = some o → h'.get? b = some o) → Q .next { s₁ with heap := h', toks := tk })) E s) :
    wpAny (model PG w) A (exec (.Assign [.Name y py] (.ListComp elt [⟨.Name x px, iter, [], 0⟩] scope pos) spos) env) Q E s := by
  refine wpAny_Assign_ListComp_free (fun _ => true) F hsw hclos hcell hkind hnames hx hy hp (wpAny_mono h (fun xv s₁ h₁ => ?_) fun _ _ e => e) hs
  obtain ⟨n, P, m, hit, hn, hns, helt, hQ⟩ := h₁
  refine hit _ _ fun o fp St W hst hfp _ => ?_
  have hk0 : Keeps s₁.heap (s₁.heap.push o) := fun b o' e => Heap.get?_push_of_some _ e
  have hL : env.locals < s₁.heap.objs.size := by obtain ⟨_, _, _, e, _⟩ := hns; exact Heap.lt_size e
  refine ⟨_, fp, _, n, P, St, m, rfl, W, (by rw [sizeLine_eq]; omega), hst, hfp, ?_, hns.keeps hk0, ⟨?_, ?_⟩, ?_⟩
  · intro hm; rw [List.mem_singleton.mp hm] at hL; exact Nat.lt_irrefl _ hL
  · intro C i v s₃ m₃ E' _ _ _ _ _ _
    rw [List.forIn_nil]
    exact wpAny_pure ⟨rfl, _, _, rfl, fun _ _ e => e⟩
  · intro C i v s₃ m₃ E' _ hP _ hns hm hk _
    exact helt C i v s₃ m₃ E' hP hns hm fun b o' e => hk b o' (not_iter_of_old e) (hk0 _ _ e)
  · intro D h' tk ys vs hD hl hpl hlen hP hF hns' hk
    obtain ⟨e, he⟩ := hpl
    refine hQ D h' tk e ys vs ?_ he hlen hP ?_ hns' fun b o' hb e' => hk b o' hb (not_iter_of_old e') (hk0 _ _ e')
    · cases q : s₁.heap.get? D with
      | none => rfl
      | some o' => rw [hk0 _ _ q] at hD; cases hD
    · rw [List.filter_eq_self.mpr (fun _ _ => rfl)] at hF; exact hF
end
end Mine
end

section
open PySem PySem.W PyProof.Rows PySem.Calls
set_option Elab.async false
set_option maxRecDepth 100000
set_option maxHeartbeats 400000
namespace Mine
section
variable {w : World} {A : Around} {E : Value → Shared → Prop} {s : Shared}
/-- what an item that is a list is, in the heap h' -/
def ItL (h : Heap) (G : Value → Array Value → Prop) (h' : Heap) (v y : Value) : Prop := ∃ T its, y = .ref T ∧ h.get? T = none ∧ h'.IsList T its ∧ G v its
theorem comp_cO {env : Env} {elt iter : Expr} {x : Str} {px : Pos} {scope : Scope} {cl : List (Str × Addr)} {pos : Pos} {Q : Value → Shared → Prop} (G : Value → Array Value → Prop)
    (hclos : closureFor scope env = pure cl) (hcell : ∀ y ∈ scope.names, y.2 ≠ .cell) (hkind : scope.kind = .function)
    (hnames : ∀ y ∈ scope.names, y.2 = .local → scope.names.lookup y.1 = some .local) (hx : scope.names.lookup x = some .local)
    (hs : ∀ x, foldedSetIterable iter env x = pure x)
    (h : wpAny (model PG w) A (eval iter env) (fun xv s₁ => ∃ n P, Iter True w A s₁ xv n P ∧ n ≤ 1000 ∧
      (∀ C i v s₃ m₃ E', P i v → s₃.heap.Ns C m₃ → m₃ x = some v → Keeps s₁.heap s₃.heap → wpAny (model PG w) A (eval elt (compEnvC scope cl C env)) (fun y s₄ => (∃ T its, y = .ref T ∧ s₃.heap.get? T = none ∧ s₄.heap.IsList T its ∧ G v its) ∧ PySem.Keeps s₃ s₄) E' s₃) ∧
      (∀ D h' tk e ys (vs : List Value), s₁.heap.get? D = none → Keeps s₁.heap h' → h'.get? D = some (W.listOf ys e) → vs.length = n → (∀ (j : Nat) v, vs[j]? = some v → P j v) → Paired (ItL s₁.heap G h') vs ys.toList → Q (.ref D) { s₁ with heap := h', toks := tk })) E s) :
    wpAny (model PG w) A (eval (.ListComp elt [⟨.Name x px, iter, [], 0⟩] scope pos) env) Q E s := by
  refine wpAny_ListComp_freeO (fun _ => true) G hclos hcell hkind hnames hx (wpAny_mono h (fun xv s₁ h₁ => ?_) fun _ _ e => e) hs
  obtain ⟨n, P, hit, hn, helt, hQ⟩ := h₁
  refine hit _ _ fun o fp St W hst hfp hlive => ?_
  have hk0 : Keeps s₁.heap (s₁.heap.push o) := fun b o' e => Heap.get?_push_of_some _ e
  have back : ∀ T, (s₁.heap.push o).get? T = none → s₁.heap.get? T = none := fun T hT => by
    cases q : s₁.heap.get? T with
    | none => rfl
    | some o' => rw [hk0 _ _ q] at hT; cases hT
  have up : ∀ h' : Heap, (∀ b o', b ∉ [s₁.heap.objs.size] → (s₁.heap.push o).get? b = some o' → h'.get? b = some o') → Keeps s₁.heap h' :=
    fun h' hk b o' e => hk b o' (not_iter_of_old e) (hk0 _ _ e)
  refine ⟨_, fp, _, n, P, St, rfl, W, (by rw [sizeLine_eq]; omega), ?_, hst, hfp, ⟨?_, ?_⟩, ?_⟩
  · intro i h st b hb
    rw [List.mem_singleton.mp hb]; exact hlive trivial i h st
  · intro C i v s₃ m₃ E' _ _ _ _ _ _
    rw [List.forIn_nil]
    exact wpAny_pure ⟨rfl, _, _, rfl, fun _ _ e => e⟩
  · intro C i v s₃ m₃ E' _ hP _ hns hm hk _
    exact helt C i v s₃ m₃ E' hP hns hm (up _ hk)
  · intro D h' tk ys vs hD hl hpl hlen hP hF _ _ hk
    obtain ⟨e, he⟩ := hpl
    refine hQ D h' tk e ys vs (back D hD) (up _ hk) he hlen hP ?_
    rw [List.filter_eq_self.mpr (fun _ _ => rfl)] at hF
    exact hF.mono fun v y q => by
      obtain ⟨T, its, rfl, q1, q2, q3⟩ := q
      exact ⟨T, its, rfl, back T q1, q2, q3⟩
theorem comp_assignO {env : Env} {elt iter : Expr} {x y : Str} {px py : Pos} {scope : Scope} {cl : List (Str × Addr)} {pos spos : Pos} {Q : Flow → Shared → Prop} (G : Value → Array Value → Prop)
    (hsw : swapsWith (.ListComp elt [⟨.Name x px, iter, [], 0⟩] scope pos) (some (.Name y py)) spos.line env = pure true)
    (hclos : closureFor scope env = pure cl) (hcell : ∀ y ∈ scope.names, y.2 ≠ .cell) (hkind : scope.kind = .function)
    (hnames : ∀ y ∈ scope.names, y.2 = .local → scope.names.lookup y.1 = some .local) (hx : scope.names.lookup x = some .local)
    (hy : env.kindOf y = some .local) (hp : (env.scope.kind == .class || (env.scope.kind == .module && env.locals != env.globals)) = false)
    (hs : ∀ x, foldedSetIterable iter env x = pure x)
    (h : wpAny (model PG w) A (eval iter env) (fun xv s₁ => ∃ n P m, Iter True w A s₁ xv n P ∧ n ≤ 1000 ∧ s₁.heap.Ns env.locals m ∧
      (∀ C i v s₃ m₃ E', P i v → s₃.heap.Ns C m₃ → m₃ x = some v → Keeps s₁.heap s₃.heap → wpAny (model PG w) A (eval elt (compEnvC scope cl C env)) (fun y s₄ => (∃ T its, y = .ref T ∧ s₃.heap.get? T = none ∧ s₄.heap.IsList T its ∧ G v its) ∧ PySem.Keeps s₃ s₄) E' s₃) ∧
      (∀ D h' tk e ys (vs : List Value), s₁.heap.get? D = none → h'.get? D = some (W.listOf ys e) → vs.length = n → (∀ (j : Nat) v, vs[j]? = some v → P j v) → Paired (ItL s₁.heap G h') vs ys.toList →
        h'.Ns env.locals (fun z => if z = y then some (.ref D) else m z) → (∀ b o, b ≠ env.locals → s₁.heap.get? b = some o → h'.get? b = some o) → Q .next { s₁ with heap := h', toks := tk })) E s) :
    wpAny (model PG w) A (exec (.Assign [.Name y py] (.ListComp elt [⟨.Name x px, iter, [], 0⟩] scope pos) spos) env) Q E s := by
  rw [exec_Assign_Name_used _ _ _ _ hsw]
  refine wpAny_bind (wpAny_standAt (wpAny_bind ?_))
  show wpAny _ A (do let _ ← comprehension (.ListComp elt [⟨.Name x px, iter, [], 0⟩] scope pos) scope env _ (newList []) false (eval iter env) (some (assign (.Name y py) env))) _ _ s
  refine wpAny_bind (wpAny_mono (wpAny_comprehension_free (use := some (assign (.Name y py) env)) (Q := fun _ s' => Q .next s') rfl hs hclos hkind hnames
    (wpAny_mono h (fun xv s₁ h₁ => ?_) fun _ _ e => e)) (fun _ s' hq => wpAny_pure (wpAny_pure hq)) fun _ _ e => e)
  obtain ⟨n, P, m, hit, hn, hns, helt, hQ⟩ := h₁
  refine hit _ _ fun o fp St W hst hfp hlive => ?_
  have hk0 : Keeps s₁.heap (s₁.heap.push o) := fun b o' e => Heap.get?_push_of_some _ e
  have back : ∀ T, (s₁.heap.push o).get? T = none → s₁.heap.get? T = none := fun T hT => by
    cases q : s₁.heap.get? T with
    | none => rfl
    | some o' => rw [hk0 _ _ q] at hT; cases hT
  have hLs : ∃ oL, s₁.heap.get? env.locals = some oL := by obtain ⟨oL, _, _, e, _⟩ := hns; exact ⟨oL, e⟩
  obtain ⟨oL, hLo⟩ := hLs
  refine comp_block_walkCO (p := fun _ => true) (G := G) (RR := fun acc C => compPost (model PG w) A E (some (assign (.Name y py) env)) (fun _ s' => Q .next s') acc C) W (by rw [sizeLine_eq]; omega) (fun i h st b hb => by rw [List.mem_singleton.mp hb]; exact hlive trivial i h st) hcell hkind hx hst hfp ⟨?_, ?_⟩ ?_
  · intro C i v s₃ m₃ E' _ _ _ _ _ _
    rw [List.forIn_nil]
    exact wpAny_pure ⟨rfl, _, _, rfl, fun _ _ e => e⟩
  · intro C i v s₃ m₃ E' _ hP _ hns hm hk _
    exact helt C i v s₃ m₃ E' hP hns hm fun b o' e => hk b o' (not_iter_of_old e) (hk0 _ _ e)
  · intro D C h' tk m' ys vs hD hC hDC hnC hlD hplD hlen hP hF _ hk
    have hLC : env.locals ≠ C := by rintro q; rw [← q, hk0 _ _ hLo] at hC; cases hC
    have hLD : env.locals ≠ D := by rintro q; rw [← q, hk0 _ _ hLo] at hD; cases hD
    obtain ⟨e, he⟩ := hplD
    show wpAny _ A (assign (.Name y py) env (.ref D)) _ _ _
    refine wpAny_assign_Name (wpAny_storeName_local hy (hns.keeps fun b o' e => hk b o' (not_iter_of_old e) (hk0 _ _ e)) (fun h₂ hn₂ hs₂ => ?_) hp)
    refine ⟨m', hnC.sameBut hs₂ (Ne.symm hLC), fun h₃ hs₃ => ?_⟩
    have mv : ∀ b o', b ≠ env.locals → b ≠ C → h'.get? b = some o' → h₃.get? b = some o' := fun b o' h1 h2 e => (hs₃.2 b h2).trans ((hs₂.2 b h1).trans e)
    refine hQ D h₃ _ e ys vs (back D hD) (mv _ _ (Ne.symm hLD) hDC he) hlen hP ?_ (hn₂.sameBut hs₃ hLC) fun b o' hbL e' => mv b o' hbL ?_ (hk b o' (not_iter_of_old e') (hk0 _ _ e'))
    · rw [List.filter_eq_self.mpr (fun _ _ => rfl)] at hF
      refine hF.mono fun v y q => ?_
      obtain ⟨T, its, rfl, q1, q2, q3, q4, q5, q6⟩ := q
      obtain ⟨oT, hoT, hc, k, hd⟩ := q5
      refine ⟨T, its, rfl, back T q1, ⟨oT, mv _ _ ?_ q2 hoT, hc, k, hd⟩, q6⟩
      rintro q; rw [q, hk0 _ _ hLo] at q1; cases q1
    · rintro q; rw [← q, hk0 _ _ e'] at hC; cases hC
end
end Mine
end

section
open PySem PySem.W PyProof.Rows PySem.Calls
set_option Elab.async false
set_option maxRecDepth 100000
set_option maxHeartbeats 400000
namespace Mine
section
variable {w : World} {mean : ExcName → Option Value} {mg mb : Str → Option Value} {A : Around} {E : Value → Shared → Prop} {s : Shared} {env : Env} {x : Str} {pos : Pos} {v : Value} {Q : Value → Shared → Prop}
theorem nm_boot (H : Env0 w mean mg mb s.heap) (e : nsIn (Mine.hd.heap_39 w.params) mainGlobals x = some none) (hv : bootBuiltins x = some v) (hn : x ≠ "__name__") (h : Q v s)
    (hk : env.scope.kind = .function) (hx : env.kindOf x = some .globalImplicit) (hg : env.globals = mainGlobals) (hb : env.builtins = builtinsNs) (hd : (x == ("__debug__" : Str)) = false) :
    wpAny (model PG w) A (eval (.Name x pos) env) Q E s :=
  Name_function_global hk hx (loadGlobal_builtin (by rw [hg]; exact H.t.g) (mg_none_of H.x H.t.g e) (by rw [hb]; exact H.t.b) ((H.t.builtins x hn).trans hv) h) hd
theorem nm_glob (H : Env0 w mean mg mb s.heap) (e : nsIn (Mine.hd.heap_39 w.params) mainGlobals x = some (some v)) (h : Q v s)
    (hk : env.scope.kind = .function) (hx : env.kindOf x = some .globalImplicit) (hg : env.globals = mainGlobals) (hd : (x == ("__debug__" : Str)) = false) :
    wpAny (model PG w) A (eval (.Name x pos) env) Q E s :=
  Name_function_global hk hx (loadGlobal_global (by rw [hg]; exact H.t.g) (mg_of H.x H.t.g e) h) hd
theorem nm_loc {m : Str → Option Value} (hns : s.heap.Ns env.locals m) (hv : m x = some v) (h : Q v s) (hk : env.scope.kind = .function) (hx : env.kindOf x = some .local) (hd : (x == ("__debug__" : Str)) = false) :
    wpAny (model PG w) A (eval (.Name x pos) env) Q E s := wpAny_Name (wpAny_loadName_local hk hx hns hv h) hd
theorem nm_cell {c : Addr} (hc : env.cells.lookup x = some c) (hv : s.heap.IsCell c (some v)) (h : Q v s) (hk : env.scope.kind = .function) (hx : env.kindOf x = some .cell) (hd : (x == ("__debug__" : Str)) = false) :
    wpAny (model PG w) A (eval (.Name x pos) env) Q E s := wpAny_Name (wpAny_loadName_cell hk hx hc hv h) hd
theorem pk {s s' : Shared} {h' : Heap} {tk : Nat} (e : s' = { s with heap := h', toks := tk }) (k : Keeps s.heap h') : PySem.Keeps s s' := ⟨h', tk, e, k⟩
end
end Mine
end

section
open PySem PySem.W PyProof.Rows PySem.Calls
set_option Elab.async false
set_option maxRecDepth 100000
set_option maxHeartbeats 4000000
namespace Mine
theorem fill2 : ∀ (w : World) (h : Heap), (Mine.hd.heap_39 w.params).In h → PySem.Challenge.rw_rs0035_01.prog = PySem.Challenge.rw_rs0035_01.prog := by
  k_fill
  intros
  rfl
theorem octs {x : List Nat} : ∀ {vs ys : List Value}, vs.length = (sL x).cps.size → (∀ (j : Nat) (v : Value), vs[j]? = some v → SignAt (sL x) j v) → Paired (fun v y => ∃ c t u, v = .str ⟨#[c]⟩ t ∧ y = .int (c : Nat) u) vs ys → IntsAre ys (x.map fun (n : Nat) => (n : Int)) := by
  induction x with
  | nil =>
    intro vs ys hlen hP hF
    cases hF with
    | nil => exact .nil
    | cons _ _ => simp [sL] at hlen
  | cons c x ih =>
    intro vs ys hlen hP hF
    cases hF with
    | nil => simp [sL] at hlen
    | cons h t =>
      rename_i a b l1 l2
      obtain ⟨c', t', u', rfl, rfl⟩ := h
      obtain ⟨c2, u2, e1, e2⟩ := hP 0 _ rfl
      simp [sL] at e1
      injection e2 with e3 _
      injection e3 with e3
      have e4 : c' = c2 := by simpa using e3
      subst e4; subst e1
      refine .cons _ _ (ih (by simpa [sL] using hlen) (fun j v hj => ?_) t)
      obtain ⟨c3, u3, q1, q2⟩ := hP (j + 1) v (by simpa using hj)
      exact ⟨c3, u3, by simpa [sL] using q1, q2⟩
theorem byteArr_eq (x : List Nat) : byteArr (x.map fun (n : Nat) => (n : Int)) = bL x := by
  unfold byteArr bL
  rw [List.map_map]
  rfl
section
variable {w : World} {mean : ExcName → Option Value} {mg mb : Str → Option Value} {dp un : Nat} {fr : Option (List Env)} {gd : Option (List Code)} {s : Shared} {Q E : Value → Shared → Prop}
theorem octets_c {x : List Nat} {t : Tok} (H : Env0 w mean mg mb s.heap) (hx : (sL x).length ≤ 300) (hb : ∀ c ∈ x, c < 256) (hd : dp + 3 < recursionLimit) (hu : un + 20 < cLine)
    (ret : ∀ h' t' tk', Keeps s.heap h' → Q (.bytes (bL x) t') { s with heap := h', toks := tk' }) :
    wpAny (model PG w) ⟨none, dp, fr, gd, un⟩ (call (.ref 123) [.str (sL x) t]) Q E s := by
  have KX : (Mine.hd.heap_39 w.params).In s.heap := H.x
  have T := H.t
  dsimp only [VW, LS] at T
  refine wpAny_call ?_
  k_dflt (refine' enter_def KX T.nolimit ?k6 ?k7 ?k8 ?k9 ?kB ?_ ?c2 ?c3 ?c4 ?c5; (case k6 => k_is); (case k7 => k_is); (case k8 => (dsimp only; omega)); (case k9 => exact BindsTo.of_eq rfl); (case kB => exact locs rfl); (case c5 => decide); (case c2 => exact rfl); (case c3 => exact rfl); (case c4 => exact rfl))
  intro h₁ F
  have N : News s.heap s.heap.objs.size h₁ [] := News.nil
  dsimp only
  iterate 6 walk1
  refine comp_c (lv := False) (fun v y => ∃ c t u, v = .str ⟨#[c]⟩ t ∧ y = .int (c : Nat) u) (closureFor_none (by decide)) (by decide) rfl (by decide) (by decide) (fun _ => rfl) ?_
  walk1
  refine ⟨_, _, iter_str rfl, ?_, ?_, ?_⟩
  · have : (sL x).cps.size = (sL x).length := rfl
    omega
  · rintro C i v s₃ m₃ E' ⟨c, u, hc, rfl⟩ hns hm hk
    have H3 : Env0 w mean mg mb s₃.heap := (H.keeps F.keep).keeps hk
    walk1
    refine nm_boot H3 (by k_is) boot_ord (by decide) ?_ rfl rfl rfl rfl (by decide)
    iterate 2 walk1
    refine nm_loc hns hm ?_ rfl rfl (by decide)
    walk1
    refine P.ord_of_char ?_
    exact ⟨⟨c, _, _, rfl, rfl⟩, pk rfl (Keeps.refl _)⟩
  · intro D h' tk e ys vs hD hk he hlen hP hF
    walk1
    have hI := octs hlen hP hF
    refine call_bytes_ints (by exact ⟨_, he, rfl, e, by simp⟩) hI ?_ ?_ rfl fun h2 t2 k2 hk2 => ?_
    · intro n hn
      obtain ⟨c, hc, rfl⟩ := List.mem_map.mp hn
      have := hb c hc
      omega
    · rw [← hF.length, hlen, sizeLine_eq]
      have : (sL x).cps.size = (sL x).length := rfl
      omega
    · rw [byteArr_eq]
      exact ret h2 t2 k2 ((Keeps.trans F.keep hk).trans hk2)
end
end Mine
end

section
open PySem PySem.W PyProof.Rows PySem.Calls
set_option Elab.async false
set_option maxRecDepth 100000
set_option maxHeartbeats 4000000
namespace Mine
theorem fill3 : ∀ (w : World) (h : Heap), (Mine.hd.heap_39 w.params).In h → PySem.Challenge.rw_rs0035_01.prog = PySem.Challenge.rw_rs0035_01.prog := by
  k_fill
  intros
  rfl
def Are (kd : Nat) (its : Array Value) (l : List (List Nat)) : Prop := ∃ ps : List (List Nat × Tok), its = (ps.map (tv kd)).toArray ∧ ps.map (·.1) = l
def kindsOf : List Nat → List (List Nat)
  | c :: _ => if 10 < c then [[10], [13, 10], [13]] else [[10], [13], [13, 10]]
  | [] => [[10], [13], [13, 10]]
theorem lf_eq : Str.ofString "\n" = sL [10] := by decide +kernel
theorem cr_eq : Str.ofString "\x0d" = sL [13] := by decide +kernel
theorem empty_eq : Str.ofString "" = sL [] := by decide +kernel
theorem item0 (c : Nat) (r : List Nat) : Txt.item (sL (c :: r)) 0 = sL [c] := by
  exact item_meets (by omega) (by simp [sL])
theorem slice1 (c : Nat) (r : List Nat) : Txt.slice (sL (c :: r)) none (some 1) = sL [c] := by
  have e : Txt.slice (sL (c :: r)) none (some 1) = StrLaws.sliceText (sL (c :: r)) (some (0 : Nat)) (some (1 : Nat)) := by
    unfold Txt.slice StrLaws.sliceText; rw [StrLaws.sliceIdx_none_lo]; rfl
  have e2 := StrLaws.sliceText_nat (sL (c :: r)) (a := 0) (b := 1) (by omega) (by simp [sL, Str.length])
  rw [e, e2]
  simp [sL]
theorem slice0 : Txt.slice (sL []) none (some 1) = sL [] := by decide +kernel
theorem sL_inj {a b : List Nat} (h : sL a = sL b) : a = b := by
  unfold sL at h
  injection h with h
  simpa using h
theorem dot_eq : Str.ofString "." = sL [46] := by decide +kernel
theorem sL_append (a b : List Nat) : sL a ++ sL b = sL (a ++ b) := by
  apply Str.ext'
  show (sL a).cps ++ (sL b).cps = _
  simp [sL]
theorem slice_dot (x : List Nat) : (Txt.slice (sL x) none (some 1) == Str.ofString ".") = true ↔ ∃ r, x = 46 :: r := by
  rw [beq_iff_eq, dot_eq]
  cases x with
  | nil =>
    rw [slice0]
    constructor
    · intro h; have := sL_inj h; cases this
    · rintro ⟨r, e⟩; cases e
  | cons c r =>
    rw [slice1]
    constructor
    · intro h
      have := sL_inj h
      injection this with e _
      exact ⟨r, by rw [e]⟩
    · rintro ⟨r', e⟩; injection e with e _; rw [e]
section
variable {w : World} {mean : ExcName → Option Value} {mg mb : Str → Option Value} {dp un : Nat} {fr : Option (List Env)} {gd : Option (List Code)} {s : Shared} {Q E : Value → Shared → Prop}
theorem doubled_c {x : List Nat} {t : Tok} (H : Env0 w mean mg mb s.heap) (hx : (sL x).length ≤ 64) (hd : dp + 1 < recursionLimit)
    (ret : ∀ h' t' tk', Keeps s.heap h' → Q (.str (sL (dbl x)) t') { s with heap := h', toks := tk' }) :
    wpAny (model PG w) ⟨none, dp, fr, gd, un⟩ (call (.ref 130) [.str (sL x) t]) Q E s := by
  have KX : (Mine.hd.heap_39 w.params).In s.heap := H.x
  have T := H.t
  dsimp only [VW, LS] at T
  refine wpAny_call ?_
  k_dflt (refine' enter_def KX T.nolimit ?k6 ?k7 ?k8 ?k9 ?kB ?_ ?c2 ?c3 ?c4 ?c5; (case k6 => k_is); (case k7 => k_is); (case k8 => (dsimp only; omega)); (case k9 => exact BindsTo.of_eq rfl); (case kB => exact locs rfl); (case c5 => decide); (case c2 => exact rfl); (case c3 => exact rfl); (case c4 => exact rfl))
  intro h₁ F
  have N : News s.heap s.heap.objs.size h₁ [] := News.nil
  dsimp only
  w_strict (k_steps)
  · have hc : (Txt.slice (sL x) none (some 1) == Str.ofString ".") = true := by assumption
    (rename Fr _ _ _ _ => F2)
    obtain ⟨r, rfl⟩ := (slice_dot x).mp hc
    have e : Str.ofString "." ++ sL (46 :: r) = sL (dbl (46 :: r)) := by rw [dot_eq, sL_append]; rfl
    dsimp only
    rw [e]
    exact ret _ _ _ F2.keep
  · have hc : (Txt.slice (sL x) none (some 1) == Str.ofString ".") = false := by assumption
    (rename Fr _ _ _ _ => F2)
    have e : dbl x = x := by
      unfold dbl
      split
      · rw [(slice_dot (46 :: _)).mpr ⟨_, rfl⟩] at hc; cases hc
      · rfl
    rw [e] at ret
    dsimp only
    exact ret _ _ _ F2.keep
theorem kinds_c {x : List Nat} {t : Tok} (H : Env0 w mean mg mb s.heap) (hx : (sL x).length ≤ 64) (hd : dp + 1 < recursionLimit)
    (ret : ∀ T h' tk' its, Keeps s.heap h' → s.heap.get? T = none → h'.IsList T its → Are 0 its (kindsOf x) → Q (.ref T) { s with heap := h', toks := tk' }) :
    wpAny (model PG w) ⟨none, dp, fr, gd, un⟩ (call (.ref 118) [.str (sL x) t]) Q E s := by
  have KX : (Mine.hd.heap_39 w.params).In s.heap := H.x
  have T := H.t
  dsimp only [VW, LS] at T
  refine wpAny_call ?_
  k_dflt (refine' enter_def KX T.nolimit ?k6 ?k7 ?k8 ?k9 ?kB ?_ ?c2 ?c3 ?c4 ?c5; (case k6 => k_is); (case k7 => k_is); (case k8 => (dsimp only; omega)); (case k9 => exact BindsTo.of_eq rfl); (case kB => exact locs rfl); (case c5 => decide); (case c2 => exact rfl); (case c3 => exact rfl); (case c4 => exact rfl))
  intro h₁ F
  have N : News s.heap s.heap.objs.size h₁ [] := News.nil
  dsimp only
  w_strict (k_steps)
  · have hp : 1 ≤ (sL x).length := by assumption
    have hc : (Str.ofString "\n").cps.toList < (Txt.item (sL x) 0).cps.toList := by assumption
    (rename Fr _ _ _ _ => F2)
    (rename News _ _ _ _ => N2)
    have h3 := N2 _ (List.Mem.head _)
    refine ret _ _ _ _ F2.keep h3.2.2 ⟨_, h3.1, rfl, 0, rfl⟩ ?_
    cases x with
    | nil => exact absurd hp (by decide)
    | cons c r =>
      rw [item0, lf_eq] at hc
      have hc' : 10 < c := by simpa [sL, List.cons_lt_cons_iff] using hc
      rw [kindsOf, if_pos hc', lf_eq, crlf_eq, cr_eq]
      exact ⟨[([10], _), ([13, 10], _), ([13], _)], rfl, rfl⟩
  · have hp : 1 ≤ (sL x).length := by assumption
    have hc : ¬ (Str.ofString "\n").cps.toList < (Txt.item (sL x) 0).cps.toList := by assumption
    (rename Fr _ _ _ _ => F2)
    (rename News _ _ _ _ => N2)
    have h3 := N2 _ (List.Mem.head _)
    refine ret _ _ _ _ F2.keep h3.2.2 ⟨_, h3.1, rfl, 0, rfl⟩ ?_
    cases x with
    | nil => exact absurd hp (by decide)
    | cons c r =>
      rw [item0, lf_eq] at hc
      have hc' : ¬ 10 < c := by simpa [sL, List.cons_lt_cons_iff] using hc
      rw [kindsOf, if_neg hc', lf_eq, crlf_eq, cr_eq]
      exact ⟨[([10], _), ([13], _), ([13, 10], _)], rfl, rfl⟩
  · have hc : (sL x != Str.ofString "") = false := by assumption
    (rename Fr _ _ _ _ => F2)
    (rename News _ _ _ _ => N2)
    have h3 := N2 _ (List.Mem.head _)
    refine ret _ _ _ _ F2.keep h3.2.2 ⟨_, h3.1, rfl, 0, rfl⟩ ?_
    cases x with
    | cons c r =>
      rw [empty_eq] at hc
      have : sL (c :: r) = sL [] := by simpa using hc
      have := sL_inj this
      cases this
    | nil =>
      rw [kindsOf, lf_eq, crlf_eq, cr_eq]
      exact ⟨[([10], _), ([13], _), ([13, 10], _)], rfl, rfl⟩
end
end Mine
end

section
open PySem PySem.W PyProof.Rows PySem.Calls
set_option Elab.async false
set_option maxRecDepth 100000
set_option maxHeartbeats 4000000
namespace Mine
theorem fill4 : ∀ (w : World) (h : Heap), (Mine.hd.heap_39 w.params).In h → PySem.Challenge.rw_rs0035_01.prog = PySem.Challenge.rw_rs0035_01.prog := by
  k_fill
  intros
  rfl
theorem enter_defC {w : World} {A : Around} {R : Result → Shared → Prop} {s : Shared} {K : Frag} {name qual : Str} {params : Arguments} {body : List Stmt} {scope : Scope}
    {dV kV doc pm cdv ct oc : Value} {an od : Option Addr} {osl : Array (Option Value)} {f : Addr} {args : Args} {binds : List (Str × Value)}
    (X : K.In s.heap) (hlim : s.heap.NoLimit)
    (ho : K.lookup f = some ⟨oc, od, .func (fnOf name qual params body scope dV kV doc pm an cdv ct), osl⟩) (hcd : codeIn K cdv qual = true) (hroom : A.depth < recursionLimit)
    (hbind : BindsTo s (fnOf name qual params body scope dV kV doc pm an cdv ct) args binds)
    (hkind : (binds.all fun y => scope.names.lookup y.1 == some .local || scope.names.lookup y.1 == some .cell) = true)
    (hnd : ((cellsFrom 0 scope.names []).map (·.1)).Nodup)
    (h : ∀ L h₁ tk cells, Fr s.heap L h₁ (bindL (envOfC qual scope L f cdv).kindOf binds fun _ => none) → News s.heap L h₁ cells →
      CellsAre (bindC (envOfC qual scope L f cdv).kindOf binds fun _ => none) (cellsFrom (L + 1) scope.names []) cells →
      wpAny (model PG w) (A.deeper (envOfC qual scope L f cdv)) (execs body (envOfC qual scope L f cdv))
        (fun fl s' => R (.ok (.ret (match fl with | .ret v => v | _ => .none))) s') (fun _ _ => False)
        { s with heap := h₁, toks := tk })
    (hco : scope.isCoroutine = false) (hgen : scope.isGenerator = false) (hk : scope.kind = .function) : codeAny (model PG w) A (.call (.ref f) args) R s := by
  refine codeAny_call_function hroom (X _ _ ho) rfl hco hgen rfl (codeRec_of X hcd) (hbind _ _ _ _ ?_)
  refine wpAny_newFunctionEnv_cells hk (kindsX hkind _) fun env' he s' x => ?_
  subst he
  refine ⟨hlim.keeps x.toInCall.keep, codeAny_func ?_⟩
  obtain ⟨h₁, tk, rfl, _⟩ := x.done
  have hk₁ := x.toInCall.keep
  obtain ⟨cells, NC, Y⟩ := Cl.news (h₀ := s.heap) (Nat.le_refl _) fun n c hm => ⟨x.cell n c (lookup_of_mem_nodup (cellsFrom_names scope.names 0 (s.heap.objs.size + 1) [] [] rfl ▸ hnd) hm), x.above n c hm⟩
  refine wpAny_mono (h s.heap.objs.size h₁ tk cells ⟨x.toInCall.ns, hk₁, Nat.le_refl _⟩ NC Y) (fun fl s' hl => hl) fun _ _ y => y.elim
def stir {α : Type} (vs : List α) : List α := [0, 2, 4, 6, 8, 1, 3, 5, 7].filterMap fun j => vs[j]?
def padL {α : Type} (vs : List α) (lo hi : α) (k : Nat) : List α := stir vs ++ List.replicate (8 - 2 * k) lo ++ List.replicate (2 * k - 8) hi
theorem paired_get {α β : Type} {F : α → β → Prop} : ∀ {l₁ : List α} {l₂ : List β}, Paired F l₁ l₂ → ∀ (j : Nat) (a : α), l₁[j]? = some a → ∃ b, l₂[j]? = some b ∧ F a b
  | _, _, .nil, j, a, h => by simp at h
  | _, _, .cons h t, 0, a, e => by simp at e; subst e; exact ⟨_, by simp, h⟩
  | _, _, .cons h t, j + 1, a, e => by
    obtain ⟨b, q1, q2⟩ := paired_get t j a (by simpa using e)
    exact ⟨b, by simpa using q1, q2⟩
theorem stir_len {α : Type} {vs : List α} (h9 : vs.length = 9) : (stir vs).length = 9 := by
  match vs, h9 with
  | [_, _, _, _, _, _, _, _, _], _ => rfl
theorem stirred {kd : Nat} {vs : List (List Nat × Tok)} {vs' : List Value} {ys : Array Value} (h9 : vs.length = 9) (hlen : vs'.length = 9) (hP : ∀ (j : Nat) (v : Value), vs'[j]? = some v → j < 9 ∧ ∃ t, v = .int (j : Int) t)
    (hF : Paired (fun v y => ∃ (i : Nat) (t : Tok), v = .int (i : Int) t ∧ (vs.map (tv kd))[(i * 2) % 9]? = some y) vs' ys.toList) : ys = ((stir vs).map (tv kd)).toArray := by
  apply Array.ext'
  have key : ∀ j, j < 9 → ys.toList[j]? = (vs.map (tv kd))[(j * 2) % 9]? := by
    intro j hj
    obtain ⟨b, q1, i, t, q2, q3⟩ := paired_get hF j vs'[j] (List.getElem?_eq_getElem (by omega))
    obtain ⟨_, t', q4⟩ := hP j vs'[j] (List.getElem?_eq_getElem (by omega))
    rw [q4] at q2
    injection q2 with q5 _
    have : i = j := by omega
    subst this
    rw [q1, q3]
  have hl : ys.toList.length = 9 := by rw [← hF.length]; exact hlen
  match vs, h9 with
  | [a0, a1, a2, a3, a4, a5, a6, a7, a8], _ =>
    apply List.ext_getElem?
    intro j
    rcases Nat.lt_or_ge j 9 with h | h
    · rw [key j h]
      match j, h with
      | 0, _ => rfl
      | 1, _ => rfl
      | 2, _ => rfl
      | 3, _ => rfl
      | 4, _ => rfl
      | 5, _ => rfl
      | 6, _ => rfl
      | 7, _ => rfl
      | 8, _ => rfl
    · rw [List.getElem?_eq_none (by omega), List.getElem?_eq_none (by show 9 ≤ j; exact h)]
theorem news_cons {h₀ h h' : Heap} {L D : Addr} {m : Str → Option Value} {news : List (Addr × Obj)} {o : Obj} (N : News h₀ L h news) (k : Keeps h h') (he : h'.get? D = some o) (hD : h.get? D = none) (F : Fr h₀ L h m) : News h₀ L h' ((D, o) :: news) := by
  intro p hp
  rcases List.mem_cons.mp hp with rfl | hp
  · refine ⟨he, fr_ne F hD, ?_⟩
    cases q : h₀.get? D with
    | none => rfl
    | some o' => have := F.keep _ _ q; rw [hD] at this; cases this
  · exact ⟨k _ _ (N p hp).1, (N p hp).2⟩
section
variable {w : World} {mean : ExcName → Option Value} {mg mb : Str → Option Value} {dp un : Nat} {fr : Option (List Env)} {gd : Option (List Code)} {s : Shared} {Q E : Value → Shared → Prop}
theorem padded_c {kd : Nat} {l : Addr} {vs : List (List Nat × Tok)} {lo hi : List Nat × Tok} {k : Nat} {tk0 : Tok} (H : Env0 w mean mg mb s.heap) (hl : s.heap.IsList l (vs.map (tv kd)).toArray) (h9 : vs.length = 9) (hk : k ≤ 8) (hd : dp + 1 < recursionLimit)
    (ret : ∀ T h' tk' e, Keeps s.heap h' → s.heap.get? T = none → h'.get? T = some (W.listOf ((padL vs lo hi k).map (tv kd)).toArray e) → Q (.ref T) { s with heap := h', toks := tk' }) :
    wpAny (model PG w) ⟨none, dp, fr, gd, un⟩ (call (.ref 140) [.ref l, tv kd lo, tv kd hi, .int k tk0]) Q E s := by
  have KX : (Mine.hd.heap_39 w.params).In s.heap := H.x
  have T := H.t
  dsimp only [VW, LS] at T
  refine wpAny_call ?_
  k_dflt (refine' enter_defC KX T.nolimit ?k6 ?k7 ?k8 ?k9 ?kB ?kD ?_ ?c2 ?c3 ?c4; (case k6 => k_is); (case k7 => k_is); (case k8 => (dsimp only; omega)); (case k9 => exact BindsTo.of_eq rfl); (case kB => exact rfl); (case kD => decide +kernel); (case c2 => exact rfl); (case c3 => exact rfl); (case c4 => exact rfl))
  intro L h₁ tk cells F N Y
  k_cells Y
  dsimp only
  iterate 4 walk1
  have hcellv : h₁.IsCell (L + 1) (some (.ref l)) := by
    (rename _ = Data.cell _ => hcd)
    exact ⟨_, (N _ (List.Mem.head _)).1, hcd⟩
  refine comp_c (lv := True) (cl := [(Str.ofString "items", L + 1)]) (fun v y => ∃ (i : Nat) (t : Tok), v = .int (i : Int) t ∧ (vs.map (tv kd))[(i * 2) % 9]? = some y) rfl (by decide) rfl (by decide) (by decide) (fun _ => rfl) ?_
  iterate 6 walk1
  refine call_range_1 ?_
  refine ⟨9, _, iter_range rfl (IsRange.new _ _ _ _ _ _ _) (by omega), by omega, ?_, ?_⟩
  · rintro C i v s₃ m₃ E' ⟨hi9, t, rfl⟩ hns hm hk3
    have hK : Keeps h₁ s₃.heap := fun b o e => hk3 b o (Heap.get?_push_of_some _ e)
    walk1
    refine nm_cell (c := L + 1) (v := .ref l) rfl (hcellv.keeps hK) ?_ rfl rfl (by decide)
    iterate 2 walk1
    refine nm_loc hns hm ?_ rfl rfl (by decide)
    iterate 4 walk1
    have hj : (i * 2) % 9 < (vs.map (tv kd)).length := by rw [List.length_map, h9]; omega
    have hfm : ((i : Int) * 2).fmod 9 = ((i * 2 % 9 : Nat) : Int) := by rw [Int.fmod_eq_emod_of_nonneg _ (by omega)]; omega
    rw [hfm]
    refine item_list (by exact isl_keeps hl (Keeps.trans F.keep hK)) (by omega) (by omega) (x := (vs.map (tv kd))[(i * 2) % 9]) ?_ ?_
    · rw [Int.toNat_natCast]
      simp only [List.getElem?_toArray]
      exact List.getElem?_eq_getElem hj
    · exact ⟨⟨i, t, rfl, List.getElem?_eq_getElem hj⟩, pk rfl (Keeps.refl _)⟩
  · intro D h' tk e ys vs' hD hk' he hlen hP hF
    have hK : Keeps h₁ h' := fun b o e => hk' b o (Heap.get?_push_of_some _ e)
    have hD1 : h₁.get? D = none := by
      cases q : h₁.get? D with
      | none => rfl
      | some o => rw [Heap.get?_push_of_some _ q] at hD; cases hD
    have F2 := hK.fr F
    have N2 := news_cons N hK he hD1 F
    clear N hcellv
    have F0 := F.keep
    clear F
    iterate 13 walk1
    (rename Fr _ _ _ _ => F3)
    (rename News _ _ _ _ => N3)
    have er1 : (List.replicate ((8 : Int) - 2 * k).toNat [tv kd lo]).flatten = (List.replicate (8 - 2 * k) lo).map (tv kd) := by
      rw [show ((8 : Int) - 2 * k).toNat = 8 - 2 * k by omega]
      simp
    refine KMa.mul F3 N3 (by exact isl N3 (List.Mem.head _)) (by omega) (by omega) (by simp; omega) er1 fun D2 h2 F4 N4 _ => ?_
    have hys : ys = ((stir vs).map (tv kd)).toArray := stirred h9 hlen hP hF
    subst hys
    clear F3 N3
    refine kmk_add_lit F4 N4 (by exact isl N4 (by k_mem)) (by exact isl N4 (List.Mem.head _)) rfl (fun D3 h3 F5 N5 _ => ?_) (by have := stir_len h9; simp only [List.length_map, List.length_replicate]; rw [sizeLine_eq]; omega)
    clear F4 N4
    iterate 13 walk1
    (rename Fr _ _ _ _ => F6)
    (rename News _ _ _ _ => N6)
    have er2 : (List.replicate ((2 : Int) * k - 8).toNat [tv kd hi]).flatten = (List.replicate (2 * k - 8) hi).map (tv kd) := by
      rw [show ((2 : Int) * k - 8).toNat = 2 * k - 8 by omega]
      simp
    refine KMa.mul F6 N6 (by exact isl N6 (List.Mem.head _)) (by omega) (by omega) (by simp; omega) er2 fun D4 h4 F7 N7 _ => ?_
    clear F6 N6
    refine kmk_add_lit F7 N7 (by exact isl N7 (by k_mem)) (by exact isl N7 (List.Mem.head _)) rfl (fun D5 h5 F8 N8 _ => ?_) (by have := stir_len h9; simp only [List.length_append, List.length_map, List.length_replicate]; rw [sizeLine_eq]; omega)
    have hfin := N8 _ (List.Mem.head _)
    refine ret D5 h5 _ 0 F8.keep hfin.2.2 ?_
    have e0 := hfin.1
    simp only [List.map_append, padL]
    exact e0
end
end Mine
end

section
open PySem PySem.W PyProof.Rows PySem.Calls
set_option Elab.async false
set_option maxRecDepth 100000
set_option maxHeartbeats 4000000
namespace Mine
theorem fill5 : ∀ (w : World) (h : Heap), (Mine.hd.heap_39 w.params).In h → PySem.Challenge.rw_rs0035_01.prog = PySem.Challenge.rw_rs0035_01.prog := by
  k_fill
  intros
  rfl
def behind (e r : List Nat) : List Nat := if e = [13] then r else dbl r
theorem sL_len (x : List Nat) : (sL x).length = x.length := by simp [sL, Str.length]
theorem add_sL {w : World} {A : Around} {E : Value → Shared → Prop} {s : Shared} {x y : List Nat} {t u : Tok} {Q : Value → Shared → Prop} (hz : x.length + y.length ≤ 1000) (h : ∀ t' tk, Q (.str (sL (x ++ y)) t') { s with toks := tk }) :
    wpAny (model PG w) A (binaryOp .Add (.str (sL x) t) (.str (sL y) u)) Q E s := by
  refine add_str (fun t' tk => ?_) (by rw [sL_len, sL_len, sizeLine_eq]; omega)
  rw [sL_append]
  exact h t' tk
theorem dbl_len (x : List Nat) : (dbl x).length ≤ x.length + 1 := by
  unfold dbl
  split
  · simp
  · omega
theorem behind_len (e x : List Nat) : (behind e x).length ≤ x.length + 1 := by
  unfold behind
  split
  · omega
  · exact dbl_len x
theorem Keeps.news {h₀ h h' : Heap} {L : Addr} {news : List (Addr × Obj)} (k : Keeps h h') (N : News h₀ L h news) : News h₀ L h' news := fun p hp => ⟨k _ _ (N p hp).1, (N p hp).2⟩
def dueOf (r0 r1 r2 e0 e1 : List Nat) : List Nat := dbl r0 ++ e0 ++ behind e0 r1 ++ e1 ++ behind e1 r2
section
variable {w : World} {mean : ExcName → Option Value} {mg mb : Str → Option Value} {dp un : Nat} {fr : Option (List Env)} {gd : Option (List Code)} {s : Shared} {Q E : Value → Shared → Prop}
theorem due_c {lr le : Addr} {r0 r1 r2 e0 e1 : List Nat} {a0 a1 a2 b0 b1 : Tok} (H : Env0 w mean mg mb s.heap) (hr : s.heap.IsList lr #[.str (sL r0) a0, .str (sL r1) a1, .str (sL r2) a2]) (he : s.heap.IsList le #[.str (sL e0) b0, .str (sL e1) b1])
    (z0 : (sL r0).length ≤ 8) (z1 : (sL r1).length ≤ 8) (z2 : (sL r2).length ≤ 8) (y0 : (sL e0).length ≤ 8) (y1 : (sL e1).length ≤ 8) (hb : ∀ c ∈ dueOf r0 r1 r2 e0 e1, c < 256) (hd : dp + 6 < recursionLimit) (hu : un + 40 < cLine)
    (ret : ∀ h' t' tk', Keeps s.heap h' → Q (.bytes (bL (dueOf r0 r1 r2 e0 e1)) t') { s with heap := h', toks := tk' }) :
    wpAny (model PG w) ⟨none, dp, fr, gd, un⟩ (call (.ref 135) [.ref lr, .ref le]) Q E s := by
  have KX : (Mine.hd.heap_39 w.params).In s.heap := H.x
  have T := H.t
  dsimp only [VW, LS] at T
  refine wpAny_call ?_
  k_dflt (refine' enter_defC KX T.nolimit ?k6 ?k7 ?k8 ?k9 ?kB ?kD ?_ ?c2 ?c3 ?c4; (case k6 => k_is); (case k7 => k_is); (case k8 => (dsimp only; omega)); (case k9 => exact BindsTo.of_eq rfl); (case kB => exact rfl); (case kD => decide +kernel); (case c2 => exact rfl); (case c3 => exact rfl); (case c4 => exact rfl))
  intro L h₁ tk cells F N Y
  obtain ⟨o1, o2, rfl, d1, d2⟩ := CellsAre.two Y
  have hc1 : h₁.IsCell _ (some _) := ⟨_, (N _ (List.Mem.head _)).1, d1⟩
  have hc2 : h₁.IsCell _ (some _) := ⟨_, (N _ (List.Mem.tail _ (List.Mem.head _))).1, d2⟩
  dsimp only
  iterate 1 walk1
  have hv : ∀ (i : Nat), i < 2 → ∃ e te r tr, (#[Value.str (sL e0) b0, .str (sL e1) b1])[i]? = some (.str (sL e) te) ∧ (#[Value.str (sL r0) a0, .str (sL r1) a1, .str (sL r2) a2])[i + 1]? = some (.str (sL r) tr) ∧ (sL r).length ≤ 8 ∧
      ((i = 0 ∧ behind e r = behind e0 r1) ∨ (i = 1 ∧ behind e r = behind e1 r2)) := by
    intro i hi
    match i, hi with
    | 0, _ => exact ⟨e0, b0, r1, a1, rfl, rfl, z1, .inl ⟨rfl, rfl⟩⟩
    | 1, _ => exact ⟨e1, b1, r2, a2, rfl, rfl, z2, .inr ⟨rfl, rfl⟩⟩
  refine comp_assign (lv := True) (cl := _) (fun v y => ∃ (i : Nat) (t : Tok), v = .int (i : Int) t ∧ ((i = 0 ∧ ∃ u, y = .str (sL (behind e0 r1)) u) ∨ (i = 1 ∧ ∃ u, y = .str (sL (behind e1 r2)) u))) rfl rfl (by decide) rfl (by decide) (by decide) rfl rfl (fun _ => rfl) ?_
  iterate 6 walk1
  refine call_range_1 ?_
  refine ⟨2, _, _, iter_range rfl (IsRange.new _ _ _ _ _ _ _) (by omega), by omega, F.ns.keeps fun b o e => Heap.get?_push_of_some _ e, ?_, ?_⟩
  · rintro C i v s₃ m₃ E' ⟨hi2, t, rfl⟩ hns hm hk3
    have hK : Keeps h₁ s₃.heap := fun b o e => hk3 b o (Heap.get?_push_of_some _ e)
    have H3 := (H.keeps F.keep).keeps hK
    have KX3 : (Mine.hd.heap_39 w.params).In s₃.heap := H3.x
    obtain ⟨e, te, r, tr, q1, q2, q3, q4⟩ := hv i hi2
    iterate 3 walk1
    refine nm_cell (c := L + 1 + 1) (v := .ref le) rfl (hc1.keeps hK) ?_ rfl rfl (by decide)
    refine nm_loc hns hm ?_ rfl rfl (by decide)
    refine item_list (by exact isl_keeps he (Keeps.trans F.keep hK)) (by omega) (by omega) (by rw [Int.toNat_natCast]; exact q1) ?_
    iterate 4 walk1
    · walk1
      refine nm_cell (c := L + 1) (v := .ref lr) rfl (hc2.keeps hK) ?_ rfl rfl (by decide)
      walk1
      refine nm_loc hns hm ?_ rfl rfl (by decide)
      iterate 2 walk1
      refine item_list (by exact isl_keeps hr (Keeps.trans F.keep hK)) (by omega) (by omega) (by rw [show ((i : Int) + 1).toNat = i + 1 by omega]; exact q2) ?_
      have hc : (sL e == Str.ofString "\x0d") = true := by assumption
      have he13 : e = [13] := by rw [cr_eq, beq_iff_eq] at hc; exact sL_inj hc
      have hbe : behind e r = r := by unfold behind; rw [if_pos he13]
      refine ⟨⟨i, t, rfl, ?_⟩, pk rfl (Keeps.refl _)⟩
      rw [hbe] at q4
      rcases q4 with ⟨u1, u2⟩ | ⟨u1, u2⟩
      · exact .inl ⟨u1, _, by rw [← u2]⟩
      · exact .inr ⟨u1, _, by rw [← u2]⟩
    · have hc : (sL e == Str.ofString "\x0d") = false := by assumption
      have he13 : e ≠ [13] := by intro q; rw [q, cr_eq] at hc; simp at hc
      have hbe : behind e r = dbl r := by unfold behind; rw [if_neg he13]
      walk1
      refine nm_glob H3 (by k_is) ?_ rfl rfl rfl (by decide)
      iterate 3 walk1
      refine nm_cell (c := L + 1) (v := .ref lr) rfl (hc2.keeps hK) ?_ rfl rfl (by decide)
      walk1
      refine nm_loc hns hm ?_ rfl rfl (by decide)
      iterate 2 walk1
      refine item_list (by exact isl_keeps hr (Keeps.trans F.keep hK)) (by omega) (by omega) (by rw [show ((i : Int) + 1).toNat = i + 1 by omega]; exact q2) ?_
      walk1
      refine ⟨KX3, doubled_c (by exact H3) (by omega) (by show dp + 1 + 1 < _; omega) fun h4 t4 tk4 hk4 => ?_⟩
      refine ⟨⟨i, t, rfl, ?_⟩, pk rfl hk4⟩
      rw [hbe] at q4
      rcases q4 with ⟨u1, u2⟩ | ⟨u1, u2⟩
      · exact .inl ⟨u1, _, by rw [← u2]⟩
      · exact .inr ⟨u1, _, by rw [← u2]⟩
  · intro D h' tk' ee ys vs' hD hge hlen hP hF hns' hk'
    obtain ⟨u0, u1, hys⟩ : ∃ u0 u1, ys = #[.str (sL (behind e0 r1)) u0, .str (sL (behind e1 r2)) u1] := by
      have hl : ys.toList.length = 2 := by rw [← hF.length]; exact hlen
      obtain ⟨y0', w1, i0, t0, w2, w3⟩ := paired_get hF 0 vs'[0] (List.getElem?_eq_getElem (by omega))
      obtain ⟨y1', x1, i1, t1, x2, x3⟩ := paired_get hF 1 vs'[1] (List.getElem?_eq_getElem (by omega))
      obtain ⟨_, t0', p0⟩ := hP 0 vs'[0] (List.getElem?_eq_getElem (by omega))
      obtain ⟨_, t1', p1⟩ := hP 1 vs'[1] (List.getElem?_eq_getElem (by omega))
      rw [p0] at w2
      rw [p1] at x2
      injection w2 with w2 _
      injection x2 with x2 _
      have hi0 : i0 = 0 := by omega
      have hi1 : i1 = 1 := by omega
      subst hi0
      subst hi1
      rcases w3 with ⟨_, v0, e0'⟩ | ⟨q, _⟩
      · rcases x3 with ⟨q, _⟩ | ⟨_, v1, e1'⟩
        · cases q
        · refine ⟨v0, v1, ?_⟩
          apply Array.ext'
          subst e0' e1'
          match hy : ys.toList, hl with
          | [_, _], _ =>
            rw [hy] at w1 x1
            simp at w1 x1
            rw [w1, x1]
      · cases q
    subst hys
    have hne : ∀ b o, s.heap.get? b = some o → b ≠ L := fun b o e => Nat.ne_of_lt (Nat.lt_of_lt_of_le (Heap.lt_size e) F.above)
    have hup : ∀ b o, b ≠ L → h₁.get? b = some o → h'.get? b = some o := fun b o h1 e => hk' b o h1 (Heap.get?_push_of_some _ e)
    have hD1 : h₁.get? D = none := by
      cases q : h₁.get? D with
      | none => rfl
      | some o => rw [Heap.get?_push_of_some _ q] at hD; cases hD
    have F2 : Fr s.heap L h' _ := ⟨hns', fun b o e => hup b o (hne b o e) (F.keep b o e), F.above⟩
    have N2 : News s.heap L h' [(D, W.listOf #[.str (sL (behind e0 r1)) u0, .str (sL (behind e1 r2)) u1] ee), (L + 1 + 1, o1), (L + 1, o2)] := by
      intro p hp
      rcases List.mem_cons.mp hp with rfl | hp
      · refine ⟨hge, fr_ne F hD1, ?_⟩
        cases q : s.heap.get? D with
        | none => rfl
        | some o => have := F.keep _ _ q; rw [hD1] at this; cases this
      · exact ⟨hup _ _ (N p hp).2.1 (N p hp).1, (N p hp).2⟩
    clear hF hP hns' hge hD hc1 hc2 Y hv
    clear N
    clear F
    have H2 := H.keeps F2.keep
    have hC2 : h'.IsCell (L + 1) (some (.ref lr)) := ⟨_, (N2 _ (List.Mem.tail _ (List.Mem.tail _ (List.Mem.head _)))).1, d2⟩
    have hC1 : h'.IsCell (L + 1 + 1) (some (.ref le)) := ⟨_, (N2 _ (List.Mem.tail _ (List.Mem.head _))).1, d1⟩
    have hF2 := F2.keep
    iterate 15 walk1
    refine nm_cell (c := L + 1) (v := .ref lr) rfl hC2 ?_ rfl rfl (by decide)
    iterate 1 walk1
    refine item_list (x := .str (sL r0) a0) (by exact isl_keeps hr hF2) (by omega) (by omega) rfl ?_
    iterate 1 walk1
    refine ⟨H2.x, doubled_c (by exact H2) (by omega) (by show dp + 1 + 1 < _; omega) fun h3 t3 tk3 hk3 => ?_⟩
    have F3 := hk3.fr F2
    have N3 := hk3.news N2
    have H3 := H2.keeps hk3
    have hC3 := hC1.keeps hk3
    have hF3 := F3.keep
    clear F2 N2
    iterate 1 walk1
    refine nm_cell (c := L + 1 + 1) (v := .ref le) rfl hC3 ?_ rfl rfl (by decide)
    iterate 1 walk1
    refine item_list (x := .str (sL e0) b0) (by exact isl_keeps he hF3) (by omega) (by omega) rfl ?_
    have g0 := dbl_len r0
    have g1 := behind_len e0 r1
    have g2 := behind_len e1 r2
    rw [sL_len] at z0 z1 z2 y0 y1
    refine add_sL (by omega) fun _ _ => ?_
    iterate 4 walk1
    refine add_sL (by simp only [List.length_append]; omega) fun _ _ => ?_
    iterate 1 walk1
    refine nm_cell (c := L + 1 + 1) (v := .ref le) rfl hC3 ?_ rfl rfl (by decide)
    iterate 1 walk1
    refine item_list (x := .str (sL e1) b1) (by exact isl_keeps he hF3) (by omega) (by omega) rfl ?_
    refine add_sL (by simp only [List.length_append]; omega) fun _ _ => ?_
    iterate 4 walk1
    refine add_sL (by simp only [List.length_append]; omega) fun _ _ => ?_
    iterate 1 walk1
    refine ⟨H3.x, octets_c (by exact H3) ?_ ?_ (by show dp + 1 + 3 < _; omega) (by show un + 3 + 20 < _; omega) fun h4 t4 tk4 hk4 => ?_⟩
    · rw [sL_len]; simp only [List.length_append]; omega
    · exact hb
    · exact ret h4 t4 tk4 (Keeps.trans hF3 hk4)
end
end Mine
end

section
open PySem PySem.W PyProof.Rows PySem.Calls
set_option Elab.async false
set_option maxRecDepth 100000
set_option maxHeartbeats 400000
namespace Mine
section
variable {w : World} {A : Around} {E : Value → Shared → Prop} {s : Shared} {env : Env} {h₀ : Heap} {x : Str} {body : List Stmt} {Q : Flow → Shared → Prop}
theorem forl_c {o : Obj} {fp : List Addr} {n : Nat} {P : Nat → Value → Prop} {St : Nat → Heap → Prop} {m₀ : Str → Option Value} {news : List (Addr × Obj)} (J : Nat → (Str → Option Value) → Prop)
    (W : Walks PG w A s.heap.objs.size fp [s.heap.objs.size] n P St) (hst : St 0 (s.heap.push o)) (hLf : env.locals ∉ fp) (F : Fr h₀ env.locals s.heap m₀) (N : News h₀ env.locals s.heap news) (hj : J 0 m₀)
    (turn : ∀ i v m₁ h tk own, i < n → P i v → J i m₁ → Fr h₀ env.locals h (fun y => if y = x then some v else m₁ y) → News h₀ env.locals h (own ++ news) →
      wpAny (model PG w) A (execs body env) (InvPost h₀ env.locals (J (i + 1)) (own ++ news) { s with heap := h, toks := tk } Q) E { s with heap := h, toks := tk })
    (done : ∀ m₁ h tk, J n m₁ → Fr h₀ env.locals h m₁ → News h₀ env.locals h news → Q .next { s with heap := h, toks := tk }) :
    LoopAtV PG w A h₀ env x body Q E (.ref s.heap.objs.size) { s with heap := s.heap.push o } := by
  let J' : Nat → (Str → Option Value) → List (Addr × Obj) → Prop := fun i m₁ news₁ => news₁ = news ∧ J i m₁
  refine ⟨_, _, _, n, _, _, m₀, news, J', rfl, W, hLf, ?_, ?_, hst, F.push _, (fun p hp => ⟨Heap.get?_push_of_some _ (N p hp).1, (N p hp).2⟩), ⟨rfl, hj⟩, ?_, ?_⟩
  · intro b hb
    rw [List.mem_singleton.mp hb]
    exact next_is_new F
  · intro p hp hI
    exact absurd (Heap.lt_size (N p hp).1) ((List.mem_singleton.mp hI) ▸ Nat.lt_irrefl _)
  · rintro i v m₁ news₁ s₁ own ⟨hh', tk', rfl⟩ hin hP ⟨rfl, hJ⟩ hoff _ _ _ _ F₁ N₁
    refine wpAny_mono (turn i v m₁ hh' tk' own hin hP hJ F₁ N₁) (fun f s₂ p => ?_) fun _ _ e => e
    have fin : InvEnd h₀ env.locals (J (i + 1)) (own ++ news₁) { s with heap := hh', toks := tk' } s₂ → LoopStepU h₀ env.locals [s.heap.objs.size] own (J' (i + 1)) { s with heap := hh', toks := tk' } .next s₂ := by
      rintro ⟨h', tk, m', news', e, F', N', hn, hm⟩
      exact ⟨rfl, h', tk, m', news₁, e, F', fun p hp => N' p (hn p hp), hoff, rfl, hm⟩
    cases f with
    | ret v => exact .ret p
    | brk => exact .brk p
    | next => exact .next (fin p)
    | cont => exact .cont (fin p)
  · rintro h' tk m' news' F' N' _ ⟨rfl, hJ⟩
    exact done m' h' tk hJ F' N'
theorem loop_list {l : Addr} {vs : Array Value} {m₀ : Str → Option Value} {news : List (Addr × Obj)} (J : Nat → (Str → Option Value) → Prop)
    (hh : A.handled = none) (hl : s.heap.IsList l vs) (hlL : l ≠ env.locals) (F : Fr h₀ env.locals s.heap m₀) (N : News h₀ env.locals s.heap news) (hj : J 0 m₀)
    (turn : ∀ i v m₁ h tk own, vs[i]? = some v → J i m₁ → Fr h₀ env.locals h (fun y => if y = x then some v else m₁ y) → News h₀ env.locals h (own ++ news) →
      wpAny (model PG w) A (execs body env) (InvPost h₀ env.locals (J (i + 1)) (own ++ news) { s with heap := h, toks := tk } Q) E { s with heap := h, toks := tk })
    (done : ∀ m₁ h tk, J vs.size m₁ → Fr h₀ env.locals h m₁ → News h₀ env.locals h news → Q .next { s with heap := h, toks := tk }) :
    wpAny (model PG w) A (pyIter (.ref l)) (fun it s₂ => LoopAtV PG w A h₀ env x body Q E it s₂) E s := by
  have hlt : l < s.heap.objs.size := by obtain ⟨_, e, _⟩ := hl; exact Heap.lt_size e
  refine wpAny_pyIter_list hl ?_
  refine forl_c J (Walks.list hh _ l (Nat.ne_of_lt hlt) vs) ⟨⟨_, Heap.get?_push_size _ rfl, rfl, rfl⟩, hl.at fun o e => Heap.get?_push_of_some _ e⟩ ?_ F N hj (fun i v m₁ h tk own _ hP => turn i v m₁ h tk own hP) done
  intro hm
  rcases List.mem_cons.mp hm with e | hm
  · exact absurd F.ns.lt (e ▸ Nat.lt_irrefl _)
  · exact hlL (List.mem_singleton.mp hm).symm
theorem loop_range {r : Addr} {n : Nat} {t u v : Tok} {m₀ : Str → Option Value} {news : List (Addr × Obj)} (J : Nat → (Str → Option Value) → Prop)
    (hh : A.handled = none) (hr : IsRange s.heap r 0 n 1 t u v) (hn : n ≤ 1000) (F : Fr h₀ env.locals s.heap m₀) (N : News h₀ env.locals s.heap news) (hj : J 0 m₀)
    (turn : ∀ i t m₁ h tk own, i < n → J i m₁ → Fr h₀ env.locals h (fun y => if y = x then some (.int (i : Int) t) else m₁ y) → News h₀ env.locals h (own ++ news) →
      wpAny (model PG w) A (execs body env) (InvPost h₀ env.locals (J (i + 1)) (own ++ news) { s with heap := h, toks := tk } Q) E { s with heap := h, toks := tk })
    (done : ∀ m₁ h tk, J n m₁ → Fr h₀ env.locals h m₁ → News h₀ env.locals h news → Q .next { s with heap := h, toks := tk }) :
    wpAny (model PG w) A (pyIter (.ref r)) (fun it s₂ => LoopAtV PG w A h₀ env x body Q E it s₂) E s := by
  have hsz : Builtin.Range.rangeSize 0 n 1 = n := by simp [Builtin.Range.rangeSize]; omega
  have hsm : Builtin.Range.small 0 n 1 = true := by
    unfold Builtin.Range.small
    rw [hsz]
    simp [Builtin.Range.rangeFitsLong]
    omega
  refine wpAny_pyIter_range hr hsm ?_
  have W := Walks.range (prog := PG) (w := w) (A := A) hh s.heap.objs.size 0 1 n
  have W' : Walks PG w A s.heap.objs.size [s.heap.objs.size] [s.heap.objs.size] n (fun i v => ∃ t, v = .int (i : Int) t) (fun i h => IsRangeIter h s.heap.objs.size (0 + (i : Nat) * 1) ((n : Int) - (i : Nat)) 1) := by
    have e : (fun (i : Nat) (v : Value) => ∃ t, v = Value.int ((0 : Int) + i * 1) t) = fun (i : Nat) (v : Value) => ∃ t, v = Value.int (i : Int) t := by
      funext i v
      rw [Int.zero_add, Int.mul_one]
    rw [← e]; exact W
  refine forl_c J W' ?_ ?_ F N hj ?_ done
  · show IsRangeIter _ _ _ _ _
    rw [hsz]
    simpa using Heap.get?_push_size _ rfl
  · intro hm
    exact absurd F.ns.lt ((List.mem_singleton.mp hm) ▸ Nat.lt_irrefl _)
  · rintro i v m₁ h tk own hin ⟨t, rfl⟩ hJ F₁ N₁
    exact turn i t m₁ h tk own hin hJ F₁ N₁
end
end Mine
end

section
open PySem PySem.W PyProof.Rows PySem.Calls
set_option Elab.async false
set_option maxRecDepth 100000
set_option maxHeartbeats 400000
namespace Mine
open PySem.SeqAt
theorem eqAt_tv {A : Around} {s : Shared} {kd : Nat} (hk : kd = 0 ∨ kd = 1) {p q : List Nat × Tok} (h : p.1 = q.1) : EqAt A s (tv kd p) (tv kd q) true := by
  obtain ⟨a, t⟩ := p
  obtain ⟨b, u⟩ := q
  dsimp only at h
  subst h
  intro prog w E Q hq
  rcases hk with rfl | rfl
  · exact eqBool_str (by simpa using hq)
  · exact PySem.W.eqBool_bytes (by simpa using hq)
theorem eqAt_sL {A : Around} {s : Shared} {a b : List Nat} {t u : Tok} : EqAt A s (.str (sL a) t) (.str (sL b) u) (decide (a = b)) := by
  intro prog w E Q hq
  refine eqBool_str ?_
  have e : (sL a == sL b) = decide (a = b) := by
    by_cases h : a = b
    · simp [h]
    · simp only [h, decide_false]
      rw [beq_eq_false_iff_ne]
      exact fun q => h (sL_inj q)
  rw [e]; exact hq
section
variable {w : World} {A : Around} {E : Value → Shared → Prop} {s : Shared}
theorem ne_tvs {kd : Nat} (hk : kd = 0 ∨ kd = 1) {l b : Addr} {ps qs : List (List Nat × Tok)} {Q : Value → Shared → Prop} (hl : s.heap.IsList l (ps.map (tv kd)).toArray) (hb : s.heap.IsList b (qs.map (tv kd)).toArray)
    (he : ps.map (·.1) = qs.map (·.1)) (hu : A.units < cLine) (h : Q (.bool false) s) : wpAny (model PG w) A (compareOp .NotEq (.ref l) (.ref b)) Q E s := by
  have hlen : ps.length = qs.length := by simpa using congrArg List.length he
  refine RcNeAt.lists (e := fun _ => true) hl hb (by simpa using hlen) hu (fun j h1 h2 => ?_) PG w E Q ?_
  · have h1' : j < ps.length := by simpa using h1
    have h2' : j < qs.length := by simpa using h2
    have e1 : ((ps.map (tv kd)).toArray[j]'h1) = tv kd ps[j] := by simp
    have e2 : ((qs.map (tv kd)).toArray[j]'h2) = tv kd qs[j] := by simp
    rw [e1, e2]
    refine eqAt_tv hk ?_
    have := congrArg (fun l => l[j]?) he
    simpa [h1', h2'] using this
  · have : (List.range (ps.map (tv kd)).toArray.size).all (fun _ => true) = true := by simp
    rw [this]; exact h
end
end Mine
end

section
set_option Elab.async false
set_option maxHeartbeats 400000
namespace Mine
structure Rising (texts : List (List Nat)) (top : List Nat) : Prop where
  nine : texts.length = 9
  up : texts.Pairwise (· < ·)
  lo : ∀ t ∈ texts, ([] : List Nat) < t
  hi : ∀ t ∈ texts, t < top
def spread (texts : List (List Nat)) (top : List Nat) (a b : Nat) : List (List Nat) := List.replicate a [] ++ texts ++ List.replicate b top
theorem nlt_of_lt {x y : List Nat} (h : x < y) : ¬ y < x := fun q => List.lt_irrefl x (List.lt_trans h q)
theorem spread_up {texts : List (List Nat)} {top : List Nat} (R : Rising texts top) (a b : Nat) : (spread texts top a b).Pairwise (fun x y => ¬ y < x) := by
  have R' : ∀ t ∈ texts, ([] : List Nat) < t ∧ t < top := fun t h => ⟨R.lo t h, R.hi t h⟩
  obtain ⟨t0, ht0⟩ : ∃ t, t ∈ texts := by
    have := R.nine
    match texts, this with
    | t :: _, _ => exact ⟨t, List.mem_cons_self ..⟩
  have h0 : ([] : List Nat) < top := List.lt_trans (R.lo _ ht0) (R.hi _ ht0)
  unfold spread
  rw [List.pairwise_append, List.pairwise_append]
  refine ⟨⟨?_, ?_, ?_⟩, ?_, ?_⟩
  · exact List.pairwise_replicate.mpr (.inr (List.lt_irrefl _))
  · exact R.up.imp fun h => nlt_of_lt h
  · intro x hx y hy
    rw [List.eq_of_mem_replicate hx]
    exact nlt_of_lt (R.lo _ hy)
  · exact List.pairwise_replicate.mpr (.inr (List.lt_irrefl _))
  · intro x hx y hy
    rw [List.eq_of_mem_replicate hy]
    rcases List.mem_append.mp hx with h | h
    · rw [List.eq_of_mem_replicate h]; exact nlt_of_lt h0
    · exact nlt_of_lt (R.hi _ h)
theorem spread_get {texts : List (List Nat)} {top : List Nat} (h9 : texts.length = 9) {a b i : Nat} (h1 : a ≤ i) (h2 : i < a + 9) : (spread texts top a b)[i]? = texts[i - a]? := by
  unfold spread
  rw [List.getElem?_append_left (by simp; omega), List.getElem?_append_right (by simp; omega)]
  simp
theorem stir_perm {α : Type} {vs : List α} (h9 : vs.length = 9) : (stir vs).Perm vs := by
  match vs, h9 with
  | [a0, a1, a2, a3, a4, a5, a6, a7, a8], _ =>
    show ([a0, a2, a4, a6, a8, a1, a3, a5, a7] : List α).Perm _
    have key : ([0, 2, 4, 6, 8, 1, 3, 5, 7] : List (Fin 9)).Perm [0, 1, 2, 3, 4, 5, 6, 7, 8] := by decide
    exact key.map fun (i : Fin 9) => [a0, a1, a2, a3, a4, a5, a6, a7, a8][i]
theorem stir_map {α β : Type} (f : α → β) (vs : List α) : (stir vs).map f = stir (vs.map f) := by
  unfold stir
  rw [List.map_filterMap]
  simp
theorem padL_map {α β : Type} (f : α → β) (vs : List α) (lo hi : α) (k : Nat) : (padL vs lo hi k).map f = padL (vs.map f) (f lo) (f hi) k := by
  unfold padL
  simp [stir_map]
theorem padL_perm {texts : List (List Nat)} (h9 : texts.length = 9) (top : List Nat) (k : Nat) : (padL texts [] top k).Perm (spread texts top (8 - 2 * k) (2 * k - 8)) := by
  unfold padL spread
  exact ((stir_perm h9).append_right _ |>.trans List.perm_append_comm).append_right _
theorem padL_len {α : Type} {vs : List α} (h9 : vs.length = 9) (lo hi : α) (k : Nat) : (padL vs lo hi k).length = 9 + (8 - 2 * k) + (2 * k - 8) := by
  unfold padL
  simp only [List.length_append, stir_len h9, List.length_replicate]
variable {τ : Type} {ws : List (List Nat × τ)} {texts : List (List Nat)} {top : List Nat} {k : Nat} {t : List Nat}
theorem sorted_is {l : List (List Nat)} {a b : Nat} (R : Rising texts top) (hp : (ws.map (·.1)).Perm l) (hl : l.Perm (spread texts top a b)) (hs : (ws.map (·.1)).Pairwise (fun x y => ¬ y < x)) : ws.map (·.1) = spread texts top a b :=
  List.Perm.eq_of_pairwise (le := fun x y => ¬ y < x) (fun _ _ _ _ h1 h2 => List.le_antisymm (List.not_lt.mp h1) (List.not_lt.mp h2)) hs (spread_up R a b) (hp.trans hl)
/-- the middle one of the row -/
theorem mid_row (R : Rising texts top) (hk : k ≤ 8) (ht : texts[k]? = some t) (hp : (ws.map (·.1)).Perm (padL texts [] top k)) (hs : (ws.map (·.1)).Pairwise (fun x y => ¬ y < x)) :
    (ws.map (·.1))[(9 + (8 - 2 * k) + (2 * k - 8)) / 2]? = some t := by
  rw [sorted_is R hp (padL_perm R.nine top k) hs, spread_get R.nine (by omega) (by omega), ← ht]
  congr 1; omega
theorem longer_perm (h9 : texts.length = 9) : (padL texts [] top k ++ [[]]).Perm (spread texts top (8 - 2 * k + 1) (2 * k - 8)) := by
  refine List.perm_append_comm.trans ?_
  have := (padL_perm h9 top k).cons []
  refine this.trans ?_
  unfold spread
  rw [List.replicate_succ]
  exact List.Perm.refl _
theorem low_longer (R : Rising texts top) (hk : k ≤ 8) (ht : ([] :: texts)[k]? = some t) (hp : (ws.map (·.1)).Perm (padL texts [] top k ++ [[]])) (hs : (ws.map (·.1)).Pairwise (fun x y => ¬ y < x)) :
    (ws.map (·.1))[(9 + (8 - 2 * k) + (2 * k - 8) + 1) / 2 - 1]? = some t := by
  rw [sorted_is R hp (longer_perm R.nine) hs]
  rcases Nat.eq_zero_or_pos k with h | h
  · subst h
    rw [← ht]
    show (spread texts top 9 0)[8]? = some []
    unfold spread
    rfl
  · rw [spread_get R.nine (by omega) (by omega), ← ht]
    obtain ⟨j, rfl⟩ : ∃ j, k = j + 1 := ⟨k - 1, by omega⟩
    rw [List.getElem?_cons_succ]
    congr 1; omega
theorem high_longer (R : Rising texts top) (hk : k ≤ 8) (ht : texts[k]? = some t) (hp : (ws.map (·.1)).Perm (padL texts [] top k ++ [[]])) (hs : (ws.map (·.1)).Pairwise (fun x y => ¬ y < x)) :
    (ws.map (·.1))[(9 + (8 - 2 * k) + (2 * k - 8) + 1) / 2]? = some t := by
  rw [sorted_is R hp (longer_perm R.nine) hs, spread_get R.nine (by omega) (by omega), ← ht]
  congr 1; omega
end Mine
end

section
open PySem PySem.W PyProof.Rows PySem.Calls
set_option Elab.async false
set_option maxRecDepth 100000
set_option maxHeartbeats 400000
namespace Mine
def ArL (kd : Nat) (as : List Value) (l : List (List Nat)) : Prop := ∃ ps : List (List Nat × Tok), as = ps.map (tv kd) ∧ ps.map (·.1) = l
def TL (kd : Nat) (h : Heap) (D : Addr) (l : List (List Nat)) : Prop := ∃ as, h.IsList D as.toArray ∧ ArL kd as l
theorem ArL.map {kd : Nat} (ps : List (List Nat × Tok)) : ArL kd (ps.map (tv kd)) (ps.map (·.1)) := ⟨ps, rfl, rfl⟩
theorem ArL.nil {kd : Nat} : ArL kd [] [] := ⟨[], rfl, rfl⟩
theorem ArL.append {kd : Nat} {as bs : List Value} {l m : List (List Nat)} (h : ArL kd as l) (g : ArL kd bs m) : ArL kd (as ++ bs) (l ++ m) := by
  obtain ⟨ps, rfl, rfl⟩ := h
  obtain ⟨qs, rfl, rfl⟩ := g
  exact ⟨ps ++ qs, by simp, by simp⟩
theorem ArL.one (x : List Nat) (t : Tok) : ArL 0 [.str (sL x) t] [x] := ⟨[(x, t)], rfl, rfl⟩
theorem ArL.cons {x : List Nat} {t : Tok} {as : List Value} {l : List (List Nat)} (h : ArL 0 as l) : ArL 0 (.str (sL x) t :: as) (x :: l) := (ArL.one x t).append h
theorem ArL.len {kd : Nat} {as : List Value} {l : List (List Nat)} (h : ArL kd as l) : as.length = l.length := by
  obtain ⟨ps, rfl, rfl⟩ := h
  simp
theorem ArL.get {kd : Nat} {as : List Value} {l : List (List Nat)} (h : ArL kd as l) {i : Nat} {x : List Nat} (e : l[i]? = some x) : ∃ t, as[i]? = some (tv kd (x, t)) := by
  obtain ⟨ps, rfl, rfl⟩ := h
  rw [List.getElem?_map] at e
  obtain ⟨p, hp, rfl⟩ := Option.map_eq_some_iff.mp e
  exact ⟨p.2, by rw [List.getElem?_map, hp]; rfl⟩
theorem TL.keeps {kd : Nat} {h h' : Heap} {D : Addr} {l : List (List Nat)} (x : TL kd h D l) (k : Keeps h h') : TL kd h' D l := by
  obtain ⟨as, e, a⟩ := x
  exact ⟨as, isl_keeps e k, a⟩
theorem oct_perm {kd : Nat} {l m : List (List Nat)} (h : ∀ x ∈ l, Oct kd x) (p : m.Perm l) : ∀ x ∈ m, Oct kd x := fun x hx => h x (p.mem_iff.mp hx)
theorem oct_of {kd : Nat} {ps : List (List Nat × Tok)} {l : List (List Nat)} (e : ps.map (·.1) = l) (h : ∀ x ∈ l, Oct kd x) : ∀ p ∈ ps, Oct kd p.1 := fun p hp => h _ (e ▸ List.mem_map.mpr ⟨p, hp, rfl⟩)
theorem padL_oct {kd : Nat} {texts : List (List Nat)} {top : List Nat} {k : Nat} (h9 : texts.length = 9) (h : ∀ x ∈ texts, Oct kd x) (ht : Oct kd top) (hk : kd = 0 ∨ kd = 1) : ∀ x ∈ padL texts [] top k, Oct kd x := by
  have h0 : Oct kd [] := by
    rcases hk with rfl | rfl
    · exact .inl rfl
    · exact .inr ⟨rfl, fun c hc => absurd hc List.not_mem_nil⟩
  refine oct_perm (l := spread texts top (8 - 2 * k) (2 * k - 8)) ?_ (padL_perm h9 top k)
  intro x hx
  unfold spread at hx
  rcases List.mem_append.mp hx with hx | hx
  · rcases List.mem_append.mp hx with hx | hx
    · rw [List.eq_of_mem_replicate hx]; exact h0
    · exact h x hx
  · rw [List.eq_of_mem_replicate hx]; exact ht
section
variable {w : World} {mean : ExcName → Option Value} {mg mb : Str → Option Value} {dp un : Nat} {fr : Option (List Env)} {gd : Option (List Code)} {s : Shared} {Q E : Value → Shared → Prop}
variable {kd : Nat} {l : Addr} {texts : List (List Nat)} {top r : List Nat} {k : Nat}
theorem median_t (hk : kd = 0 ∨ kd = 1) (H : Env0 w mean mg mb s.heap) (R : Rising texts top) (ho : ∀ x ∈ texts, Oct kd x) (ht : Oct kd top) (hl : TL kd s.heap l (padL texts [] top k)) (hk8 : k ≤ 8) (hr : texts[k]? = some r) (hd : dp + 1 < recursionLimit)
    (ret : ∀ h' t' tk', Keeps s.heap h' → Q (tv kd (r, t')) { s with heap := h', toks := tk' }) :
    wpAny (model PG w) ⟨none, dp, fr, gd, un⟩ (call (.ref 87) [.ref l]) Q E s := by
  obtain ⟨_, hl, ps, rfl, e⟩ := hl
  have hlen : ps.length = 9 + (8 - 2 * k) + (2 * k - 8) := by rw [← padL_len R.nine ([] : List Nat) top k, ← e]; simp
  refine median_c hk H hl (oct_of e (padL_oct R.nine ho ht hk)) (by omega) (by omega) (fun ws hp hs => ?_) hd ret
  rw [hlen]
  exact mid_row R hk8 hr (by rw [← e]; exact hp.map _) hs
theorem medhigh_t (hk : kd = 0 ∨ kd = 1) (H : Env0 w mean mg mb s.heap) (R : Rising texts top) (ho : ∀ x ∈ texts, Oct kd x) (ht : Oct kd top) (hl : TL kd s.heap l (padL texts [] top k)) (hk8 : k ≤ 8) (hr : texts[k]? = some r) (hd : dp + 1 < recursionLimit)
    (ret : ∀ h' t' tk', Keeps s.heap h' → Q (tv kd (r, t')) { s with heap := h', toks := tk' }) :
    wpAny (model PG w) ⟨none, dp, fr, gd, un⟩ (call (.ref 101) [.ref l]) Q E s := by
  obtain ⟨_, hl, ps, rfl, e⟩ := hl
  have hlen : ps.length = 9 + (8 - 2 * k) + (2 * k - 8) := by rw [← padL_len R.nine ([] : List Nat) top k, ← e]; simp
  refine medhigh_c hk H hl (oct_of e (padL_oct R.nine ho ht hk)) (by omega) (by omega) (fun ws hp hs => ?_) hd ret
  rw [hlen]
  exact mid_row R hk8 hr (by rw [← e]; exact hp.map _) hs
theorem medlow_t (hk : kd = 0 ∨ kd = 1) (H : Env0 w mean mg mb s.heap) (R : Rising texts top) (ho : ∀ x ∈ texts, Oct kd x) (ht : Oct kd top) (hl : TL kd s.heap l (padL texts [] top k)) (hk8 : k ≤ 8) (hr : texts[k]? = some r) (hd : dp + 1 < recursionLimit)
    (ret : ∀ h' t' tk', Keeps s.heap h' → Q (tv kd (r, t')) { s with heap := h', toks := tk' }) :
    wpAny (model PG w) ⟨none, dp, fr, gd, un⟩ (call (.ref 94) [.ref l]) Q E s := by
  obtain ⟨_, hl, ps, rfl, e⟩ := hl
  have hlen : ps.length = 9 + (8 - 2 * k) + (2 * k - 8) := by rw [← padL_len R.nine ([] : List Nat) top k, ← e]; simp
  refine medlow_odd hk H hl (oct_of e (padL_oct R.nine ho ht hk)) (by omega) (by omega) (fun ws hp hs => ?_) hd ret
  rw [hlen]
  exact mid_row R hk8 hr (by rw [← e]; exact hp.map _) hs
theorem lowlong_t (H : Env0 w mean mg mb s.heap) (R : Rising texts top) (hl : TL 0 s.heap l (padL texts [] top k ++ [[]])) (hk8 : k ≤ 8) (hr : ([] :: texts)[k]? = some r) (hd : dp + 1 < recursionLimit)
    (ret : ∀ h' t' tk', Keeps s.heap h' → Q (tv 0 (r, t')) { s with heap := h', toks := tk' }) :
    wpAny (model PG w) ⟨none, dp, fr, gd, un⟩ (call (.ref 94) [.ref l]) Q E s := by
  obtain ⟨_, hl, ps, rfl, e⟩ := hl
  have hlen : ps.length = 9 + (8 - 2 * k) + (2 * k - 8) + 1 := by
    have := congrArg List.length e
    rw [List.length_append, padL_len R.nine ([] : List Nat) top k] at this
    simpa using this
  refine medlow_even (.inl rfl) H hl (fun _ _ => .inl rfl) (by omega) (by omega) (by omega) (fun ws hp hs => ?_) hd ret
  rw [hlen]
  exact low_longer R hk8 hr (by rw [← e]; exact hp.map _) hs
theorem highlong_t (H : Env0 w mean mg mb s.heap) (R : Rising texts top) (hl : TL 0 s.heap l (padL texts [] top k ++ [[]])) (hk8 : k ≤ 8) (hr : texts[k]? = some r) (hd : dp + 1 < recursionLimit)
    (ret : ∀ h' t' tk', Keeps s.heap h' → Q (tv 0 (r, t')) { s with heap := h', toks := tk' }) :
    wpAny (model PG w) ⟨none, dp, fr, gd, un⟩ (call (.ref 101) [.ref l]) Q E s := by
  obtain ⟨_, hl, ps, rfl, e⟩ := hl
  have hlen : ps.length = 9 + (8 - 2 * k) + (2 * k - 8) + 1 := by
    have := congrArg List.length e
    rw [List.length_append, padL_len R.nine ([] : List Nat) top k] at this
    simpa using this
  refine medhigh_c (.inl rfl) H hl (fun _ _ => .inl rfl) (by omega) (by omega) (fun ws hp hs => ?_) hd ret
  rw [hlen]
  exact high_longer R hk8 hr (by rw [← e]; exact hp.map _) hs
theorem padded_t {lo hi : List Nat × Tok} {tk0 : Tok} (H : Env0 w mean mg mb s.heap) (hl : TL kd s.heap l texts) (h9 : texts.length = 9) (hk : k ≤ 8) (hd : dp + 1 < recursionLimit)
    (ret : ∀ T h' tk' e as, Keeps s.heap h' → s.heap.get? T = none → h'.get? T = some (W.listOf as.toArray e) → ArL kd as (padL texts lo.1 hi.1 k) → Q (.ref T) { s with heap := h', toks := tk' }) :
    wpAny (model PG w) ⟨none, dp, fr, gd, un⟩ (call (.ref 140) [.ref l, tv kd lo, tv kd hi, .int k tk0]) Q E s := by
  obtain ⟨_, hl, ps, rfl, e⟩ := hl
  refine padded_c H hl (by rw [← h9, ← e]; simp) hk hd fun T h' tk' e' hk' hT hl' => ?_
  refine ret T h' tk' e' _ hk' hT hl' ?_
  rw [← e, ← padL_map (fun p : List Nat × Tok => p.1)]
  exact ArL.map _
theorem item_tmp {A : Around} {value slice : Expr} {items : Array Value} {k : Int} {u : Tok} {x : Value} {Q : Value → Shared → Prop} (hl : s.heap.IsList l items)
    (h0 : 0 ≤ k) (hfit : k < 2 ^ 63) (hx : items[k.toNat]? = some x) (h : Q x s)
    (hs : subscripted slice false (.ref l) (.int k u) = operate [.ref l, .int k u] (getItem (.ref l) (.int k u)) := by with_unfolding_all rfl) :
    wpAny (model PG w) A (subscriptTail value slice (.ref l) (.int k u)) Q E s :=
  tail_any hl.typeIs slot_list_getitem.lookup (wpAny_getItem_list hl h0 hfit hx h) hs
theorem ne_tv0 {A : Around} {x : List Nat} {t u : Tok} {Q : Value → Shared → Prop} (h : Q (.bool false) s) : wpAny (model PG w) A (compareOp .NotEq (tv 0 (x, t)) (tv 0 (x, u))) Q E s := by
  show wpAny _ _ (compareOp .NotEq (.str (sL x) t) (.str (sL x) u)) _ _ _
  exact PyProof.Rows.ne_str (by simpa using h)
theorem ne_t {A : Around} {b : Addr} {ts : List (List Nat)} {Q : Value → Shared → Prop} (hk : kd = 0 ∨ kd = 1) (hl : TL kd s.heap l ts) (hb : TL kd s.heap b ts) (hu : A.units < cLine) (h : Q (.bool false) s) :
    wpAny (model PG w) A (compareOp .NotEq (.ref l) (.ref b)) Q E s := by
  obtain ⟨_, hl, ps, rfl, e1⟩ := hl
  obtain ⟨_, hb, qs, rfl, e2⟩ := hb
  exact ne_tvs hk hl hb (e1.trans e2.symm) hu h
end
end Mine
end

section
open PySem PySem.W PyProof.Rows PySem.Calls
set_option Elab.async false
set_option maxRecDepth 100000
set_option maxHeartbeats 4000000
namespace Mine
theorem fill6 : ∀ (w : World) (h : Heap), (Mine.hd.heap_39 w.params).In h → PySem.Challenge.rw_rs0035_01.prog = PySem.Challenge.rw_rs0035_01.prog := by
  k_fill
  intros
  rfl
def forget3 (a b c : Str) (u m : Str → Option Value) : Str → Option Value := fun z => if z = a then u z else if z = b then u z else if z = c then u z else m z
theorem forget3_self {a b c : Str} {m : Str → Option Value} : m = forget3 a b c m m := by
  funext z
  unfold forget3
  split
  · rfl
  · split
    · rfl
    · split <;> rfl
theorem forget3_of {a b c : Str} {m m' : Str → Option Value} (h : ∀ z, z ≠ a → z ≠ b → z ≠ c → m' z = m z) : m' = forget3 a b c m' m := by
  funext z
  unfold forget3
  by_cases h1 : z = a
  · rw [if_pos h1]
  · rw [if_neg h1]
    by_cases h2 : z = b
    · rw [if_pos h2]
    · rw [if_neg h2]
      by_cases h3 : z = c
      · rw [if_pos h3]
      · rw [if_neg h3]; exact h z h1 h2 h3
section
variable {w : World} {mean : ExcName → Option Value} {mg mb : Str → Option Value} {dp un : Nat} {fr : Option (List Env)} {gd : Option (List Code)} {s : Shared} {Q E : Value → Shared → Prop}
theorem order_c {l : Addr} {texts : List (List Nat)} (H : Env0 w mean mg mb s.heap) (hl : TL 0 s.heap l texts) (R : Rising texts [256]) (hd : dp + 6 < recursionLimit) (hu : un + 200 < cLine)
    (ret : ∀ h' tk', Keeps s.heap h' → Q (.bool true) { s with heap := h', toks := tk' }) :
    wpAny (model PG w) ⟨none, dp, fr, gd, un⟩ (call (.ref 147) [.ref l]) Q E s := by
  have KX : (Mine.hd.heap_39 w.params).In s.heap := H.x
  have T := H.t
  dsimp only [VW, LS] at T
  refine wpAny_call ?_
  k_dflt (refine' enter_def KX T.nolimit ?k6 ?k7 ?k8 ?k9 ?kB ?_ ?c2 ?c3 ?c4 ?c5; (case k6 => k_is); (case k7 => k_is); (case k8 => (dsimp only; omega)); (case k9 => exact BindsTo.of_eq rfl); (case kB => exact locs rfl); (case c5 => decide); (case c2 => exact rfl); (case c3 => exact rfl); (case c4 => exact rfl))
  intro h₁ F
  have N : News s.heap s.heap.objs.size h₁ [] := News.nil
  dsimp only
  iterate 2 walk1
  (rename Fr _ _ _ _ => F)
  iterate 6 walk1
  refine call_range_1 ?_
  refine loop_range (n := 9) (J := fun _ m => ∃ u, m = forget3 (Str.ofString "k") (Str.ofString "row") (Str.ofString "longer") u _) rfl (IsRange.new _ _ _ _ _ _ _) (by decide) (F.push _) (fun p hp => absurd hp (List.not_mem_nil)) ⟨_, forget3_self⟩ ?_ ?_
  · rintro i t m₁ h tk own hi ⟨u, rfl⟩ F1 N1
    clear N F
    rw [List.append_nil] at N1
    dsimp only [forget3] at F1
    have H1 := H.keeps F1.keep
    have ho : ∀ x ∈ texts, Oct 0 x := fun _ _ => .inl rfl
    obtain ⟨r, hr⟩ : ∃ r, texts[i]? = some r := ⟨_, List.getElem?_eq_getElem (by rw [R.nine]; exact hi)⟩
    obtain ⟨r', hr'⟩ : ∃ r, ([] :: texts)[i]? = some r := ⟨_, List.getElem?_eq_getElem (by rw [List.length_cons, R.nine]; omega)⟩
    iterate 16 walk1
    refine P.chr_of_int (by decide) ?_
    iterate 4 walk1
    rw [empty_eq]
    refine padded_t (kd := 0) (lo := ([], _)) (hi := ([256], _)) (by exact H1) (by exact hl.keeps F1.keep) R.nine (by omega) (by show dp + 1 + 1 < _; omega) fun A1 h2 tk2 e2 as2 hk2 hA1 hl1 ar1 => ?_
    have F2 := hk2.fr F1
    have N2 := news_cons N1 hk2 hl1 hA1 F1
    have hF1 := F1.keep
    clear F1 N1
    iterate 11 walk1
    (rename Fr _ _ _ _ => F3)
    (rename News _ _ _ _ => N3)
    refine kmk_add_lit F3 N3 (by exact isl N3 (by k_mem)) (by exact isl N3 (List.Mem.head _)) rfl (fun A3 h4 F4 N4 _ => ?_) (by rw [ar1.len, padL_len R.nine, List.length_singleton, sizeLine_eq]; omega)
    clear F3 N3
    have ar3 := fun t => ar1.append (ArL.one [] t)
    iterate 13 walk1
    (rename Fr _ _ _ _ => F5)
    (rename News _ _ _ _ => N5)
    refine median_t (.inl rfl) (by exact H.keeps F5.keep) R ho (.inl rfl) (by exact ⟨_, isl N5 (by k_mem), ar1⟩) (by omega) hr (by show dp + 1 + 1 < _; omega) fun h6 t6 tk6 hk6 => ?_
    have F6 := hk6.fr F5
    have N6 := hk6.news N5
    clear F5 N5
    obtain ⟨as0, hl0, ar0⟩ := id hl
    obtain ⟨ti, hgi⟩ := ar0.get hr
    iterate 3 walk1
    refine item_list (x := tv 0 (r, ti)) (by exact isl_keeps hl0 F6.keep) (by omega) (by omega) (by rw [Int.toNat_natCast]; simpa using hgi) ?_
    refine ne_tv0 ?_
    iterate 11 walk1
    refine lowlong_t (by exact H.keeps F6.keep) R (by exact ⟨_, isl N6 (List.Mem.head _), ar3 _⟩) (by omega) hr' (by show dp + 1 + 1 < _; omega) fun h7 t7 tk7 hk7 => ?_
    have F7 := hk7.fr F6
    have N7 := hk7.news N6
    clear F6 N6
    iterate 8 walk1
    (rename Fr _ _ _ _ => F8)
    (rename News _ _ _ _ => N8)
    refine kmk_add_lit F8 N8 (by exact isl N8 (List.Mem.head _)) (by exact isl_keeps hl0 F8.keep) rfl (fun A9 h9 F9 N9 _ => ?_) (by rw [ar0.len, R.nine, List.length_singleton, sizeLine_eq]; omega)
    clear F8 N8
    obtain ⟨tj, hgj⟩ := ((ArL.one [] (tk7)).append ar0).get (i := i) hr'
    iterate 1 walk1
    refine item_tmp (x := tv 0 (r', tj)) (by exact isl N9 (List.Mem.head _)) (by omega) (by omega) (by rw [Int.toNat_natCast]; simpa using hgj) ?_
    refine ne_tv0 ?_
    iterate 11 walk1
    refine highlong_t (by exact H.keeps F9.keep) R (by exact ⟨_, isl N9 (by k_mem), ar3 _⟩) (by omega) hr (by show dp + 1 + 1 < _; omega) fun h10 t10 tk10 hk10 => ?_
    have F10 := hk10.fr F9
    have N10 := hk10.news N9
    clear F9 N9
    iterate 3 walk1
    refine item_list (x := tv 0 (r, ti)) (by exact isl_keeps hl0 F10.keep) (by omega) (by omega) (by rw [Int.toNat_natCast]; simpa using hgi) ?_
    refine ne_tv0 ?_
    iterate 24 walk1
    refine P.chr_of_int (by decide) ?_
    iterate 4 walk1
    refine padded_t (kd := 0) (lo := ([], _)) (hi := ([256], _)) (by exact H.keeps F10.keep) (by exact hl.keeps F10.keep) R.nine (by omega) (by show dp + 1 + 1 < _; omega) fun A11 h11 tk11 e11 as11 hk11 hA11 hl11 ar11 => ?_
    have F11 := hk11.fr F10
    have N11 := news_cons N10 hk11 hl11 hA11 F10
    clear F10 N10
    refine ne_t (.inl rfl) (by exact ⟨_, isl N11 (by k_mem), ar1⟩) (by exact ⟨_, isl N11 (List.Mem.head _), ar11⟩) (by show un + 3 < _; omega) ?_
    iterate 12 walk1
    (rename Fr _ _ _ _ => F12)
    (rename News _ _ _ _ => N12)
    refine kmk_add_lit F12 N12 (by exact isl N12 (by k_mem)) (by exact isl N12 (List.Mem.head _)) rfl (fun A13 h13 F13 N13 _ => ?_) (by rw [ar1.len, padL_len R.nine, List.length_singleton, sizeLine_eq]; omega)
    clear F12 N12
    refine ne_t (.inl rfl) (by exact ⟨_, isl N13 (by k_mem), ar3 _⟩) (by exact ⟨_, isl N13 (List.Mem.head _), ar3 _⟩) (by show un + 3 < _; omega) ?_
    iterate 6 walk1
    dsimp only
    refine wpAny_execs_nil ?_
    refine InvEnd.intro F13 N13 (by rw [List.append_nil]; intro p hp; repeat (first | exact hp | refine List.mem_cons_of_mem _ ?_)) ⟨_, forget3_of fun z h1 h2 h3 => ?_⟩
    simp only [if_neg h1, if_neg h2, if_neg h3]
  · rintro m₁ h tk ⟨u, rfl⟩ F1 N1
    clear N F
    iterate 3 walk1
    exact ret _ _ F1.keep
end
end Mine
end

section
open PySem PySem.W PyProof.Rows PySem.Calls
set_option Elab.async false
set_option maxRecDepth 100000
set_option maxHeartbeats 4000000
namespace Mine
theorem fill7 : ∀ (w : World) (h : Heap), (Mine.hd.heap_39 w.params).In h → PySem.Challenge.rw_rs0035_01.prog = PySem.Challenge.rw_rs0035_01.prog := by
  k_fill
  intros
  rfl
def RowOk (r : List Nat) : Prop := Plain r ∧ r.length ≤ 3
theorem menu {P : List Nat → Prop} {a b c d : Value} (ha : ∃ r t, a = .str (sL r) t ∧ P r) (hb : ∃ r t, b = .str (sL r) t ∧ P r) (hc : ∃ r t, c = .str (sL r) t ∧ P r) (hd : ∃ r t, d = .str (sL r) t ∧ P r) {k : Int} (h0 : 0 ≤ k) (h4 : k < 4) :
    ∃ r t, (#[a, b, c, d] : Array Value)[k.toNat]? = some (.str (sL r) t) ∧ P r := by
  have : k = 0 ∨ k = 1 ∨ k = 2 ∨ k = 3 := by omega
  rcases this with rfl | rfl | rfl | rfl
  · obtain ⟨r, t, rfl, h⟩ := ha; exact ⟨r, t, rfl, h⟩
  · obtain ⟨r, t, rfl, h⟩ := hb; exact ⟨r, t, rfl, h⟩
  · obtain ⟨r, t, rfl, h⟩ := hc; exact ⟨r, t, rfl, h⟩
  · obtain ⟨r, t, rfl, h⟩ := hd; exact ⟨r, t, rfl, h⟩
theorem a_eq : Str.ofString "a" = sL [97] := by decide +kernel
theorem b_eq : Str.ofString "b" = sL [98] := by decide +kernel
theorem tab_eq : Str.ofString "\t" = sL [9] := by decide +kernel
theorem hyp_eq : Str.ofString "-." = sL [45, 46] := by decide +kernel
theorem plain_one {c : Nat} (h1 : c ≠ 10) (h2 : c ≠ 13) (h3 : c < 256) : Plain [c] := fun x hx => by
  rw [List.mem_singleton] at hx
  subst hx
  exact ⟨h1, h2, h3⟩
section
variable {w : World} {mean : ExcName → Option Value} {mg mb : Str → Option Value} {dp un : Nat} {fr : Option (List Env)} {gd : Option (List Code)} {s : Shared} {Q E : Value → Shared → Prop}
theorem row_c {l : Addr} {vs : List Value} {ns : List Int} {b : Int} {tb : Tok} (H : Env0 w mean mg mb s.heap) (hl : s.heap.IsList l vs.toArray) (hi : IntsAre vs ns) (h63 : ns.length ≤ 63) (hd : dp + 6 < recursionLimit) (hu : un + 200 < cLine)
    (ret : ∀ r h' t' tk', Keeps s.heap h' → RowOk r → r ≠ [] → Q (.str (sL r) t') { s with heap := h', toks := tk' }) :
    wpAny (model PG w) ⟨none, dp, fr, gd, un⟩ (call (.ref 106) [.int b tb, .ref l]) Q E s := by
  have KX : (Mine.hd.heap_39 w.params).In s.heap := H.x
  have T := H.t
  dsimp only [VW, LS] at T
  refine wpAny_call ?_
  k_dflt (refine' enter_def KX T.nolimit ?k6 ?k7 ?k8 ?k9 ?kB ?_ ?c2 ?c3 ?c4 ?c5; (case k6 => k_is); (case k7 => k_is); (case k8 => (dsimp only; omega)); (case k9 => exact BindsTo.of_eq rfl); (case kB => exact locs rfl); (case c5 => decide); (case c2 => exact rfl); (case c3 => exact rfl); (case c4 => exact rfl))
  intro h₁ F
  have N : News s.heap s.heap.objs.size h₁ [] := News.nil
  dsimp only
  iterate 20 walk1
  have hca := CarriedAll.intsOf (by assumption)
  (rename Heap.IsList _ _ _ => hlD)
  refine sumK rfl (by assumption) (News.nil) (by assumption) hca fun h2 tk2 t2 F2 N2 => ?_
  generalize (List.map (fun a : Int => a.fmod 1000000) (List.filter (fun a => true) ns)).sum = S
  clear hca
  iterate 3 walk1
  have hV0 : 0 ≤ (b + S).fmod 1000000 := Int.fmod_nonneg_of_pos _ (by decide)
  generalize (b + S).fmod 1000000 = V at hV0 ⊢
  iterate 17 walk1
  have hc : ((V.fdiv 16).fmod 256).toNat < 256 := by
    have h1 : 0 ≤ (V.fdiv 16).fmod 256 := Int.fmod_nonneg_of_pos _ (by decide)
    have h2 : (V.fdiv 16).fmod 256 < 256 := Int.fmod_lt_of_pos _ (by decide)
    omega
  generalize ((V.fdiv 16).fmod 256).toNat = c at hc ⊢
  iterate 16 walk1
  · rw [b_eq]
    rw [empty_eq, dot_eq, a_eq, tab_eq, hyp_eq]
    iterate 25 walk1
    (rename News _ _ _ _ => N5)
    obtain ⟨r1, u1, e1, g1, g1'⟩ := menu (P := fun r => Plain r ∧ r.length = 1) (a := .str (sL [46]) _) (b := .str (sL [97]) _) (c := .str (sL [9]) _) (d := .str (sL [98]) _) ⟨_, _, rfl, by unfold Plain; decide, rfl⟩ ⟨_, _, rfl, by unfold Plain; decide, rfl⟩ ⟨_, _, rfl, by unfold Plain; decide, rfl⟩ ⟨_, _, rfl, by unfold Plain; decide, rfl⟩ (Int.fmod_nonneg_of_pos V (by decide)) (Int.fmod_lt_of_pos V (by decide))
    refine item_tmp (x := .str (sL r1) u1) (by exact isl N5 (List.Mem.head _)) (Int.fmod_nonneg_of_pos _ (by decide)) (by have := Int.fmod_lt_of_pos V (show (0 : Int) < 4 by decide); omega) (by exact e1) ?_
    iterate 19 walk1
    (rename News _ _ _ _ => N6)
    obtain ⟨r2, u2, e2, g2, g2'⟩ := menu (P := fun r => Plain r ∧ r.length ≤ 2) (a := .str (sL []) _) (b := .str (sL [46]) _) (c := .str (sL [98]) _) (d := .str (sL [45, 46]) _) ⟨_, _, rfl, by unfold Plain; decide, by decide⟩ ⟨_, _, rfl, by unfold Plain; decide, by decide⟩ ⟨_, _, rfl, by unfold Plain; decide, by simp⟩ ⟨_, _, rfl, by unfold Plain; decide, by decide⟩ (Int.fmod_nonneg_of_pos (V.fdiv 4) (by decide)) (Int.fmod_lt_of_pos (V.fdiv 4) (by decide))
    refine item_tmp (x := .str (sL r2) u2) (by exact isl N6 (List.Mem.head _)) (Int.fmod_nonneg_of_pos _ (by decide)) (by have := Int.fmod_lt_of_pos (V.fdiv 4) (show (0 : Int) < 4 by decide); omega) (by exact e2) ?_
    (rename Fr _ _ _ _ => F6)
    refine add_sL (by omega) fun _ _ => ?_
    refine ret (r1 ++ r2) _ _ _ F6.keep ⟨fun x hx => (List.mem_append.mp hx).elim (g1 x) (g2 x), by rw [List.length_append]; omega⟩ ?_
    intro q
    have := congrArg List.length q
    rw [List.length_append, g1'] at this
    simp at this
  · rename _ = false => hno
    have h10 : c ≠ 10 := by
      rintro rfl
      revert hno
      decide +kernel
    have h13 : c ≠ 13 := by
      rintro rfl
      revert hno
      decide +kernel
    rw [empty_eq, dot_eq, a_eq, tab_eq, hyp_eq]
    iterate 20 walk1
    (rename News _ _ _ _ => N5)
    obtain ⟨r1, u1, e1, g1, g1'⟩ := menu (P := fun r => Plain r ∧ r.length = 1) (a := .str (sL [46]) _) (b := .str (sL [97]) _) (c := .str (sL [9]) _) (d := .str (sL [c]) _) ⟨_, _, rfl, by unfold Plain; decide, rfl⟩ ⟨_, _, rfl, by unfold Plain; decide, rfl⟩ ⟨_, _, rfl, by unfold Plain; decide, rfl⟩ ⟨_, _, rfl, plain_one h10 h13 hc, rfl⟩ (Int.fmod_nonneg_of_pos V (by decide)) (Int.fmod_lt_of_pos V (by decide))
    refine item_tmp (x := .str (sL r1) u1) (by exact isl N5 (List.Mem.head _)) (Int.fmod_nonneg_of_pos _ (by decide)) (by have := Int.fmod_lt_of_pos V (show (0 : Int) < 4 by decide); omega) (by exact e1) ?_
    iterate 19 walk1
    (rename News _ _ _ _ => N6)
    obtain ⟨r2, u2, e2, g2, g2'⟩ := menu (P := fun r => Plain r ∧ r.length ≤ 2) (a := .str (sL []) _) (b := .str (sL [46]) _) (c := .str (sL [c]) _) (d := .str (sL [45, 46]) _) ⟨_, _, rfl, by unfold Plain; decide, by decide⟩ ⟨_, _, rfl, by unfold Plain; decide, by decide⟩ ⟨_, _, rfl, plain_one h10 h13 hc, by simp⟩ ⟨_, _, rfl, by unfold Plain; decide, by decide⟩ (Int.fmod_nonneg_of_pos (V.fdiv 4) (by decide)) (Int.fmod_lt_of_pos (V.fdiv 4) (by decide))
    refine item_tmp (x := .str (sL r2) u2) (by exact isl N6 (List.Mem.head _)) (Int.fmod_nonneg_of_pos _ (by decide)) (by have := Int.fmod_lt_of_pos (V.fdiv 4) (show (0 : Int) < 4 by decide); omega) (by exact e2) ?_
    (rename Fr _ _ _ _ => F6)
    refine add_sL (by omega) fun _ _ => ?_
    refine ret (r1 ++ r2) _ _ _ F6.keep ⟨fun x hx => (List.mem_append.mp hx).elim (g1 x) (g2 x), by rw [List.length_append]; omega⟩ ?_
    intro q
    have := congrArg List.length q
    rw [List.length_append, g1'] at this
    simp at this
end
end Mine
end

section
open PySem PySem.W PyProof.Rows PySem.Calls
set_option Elab.async false
set_option maxRecDepth 100000
set_option maxHeartbeats 4000000
namespace Mine
theorem fill8 : ∀ (w : World) (h : Heap), (Mine.hd.heap_39 w.params).In h → PySem.Challenge.rw_rs0035_01.prog = PySem.Challenge.rw_rs0035_01.prog := by
  k_fill
  intros
  rfl
section
variable {w : World} {mean : ExcName → Option Value} {mg mb : Str → Option Value} {dp un : Nat} {fr : Option (List Env)} {gd : Option (List Code)} {s : Shared} {Q E : Value → Shared → Prop}
theorem slice3_raw {A : Around} {value slice : Expr} {l : Addr} {items : Array Value} {vl vu vk : Value} {lo hi st : Option Int} {ops : List Value} (hl : s.heap.IsList l items) (pl : IsPart vl lo) (pu : IsPart vu hi) (pk : IsPart vk st) (h0 : st ≠ some 0) (hz : items.size ≤ sizeLine)
    (h : ∀ D h', Keeps s.heap h' → s.heap.get? D = none → h'.get? D = some (W.listOf (slicePick items lo hi st) 0) → Q (.ref D) { s with heap := h' })
    (hs : subscripted slice false (.ref l) (.ref s.heap.objs.size) = operate ops (getItem (.ref l) (.ref s.heap.objs.size)) := by with_unfolding_all rfl)
    (ht : ∀ r, letTemporaryGo value (.ref l) r = pure () := by intro _; with_unfolding_all rfl) :
    wpAny (model PG w) A (subscriptTail value slice (.ref l) (.ref s.heap.objs.size)) Q E { s with heap := s.heap.push { cls := .type "slice", data := .fields #[vl, vu, vk] } } := by
  have hK : Keeps s.heap (s.heap.push { cls := .type "slice", data := .fields #[vl, vu, vk] }) := fun b o e => Heap.get?_push_of_some _ e
  refine subscriptTail_ops (Heap.IsList.typeIs (s := { s with heap := s.heap.push { cls := .type "slice", data := .fields #[vl, vu, vk] } }) (isl_keeps hl hK)) list_getitem_lookup
    (wpAny_getItem_list_slice (isl_keeps hl hK) (Heap.IsSliceOf.new ..) pl pu pk h0 ?_ hz) hs ht
  refine h _ _ (fun b o e => Heap.get?_push_of_some _ (hK b o e)) ?_ (Heap.get?_push_size _ rfl)
  cases q : s.heap.get? (s.heap.push { cls := .type "slice", data := .fields #[vl, vu, vk] }).objs.size with
  | none => rfl
  | some o => exact absurd (Heap.lt_size (hK _ _ q)) (Nat.lt_irrefl _)
theorem newlist_raw {A : Around} {xs : List Value} (hz : xs.length ≤ sizeLine) (h : ∀ D h', Keeps s.heap h' → s.heap.get? D = none → h'.get? D = some (W.listOf xs.toArray 0) → Q (.ref D) { s with heap := h' }) : wpAny (model PG w) A (newList xs) Q E s := by
  refine wpAny_newObj_type (h _ _ (fun b o e => Heap.get?_push_of_some _ e) ?_ (Heap.get?_push_size _ rfl)) (by show xs.toArray.size ≤ sizeLine; simpa using hz)
  cases q : s.heap.get? s.heap.objs.size with
  | none => rfl
  | some o => exact absurd (Heap.lt_size q) (Nat.lt_irrefl _)
theorem ints_sub : ∀ {ys vs : List Value} {ns : List Int}, IntsAre vs ns → (∀ y ∈ ys, y ∈ vs) → ∃ ms, IntsAre ys ms ∧ ms.length = ys.length
  | [], _, _, _, _ => ⟨[], .nil, rfl⟩
  | y :: ys, vs, ns, hi, h => by
    obtain ⟨ms, h1, h2⟩ := ints_sub (ys := ys) hi fun z hz => h z (List.mem_cons_of_mem _ hz)
    obtain ⟨i, hlt, e⟩ := List.getElem_of_mem (h y (List.mem_cons_self ..))
    obtain ⟨t, ht⟩ := hi.get i (ns[i]'(by rw [← hi.length]; exact hlt)) (List.getElem?_eq_getElem _)
    rw [List.getElem?_eq_getElem hlt, e] at ht
    injection ht with ht
    subst ht
    exact ⟨_ :: ms, .cons _ t h1, by simp [h2]⟩
theorem pick_mem {items : Array Value} {lo hi st : Option Int} : ∀ y ∈ (slicePick items lo hi st).toList, y ∈ items.toList := by
  intro y hy
  unfold slicePick at hy
  simp only [List.mem_filterMap] at hy
  obtain ⟨i, _, e⟩ := hy
  exact Array.mem_toList_iff.mpr (Array.mem_of_getElem? e)
structure Rows3 (r0 r1 r2 : List Nat) : Prop where
  ok0 : RowOk r0
  ok1 : RowOk r1
  ok2 : RowOk r2
  ne : r1 ≠ []
theorem rows_c {l : Addr} {vs : List Value} {ns : List Int} (H : Env0 w mean mg mb s.heap) (hl : s.heap.IsList l vs.toArray) (hi : IntsAre vs ns) (h63 : ns.length ≤ 63) (hd : dp + 9 < recursionLimit) (hu : un + 300 < cLine)
    (ret : ∀ r0 r1 r2 t0 t1 t2 T h' tk', Keeps s.heap h' → s.heap.get? T = none → h'.IsList T #[.str (sL r0) t0, .str (sL r1) t1, .str (sL r2) t2] → Rows3 r0 r1 r2 → Q (.ref T) { s with heap := h', toks := tk' }) :
    wpAny (model PG w) ⟨none, dp, fr, gd, un⟩ (call (.ref 111) [.ref l]) Q E s := by
  have KX : (Mine.hd.heap_39 w.params).In s.heap := H.x
  have T := H.t
  dsimp only [VW, LS] at T
  refine wpAny_call ?_
  k_dflt (refine' enter_defC KX T.nolimit ?k6 ?k7 ?k8 ?k9 ?kB ?kD ?_ ?c2 ?c3 ?c4; (case k6 => k_is); (case k7 => k_is); (case k8 => (dsimp only; omega)); (case k9 => exact BindsTo.of_eq rfl); (case kB => exact rfl); (case kD => decide +kernel); (case c2 => exact rfl); (case c3 => exact rfl); (case c4 => exact rfl))
  intro L h₁ tk cells F N Y
  k_cells Y
  dsimp only
  iterate 20 walk1
  (rename Fr _ _ _ _ => F1)
  (rename News _ _ _ _ => N1)
  have hcellv := (N1 _ (List.Mem.tail _ (List.Mem.head _))).1
  (rename _ = Data.cell _ => hcd)
  have hcell1 : Heap.IsCell _ (L + 1) (some (.ref l)) := ⟨_, hcellv, hcd⟩
  refine comp_assign (lv := True) (cl := [(Str.ofString "script", L + 1)]) (fun v y => ∃ r t, y = .str (sL r) t ∧ RowOk r ∧ r ≠ []) rfl rfl (by decide) rfl (by decide) (by decide) rfl rfl (fun _ => rfl) ?_
  iterate 6 walk1
  refine call_range_1 ?_
  refine ⟨3, _, _, iter_range rfl (IsRange.new _ _ _ _ _ _ _) (by omega), by omega, F1.ns.keeps fun b o e => Heap.get?_push_of_some _ e, ?_, ?_⟩
  · rintro C i v s₃ m₃ E' ⟨hi3, t, rfl⟩ hns hm hk3
    have hK : Keeps _ s₃.heap := fun b o e => hk3 b o (Heap.get?_push_of_some _ e)
    have H3 := (H.keeps F1.keep).keeps hK
    have KX3 : (Mine.hd.heap_39 w.params).In s₃.heap := H3.x
    have hcell3 := hcell1.keeps hK
    have hl3 := isl_keeps hl (Keeps.trans F1.keep hK)
    clear F1 N1 hcell1 hcellv
    iterate 1 walk1
    refine nm_glob H3 (by k_is) ?_ rfl rfl rfl (by decide)
    iterate 11 walk1
    refine newlist_raw (by simp only [List.length_cons, List.length_nil]; rw [sizeLine_eq]; omega) fun D4 h4 hk4 hD4 hl4 => ?_
    refine nm_loc (by exact hns.keeps hk4) hm ?_ rfl rfl (by decide)
    obtain ⟨b0, bt, hb0⟩ : ∃ b t, (#[Value.int 0 s₃.toks, .int 4 (s₃.toks + 1), .int 9 (s₃.toks + 1 + 1)] : Array Value)[i]? = some (.int b t) := by
      match i, hi3 with
      | 0, _ => exact ⟨_, _, rfl⟩
      | 1, _ => exact ⟨_, _, rfl⟩
      | 2, _ => exact ⟨_, _, rfl⟩
    refine item_tmp (x := .int b0 bt) (by exact ⟨_, hl4, rfl, 0, rfl⟩) (by omega) (by omega) (by rw [Int.toNat_natCast]; exact hb0) ?_
    iterate 2 walk1
    refine nm_cell (c := L + 1) (v := .ref l) rfl (by exact hcell3.keeps hk4) ?_ rfl rfl (by decide)
    iterate 2 walk1
    refine nm_loc (by exact hns.keeps hk4) hm ?_ rfl rfl (by decide)
    iterate 3 walk1
    refine slice3_raw (lo := some (i : Int)) (hi := none) (st := some 3) (by exact isl_keeps hl3 hk4) (.int _ _) .none (.int _ _) (by decide) (by rw [List.size_toArray, hi.length, sizeLine_eq]; omega) fun D5 h5 hk5 hD5 hl5 => ?_
    obtain ⟨ms, hms, hml⟩ := ints_sub (ys := (slicePick vs.toArray (some (i : Int)) none (some 3)).toList) hi (fun y hy => by simpa using pick_mem y hy)
    have hsz : (slicePick vs.toArray (some (i : Int)) none (some 3)).toList.length ≤ ns.length := by
      have h1 := slicePick_size_le vs.toArray (some (i : Int)) none (some 3)
      have h2 : vs.toArray.size = ns.length := by simp [hi.length]
      rw [Array.length_toList]
      omega
    have hk5' := Keeps.trans hk4 hk5
    have H5 := H3.keeps hk5'
    iterate 1 walk1
    refine ⟨H5.x, row_c (by exact H5) (by exact ⟨_, hl5, rfl, 0, by simp⟩) hms (by rw [hml]; omega) (by show dp + 1 + 6 < _; omega) (by show un + 3 + 200 < _; omega) fun r h6 t6 tk6 hk6 g1 g2 => ?_⟩
    exact ⟨⟨r, _, rfl, g1, g2⟩, pk rfl (Keeps.trans hk5' hk6)⟩
  · intro D h' tk' ee ys vs' hD hge hlen hP hF hns' hk'
    obtain ⟨r0, t0, r1, t1, r2, t2, hys, g0, g1, g2⟩ : ∃ r0 t0 r1 t1 r2 t2, ys = #[.str (sL r0) t0, .str (sL r1) t1, .str (sL r2) t2] ∧ (RowOk r0 ∧ r0 ≠ []) ∧ (RowOk r1 ∧ r1 ≠ []) ∧ (RowOk r2 ∧ r2 ≠ []) := by
      have hl : ys.toList.length = 3 := by rw [← hF.length]; exact hlen
      obtain ⟨y0, w1, r0, t0, e0, w2⟩ := paired_get hF 0 vs'[0] (List.getElem?_eq_getElem (by omega))
      obtain ⟨y1, x1, r1, t1, e1, x2⟩ := paired_get hF 1 vs'[1] (List.getElem?_eq_getElem (by omega))
      obtain ⟨y2, z1, r2, t2, e2, z2⟩ := paired_get hF 2 vs'[2] (List.getElem?_eq_getElem (by omega))
      subst e0 e1 e2
      refine ⟨r0, t0, r1, t1, r2, t2, ?_, w2, x2, z2⟩
      apply Array.ext'
      match hy : ys.toList, hl with
      | [_, _, _], _ =>
        rw [hy] at w1 x1 z1
        simp at w1 x1 z1
        rw [w1, x1, z1]
    subst hys
    have hne : ∀ b o, s.heap.get? b = some o → b ≠ L := fun b o e => Nat.ne_of_lt (Nat.lt_of_lt_of_le (Heap.lt_size e) F1.above)
    have hup : ∀ b o, b ≠ L → _ → h'.get? b = some o := fun b o h1 e => hk' b o h1 (Heap.get?_push_of_some _ e)
    have hD1 : s.heap.get? D = none := by
      cases q : s.heap.get? D with
      | none => rfl
      | some o => rw [Heap.get?_push_of_some _ (F1.keep _ _ q)] at hD; cases hD
    have F2 : Fr s.heap L h' _ := ⟨hns', fun b o e => hup b o (hne b o e) (F1.keep b o e), F1.above⟩
    have N2 : News s.heap L h' [(D, W.listOf #[.str (sL r0) t0, .str (sL r1) t1, .str (sL r2) t2] ee)] := by
      intro p hp
      rw [List.mem_singleton] at hp
      subst hp
      refine ⟨hge, ?_, hD1⟩
      rintro rfl
      obtain ⟨o, _, _, e, _⟩ := F1.ns
      rw [Heap.get?_push_of_some _ e] at hD
      cases hD
    have n0 : RowOk [] := ⟨fun c hc => absurd hc List.not_mem_nil, by decide⟩
    clear F1 N1 hns' hge hD hcellv hcell1 hcd
    iterate 8 walk1
    w_strict (k_steps)
    · (rename News _ _ _ _ => N9)
      (rename Fr _ _ _ _ => F9)
      rw [empty_eq] at N9
      have h3 := N9 _ (List.Mem.head _)
      exact ret [] r1 r2 _ _ _ _ _ _ F9.keep h3.2.2 ⟨_, h3.1, rfl, 0, rfl⟩ ⟨n0, g1.1, g2.1, g1.2⟩
    · (rename News _ _ _ _ => N9)
      (rename Fr _ _ _ _ => F9)
      rw [empty_eq] at N9
      have h3 := N9 _ (List.Mem.head _)
      exact ret r0 r1 [] _ _ _ _ _ _ F9.keep h3.2.2 ⟨_, h3.1, rfl, 0, rfl⟩ ⟨g0.1, g1.1, n0, g1.2⟩
    · (rename News _ _ _ _ => N9)
      (rename Fr _ _ _ _ => F9)
      have h3 := N9 _ (List.Mem.head _)
      exact ret r0 r1 r2 _ _ _ _ _ _ F9.keep h3.2.2 ⟨_, h3.1, rfl, ee, rfl⟩ ⟨g0.1, g1.1, g2.1, g1.2⟩
end
end Mine
end

section
open PySem PySem.W PyProof.Rows PySem.Calls
set_option Elab.async false
set_option maxRecDepth 100000
set_option maxHeartbeats 400000
namespace Mine
theorem room_d0 : 1 + claimMargin + 1 + 20 < recursionLimit := by decide
theorem room_u0 : 4 + 3 + 1000 < cLine := by decide +kernel
theorem room_d {d : Nat} (hd : d = 1 + claimMargin + 1) (n : Nat) (h : n ≤ 20) : d + n < recursionLimit := by subst hd; exact Nat.lt_of_le_of_lt (Nat.add_le_add_left h _) room_d0
theorem room_u {d : Nat} (hd : d = 4 + 3) (n : Nat) (h : n ≤ 1000) : d + n < cLine := by subst hd; exact Nat.lt_of_le_of_lt (Nat.add_le_add_left h _) room_u0
theorem nn1 (n : Nat) : n + 1 ≠ n := by omega
theorem nn2 (n : Nat) : n + 1 + 1 ≠ n := by omega
theorem nn3 (n : Nat) : n + 1 + 1 + 1 ≠ n := by omega
theorem nn4 (n : Nat) : n + 1 + 1 + 1 + 1 ≠ n := by omega
theorem ge5 {a b n : Nat} (h1 : a < b) (h2 : b ≤ n) (h3 : n ≤ a) : False := by omega
theorem le0 (n : Nat) : n ≤ n := by omega
theorem le1 (n : Nat) : n ≤ n + 1 := by omega
theorem le2 (n : Nat) : n ≤ n + 1 + 1 := by omega
theorem le3 (n : Nat) : n ≤ n + 1 + 1 + 1 := by omega
theorem le4 (n : Nat) : n ≤ n + 1 + 1 + 1 + 1 := by omega
/-! the frame of the law: its names at L, its four cells behind it -/
structure Cx (h : Heap) (L : Addr) (vr vk vs vm : Option Value) : Prop where
  r : h.IsCell (L + 1) vr
  k : h.IsCell (L + 1 + 1) vk
  s : h.IsCell (L + 1 + 1 + 1) vs
  m : h.IsCell (L + 1 + 1 + 1 + 1) vm
def own5 (L : Addr) : List Addr := [L, L + 1, L + 1 + 1, L + 1 + 1 + 1, L + 1 + 1 + 1 + 1]
def Off (L : Addr) (h h' : Heap) : Prop := ∀ b o, b ∉ own5 L → h.get? b = some o → h'.get? b = some o
theorem m5r (L : Addr) : L + 1 ∈ own5 L := List.Mem.tail _ (List.Mem.head _)
theorem m5k (L : Addr) : L + 1 + 1 ∈ own5 L := List.Mem.tail _ (List.Mem.tail _ (List.Mem.head _))
theorem m5s (L : Addr) : L + 1 + 1 + 1 ∈ own5 L := List.Mem.tail _ (List.Mem.tail _ (List.Mem.tail _ (List.Mem.head _)))
theorem m5m (L : Addr) : L + 1 + 1 + 1 + 1 ∈ own5 L := List.Mem.tail _ (List.Mem.tail _ (List.Mem.tail _ (List.Mem.tail _ (List.Mem.head _))))
theorem Keeps.off {L : Addr} {h h' : Heap} (k : Keeps h h') : Off L h h' := fun b o _ e => k b o e
theorem Off.trans {L : Addr} {a b c : Heap} (x : Off L a b) (y : Off L b c) : Off L a c := fun q o n e => y q o n (x q o n e)
theorem Off.list {L A : Addr} {h h' : Heap} {xs : Array Value} (k : Off L h h') (hA : A ∉ own5 L) (x : h.IsList A xs) : h'.IsList A xs := by
  obtain ⟨o, ho, hc, n, hd⟩ := x
  exact ⟨o, k _ _ hA ho, hc, n, hd⟩
theorem Cx.keeps {h h' : Heap} {L : Addr} {vr vk vs vm : Option Value} (C : Cx h L vr vk vs vm) (k : Keeps h h') : Cx h' L vr vk vs vm := ⟨C.r.keeps k, C.k.keeps k, C.s.keeps k, C.m.keeps k⟩
theorem cell_same {h h' : Heap} {c b : Addr} {v : Option Value} (hs : Heap.SameBut c h h') (hne : b ≠ c) (x : h.IsCell b v) : h'.IsCell b v := by
  obtain ⟨o, ho, hd⟩ := x
  exact ⟨o, (hs.2 b hne).trans ho, hd⟩
theorem Cx.loc {h h' : Heap} {L : Addr} {vr vk vs vm : Option Value} (C : Cx h L vr vk vs vm) (hs : Heap.SameBut L h h') : Cx h' L vr vk vs vm :=
  ⟨cell_same hs (nn1 L) C.r, cell_same hs (nn2 L) C.k, cell_same hs (nn3 L) C.s, cell_same hs (nn4 L) C.m⟩
theorem Cx.set_r {h h' : Heap} {L : Addr} {vr vk vs vm v : Option Value} (C : Cx h L vr vk vs vm) (hs : Heap.SameBut (L + 1) h h') (x : h'.IsCell (L + 1) v) : Cx h' L v vk vs vm :=
  ⟨x, cell_same hs (nn1 (L + 1)) C.k, cell_same hs (nn2 (L + 1)) C.s, cell_same hs (nn3 (L + 1)) C.m⟩
theorem Cx.set_k {h h' : Heap} {L : Addr} {vr vk vs vm v : Option Value} (C : Cx h L vr vk vs vm) (hs : Heap.SameBut (L + 1 + 1) h h') (x : h'.IsCell (L + 1 + 1) v) : Cx h' L vr v vs vm :=
  ⟨cell_same hs (Ne.symm (nn1 (L + 1))) C.r, x, cell_same hs (nn1 (L + 1 + 1)) C.s, cell_same hs (nn2 (L + 1 + 1)) C.m⟩
theorem Cx.set_s {h h' : Heap} {L : Addr} {vr vk vs vm v : Option Value} (C : Cx h L vr vk vs vm) (hs : Heap.SameBut (L + 1 + 1 + 1) h h') (x : h'.IsCell (L + 1 + 1 + 1) v) : Cx h' L vr vk v vm :=
  ⟨cell_same hs (Ne.symm (nn2 (L + 1))) C.r, cell_same hs (Ne.symm (nn1 (L + 1 + 1))) C.k, x, cell_same hs (nn1 (L + 1 + 1 + 1)) C.m⟩
theorem Cx.set_m {h h' : Heap} {L : Addr} {vr vk vs vm v : Option Value} (C : Cx h L vr vk vs vm) (hs : Heap.SameBut (L + 1 + 1 + 1 + 1) h h') (x : h'.IsCell (L + 1 + 1 + 1 + 1) v) : Cx h' L vr vk vs v :=
  ⟨cell_same hs (Ne.symm (nn3 (L + 1))) C.r, cell_same hs (Ne.symm (nn2 (L + 1 + 1))) C.k, cell_same hs (Ne.symm (nn1 (L + 1 + 1 + 1))) C.s, x⟩
theorem Cx.ext {h h' : Heap} {L : Addr} {vr vk vs vm : Option Value} (C : Cx h L vr vk vs vm) (k : ∀ b o, b ≠ L → h.get? b = some o → h'.get? b = some o) : Cx h' L vr vk vs vm := by
  obtain ⟨⟨o1, e1, d1⟩, ⟨o2, e2, d2⟩, ⟨o3, e3, d3⟩, ⟨o4, e4, d4⟩⟩ := C
  exact ⟨⟨o1, k _ _ (nn1 L) e1, d1⟩, ⟨o2, k _ _ (nn2 L) e2, d2⟩, ⟨o3, k _ _ (nn3 L) e3, d3⟩, ⟨o4, k _ _ (nn4 L) e4, d4⟩⟩
theorem fresh_off {h₀ h : Heap} {L T : Addr} {m : Str → Option Value} {vr vk vs vm : Option Value} (F : Fr h₀ L h m) (C : Cx h L vr vk vs vm) (hT : h.get? T = none) : T ∉ own5 L := by
  intro hm
  obtain ⟨o0, _, _, e0, _⟩ := F.ns
  obtain ⟨⟨o1, e1, d1⟩, ⟨o2, e2, d2⟩, ⟨o3, e3, d3⟩, ⟨o4, e4, d4⟩⟩ := C
  simp only [own5, List.mem_cons, List.not_mem_nil, or_false] at hm
  rcases hm with rfl | rfl | rfl | rfl | rfl
  · rw [e0] at hT; cases hT
  · rw [e1] at hT; cases hT
  · rw [e2] at hT; cases hT
  · rw [e3] at hT; cases hT
  · rw [e4] at hT; cases hT
theorem old_off {h₀ h : Heap} {L T : Addr} {m : Str → Option Value} (F : Fr h₀ L h m) {o : Obj} (hT : h₀.get? T = some o) : T ∉ own5 L := by
  intro hm
  have h1 := Heap.lt_size hT
  have h2 := F.above
  simp only [own5, List.mem_cons, List.not_mem_nil, or_false] at hm
  rcases hm with rfl | rfl | rfl | rfl | rfl
  · exact ge5 h1 h2 (le0 _)
  · exact ge5 h1 h2 (le1 _)
  · exact ge5 h1 h2 (le2 _)
  · exact ge5 h1 h2 (le3 _)
  · exact ge5 h1 h2 (le4 _)
theorem none_above {h₀ h : Heap} {L T : Addr} {m : Str → Option Value} (F : Fr h₀ L h m) (hT : L ≤ T) : h₀.get? T = none := by
  cases q : h₀.get? T with
  | none => rfl
  | some o => exact (ge5 (Heap.lt_size q) F.above hT).elim
theorem after_assign {h₀ h hb h' : Heap} {L : Addr} {m m' : Str → Option Value} {vr vk vs vm : Option Value} (F : Fr h₀ L h m) (C : Cx h L vr vk vs vm) (k : Keeps h hb) (hns : h'.Ns L m')
    (hk : ∀ b o, b ≠ L → hb.get? b = some o → h'.get? b = some o) : Fr h₀ L h' m' ∧ Cx h' L vr vk vs vm ∧ Off L h h' ∧ ∀ T, hb.get? T = none → T ∉ own5 L := by
  have k' : Keeps h hb := k
  refine ⟨⟨hns, fun b o e => hk b o ?_ (k _ _ (F.keep _ _ e)), F.above⟩, C.ext fun b o hb e => hk b o hb (k _ _ e), fun b o hb e => hk b o ?_ (k _ _ e), fun T hT => fresh_off (k'.fr F) (C.keeps k') hT⟩
  · rintro rfl
    rw [none_above F (le0 _)] at e; cases e
  · rintro rfl
    exact hb (List.mem_cons_self ..)
section
variable {w : World} {A : Around} {E : Value → Shared → Prop} {s : Shared} {env : Env} {h₀ : Heap} {y : Str} {v : Value} {m : Str → Option Value} {vr vk vs vm : Option Value} {Q : Unit → Shared → Prop}
theorem store_loc (hl : env.kindOf y = some .local) (F : Fr h₀ env.locals s.heap m) (C : Cx s.heap env.locals vr vk vs vm)
    (h : ∀ h', Fr h₀ env.locals h' (fun x => if x = y then some v else m x) → Cx h' env.locals vr vk vs vm → Off env.locals s.heap h' → Q () { s with heap := h', toks := s.toks + 1 })
    (hp : (env.scope.kind == .class || (env.scope.kind == .module && env.locals != env.globals)) = false) : wpAny (model PG w) A (storeName env y v) Q E s :=
  wpAny_storeName_local hl F.ns (fun h' hn hs => h h' (F.set hn hs) (C.loc hs) fun b o hb e => (hs.2 b (by rintro rfl; exact hb (List.mem_cons_self ..))).trans e) hp
theorem store_cell {c : Addr} {v₀ : Option Value} (hk : env.scope.kind = .function) (hl : env.kindOf y = some .cell) (hc : env.cells.lookup y = some c) (F : Fr h₀ env.locals s.heap m) (hv : s.heap.IsCell c v₀) (hlt : env.locals < c) (hc5 : c ∈ own5 env.locals)
    (h : ∀ h', Fr h₀ env.locals h' m → h'.IsCell c (some v) → Heap.SameBut c s.heap h' → Off env.locals s.heap h' → Q () { s with heap := h' }) : wpAny (model PG w) A (storeName env y v) Q E s := by
  refine wpAny_storeName_cell hk hl hc hv fun h' hv' hs => h h' ⟨F.ns.sameBut hs (Nat.ne_of_lt hlt), fun b o e => (hs.2 b ?_).trans (F.keep b o e), F.above⟩ hv' hs fun b o hb e => (hs.2 b (by rintro rfl; exact hb hc5)).trans e
  rintro rfl
  rw [none_above F (Nat.le_of_lt hlt)] at e; cases e
end
section
variable {w : World} {A : Around} {E : Value → Shared → Prop} {s : Shared}
theorem comp_none {lv : Prop} {env : Env} {elt iter c : Expr} {x : Str} {px : Pos} {scope : Scope} {cl : List (Str × Addr)} {pos : Pos} {Q : Value → Shared → Prop}
    (hclos : closureFor scope env = pure cl) (hcell : ∀ y ∈ scope.names, y.2 ≠ .cell) (hkind : scope.kind = .function)
    (hnames : ∀ y ∈ scope.names, y.2 = .local → scope.names.lookup y.1 = some .local) (hx : scope.names.lookup x = some .local)
    (hs : ∀ x, foldedSetIterable iter env x = pure x)
    (h : wpAny (model PG w) A (eval iter env) (fun xv s₁ => ∃ n P, Iter lv w A s₁ xv n P ∧ n ≤ 1000 ∧
      (∀ C i v s₃ m₃ E', P i v → s₃.heap.Ns C m₃ → m₃ x = some v → Keeps s₁.heap s₃.heap → wpAny (model PG w) A (isTrue c (compEnvC scope cl C env) (eval c (compEnvC scope cl C env))) (fun ok s₄ => ok = false ∧ PySem.Keeps s₃ s₄) E' s₃) ∧
      (∀ D h' tk e, s₁.heap.get? D = none → Keeps s₁.heap h' → h'.get? D = some (W.listOf #[] e) → Q (.ref D) { s₁ with heap := h', toks := tk })) E s) :
    wpAny (model PG w) A (eval (.ListComp elt [⟨.Name x px, iter, [c], 0⟩] scope pos) env) Q E s := by
  refine wpAny_ListComp_free (fun _ => false) (fun _ _ => True) hclos hcell hkind hnames hx (wpAny_mono h (fun xv s₁ h₁ => ?_) fun _ _ e => e) hs
  obtain ⟨n, P, hit, hn, hc, hQ⟩ := h₁
  refine hit _ _ fun o fp St W hst hfp _ => ?_
  have hk0 : Keeps s₁.heap (s₁.heap.push o) := fun b o' e => Heap.get?_push_of_some _ e
  have up : ∀ h' : Heap, (∀ b o', b ∉ [s₁.heap.objs.size] → (s₁.heap.push o).get? b = some o' → h'.get? b = some o') → Keeps s₁.heap h' :=
    fun h' hk b o' e => hk b o' (not_iter_of_old e) (hk0 _ _ e)
  refine ⟨_, fp, _, n, P, St, rfl, W, (by rw [sizeLine_eq]; omega), hst, hfp, ⟨?_, ?_⟩, ?_⟩
  · intro C i v s₃ m₃ E' _ hP hns hm hk _
    rw [List.forIn_cons, if_pos rfl]
    refine wpAny_bind (wpAny_bind (wpAny_mono (hc C i v s₃ m₃ E' hP hns hm (up _ hk)) (fun ok s₄ q => ?_) fun _ _ e => e))
    obtain ⟨rfl, q⟩ := q
    refine wpAny_pure ?_
    dsimp only
    rw [List.forIn_nil]
    exact wpAny_pure ⟨rfl, q⟩
  · intro C i v s₃ m₃ E' _ _ hf
    cases hf
  · intro D h' tk ys vs hD hl hpl hlen hP hF hk
    obtain ⟨e, he⟩ := hpl
    have hys : ys = #[] := by
      have e0 : vs.filter (fun _ => false) = [] := by simp
      rw [e0] at hF
      apply Array.ext'
      cases hy : ys.toList with
      | nil => rfl
      | cons a b => rw [hy] at hF; cases hF
    subst hys
    refine hQ D h' tk e ?_ (up _ hk) he
    cases q : s₁.heap.get? D with
    | none => rfl
    | some o' => rw [hk0 _ _ q] at hD; cases hD
end
/-! what the law has made so far -/
structure RwAt (L : Addr) (h : Heap) (AR : Addr) (r0 r1 r2 : List Nat) : Prop where
  off : AR ∉ own5 L
  at_ : ∃ t0 t1 t2, h.IsList AR #[.str (sL r0) t0, .str (sL r1) t1, .str (sL r2) t2]
structure TLx (L : Addr) (kd : Nat) (h : Heap) (A : Addr) (l : List (List Nat)) : Prop where
  off : A ∉ own5 L
  at_ : TL kd h A l
structure KsAt (L : Addr) (h : Heap) (AK : Addr) (a b : List (List Nat)) : Prop where
  off : AK ∉ own5 L
  at_ : ∃ K0 K1, h.IsList AK #[.ref K0, .ref K1] ∧ TLx L 0 h K0 a ∧ TLx L 0 h K1 b
def PairAt (h : Heap) (T : Addr) (e0 e1 : List Nat) : Prop := ∃ t0 t1, h.IsList T #[.str (sL e0) t0, .str (sL e1) t1]
structure SpAt (L : Addr) (h : Heap) (AS : Addr) (l : List (List Nat × List Nat)) : Prop where
  off : AS ∉ own5 L
  at_ : ∃ (Ts : List Addr) (e : Nat), Ts.length = l.length ∧ h.get? AS = some (W.listOf (Ts.map Value.ref).toArray e) ∧ ∀ (k : Nat) T p, Ts[k]? = some T → l[k]? = some p → T ∉ own5 L ∧ PairAt h T p.1 p.2
section
variable {L : Addr} {h h' : Heap} (k : Off L h h')
include k
theorem RwAt.go {AR : Addr} {r0 r1 r2 : List Nat} (x : RwAt L h AR r0 r1 r2) : RwAt L h' AR r0 r1 r2 := by
  obtain ⟨n, t0, t1, t2, e⟩ := x
  exact ⟨n, t0, t1, t2, k.list n e⟩
theorem TLx.go {kd : Nat} {A : Addr} {l : List (List Nat)} (x : TLx L kd h A l) : TLx L kd h' A l := by
  obtain ⟨n, as, e, a⟩ := x
  exact ⟨n, as, k.list n e, a⟩
theorem KsAt.go {AK : Addr} {a b : List (List Nat)} (x : KsAt L h AK a b) : KsAt L h' AK a b := by
  obtain ⟨n, K0, K1, e, x0, x1⟩ := x
  exact ⟨n, K0, K1, k.list n e, x0.go k, x1.go k⟩
theorem SpAt.go {AS : Addr} {l : List (List Nat × List Nat)} (x : SpAt L h AS l) : SpAt L h' AS l := by
  obtain ⟨n, Ts, m, hl, e, g⟩ := x
  refine ⟨n, Ts, m, hl, k _ _ n e, fun i T p h1 h2 => ?_⟩
  obtain ⟨nT, t0, t1, e1⟩ := g i T p h1 h2
  exact ⟨nT, t0, t1, k.list nT e1⟩
end
end Mine
end

section
open PySem PySem.W PyProof.Rows PySem.Calls
set_option Elab.async false
set_option maxRecDepth 100000
set_option maxHeartbeats 400000
namespace Mine
theorem paired_at {F : Value → Value → Prop} {vs : List Value} {ys : Array Value} {n : Nat} (hF : Paired F vs ys.toList) (hlen : vs.length = n) {P : Nat → Value → Prop} (hP : ∀ (j : Nat) (v : Value), vs[j]? = some v → P j v) {j : Nat} (hj : j < n) :
    ∃ v y, P j v ∧ ys.toList[j]? = some y ∧ F v y := by
  obtain ⟨b, h1, h2⟩ := paired_get hF j vs[j] (List.getElem?_eq_getElem (by omega))
  exact ⟨_, b, hP j _ (List.getElem?_eq_getElem (by omega)), h1, h2⟩
theorem two_of {l : List Value} {a b : Value} (h : l.length = 2) (h0 : l[0]? = some a) (h1 : l[1]? = some b) : l = [a, b] := by
  match l, h with
  | [x, y], _ => simp at h0 h1; rw [h0, h1]
theorem are_tl {h : Heap} {T : Addr} {its : Array Value} {l : List (List Nat)} (hl : h.IsList T its) (a : Are 0 its l) : TL 0 h T l := by
  obtain ⟨ps, rfl, e⟩ := a
  exact ⟨_, hl, ps, rfl, e⟩
theorem kinds_made {h h' : Heap} {r1 r2 : List Nat} {t1 t2 : Tok} {vs : List Value} {ys : Array Value} (hlen : vs.length = 2) (hP : ∀ (j : Nat) (v : Value), vs[j]? = some v → (#[.str (sL r1) t1, .str (sL r2) t2] : Array Value)[j]? = some v)
    (hF : Paired (ItL h (fun v its => ∀ r t, v = .str (sL r) t → Are 0 its (kindsOf r)) h') vs ys.toList) :
    ∃ K0 K1, ys = #[.ref K0, .ref K1] ∧ h.get? K0 = none ∧ h.get? K1 = none ∧ TL 0 h' K0 (kindsOf r1) ∧ TL 0 h' K1 (kindsOf r2) := by
  obtain ⟨v0, y0, p0, e0, K0, its0, rfl, n0, l0, g0⟩ := paired_at hF hlen hP (j := 0) (by omega)
  obtain ⟨v1, y1, p1, e1, K1, its1, rfl, n1, l1, g1⟩ := paired_at hF hlen hP (j := 1) (by omega)
  refine ⟨K0, K1, Array.ext' (two_of (by rw [← hF.length]; exact hlen) e0 e1), n0, n1, are_tl l0 (g0 _ _ (Option.some.inj p0).symm), are_tl l1 (g1 _ _ (Option.some.inj p1).symm)⟩
theorem kinds_len (x : List Nat) : (kindsOf x).length = 3 := by
  unfold kindsOf
  split
  · split <;> rfl
  · rfl
theorem tl_get {kd : Nat} {h : Heap} {T : Addr} {l : List (List Nat)} (x : TL kd h T l) {i : Nat} (hi : i < l.length) : ∃ as t, h.IsList T as ∧ as[i]? = some (tv kd (l.getD i [], t)) := by
  obtain ⟨as, e, a⟩ := x
  obtain ⟨t, ht⟩ := a.get (i := i) (x := l.getD i []) (by rw [List.getElem?_eq_getElem hi, List.getD_eq_getElem?_getD, List.getElem?_eq_getElem hi]; rfl)
  exact ⟨_, t, e, by simpa using ht⟩
/-! the nine pairs of ends -/
def spelt (a b : List (List Nat)) : List (List Nat × List Nat) := (List.range 9).map fun k => (a.getD (k / 3) [], b.getD (k % 3) [])
theorem spelt_get {a b : List (List Nat)} {k : Nat} (h : k < 9) : (spelt a b)[k]? = some (a.getD (k / 3) [], b.getD (k % 3) []) := by
  unfold spelt
  rw [List.getElem?_map, List.getElem?_range h]
  rfl
theorem spelt_len (a b : List (List Nat)) : (spelt a b).length = 9 := by simp [spelt]
theorem spelled_made {h h' : Heap} {L : Addr} {a b : List (List Nat)} {vs : List Value} {ys : Array Value} (hlen : vs.length = 9) (hP : ∀ (j : Nat) (v : Value), vs[j]? = some v → j < 9 ∧ ∃ t, v = .int (j : Int) t)
    (hF : Paired (ItL h (fun v its => ∀ (k : Nat) t, v = .int (k : Int) t → ∃ t0 t1, its = #[.str (sL (a.getD (k / 3) [])) t0, .str (sL (b.getD (k % 3) [])) t1]) h') vs ys.toList)
    (hoff : ∀ T, h.get? T = none → T ∉ own5 L) :
    ∃ Ts : List Addr, Ts.length = (spelt a b).length ∧ ys = (Ts.map Value.ref).toArray ∧ ∀ (k : Nat) T p, Ts[k]? = some T → (spelt a b)[k]? = some p → T ∉ own5 L ∧ PairAt h' T p.1 p.2 := by
  have key : ∀ j, j < 9 → ∃ T, ys.toList[j]? = some (.ref T) ∧ T ∉ own5 L ∧ PairAt h' T (a.getD (j / 3) []) (b.getD (j % 3) []) := by
    intro j hj
    obtain ⟨v0, y0, ⟨_, t, rfl⟩, e0, T, its, rfl, n0, l0, g0⟩ := paired_at hF hlen hP hj
    obtain ⟨u0, u1, rfl⟩ := g0 j t rfl
    exact ⟨T, e0, hoff T n0, u0, u1, l0⟩
  have hl : ys.toList.length = 9 := by rw [← hF.length]; exact hlen
  refine ⟨ys.toList.map fun v => match v with | .ref T => T | _ => 0, by rw [List.length_map, hl, spelt_len], ?_, ?_⟩
  · apply Array.ext'
    show ys.toList = List.map Value.ref (List.map _ ys.toList)
    rw [List.map_map]
    conv => lhs; rw [← List.map_id ys.toList]
    refine List.map_congr_left fun v hv => ?_
    obtain ⟨j, hj, e⟩ := List.getElem_of_mem hv
    obtain ⟨T, e1, _⟩ := key j (by omega)
    rw [List.getElem?_eq_getElem hj, e] at e1
    injection e1 with e1
    subst e1
    rfl
  · intro k T p h1 h2
    have hk : k < 9 := by
      have := (List.getElem?_eq_some_iff.mp h2).1
      rw [spelt_len] at this; exact this
    obtain ⟨T', e1, n1, p1⟩ := key k hk
    rw [List.getElem?_map, e1] at h1
    have h1' : T' = T := by simpa using h1
    subst h1'
    rw [spelt_get hk] at h2
    injection h2 with h2
    subst h2
    exact ⟨n1, p1⟩
def textOf (r0 r1 r2 : List Nat) (p : List Nat × List Nat) : List Nat := r0 ++ p.1 ++ r1 ++ p.2 ++ r2
theorem kinds_mem {x e : List Nat} (h : e ∈ kindsOf x) : e = [10] ∨ e = [13] ∨ e = [13, 10] := by
  unfold kindsOf at h
  split at h
  · split at h
    · simp at h; rcases h with h | h | h <;> simp [h]
    · simp at h; rcases h with h | h | h <;> simp [h]
  · simp at h; rcases h with h | h | h <;> simp [h]
theorem kinds_getD {x : List Nat} {i : Nat} (h : i < 3) : (kindsOf x).getD i [] ∈ kindsOf x := by
  rw [List.getD_eq_getElem?_getD, List.getElem?_eq_getElem (by rw [kinds_len]; exact h)]
  exact List.getElem_mem _
theorem spelt_mem {x y : List Nat} {p : List Nat × List Nat} (h : p ∈ spelt (kindsOf x) (kindsOf y)) : p.1 ∈ kindsOf x ∧ p.2 ∈ kindsOf y := by
  unfold spelt at h
  obtain ⟨k, hk, rfl⟩ := List.mem_map.mp h
  rw [List.mem_range] at hk
  exact ⟨kinds_getD (by omega), kinds_getD (by omega)⟩
theorem end_small {x e : List Nat} (h : e ∈ kindsOf x) : e.length ≤ 2 := by
  rcases kinds_mem h with rfl | rfl | rfl <;> decide
theorem list_same {h : Heap} {A : Addr} {xs ys : Array Value} (x : h.IsList A xs) (y : h.IsList A ys) : xs = ys := by
  obtain ⟨o, ho, _, n, hd⟩ := x
  obtain ⟨o', ho', _, n', hd'⟩ := y
  rw [ho] at ho'
  injection ho' with e
  subst e
  rw [hd] at hd'
  injection hd'
theorem pair_same {h : Heap} {T : Addr} {a b c d : List Nat} (x : PairAt h T a b) (y : PairAt h T c d) : a = c ∧ b = d := by
  obtain ⟨t0, t1, x⟩ := x
  obtain ⟨u0, u1, y⟩ := y
  have e := congrArg Array.toList (list_same x y)
  injection e with e1 e2
  injection e2 with e2 _
  injection e1 with e1 _
  injection e2 with e2 _
  exact ⟨sL_inj e1, sL_inj e2⟩
/-- a list that goes through the pairs -/
theorem arl_of {kd : Nat} : ∀ {ys : List Value} {l : List (List Nat)}, ys.length = l.length → (∀ (j : Nat) x, l[j]? = some x → ∃ u, ys[j]? = some (tv kd (x, u))) → ArL kd ys l
  | [], [], _, _ => ArL.nil
  | y :: ys, x :: l, hl, h => by
    obtain ⟨u, hu⟩ := h 0 x rfl
    have hu' : y = tv kd (x, u) := by simpa using hu
    subst hu'
    obtain ⟨ps, e1, e2⟩ := arl_of (ys := ys) (l := l) (by simpa using hl) fun j z hz => h (j + 1) z hz
    exact ⟨(x, u) :: ps, by rw [e1]; rfl, by rw [← e2]; rfl⟩
theorem over_pairs {h : Heap} {L : Addr} {Ts : List Addr} {l : List (List Nat × List Nat)} {kd : Nat} {g : List Nat × List Nat → List Nat} {vs : List Value} {ys : Array Value} (hTs : Ts.length = l.length)
    (gTs : ∀ (k : Nat) T p, Ts[k]? = some T → l[k]? = some p → T ∉ own5 L ∧ PairAt h T p.1 p.2) (hlen : vs.length = (Ts.map Value.ref).toArray.size) (hP : ∀ (j : Nat) (v : Value), vs[j]? = some v → (Ts.map Value.ref).toArray[j]? = some v)
    (hF : Paired (fun v y => ∃ T e0 e1 u, v = .ref T ∧ PairAt h T e0 e1 ∧ y = tv kd (g (e0, e1), u)) vs ys.toList) : ArL kd ys.toList (l.map g) := by
  have hn : vs.length = l.length := by rw [hlen]; simpa using hTs
  refine arl_of (by rw [← hF.length, hn]; simp) fun j x hx => ?_
  rw [List.getElem?_map] at hx
  obtain ⟨p, hp, rfl⟩ := Option.map_eq_some_iff.mp hx
  have hj : j < l.length := (List.getElem?_eq_some_iff.mp hp).1
  obtain ⟨v, y, hv, hy, T, e0, e1, u, rfl, pa, rfl⟩ := paired_at hF hn hP hj
  have hT : Ts[j]? = some T := by
    have hj' : j < Ts.length := by omega
    have h1 := hv
    simp only [List.getElem?_toArray, List.getElem?_map, List.getElem?_eq_getElem hj', Option.map_some, Option.some.injEq, Value.ref.injEq] at h1
    rw [List.getElem?_eq_getElem hj', h1]
  obtain ⟨_, pb⟩ := gTs j T p hT hp
  obtain ⟨q1, q2⟩ := pair_same pa pb
  subst q1 q2
  exact ⟨u, hy⟩
theorem ref_at {Ts : List Addr} {i : Nat} {v : Value} (hv : (Ts.map Value.ref).toArray[i]? = some v) : ∃ T, v = .ref T ∧ Ts[i]? = some T := by
  simp only [List.getElem?_toArray, List.getElem?_map] at hv
  obtain ⟨T, h1, h2⟩ := Option.map_eq_some_iff.mp hv
  exact ⟨T, h2.symm, h1⟩
theorem pair_at {h : Heap} {L : Addr} {Ts : List Addr} {l : List (List Nat × List Nat)} {i : Nat} {T : Addr} (hTs : Ts.length = l.length) (gTs : ∀ (k : Nat) T p, Ts[k]? = some T → l[k]? = some p → T ∉ own5 L ∧ PairAt h T p.1 p.2) (hT : Ts[i]? = some T) :
    ∃ p, p ∈ l ∧ l[i]? = some p ∧ T ∉ own5 L ∧ PairAt h T p.1 p.2 := by
  have hi : i < l.length := by rw [← hTs]; exact (List.getElem?_eq_some_iff.mp hT).1
  obtain ⟨n, q⟩ := gTs i T l[i] hT (List.getElem?_eq_getElem hi)
  exact ⟨l[i], List.getElem_mem _, List.getElem?_eq_getElem hi, n, q⟩
def Small (x : List Nat) : Prop := x.length ≤ 13 ∧ ∀ c ∈ x, c < 256
theorem end_lt {x e : List Nat} (h : e ∈ kindsOf x) : ∀ c ∈ e, c < 256 := by
  rcases kinds_mem h with rfl | rfl | rfl <;> decide
theorem text_ok {r0 r1 r2 : List Nat} (R : Rows3 r0 r1 r2) {x : List Nat} (h : x ∈ (spelt (kindsOf r1) (kindsOf r2)).map (textOf r0 r1 r2)) : Small x := by
  obtain ⟨p, hp, rfl⟩ := List.mem_map.mp h
  obtain ⟨h1, h2⟩ := spelt_mem hp
  have q1 := end_small h1
  have q2 := end_small h2
  have q3 := R.ok0.2
  have q4 := R.ok1.2
  have q5 := R.ok2.2
  refine ⟨by unfold textOf; simp only [List.length_append]; omega, fun c hc => ?_⟩
  unfold textOf at hc
  simp only [List.mem_append] at hc
  rcases hc with (((hc | hc) | hc) | hc) | hc
  · exact (R.ok0.1 c hc).2.2
  · exact end_lt h1 c hc
  · exact (R.ok1.1 c hc).2.2
  · exact end_lt h2 c hc
  · exact (R.ok2.1 c hc).2.2
theorem quo_lt {x : List Nat} (h : ∀ c ∈ x, c < 256) : ∀ b, ∀ c ∈ quo b x, c < 256 := by
  induction x with
  | nil => intro b c hc; unfold quo at hc; cases hc
  | cons a x ih =>
    intro b c hc
    have hx : ∀ c ∈ x, c < 256 := fun c hc => h c (List.mem_cons_of_mem _ hc)
    unfold quo at hc
    split at hc
    · rcases List.mem_cons.mp hc with rfl | hc
      · omega
      · rcases List.mem_cons.mp hc with rfl | hc
        · omega
        · exact ih hx _ c hc
    · rcases List.mem_cons.mp hc with rfl | hc
      · exact h _ (List.mem_cons_self ..)
      · exact ih hx _ c hc
/-- a list that goes through texts -/
theorem over_texts {as : List Value} {l : List (List Nat)} {kd : Nat} {g : List Nat → List Nat} {vs : List Value} {ys : Array Value} (a : ArL 0 as l) (hlen : vs.length = as.toArray.size) (hP : ∀ (j : Nat) (v : Value), vs[j]? = some v → as.toArray[j]? = some v)
    (hF : Paired (fun v y => ∃ p u, v = tv 0 p ∧ y = tv kd (g p.1, u)) vs ys.toList) : ArL kd ys.toList (l.map g) := by
  have hn : vs.length = l.length := by rw [hlen, ← a.len]; simp
  refine arl_of (by rw [← hF.length, hn]; simp) fun j x hx => ?_
  rw [List.getElem?_map] at hx
  obtain ⟨z, hz, rfl⟩ := Option.map_eq_some_iff.mp hx
  have hj : j < l.length := (List.getElem?_eq_some_iff.mp hz).1
  obtain ⟨v, y, hv, hy, p, u, rfl, rfl⟩ := paired_at hF hn hP hj
  obtain ⟨t, ht⟩ := a.get hz
  simp only [List.getElem?_toArray] at hv
  rw [ht] at hv
  injection hv with hv
  have e : z = p.1 := by
    have := congrArg untv hv
    rw [untv_tv (.inl rfl), untv_tv (.inl rfl)] at this
    rw [← this]
  subst e
  exact ⟨u, hy⟩
theorem text_at {as : List Value} {l : List (List Nat)} (a : ArL 0 as l) {i : Nat} {v : Value} (hv : as.toArray[i]? = some v) : ∃ x t, v = tv 0 (x, t) ∧ x ∈ l ∧ l[i]? = some x := by
  obtain ⟨ps, rfl, rfl⟩ := a
  simp only [List.getElem?_toArray, List.getElem?_map] at hv
  obtain ⟨p, hp, rfl⟩ := Option.map_eq_some_iff.mp hv
  exact ⟨p.1, p.2, rfl, List.mem_map.mpr ⟨p, List.mem_of_getElem? hp, rfl⟩, by rw [List.getElem?_map, hp]; rfl⟩
section
variable {w : World} {A : Around} {E : Value → Shared → Prop} {s : Shared}
theorem isi_bytes {b : Array UInt8} {t : Tok} {Q : Value → Shared → Prop} (h : Q (.bool true) s) : wpAny (model PG w) A (call (.builtin "isinstance") [.bytes b t, .type "bytes"]) Q E s :=
  call_isinstance (isinstance_true (Tx := "bytes") F.isi_meta_bytes F.sub_bytes_bytes) ⟨rfl, h⟩
end
theorem octets_at {as : List Value} {l : List (List Nat)} (a : ArL 1 as l) {i : Nat} {v : Value} (hv : as.toArray[i]? = some v) : ∃ b t, v = .bytes b t := by
  obtain ⟨ps, rfl, _⟩ := a
  simp only [List.getElem?_toArray, List.getElem?_map] at hv
  obtain ⟨p, hp, rfl⟩ := Option.map_eq_some_iff.mp hv
  exact ⟨_, _, rfl⟩
/-- the ledger of all that a heap holds -/
theorem all_news {h₀ h : Heap} {L : Addr} {m : Str → Option Value} (F : Fr h₀ L h m) : ∃ N, News h₀ L h N ∧ ∀ (h' : Heap) (m' : Str → Option Value) (N' : List (Addr × Obj)), (∀ p ∈ N, p ∈ N') → Fr h₀ L h' m' → News h₀ L h' N' →
    ∀ b o, b ≠ L → h.get? b = some o → h'.get? b = some o := by
  let fp : List Addr := (List.range h.objs.size).filter fun b => b ≠ L
  have hLf : L ∉ fp := fun hm => by
    have := (List.mem_filter.mp hm).2
    simp at this
  refine ⟨ownOf h₀ fp h, news_ownOf hLf, fun h' m' N' hs F' N1 b o hb e => ?_⟩
  cases q : h₀.get? b with
  | some o' =>
    have e1 := F.keep _ _ q
    rw [e] at e1
    injection e1 with e1
    subst e1
    exact F'.keep _ _ q
  | none =>
    have hbf : b ∈ fp := List.mem_filter.mpr ⟨List.mem_range.mpr (Heap.lt_size e), by simpa using hb⟩
    exact (N1 _ (hs _ (mem_ownOf hbf q e))).1
theorem off_of {h h' : Heap} {L : Addr} (k : ∀ b o, b ≠ L → h.get? b = some o → h'.get? b = some o) : Off L h h' := fun b o hb e => k b o (by rintro rfl; exact hb (List.mem_cons_self ..)) e
section
variable {w : World} {A : Around} {E : Value → Shared → Prop} {s : Shared} {h₀ : Heap} {L : Addr} {m : Str → Option Value}
theorem mul_raw {l : Addr} {vs ws : List Value} {x : Int} {u : Tok} {Q : Value → Shared → Prop} (F : Fr h₀ L s.heap m) (hl : s.heap.IsList l vs.toArray) (hlo : -(2 ^ 63 : Int) ≤ x) (hhi : x < 2 ^ 63) (hsz : vs.length * x.toNat ≤ 256) (e : (List.replicate x.toNat vs).flatten = ws)
    (h : ∀ D h', Fr h₀ L h' m → (∀ b o, b ≠ L → s.heap.get? b = some o → h'.get? b = some o) → h'.get? D = some (W.listOf ws.toArray 0) → Q (.ref D) { s with heap := h' }) : wpAny (model PG w) A (binaryOp .Mult (.ref l) (.int x u)) Q E s := by
  obtain ⟨N, hN, k⟩ := all_news F
  refine KMa.mul F hN hl hlo hhi hsz e fun D h' F' N' _ => h D h' F' (k h' m _ (fun p hp => List.mem_cons_of_mem _ hp) F' N') (N' _ (List.Mem.head _)).1
end
def most : List Nat := List.replicate 8 255
theorem most_ints (t : Tok) : IntsAre (List.replicate (8 : Int).toNat [Value.int 255 t]).flatten (most.map fun (n : Nat) => (n : Int)) :=
  .cons _ _ (.cons _ _ (.cons _ _ (.cons _ _ (.cons _ _ (.cons _ _ (.cons _ _ (.cons _ _ .nil)))))))
theorem over_range {l : List (List Nat)} {kd n : Nat} {vs : List Value} {ys : Array Value} (hl : l.length = n) (hlen : vs.length = n) (hP : ∀ (j : Nat) (v : Value), vs[j]? = some v → j < n ∧ ∃ t, v = .int (j : Int) t)
    (hF : Paired (fun v y => ∃ (k : Nat) (t : Tok) (x : List Nat) (u : Tok), v = .int (k : Int) t ∧ l[k]? = some x ∧ y = tv kd (x, u)) vs ys.toList) : ArL kd ys.toList l := by
  refine arl_of (by rw [← hF.length, hlen, hl]) fun j x hx => ?_
  have hj : j < n := by rw [← hl]; exact (List.getElem?_eq_some_iff.mp hx).1
  obtain ⟨v, y, ⟨_, t', rfl⟩, hy, k, t, x', u, e, hx', rfl⟩ := paired_at hF hlen hP hj
  injection e with e _
  have e' : j = k := by omega
  subst e'
  rw [hx] at hx'
  injection hx' with hx'
  subst hx'
  exact ⟨u, hy⟩
open PySem.SeqAt in
theorem pair_eq {A : Around} {s : Shared} {T U : Addr} {a b c d : List Nat} (x : PairAt s.heap T a b) (y : PairAt s.heap U c d) (hne : T ≠ U) (hu : A.units < cLine) : EqAt A s (.ref T) (.ref U) (decide (a = c) && decide (b = d)) := by
  obtain ⟨t0, t1, x⟩ := x
  obtain ⟨u0, u1, y⟩ := y
  have key := RcAt.lists (e := fun j => if j = 0 then decide (a = c) else decide (b = d)) x y rfl hu (fun j h1 h2 => by
    have h1' : j < 2 := h1
    match j, h1' with
    | 0, _ => exact eqAt_sL
    | 1, _ => exact eqAt_sL)
  refine EqAt.of_refs hne ?_
  have e : (List.range (#[Value.str (sL a) t0, Value.str (sL b) t1] : Array Value).size).all (fun j => if j = 0 then decide (a = c) else decide (b = d)) = (decide (a = c) && decide (b = d)) := by
    show (List.range 2).all _ = _
    simp [List.range_succ]
  rw [e] at key
  exact key
section
variable {w : World} {A : Around} {E : Value → Shared → Prop} {s : Shared}
theorem getindex {l : Addr} {items : Array Value} {e : Nat} {pl : Sem Bool} {Q : Value × List Value → Shared → Prop} (hl : s.heap.get? l = some (W.listOf items e)) (h : Q (.builtin "list.index", [.ref l]) s) :
    wpAny (model PG w) A (getMethod (.ref l) "index" pl) Q E s :=
  getMethod_list_of PySem.F.slot_list_index PySem.F.type_list_index ⟨_, hl, rfl, e, rfl⟩ ⟨_, hl, rfl⟩ h
open PySem.SeqAt in
theorem index_c {l b : Addr} {Ts : List Addr} {e k : Nat} {ps : List (List Nat × List Nat)} {p : List Nat × List Nat} {Q : Value → Shared → Prop} (hl : s.heap.get? l = some (W.listOf (Ts.map Value.ref).toArray e)) (hTs : Ts.length = ps.length)
    (gTs : ∀ (k : Nat) T p, Ts[k]? = some T → ps[k]? = some p → PairAt s.heap T p.1 p.2) (hb : PairAt s.heap b p.1 p.2) (hbn : ∀ T ∈ Ts, T ≠ b) (hk : ps[k]? = some p) (hno : ∀ j, j < k → ps[j]? ≠ some p) (h9 : ps.length ≤ 9) (hu : A.units + 4 < cLine)
    (h : Q (.int k s.toks) { s with toks := s.toks + 1 }) : wpAny (model PG w) A (call (.builtin "list.index") [.ref l, .ref b]) Q E s := by
  have hk' : k < ps.length := (List.getElem?_eq_some_iff.mp hk).1
  have at_ : ∀ m, (hm : m < ps.length) → ∃ T, (Ts.map Value.ref).toArray[m]? = some (.ref T) ∧ T ∈ Ts ∧ PairAt s.heap T ps[m].1 ps[m].2 := by
    intro m hm
    have hm' : m < Ts.length := by omega
    refine ⟨Ts[m], by simp [hm'], List.getElem_mem _, gTs m _ _ (List.getElem?_eq_getElem hm') (List.getElem?_eq_getElem hm)⟩
  let ev : Value → Bool := fun y => @decide (∃ T, y = .ref T ∧ PairAt s.heap T p.1 p.2) (Classical.propDecidable _)
  have evT : ∀ T c d, PairAt s.heap T c d → ev (.ref T) = (decide (c = p.1) && decide (d = p.2)) := by
    intro T c d hT
    by_cases q : c = p.1 ∧ d = p.2
    · obtain ⟨rfl, rfl⟩ := q
      have : ev (.ref T) = true := @decide_eq_true _ (Classical.propDecidable _) ⟨T, rfl, hT⟩
      rw [this]; simp
    · have : ev (.ref T) = false := @decide_eq_false _ (Classical.propDecidable _) fun ⟨T', e', hT'⟩ => by
        injection e' with e'
        subst e'
        exact q (pair_same hT hT')
      rw [this]
      symm
      by_cases q1 : c = p.1
      · by_cases q2 : d = p.2
        · exact absurd ⟨q1, q2⟩ q
        · simp [q2]
      · simp [q1]
  have hsz : (Ts.map Value.ref).toArray.size = ps.length := by simpa using hTs
  refine call_meets PySem.F.slot_list_index ⟨_, hl, rfl⟩ PySem.F.entry_list_index (PySem.F.args_list_index_2 _ _)
    (list_indexAt l (Ts.map Value.ref).toArray e none #[] (.ref b) ev k (by omega) (by omega) ?_ ?_) ⟨hl, ?_, h⟩
  · obtain ⟨T, h1, h2, h3⟩ := at_ k hk'
    have e1 : ((Ts.map Value.ref).toArray[k]'(by omega)) = .ref T := by
      rw [Array.getElem?_eq_getElem (by omega)] at h1
      exact Option.some.inj h1
    rw [e1, evT T _ _ h3]
    rw [List.getElem?_eq_getElem hk'] at hk
    rw [Option.some.inj hk]
    simp
  · intro m hm hlt
    have hm' : m < ps.length := by omega
    obtain ⟨T, h1, h2, h3⟩ := at_ m hm'
    have e1 : ((Ts.map Value.ref).toArray[m]'(by omega)) = .ref T := by
      rw [Array.getElem?_eq_getElem (by omega)] at h1
      exact Option.some.inj h1
    rw [e1, evT T _ _ h3]
    have := hno m hlt
    rw [List.getElem?_eq_getElem hm'] at this
    by_cases q1 : ps[m].1 = p.1
    · by_cases q2 : ps[m].2 = p.2
      · exact absurd (congrArg some (Prod.ext q1 q2)) this
      · simp [q2]
    · simp [q1]
  · intro y hy
    obtain ⟨m, hm, rfl⟩ := Array.getElem_of_mem hy
    obtain ⟨T, h1, h2, h3⟩ := at_ m (by omega)
    have e1 : ((Ts.map Value.ref).toArray[m]'hm) = .ref T := by
      rw [Array.getElem?_eq_getElem hm] at h1
      exact Option.some.inj h1
    rw [e1, evT T _ _ h3]
    exact pair_eq h3 hb (hbn T h2) (by show A.units + _ < _; omega)
end
section
variable {w : World} {A : Around} {s : Shared} {env : Env} {h₀ : Heap} {m : Str → Option Value}
theorem for_of {E : Value → Shared → Prop} {Q : Flow → Shared → Prop} {x : Str} {px pos : Pos} {iter : Expr} {body : List Stmt} (_ : Fr h₀ env.locals s.heap m) (hx : env.kindOf x = some .local)
    (hp : (env.scope.kind == .class || (env.scope.kind == .module && env.locals != env.globals)) = false)
    (h : wpAny (model PG w) A (eval iter env) (fun xv s₁ => wpAny (model PG w) A (pyIter xv) (fun it s₂ => LoopAtV PG w A h₀ env x body Q E it s₂) E s₁) E s)
    (hs : ∀ x, foldedSetIterable iter env x = pure x := by intro _; rfl)
    (hE : PassesOwn (model PG w) A env E := by passes_own) : wpAny (model PG w) A (exec (.For (.Name x px) iter body [] pos) env) Q E s := For_invV h₀ hx hp h hs hE
def forget1 (a : Str) (u m : Str → Option Value) : Str → Option Value := fun z => if z = a then u z else m z
theorem forget1_self {a : Str} {m : Str → Option Value} : m = forget1 a m m := by
  funext z
  unfold forget1
  split <;> rfl
theorem forget1_of {a : Str} {m m' : Str → Option Value} (h : ∀ z, z ≠ a → m' z = m z) : m' = forget1 a m' m := by
  funext z
  unfold forget1
  by_cases h1 : z = a
  · rw [if_pos h1]
  · rw [if_neg h1]; exact h z h1
end
theorem bL_append (a b : List Nat) : bL a ++ bL b = bL (a ++ b) := by
  unfold bL
  simp
theorem bL_len (a : List Nat) : (bL a).size = a.length := by
  unfold bL
  simp
end Mine
end

section
set_option Elab.async false
set_option maxHeartbeats 400000
namespace Mine
def tailT : List Nat := [97, 10, 10, 13, 13, 46, 13]
def tailF : List Nat := [97, 13, 10, 13, 10, 13, 10, 13, 10, 46, 13, 10]
def tailQ : List Nat := [97, 13, 10, 13, 10, 13, 10, 13, 10, 46, 46, 13, 10]
theorem tailT_eq : PySem.Str.ofString "a\n\n\r\r.\r" = sL tailT := by decide +kernel
theorem tailF_eq : PySem.Str.ofString "a\r\n\r\n\r\n\r\n.\r\n" = sL tailF := by decide +kernel
def both : List Nat × List Nat := ([13, 10], [13, 10])
/-! the two orders of the three ends -/
def kA : List (List Nat) := [[10], [13, 10], [13]]
def kB : List (List Nat) := [[10], [13], [13, 10]]
theorem kinds_two (x : List Nat) : kindsOf x = kA ∨ kindsOf x = kB := by
  unfold kindsOf
  split
  · split
    · exact .inl rfl
    · exact .inr rfl
  · exact .inr rfl
theorem both_at (r1 r2 : List Nat) : ∃ k, k < 9 ∧ (spelt (kindsOf r1) (kindsOf r2))[k]? = some both ∧ ∀ j, j < k → (spelt (kindsOf r1) (kindsOf r2))[j]? ≠ some both := by
  rcases kinds_two r1 with h1 | h1 <;> rcases kinds_two r2 with h2 | h2 <;> rw [h1, h2]
  · exact ⟨4, by decide, by decide, by decide⟩
  · exact ⟨5, by decide, by decide, by decide⟩
  · exact ⟨7, by decide, by decide, by decide⟩
  · exact ⟨8, by decide, by decide, by decide⟩
theorem both_mem (r1 r2 : List Nat) : both ∈ spelt (kindsOf r1) (kindsOf r2) := by
  obtain ⟨k, _, h, _⟩ := both_at r1 r2
  exact List.mem_of_getElem? h
/-! the order -/
theorem lt_pre {x y : List Nat} (p : List Nat) (h : x < y) : p ++ x < p ++ y := by
  induction p with
  | nil => exact h
  | cons a p ih => rw [List.cons_append, List.cons_append, List.cons_lt_cons_iff]; exact .inr ⟨rfl, ih⟩
theorem lt_head {a b : Nat} {x y : List Nat} (h : a < b) : a :: x < b :: y := List.cons_lt_cons_iff.mpr (.inl h)
theorem lt_same {a : Nat} {x y : List Nat} (h : x < y) : a :: x < a :: y := List.cons_lt_cons_iff.mpr (.inr ⟨rfl, h⟩)
/-- two different ends, and behind each a text that begins with c -/
theorem ends_lt {c : Nat} {r X Y : List Nat} (h10 : c ≠ 10) {a b : Nat} (hab : a < b) (hb : b < 3) : (kindsOf (c :: r)).getD a [] ++ (c :: X) < (kindsOf (c :: r)).getD b [] ++ (c :: Y) := by
  have hc : (a = 0 ∧ b = 1) ∨ (a = 0 ∧ b = 2) ∨ (a = 1 ∧ b = 2) := by omega
  unfold kindsOf
  dsimp only
  by_cases h : 10 < c
  · rw [if_pos h]
    rcases hc with ⟨rfl, rfl⟩ | ⟨rfl, rfl⟩ | ⟨rfl, rfl⟩
    · exact lt_head (by decide)
    · exact lt_head (by decide)
    · exact lt_same (lt_head h)
  · rw [if_neg h]
    rcases hc with ⟨rfl, rfl⟩ | ⟨rfl, rfl⟩ | ⟨rfl, rfl⟩
    · exact lt_head (by decide)
    · exact lt_head (by decide)
    · exact lt_same (lt_head (by omega))
theorem ends_lt_nil {a b : Nat} (hab : a < b) (hb : b < 3) : (kindsOf []).getD a [] < (kindsOf []).getD b [] := by
  have hc : (a = 0 ∧ b = 1) ∨ (a = 0 ∧ b = 2) ∨ (a = 1 ∧ b = 2) := by omega
  rcases hc with ⟨rfl, rfl⟩ | ⟨rfl, rfl⟩ | ⟨rfl, rfl⟩ <;> decide
/-- nine texts in the order of the figures -/
theorem nine_up (f : List Nat → List Nat → List Nat) {r1 r2 : List Nat}
    (h1 : ∀ a b x y, a < b → b < 3 → x ∈ kindsOf r2 → y ∈ kindsOf r2 → f ((kindsOf r1).getD a []) x < f ((kindsOf r1).getD b []) y)
    (h2 : ∀ a b z, a < b → b < 3 → z ∈ kindsOf r1 → f z ((kindsOf r2).getD a []) < f z ((kindsOf r2).getD b [])) :
    ((spelt (kindsOf r1) (kindsOf r2)).map fun p => f p.1 p.2).Pairwise (· < ·) := by
  unfold spelt
  rw [List.map_map, List.pairwise_map]
  have key : ∀ i j, i < j → j < 9 → f ((kindsOf r1).getD (i / 3) []) ((kindsOf r2).getD (i % 3) []) < f ((kindsOf r1).getD (j / 3) []) ((kindsOf r2).getD (j % 3) []) := by
    intro i j hij hj
    rcases Nat.lt_or_ge (i / 3) (j / 3) with h | h
    · exact h1 _ _ _ _ h (by omega) (kinds_getD (by omega)) (kinds_getD (by omega))
    · have e : i / 3 = j / 3 := by omega
      rw [e]
      exact h2 _ _ _ (by omega) (by omega) (kinds_getD (by omega))
  have hr : (List.range 9).Pairwise (fun i j => i < j ∧ j < 9) := by decide
  exact hr.imp fun {i j} h => key i j h.1 h.2
theorem nine_len (f : List Nat → List Nat → List Nat) (a b : List (List Nat)) : ((spelt a b).map fun p => f p.1 p.2).length = 9 := by rw [List.length_map, spelt_len]
variable {r0 r1 r2 : List Nat}
theorem end_head {x e : List Nat} (h : e ∈ kindsOf x) : ∃ c e', e = c :: e' ∧ (c = 10 ∨ c = 13) := by
  rcases kinds_mem h with rfl | rfl | rfl
  · exact ⟨_, _, rfl, .inl rfl⟩
  · exact ⟨_, _, rfl, .inr rfl⟩
  · exact ⟨_, _, rfl, .inr rfl⟩
theorem rise_t (R : Rows3 r0 r1 r2) : Rising ((spelt (kindsOf r1) (kindsOf r2)).map (textOf r0 r1 r2)) [256] := by
  obtain ⟨c, r1', rfl⟩ : ∃ c r1', r1 = c :: r1' := by
    cases r1 with
    | nil => exact absurd rfl R.ne
    | cons c r => exact ⟨c, r, rfl⟩
  have hc10 := (R.ok1.1 c (List.mem_cons_self ..)).1
  have lo : ∀ t ∈ (spelt (kindsOf (c :: r1')) (kindsOf r2)).map (textOf r0 (c :: r1') r2), ∃ a t', t = a :: t' := by
    intro t ht
    obtain ⟨p, hp, rfl⟩ := List.mem_map.mp ht
    obtain ⟨a, e', he, _⟩ := end_head (spelt_mem hp).1
    cases h0 : r0 with
    | nil => exact ⟨a, _, by unfold textOf; rw [he]; rfl⟩
    | cons b r => exact ⟨b, _, by unfold textOf; rfl⟩
  refine ⟨by rw [List.length_map, spelt_len], ?_, ?_, ?_⟩
  · refine nine_up (fun e0 e1 => textOf r0 (c :: r1') r2 (e0, e1)) (fun a b x y hab hb _ _ => ?_) fun a b z hab hb _ => ?_
    · unfold textOf
      simp only [List.append_assoc]
      exact lt_pre r0 (ends_lt hc10 hab hb)
    · unfold textOf
      simp only [List.append_assoc]
      refine lt_pre r0 (lt_pre z (lt_pre (c :: r1') ?_))
      cases h2 : r2 with
      | nil => rw [List.append_nil, List.append_nil]; exact ends_lt_nil hab hb
      | cons d r =>
        refine ends_lt ?_ hab hb
        exact (R.ok2.1 d (by rw [h2]; exact List.mem_cons_self ..)).1
  · intro t ht
    obtain ⟨a, t', rfl⟩ := lo t ht
    exact List.nil_lt_cons ..
  · intro t ht
    obtain ⟨a, t', rfl⟩ := lo t ht
    exact lt_head ((text_ok R ht).2 a (List.mem_cons_self ..))
/-! what _quote_periods makes of them -/
theorem quo_end {x e W : List Nat} (h : e ∈ kindsOf x) (b : Bool) : quo b (e ++ W) = e ++ quo (decide (e ≠ [13])) W := by
  rcases kinds_mem h with rfl | rfl | rfl
  · show quo b (10 :: W) = 10 :: quo true W
    rw [quo, if_neg (by simp)]; rfl
  · show quo b (13 :: W) = 13 :: quo false W
    rw [quo, if_neg (by simp)]; rfl
  · show quo b (13 :: 10 :: W) = 13 :: 10 :: quo true W
    rw [quo, if_neg (by simp), quo, if_neg (by simp)]; rfl
theorem quo_row {r Z : List Nat} (h : Plain r) (hZ : quo true Z = quo false Z) : quo true (r ++ Z) = dbl r ++ quo false Z := by
  cases r with
  | nil => show quo true Z = quo false Z; exact hZ
  | cons c r => exact quo_plain_true h (by simp) Z
theorem quo_behind {x e r Z : List Nat} (h : Plain r) (hZ : quo true Z = quo false Z) (_ : e ∈ kindsOf x) : quo (decide (e ≠ [13])) (r ++ Z) = behind e r ++ quo false Z := by
  unfold behind
  by_cases q : e = [13]
  · rw [if_pos q]
    have : decide (e ≠ [13]) = false := by simp [q]
    rw [this]
    exact quo_plain_false h Z
  · rw [if_neg q]
    have : decide (e ≠ [13]) = true := by simp [q]
    rw [this]
    exact quo_row h hZ
theorem quo_both_nil : quo true [] = quo false [] := rfl
theorem quo_any {x e W : List Nat} (h : e ∈ kindsOf x) : quo true (e ++ W) = quo false (e ++ W) := by rw [quo_end h, quo_end h]
theorem quo_all (R : Rows3 r0 r1 r2) {p : List Nat × List Nat} (h1 : p.1 ∈ kindsOf r1) (h2 : p.2 ∈ kindsOf r2) {Z : List Nat} (hZ : quo true Z = quo false Z) : quo true (textOf r0 r1 r2 p ++ Z) = dueOf r0 r1 r2 p.1 p.2 ++ quo false Z := by
  unfold textOf dueOf
  simp only [List.append_assoc]
  rw [quo_row R.ok0.1 (quo_any h1), quo_end h1, quo_behind R.ok1.1 (quo_any h2) h1, quo_end h2, quo_behind R.ok2.1 hZ h2]
theorem quo_due (R : Rows3 r0 r1 r2) {p : List Nat × List Nat} (hp : p ∈ spelt (kindsOf r1) (kindsOf r2)) : quo true (textOf r0 r1 r2 p) = dueOf r0 r1 r2 p.1 p.2 := by
  obtain ⟨h1, h2⟩ := spelt_mem hp
  have := quo_all R h1 h2 quo_both_nil
  rw [List.append_nil] at this
  rw [this]
  show _ ++ [] = _
  rw [List.append_nil]
theorem quo_fix (R : Rows3 r0 r1 r2) : quo true (textOf r0 r1 r2 both ++ tailF) = dueOf r0 r1 r2 [13, 10] [13, 10] ++ tailQ := by
  obtain ⟨h1, h2⟩ := spelt_mem (both_mem r1 r2)
  exact quo_all R h1 h2 (Z := tailF) (by decide)
/-! what _fix_eols makes of them -/
theorem fix_end {x e W : List Nat} (h : e ∈ kindsOf x) (hW : ∀ ys, W ≠ 10 :: ys) : fix (e ++ W) = [13, 10] ++ fix W := by
  rcases kinds_mem h with rfl | rfl | rfl
  · exact fix_lf W
  · exact fix_cr hW
  · exact fix_crlf W
theorem not_lf {r W : List Nat} (h : Plain r) (hW : ∀ ys, W ≠ 10 :: ys) : ∀ ys, r ++ W ≠ 10 :: ys := by
  intro ys e
  cases r with
  | nil => exact hW ys e
  | cons c r =>
    rw [List.cons_append] at e
    injection e with e _
    exact (h c (List.mem_cons_self ..)).1 e
theorem not_lf' {r W : List Nat} (h : Plain r) (hne : r ≠ []) : ∀ ys, r ++ W ≠ 10 :: ys := by
  intro ys e
  cases r with
  | nil => exact hne rfl
  | cons c r =>
    rw [List.cons_append] at e
    injection e with e _
    exact (h c (List.mem_cons_self ..)).1 e
theorem fix_tail : fix tailT = tailF := by
  unfold tailT
  rw [fix_other _ (by decide) (by decide), fix_lf, fix_lf, fix_cr (by intro ys e; injection e with e _; cases e), fix_cr (by intro ys e; injection e with e _; cases e), fix_other _ (by decide) (by decide), fix_cr (by intro ys e; cases e), fix]
  rfl
theorem fix_text (R : Rows3 r0 r1 r2) {p : List Nat × List Nat} (hp : p ∈ spelt (kindsOf r1) (kindsOf r2)) : fix (textOf r0 r1 r2 p ++ tailT) = textOf r0 r1 r2 both ++ tailF := by
  obtain ⟨h1, h2⟩ := spelt_mem hp
  unfold textOf both
  simp only [List.append_assoc]
  rw [fix_plain R.ok0.1, fix_end h1 (not_lf' R.ok1.1 R.ne), fix_plain R.ok1.1, fix_end h2 (not_lf R.ok2.1 (by unfold tailT; intro ys e; injection e with e _; cases e)), fix_plain R.ok2.1, fix_tail]
/-! the order of what is sent -/
theorem behind_head {e r : List Nat} {c : Nat} : ∃ X, behind e (c :: r) = c :: X := by
  unfold behind
  split
  · exact ⟨_, rfl⟩
  · unfold dbl
    split
    · rename_i e'; injection e' with e1 _; exact ⟨_, by rw [e1]⟩
    · exact ⟨_, rfl⟩
theorem under_most {p l : List Nat} {c n : Nat} (hp : ∀ x ∈ p, x < 256) (hc : c < 255) (hn : p.length < n) : p ++ c :: l < List.replicate n 255 := by
  induction p generalizing n with
  | nil =>
    obtain ⟨m, rfl⟩ : ∃ m, n = m + 1 := ⟨n - 1, by simp at hn; omega⟩
    rw [List.replicate_succ]
    exact lt_head hc
  | cons a p ih =>
    obtain ⟨m, rfl⟩ : ∃ m, n = m + 1 := ⟨n - 1, by simp at hn; omega⟩
    rw [List.replicate_succ, List.cons_append]
    have ha := hp a (List.mem_cons_self ..)
    rcases Nat.lt_or_ge a 255 with h | h
    · exact lt_head h
    · have : a = 255 := by omega
      subst this
      exact lt_same (ih (fun x hx => hp x (List.mem_cons_of_mem _ hx)) (by simpa using hn))
theorem rise_s (R : Rows3 r0 r1 r2) : Rising (((spelt (kindsOf r1) (kindsOf r2)).map (textOf r0 r1 r2)).map (quo true)) most := by
  have e : ((spelt (kindsOf r1) (kindsOf r2)).map (textOf r0 r1 r2)).map (quo true) = (spelt (kindsOf r1) (kindsOf r2)).map fun p => dueOf r0 r1 r2 p.1 p.2 := by
    rw [List.map_map]
    exact List.map_congr_left fun p hp => quo_due R hp
  rw [e]
  obtain ⟨c, r1', hr1⟩ : ∃ c r1', r1 = c :: r1' := by
    cases h : r1 with
    | nil => exact absurd h R.ne
    | cons c r => exact ⟨c, r, rfl⟩
  have hc10 := (R.ok1.1 c (by rw [hr1]; exact List.mem_cons_self ..)).1
  have form : ∀ t ∈ (spelt (kindsOf r1) (kindsOf r2)).map (fun p => dueOf r0 r1 r2 p.1 p.2), ∃ a l, t = dbl r0 ++ a :: l ∧ (a = 10 ∨ a = 13) ∧ ∀ x ∈ t, x < 256 := by
    intro t ht
    obtain ⟨p, hp, rfl⟩ := List.mem_map.mp ht
    obtain ⟨a, e', he, ha⟩ := end_head (spelt_mem hp).1
    refine ⟨a, e' ++ behind p.1 r1 ++ p.2 ++ behind p.2 r2, ?_, ha, ?_⟩
    · unfold dueOf
      rw [he]
      simp only [List.append_assoc, List.cons_append]
    · show ∀ x ∈ dueOf r0 r1 r2 p.1 p.2, x < 256
      rw [← quo_due R hp]
      exact quo_lt (text_ok R (List.mem_map.mpr ⟨p, hp, rfl⟩)).2 true
  refine ⟨by rw [List.length_map, spelt_len], ?_, ?_, ?_⟩
  · refine nine_up (fun e0 e1 => dueOf r0 r1 r2 e0 e1) (fun a b x y hab hb _ _ => ?_) fun a b z hab hb _ => ?_
    · unfold dueOf
      simp only [List.append_assoc]
      refine lt_pre _ ?_
      rw [hr1]
      obtain ⟨X, hX⟩ := behind_head (e := (kindsOf (c :: r1')).getD a []) (r := r1') (c := c)
      obtain ⟨Y, hY⟩ := behind_head (e := (kindsOf (c :: r1')).getD b []) (r := r1') (c := c)
      rw [hX, hY, List.cons_append, List.cons_append]
      exact ends_lt hc10 hab hb
    · unfold dueOf
      simp only [List.append_assoc]
      refine lt_pre _ (lt_pre _ (lt_pre _ ?_))
      cases h2 : r2 with
      | nil =>
        have hb0 : ∀ e, behind e [] = [] := fun e => by unfold behind; split <;> rfl
        rw [hb0, hb0, List.append_nil, List.append_nil]
        exact ends_lt_nil hab hb
      | cons d r =>
        obtain ⟨X, hX⟩ := behind_head (e := (kindsOf (d :: r)).getD a []) (r := r) (c := d)
        obtain ⟨Y, hY⟩ := behind_head (e := (kindsOf (d :: r)).getD b []) (r := r) (c := d)
        rw [hX, hY]
        refine ends_lt ?_ hab hb
        exact (R.ok2.1 d (by rw [h2]; exact List.mem_cons_self ..)).1
  · intro t ht
    obtain ⟨a, l, rfl, _, _⟩ := form t ht
    cases dbl r0 with
    | nil => exact List.nil_lt_cons ..
    | cons b p => exact List.nil_lt_cons ..
  · intro t ht
    obtain ⟨a, l, rfl, ha, hlt⟩ := form t ht
    have h1 := dbl_len r0
    have h2 := R.ok0.2
    exact under_most (fun x hx => hlt x (List.mem_append_left _ hx)) (by omega) (by omega)
end Mine
end

section
open PySem PySem.W PyProof.Rows PySem.Calls
set_option Elab.async false
set_option maxRecDepth 100000
set_option maxHeartbeats 8000000
namespace Mine
theorem law_t : PySem.Challenge.rw_rs0035_01.Holds := Mine.hd (by
  k_go0
  all_goals
    (rename Fr _ _ _ _ => F)
    (rename News _ _ _ _ => N)
    (rename Heap.IsList _ _ _ => hL)
    (rename IntsAre _ _ => hI)
    (rename ¬ _ < _ => hlen)
    (rename Frag.In _ _ => KX)
    (rename Top _ _ _ _ _ _ => T)
    have H : Env0 _ _ _ _ _ := ⟨KX, T⟩
    rename CellsAre _ _ _ => Y0
    clear Y0
    (rename Obj.data _ = Data.cell (bindC _ _ _ (Str.ofString "most")) => d4)
    (rename Obj.data _ = Data.cell (bindC _ _ _ (Str.ofString "sent")) => d3)
    (rename Obj.data _ = Data.cell (bindC _ _ _ (Str.ofString "kinds")) => d2)
    (rename Obj.data _ = Data.cell (bindC _ _ _ (Str.ofString "rows")) => d1)
    have C : Cx _ _ none none none none := ⟨⟨_, (N _ (List.Mem.tail _ (List.Mem.tail _ (List.Mem.tail _ (List.Mem.head _))))).1, d1⟩, ⟨_, (N _ (List.Mem.tail _ (List.Mem.tail _ (List.Mem.head _)))).1, d2⟩, ⟨_, (N _ (List.Mem.tail _ (List.Mem.head _))).1, d3⟩, ⟨_, (N _ (List.Mem.head _)).1, d4⟩⟩
    clear N d1 d2 d3 d4
    iterate 9 walk1
    refine rows_c (by exact H.keeps F.keep) (by exact isl_keeps hL F.keep) hI (by omega) (room_d rfl _ (by decide)) (room_u rfl _ (by decide)) fun r0 r1 r2 t0 t1 t2 AR h2 tk2 hk2 hAR hlR R3 => ?_
    have nAR := fresh_off F C hAR
    have F2 := hk2.fr F
    have C2 := C.keeps hk2
    have W2 : RwAt _ h2 AR r0 r1 r2 := ⟨nAR, t0, t1, t2, hlR⟩
    clear F C nAR hlR hAR hk2
    refine store_cell (c := _) rfl rfl rfl F2 C2.r (by exact Nat.lt_succ_self _) (m5r _) fun h3 F3 hv3 hs3 ho3 => ?_
    have C3 := C2.set_r hs3 hv3
    have W3 := W2.go ho3
    clear F2 C2 W2 hv3 hs3 ho3
    iterate 2 walk1
    refine comp_cO (cl := []) (fun v its => ∀ r t, v = .str (sL r) t → Are 0 its (kindsOf r)) (closureFor_none (by decide)) (by decide) rfl (by decide) (by decide) (fun _ => rfl) ?_
    obtain ⟨nR, t0, t1, t2, hlR⟩ := id W3
    iterate 1 walk1
    refine nm_cell (c := _) (v := .ref AR) rfl C3.r ?_ rfl rfl (by decide)
    iterate 5 walk1
    refine slice3_raw (lo := some 1) (hi := none) (st := none) hlR (.int _ _) .none .none (by decide) (by show 3 ≤ sizeLine; rw [sizeLine_eq]; omega) fun D4 h4 hk4 hD4 hl4 => ?_
    have e4 : slicePick #[.str (sL r0) t0, .str (sL r1) t1, .str (sL r2) t2] (some 1) none none = #[.str (sL r1) t1, .str (sL r2) t2] := slicePick_from _ 1 (by show 1 ≤ 3; omega)
    rw [e4] at hl4
    have hl4' : Heap.IsList _ D4 _ := ⟨_, hl4, rfl, 0, rfl⟩
    refine ⟨2, fun i v => (#[.str (sL r1) t1, .str (sL r2) t2] : Array Value)[i]? = some v, by exact iter_list (items := #[.str (sL r1) t1, .str (sL r2) t2]) rfl (by exact hl4'), by omega, ?_, ?_⟩
    · rintro Cc i v s₃ m₃ E' hv hns hm hk5
      obtain ⟨r, t, rfl, hr⟩ : ∃ r t, v = .str (sL r) t ∧ RowOk r := by
        match i, hv with
        | 0, hv => exact ⟨r1, t1, (Option.some.inj hv).symm, R3.ok1⟩
        | 1, hv => exact ⟨r2, t2, (Option.some.inj hv).symm, R3.ok2⟩
      have H5 := ((H.keeps F3.keep).keeps hk4).keeps hk5
      iterate 1 walk1
      refine nm_glob H5 (by k_is) ?_ rfl rfl rfl (by decide)
      iterate 2 walk1
      refine nm_loc hns hm ?_ rfl rfl (by decide)
      iterate 1 walk1
      refine ⟨H5.x, kinds_c (by exact H5) (by rw [sL_len]; have := hr.2; omega) (room_d rfl _ (by decide)) fun T6 h6 tk6 its hk6 hT6 hl6 ar6 => ?_⟩
      refine ⟨⟨T6, its, rfl, hT6, hl6, fun r' t' e => ?_⟩, pk rfl hk6⟩
      injection e with e _
      rw [← sL_inj e]; exact ar6
    · intro D5 h5 tk5 e5 ys vs5 hD5 hk5 hl5 hlen5 hP5 hF5
      obtain ⟨K0, K1, rfl, nK0, nK1, tl0, tl1⟩ := kinds_made hlen5 hP5 hF5
      have hk35 := Keeps.trans hk4 hk5
      have F4 := hk4.fr F3
      have C4 := C3.keeps hk4
      have F5 := hk5.fr F4
      have C5 := C4.keeps hk5
      have W5 := W3.go hk35.off
      have KW5 : KsAt _ h5 D5 (kindsOf r1) (kindsOf r2) := ⟨fresh_off F4 C4 hD5, K0, K1, ⟨_, hl5, rfl, _, rfl⟩, ⟨fresh_off F4 C4 nK0, tl0⟩, ⟨fresh_off F4 C4 nK1, tl1⟩⟩
      clear hk4 hD4 hl4 hl4' hk5 hl5 hD5 hP5 hF5 hlen5 tl0 tl1 nK0 nK1 hk35 F3 C3 W3 F4 C4 hlR nR e4
      dsimp only
      refine store_cell (c := _) rfl rfl rfl F5 C5.k (by exact Nat.lt_succ_of_lt (Nat.lt_succ_self _)) (m5k _) fun h6 F6 hv6 hs6 ho6 => ?_
      have C6 := C5.set_k hs6 hv6
      have W6 := W5.go ho6
      have KW6 := KW5.go ho6
      clear F5 C5 W5 KW5 hv6 hs6 ho6
      dsimp only
      iterate 1 walk1
      refine comp_assignO (cl := [(Str.ofString "kinds", _)]) (fun v its => ∀ (k : Nat) t, v = .int (k : Int) t → ∃ t0 t1, its = #[.str (sL ((kindsOf r1).getD (k / 3) [])) t0, .str (sL ((kindsOf r2).getD (k % 3) [])) t1]) rfl rfl (by decide) rfl (by decide) (by decide) rfl rfl (fun _ => rfl) ?_
      iterate 6 walk1
      refine call_range_1 ?_
      refine ⟨9, _, _, iter_range rfl (IsRange.new _ _ _ _ _ _ _) (by omega), by omega, F6.ns.keeps fun b o e => Heap.get?_push_of_some _ e, ?_, ?_⟩
      · rintro Cc i v s₃ m₃ E' ⟨hi9, t, rfl⟩ hns hm hk7
        have hk7' : Keeps h6 s₃.heap := fun b o e => hk7 b o (Heap.get?_push_of_some _ e)
        have H7 := (H.keeps F6.keep).keeps hk7'
        have C7 := C6.keeps hk7'
        obtain ⟨nK, K0, K1, hlK, ⟨_, tl0⟩, ⟨_, tl1⟩⟩ := KW6.go hk7'.off
        obtain ⟨as0, u0, hl0, hg0⟩ := tl_get tl0 (i := i / 3) (by rw [kinds_len]; omega)
        obtain ⟨as1, u1, hl1, hg1⟩ := tl_get tl1 (i := i % 3) (by rw [kinds_len]; omega)
        iterate 4 walk1
        refine nm_cell (c := _) (v := .ref D5) rfl C7.k ?_ rfl rfl (by decide)
        iterate 1 walk1
        refine item_tmp (x := .ref K0) (by exact hlK) (by omega) (by omega) rfl ?_
        iterate 1 walk1
        refine nm_loc hns hm ?_ rfl rfl (by decide)
        iterate 2 walk1
        have hfd : (i : Int).fdiv 3 = ((i / 3 : Nat) : Int) := by rw [Int.fdiv_eq_ediv_of_nonneg _ (by omega)]; omega
        rw [hfd]
        refine item_tmp (x := tv 0 ((kindsOf r1).getD (i / 3) [], u0)) (by exact hl0) (by omega) (by omega) (by rw [Int.toNat_natCast]; exact hg0) ?_
        iterate 3 walk1
        refine nm_cell (c := _) (v := .ref D5) rfl C7.k ?_ rfl rfl (by decide)
        iterate 1 walk1
        refine item_tmp (x := .ref K1) (by exact hlK) (by omega) (by omega) rfl ?_
        iterate 1 walk1
        refine nm_loc hns hm ?_ rfl rfl (by decide)
        iterate 2 walk1
        have hfm : (i : Int).fmod 3 = ((i % 3 : Nat) : Int) := by rw [Int.fmod_eq_emod_of_nonneg _ (by omega)]; omega
        rw [hfm]
        refine item_tmp (x := tv 0 ((kindsOf r2).getD (i % 3) [], u1)) (by exact hl1) (by omega) (by omega) (by rw [Int.toNat_natCast]; exact hg1) ?_
        iterate 1 walk1
        refine newlist_raw (by simp only [List.length_cons, List.length_nil]; rw [sizeLine_eq]; omega) fun D8 h8 hk8 hD8 hl8 => ?_
        refine ⟨⟨D8, _, rfl, hD8, ⟨_, hl8, rfl, 0, rfl⟩, fun k t' e => ?_⟩, pk rfl hk8⟩
        injection e with e _
        have e' : i = k := by omega
        subst e'
        exact ⟨u0, u1, rfl⟩
      · intro D9 h9 tk9 e9 ys vs9 hD9 hl9 hlen9 hP9 hF9 hns9 hk9
        obtain ⟨F10, C10, ho10, nf10⟩ := after_assign F6 C6 (fun b o e => Heap.get?_push_of_some _ e) hns9 hk9
        obtain ⟨Ts, lTs, rfl, gTs⟩ := spelled_made hlen9 hP9 hF9 nf10
        have S10 : SpAt _ h9 D9 (spelt (kindsOf r1) (kindsOf r2)) := ⟨nf10 _ hD9, Ts, e9, lTs, hl9, gTs⟩
        have W10 := W6.go ho10
        clear hD9 hl9 hlen9 hP9 hF9 hns9 hk9 ho10 nf10 gTs lTs F6 C6 W6 KW6
        dsimp only
        iterate 1 walk1
        obtain ⟨nS, Ts, eS, lTs, gS, gTs⟩ := id S10
        have hlS : Heap.IsList _ _ _ := ⟨_, gS, rfl, _, rfl⟩
        refine comp_assign (lv := True) (cl := [(Str.ofString "rows", _)]) (fun v y => ∃ T e0 e1 u, v = .ref T ∧ PairAt h9 T e0 e1 ∧ y = tv 0 (textOf r0 r1 r2 (e0, e1), u)) rfl rfl (by decide) rfl (by decide) (by decide) rfl rfl (fun _ => rfl) ?_
        iterate 1 walk1
        refine ⟨_, _, _, iter_list rfl hlS, by rw [List.size_toArray, List.length_map, lTs, spelt_len]; omega, F10.ns, ?_, ?_⟩
        · rintro Cc i v s₃ m₃ E' hv hns hm hk11
          obtain ⟨T, rfl, hT⟩ := ref_at hv
          obtain ⟨p, hp, _, nT, pa⟩ := pair_at lTs gTs hT
          obtain ⟨hp1, hp2⟩ := spelt_mem hp
          have q1 := end_small hp1
          have q2 := end_small hp2
          have q3 := R3.ok0.2
          have q4 := R3.ok1.2
          have q5 := R3.ok2.2
          obtain ⟨u0, u1, hlT⟩ := id pa
          have C11 := C10.keeps hk11
          have hlT' := isl_keeps hlT hk11
          obtain ⟨_, v0, v1, v2, hlW⟩ := W10.go hk11.off
          iterate 5 walk1
          refine nm_cell (c := _) (v := .ref AR) rfl C11.r ?_ rfl rfl (by decide)
          iterate 1 walk1
          refine item_tmp (x := .str (sL r0) v0) (by exact hlW) (by omega) (by omega) rfl ?_
          iterate 1 walk1
          refine nm_loc hns hm ?_ rfl rfl (by decide)
          iterate 1 walk1
          refine item_tmp (x := .str (sL p.1) u0) (by exact hlT') (by omega) (by omega) rfl ?_
          refine add_sL (by omega) fun _ _ => ?_
          iterate 1 walk1
          refine nm_cell (c := _) (v := .ref AR) rfl C11.r ?_ rfl rfl (by decide)
          iterate 1 walk1
          refine item_tmp (x := .str (sL r1) v1) (by exact hlW) (by omega) (by omega) rfl ?_
          refine add_sL (by simp only [List.length_append]; omega) fun _ _ => ?_
          iterate 1 walk1
          refine nm_loc hns hm ?_ rfl rfl (by decide)
          iterate 1 walk1
          refine item_tmp (x := .str (sL p.2) u1) (by exact hlT') (by omega) (by omega) rfl ?_
          refine add_sL (by simp only [List.length_append]; omega) fun _ _ => ?_
          iterate 1 walk1
          refine nm_cell (c := _) (v := .ref AR) rfl C11.r ?_ rfl rfl (by decide)
          iterate 1 walk1
          refine item_tmp (x := .str (sL r2) v2) (by exact hlW) (by omega) (by omega) rfl ?_
          refine add_sL (by simp only [List.length_append]; omega) fun _ _ => ?_
          exact ⟨⟨T, p.1, p.2, _, rfl, pa, rfl⟩, pk rfl (Keeps.refl _)⟩
        · intro D12 h12 tk12 e12 ys vs12 hD12 hl12 hlen12 hP12 hF12 hns12 hk12
          have ar12 := over_pairs lTs gTs hlen12 hP12 hF12
          obtain ⟨F13, C13, ho13, nf13⟩ := after_assign F10 C10 (Keeps.refl _) hns12 hk12
          have X13 : TLx _ 0 h12 D12 ((spelt (kindsOf r1) (kindsOf r2)).map (textOf r0 r1 r2)) := ⟨nf13 _ hD12, _, ⟨_, hl12, rfl, _, rfl⟩, ar12⟩
          have W13 := W10.go ho13
          have S13 := S10.go ho13
          clear hD12 hl12 hlen12 hP12 hF12 hns12 hk12 ho13 nf13 ar12 F10 C10 W10 S10 hlS gTs lTs gS
          dsimp only
          have hsm : ∀ x ∈ (spelt (kindsOf r1) (kindsOf r2)).map (textOf r0 r1 r2), Small x := fun x hx => text_ok R3 hx
          have rt := rise_t R3
          have rs := rise_s R3
          generalize htx : (spelt (kindsOf r1) (kindsOf r2)).map (textOf r0 r1 r2) = texts at X13 hsm rt rs
          have hdue : (spelt (kindsOf r1) (kindsOf r2)).map (fun p => dueOf r0 r1 r2 p.1 p.2) = texts.map (quo true) := by rw [← htx, List.map_map]; exact List.map_congr_left fun p hp => (quo_due R3 hp).symm
          iterate 2 walk1
          obtain ⟨nX, asX, hlX, arX⟩ := id X13
          refine comp_c (lv := True) (cl := []) (fun v y => ∃ p u, v = tv 0 p ∧ y = tv 1 (quo true p.1, u)) (closureFor_none (by decide)) (by decide) rfl (by decide) (by decide) (fun _ => rfl) ?_
          iterate 1 walk1
          refine ⟨_, _, iter_list rfl hlX, by rw [List.size_toArray, arX.len, ← htx, List.length_map, spelt_len]; omega, ?_, ?_⟩
          · rintro Cc i v s₃ m₃ E' hv hns hm hk14
            obtain ⟨x, t, rfl, hx, _⟩ := text_at arX hv
            obtain ⟨hx1, hx2⟩ := hsm x hx
            have H14 := (H.keeps F13.keep).keeps hk14
            iterate 1 walk1
            refine nm_glob H14 (by k_is) ?_ rfl rfl rfl (by decide)
            iterate 3 walk1
            refine nm_glob H14 (by k_is) ?_ rfl rfl rfl (by decide)
            iterate 2 walk1
            refine nm_loc hns hm ?_ rfl rfl (by decide)
            iterate 1 walk1
            refine ⟨H14.x, octets_c (x := x) (t := t) (by exact H14) (by rw [sL_len]; omega) hx2 (room_d rfl _ (by decide)) (room_u rfl _ (by decide)) fun h15 t15 tk15 hk15 => ?_⟩
            have H15 := H14.keeps hk15
            iterate 1 walk1
            refine ⟨H15.x, quoteper_c (x := x) (by exact H15) (by omega) hx2 (room_d rfl _ (by decide)) fun h16 t16 tk16 hk16 => ?_⟩
            exact ⟨⟨(x, t), _, rfl, rfl⟩, pk rfl (Keeps.trans hk15 hk16)⟩
          · intro D14 h14 tk14 e14 ys vs14 hD14 hk14 hl14 hlen14 hP14 hF14
            have ar14 := over_texts (kd := 1) (g := quo true) arX hlen14 hP14 hF14
            have F14 := hk14.fr F13
            have C14 := C13.keeps hk14
            have Y14 : TLx _ 1 h14 D14 (texts.map (quo true)) := ⟨fresh_off F13 C13 hD14, _, ⟨_, hl14, rfl, _, rfl⟩, ar14⟩
            have W14 := W13.go hk14.off
            have S14 := S13.go hk14.off
            have X14 := X13.go hk14.off
            clear hlX arX asX nX hD14 hl14 hlen14 hP14 hF14 hk14 ar14 F13 C13 W13 S13 X13
            dsimp only
            refine store_cell (c := _) rfl rfl rfl F14 C14.s (by exact Nat.lt_succ_of_lt (Nat.lt_succ_of_lt (Nat.lt_succ_self _))) (m5s _) fun h16 F16 hv16 hs16 ho16 => ?_
            have C16 := C14.set_s hs16 hv16
            have W16 := W14.go ho16
            have S16 := S14.go ho16
            have X16 := X14.go ho16
            have Y16 := Y14.go ho16
            clear F14 C14 W14 S14 X14 Y14 hv16 hs16 ho16
            dsimp only
            iterate 3 walk1
            obtain ⟨nY, asY, hlY, arY⟩ := id Y16
            refine comp_none (lv := True) (cl := []) (closureFor_none (by decide)) (by decide) rfl (by decide) (by decide) (fun _ => rfl) ?_
            refine nm_cell (c := _) (v := .ref D14) rfl C16.s ?_ rfl rfl (by decide)
            refine ⟨_, _, iter_list rfl (by exact hlY), by rw [List.size_toArray, arY.len, List.length_map, ← htx, List.length_map, spelt_len]; omega, ?_, ?_⟩
            · rintro Cc i v s₃ m₃ E' hv hns hm hk17
              obtain ⟨bv, tv', rfl⟩ := octets_at arY hv
              have H17 := (H.keeps F16.keep).keeps hk17
              iterate 3 walk1
              refine nm_boot H17 (by k_is) boot_isinstance (by decide) ?_ rfl rfl rfl rfl (by decide)
              iterate 2 walk1
              refine nm_loc hns hm ?_ rfl rfl (by decide)
              iterate 1 walk1
              refine nm_boot H17 (by k_is) boot_bytes (by decide) ?_ rfl rfl rfl rfl (by decide)
              iterate 1 walk1
              refine isi_bytes ?_
              iterate 1 walk1
              exact ⟨rfl, pk rfl (Keeps.refl _)⟩
            · intro D17 h17 tk17 e17 hD17 hk17 hl17
              clear hlY nY
              have F17 := hk17.fr F16
              have C17 := C16.keeps hk17
              have W17 := W16.go hk17.off
              have S17 := S16.go hk17.off
              have X17 := X16.go hk17.off
              have Y17 := Y16.go hk17.off
              clear F16 C16 W16 S16 X16 Y16
              dsimp only
              iterate 2 walk1
              refine newlist_raw (by show 0 ≤ _; exact Nat.zero_le _) fun D18 h18 hk18 hD18 hl18 => ?_
              refine ne_t (kd := 0) (ts := []) (.inl rfl) (by exact ⟨[], ⟨_, hk18 _ _ hl17, rfl, _, rfl⟩, ArL.nil⟩) (by exact ⟨[], ⟨_, hl18, rfl, _, rfl⟩, ArL.nil⟩) (room_u (n := 0) rfl (by decide)) ?_
              have F18 := hk18.fr F17
              have C18 := C17.keeps hk18
              have W18 := W17.go hk18.off
              have S18 := S17.go hk18.off
              have X18 := X17.go hk18.off
              have Y18 := Y17.go hk18.off
              clear F17 C17 W17 S17 X17 Y17 hl17 hl18 hD18 hD17 hk17 hk18
              dsimp only
              iterate 14 walk1
              refine order_c (by exact H.keeps F18.keep) (by exact X18.at_) rt (room_d rfl _ (by decide)) (room_u rfl _ (by decide)) fun h19 tk19 hk19 => ?_
              have F19 := hk19.fr F18
              have C19 := C18.keeps hk19
              have W19 := W18.go hk19.off
              have S19 := S18.go hk19.off
              have X19 := X18.go hk19.off
              have Y19 := Y18.go hk19.off
              clear F18 C18 W18 S18 X18 Y18 hk19
              dsimp only
              iterate 6 walk1
              have H19 := H.keeps F19.keep
              refine nm_boot H19 (by k_is) boot_bytes (by decide) ?_ rfl rfl rfl rfl (by decide)
              iterate 7 walk1
              refine newlist_raw (by show 1 ≤ sizeLine; rw [sizeLine_eq]; omega) fun D20 h20 hk20 hD20 hl20 => ?_
              have F20 := hk20.fr F19
              iterate 1 walk1
              refine mul_raw F20 (by exact ⟨_, hl20, rfl, 0, rfl⟩) (by omega) (by omega) (by show 1 * 8 ≤ 256; omega) rfl fun D21 h21 F21 hk21 hl21 => ?_
              iterate 1 walk1
              refine call_bytes_ints (by exact ⟨_, hl21, rfl, 0, rfl⟩) (most_ints _) (by decide) (by show 8 ≤ sizeLine; rw [sizeLine_eq]; omega) rfl fun h22 t22 tk22 hk22 => ?_
              rw [byteArr_eq]
              have ho22 := (hk20.off.trans (off_of hk21)).trans (Keeps.off hk22)
              have F22 := Keeps.fr hk22 F21
              have C22 := ((C19.keeps hk20).ext hk21).keeps hk22
              have W22 := W19.go ho22
              have S22 := S19.go ho22
              have X22 := X19.go ho22
              have Y22 := Y19.go ho22
              clear F19 C19 W19 S19 X19 Y19 F20 F21 hk20 hk21 hk22 ho22 hl20 hl21 hD20 H19
              dsimp only
              refine store_cell (c := _) rfl rfl rfl F22 C22.m (by exact Nat.lt_succ_of_lt (Nat.lt_succ_of_lt (Nat.lt_succ_of_lt (Nat.lt_succ_self _)))) (m5m _) fun h23 F23 hv23 hs23 ho23 => ?_
              have C23 := C22.set_m hs23 hv23
              have W23 := W22.go ho23
              have S23 := S22.go ho23
              have X23 := X22.go ho23
              have Y23 := Y22.go ho23
              clear F22 C22 W22 S22 X22 Y22 hv23 hs23 ho23
              dsimp only
              iterate 3 walk1
              have hsm1 : ∀ x ∈ texts.map (quo true), Oct 1 x := by
                intro x hx
                obtain ⟨z, hz, rfl⟩ := List.mem_map.mp hx
                exact .inr ⟨rfl, quo_lt (hsm z hz).2 true⟩
              have hmo : Oct 1 most := .inr ⟨rfl, by decide⟩
              refine comp_c (lv := True) (cl := [(Str.ofString "sent", _), (Str.ofString "most", _)]) (fun v y => ∃ (k : Nat) (t : Tok) (x : List Nat) (u : Tok), v = .int (k : Int) t ∧ (texts.map (quo true))[k]? = some x ∧ y = tv 1 (x, u)) rfl (by decide) rfl (by decide) (by decide) (fun _ => rfl) ?_
              have H23 := H.keeps F23.keep
              iterate 1 walk1
              refine nm_boot H23 (by k_is) boot_range (by decide) ?_ rfl rfl rfl rfl (by decide)
              iterate 4 walk1
              refine call_range_1 ?_
              have hl9 : texts.length = 9 := rt.nine
              refine ⟨9, _, iter_range rfl (IsRange.new _ _ _ _ _ _ _) (by omega), by omega, ?_, ?_⟩
              · rintro Cc i v s₃ m₃ E' ⟨hi9, t, rfl⟩ hns hm hk24
                have hk24' : Keeps h23 s₃.heap := fun b o e => hk24 b o (Heap.get?_push_of_some _ e)
                have H24 := H23.keeps hk24'
                have C24 := C23.keeps hk24'
                have Y24 := Y23.go hk24'.off
                obtain ⟨x, hx⟩ : ∃ x, (texts.map (quo true))[i]? = some x := ⟨_, List.getElem?_eq_getElem (by rw [List.length_map, hl9]; exact hi9)⟩
                iterate 1 walk1
                refine nm_glob H24 (by k_is) ?_ rfl rfl rfl (by decide)
                iterate 3 walk1
                refine nm_glob H24 (by k_is) ?_ rfl rfl rfl (by decide)
                iterate 2 walk1
                refine nm_cell (c := _) (v := .ref D14) rfl C24.s ?_ rfl rfl (by decide)
                iterate 3 walk1
                refine nm_cell (c := _) (v := .bytes (bL most) t22) rfl C24.m ?_ rfl rfl (by decide)
                iterate 1 walk1
                refine nm_loc hns hm ?_ rfl rfl (by decide)
                iterate 1 walk1
                refine ⟨H24.x, padded_t (kd := 1) (lo := ([], _)) (hi := (most, t22)) (by exact H24) (by exact Y24.at_) rs.nine (by omega) (room_d rfl _ (by decide)) fun A25 h25 tk25 e25 as25 hk25 hA25 hl25 ar25 => ?_⟩
                have H25 := H24.keeps hk25
                iterate 1 walk1
                refine ⟨H25.x, median_t (.inr rfl) (by exact H25) rs hsm1 hmo (by exact ⟨_, ⟨_, hl25, rfl, _, rfl⟩, ar25⟩) (by omega) hx (room_d rfl _ (by decide)) fun h26 t26 tk26 hk26 => ?_⟩
                exact ⟨⟨i, t, x, _, rfl, hx, rfl⟩, pk rfl (Keeps.trans hk25 hk26)⟩
              · intro D27 h27 tk27 e27 ys vs27 hD27 hk27 hl27 hlen27 hP27 hF27
                have ar27 := over_range (kd := 1) (by rw [List.length_map, hl9]) hlen27 hP27 hF27
                have hk27' : Keeps h23 h27 := fun b o e => hk27 b o (Heap.get?_push_of_some _ e)
                have F27 := hk27'.fr F23
                have C27 := C23.keeps hk27'
                have W27 := W23.go hk27'.off
                have S27 := S23.go hk27'.off
                have X27 := X23.go hk27'.off
                have Y27 := Y23.go hk27'.off
                have M27 : TL 1 h27 D27 (texts.map (quo true)) := ⟨_, ⟨_, hl27, rfl, _, rfl⟩, ar27⟩
                clear F23 C23 W23 S23 X23 Y23 H23 hk27 hk27' hl27 hlen27 hP27 hF27 ar27 hD27
                dsimp only
                obtain ⟨nS, Ts, eS, lTs, gS, gTs⟩ := id S27
                have hlS : Heap.IsList _ _ _ := ⟨_, gS, rfl, _, rfl⟩
                refine comp_c (lv := True) (cl := [(Str.ofString "rows", _)]) (fun v y => ∃ T e0 e1 u, v = .ref T ∧ PairAt h27 T e0 e1 ∧ y = tv 1 (dueOf r0 r1 r2 e0 e1, u)) rfl (by decide) rfl (by decide) (by decide) (fun _ => rfl) ?_
                iterate 1 walk1
                refine ⟨_, _, iter_list rfl (by exact hlS), by rw [List.size_toArray, List.length_map, lTs, spelt_len]; omega, ?_, ?_⟩
                · rintro Cc i v s₃ m₃ E' hv hns hm hk28
                  obtain ⟨T, rfl, hT⟩ := ref_at hv
                  obtain ⟨p, hp, _, nT, pa⟩ := pair_at lTs gTs hT
                  obtain ⟨hp1, hp2⟩ := spelt_mem hp
                  have q1 := end_small hp1
                  have q2 := end_small hp2
                  have q3 := R3.ok0.2
                  have q4 := R3.ok1.2
                  have q5 := R3.ok2.2
                  obtain ⟨u0, u1, hlT⟩ := id pa
                  have H28 := (H.keeps F27.keep).keeps hk28
                  have C28 := C27.keeps hk28
                  have hlT' := isl_keeps hlT hk28
                  obtain ⟨_, v0, v1, v2, hlW⟩ := W27.go hk28.off
                  iterate 1 walk1
                  refine nm_glob H28 (by k_is) ?_ rfl rfl rfl (by decide)
                  iterate 2 walk1
                  refine nm_cell (c := _) (v := .ref AR) rfl C28.r ?_ rfl rfl (by decide)
                  iterate 1 walk1
                  refine nm_loc hns hm ?_ rfl rfl (by decide)
                  iterate 1 walk1
                  refine ⟨H28.x, due_c (by exact H28) (by exact hlW) (by exact hlT') (by rw [sL_len]; omega) (by rw [sL_len]; omega) (by rw [sL_len]; omega) (by rw [sL_len]; omega) (by rw [sL_len]; omega) ?_ (room_d rfl _ (by decide)) (room_u rfl _ (by decide)) fun h29 t29 tk29 hk29 => ?_⟩
                  · rw [← quo_due R3 hp]
                    exact quo_lt (text_ok R3 (List.mem_map.mpr ⟨p, hp, rfl⟩)).2 true
                  · exact ⟨⟨T, p.1, p.2, _, rfl, pa, rfl⟩, pk rfl hk29⟩
                · intro D30 h30 tk30 e30 ys vs30 hD30 hk30 hl30 hlen30 hP30 hF30
                  have ar30 := over_pairs (kd := 1) (g := fun p => dueOf r0 r1 r2 p.1 p.2) lTs gTs hlen30 hP30 hF30
                  rw [hdue] at ar30
                  have F30 := hk30.fr F27
                  have C30 := C27.keeps hk30
                  have W30 := W27.go hk30.off
                  have S30 := S27.go hk30.off
                  have X30 := X27.go hk30.off
                  have Y30 := Y27.go hk30.off
                  dsimp only
                  refine ne_t (kd := 1) (.inr rfl) (by exact M27.keeps hk30) (by exact ⟨_, ⟨_, hl30, rfl, _, rfl⟩, ar30⟩) (room_u (n := 0) rfl (by decide)) ?_
                  clear F27 C27 W27 S27 X27 Y27 M27 hk30 hl30 hlen30 hP30 hF30 ar30 hD30 hlS gTs lTs nS gS
                  iterate 7 walk1
                  obtain ⟨nS, Ts, eS, lTs, gS, gTs⟩ := id S30
                  obtain ⟨kE, hkE9, hkE, hnoE⟩ := both_at r1 r2
                  refine getindex gS ?_
                  rw [crlf_eq]
                  iterate 8 walk1
                  refine newlist_raw (by show 2 ≤ sizeLine; rw [sizeLine_eq]; omega) fun D31 h31 hk31 hD31 hl31 => ?_
                  have F31 := hk31.fr F30
                  have C31 := C30.keeps hk31
                  have X31 := X30.go hk31.off
                  have Y31 := Y30.go hk31.off
                  have hbn : ∀ T ∈ Ts, T ≠ D31 := by
                    rintro T hT rfl
                    obtain ⟨m, hm, e⟩ := List.getElem_of_mem hT
                    obtain ⟨_, _, _, o, ho, _⟩ := gTs m T _ (by rw [List.getElem?_eq_getElem hm, e]) (List.getElem?_eq_getElem (by rw [← lTs]; exact hm))
                    rw [ho] at hD31; cases hD31
                  have S31 := S30.go hk31.off
                  iterate 1 walk1
                  refine index_c (k := kE) (p := both) (by exact hk31 _ _ gS) lTs (fun k T p h1 h2 => ?_) ?_ hbn hkE hnoE (by rw [spelt_len]; omega) (room_u (n := 4) rfl (by decide)) ?_
                  · obtain ⟨n1, u0, u1, l1⟩ := gTs k T p h1 h2
                    exact ⟨u0, u1, isl_keeps l1 hk31⟩
                  · exact ⟨_, _, _, hl31, rfl, _, rfl⟩
                  clear F30 C30 W30 S30 X30 Y30 hk31 hD31 hl31 hbn gTs gS nS lTs
                  dsimp only
                  refine store_loc rfl F31 C31 (fun h32 F32 C32 ho32 => ?_) rfl
                  have X32 := X31.go ho32
                  have Y32 := Y31.go ho32
                  clear F31 C31 X31 Y31 S31 ho32
                  dsimp only
                  iterate 20 walk1
                  refine P.chr_of_int (by decide) ?_
                  iterate 4 walk1
                  have hM : texts[kE]? = some (textOf r0 r1 r2 both) := by rw [← htx, List.getElem?_map, hkE]; rfl
                  have hC : (texts.map (quo true))[kE]? = some (quo true (textOf r0 r1 r2 both)) := by rw [List.getElem?_map, hM]; rfl
                  have H32 := H.keeps F32.keep
                  rw [empty_eq]
                  refine padded_t (kd := 0) (lo := ([], _)) (hi := ([256], _)) (by exact H32) (by exact X32.at_) rt.nine (by omega) (room_d rfl _ (by decide)) fun A33 h33 tk33 e33 as33 hk33 hA33 hl33 ar33 => ?_
                  have H33 := H32.keeps hk33
                  iterate 1 walk1
                  refine ⟨H33.x, medlow_t (.inl rfl) (by exact H33) rt (fun _ _ => .inl rfl) (.inl rfl) (by exact ⟨_, ⟨_, hl33, rfl, _, rfl⟩, ar33⟩) (by omega) hM (room_d rfl _ (by decide)) fun h34 t34 tk34 hk34 => ?_⟩
                  have F34 := (Keeps.trans hk33 hk34).fr F32
                  have C34 := C32.keeps (Keeps.trans hk33 hk34)
                  have X34 := X32.go (Keeps.trans hk33 hk34).off
                  have Y34 := Y32.go (Keeps.trans hk33 hk34).off
                  clear F32 C32 X32 Y32 H32 H33 hk33 hk34 hA33 hl33 ar33
                  dsimp only
                  refine store_loc rfl F34 C34 (fun h35 F35 C35 ho35 => ?_) rfl
                  have X35 := X34.go ho35
                  have Y35 := Y34.go ho35
                  clear F34 C34 X34 Y34 ho35
                  dsimp only
                  iterate 10 walk1
                  refine nm_cell (c := _) (v := .ref D14) rfl C35.s ?_ rfl rfl (by decide)
                  iterate 3 walk1
                  refine nm_cell (c := _) (v := .bytes (bL most) t22) rfl C35.m ?_ rfl rfl (by decide)
                  iterate 4 walk1
                  have H35 := H.keeps F35.keep
                  refine padded_t (kd := 1) (lo := ([], _)) (hi := (most, t22)) (by exact H35) (by exact Y35.at_) rs.nine (by omega) (room_d rfl _ (by decide)) fun A36 h36 tk36 e36 as36 hk36 hA36 hl36 ar36 => ?_
                  have H36 := H35.keeps hk36
                  iterate 1 walk1
                  refine ⟨H36.x, medhigh_t (.inr rfl) (by exact H36) rs hsm1 hmo (by exact ⟨_, ⟨_, hl36, rfl, _, rfl⟩, ar36⟩) (by omega) hC (room_d rfl _ (by decide)) fun h37 t37 tk37 hk37 => ?_⟩
                  have F37 := (Keeps.trans hk36 hk37).fr F35
                  have C37 := C35.keeps (Keeps.trans hk36 hk37)
                  have X37 := X35.go (Keeps.trans hk36 hk37).off
                  clear F35 C35 X35 Y35 H35 H36 hk36 hk37 hA36 hl36 ar36
                  dsimp only
                  refine store_loc rfl F37 C37 (fun h38 F38 C38 ho38 => ?_) rfl
                  have X38 := X37.go ho38
                  clear F37 C37 X37 ho38
                  dsimp only
                  iterate 1 walk1
                  obtain ⟨nX, asX, hlX, arX⟩ := id X38
                  refine for_of F38 rfl rfl ?_
                  iterate 1 walk1
                  refine loop_list (J := fun _ m => ∃ u, m = forget1 (Str.ofString "text") u _) rfl (by exact hlX) (fun e => nX (by rw [e]; exact List.mem_cons_self ..)) F38 News.nil ⟨_, forget1_self⟩ ?_ ?_
                  · rintro i v m₁ h tk own hv ⟨u, rfl⟩ F40 N40
                    obtain ⟨x, t, rfl, hx, _⟩ := text_at arX hv
                    obtain ⟨hx1, hx2⟩ := hsm x hx
                    obtain ⟨p, hp, hpx⟩ := List.mem_map.mp (show x ∈ (spelt (kindsOf r1) (kindsOf r2)).map (textOf r0 r1 r2) by rw [htx]; exact hx)
                    have hfx := fix_text R3 hp
                    rw [hpx] at hfx
                    have hqx := quo_fix R3
                    clear F38 C38 X38 hlX nX
                    rw [List.append_nil] at N40
                    dsimp only [forget1] at F40
                    have H40 := H.keeps F40.keep
                    iterate 10 walk1
                    rw [tailT_eq, tailF_eq]
                    have lt7 : tailT.length = 7 := rfl
                    have lf12 : tailF.length = 12 := rfl
                    have lq13 : tailQ.length = 13 := rfl
                    have hbo := text_ok R3 (List.mem_map.mpr ⟨both, both_mem r1 r2, rfl⟩)
                    have hbl := hbo.1
                    refine add_sL (x := x) (y := tailT) (by omega) fun _ _ => ?_
                    iterate 1 walk1
                    refine ⟨H40.x, fixeols_c (by exact H40) (by rw [List.length_append]; omega) (room_d rfl _ (by decide)) fun h41 t41 tk41 hk41 => ?_⟩
                    have F41 := hk41.fr F40
                    have N41 := hk41.news N40
                    have H41 := H40.keeps hk41
                    clear F40 N40 hk41
                    rw [hfx]
                    iterate 3 walk1
                    refine add_sL (x := textOf r0 r1 r2 both) (y := tailF) (by omega) fun _ _ => ?_
                    refine PyProof.Rows.ne_str ?_
                    rw [show (sL (textOf r0 r1 r2 both ++ tailF) != sL (textOf r0 r1 r2 both ++ tailF)) = false by simp]
                    iterate 17 walk1
                    refine add_sL (x := x) (y := tailT) (by omega) fun _ _ => ?_
                    iterate 1 walk1
                    refine ⟨H41.x, quotedata_c (by exact H41) (by rw [List.length_append]; omega) (room_d rfl _ (by decide)) fun h42 t42 tk42 hk42 => ?_⟩
                    have F42 := hk42.fr F41
                    have N42 := hk42.news N41
                    have H42 := H41.keeps hk42
                    clear F41 N41 hk42
                    have hqd := quo_due R3 (both_mem r1 r2)
                    have hlt := quo_lt hbo.2 true
                    have hln := quo_length (textOf r0 r1 r2 both) true
                    rw [hfx, hqx]
                    rw [hqd] at hlt hln
                    have hltQ : ∀ c ∈ dueOf r0 r1 r2 [13, 10] [13, 10] ++ tailQ, c < 256 := fun c hc => (List.mem_append.mp hc).elim (hlt c) (fun q => (show ∀ c ∈ tailQ, c < 256 by decide) c q)
                    iterate 1 walk1
                    refine ⟨H42.x, octets_c (by exact H42) (by rw [sL_len, List.length_append]; exact Nat.le_trans (Nat.add_le_add_right hln _) (by omega)) hltQ (room_d rfl _ (by decide)) (room_u rfl _ (by decide)) fun h43 t43 tk43 hk43 => ?_⟩
                    have F43 := hk43.fr F42
                    have N43 := hk43.news N42
                    clear F42 N42 hk43 H40 H41 H42
                    iterate 3 walk1
                    have e2 : (tv 1 (quo true (textOf r0 r1 r2 both), t37) : Value) = .bytes (bL (dueOf r0 r1 r2 [13, 10] [13, 10])) t37 := by rw [hqd]; rfl
                    rw [e2]
                    refine KBy.add_bytes (b := bL (dueOf r0 r1 r2 [13, 10] [13, 10])) (c := bL tailQ) (by rw [bL_len, bL_len]; exact Nat.le_trans (Nat.add_le_add_right hln _) (by omega)) fun _ _ => ?_
                    rw [bL_append]
                    refine PySem.W.ne_bytes ?_
                    rw [show ((bL (dueOf r0 r1 r2 [13, 10] [13, 10] ++ tailQ)).toList != (bL (dueOf r0 r1 r2 [13, 10] [13, 10] ++ tailQ)).toList) = false by simp]
                    iterate 3 walk1
                    dsimp only
                    refine wpAny_execs_nil ?_
                    refine InvEnd.intro F43 N43 (by rw [List.append_nil]; intro p hp; exact hp) ⟨_, forget1_of fun z h1 => ?_⟩
                    simp only [if_neg h1]
                    rw [← e2]
                    rfl
                  · rintro m₁ h tk ⟨u, rfl⟩ F40 N40
                    clear F38 C38 X38 hlX nX
                    dsimp only
                    iterate 3 walk1
                    w_strict (k_steps))
end Mine
end

theorem PySem.Challenge.cw_rs0035_01_holds : PySem.Challenge.rw_rs0035_01.Holds := by
  exact Mine.law_t
