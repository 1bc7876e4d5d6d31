import PyProof.Rows.All
import Wide.All
import OpenK.AllK
import Wide.FinOn
import Lean
import PySem.Challenge.RW_ny0252_01
open PySem PySem.W PyProof.Rows
set_option Elab.async false
section
namespace Mine
noncomputable def stmtsOf (l : List Nat) : List Stmt := l.filterMap (fun i => PySem.Challenge.pw_ny0252_01.main.body[i]?)
noncomputable def view : Program := { PySem.Challenge.pw_ny0252_01 with main := { PySem.Challenge.pw_ny0252_01.main with body := stmtsOf [0, 2, 3, 4, 6, 8, 9, 10, 11, 12, 13, 14, 15, 16, 17, 18, 19, 20, 21, 22, 23, 24, 25, 26, 27, 28, 29, 31, 32, 34, 35, 36, 37, 38, 39, 40, 41] } }
noncomputable def loose : List PySem.Str := [PySem.Str.ofString "tspecials", PySem.Str.ofString "_name_disallowed_re", PySem.Str.ofString "_value_disallowed_re", PySem.Str.ofString "_formatparam", PySem.Str.ofString "_filemode_table"]
local macro_rules | `(tactic| o_head $H) => `(tactic| (
   refine holds_open (q := Mine.view) (loose := Mine.loose) (Xt := fun s => xlAt Mine.view [] s && recOk [] s) (XP := XL Mine.view []) (Yf := Hook.obs $H) (Ya := Hook.val $H) (YP := Hook.says $H) (N := 1800) ?hl (Hook.of $H) (Hook.keeps $H) (fun s e => xl_of s (Bool.and_eq_true_iff.mp e).1) XL.keeps (by rfl) (by rfl) (by rfl) (fun s e => recFacts_of (Bool.and_eq_true_iff.mp e).2) (by rfl) (by first | assumption | decide +kernel) (by decide +kernel) ⟨rfl, rfl, rfl, rfl, rfl, by decide +kernel⟩ ?hw ?hc
   (case hl => (intro w; kernel_rfl))))
local macro_rules | `(tactic| o_law) => `(tactic| refine holds_law (by decide +kernel) fun said => ?_)
set_option maxRecDepth 100000 in
set_option maxHeartbeats 8000000 in
open_top hd for PySem.Challenge.rw_ny0252_01
end Mine
end
theorem Mine.top_off : True := by
  w_top off
  trivial
section
namespace Mine
theorem fillK : PySem.Challenge.rw_ny0252_01.Holds → Mine.hd.heap_1 = Mine.hd.heap_1 := by
  k_fill
  intro _; rfl
noncomputable abbrev PG : Program := PySem.Challenge.rw_ny0252_01.row.prog
abbrev TT (mean : ExcName → Option Value) (mg mb : PySem.Str → Option Value) (h : Heap) : Prop := Top Mine.view (looseW Mine.view Mine.loose) mean mg mb h
structure Room (A : Around) (n : Nat) : Prop where
  depth : A.depth + n ≤ 500
  units : A.units + 4 * n ≤ 900
  handled : A.handled = none
theorem Room.deeper {A : Around} {n : Nat} (R : Room A (n + 1)) (env : Env) : Room (A.deeper env) n :=
  ⟨by have := R.depth; show A.depth + 1 + n ≤ 500; omega, by have := R.units; show A.units + 3 + 4 * n ≤ 900; omega, R.handled⟩
theorem Room.in1 {A : Around} {n : Nat} (R : Room A (n + 1)) : Room A.in1 n :=
  ⟨by have := R.depth; show A.depth + n ≤ 500; omega, by have := R.units; show A.units + 1 + 4 * n ≤ 900; omega, R.handled⟩
theorem Room.less {A : Around} {n m : Nat} (R : Room A n) (h : m ≤ n) : Room A m :=
  ⟨by have := R.depth; omega, by have := R.units; omega, R.handled⟩
def Ret (s : Shared) (P : Value → Heap → Prop) : Value → Shared → Prop :=
  fun v s' => ∃ h' tk', s' = { s with heap := h', toks := tk' } ∧ s.heap.StaysIn h' ∧ P v h'
abbrev NoE : Value → Shared → Prop := fun _ _ => False
section
variable {prog : Program} {w : World} {A : Around} {s : Shared} {K : Frag} {E : Value → Shared → Prop} {Q : Value → Shared → Prop}
theorem call_pure {name qual : PySem.Str} {params : Arguments} {body : List Stmt} {scope : Scope} {dV kV doc pm cdv ct oc : Value} {an od : Option Addr} {osl : Array (Option Value)} {f : Addr} {vals : List Value} {kw : List (PySem.Str × Value)}
    (binds : List (PySem.Str × Value)) {n : Nat}
    (R : Room A n) (X : K.In s.heap) (hlim : s.heap.NoLimit)
    (ho : K.lookup f = some ⟨oc, od, .func (fnOf name qual params body scope dV kV doc pm an cdv ct), osl⟩) (hcd : codeIn K cdv qual = true)
    (hbind : BindsTo s (fnOf name qual params body scope dV kV doc pm an cdv ct) ⟨vals, kw⟩ binds) (hloc : ∀ y ∈ binds, scope.names.lookup y.1 = some .local)
    (h : ∀ L h₁ tk, Fr s.heap L h₁ (fun y => binds.reverse.lookup y) →
      wpAny (model prog w) (A.deeper (envOf qual scope L f cdv)) (execs body (envOf qual scope L f cdv))
        (fun fl s' => Q (match fl with | .ret v => v | _ => .none) s') NoE { s with heap := h₁, toks := tk })
    (hco : scope.isCoroutine = false := by rfl) (hgen : scope.isGenerator = false := by rfl) (hk : scope.kind = .function := by rfl)
    (hcell : ∀ x ∈ scope.names, x.2 ≠ .cell := by decide) : wpAny (model prog w) A (call (.ref f) vals kw) Q E s := by
  refine wpAny_call (codeAny_call_def (fd := fnOf name qual params body scope dV kV doc pm an cdv ct) (body := body) (binds := binds) (by have := R.depth; show A.depth < 1000; omega) (X _ _ ho) rfl hlim (codeRec_of X hcd) rfl hbind hcell hloc (fun h₁ hns hk₁ => ?_) hco hgen hk)
  exact wpAny_mono (h _ h₁ _ ⟨hns, hk₁, Nat.le_refl _⟩) (fun fl s' q => q) (fun _ _ x => x.elim)
theorem call_pureC {name qual : PySem.Str} {params : Arguments} {body : List Stmt} {scope : Scope} {dV kV doc pm cdv ct oc : Value} {an od : Option Addr} {osl : Array (Option Value)} {f : Addr} {vals : List Value} {kw : List (PySem.Str × Value)}
    (binds : List (PySem.Str × Value)) {n : Nat}
    (R : Room A n) (X : K.In s.heap) (hlim : s.heap.NoLimit)
    (ho : K.lookup f = some ⟨oc, od, .func (fnOf name qual params body scope dV kV doc pm an cdv ct), osl⟩) (hcd : codeIn K cdv qual = true)
    (hbind : BindsTo s (fnOf name qual params body scope dV kV doc pm an cdv ct) ⟨vals, kw⟩ binds)
    (hkind : ∀ n, ∀ x ∈ binds, scope.names.lookup x.1 = some .local ∨ (scope.names.lookup x.1 = some .cell ∧ ((cellsFrom n scope.names []).lookup x.1).isSome = true))
    (hnd : ((cellsFrom 0 scope.names []).map (·.1)).Nodup)
    (h : ∀ L h₁ tk cells, Fr s.heap L h₁ (bindL (envOfC qual scope L f cdv).kindOf binds fun _ => none) → News s.heap L h₁ cells →
      CellsAre (bindC (envOfC qual scope L f cdv).kindOf binds fun _ => none) (cellsFrom (L + 1) scope.names []) cells →
      wpAny (model prog w) (A.deeper (envOfC qual scope L f cdv)) (execs body (envOfC qual scope L f cdv))
        (fun fl s' => Q (match fl with | .ret v => v | _ => .none) s') NoE { s with heap := h₁, toks := tk })
    (hco : scope.isCoroutine = false := by rfl) (hgen : scope.isGenerator = false := by rfl) (hk : scope.kind = .function := by rfl) : wpAny (model prog w) A (call (.ref f) vals kw) Q E s := by
  refine wpAny_call (codeAny_call_function (fd := fnOf name qual params body scope dV kV doc pm an cdv ct) (by have := R.depth; show A.depth < 1000; omega) (X _ _ ho) rfl hco hgen rfl (codeRec_of X hcd) (hbind _ _ _ _ ?_))
  refine wpAny_newFunctionEnv_cells hk (hkind _) fun env' he s' x => ?_
  subst he
  refine ⟨hlim.keeps x.toInCall.keep, codeAny_func ?_⟩
  obtain ⟨h₁, tk, rfl, _⟩ := x.done
  have hk₁ := x.toInCall.keep
  obtain ⟨cells, NC, Y⟩ := Cl.news (h₀ := s.heap) (Nat.le_refl _) fun n c hm => ⟨x.cell n c (lookup_of_mem_nodup (cellsFrom_names scope.names 0 (s.heap.objs.size + 1) [] [] rfl ▸ hnd) hm), x.above n c hm⟩
  exact wpAny_mono (h s.heap.objs.size h₁ tk cells ⟨x.toInCall.ns, hk₁, Nat.le_refl _⟩ NC Y) (fun fl s' q => q) (fun _ _ x => x.elim)
end
end Mine
end
section
namespace Mine
/-! ## the two patterns: one set of signs, sought -/
section
open PySem.Sre
def cN : Array Nat := #[14, 10, 4, 1, 1, 22, 0, 31, 16, 127, 0, 13, 7, 22, 0, 31, 16, 127, 0, 1]
def cV : Array Nat := #[14, 14, 4, 1, 1, 9, 4294966783, 0, 0, 2147483648, 0, 0, 0, 0, 0, 13, 11, 9, 4294966783, 0, 0, 2147483648, 0, 0, 0, 0, 0, 1]
def badN (c : Nat) : Bool := decide (c ≤ 31) || c == 127
def badV (c : Nat) : Bool := decide (c < 256) && (#[4294966783, 0, 0, 2147483648, 0, 0, 0, 0].getD (c / 32) 0).testBit (c % 32)

theorem inSetN (i : Nat) (hi : i = 5 ∨ i = 13) (c : Nat) (seen : Sre.Seen) : ∃ seen', inSet cN c 20 i true seen = .ok (badN c, seen') := by
  rcases hi with rfl | rfl
  all_goals
    by_cases h : c ≤ 31
    · exact ⟨seen.add 22, by
        show (if (decide (0 ≤ c) && decide (c ≤ 31)) = true then Except.ok (true, seen.add 22) else _) = _
        simp [h, badN]⟩
    · by_cases h2 : c = 127
      · exact ⟨(seen.add 22).add 16, by
          show (if (decide (0 ≤ c) && decide (c ≤ 31)) = true then Except.ok (true, seen.add 22) else (if (c == 127) = true then Except.ok (true, (seen.add 22).add 16) else _)) = _
          simp [h, h2, badN]⟩
      · exact ⟨((seen.add 22).add 16).add 0, by
          show (if (decide (0 ≤ c) && decide (c ≤ 31)) = true then Except.ok (true, seen.add 22) else (if (c == 127) = true then Except.ok (true, (seen.add 22).add 16) else Except.ok (!true, ((seen.add 22).add 16).add 0))) = _
          simp [h, h2, badN]⟩

theorem inSetV (i : Nat) (hi : i = 5 ∨ i = 17) (c : Nat) (seen : Sre.Seen) : ∃ seen', inSet cV c 28 i true seen = .ok (badV c, seen') := by
  have key : ∀ i, i = 5 ∨ i = 17 → ∀ k, k < 8 → cV.getD (i + (1 + k)) 0 = #[4294966783, 0, 0, 2147483648, 0, 0, 0, 0].getD k 0 := by
    rintro i (rfl | rfl) k hk
    · match k, hk with
      | 0, _ | 1, _ | 2, _ | 3, _ | 4, _ | 5, _ | 6, _ | 7, _ => rfl
    · match k, hk with
      | 0, _ | 1, _ | 2, _ | 3, _ | 4, _ | 5, _ | 6, _ | 7, _ => rfl
  by_cases hc : c < 256
  · have hk : c / 32 < 8 := by omega
    have hb : badV c = (cV.getD (i + (1 + c / 32)) 0).testBit (c % 32) := by rw [key i hi _ hk]; simp [badV, hc]
    rcases hi with rfl | rfl
    all_goals
      refine ⟨if badV c = true then seen.add 9 else (seen.add 9).add 0, ?_⟩
      show (if (decide (c < 256) && (cV.getD (_ + (1 + c / 32)) 0).testBit (c % 32)) = true then Except.ok (true, seen.add 9) else Except.ok (!true, (seen.add 9).add 0)) = _
      rw [← hb]
      cases badV c <;> simp [hc]
  · have hb : badV c = false := by simp [badV, hc]
    rw [hb]
    rcases hi with rfl | rfl
    all_goals
      refine ⟨(seen.add 9).add 0, ?_⟩
      show (if (decide (c < 256) && (cV.getD (_ + (1 + c / 32)) 0).testBit (c % 32)) = true then Except.ok (true, seen.add 9) else Except.ok (!true, (seen.add 9).add 0)) = _
      simp [hc]

structure OneSet (code : Array Nat) (b e : Nat) (bad : Nat → Bool) : Prop where
  first : ∀ c seen, ∃ seen', inSet code c code.size 5 true seen = .ok (bad c, seen')
  body : ∀ c seen, ∃ seen', inSet code c code.size (b + 2) true seen = .ok (bad c, seen')
  op0 : ops[code.getD 0 0]? = some .INFO
  fl : code.getD 2 0 = 4
  least : code.getD 3 0 = 1
  at_ : 1 + code.getD 1 0 = b
  opb : ops[code.getD (b + 0) 0]? = some .IN
  ope : ops[code.getD (e + 0) 0]? = some .SUCCESS
  jump : b + (1 + code.getD (b + 1) 0) = e
  lb : b < code.size
  le : e < code.size
theorem oneN : OneSet cN 11 19 badN := ⟨fun c s => inSetN 5 (.inl rfl) c s, fun c s => inSetN 13 (.inr rfl) c s, rfl, rfl, rfl, rfl, rfl, rfl, rfl, by decide, by decide⟩
theorem oneV : OneSet cV 15 27 badV := ⟨fun c s => inSetV 5 (.inl rfl) c s, fun c s => inSetV 17 (.inr rfl) c s, rfl, rfl, rfl, rfl, rfl, rfl, rfl, by decide, by decide⟩

theorem admitted_none {code : Array Nat} {b e : Nat} {bad : Nat → Bool} (O : OneSet code b e bad) (m : M) (hc : m.code = code) : ∀ (fuel s : Nat) (seen : Sre.Seen),
    (∀ i, s ≤ i → i < m.lim → bad (m.text.getD i 0) = false) → ∃ seen', M.admitted m fuel s seen = .ok (none, seen')
  | 0, s, seen, _ => ⟨seen, rfl⟩
  | fuel + 1, s, seen, h => by
    unfold M.admitted
    by_cases hs : s ≥ m.lim
    · exact ⟨seen, by simp [hs]⟩
    · obtain ⟨seen₁, h₁⟩ := O.first (m.text.getD s 0) seen
      rw [h s (Nat.le_refl _) (by omega)] at h₁
      obtain ⟨seen₂, h₂⟩ := admitted_none O m hc fuel (s + 1) seen₁ (fun i hi => h i (by omega))
      exact ⟨seen₂, by rw [if_neg hs, hc, h₁]; exact h₂⟩
theorem admitted_some {code : Array Nat} {b e : Nat} {bad : Nat → Bool} (O : OneSet code b e bad) (m : M) (hc : m.code = code) : ∀ (fuel s : Nat) (seen : Sre.Seen),
    m.lim < s + fuel → (∃ i, s ≤ i ∧ i < m.lim ∧ bad (m.text.getD i 0) = true) → ∃ s' seen', M.admitted m fuel s seen = .ok (some s', seen') ∧ s' < m.lim ∧ bad (m.text.getD s' 0) = true
  | 0, s, seen, hf, ⟨i, h1, h2, _⟩ => by omega
  | fuel + 1, s, seen, hf, h => by
    unfold M.admitted
    have hs : ¬ s ≥ m.lim := by obtain ⟨i, h1, h2, _⟩ := h; omega
    obtain ⟨seen₁, h₁⟩ := O.first (m.text.getD s 0) seen
    cases hb : bad (m.text.getD s 0) with
    | true => rw [hb] at h₁; exact ⟨s, seen₁, by rw [if_neg hs, hc, h₁], by omega, hb⟩
    | false =>
      rw [hb] at h₁
      obtain ⟨s', seen₂, h₂, h₃⟩ := admitted_some O m hc fuel (s + 1) seen₁ (by omega) (by
        obtain ⟨i, h1, h2, h3⟩ := h
        refine ⟨i, ?_, h2, h3⟩
        rcases Nat.eq_or_lt_of_le h1 with rfl | h1
        · rw [hb] at h3; cases h3
        · omega)
      exact ⟨s', seen₂, by rw [if_neg hs, hc, h₁]; exact h₂, h₃⟩
end
end Mine
end
section
namespace Mine
section
open PySem.Sre
variable {code : Array Nat} {b e : Nat} {bad : Nat → Bool}
theorem forSearch_is (O : OneSet code b e bad) (text : Array Nat) (n : Nat) :
    ∃ m : M, m.code = code ∧ m.text = text ∧ m.lim = n ∧ m.pc = b ∧ m.outcome = none ∧ m.answer = none ∧ m.frames = [] ∧ m.weight = 0 ∧ m.wholeText = false ∧ m.mustAdvance = false ∧
      forSearch code text 0 0 n false = if n = 0 then m.say false else m.attemptFrom 0 true := by
  have hh : header code = (1, b) := by unfold header; rw [O.op0]; simp only [O.least, O.at_]
  unfold forSearch
  dsimp only
  rw [hh]
  by_cases hn : n = 0
  · subst hn
    refine ⟨_, ?_, ?_, ?_, ?_, ?_, ?_, ?_, ?_, ?_, ?_, (if_pos (by simp)).trans (if_pos rfl).symm⟩
    all_goals first | rfl | (show (header code).2 = b; rw [hh])
  · refine ⟨_, ?_, ?_, ?_, ?_, ?_, ?_, ?_, ?_, ?_, ?_, (if_neg (by simp; omega)).trans (if_neg hn).symm⟩
    all_goals first | rfl | (show (header code).2 = b; rw [hh])
theorem hasFirst (O : OneSet code b e bad) (m : M) (hc : m.code = code) : m.hasFirstSet = true := by
  unfold M.hasFirstSet; rw [hc, O.op0, O.fl]; rfl
theorem search_none (O : OneSet code b e bad) (text : Array Nat) (h : ∀ i, i < text.size → bad (text.getD i 0) = false) :
    ((forSearch code text 0 0 text.size false).runFor 4).outcome = some .failed := by
  obtain ⟨m, h1, h2, h3, h4, h5, h6, h7, h8, h9, h10, he⟩ := forSearch_is O text text.size
  have key : ∃ m' : M, forSearch code text 0 0 text.size false = m' ∧ m'.outcome = none ∧ m'.answer = some false ∧ m'.frames = [] := by
    rw [he]
    by_cases hn : text.size = 0
    · rw [if_pos hn]; exact ⟨_, rfl, h5, rfl, h7⟩
    · rw [if_neg hn]
      obtain ⟨seen', ha⟩ := admitted_none O m h1 (m.lim + 1 - 0) 0 m.seen (fun i _ hi => by rw [h2]; exact h i (h3 ▸ hi))
      refine ⟨_, rfl, ?_⟩
      unfold M.attemptFrom
      rw [hasFirst O m h1, ha]
      exact ⟨h5, rfl, h7⟩
  obtain ⟨m', e1, e2, e3, e4⟩ := key
  rw [e1]
  have s1 : m'.step = { m' with outcome := some .failed } := by unfold M.step; rw [e2, e3, e4]; rfl
  show (if m'.outcome.isSome = true then m' else M.runFor 3 m'.step).outcome = _
  rw [e2, s1]
  rfl
theorem step_exec (m : M) (h1 : m.outcome = none) (h2 : m.answer = none) (h3 : m.pc < m.code.size) : m.step = m.exec := by
  unfold M.step; rw [h1, h2]; exact if_pos h3
theorem search_some (O : OneSet code b e bad) (text : Array Nat) (h : ∃ i, i < text.size ∧ bad (text.getD i 0) = true) :
    ((forSearch code text 0 0 text.size false).runFor 4).outcome = some .matched := by
  obtain ⟨m, h1, h2, h3, h4, h5, h6, h7, h8, h9, h10, he⟩ := forSearch_is O text text.size
  have hn : text.size ≠ 0 := by obtain ⟨i, hi, _⟩ := h; omega
  obtain ⟨s', seen', ha, hs', hb⟩ := admitted_some O m h1 (m.lim + 1 - 0) 0 m.seen (by omega) (by
    obtain ⟨i, h1, hb⟩ := h
    exact ⟨i, Nat.zero_le _, h3 ▸ h1, by rw [h2]; exact hb⟩)
  -- the machine behind the first set
  have key : ∃ m' : M, forSearch code text 0 0 text.size false = m' ∧ m'.code = code ∧ m'.text = text ∧ m'.lim = text.size ∧ m'.pc = b ∧ m'.pos = s' ∧ m'.outcome = none ∧ m'.answer = none ∧ m'.wholeText = false ∧ m'.mustAdvance = false ∧
      ∃ f : Sre.Frame, m'.frames = [f] ∧ f.wait = .nextStart := by
    have ea : m.attemptFrom 0 true = { m with mustAdvance := false, seen := seen', start := s', pos := s', lastmark := -1, lastindex := -1, frames := { wait := .nextStart, pc := m.pc, pos := s', outermost := true } :: m.frames, weight := m.weight + 1 + 0, pc := m.pc, handed := s', outermost := true } := by
      unfold M.attemptFrom
      rw [hasFirst O m h1, ha]
      show M.attempt _ _ _ _ _ = _
      unfold M.attempt
      exact if_neg (by show ¬ (m.weight + 1 + 0 > 16777216); rw [h8]; omega)
    rw [he, if_neg hn, ea]
    exact ⟨_, rfl, h1, h2, h3, h4, rfl, h5, h6, h9, rfl, _, by show _ :: m.frames = _; rw [h7], rfl⟩
  obtain ⟨m', e1, c1, c2, c3, c4, c5, c6, c7, c8, c9, f, c10, c11⟩ := key
  rw [e1]
  -- the set
  obtain ⟨seen2, hset⟩ := O.body (text.getD s' 0) (m'.seen.add (m'.word 0))
  rw [show bad (text.getD s' 0) = true by rw [← h2]; exact hb] at hset
  have w0 : ops[m'.word 0]? = some .IN := by show ops[m'.code.getD (m'.pc + 0) 0]? = _; rw [c1, c4]; exact O.opb
  have iw : itemWidth code b = 1 + code.getD (b + 1) 0 := by unfold itemWidth; rw [show ops[code.getD b 0]? = some .IN from O.opb]
  have acc : accepts code b (text.getD s' 0) (m'.seen.add (m'.word 0)) = .ok (true, seen2) := by
    unfold accepts
    rw [show ops[code.getD b 0]? = some .IN from O.opb]
    exact hset
  have s1 : m'.step = { m' with seen := seen2, pc := e, pos := s' + 1 } := by
    rw [step_exec m' c6 c7 (by rw [c4, c1]; exact O.lb)]
    unfold M.exec
    rw [w0]
    show (if m'.pos ≥ m'.lim then _ else match accepts m'.code m'.pc (m'.text.getD m'.pos 0) (m'.seen.add (m'.word 0)) with
      | .error why => _ | .ok (false, seen) => _ | .ok (true, seen) => _) = _
    rw [if_neg (by rw [c5, c3]; omega), show accepts m'.code m'.pc (m'.text.getD m'.pos 0) (m'.seen.add (m'.word 0)) = .ok (true, seen2) by rw [c1, c4, c2, c5]; exact acc]
    show ({ m' with seen := seen2, pc := m'.pc + itemWidth m'.code m'.pc, pos := m'.pos + 1 } : M) = _
    rw [show m'.pc + itemWidth m'.code m'.pc = e by rw [c1, c4, iw, O.jump], c5]
  have s2 : ∃ sn hnd, ({ m' with seen := seen2, pc := e, pos := s' + 1 } : M).step = { m' with seen := sn, pc := e, pos := s' + 1, handed := hnd, answer := some true } := by
    rw [step_exec { m' with seen := seen2, pc := e, pos := s' + 1 } c6 c7 (by show e < m'.code.size; rw [c1]; exact O.le)]
    unfold M.exec
    rw [show ops[M.word { m' with seen := seen2, pc := e, pos := s' + 1 } 0]? = some .SUCCESS by show ops[m'.code.getD (e + 0) 0]? = _; rw [c1]; exact O.ope]
    dsimp only
    rw [c8, c9]
    exact ⟨_, _, by simp; rfl⟩
  obtain ⟨sn, hnd, s2⟩ := s2
  have s3 : ∃ m3 : M, ({ m' with seen := sn, pc := e, pos := s' + 1, handed := hnd, answer := some true } : M).step = m3 ∧ m3.outcome = none ∧ m3.answer = some true ∧ m3.frames = [] := by
    refine ⟨_, rfl, ?_⟩
    unfold M.step
    dsimp only
    rw [c6, c10]
    dsimp only
    unfold M.resume
    rw [c11]
    exact ⟨rfl, rfl, rfl⟩
  obtain ⟨m3, e3, d1, d2, d3⟩ := s3
  have s4 : m3.step = { m3 with outcome := some .matched } := by unfold M.step; rw [d1, d2, d3]; rfl
  show (if m'.outcome.isSome = true then m' else (if m'.step.outcome.isSome = true then m'.step else (if m'.step.step.outcome.isSome = true then m'.step.step else
    (if m'.step.step.step.outcome.isSome = true then m'.step.step.step else m'.step.step.step.step)))).outcome = _
  rw [s1, s2, e3, s4, c6, d1]
  rfl
end
end Mine
end
section
set_option maxRecDepth 100000
namespace Mine
theorem plainAttrs_pat : PlainAttrs "re.Pattern" :=
  ⟨⟨"object.__getattribute__", by rw [typeLookup_type, builtinLookup_eq_fast]; kernel_rfl, by decide +kernel⟩, by rw [typeLookup_type, builtinLookup_eq_fast]; kernel_rfl⟩
theorem slot_pat_search : Slot "re.Pattern" "search" "re.Pattern.search" :=
  .of (owner := "re.Pattern") (n := "search") (by rw [typeLookup_type, builtinLookup_eq_fast]; kernel_rfl) (by decide +kernel) (by decide +kernel) (by decide +kernel)
    (by first | exact .inl (by decide +kernel) | exact .inr (by decide +kernel)) (by rw [isSubtype_type]; kernel_rfl)
theorem type_pat_search : typeOf (.builtin "re.Pattern.search") = pure (.type "method_descriptor") := by show builtinType _ = _; rw [builtinType_eq_fast]; kernel_rfl
theorem entry_pat_search : entryFor table "re.Pattern.search" = some Builtin.«re.Pattern.search» := entryFor_of_tree (by kernel_rfl)
theorem args_pat_search (a b : Value) : argsOk "re.Pattern.search" ⟨[a, b], []⟩ := by
  unfold argsOk; kernel_rfl
section
open PySem.Builtin.Re
variable {prog : Program} {w : World} {A : Around} {E : Value → Shared → Prop} {s : Shared} {code : Array Nat} {b e : Nat} {bad : Nat → Bool}
theorem drive_done (m : Sre.M) (h : (m.runFor 4).outcome.isSome = true) : reDrive (2 ^ 64) m = pure (m.runFor 4) := by
  show reDrive (18446744073709551615 + 1) m = _
  unfold reDrive
  show (if (m.runFor 4).outcome.isSome = true then _ else _) = _
  rw [if_pos h]
  rfl
theorem wpAny_rules {f : Nat → Bool} {g : Nat → String} {Q : PUnit → Shared → Prop} (h : Q ⟨⟩ s) : ∀ l : List Nat,
    wpAny (model prog w) A (forIn l PUnit.unit fun i _ => if f i = true then (do rule (g i); pure (ForInStep.yield PUnit.unit)) else pure (ForInStep.yield PUnit.unit)) Q E s
  | [] => wpAny_pure h
  | i :: l => by
    rw [List.forIn_cons]
    refine wpAny_bind ?_
    cases f i with
    | true => exact wpAny_bind (wpAny_rule (wpAny_pure (wpAny_rules h l)))
    | false => exact wpAny_pure (wpAny_rules h l)
theorem run_end {m : Sre.M} {o : Sre.Outcome} (h : (m.runFor 4).outcome = some o) {Q : Option Sre.M → Shared → Prop}
    (hm : o = .matched → Q (some (m.runFor 4)) s) (hf : o = .failed → Q none s) (hs : ∀ y, o ≠ .stuck y) : wpAny (model prog w) A (reRunToEnd m) Q E s := by
  unfold reRunToEnd
  rw [drive_done m (by rw [h]; rfl)]
  refine wpAny_bind (wpAny_pure ?_)
  refine wpAny_bind (wpAny_rules ?_ _)
  rw [h]
  cases o with
  | matched => exact wpAny_pure (hm rfl)
  | failed => exact wpAny_pure (hf rfl)
  | stuck y => exact absurd rfl (hs y)
theorem named_is (v : Value) : reNamed "re.Pattern.search" "search" ["string", "pos", "endpos"] 1 [v] [] = pure [some v, none, none] := by rfl
theorem target_is {p ct : Addr} {a0 a1 a3 a4 : Value} {items : Array Value} {n : Nat} {op oc : Obj} {x : PySem.Str} {t : Tok} {Q : ReTarget → Shared → Prop}
    (hp : s.heap.get? p = some op) (dp : op.data = .fields #[a0, a1, .int 0 0, a3, a4, .ref ct, .int 0 0]) (hc : s.heap.get? ct = some oc) (dc : oc.data = .seq items n) (hi : (items.map reRawOf).map (·.toNat) = code)
    (hQ : Q { pattern := .ref p, string := .str x t, code := code, text := x.cps, kind := 0, groups := 0, pos := 0, lim := min (2 ^ 63 - 1 : Int).toNat x.cps.size } s) :
    wpAny (model prog w) A (reTarget "re.Pattern.search" "search" ⟨[.ref p, .str x t], []⟩) Q E s := by
  unfold reTarget
  show wpAny (model prog w) A (reNamed "re.Pattern.search" "search" ["string", "pos", "endpos"] 1 [.str x t] [] >>= _) Q E s
  rw [named_is]
  refine wpAny_bind (wpAny_pure ?_)
  dsimp only
  refine wpAny_bind (wpAny_pure ?_)
  refine wpAny_bind (wpAny_pure ?_)
  refine wpAny_bind (wpAny_fieldsOf hp dp ?_)
  refine wpAny_bind (m := reTextOf (.str x t)) (wpAny_pure ?_)
  dsimp only
  rw [if_neg (by simp), if_neg (by show ¬ ((0 == 1 && 0 == 0) = true); decide)]
  refine wpAny_bind (m := reNoCollectionInside (.str x t) 0) (wpAny_pure ?_)
  refine wpAny_bind (m := reRawItems (.ref ct)) ?_
  unfold reRawItems
  refine wpAny_bind (wpAny_seqItems hc dc ?_)
  refine wpAny_pure (wpAny_pure ?_)
  show Q { pattern := .ref p, string := .str x t, code := (items.map reRawOf).map (·.toNat), text := x.cps, kind := 0, groups := 0, pos := min 0 x.cps.size, lim := min (2 ^ 63 - 1 : Int).toNat x.cps.size } s
  rw [hi, Nat.zero_min]
  exact hQ
theorem search_no {p ct : Addr} {a0 a1 a3 a4 : Value} {items : Array Value} {n : Nat} {op oc : Obj} {x : PySem.Str} {t : Tok} {Q : Value → Shared → Prop} (O : OneSet code b e bad)
    (hp : s.heap.get? p = some op) (cp : op.cls = .type "re.Pattern") (dp : op.data = .fields #[a0, a1, .int 0 0, a3, a4, .ref ct, .int 0 0]) (hc : s.heap.get? ct = some oc) (dc : oc.data = .seq items n) (hi : (items.map reRawOf).map (·.toNat) = code)
    (hx : ∀ i, i < x.cps.size → bad (x.cps.getD i 0) = false) (hsz : x.cps.size ≤ sizeLine) (hQ : Q .none s) : wpAny (model prog w) A (call (.builtin "re.Pattern.search") [.ref p, .str x t]) Q E s := by
  refine wpAny_call_entry slot_pat_search ⟨op, hp, cp⟩ entry_pat_search ?_ (args_pat_search _ _)
  unfold Builtin.«re.Pattern.search»
  refine wpAny_bind (target_is hp dp hc dc hi ?_)
  unfold reAnswer
  dsimp only
  rw [Nat.min_eq_right (by rw [show sizeLine = 16777216 from rfl] at hsz; omega)]
  exact wpAny_bind (run_end (search_none O x.cps hx) (fun h => by cases h) (fun _ => wpAny_pure ⟨_, rfl, hQ⟩) (fun y h => by cases h))
theorem search_yes {p ct : Addr} {a0 a1 a3 a4 : Value} {items : Array Value} {n : Nat} {op oc : Obj} {x : PySem.Str} {t : Tok} {Q : Value → Shared → Prop} (O : OneSet code b e bad)
    (hp : s.heap.get? p = some op) (cp : op.cls = .type "re.Pattern") (dp : op.data = .fields #[a0, a1, .int 0 0, a3, a4, .ref ct, .int 0 0]) (hc : s.heap.get? ct = some oc) (dc : oc.data = .seq items n) (hi : (items.map reRawOf).map (·.toNat) = code)
    (hx : ∃ i, i < x.cps.size ∧ bad (x.cps.getD i 0) = true) (hsz : x.cps.size ≤ sizeLine) (hQ : ∀ h' a o, s.heap.StaysIn h' → s.heap.get? a = none → h'.get? a = some o → o.cls = .type "re.Match" → o.dict = none → Q (.ref a) { s with heap := h' }) :
    wpAny (model prog w) A (call (.builtin "re.Pattern.search") [.ref p, .str x t]) Q E s := by
  refine wpAny_call_entry slot_pat_search ⟨op, hp, cp⟩ entry_pat_search ?_ (args_pat_search _ _)
  unfold Builtin.«re.Pattern.search»
  refine wpAny_bind (target_is hp dp hc dc hi ?_)
  unfold reAnswer
  dsimp only
  rw [Nat.min_eq_right (by rw [show sizeLine = 16777216 from rfl] at hsz; omega)]
  refine wpAny_bind (run_end (search_some O x.cps hx) (fun _ => ?_) (fun h => by cases h) (fun y h => by cases h))
  dsimp only
  refine wpAny_bind ?_
  unfold reNewMatch
  dsimp only
  rw [if_neg (by simp)]
  refine wpAny_bind (wpAny_newObj_type ?_ (by show (2 : Nat) ≤ sizeLine; decide))
  refine wpAny_newObj_type (wpAny_pure ⟨_, rfl, hQ _ _ _ (fun c o hc' => Heap.get?_push_of_some _ (Heap.get?_push_of_some _ hc')) ?_ (Heap.get?_push_size _ rfl) rfl rfl⟩)
  cases hq : s.heap.get? (Heap.objs (Heap.push s.heap _)).size with
  | none => rfl
  | some o' =>
    have h1 := Heap.lt_size hq
    rw [Heap.size_push] at h1
    exact absurd (Nat.lt_of_succ_lt h1) (Nat.lt_irrefl _)
end
end Mine
end
section
namespace Mine
theorem Fr.stay {h₀ h h' : Heap} {L : Addr} {m : PySem.Str → Option Value} (F : Fr h₀ L h m) (k : h.StaysIn h') : Fr h₀ L h' m :=
  ⟨F.ns.keeps k, fun b o e => k b o (F.keep b o e), F.above⟩
theorem News.stay {h₀ h h' : Heap} {L : Addr} {news : List (Addr × Obj)} (N : News h₀ L h news) (k : h.StaysIn h') : News h₀ L h' news :=
  fun p hp => ⟨k _ _ (N p hp).1, (N p hp).2⟩
theorem stay_ext {h h' : Heap} (k : Heap.ExtBut h.objs.size h h') : h.StaysIn h' := fun b o e => k b o (Nat.ne_of_lt (Heap.lt_size e)) e
section
variable {prog : Program} {w : World} {A : Around} {E : Value → Shared → Prop} {s : Shared} {h₀ : Heap} {m : PySem.Str → Option Value} {news : List (Addr × Obj)} {env : Env} {Q : Flow → Shared → Prop}
theorem assign_pair {name : PySem.Str} {scope : Scope} {L f : Addr} {cd : Value} {a b : PySem.Str} {pa pb pos : Pos} {c : Nat} {t : Addr} {x y : Value} {Q : Unit → Shared → Prop} (hh : A.handled = none)
    (F : Fr h₀ L s.heap m) (N : News h₀ L s.heap news) (ht : s.heap.IsTuple t #[x, y])
    (k : ∀ h' tk, Fr h₀ L h' (fun z => if z = b then some y else if z = a then some x else m z) → News h₀ L h' news → Q () { s with heap := h', toks := tk })
    (hk : scope.kind = .function := by rfl) (ha : (envOf name scope L f cd).kindOf a = some .local := by rfl) (hb : (envOf name scope L f cd).kindOf b = some .local := by rfl) :
    wpAny (model prog w) A (assign (.Tuple [.Name a pa, .Name b pb] c pos) (envOf name scope L f cd) (.ref t)) Q E s := by
  refine wpAny_assign_Tuple hh ht rfl rfl fun h' hx => ?_
  have F1 := Fr.stay F (stay_ext hx)
  have N1 := News.stay N (stay_ext hx)
  show wpAny _ A (do holding [y] (assign (.Name a pa) (envOf name scope L f cd) x); assignInOrder [assign (.Name b pb) (envOf name scope L f cd)] [y]) Q E _
  refine wpAny_bind (wpAny_holding (wpAny_assign_Name (stN (s := { s with heap := h' }) F1 N1 (fun h2 F2 N2 => ?_) hk ha)))
  show wpAny _ A (do holding [] (assign (.Name b pb) (envOf name scope L f cd) y); assignInOrder [] []) Q E _
  refine wpAny_bind (wpAny_holding (wpAny_assign_Name (stN (s := { s with heap := h2, toks := s.toks + 1 }) F2 N2 (fun h3 F3 N3 => ?_) hk hb)))
  exact wpAny_pure (k h3 _ F3 N3)
theorem for_walk {target : Expr} {body orelse : List Stmt} {I : Addr} {fp wr : List Addr} {n : Nat} {P : Nat → Value → Prop} {St : Nat → Heap → Prop} (W : Walks prog w A I fp wr n P St) (J : Nat → Shared → Prop)
    (hst : ∀ i s, J i s → St i s.heap) (h0 : J 0 s)
    (turn : ∀ i v s h' tk, J i s → i < n → P i v → St (i + 1) h' → (∀ b o, b ∉ wr → s.heap.get? b = some o → h'.get? b = some o) →
      wpAny (model prog w) A (letOwnedTupleGo target (.ref I) v) (fun _ s₁ => wpAny (model prog w) A (assign target env v) (fun _ s₂ => wpAny (model prog w) A (execs body env) (fun f s₃ => match f with
        | .next | .cont => J (i + 1) s₃
        | .brk => Q .next s₃
        | .ret v => Q (.ret v) s₃) NoE s₂) NoE s₁) NoE { s with heap := h', toks := tk })
    (done : ∀ s h' tk, J n s → (∀ b o, b ∉ wr → s.heap.get? b = some o → h'.get? b = some o) → wpAny (model prog w) A (execs orelse env) Q NoE { s with heap := h', toks := tk }) :
    codeAny (model prog w) A (.forLoop target (.ref I) body orelse env) (fun r s' => match r with | .ok f => Q f s' | .error e => cameBackBy (model prog w) A env NoE e s') s := by
  refine codeAny_forLoop_any (fun k s => ∃ i, i ≤ n ∧ k = n - i ∧ J i s) (fun k s hI => ?_) n ⟨0, Nat.zero_le _, rfl, h0⟩
  obtain ⟨i, hi, rfl, hJ⟩ := hI
  have nope : ∀ (e : Value) (s' : Shared), NoE e s' → notedBy (model prog w) A env (fun e s' => cameBackBy (model prog w) A env NoE e s') e s' := fun _ _ h => h.elim
  rcases Nat.eq_or_lt_of_le hi with rfl | hlt
  · refine W.done s _ _ (hst _ _ hJ) fun h' tk hk => ?_
    exact wpAny_mono (done s h' tk hJ hk) (fun _ _ q => q) nope
  · refine W.item i s _ _ hlt (hst _ _ hJ) fun v h' tk hP hst' hk => ?_
    refine wpAny_mono (turn i v s h' tk hJ hlt hP hst' hk) (fun _ s₁ h₁ => ?_) nope
    refine wpAny_mono h₁ (fun _ s₂ h₂ => ?_) nope
    refine wpAny_mono h₂ (fun f s₃ h₃ => ?_) nope
    cases f with
    | next => exact ⟨n - (i + 1), by omega, i + 1, hlt, rfl, h₃⟩
    | cont => exact ⟨n - (i + 1), by omega, i + 1, hlt, rfl, h₃⟩
    | brk => exact h₃
    | ret v => exact h₃
theorem for_list {target : Expr} {body orelse : List Stmt} {l L : Addr} {items : List Value} (J : Nat → (PySem.Str → Option Value) → List (Addr × Obj) → Prop) (hh : A.handled = none)
    (hl : h₀.IsList l items.toArray) (F : Fr h₀ L s.heap m) (N : News h₀ L s.heap news) (h0 : J 0 m news)
    (turn : ∀ i v m' news' I oI h tk, items[i]? = some v → J i m' news' → h.IsListIter I l (i + 1) → Fr h₀ L h m' → News h₀ L h ((I, oI) :: news') → (∀ p ∈ news', p.1 ≠ I) →
      wpAny (model prog w) A (assign target env v) (fun _ s₂ => wpAny (model prog w) A (execs body env) (fun f s₃ => match f with
        | .next | .cont => ∃ h' tk' m'' news'', s₃ = { s with heap := h', toks := tk' } ∧ Fr h₀ L h' m'' ∧ News h₀ L h' ((I, oI) :: news'') ∧ (∀ p ∈ news'', p.1 ≠ I) ∧ J (i + 1) m'' news''
        | .brk => Q .next s₃
        | .ret v => Q (.ret v) s₃) NoE s₂) NoE { s with heap := h, toks := tk })
    (done : ∀ h tk m' news', J items.length m' news' → Fr h₀ L h m' → News h₀ L h news' → wpAny (model prog w) A (execs orelse env) Q NoE { s with heap := h, toks := tk })
    (ht : ∀ (I : Addr) (v : Value) (s₁ : Shared) (i : Nat) (Q : Unit → Shared → Prop), s₁.heap.IsListIter I l i → v ∈ items → Q () s₁ → wpAny (model prog w) A (letOwnedTupleGo target (.ref I) v) Q NoE s₁)
    (eL : env.locals = L := by rfl) :
    wpAny (model prog w) A (pyIter (.ref l)) (fun it s₂ => codeAny (model prog w) A (.forLoop target it body orelse env) (fun r s' => match r with | .ok f => Q f s' | .error e => cameBackBy (model prog w) A env NoE e s') s₂) E s := by
  subst eL
  have hl1 : s.heap.IsList l items.toArray := hl.at fun o e => F.keep _ _ e
  have hne : l ≠ s.heap.objs.size := by obtain ⟨o, ho, _⟩ := hl1; exact Nat.ne_of_lt (Heap.lt_size ho)
  refine wpAny_pyIter_list hl1 ?_
  have hnew : h₀.get? s.heap.objs.size = none := by
    cases q : h₀.get? s.heap.objs.size with
    | none => rfl
    | some o => exact absurd (Heap.lt_size (F.keep _ _ q)) (Nat.lt_irrefl _)
  have hLI : env.locals ≠ s.heap.objs.size := Nat.ne_of_lt F.ns.lt
  generalize hI : s.heap.objs.size = I at *
  refine for_walk (Walks.list hh I l hne items.toArray)
    (fun i s₁ => ∃ h tk m' news', s₁ = { s with heap := h, toks := tk } ∧ h.IsListIter I l i ∧ Fr h₀ env.locals h m' ∧ News h₀ env.locals h news' ∧ (∀ p ∈ news', p.1 ≠ I) ∧ J i m' news') ?_ ?_ ?_ ?_
  · rintro i s₁ ⟨h, tk, m', news', rfl, hi, F', _, _, _⟩
    exact ⟨hi, hl.at fun o e => F'.keep _ _ e⟩
  · refine ⟨_, _, m, news, rfl, ⟨_, hI ▸ Heap.get?_push_size _ rfl, rfl, rfl⟩, F.push _, fun p hp => ⟨Heap.get?_push_of_some _ (N p hp).1, (N p hp).2⟩, fun p hp => ?_, h0⟩
    exact hI ▸ Nat.ne_of_lt (Heap.lt_size (N p hp).1)
  · rintro i v s₁ h' tk ⟨h, tk₁, m', news', rfl, hi, F', N', hn, hJ⟩ hlt hP hst hk
    have F1 : Fr h₀ env.locals h' m' := by
      obtain ⟨o, es, ep, ho, r⟩ := F'.ns
      refine ⟨⟨o, es, ep, hk _ _ (by simpa using hLI) ho, r⟩, fun b o e => hk b o ?_ (F'.keep b o e), F'.above⟩
      intro hb
      rw [List.mem_singleton.mp hb, hnew] at e
      cases e
    obtain ⟨oI, hoI, hc, hd⟩ := hst.1
    have N1 : News h₀ env.locals h' ((I, oI) :: news') := by
      intro p hp
      rcases List.mem_cons.mp hp with rfl | hp
      · exact ⟨hoI, Ne.symm hLI, hnew⟩
      · exact ⟨hk _ _ (by simpa using hn p hp) (N' p hp).1, (N' p hp).2⟩
    have hv : items[i]? = some v := by simpa using hP
    refine ht I v _ (i + 1) _ hst.1 (List.mem_of_getElem? hv) ?_
    refine wpAny_mono (turn i v m' news' I oI h' tk hv hJ hst.1 F1 N1 hn) (fun _ s₂ h₂ => wpAny_mono h₂ (fun f s₃ h₃ => ?_) fun _ _ e => e) fun _ _ e => e
    have go : (∃ h'' tk' m'' news'', s₃ = { s with heap := h'', toks := tk' } ∧ Fr h₀ env.locals h'' m'' ∧ News h₀ env.locals h'' ((I, oI) :: news'') ∧ (∀ p ∈ news'', p.1 ≠ I) ∧ J (i + 1) m'' news'') →
        ∃ h tk m' news', s₃ = { s with heap := h, toks := tk } ∧ h.IsListIter I l (i + 1) ∧ Fr h₀ env.locals h m' ∧ News h₀ env.locals h news' ∧ (∀ p ∈ news', p.1 ≠ I) ∧ J (i + 1) m' news' := by
      rintro ⟨h'', tk', m'', news'', e, F2, N2, hn2, hJ2⟩
      exact ⟨h'', tk', m'', news'', e, ⟨oI, (N2 _ (.head _)).1, hc, hd⟩, F2, fun p hp => N2 p (.tail _ hp), hn2, hJ2⟩
    cases f with
    | next => exact go h₃
    | cont => exact go h₃
    | brk => exact h₃
    | ret v => exact h₃
  · rintro s₁ h' tk ⟨h, tk₁, m', news', rfl, hi, F', N', hn, hJ⟩ hk
    have F1 : Fr h₀ env.locals h' m' := by
      obtain ⟨o, es, ep, ho, r⟩ := F'.ns
      refine ⟨⟨o, es, ep, hk _ _ (by simpa using hLI) ho, r⟩, fun b o e => hk b o ?_ (F'.keep b o e), F'.above⟩
      intro hb
      rw [List.mem_singleton.mp hb, hnew] at e
      cases e
    refine done h' tk m' news' (by simpa using hJ) F1 fun p hp => ⟨hk _ _ (by simpa using hn p hp) (N' p hp).1, (N' p hp).2⟩
theorem owned_list {target : Expr} {l : Addr} {vs : List Value} (h : ∃ e c p, target = .Tuple e c p) (hr : ∀ v ∈ vs, ∃ a, v = .ref a) :
    ∀ (I : Addr) (v : Value) (s₁ : Shared) (i : Nat) (Q : Unit → Shared → Prop), s₁.heap.IsListIter I l i → v ∈ vs → Q () s₁ → wpAny (model prog w) A (letOwnedTupleGo target (.ref I) v) Q NoE s₁ := by
  intro I v s₁ i Q hi hv hq
  obtain ⟨e, c, p, rfl⟩ := h
  obtain ⟨a, rfl⟩ := hr v hv
  exact wpAny_letOwnedTupleGo_listiter hi hq
end
end Mine
end
section
namespace Mine
def At (h : Heap) (v : Value) (d : PyData) : Prop := ∃ as, PySem.Reads h v d as
def AtAll (h : Heap) (vs : List Value) (ds : List PyData) : Prop := ∃ as, PySem.ReadsAll h vs ds as
abbrev pairD (p : PySem.Str × PySem.Str) : PyData := .tuple [.str p.1, .str p.2]
abbrev tripD (e : Int × PySem.Str × PySem.Str) : PyData := .tuple [.int e.1, .str e.2.1, .str e.2.2]
section
variable {h h' : Heap} {v : Value} {d : PyData} {vs : List Value} {ds : List PyData}
theorem At.keeps (r : At h v d) (k : h.StaysIn h') : At h' v d := let ⟨as, r⟩ := r; ⟨as, Reads.keeps k r⟩
theorem AtAll.keeps (r : AtAll h vs ds) (k : h.StaysIn h') : AtAll h' vs ds := let ⟨as, r⟩ := r; ⟨as, ReadsAll.keeps k r⟩
theorem AtAll.nil : AtAll h [] [] := ⟨_, .nil⟩
theorem AtAll.cons (r : At h v d) (q : AtAll h vs ds) : AtAll h (v :: vs) (d :: ds) := let ⟨_, r⟩ := r; let ⟨_, q⟩ := q; ⟨_, .cons r q⟩
theorem AtAll.inv {d : PyData} (r : AtAll h vs (d :: ds)) : ∃ v vs', vs = v :: vs' ∧ At h v d ∧ AtAll h vs' ds := by
  obtain ⟨as, r⟩ := r
  cases r with
  | cons r q => exact ⟨_, _, rfl, ⟨_, r⟩, ⟨_, q⟩⟩
theorem AtAll.inv_nil (r : AtAll h vs []) : vs = [] := by obtain ⟨as, r⟩ := r; cases r; rfl
theorem AtAll.length : ∀ {vs : List Value} {ds : List PyData}, AtAll h vs ds → vs.length = ds.length
  | _, [], r => by rw [r.inv_nil]; rfl
  | _, d :: ds, r => by obtain ⟨v, vs', rfl, _, q⟩ := r.inv; rw [List.length_cons, List.length_cons, AtAll.length q]
theorem AtAll.get : ∀ {vs : List Value} {ds : List PyData} {i : Nat} {v : Value}, AtAll h vs ds → vs[i]? = some v → ∃ d, ds[i]? = some d ∧ At h v d
  | _, [], i, v, r, e => by rw [r.inv_nil] at e; cases e
  | _, d :: ds, i, v, r, e => by
    obtain ⟨v', vs', rfl, hv, q⟩ := r.inv
    cases i with
    | zero => cases e; exact ⟨d, rfl, hv⟩
    | succ i =>
      obtain ⟨d', h1, h2⟩ := AtAll.get (vs := vs') (ds := ds) (i := i) q (by simpa using e)
      exact ⟨d', by simpa using h1, h2⟩
theorem AtAll.append : ∀ {vs ws : List Value} {ds es : List PyData}, AtAll h vs ds → AtAll h ws es → AtAll h (vs ++ ws) (ds ++ es)
  | _, _, [], _, r, q => by rw [r.inv_nil]; exact q
  | _, _, d :: ds, _, r, q => by obtain ⟨v', vs', rfl, hv, r'⟩ := r.inv; exact .cons hv (AtAll.append r' q)
theorem AtAll.reverse : ∀ {vs : List Value} {ds : List PyData}, AtAll h vs ds → AtAll h vs.reverse ds.reverse
  | _, [], r => by rw [r.inv_nil]; exact .nil
  | _, d :: ds, r => by
    obtain ⟨v', vs', rfl, hv, r'⟩ := r.inv
    rw [List.reverse_cons, List.reverse_cons]
    exact AtAll.append (AtAll.reverse r') (.cons hv .nil)
theorem AtAll.drop : ∀ {vs : List Value} {ds : List PyData} (n : Nat), AtAll h vs ds → AtAll h (vs.drop n) (ds.drop n)
  | _, _, 0, r => r
  | _, [], n + 1, r => by rw [r.inv_nil]; exact .nil
  | _, d :: ds, n + 1, r => by obtain ⟨v', vs', rfl, hv, r'⟩ := r.inv; exact AtAll.drop n r'
theorem At.str {x : PySem.Str} {t : Tok} : At h (.str x t) (.str x) := ⟨_, .str x t⟩
theorem At.int {x : Int} {t : Tok} : At h (.int x t) (.int x) := ⟨_, .int x t⟩
theorem At.none : At h .none .none := ⟨_, .none⟩
theorem At.str_inv {x : PySem.Str} (r : At h v (.str x)) : ∃ t, v = .str x t := let ⟨_, r⟩ := r; let ⟨t, e, _⟩ := reads_str_inv r; ⟨t, e⟩
theorem At.int_inv {x : Int} (r : At h v (.int x)) : ∃ t, v = .int x t := let ⟨_, r⟩ := r; let ⟨t, e, _⟩ := reads_int_inv r; ⟨t, e⟩
theorem At.tuple {a : Addr} (ht : h.IsTuple a vs.toArray) (r : AtAll h vs ds) : At h (.ref a) (.tuple ds) := by
  obtain ⟨o, ho, hc, n, hd⟩ := ht
  obtain ⟨as, r⟩ := r
  exact ⟨as, .tuple ho hc hd (by simpa using r)⟩
theorem At.list {a : Addr} (ht : h.IsList a vs.toArray) (r : AtAll h vs ds) : At h (.ref a) (.list ds) := by
  obtain ⟨o, ho, hc, n, hd⟩ := ht
  obtain ⟨as, r⟩ := r
  exact ⟨a :: as, .list ho hc hd (by simpa using r)⟩
theorem At.tuple_inv (r : At h v (.tuple ds)) : ∃ a vs, v = .ref a ∧ h.IsTuple a (List.toArray vs) ∧ AtAll h vs ds := by
  obtain ⟨as, r⟩ := r
  cases r with
  | tuple h1 h2 h3 h4 => rename_i vs n; exact ⟨_, vs.toList, rfl, ⟨_, h1, h2, n, by simpa using h3⟩, ⟨_, h4⟩⟩
theorem At.list_inv (r : At h v (.list ds)) : ∃ a vs, v = .ref a ∧ h.IsList a (List.toArray vs) ∧ AtAll h vs ds := by
  obtain ⟨as, r⟩ := r
  cases r with
  | list h1 h2 h3 h4 => exact ⟨_, _, rfl, ⟨_, h1, h2, _, h3.trans (by rw [Array.toArray_toList])⟩, ⟨_, h4⟩⟩
theorem At.pair {p : PySem.Str × PySem.Str} (r : At h v (pairD p)) : ∃ a t u, v = .ref a ∧ h.IsTuple a #[.str p.1 t, .str p.2 u] := by
  obtain ⟨a, vs, rfl, ht, q⟩ := r.tuple_inv
  obtain ⟨v1, vs1, rfl, r1, q1⟩ := q.inv
  obtain ⟨v2, vs2, rfl, r2, q2⟩ := q1.inv
  obtain ⟨t, rfl⟩ := r1.str_inv
  obtain ⟨u, rfl⟩ := r2.str_inv
  have e := q2.inv_nil
  subst e
  exact ⟨a, t, u, rfl, ht⟩
theorem At.trip {p : Int × PySem.Str × PySem.Str} (r : At h v (tripD p)) : ∃ a s t u, v = .ref a ∧ h.IsTuple a #[.int p.1 s, .str p.2.1 t, .str p.2.2 u] := by
  obtain ⟨a, vs, rfl, ht, q⟩ := r.tuple_inv
  obtain ⟨v0, vs0, rfl, r0, q0⟩ := q.inv
  obtain ⟨v1, vs1, rfl, r1, q1⟩ := q0.inv
  obtain ⟨v2, vs2, rfl, r2, q2⟩ := q1.inv
  obtain ⟨s, rfl⟩ := r0.int_inv
  obtain ⟨t, rfl⟩ := r1.str_inv
  obtain ⟨u, rfl⟩ := r2.str_inv
  have e := q2.inv_nil
  subst e
  exact ⟨a, s, t, u, rfl, ht⟩
mutual
def noD : PyData → Bool
  | .dict _ => false
  | .list xs => noDs xs
  | .tuple xs => noDs xs
  | _ => true
def noDs : List PyData → Bool
  | [] => true
  | d :: ds => noD d && noDs ds
end
mutual
theorem reads_but {h h' : Heap} {S : Addr → Prop} (hk : ∀ b o, ¬ S b → h.get? b = some o → h'.get? b = some o) (hS : ∀ b, S b → ∀ o, h.get? b = some o → ∀ xs n, o.data ≠ .seq xs n) :
    ∀ {v : Value} {d : PyData} {as : List Addr}, noD d = true → Reads h v d as → Reads h' v d as
  | _, _, _, _, .none => .none
  | _, _, _, _, .bool b => .bool b
  | _, _, _, _, .int i t => .int i t
  | _, _, _, _, .str x t => .str x t
  | _, _, _, n, .list h1 h2 h3 h4 => .list (hk _ _ (fun hs => hS _ hs _ h1 _ _ h3) h1) h2 h3 (readsAll_but hk hS (by simpa [noD] using n) h4)
  | _, _, _, n, .tuple h1 h2 h3 h4 => .tuple (hk _ _ (fun hs => hS _ hs _ h1 _ _ h3) h1) h2 h3 (readsAll_but hk hS (by simpa [noD] using n) h4)
  | _, _, _, n, .dict .. => by simp [noD] at n
theorem readsAll_but {h h' : Heap} {S : Addr → Prop} (hk : ∀ b o, ¬ S b → h.get? b = some o → h'.get? b = some o) (hS : ∀ b, S b → ∀ o, h.get? b = some o → ∀ xs n, o.data ≠ .seq xs n) :
    ∀ {vs : List Value} {ds : List PyData} {as : List Addr}, noDs ds = true → ReadsAll h vs ds as → ReadsAll h' vs ds as
  | _, _, _, _, .nil => .nil
  | _, _, _, n, .cons h1 h2 => .cons (reads_but hk hS (by simp [noDs] at n; exact n.1) h1) (readsAll_but hk hS (by simp [noDs] at n; exact n.2) h2)
end
theorem AtAll.but {h h' : Heap} {S : Addr → Prop} (hk : ∀ b o, ¬ S b → h.get? b = some o → h'.get? b = some o) (hS : ∀ b, S b → ∀ o, h.get? b = some o → ∀ xs n, o.data ≠ .seq xs n)
    {vs : List Value} {ds : List PyData} (n : noDs ds = true) (r : AtAll h vs ds) : AtAll h' vs ds := let ⟨as, r⟩ := r; ⟨as, readsAll_but hk hS n r⟩
theorem At.but {h h' : Heap} {S : Addr → Prop} (hk : ∀ b o, ¬ S b → h.get? b = some o → h'.get? b = some o) (hS : ∀ b, S b → ∀ o, h.get? b = some o → ∀ xs n, o.data ≠ .seq xs n)
    {v : Value} {d : PyData} (n : noD d = true) (r : At h v d) : At h' v d := let ⟨as, r⟩ := r; ⟨as, reads_but hk hS n r⟩
theorem noDs_of {ds : List PyData} (h : ∀ d ∈ ds, noD d = true) : noDs ds = true := by
  induction ds with
  | nil => rfl
  | cons d ds ih => simp only [noDs, Bool.and_eq_true]; exact ⟨h d (.head _), ih fun e he => h e (.tail _ he)⟩
theorem ns_noSeq {h : Heap} {L : Addr} {m : PySem.Str → Option Value} (n : h.Ns L m) : ∀ o, h.get? L = some o → ∀ xs n, o.data ≠ .seq xs n := by
  obtain ⟨o, es, ep, ho, hd, _⟩ := n
  intro o' ho' xs n e
  rw [ho] at ho'
  cases ho'
  rw [hd] at e
  cases e
end
end Mine
end
section
namespace Mine
theorem pat_method {M : Model} {A : Around} {E : Value → Shared → Prop} {s : Shared} {p : Addr} {op : Obj} {pl : Sem Bool} {Q : Value × List Value → Shared → Prop} (hp : s.heap.get? p = some op) (cp : op.cls = .type "re.Pattern") (dd : op.dict = none)
    (h : Q (.builtin "re.Pattern.search", [.ref p]) s) : wpAny M A (getMethod (.ref p) (PySem.Str.ofString "search") pl) Q E s :=
  getMethod_builtin ⟨op, hp, cp⟩ plainAttrs_pat slot_pat_search type_pat_search (fun a e => by cases e; exact ⟨op, hp, dd⟩) h
section
variable {w : World} {A : Around} {s : Shared} {mean : ExcName → Option Value} {mg mb : PySem.Str → Option Value}
def Ret1 (s : Shared) (P : Value → Heap → Prop) : Value → Shared → Prop :=
  fun v s' => ∃ h' tk', s' = { s with heap := h', toks := tk' } ∧ 1 ≤ tk' ∧ s.heap.StaysIn h' ∧ P v h'
theorem Ret1.ret {s : Shared} {P : Value → Heap → Prop} {v : Value} {s' : Shared} (h : Ret1 s P v s') : Ret s P v s' := let ⟨h', tk', e, _, k, p⟩ := h; ⟨h', tk', e, k, p⟩
def Clean (bad : Nat → Bool) (x : PySem.Str) : Prop := (∀ i, i < x.cps.size → bad (x.cps.getD i 0) = false) ∧ x.cps.size ≤ 1000
set_option maxRecDepth 100000 in
set_option maxHeartbeats 8000000 in
theorem convN_spec1 (R : Room A 3) (X : (hd.heap_1 w.params).In s.heap) (T : TT mean mg mb s.heap) (x : PySem.Str) (t : Tok) (self : Addr) (hx : Clean badN x) :
    wpAny (model PG w) A (call (.ref 76) [.ref self, .str x t] [(PySem.Str.ofString "name", .bool true)]) (Ret1 s fun v _ => v = .str x t) NoE s := by
  refine call_pure [(PySem.Str.ofString "self", .ref self), (PySem.Str.ofString "value", .str x t), (PySem.Str.ofString "name", .bool true)] R X T.nolimit (by k_is) (by k_is) (BindsTo.of_eq rfl) (locs rfl) ?_
  intro L h₁ tk F
  have N : News s.heap L h₁ [] := News.nil
  iterate 28 (first | walk1 | (dsimp only; walk1))
  rename Fr _ _ _ _ => F
  have X1 := X.keeps F.keep
  refine pat_method (X1 41 _ (by k_is)) rfl rfl ?_
  iterate 4 (first | walk1 | (dsimp only; walk1))
  refine search_no oneN (X1 41 _ (by k_is)) rfl rfl (X1 40 _ (by k_is)) rfl (by decide +kernel) hx.1 (Nat.le_trans hx.2 (by decide)) ?_
  iterate 2 walk1
  refine wpAny_execs_nil ?_
  dsimp only
  have hz : 1 ≤ tk + 1 := Nat.succ_le_succ (Nat.zero_le _)
  generalize tk + 1 = z at hz ⊢
  (repeat (first | walk1 | (dsimp only; walk1)))
  exact ⟨_, _, rfl, hz, F.keep, rfl⟩
set_option maxRecDepth 100000 in
set_option maxHeartbeats 8000000 in
theorem convV_spec1 (R : Room A 3) (X : (hd.heap_1 w.params).In s.heap) (T : TT mean mg mb s.heap) (x : PySem.Str) (t : Tok) (self : Addr) (hx : Clean badV x) :
    wpAny (model PG w) A (call (.ref 76) [.ref self, .str x t] [(PySem.Str.ofString "name", .bool false)]) (Ret1 s fun v _ => v = .str x t) NoE s := by
  refine call_pure [(PySem.Str.ofString "self", .ref self), (PySem.Str.ofString "value", .str x t), (PySem.Str.ofString "name", .bool false)] R X T.nolimit (by k_is) (by k_is) (BindsTo.of_eq rfl) (locs rfl) ?_
  intro L h₁ tk F
  have N : News s.heap L h₁ [] := News.nil
  iterate 28 (first | walk1 | (dsimp only; walk1))
  rename Fr _ _ _ _ => F
  have X1 := X.keeps F.keep
  refine pat_method (X1 46 _ (by k_is)) rfl rfl ?_
  iterate 4 (first | walk1 | (dsimp only; walk1))
  refine search_no oneV (X1 46 _ (by k_is)) rfl rfl (X1 45 _ (by k_is)) rfl (by decide +kernel) hx.1 (Nat.le_trans hx.2 (by decide)) ?_
  iterate 2 walk1
  refine wpAny_execs_nil ?_
  dsimp only
  have hz : 1 ≤ tk + 1 := Nat.succ_le_succ (Nat.zero_le _)
  generalize tk + 1 = z at hz ⊢
  (repeat (first | walk1 | (dsimp only; walk1)))
  exact ⟨_, _, rfl, hz, F.keep, rfl⟩
theorem convN_spec (R : Room A 3) (X : (hd.heap_1 w.params).In s.heap) (T : TT mean mg mb s.heap) (x : PySem.Str) (t : Tok) (self : Addr) (hx : Clean badN x) :
    wpAny (model PG w) A (call (.ref 76) [.ref self, .str x t] [(PySem.Str.ofString "name", .bool true)]) (Ret s fun v _ => v = .str x t) NoE s := wpAny_mono (convN_spec1 R X T x t self hx) (fun _ _ h => h.ret) fun _ _ e => e
theorem convV_spec (R : Room A 3) (X : (hd.heap_1 w.params).In s.heap) (T : TT mean mg mb s.heap) (x : PySem.Str) (t : Tok) (self : Addr) (hx : Clean badV x) :
    wpAny (model PG w) A (call (.ref 76) [.ref self, .str x t] [(PySem.Str.ofString "name", .bool false)]) (Ret s fun v _ => v = .str x t) NoE s := wpAny_mono (convV_spec1 R X T x t self hx) (fun _ _ h => h.ret) fun _ _ e => e
end
end Mine
end
section
namespace Mine
structure Tbl (w : World) (h : Heap) (tb dx hl : Addr) (tk : Tok) : Prop where
  inst : h.get? tb = some (instObj 175 dx)
  dict : h.get? dx = some (dictOf [⟨PyData.keyHash w.params (PySem.Str.ofString "_headers"), .str (PySem.Str.ofString "_headers") tk, .ref hl⟩] 1)
theorem Tbl.keeps {w : World} {h h' : Heap} {tb dx hl : Addr} {tk : Tok} (B : Tbl w h tb dx hl tk) (k : h.StaysIn h') : Tbl w h' tb dx hl tk := ⟨k _ _ B.inst, k _ _ B.dict⟩
theorem Tbl.at {w : World} {h₀ h : Heap} {L tb dx hl : Addr} {tk : Tok} {m : PySem.Str → Option Value} (B : Tbl w h₀ tb dx hl tk) (F : Fr h₀ L h m) :
    InstAt h tb (instObj 175 dx) 175 (some (dictOf [⟨PyData.keyHash w.params (PySem.Str.ofString "_headers"), .str (PySem.Str.ofString "_headers") tk, .ref hl⟩] 1)) :=
  ⟨F.keep _ _ B.inst, rfl, rfl, F.keep _ _ B.dict⟩
local macro_rules | `(tactic| k_inst) => `(tactic| exact Tbl.at (by assumption) (by k_asm))
theorem use_ret {M : Model} {A : Around} {E : Value → Shared → Prop} {s : Shared} {h₀ : Heap} {L : Addr} {m : PySem.Str → Option Value} {news : List (Addr × Obj)} {t : Sem Value} {P : Value → Heap → Prop} {Q : Value → Shared → Prop}
    (h : wpAny M A t (Ret s P) NoE s) (F : Fr h₀ L s.heap m) (N : News h₀ L s.heap news)
    (k : ∀ v h' tk', P v h' → s.heap.StaysIn h' → Fr h₀ L h' m → News h₀ L h' news → Q v { s with heap := h', toks := tk' }) : wpAny M A t Q E s := by
  refine wpAny_mono h (fun v s' q => ?_) (fun _ _ x => x.elim)
  obtain ⟨h', tk', rfl, hk, hp⟩ := q
  exact k v h' tk' hp hk ⟨F.ns.keeps hk, fun b o e => hk b o (F.keep b o e), F.above⟩ (fun p hp => ⟨hk _ _ (N p hp).1, (N p hp).2⟩)
local macro_rules | `(tactic| walk_at "call ref") => `(tactic| (
  (show wpAny _ _ (call (Value.ref 76) [Value.ref _, Value.str _ _] [(PySem.Str.ofString "name", Value.bool true)]) _ _ _);
  refine' use_ret (convN_spec ?R ?X ?T _ _ _ ?C) ?F ?N ?_;
  (case F => k_asm); (case N => k_asm); (case X => exact Frag.In.keeps (by k_asm) (Fr.keep (by k_asm)));
  (case T => exact Top.keeps (by k_asm) (Fr.keep (by k_asm)));
  (case R => exact Room.less (Room.deeper (by assumption) _) (by decide));
  (case C => assumption);
  intro v' h' tk' e' hk' F' N'; subst e'; (try k_sweep)))
theorem map_again {α : Type} {a b c d : Option α} {m : PySem.Str → Option α} (k v : PySem.Str) :
    (fun z => if z = v then c else if z = k then d else (if z = v then a else if z = k then b else m z)) = fun z => if z = v then c else if z = k then d else m z := by
  funext z
  by_cases h1 : z = v
  · simp only [if_pos h1]
  · by_cases h2 : z = k
    · simp only [if_neg h1, if_pos h2]
    · simp only [if_neg h1, if_neg h2]
section
variable {w : World} {A : Around} {s : Shared} {mean : ExcName → Option Value} {mg mb : PySem.Str → Option Value} {tb dx hl : Addr} {tk₀ : Tok}
set_option maxRecDepth 100000 in
set_option maxHeartbeats 8000000 in
theorem items_spec (R : Room A 3) (X : (hd.heap_1 w.params).In s.heap) (T : TT mean mg mb s.heap) (B : Tbl w s.heap tb dx hl tk₀) (vs : List Value) (hl' : s.heap.IsList hl vs.toArray) (hz : vs.length ≤ 1000) :
    wpAny (model PG w) A (call (.ref 139) [.ref tb]) (Ret s fun v h' => ∃ a, v = .ref a ∧ s.heap.get? a = none ∧ h'.get? a = some (listOf vs.toArray 0)) NoE s := by
  refine call_pure [(PySem.Str.ofString "self", .ref tb)] R X T.nolimit (by k_is) (by k_is) (BindsTo.of_eq rfl) (locs rfl) ?_
  intro L h₁ tk F
  have N : News s.heap L h₁ [] := News.nil
  iterate 11 (first | walk1 | (dsimp only; walk1))
  dsimp only
  refine' kms_slice_lit (s := { s with heap := h₁, toks := tk + 1 }) (its := vs.toArray) (zs := vs) ?F ?N ?l ?p ?q ?e ?_ ?s ?t ?z
  case F => exact F
  case N => exact N
  case l => exact hl'.at fun o e => F.keep _ _ e
  case p => exact .none
  case q => exact .none
  case e => simp [kms_pick, kms_lo, kms_hi]
  case s => with_unfolding_all rfl
  case t => exact fun _ => rfl
  case z => simp; exact Nat.le_trans hz (by decide)
  intro D h' F' N' _
  dsimp only
  exact ⟨_, _, rfl, F'.keep, D, rfl, (N' _ (.head _)).2.2, (N' _ (.head _)).1⟩
set_option maxRecDepth 100000 in
set_option maxHeartbeats 8000000 in
theorem len_spec (R : Room A 3) (X : (hd.heap_1 w.params).In s.heap) (T : TT mean mg mb s.heap) (B : Tbl w s.heap tb dx hl tk₀) (vs : List Value) (hl' : s.heap.IsList hl vs.toArray) (hz : vs.length ≤ 1000) :
    wpAny (model PG w) A (call (.ref 83) [.ref tb]) (Ret s fun v _ => ∃ t, v = .int vs.length t) NoE s := by
  refine call_pure [(PySem.Str.ofString "self", .ref tb)] R X T.nolimit (by k_is) (by k_is) (BindsTo.of_eq rfl) (locs rfl) ?_
  intro L h₁ tk F
  have N : News s.heap L h₁ [] := News.nil
  iterate 10 (first | walk1 | (dsimp only; walk1))
  refine' Calls.call_len_list (items := vs.toArray) ?l ?f ?_
  case l => exact hl'.at fun o e => F.keep _ _ e
  case f => simp; omega
  (repeat (first | walk1 | (dsimp only; walk1)))
  rw [show (vs.toArray.size : Int) = vs.length by simp]
  exact ⟨_, _, rfl, F.keep, _, rfl⟩
def getOf (ps : List (PySem.Str × PySem.Str)) (x : PySem.Str) : Option PySem.Str := (ps.find? fun p => decide (Txt.lower p.1 = Txt.lower x)).map (·.2)
def Found (ps : List (PySem.Str × PySem.Str)) (x : PySem.Str) (d v : Value) : Prop := match getOf ps x with
  | some y => ∃ t, v = .str y t
  | none => v = d
theorem getOf_hit {ps : List (PySem.Str × PySem.Str)} {x : PySem.Str} {i : Nat} {p : PySem.Str × PySem.Str} (hp : ps[i]? = some p) (h : ∀ (j : Nat) (q : PySem.Str × PySem.Str), j < i → ps[j]? = some q → Txt.lower q.1 ≠ Txt.lower x) (e : Txt.lower p.1 = Txt.lower x) : getOf ps x = some p.2 := by
  unfold getOf
  induction ps generalizing i with
  | nil => cases hp
  | cons q r ih =>
    cases i with
    | zero => simp only [List.getElem?_cons_zero, Option.some.injEq] at hp; subst hp; simp [e]
    | succ i =>
      rw [List.find?_cons_of_neg (by simpa using h 0 q (Nat.zero_lt_succ _) rfl)]
      exact ih (by simpa using hp) fun j q' hj hq => h (j + 1) q' (by omega) (by simpa using hq)
theorem getOf_miss {ps : List (PySem.Str × PySem.Str)} {x : PySem.Str} (h : ∀ (j : Nat) (q : PySem.Str × PySem.Str), ps[j]? = some q → Txt.lower q.1 ≠ Txt.lower x) : getOf ps x = none := by
  unfold getOf
  rw [Option.map_eq_none_iff, List.find?_eq_none]
  intro q hq
  obtain ⟨j, hj⟩ := List.getElem?_of_mem hq
  simpa using h j q hj
set_option maxRecDepth 100000 in
set_option maxHeartbeats 8000000 in
theorem get_spec (R : Room A 5) (X : (hd.heap_1 w.params).In s.heap) (T : TT mean mg mb s.heap) (B : Tbl w s.heap tb dx hl tk₀) (vs : List Value) (hl' : s.heap.IsList hl vs.toArray) (ps : List (PySem.Str × PySem.Str)) (hps : AtAll s.heap vs (ps.map pairD)) (hpl : ∀ p ∈ ps, p.1.length ≤ 1000)
    (x : PySem.Str) (t : Tok) (d : Value) (hxl : x.length ≤ 1000) (hxc : Clean badN (Txt.lower x)) (vals : List Value) (hvals : vals = [.ref tb, .str x t, d] ∨ (vals = [.ref tb, .str x t] ∧ d = .none)) :
    wpAny (model PG w) A (call (.ref 122) vals) (Ret s fun v _ => Found ps x d v) NoE s := by
  refine call_pure [(PySem.Str.ofString "self", .ref tb), (PySem.Str.ofString "name", .str x t), (PySem.Str.ofString "default", d)] R X T.nolimit (by k_is) (by k_is) ?hb (locs rfl) ?_
  case hb => rcases hvals with rfl | ⟨rfl, rfl⟩ <;> exact binds_K X rfl (by k_is) rfl rfl rfl
  intro L h₁ tk0 F
  have N : News s.heap L h₁ [] := News.nil
  have hh : A.handled = none := R.handled
  iterate 21 (first | walk1 | (dsimp only; walk1))
  refine wpAny_For ?_
  iterate 3 (first | walk1 | (dsimp only; walk1))
  rename Fr _ _ _ _ => F
  rename News _ _ _ _ => N
  refine for_list (items := vs) (fun i m' news' => news' = [] ∧ (∀ j q, j < i → ps[j]? = some q → Txt.lower q.1 ≠ Txt.lower x) ∧ ∃ a b, m' = fun z => if z = PySem.Str.ofString "v" then a else if z = PySem.Str.ofString "k" then b else
      if z = PySem.Str.ofString "name" then some (.str (Txt.lower x) tk0) else List.lookup z [(PySem.Str.ofString "self", Value.ref tb), (PySem.Str.ofString "name", Value.str x t), (PySem.Str.ofString "default", d)].reverse) hh hl' F N ?h0 ?turn ?done ?ht
  case h0 => exact ⟨rfl, fun j q hj => absurd hj (Nat.not_lt_zero _), none, none, by
    funext z
    by_cases h1 : z = PySem.Str.ofString "v"
    · subst h1; rfl
    · by_cases h2 : z = PySem.Str.ofString "k"
      · subst h2; rfl
      · simp only [if_neg h1, if_neg h2]⟩
  case ht => exact owned_list ⟨_, _, _, rfl⟩ (fun v hv => by
    obtain ⟨i, hi⟩ := List.getElem?_of_mem hv
    obtain ⟨d', h1, h2⟩ := hps.get hi
    rw [List.getElem?_map] at h1
    obtain ⟨p, _, rfl⟩ := Option.map_eq_some_iff.mp h1
    obtain ⟨a, _, _, e, _⟩ := h2.pair
    exact ⟨a, e⟩)
  case done =>
    rintro h tk' m' news' ⟨rfl, hj, a, b, rfl⟩ F' N'
    have hlen : vs.length = ps.length := by simpa using hps.length
    iterate 4 walk1
    refine ⟨_, _, rfl, F'.keep, ?_⟩
    show Found ps x d d
    unfold Found
    rw [getOf_miss fun j q hq => hj j q (hlen ▸ (List.getElem?_eq_some_iff.mp hq).1) hq]
  case turn =>
    rintro i v m' news' I oI h tk' hv ⟨rfl, hj, a, b, rfl⟩ hit F' N' hn
    obtain ⟨d', h1, h2⟩ := hps.get hv
    rw [List.getElem?_map] at h1
    obtain ⟨p, hp, rfl⟩ := Option.map_eq_some_iff.mp h1
    obtain ⟨a2, t1, u1, rfl, htup⟩ := h2.pair
    have hpl1 : p.1.length ≤ 1000 := hpl p (List.mem_of_getElem? hp)
    clear F N
    refine assign_pair hh F' N' (htup.at fun o e => F'.keep _ _ e) ?_
    intro h3 tk3 F3 N3
    iterate 12 (first | walk1 | (dsimp only; walk1))
    · rename (Txt.lower p.1 == Txt.lower x) = true => he
      iterate 4 (first | walk1 | (dsimp only; walk1))
      refine ⟨_, _, rfl, F3.keep, ?_⟩
      show Found ps x d (.str p.2 u1)
      unfold Found
      rw [getOf_hit hp hj (by simpa using he)]
      exact ⟨_, rfl⟩
    · rename (Txt.lower p.1 == Txt.lower x) = false => he
      iterate 3 (first | walk1 | (dsimp only; walk1))
      refine ⟨h3, _, _, [], rfl, F3, N3, (fun p hp => nomatch hp), rfl, ?_, some (.str p.2 u1), some (.str p.1 t1), map_again _ _⟩
      intro j q hj' hq
      rcases Nat.lt_succ_iff_lt_or_eq.mp hj' with h | rfl
      · exact hj j q h hq
      · rw [hp] at hq; cases hq; simpa using he
local macro_rules | `(tactic| walk_at "call ref") => `(tactic| (
  (show wpAny _ _ (call (Value.ref 122) [Value.ref _, Value.str _ _] []) _ _ _);
  refine' use_ret (get_spec ?R ?X ?T ?B _ ?l _ ?ps ?pl _ _ _ ?xl ?xc _ (Or.inr ⟨rfl, rfl⟩)) ?F ?N ?_;
  (case F => k_asm); (case N => k_asm); (case X => exact Frag.In.keeps (by k_asm) (Fr.keep (by k_asm)));
  (case T => exact Top.keeps (by k_asm) (Fr.keep (by k_asm)));
  (case R => exact Room.less (Room.deeper (by assumption) _) (by decide));
  (case B => exact Tbl.keeps (by assumption) (Fr.keep (by k_asm)));
  (case l => exact stays_list (Fr.keep (by k_asm)) (by assumption));
  (case ps => exact AtAll.keeps (by assumption) (Fr.keep (by k_asm)));
  (case pl => assumption);
  (case xl => assumption); (case xc => assumption);
  intro v' h' tk' e' hk' F' N'; (try k_sweep)))
set_option maxRecDepth 100000 in
set_option maxHeartbeats 8000000 in
theorem item_spec (R : Room A 7) (X : (hd.heap_1 w.params).In s.heap) (T : TT mean mg mb s.heap) (B : Tbl w s.heap tb dx hl tk₀) (vs : List Value) (hl' : s.heap.IsList hl vs.toArray) (ps : List (PySem.Str × PySem.Str)) (hps : AtAll s.heap vs (ps.map pairD)) (hpl : ∀ p ∈ ps, p.1.length ≤ 1000)
    (x : PySem.Str) (t : Tok) (hxl : x.length ≤ 1000) (hxc : Clean badN (Txt.lower x)) :
    wpAny (model PG w) A (call (.ref 102) [.ref tb, .str x t]) (Ret s fun v _ => Found ps x .none v) NoE s := by
  refine call_pure [(PySem.Str.ofString "self", .ref tb), (PySem.Str.ofString "name", .str x t)] R X T.nolimit (by k_is) (by k_is) (BindsTo.of_eq rfl) (locs rfl) ?_
  intro L h₁ tk0 F
  have N : News s.heap L h₁ [] := News.nil
  (repeat (first | walk1 | (dsimp only; walk1)))
  exact ⟨_, _, rfl, Fr.keep (by assumption), by assumption⟩
set_option maxRecDepth 100000 in
set_option maxHeartbeats 8000000 in
theorem contains_spec (R : Room A 7) (X : (hd.heap_1 w.params).In s.heap) (T : TT mean mg mb s.heap) (B : Tbl w s.heap tb dx hl tk₀) (vs : List Value) (hl' : s.heap.IsList hl vs.toArray) (ps : List (PySem.Str × PySem.Str)) (hps : AtAll s.heap vs (ps.map pairD)) (hpl : ∀ p ∈ ps, p.1.length ≤ 1000)
    (x : PySem.Str) (t : Tok) (hxl : x.length ≤ 1000) (hxc : Clean badN (Txt.lower x)) :
    wpAny (model PG w) A (call (.ref 109) [.ref tb, .str x t]) (Ret s fun v _ => v = .bool (getOf ps x).isSome) NoE s := by
  refine call_pure [(PySem.Str.ofString "self", .ref tb), (PySem.Str.ofString "name", .str x t)] R X T.nolimit (by k_is) (by k_is) (BindsTo.of_eq rfl) (locs rfl) ?_
  intro L h₁ tk0 F
  have N : News s.heap L h₁ [] := News.nil
  iterate 13 (first | walk1 | (dsimp only; walk1))
  rename Found _ _ _ _ => hf
  unfold Found at hf
  cases hg : getOf ps x with
  | none =>
    rw [hg] at hf
    subst hf
    (repeat (first | walk1 | (dsimp only; walk1)))
    exact ⟨_, _, rfl, Fr.keep (by assumption), rfl⟩
  | some y =>
    rw [hg] at hf
    obtain ⟨u, hf⟩ := hf
    subst hf
    (repeat (first | walk1 | (dsimp only; walk1)))
    exact ⟨_, _, rfl, Fr.keep (by assumption), rfl⟩
end
end Mine
end
section
namespace Mine
section
variable {prog : Program} {w : World} {A : Around} {E : Value → Shared → Prop} {s : Shared} {env : Env}
abbrev testsOf (ifs : List Expr) (env : Env) : Sem Bool :=
  forIn ifs true fun c r => if r = true then do let ok ← isTrue c env (eval c env); pure (ForInStep.yield ok) else pure (ForInStep.yield r)
theorem compLoop_any {R : Result → Shared → Prop} {elt target iter : Expr} {ifs : List Expr} {scope : Scope} {pos : Pos} {it acc : Value} (I : Nat → Shared → Prop)
    (turn : ∀ n s, I n s → wpAny (model prog w) A (pyNext it) (fun r s₁ => match r with
      | none => R (.ok .next) s₁
      | some v => wpAny (model prog w) A (letOwnedTupleGo target it v) (fun _ s₁' => wpAny (model prog w) A (assign target env v) (fun _ s₂ =>
          wpAny (model prog w) A (testsOf ifs env) (fun ok s₃ =>
            if ok = true then wpAny (model prog w) A (eval elt env) (fun x s₄ =>
              wpAny (model prog w) A (call (.builtin "list.append") [acc, x]) (fun _ s₅ => ∃ m, m < n ∧ I m s₅) NoE s₄) NoE s₃
            else ∃ m, m < n ∧ I m s₃) NoE s₂) NoE s₁') NoE s₁) NoE s)
    (n : Nat) (h : I n s) : codeAny (model prog w) A (.compLoop (.ListComp elt [⟨target, iter, ifs, 0⟩] scope pos) 0 it acc env) R s := by
  have nope : ∀ (e : Value) (s' : Shared), NoE e s' → notedBy (model prog w) A env (fun e s' => R (.error e) s') e s' := fun _ _ h => h.elim
  refine codeAny_loop rfl I (fun n s hI => ?_) n h
  show wpAny _ A ((compTurn (.ListComp elt [⟨target, iter, ifs, 0⟩] scope pos) 0 it acc env).onRaise (fun x => do noteFrame x env; theTreesLotGoes x)) _ _ s
  refine wpAny_noted ?_
  rw [compTurn_list]
  refine wpAny_bind (wpAny_standAt (wpAny_bind (wpAny_mono (turn n s hI) (fun r s₁ h₁ => ?_) nope)))
  cases r with
  | none => exact wpAny_pure h₁
  | some v =>
    refine wpAny_bind (wpAny_mono h₁ (fun _ s₁' h₁' => ?_) nope)
    refine wpAny_bind (wpAny_mono h₁' (fun _ s₂ h₂ => wpAny_bind (wpAny_mono h₂ (fun ok s₃ h₃ => ?_) nope)) nope)
    cases ok with
    | false => exact wpAny_pure ⟨rfl, h₃⟩
    | true =>
      exact wpAny_bind (wpAny_bind (wpAny_mono h₃ (fun x s₄ h₄ => wpAny_bind (wpAny_mono h₄ (fun _ s₅ h₅ => wpAny_pure (wpAny_pure ⟨rfl, h₅⟩)) nope)) nope))

def Bears (H : Heap) (made : List (Addr × Obj)) (ys : List Value) (ds : List PyData) : Prop :=
  ∀ h, H.StaysIn h → (∀ p ∈ made, h.get? p.1 = some p.2) → AtAll h ys ds
def CompTurn (prog : Program) (w : World) (A : Around) (H : Heap) (s : Shared) (target elt : Expr) (ifs : List Expr) (cenv : Env) {α : Type} (dt : α → PyData) (ds : List α) (P : α → Bool) (g : α → PyData) : Prop :=
  ∀ (v : Value) (d : α) (h : Heap) (tk : Nat) (m : PySem.Str → Option Value) (led : List (Addr × Obj)), d ∈ ds → At H v (dt d) → Fr H cenv.locals h m → News H cenv.locals h led →
    wpAny (model prog w) A (assign target cenv v) (fun _ s₂ => wpAny (model prog w) A (testsOf ifs cenv) (fun ok s₃ => ok = P d ∧
      (P d = true → wpAny (model prog w) A (eval elt cenv) (fun y s₄ => ∃ h' tk' m' add, s₄ = { s with heap := h', toks := tk' } ∧ Fr H cenv.locals h' m' ∧ News H cenv.locals h' (add ++ led) ∧ (∀ p ∈ add, ∀ q ∈ led, p.1 ≠ q.1) ∧ Bears H add [y] [g d]) NoE s₃) ∧
      (P d = false → ∃ h' tk' m', s₃ = { s with heap := h', toks := tk' } ∧ Fr H cenv.locals h' m' ∧ News H cenv.locals h' led)) NoE s₂) NoE { s with heap := h, toks := tk }

def CompTurnV (prog : Program) (w : World) (A : Around) (H : Heap) (s : Shared) (target elt : Expr) (ifs : List Expr) (cenv : Env) {α : Type} (dt : α → PyData) (ds : List α) (P : α → Bool) (g : α → PyData) (vs : List Value) (V : Value → Prop) : Prop :=
  ∀ (v : Value) (d : α) (h : Heap) (tk : Nat) (m : PySem.Str → Option Value) (led : List (Addr × Obj)), v ∈ vs → d ∈ ds → At H v (dt d) → Fr H cenv.locals h m → News H cenv.locals h led →
    wpAny (model prog w) A (assign target cenv v) (fun _ s₂ => wpAny (model prog w) A (testsOf ifs cenv) (fun ok s₃ => ok = P d ∧
      (P d = true → wpAny (model prog w) A (eval elt cenv) (fun y s₄ => ∃ h' tk' m' add, s₄ = { s with heap := h', toks := tk' } ∧ Fr H cenv.locals h' m' ∧ News H cenv.locals h' (add ++ led) ∧ (∀ p ∈ add, ∀ q ∈ led, p.1 ≠ q.1) ∧ Bears H add [y] [g d] ∧ V y) NoE s₃) ∧
      (P d = false → ∃ h' tk' m', s₃ = { s with heap := h', toks := tk' } ∧ Fr H cenv.locals h' m' ∧ News H cenv.locals h' led)) NoE s₂) NoE { s with heap := h, toks := tk }

theorem CompTurn.toV {vs : List Value} {prog : Program} {w : World} {A : Around} {H : Heap} {s : Shared} {target elt : Expr} {ifs : List Expr} {cenv : Env} {α : Type} {dt : α → PyData} {ds : List α} {P : α → Bool} {g : α → PyData} (h : CompTurn prog w A H s target elt ifs cenv dt ds P g) : CompTurnV prog w A H s target elt ifs cenv dt ds P g vs (fun _ => True) := by
  intro v d h' tk m led _ hd hat F N
  refine wpAny_mono (h v d h' tk m led hd hat F N) (fun _ s₂ h₂ => wpAny_mono h₂ (fun ok s₃ h₃ => ?_) fun _ _ e => e) fun _ _ e => e
  obtain ⟨h1, h2, h3⟩ := h₃
  refine ⟨h1, fun hp => wpAny_mono (h2 hp) (fun y s₄ h₄ => ?_) fun _ _ e => e, h3⟩
  obtain ⟨h', tk', m', add, e1, e2, e3, e4, e5⟩ := h₄
  exact ⟨h', tk', m', add, e1, e2, e3, e4, e5, trivial⟩

theorem comp_core {elt target iter : Expr} {ifs : List Expr} {scope : Scope} {cl : List (PySem.Str × Addr)} {pos : Pos} {RR : Value → Addr → Result → Shared → Prop} {s₁ : Shared} {l : Addr} {vs : List Value} {α : Type} (dt : α → PyData) {ds : List α} (P : α → Bool) (g : α → PyData) (V : Value → Prop)
    (hh : A.handled = none) (hcell : ∀ y ∈ scope.names, y.2 ≠ .cell) (hkind : scope.kind = .function) (hl : s₁.heap.IsList l (List.toArray vs)) (hds : AtAll s₁.heap vs (ds.map dt)) (hz : vs.length ≤ 1000)
    (hown : ∀ (I : Addr) (v : Value) (s₂ : Shared) (i : Nat) (Q : Unit → Shared → Prop), s₂.heap.IsListIter I l i → v ∈ vs → Q () s₂ → wpAny (model prog w) A (letOwnedTupleGo target (.ref I) v) Q NoE s₂)
    (hturn : ∀ C, CompTurnV prog w A s₁.heap s₁ target elt ifs (compEnvC scope cl C env) dt ds P g vs V)
    (hRR : ∀ D C h' tk m' ys n, (∀ y ∈ ys, V y) → s₁.heap.get? D = none → s₁.heap.get? C = none → D ≠ C → h'.Ns C m' → h'.get? D = some (listOf (List.toArray ys) n) →
      (∀ h'', s₁.heap.StaysIn h'' → (∀ b o, b ≠ C → s₁.heap.get? b = none → h'.get? b = some o → b ≠ D → h''.get? b = some o) → AtAll h'' ys ((ds.filter P).map g)) → s₁.heap.StaysIn h' → RR (.ref D) C (.ok .next) { s₁ with heap := h', toks := tk }) :
    wpAny (model prog w) A (pyIter (.ref l)) (fun it s₂ => wpAny (model prog w) A (newList []) (fun acc s₃ => wpAny (model prog w) A (newFunctionEnv scope env.globals cl [] env.qual none .none (some env)) (fun cenv s₄ =>
      codeAny (model prog w) A (.compStart (.ListComp elt [⟨target, iter, ifs, 0⟩] scope pos) 0 it acc { cenv with scope := relabel scope env }) (RR acc cenv.locals) s₄) E s₃) E s₂) E s₁ := by
  refine wpAny_pyIter_list hl ?_
  have hlt : l < s₁.heap.objs.size := by obtain ⟨o, ho, _⟩ := hl; exact Heap.lt_size ho
  refine wpAny_newObj_type (wpAny_newFunctionEnv hcell (by intro y hy; simp at hy) (fun h₁ hns₁ hsb₁ => ?_) hkind)
  dsimp only at hns₁ hsb₁ ⊢
  generalize hH1 : s₁.heap.push { cls := .type "list_iterator", data := .fields #[.ref l, .int 0 0] } = H1 at hns₁ hsb₁ ⊢
  generalize hH2 : H1.push { cls := .type "list", dict := none, data := .seq ([] : List Value).toArray } = H2 at hns₁ hsb₁ ⊢
  have hD : H1.objs.size = s₁.heap.objs.size + 1 := by rw [← hH1, Heap.size_push]
  have hC : H2.objs.size = s₁.heap.objs.size + 2 := by rw [← hH2, Heap.size_push, hD]
  have hI0 : h₁.IsListIter s₁.heap.objs.size l 0 := ⟨_, hsb₁.extBut _ _ (by rw [hC]; exact Nat.ne_of_lt (Nat.lt_add_of_pos_right (by decide))) (Heap.get?_push_of_some _ (hH2 ▸ Heap.get?_push_of_some _ (hH1 ▸ Heap.get?_push_size _ rfl))), rfl, rfl⟩
  have hD0 : h₁.get? H1.objs.size = some (listOf (List.toArray ([] : List Value)) 0) := hsb₁.extBut _ _ (by rw [hC, hD]; exact Nat.ne_of_lt (Nat.lt_succ_self _)) (Heap.get?_push_of_some _ (hH2 ▸ Heap.get?_push_size _ rfl))
  have old : s₁.heap.StaysIn h₁ := fun b o e => hsb₁.extBut b o (by rw [hC]; exact Nat.ne_of_lt (Nat.lt_add_right 2 (Heap.lt_size e))) (Heap.get?_push_of_some _ (hH2 ▸ Heap.get?_push_of_some _ (hH1 ▸ Heap.get?_push_of_some _ e)))
  have fresh : ∀ a, s₁.heap.objs.size ≤ a → s₁.heap.get? a = none := fun a ha => by
    cases e : s₁.heap.get? a with
    | none => rfl
    | some o' => exact absurd (Heap.lt_size e) (Nat.not_lt.mpr ha)
  generalize hIe : s₁.heap.objs.size = I at *
  generalize hDe : H1.objs.size = D at *
  generalize hCe : H2.objs.size = C at *
  have hCD : C ≠ D := by refine neN ?_; omega
  have hCI : C ≠ I := by refine neN ?_; omega
  have hDI : D ≠ I := by refine neN ?_; omega
  have hvd : vs.length = ds.length := by simpa using hds.length
  have hne : l ≠ I := Nat.ne_of_lt hlt
  have lNone : ∀ {a}, a = I ∨ a = D ∨ a = C → s₁.heap.get? a = none := by
    rintro a (rfl | rfl | rfl)
    · exact fresh _ (Nat.le_refl _)
    · exact fresh _ (by rw [hD]; exact Nat.le_succ _)
    · exact fresh _ (by rw [hC]; exact Nat.le_add_right _ _)
  show codeAny (model prog w) A (.compStart (.ListComp elt [⟨target, iter, ifs, 0⟩] scope pos) 0 (.ref I) (.ref D) (compEnvC scope cl C env)) (RR (.ref D) C) _
  have loop : ∀ s₃ : Shared, s₃ = { s₁ with heap := h₁, toks := s₁.toks + ([] : List (PySem.Str × Value)).length } →
      codeAny (model prog w) A (.compLoop (.ListComp elt [⟨target, iter, ifs, 0⟩] scope pos) 0 (.ref I) (.ref D) (compEnvC scope cl C env)) (RR (.ref D) C) s₃ := by
    rintro s₃ rfl
    refine compLoop_any (fun k s' => ∃ i h tk m ys n made oI, i ≤ vs.length ∧ k = vs.length + 1 - i ∧ s' = { s₁ with heap := h, toks := tk } ∧ h.IsListIter I l i ∧ Fr s₁.heap C h m ∧
      News s₁.heap C h ((D, listOf (List.toArray ys) n) :: (I, oI) :: made) ∧ (∀ p ∈ made, p.1 ≠ D ∧ p.1 ≠ I) ∧ Bears s₁.heap made ys (((ds.take i).filter P).map g) ∧ ys.length ≤ i ∧ (∀ y ∈ ys, V y)) ?_ (vs.length + 1) ?_
    rotate_left
    · obtain ⟨oI, ho, hc, hd⟩ := hI0
      refine ⟨0, h₁, _, _, [], 0, [], oI, Nat.zero_le _, rfl, rfl, ⟨oI, ho, hc, hd⟩, ⟨hns₁, old, by rw [hC, ← hIe]; exact Nat.le_add_right _ _⟩, ?_, (fun p hp => nomatch hp), fun h _ _ => ?_, Nat.zero_le _, fun y hy => nomatch hy⟩
      · intro p hp
        rcases List.mem_cons.mp hp with rfl | hp
        · exact ⟨hD0, hCD.symm, lNone (.inr (.inl rfl))⟩
        · rcases List.mem_cons.mp hp with rfl | hp
          · exact ⟨ho, hCI.symm, lNone (.inl rfl)⟩
          · exact nomatch hp
      · exact .nil
    · rintro k s' ⟨i, h, tk, m, ys, n, made, oI, hi, rfl, rfl, hit, F, N, hmd, hB, hyl, hV⟩
      have hlst : h.IsList l vs.toArray := hl.at fun o e => F.keep _ _ e
      rcases Nat.eq_or_lt_of_le hi with rfl | hlt'
      · refine wpAny_pyNext_list_end hh hit hlst (by simp) fun h' he' => ?_
        have hk : s₁.heap.StaysIn h' := fun b o e => he' b o (by rintro rfl; rw [lNone (.inl rfl)] at e; cases e) (F.keep b o e)
        have hn : h'.Ns C m := by
          obtain ⟨o, es, ep, ho, r⟩ := F.ns
          exact ⟨o, es, ep, he' _ _ hCI ho, r⟩
        refine hRR D C h' tk m ys n hV (lNone (.inr (.inl rfl))) (lNone (.inr (.inr rfl))) hCD.symm hn (he' _ _ hDI (N _ (.head _)).1) (fun h'' hk2 hb => ?_) hk
        have := hB h'' hk2 fun p hp => hb _ _ (N p (.tail _ (.tail _ hp))).2.1 (N p (.tail _ (.tail _ hp))).2.2 (he' _ _ (hmd p hp).2 (N p (.tail _ (.tail _ hp))).1) (hmd p hp).1
        rwa [List.take_of_length_le (Nat.le_of_eq hvd.symm)] at this
      · have hv : vs[i]? = some (vs[i]'hlt') := List.getElem?_eq_getElem hlt'
        generalize vs[i]'hlt' = v at hv
        obtain ⟨d', hd', hat⟩ := hds.get hv
        rw [List.getElem?_map] at hd'
        obtain ⟨d, hd, rfl⟩ := Option.map_eq_some_iff.mp hd'
        clear hd'
        refine wpAny_pyNext_list_item hit hlst (x := v) (by simpa using hv) fun h' hit' hs' => ?_
        have F' := F.change hs' hCI.symm (lNone (.inl rfl))
        obtain ⟨oI', ho', hc', hd'⟩ := id hit'
        have N' : News s₁.heap C h' ((D, listOf (List.toArray ys) n) :: (I, oI') :: made) := by
          intro p hp
          rcases List.mem_cons.mp hp with rfl | hp
          · exact ⟨(hs'.2 _ hDI).trans (N _ (.head _)).1, (N _ (.head _)).2⟩
          · rcases List.mem_cons.mp hp with rfl | hp
            · exact ⟨ho', hCI.symm, lNone (.inl rfl)⟩
            · exact ⟨(hs'.2 _ (hmd p hp).2).trans (N p (.tail _ (.tail _ hp))).1, (N p (.tail _ (.tail _ hp))).2⟩
        refine hown I v _ (i + 1) _ hit' (List.mem_of_getElem? hv) ?_
        have htk : (ds.take (i + 1)) = ds.take i ++ [d] := by simp [List.take_add_one, hd]
        refine wpAny_mono (hturn C v d h' tk m _ (List.mem_of_getElem? hv) (List.mem_of_getElem? hd) hat F' N') (fun _ s₂ h₂ => wpAny_mono h₂ (fun ok s₃ h₃ => ?_) fun _ _ e => e) fun _ _ e => e
        obtain ⟨rfl, hT, hF⟩ := h₃
        cases hp : P d with
        | false =>
          obtain ⟨h3, tk3, m3, rfl, F3, N3⟩ := hF hp
          refine ⟨vs.length + 1 - (i + 1), by omega, i + 1, h3, tk3, m3, ys, n, made, oI', hlt', rfl, rfl, ⟨oI', (N3 _ (.tail _ (.head _))).1, hc', hd'⟩, F3, N3, hmd, ?_, by omega, hV⟩
          rw [htk, List.filter_append, List.filter_cons_of_neg (by simp [hp]), List.filter_nil, List.append_nil]
          exact hB
        | true =>
          refine wpAny_mono (hT hp) (fun y s₄ h₄ => ?_) fun _ _ e => e
          obtain ⟨h4, tk4, m4, add, rfl, F4, N4, hadd, hBy, hVy⟩ := h₄
          have hDm := N4 (D, listOf (List.toArray ys) n) (List.mem_append_right _ (.head _))
          refine append_at hDm.1 (fun h5 hs5 ho5 => ?_) (by simp; exact Nat.le_trans hyl (Nat.le_trans hi (Nat.le_trans hz (by decide))))
          have F5 := F4.change hs5 hDm.2.1 hDm.2.2
          refine ⟨vs.length + 1 - (i + 1), by omega, i + 1, h5, tk4, m4, ys ++ [y], n + 1, add ++ made, oI', hlt', rfl, rfl, ?_, F5, ?_, ?_, ?_, by simp; omega, fun z hz => (List.mem_append.mp hz).elim (hV z) fun q => by rw [List.mem_singleton.mp q]; exact hVy⟩
          · exact ⟨oI', (hs5.2 _ hDI.symm).trans (N4 (I, oI') (List.mem_append_right _ (.tail _ (.head _)))).1, hc', hd'⟩
          · intro p hp'
            rcases List.mem_cons.mp hp' with rfl | hp'
            · exact ⟨by simpa using ho5, hDm.2⟩
            · rcases List.mem_cons.mp hp' with rfl | hp'
              · have z := N4 (I, oI') (List.mem_append_right _ (.tail _ (.head _)))
                exact ⟨(hs5.2 _ hDI.symm).trans z.1, z.2⟩
              · rcases List.mem_append.mp hp' with hp' | hp'
                · have z := N4 p (List.mem_append_left _ hp')
                  exact ⟨(hs5.2 _ (hadd p hp' _ (.head _))).trans z.1, z.2⟩
                · have z := N4 p (List.mem_append_right _ (.tail _ (.tail _ hp')))
                  exact ⟨(hs5.2 _ (hmd p hp').1).trans z.1, z.2⟩
          · intro p hp'
            rcases List.mem_append.mp hp' with hp' | hp'
            · exact ⟨hadd p hp' _ (.head _), hadd p hp' _ (.tail _ (.head _))⟩
            · exact hmd p hp'
          · rw [htk, List.filter_append, List.filter_cons_of_pos (by simp [hp]), List.filter_nil, List.map_append]
            intro h6 hk6 hm6
            exact AtAll.append (hB h6 hk6 fun p hp' => hm6 p (List.mem_append_right _ hp')) (hBy h6 hk6 fun p hp' => hm6 p (List.mem_append_left _ hp'))
  exact codeAny_compStart_list (loop _ rfl) (wpAny_pyIter_listiter hI0 (loop _ rfl))
theorem comp_data {elt target iter : Expr} {ifs : List Expr} {scope : Scope} {cl : List (PySem.Str × Addr)} {pos : Pos} {Q : Value → Shared → Prop} {α : Type} (dt : α → PyData) (P : α → Bool) (g : α → PyData)
    (hh : A.handled = none) (hclos : closureFor scope env = pure cl) (hcell : ∀ y ∈ scope.names, y.2 ≠ .cell) (hkind : scope.kind = .function)
    (hnames : ∀ y ∈ scope.names, y.2 = .local → scope.names.lookup y.1 = some .local)
    (h : wpAny (model prog w) A (eval iter env) (fun xv s₁ => ∃ l vs, ∃ ds : List α, xv = .ref l ∧ s₁.heap.IsList l (List.toArray vs) ∧ AtAll s₁.heap vs (ds.map dt) ∧ vs.length ≤ 1000 ∧
      (∀ (I : Addr) (v : Value) (s₂ : Shared) (i : Nat) (Q : Unit → Shared → Prop), s₂.heap.IsListIter I l i → v ∈ vs → Q () s₂ → wpAny (model prog w) A (letOwnedTupleGo target (.ref I) v) Q NoE s₂) ∧
      (∀ C, CompTurn prog w A s₁.heap s₁ target elt ifs (compEnvC scope cl C env) dt ds P g) ∧
      (∀ D h' tk ys n, s₁.heap.get? D = none → h'.get? D = some (listOf (List.toArray ys) n) → AtAll h' ys ((ds.filter P).map g) → s₁.heap.StaysIn h' → Q (.ref D) { s₁ with heap := h', toks := tk })) E s)
    (hs : ∀ x, foldedSetIterable iter env x = pure x := by intro _; rfl) :
    wpAny (model prog w) A (eval (.ListComp elt [⟨target, iter, ifs, 0⟩] scope pos) env) Q E s := by
  rw [eval_ListComp]
  refine wpAny_comprehension_free (use := none) rfl hs hclos hkind hnames (wpAny_mono h (fun xv s₁ h₁ => ?_) fun _ _ e => e)
  obtain ⟨l, vs, ds, rfl, hl, hds, hz, hown, hturn, hQ⟩ := h₁
  refine comp_core (RR := fun acc C => compPost (model prog w) A E none Q acc C) dt P g (fun _ => True) hh hcell hkind hl hds hz hown (fun C => (hturn C).toV) fun D C h' tk m' ys n _ hD hC hDC hn hL hat hk => ?_
  refine ⟨m', hn, fun h'' hs'' => ?_⟩
  have hk2 : s₁.heap.StaysIn h'' := fun b o e => hs''.extBut b o (by rintro rfl; rw [hC] at e; cases e) (hk b o e)
  exact hQ D h'' tk ys n hD (hs''.extBut _ _ hDC hL) (hat h'' hk2 fun b o hb _ e _ => hs''.extBut b o hb e) hk2
theorem comp_assignV {elt target iter : Expr} {ifs : List Expr} {scope : Scope} {cl : List (PySem.Str × Addr)} {pos spos py : Pos} {y : PySem.Str} {Q : Flow → Shared → Prop} {α : Type} (dt : α → PyData) (P : α → Bool) (g : α → PyData) (V : Value → Prop)
    (hsw : swapsWith (.ListComp elt [⟨target, iter, ifs, 0⟩] scope pos) (some (.Name y py)) spos.line env = pure true)
    (hh : A.handled = none) (hclos : closureFor scope env = pure cl) (hcell : ∀ y ∈ scope.names, y.2 ≠ .cell) (hkind : scope.kind = .function)
    (hnames : ∀ y ∈ scope.names, y.2 = .local → scope.names.lookup y.1 = some .local)
    (hy : env.kindOf y = some .local) (hp : (env.scope.kind == .class || (env.scope.kind == .module && env.locals != env.globals)) = false)
    (h : wpAny (model prog w) A (eval iter env) (fun xv s₁ => ∃ l vs, ∃ ds : List α, ∃ m, xv = .ref l ∧ s₁.heap.IsList l (List.toArray vs) ∧ AtAll s₁.heap vs (ds.map dt) ∧ vs.length ≤ 1000 ∧ s₁.heap.Ns env.locals m ∧ (∀ d ∈ ds, noD (g d) = true) ∧
      (∀ (I : Addr) (v : Value) (s₂ : Shared) (i : Nat) (Q : Unit → Shared → Prop), s₂.heap.IsListIter I l i → v ∈ vs → Q () s₂ → wpAny (model prog w) A (letOwnedTupleGo target (.ref I) v) Q NoE s₂) ∧
      (∀ C, CompTurnV prog w A s₁.heap s₁ target elt ifs (compEnvC scope cl C env) dt ds P g vs V) ∧
      (∀ D h' tk ys n, (∀ y ∈ ys, V y) → s₁.heap.get? D = none → h'.get? D = some (listOf (List.toArray ys) n) → AtAll h' ys ((ds.filter P).map g) → h'.Ns env.locals (fun z => if z = y then some (.ref D) else m z) →
        (∀ b o, b ≠ env.locals → s₁.heap.get? b = some o → h'.get? b = some o) → Q .next { s₁ with heap := h', toks := tk })) E s)
    (hs : ∀ x, foldedSetIterable iter env x = pure x := by intro _; rfl) :
    wpAny (model prog w) A (exec (.Assign [.Name y py] (.ListComp elt [⟨target, iter, ifs, 0⟩] scope pos) spos) env) Q E s := by
  rw [exec_Assign_Name_used _ _ _ _ hsw]
  refine wpAny_bind (wpAny_standAt (wpAny_bind ?_))
  show wpAny _ A (do let _ ← comprehension (.ListComp elt [⟨target, iter, ifs, 0⟩] scope pos) scope env _ (newList []) false (eval iter env) (some (assign (.Name y py) env))) _ _ s
  refine wpAny_bind (wpAny_mono (wpAny_comprehension_free (use := some (assign (.Name y py) env)) (Q := fun _ s' => Q .next s') rfl hs hclos hkind hnames
    (wpAny_mono h (fun xv s₁ h₁ => ?_) fun _ _ e => e)) (fun _ s' hq => wpAny_pure (wpAny_pure hq)) fun _ _ e => e)
  obtain ⟨l, vs, ds, m, rfl, hl, hds, hz, hn, hng, hown, hturn, hQ⟩ := h₁
  refine comp_core (RR := fun acc C => compPost (model prog w) A E (some (assign (.Name y py) env)) (fun _ s' => Q .next s') acc C) dt P g V hh hcell hkind hl hds hz hown hturn fun D C h' tk m' ys n hV hD hC hDC hnC hL hat hk => ?_
  have hLC : env.locals ≠ C := by rintro rfl; obtain ⟨o, _, _, ho, _⟩ := hn; rw [hC] at ho; cases ho
  have hLD : env.locals ≠ D := by rintro rfl; obtain ⟨o, _, _, ho, _⟩ := hn; rw [hD] at ho; cases ho
  show wpAny _ A (assign (.Name y py) env (.ref D)) _ _ _
  refine wpAny_assign_Name (wpAny_storeName_local hy (hn.keeps hk) (fun h₂ hn₂ hs₂ => ?_) hp)
  refine ⟨m', hnC.sameBut hs₂ (Ne.symm hLC), fun h₃ hs₃ => ?_⟩
  refine hQ D h₃ _ ys n hV hD (hs₃.extBut _ _ hDC (hs₂.extBut _ _ hLD.symm hL)) ?_ (hn₂.sameBut hs₃ hLC) fun b o hb e => hs₃.extBut b o (by rintro rfl; rw [hC] at e; cases e) (hs₂.extBut b o hb (hk b o e))
  -- what was made reads on: the frame's own dict is no part of it
  refine AtAll.but (h := h') (S := fun b => b = env.locals ∨ b = C) (fun b o hb e => hs₃.extBut b o (fun q => hb (.inr q)) (hs₂.extBut b o (fun q => hb (.inl q)) e)) ?_ (noDs_of ?_) (hat h' hk fun b o _ _ e _ => e)
  · rintro b (rfl | rfl)
    · exact ns_noSeq (hn.keeps hk)
    · exact ns_noSeq hnC
  · intro d hd
    obtain ⟨d', hd', rfl⟩ := List.mem_map.mp hd
    exact hng d' (List.mem_filter.mp hd').1
end
end Mine
end
section
namespace Mine
theorem str_eqb (x y : PySem.Str) : (x.cps.toList == y.cps.toList) = decide (x = y) := by
  rw [Bool.eq_iff_iff, beq_iff_eq, decide_eq_true_iff]
  constructor
  · intro h
    cases x; cases y
    simp only [PySem.Str.mk.injEq]
    exact Array.toList_inj.mp h
  · rintro rfl; rfl
theorem str_beq (x y : PySem.Str) : (x == y) = decide (x = y) := by
  rw [Bool.eq_iff_iff, beq_iff_eq, decide_eq_true_iff]
theorem News.made {h₀ H h' : Heap} {L D : Addr} {m : PySem.Str → Option Value} {o : Obj} {news : List (Addr × Obj)} (F : Fr h₀ L H m) (N : News h₀ L H news) (hD : H.get? D = none) (k : H.StaysIn h') (ho : h'.get? D = some o) : News h₀ L h' ((D, o) :: news) := by
  intro p hp
  rcases List.mem_cons.mp hp with rfl | hp
  · refine ⟨ho, fun e => ?_, ?_⟩
    · obtain ⟨oL, _, _, hL, _⟩ := F.ns
      have e' : D = L := e
      rw [e', hL] at hD
      cases hD
    · show h₀.get? D = none
      cases q : h₀.get? D with
      | none => rfl
      | some o' => rw [F.keep _ _ q] at hD; cases hD
  · exact ⟨k _ _ (N p hp).1, (N p hp).2⟩
section
variable {M : Model} {A : Around} {E : Value → Shared → Prop} {s : Shared} {env : Env} {scope : Scope} {cl : List (PySem.Str × Addr)} {C : Addr} {H : Heap} {m : PySem.Str → Option Value} {led : List (Addr × Obj)} {x : PySem.Str} {pos : Pos} {v : Value}
theorem ldC {Q : Value → Shared → Prop} (F : Fr H C s.heap m) (hv : m x = some v) (h : Q v s)
    (hk : (compEnvC scope cl C env).scope.kind = .function := by rfl) (hl : (compEnvC scope cl C env).kindOf x = some .local := by rfl) (hd : (x == ("__debug__" : PySem.Str)) = false := by decide) :
    wpAny M A (eval (.Name x pos) (compEnvC scope cl C env)) Q E s := wpAny_Name (wpAny_loadName_local hk hl F.ns hv h) hd
theorem ldCell {c : Addr} {Q : Value → Shared → Prop} (F : Fr H C s.heap m) (hi : H.IsCell c (some v)) (h : Q v s)
    (hc : cl.lookup x = some c := by rfl) (hk : (compEnvC scope cl C env).scope.kind = .function := by rfl) (hl : (compEnvC scope cl C env).kindOf x = some .cell := by rfl) (hd : (x == ("__debug__" : PySem.Str)) = false := by decide) :
    wpAny M A (eval (.Name x pos) (compEnvC scope cl C env)) Q E s := wpAny_Name (wpAny_loadName_cell hk hl hc (hi.keeps F.keep) h) hd
theorem asgC {Q : Unit → Shared → Prop} (F : Fr H C s.heap m) (N : News H C s.heap led)
    (k : ∀ h', Fr H C h' (fun z => if z = x then some v else m z) → News H C h' led → Q () { s with heap := h', toks := s.toks + 1 })
    (hl : (compEnvC scope cl C env).kindOf x = some .local := by rfl) (hp : ((compEnvC scope cl C env).scope.kind == .class || ((compEnvC scope cl C env).scope.kind == .module && C != env.globals)) = false := by rfl) :
    wpAny M A (assign (.Name x pos) (compEnvC scope cl C env) v) Q E s :=
  wpAny_assign_Name (wpAny_storeName_local hl F.ns (fun h' hn hs => k h' (F.set hn hs) (N.set hs)) hp)
theorem asgC2 {prog : Program} {w : World} {a b : PySem.Str} {pa pb : Pos} {c : Nat} {t : Addr} {x y : Value} {Q : Unit → Shared → Prop} (hh : A.handled = none)
    (F : Fr H C s.heap m) (N : News H C s.heap led) (ht : s.heap.IsTuple t #[x, y])
    (k : ∀ h' tk, Fr H C h' (fun z => if z = b then some y else if z = a then some x else m z) → News H C h' led → Q () { s with heap := h', toks := tk })
    (ha : (compEnvC scope cl C env).kindOf a = some .local := by rfl) (hb : (compEnvC scope cl C env).kindOf b = some .local := by rfl)
    (hp : ((compEnvC scope cl C env).scope.kind == .class || ((compEnvC scope cl C env).scope.kind == .module && C != env.globals)) = false := by rfl) :
    wpAny (model prog w) A (assign (.Tuple [.Name a pa, .Name b pb] c pos) (compEnvC scope cl C env) (.ref t)) Q E s := by
  refine wpAny_assign_Tuple hh ht rfl rfl fun h' hx => ?_
  have F1 := Fr.stay F (stay_ext hx)
  have N1 := News.stay N (stay_ext hx)
  show wpAny _ A (do holding [y] (assign (.Name a pa) (compEnvC scope cl C env) x); assignInOrder [assign (.Name b pb) (compEnvC scope cl C env)] [y]) Q E _
  refine wpAny_bind (wpAny_holding (asgC (s := { s with heap := h' }) F1 N1 (fun h2 F2 N2 => ?_) ha hp))
  show wpAny _ A (do holding [] (assign (.Name b pb) (compEnvC scope cl C env) y); assignInOrder [] []) Q E _
  refine wpAny_bind (wpAny_holding (asgC (s := { s with heap := h2, toks := s.toks + 1 }) F2 N2 (fun h3 F3 N3 => ?_) hb hp))
  exact wpAny_pure (k h3 _ F3 N3)
theorem tupItem {prog : Program} {w : World} {value slice : Expr} {t : Addr} {items : List Value} {k : Int} {u : Tok} {j : Nat} {Q : Value → Shared → Prop} (ht : s.heap.IsTuple t items.toArray)
    (hlo : -(2 ^ 63) ≤ k) (hhi : k < 2 ^ 63) (hj : seqIndex? k items.length = some j) (hx : items[j]? = some v) (h : Q v s)
    (hs : subscripted slice false (.ref t) (.int k u) = operate [.ref t, .int k u] (getItem (.ref t) (.int k u)) := by with_unfolding_all rfl) :
    wpAny (model prog w) A (subscriptTail value slice (.ref t) (.int k u)) Q E s := item_tupleT ht hlo hhi hj hx h hs
theorem named_owned {prog : Program} {w : World} {l : Addr} {vs : List Value} {x : PySem.Str} {px : Pos} :
    ∀ (I : Addr) (v : Value) (s₂ : Shared) (i : Nat) (Q : Unit → Shared → Prop), s₂.heap.IsListIter I l i → v ∈ vs → Q () s₂ → wpAny (model prog w) A (letOwnedTupleGo (.Name x px) (.ref I) v) Q NoE s₂ :=
  fun _ _ _ _ _ _ _ hq => wpAny_pure hq
theorem lowerCall {prog : Program} {w : World} {o : Expr} {apos : Pos} {pl : Sem Bool} {Q : Value → Shared → Prop}
    (h : wpAny (model prog w) A (eval o env) (fun ov s₁ => ∃ x t, ov = .str x t ∧ x.length ≤ 1000 ∧ Q (.str (Txt.lower x) s₁.toks) { s₁ with toks := s₁.toks + 1 }) E s) (he : eval (.Call (.Attribute o (PySem.Str.ofString "lower") apos) [] [] pos) env = (do
      let ov ← eval o env
      standAt apos.atName
      let (f, first) ← holding [ov] (getMethod ov (PySem.Str.ofString "lower") pl)
      callWith pos f first (backTo pos (starEach [] env)) []) := by rfl) :
    wpAny (model prog w) A (eval (.Call (.Attribute o (PySem.Str.ofString "lower") apos) [] [] pos) env) Q E s := by
  refine MethodCall_ (wpAny_mono h (fun ov s₁ h₁ => ?_) fun _ _ x => x) he
  obtain ⟨x, t, rfl, hx, hq⟩ := h₁
  with_reducible refine GM.lower ?_
  with_reducible refine callWith_method0 ?_
  exact SCL.lower (Nat.le_trans hx (by decide)) fun _ => hq
end
end Mine
end
section
set_option maxRecDepth 100000
namespace Mine
theorem objs_at {h : Heap} {a : Addr} {o : Obj} (e : h.get? a = some o) : h.objs[a]? = some o := ((Heap.get?_eq_some h a _).mp e).1
theorem hole (h : Heap) (a : Addr) : ∃ g : Heap, g.StaysIn h ∧ g.get? a = none ∧ (∀ b o, b ≠ a → h.get? b = some o → g.get? b = some o) ∧ g.objs.size ≤ h.objs.size := by
  refine ⟨⟨h.objs.setIfInBounds a ⟨.none, none, .freed, #[]⟩, h.life⟩, ?_, ?_, ?_, ?_⟩
  · intro b o e
    have e' := (Heap.get?_eq_some _ _ _).mp e
    by_cases hb : b = a
    · subst hb
      obtain ⟨e1, e2⟩ := e'
      rw [Array.getElem?_setIfInBounds, if_pos rfl] at e1
      split at e1
      · cases e1; cases e2
      · cases e1
    · obtain ⟨e1, e2⟩ := e'
      exact (Heap.get?_eq_some _ _ _).mpr ⟨by rwa [Array.getElem?_setIfInBounds_ne (Ne.symm hb)] at e1, e2⟩
  · cases e : Heap.get? _ a with
    | none => rfl
    | some o =>
      obtain ⟨e1, e2⟩ := (Heap.get?_eq_some _ _ _).mp e
      rw [Array.getElem?_setIfInBounds, if_pos rfl] at e1
      split at e1
      · cases e1; cases e2
      · cases e1
  · intro b o hb e
    obtain ⟨e1, e2⟩ := (Heap.get?_eq_some _ _ _).mp e
    exact (Heap.get?_eq_some _ _ _).mpr ⟨by rwa [Array.getElem?_setIfInBounds_ne (Ne.symm hb)], e2⟩
  · simp
section
variable {prog : Program} {w : World} {A : Around} {E : Value → Shared → Prop} {s : Shared}
theorem setItem_all {l sl v : Addr} {xs ys : Array Value} {n k : Nat} {Q : Unit → Shared → Prop} (hl : s.heap.get? l = some (listOf xs n)) (hs : s.heap.IsSliceOf sl .none .none .none) (hv : s.heap.get? v = some (listOf ys k)) (hlv : l ≠ v)
    (h : ∀ h' n', Heap.SameBut l s.heap h' → h'.get? l = some (listOf ys n') → Q () { s with heap := h' })
    (hx : xs.size ≤ 1000) (hy : ys.size ≤ 1000) : wpAny (model prog w) A (setItem (.ref l) (.ref sl) (.ref v)) Q E s := by
  have hT : s.TypeIs (.ref l) "list" := ⟨_, hl, rfl⟩
  have hTv : s.TypeIs (.ref v) "list" := ⟨_, hv, rfl⟩
  obtain ⟨os, hos, hcs, hds⟩ := id hs
  have hTs : s.TypeIs (.ref sl) "slice" := ⟨os, hos, hcs⟩
  unfold setItem
  refine wpAny_holding ?_
  refine wpAny_bind (wpAny_sequenceKey hT (by decide) ?_)
  refine wpAny_bind (wpAny_callSpecial?_slot (name := PySem.Str.ofString "__setitem__") hT slot_list_setitem
    (wpAny_call_entry slot_list_setitem hT entry_list_setitem ?_ (args_list_setitem _ _ _)))
  show wpAny _ _ (Builtin.List.listSubscript? (.ref sl) >>= _) _ _ s
  refine wpAny_bind ?_
  unfold Builtin.List.listSubscript?
  refine wpAny_bind (wpAny_specialOf hTs slice_no_index ?_)
  simp only [Option.isNone_none, if_true]
  refine wpAny_pure ?_
  show wpAny _ _ (typeOf (.ref sl) >>= _) _ _ s
  refine wpAny_bind (wpAny_typeOf hTs ?_)
  rw [if_neg (by decide)]
  rw [listSliceParts_eq]
  refine wpAny_bind (wpAny_bind (wpAny_field hos hds (x := .none) rfl (wpAny_bind (wpAny_listPart .none ?_))))
  rw [if_neg (by decide)]
  refine wpAny_bind (wpAny_field hos hds (x := .none) rfl (wpAny_bind (wpAny_listPart .none ?_)))
  refine wpAny_bind (wpAny_field hos hds (x := .none) rfl (wpAny_bind (wpAny_listPart .none (wpAny_pure ?_))))
  rw [if_neg (by simpa [Builtin.List.listSameRef] using hlv)]
  refine wpAny_bind (m := Builtin.List.listAllItems _ _) ?_
  unfold Builtin.List.listAllItems
  refine wpAny_bind (wpAny_typeOf hTv ?_)
  rw [if_pos (by decide)]
  refine listItems_at hv rfl ?_
  refine wpAny_bind (listItems_at hl rfl ?_)
  refine wpAny_bind (wpAny_of_eq (sliceIndices_raw none none none xs.size (by decide)) ?_)
  show wpAny _ _ (rule _ >>= _) _ _ s
  refine wpAny_bind (wpAny_rule ?_)
  rw [if_neg (by simp [Builtin.List.listTooLong]; exact Nat.le_trans (Nat.add_le_add hx hy) (by decide))]
  refine wpAny_bind (listUpdate_at hl rfl ?_ (Nat.le_trans hx (by decide)) ?_)
  · refine wpAny_bind (wpAny_letGo (wpAny_pure ⟨_, rfl, wpAny_pure ?_⟩))
    have e : xs.extract 0 (sliceBounds none none none xs.size).1.toNat ++ ys ++ xs.extract (max (sliceBounds none none none xs.size).1 (sliceBounds none none none xs.size).2.1).toNat xs.size = ys := by simp [sliceBounds]
    have z := get?_update_seq (c := "list") hl (fun zs => zs.extract 0 (sliceBounds none none none xs.size).1.toNat ++ ys ++ zs.extract (max (sliceBounds none none none xs.size).1 (sliceBounds none none none xs.size).2.1).toNat zs.size)
    rw [e] at z
    exact h _ _ (Heap.SameBut.update ..) z
  · have e : xs.extract 0 (sliceBounds none none none xs.size).1.toNat ++ ys ++ xs.extract (max (sliceBounds none none none xs.size).1 (sliceBounds none none none xs.size).2.1).toNat xs.size = ys := by simp [sliceBounds]
    rw [e]
    exact Nat.le_trans hy (by decide)
end
end Mine
end
section
namespace Mine
local macro_rules | `(tactic| k_inst) => `(tactic| exact Tbl.at (by assumption) (by k_asm))
local macro_rules | `(tactic| walk_at "call ref") => `(tactic| (
  (show wpAny _ _ (call (Value.ref 76) [Value.ref _, Value.str _ _] [(PySem.Str.ofString "name", Value.bool true)]) _ _ _);
  refine' use_ret (convN_spec ?R ?X ?T _ _ _ ?C) ?F ?N ?_;
  (case F => k_asm); (case N => k_asm); (case X => exact Frag.In.keeps (by k_asm) (Fr.keep (by k_asm)));
  (case T => exact Top.keeps (by k_asm) (Fr.keep (by k_asm)));
  (case R => exact Room.less (Room.deeper (by assumption) _) (by decide));
  (case C => assumption);
  intro v' h' tk' e' hk' F' N'; subst e'; (try k_sweep)))
theorem str_bne (x y : PySem.Str) : (x != y) = decide (x ≠ y) := by
  rw [bne, str_beq]
  by_cases h : x = y <;> simp [h]
theorem pairs_but {h h' : Heap} {a : Addr} {xs : Array Value} {n : Nat} (hr : ∀ b o, b ≠ a → h.get? b = some o → h'.get? b = some o) (ha : h.get? a = some (listOf xs n)) : ∀ {ps : List (PySem.Str × PySem.Str)} {vs : List Value}, AtAll h vs (ps.map pairD) → AtAll h' vs (ps.map pairD)
  | [], _, r => by rw [r.inv_nil]; exact .nil
  | p :: ps, _, r => by
    obtain ⟨v, vs', rfl, r1, r2⟩ := r.inv
    obtain ⟨b, t, u, rfl, o, ho, hc, k, hd⟩ := r1.pair
    have hb : b ≠ a := by
      rintro rfl
      rw [ha] at ho
      cases ho
      simp at hc
    exact .cons (At.tuple (vs := [_, _]) ⟨o, hr b o hb ho, hc, k, hd⟩ (.cons .str (.cons .str .nil))) (pairs_but hr ha r2)
structure Own (w : World) (g h : Heap) (tb dx hl : Addr) (tk : Tok) (vs : List Value) (n : Nat) (ps : List (PySem.Str × PySem.Str)) : Prop where
  keep : g.StaysIn h
  size : g.objs.size ≤ h.objs.size
  gone : g.get? hl = none
  B : Tbl w g tb dx hl tk
  list : h.get? hl = some (listOf vs.toArray n)
  hz : vs.length ≤ 1000
  hps : AtAll g vs (ps.map pairD)
def RetM (g : Heap) (s : Shared) (P : Value → Heap → Prop) : Value → Shared → Prop :=
  fun v s' => ∃ h' tk', s' = { s with heap := h', toks := tk' } ∧ g.StaysIn h' ∧ P v h'
def Now (hl : Addr) (ps : List (PySem.Str × PySem.Str)) (h : Heap) : Prop := ∃ vs n, h.get? hl = some (listOf (List.toArray vs) n) ∧ AtAll h vs (ps.map pairD)
theorem Own.fr {w : World} {g h h₁ : Heap} {tb dx hl L : Addr} {tk : Tok} {vs : List Value} {n : Nat} {ps : List (PySem.Str × PySem.Str)} {m : PySem.Str → Option Value} (O : Own w g h tb dx hl tk vs n ps) (F : Fr h L h₁ m) : Fr g L h₁ m :=
  ⟨F.ns, fun b o e => F.keep b o (O.keep b o e), Nat.le_trans O.size F.above⟩
theorem Own.news {w : World} {g h h₁ : Heap} {tb dx hl L : Addr} {tk : Tok} {vs : List Value} {n : Nat} {ps : List (PySem.Str × PySem.Str)} {m : PySem.Str → Option Value} {news : List (Addr × Obj)} (O : Own w g h tb dx hl tk vs n ps) (F : Fr h L h₁ m) (N : News h L h₁ news) :
    News g L h₁ (news ++ [(hl, listOf vs.toArray n)]) := by
  intro p hp
  rcases List.mem_append.mp hp with hp | hp
  · refine ⟨(N p hp).1, (N p hp).2.1, ?_⟩
    cases e : g.get? p.1 with
    | none => rfl
    | some o => have := O.keep _ _ e; rw [(N p hp).2.2] at this; cases this
  · rw [List.mem_singleton.mp hp]
    exact ⟨F.keep _ _ O.list, Nat.ne_of_lt (Nat.lt_of_lt_of_le (Heap.lt_size O.list) F.above), O.gone⟩
section
variable {w : World} {A : Around} {s : Shared} {mean : ExcName → Option Value} {mg mb : PySem.Str → Option Value} {tb dx hl : Addr} {tk₀ : Tok} {g : Heap} {vs : List Value} {n : Nat} {ps : List (PySem.Str × PySem.Str)}
set_option maxRecDepth 100000 in
set_option maxHeartbeats 8000000 in
theorem del_spec (R : Room A 5) (X : (hd.heap_1 w.params).In g) (T : TT mean mg mb g) (O : Own w g s.heap tb dx hl tk₀ vs n ps) (hpl : ∀ p ∈ ps, p.1.length ≤ 1000)
    (x : PySem.Str) (t : Tok) (hxl : x.length ≤ 1000) (hxc : Clean badN (Txt.lower x)) :
    wpAny (model PG w) A (call (.ref 95) [.ref tb, .str x t]) (RetM g s fun v h' => v = .none ∧ Now hl (ps.filter fun p => decide (Txt.lower p.1 ≠ Txt.lower x)) h') NoE s := by
  have hX := X.keeps O.keep
  refine call_pureC [(PySem.Str.ofString "self", .ref tb), (PySem.Str.ofString "name", .str x t)] R hX (T.nolimit.keeps O.keep) (by k_is) (by k_is) (BindsTo.of_eq rfl) (kindsX rfl) (by decide +kernel) ?_
  clear hX
  intro L h₁ tk0 cells F N Y
  k_cells Y
  have hh : A.handled = none := R.handled
  have B := O.B
  have N1 := O.news F N
  have F1 := O.fr F
  clear F N
  simp only [List.cons_append, List.nil_append] at N1
  iterate 22 (first | walk1 | (dsimp only; walk1))
  rename Fr _ _ _ _ => F
  rename News _ _ _ _ => N
  rename _ = Data.cell _ => hcd
  have hci : Heap.IsCell _ (L + 1) (some (Value.str (Txt.lower x) tk0)) := ⟨_, (N _ (.head _)).1, hcd⟩
  refine comp_data (cl := [(PySem.Str.ofString "name", L + 1)]) pairD (fun p => decide (Txt.lower p.1 ≠ Txt.lower x)) pairD hh rfl (by decide) rfl (by decide) ?_
  iterate 3 (first | walk1 | (dsimp only; walk1))
  refine ⟨hl, vs, ps, rfl, ⟨_, (N _ (.tail _ (.head _))).1, rfl, _, rfl⟩, O.hps.keeps F.keep, O.hz, named_owned, ?_, ?_⟩
  · intro C v p h tk m led hp hat F2 N2
    change Fr _ C h m at F2
    change News _ C h led at N2
    obtain ⟨a, t1, u1, e, htup⟩ := hat.pair
    subst e
    have hpl1 := hpl p hp
    refine asgC F2 N2 fun h3 F3 N3 => ?_
    clear F N F2 N2
    refine wpAny_tests_one (wpAny_isTrue_Compare1 (lowerCall (Subscript_ (ldC F3 rfl (wpAny_Constant_int (tupItem (htup.at fun o e => F3.keep _ _ e) (by decide) (by decide) (j := 0) rfl rfl ?_))))))
    refine ⟨p.1, t1, rfl, hpl1, ldCell F3 hci (ne_str (wpAny_truthy_bool ?_))⟩
    refine ⟨str_bne _ _, ?_, ?_⟩
    · intro _
      refine ldC F3 rfl ?_
      exact ⟨_, _, _, [], rfl, F3, N3, (fun p hp => nomatch hp), fun h k _ => .cons (hat.keeps k) .nil⟩
    · intro _
      exact ⟨_, _, _, rfl, F3, N3⟩
  · intro D h' tk' ys k hD hDl hat hk
    have hyl : ys.length ≤ 1000 := by
      have h1 : ys.length = (ps.filter fun p => decide (Txt.lower p.1 ≠ Txt.lower x)).length := by simpa using hat.length
      have h2 : vs.length = ps.length := by simpa using O.hps.length
      rw [h1]
      exact Nat.le_trans (List.length_filter_le _ _) (h2 ▸ O.hz)
    have F' := Fr.stay F hk
    have N' := News.made F N hD hk hDl
    have hlD : hl ≠ D := by
      rintro rfl
      have := (N _ (.tail _ (.head _))).1
      rw [hD] at this
      cases this
    clear F N
    iterate 7 (first | walk1 | (dsimp only; walk1))
    dsimp only
    refine setItem_all (Heap.get?_push_of_some _ (N' _ (.tail _ (.tail _ (.head _)))).1) (Heap.IsSliceOf.new ..) (Heap.get?_push_of_some _ (N' _ (.head _)).1) hlD (fun h6 n6 hs6 hl6 => ?_) (by simpa using O.hz) (by simpa using hyl)
    dsimp only at hs6 hl6 ⊢
    have F6 := (F'.push { cls := .type "slice", data := .fields #[.none, .none, .none] }).change hs6 (N' _ (.tail _ (.tail _ (.head _)))).2.1 (N' _ (.tail _ (.tail _ (.head _)))).2.2
    have hat6 : AtAll h6 ys ((ps.filter fun p => decide (Txt.lower p.1 ≠ Txt.lower x)).map pairD) :=
      pairs_but (fun b o hb e => hs6.extBut b o hb (Heap.get?_push_of_some _ e)) (N' _ (.tail _ (.tail _ (.head _)))).1 hat
    clear F' N'
    (repeat (first | walk1 | (dsimp only; walk1)))
    exact ⟨_, _, rfl, F6.keep, rfl, ys, n6, hl6, hat6⟩
end
end Mine
end
section
namespace Mine
theorem own_now {w : World} {g H : Heap} {tb dx hl L : Addr} {tk : Tok} {vs : List Value} {n : Nat} {ps : List (PySem.Str × PySem.Str)} {m : PySem.Str → Option Value} (F : Fr g L H m) (hn : g.get? hl = none) (hL : H.get? hl = some (listOf vs.toArray n)) (B : Tbl w g tb dx hl tk) (hz : vs.length ≤ 1000) (hps : AtAll H vs (ps.map pairD)) :
    ∃ g', g.StaysIn g' ∧ Own w g' H tb dx hl tk vs n ps ∧ (∀ b o, b ≠ hl → H.get? b = some o → g'.get? b = some o) := by
  obtain ⟨g', h1, h2, h3, h4⟩ := hole H hl
  have hk : g.StaysIn g' := fun b o e => h3 b o (by rintro rfl; rw [hn] at e; cases e) (F.keep b o e)
  exact ⟨g', hk, ⟨h1, h4, h2, B.keeps hk, hL, hz, pairs_but h3 hL hps⟩, h3⟩
theorem use_retM {M : Model} {A : Around} {E : Value → Shared → Prop} {w : World} {s : Shared} {g : Heap} {tb dx hl L : Addr} {tk : Tok} {vs : List Value} {n : Nat} {ps ps' : List (PySem.Str × PySem.Str)} {m : PySem.Str → Option Value} {pre post : List (Addr × Obj)} {t : Sem Value} {P : Value → Prop} {Q : Value → Shared → Prop}
    (F : Fr g L s.heap m) (N : News g L s.heap (pre ++ (hl, listOf vs.toArray n) :: post)) (hpre : ∀ p ∈ pre ++ post, p.1 ≠ hl) (B : Tbl w g tb dx hl tk) (hz : vs.length ≤ 1000) (hps : AtAll s.heap vs (ps.map pairD))
    (h : ∀ g', g.StaysIn g' → Own w g' s.heap tb dx hl tk vs n ps → wpAny M A t (RetM g' s (fun v h' => P v ∧ Now hl ps' h')) NoE s)
    (k : ∀ v h' tk' vs' n', P v → AtAll h' vs' (ps'.map pairD) → (∀ b o, b ≠ hl → s.heap.get? b = some o → h'.get? b = some o) → Fr g L h' m → News g L h' (pre ++ (hl, listOf (List.toArray vs') n') :: post) → Q v { s with heap := h', toks := tk' }) : wpAny M A t Q E s := by
  have hl0 := N (hl, listOf vs.toArray n) (List.mem_append_right _ (.head _))
  obtain ⟨g', hk, O, hr⟩ := own_now F hl0.2.2 hl0.1 B hz hps
  refine wpAny_mono (h g' hk O) (fun v s' q => ?_) (fun _ _ x => x.elim)
  obtain ⟨h', tk', rfl, hk', hp, vs', n', hl', hat⟩ := q
  have hb : ∀ b o, b ≠ hl → s.heap.get? b = some o → h'.get? b = some o := fun b o hb e => hk' b o (hr b o hb e)
  refine k v h' tk' vs' n' hp hat hb ⟨?_, fun b o e => hk' b o (hk b o e), F.above⟩ ?_
  · obtain ⟨o, es, ep, ho, r⟩ := F.ns
    exact ⟨o, es, ep, hb _ _ (Ne.symm hl0.2.1) ho, r⟩
  · intro p hp
    rcases List.mem_append.mp hp with hp | hp
    · have z := N p (List.mem_append_left _ hp)
      exact ⟨hb _ _ (hpre p (List.mem_append_left _ hp)) z.1, z.2⟩
    · rcases List.mem_cons.mp hp with rfl | hp
      · exact ⟨hl', hl0.2⟩
      · have z := N p (List.mem_append_right _ (.tail _ hp))
        exact ⟨hb _ _ (hpre p (List.mem_append_right _ hp)) z.1, z.2⟩
local macro_rules | `(tactic| k_inst) => `(tactic| exact Tbl.at (by assumption) (by k_asm))
local macro_rules | `(tactic| walk_at "call ref") => `(tactic| (
  (show wpAny _ _ (call (Value.ref 76) [Value.ref _, Value.str _ _] [(PySem.Str.ofString "name", Value.bool true)]) _ _ _);
  refine' use_ret (convN_spec ?R ?X ?T _ _ _ ?C) ?F ?N ?_;
  (case F => k_asm); (case N => k_asm); (case X => exact Frag.In.keeps (by k_asm) (Fr.keep (by k_asm)));
  (case T => exact Top.keeps (by k_asm) (Fr.keep (by k_asm)));
  (case R => exact Room.less (Room.deeper (by assumption) _) (by decide));
  (case C => assumption);
  intro v' h' tk' e' hk' F' N'; subst e'; (try k_sweep)))
local macro_rules | `(tactic| walk_at "call ref") => `(tactic| (
  (show wpAny _ _ (call (Value.ref 76) [Value.ref _, Value.str _ _] [(PySem.Str.ofString "name", Value.bool false)]) _ _ _);
  refine' use_ret (convV_spec ?R ?X ?T _ _ _ ?C) ?F ?N ?_;
  (case F => k_asm); (case N => k_asm); (case X => exact Frag.In.keeps (by k_asm) (Fr.keep (by k_asm)));
  (case T => exact Top.keeps (by k_asm) (Fr.keep (by k_asm)));
  (case R => exact Room.less (Room.deeper (by assumption) _) (by decide));
  (case C => assumption);
  intro v' h' tk' e' hk' F' N'; subst e'; (try k_sweep)))
theorem tup_stay {M : Model} {A : Around} {E : Value → Shared → Prop} {s : Shared} {L : Addr} {h₀ : Heap} {m : PySem.Str → Option Value} {news : List (Addr × Obj)} {vs : List Value} {Q : Value → Shared → Prop} (F : Fr h₀ L s.heap m) (N : News h₀ L s.heap news)
    (h : ∀ D h', Fr h₀ L h' m → News h₀ L h' ((D, ({ cls := .type "tuple", data := .seq vs.toArray } : Obj)) :: news) → (∀ p ∈ news, p.1 < D) → s.heap.StaysIn h' → Q (.ref D) { s with heap := h' }) (hz : vs.length ≤ sizeLine) : wpAny M A (newTuple vs) Q E s :=
  wpAny_newObj_type (h _ _ (F.push _) (N.push F _) (fun p hp => Heap.lt_size (N p hp).1) fun b o e => Heap.get?_push_of_some _ e) (by show vs.toArray.size ≤ sizeLine; rw [List.size_toArray]; exact hz)
local macro_rules | `(tactic| walk_at "newTuple") => `(tactic| (refine' tup_stay ?F ?N ?_ ?z; (case F => k_asm); (case N => k_asm); (case z => kmk_size); intro D' h' F' N' l1 hk'; (try k_lt l1); (try k_sweep)))
theorem now_app {h h₁ h₂ : Heap} {hl D : Addr} {vs : List Value} {n : Nat} {ps : List (PySem.Str × PySem.Str)} {x y : PySem.Str} {t u : Tok} (hl1 : h₁.get? hl = some (listOf vs.toArray n)) (hD : h₁.get? D = some { cls := .type "tuple", data := .seq #[.str x t, .str y u] }) (hat : AtAll h vs (ps.map pairD)) (hk : h.StaysIn h₁)
    (hs : Heap.SameBut hl h₁ h₂) (hl2 : h₂.get? hl = some (listOf (vs.toArray.push (.ref D)) (n + 1))) : Now hl (ps ++ [(x, y)]) h₂ := by
  refine ⟨vs ++ [.ref D], n + 1, by simpa using hl2, ?_⟩
  refine pairs_but (fun b o hb e => hs.extBut b o hb e) hl1 ?_
  rw [List.map_append]
  exact AtAll.append (hat.keeps hk) (.cons (At.tuple (vs := [_, _]) ⟨_, hD, rfl, _, rfl⟩ (.cons .str (.cons .str .nil))) .nil)
theorem del_own {M : Model} {A : Around} {E : Value → Shared → Prop} {s : Shared} {K : Frag} {x C L f : Addr} {h₀ : Heap} {m : PySem.Str → Option Value} {ox : Obj} {od : Option Obj} {i : Value} {Q : Unit → Shared → Prop} (F : Fr h₀ L s.heap m) (X₀ : K.In h₀) (I : InstAt s.heap x ox C od) (hq : noSeq K C = true) (hs : findIn K (.ref C) "__delitem__" = some (some (.ref f))) (hf : isFn K (.ref f) = true)
    (h : wpAny M A (call (.ref f) [.ref x, i]) (fun _ s' => Q () s') E s) : wpAny M A (delItem (.ref x) i) Q E s := by
  have X := X₀.keeps F.keep
  unfold delItem sequenceKey
  refine wpAny_holding (wpAny_bind (wpAny_bind (I.type.here ?_)))
  refine wpAny_bind ((anyM_none X hq).here ?_)
  rw [if_pos (show (!false) = true from rfl)]
  exact wpAny_pure (wpAny_bind (special_fn X I hs (beq_iff_eq.mp hf) (wpAny_mono h (fun _ _ z => wpAny_pure z) fun _ _ z => z)))
section
variable {w : World} {A : Around} {s : Shared} {mean : ExcName → Option Value} {mg mb : PySem.Str → Option Value} {tb dx hl : Addr} {tk₀ : Tok} {g : Heap} {vs : List Value} {n : Nat} {ps : List (PySem.Str × PySem.Str)}
set_option maxRecDepth 100000 in
set_option maxHeartbeats 8000000 in
theorem set_spec (R : Room A 8) (X : (hd.heap_1 w.params).In g) (T : TT mean mg mb g) (O : Own w g s.heap tb dx hl tk₀ vs n ps) (hpl : ∀ p ∈ ps, p.1.length ≤ 1000)
    (x : PySem.Str) (t : Tok) (hxl : x.length ≤ 1000) (hxc : Clean badN (Txt.lower x)) (hxn : Clean badN x) (y : PySem.Str) (u : Tok) (hyv : Clean badV y) :
    wpAny (model PG w) A (call (.ref 90) [.ref tb, .str x t, .str y u]) (RetM g s fun v h' => v = .none ∧ Now hl ((ps.filter fun p => decide (Txt.lower p.1 ≠ Txt.lower x)) ++ [(x, y)]) h') NoE s := by
  have hX := X.keeps O.keep
  refine call_pure [(PySem.Str.ofString "self", .ref tb), (PySem.Str.ofString "name", .str x t), (PySem.Str.ofString "val", .str y u)] R hX (T.nolimit.keeps O.keep) (by k_is) (by k_is) (BindsTo.of_eq rfl) (locs rfl) ?_
  clear hX
  intro L h₁ tk0 F
  have N : News s.heap L h₁ [] := News.nil
  have hh : A.handled = none := R.handled
  have B := O.B
  have N1 := O.news F N
  have F1 := O.fr F
  clear F N
  simp only [List.nil_append] at N1
  iterate 6 (first | (dsimp only; walk1) | walk1)
  refine del_own (s := { s with heap := h₁, toks := tk0 }) F1 X (Tbl.at B F1) (by k_is) (by k_is) (by k_is) ?_
  refine use_retM (s := { s with heap := h₁, toks := tk0 }) (P := fun v => v = .none) (pre := []) (post := []) F1 N1 (fun p hp => nomatch hp) B O.hz (O.hps.keeps F1.keep) (fun g' hg O' => del_spec (Room.less (R.deeper _) (by decide)) (X.keeps hg) (T.keeps hg) O' hpl x t hxl hxc) ?_
  intro v h' tk' vs' n' e hat hb F2 N2
  clear F1 N1
  simp only [List.nil_append] at N2
  (repeat (first | (dsimp only; walk1) | walk1))
  rename Fr _ _ _ _ => F
  rename News _ _ _ _ => N
  have hlen : vs'.length ≤ 1000 := by
    have h1 : vs'.length = (ps.filter fun p => decide (Txt.lower p.1 ≠ Txt.lower x)).length := by simpa using hat.length
    have h2 : vs.length = ps.length := by simpa using O.hps.length
    rw [h1]
    exact Nat.le_trans (List.length_filter_le _ _) (h2 ▸ O.hz)
  refine append_at (N _ (.tail _ (.head _))).1 (fun h8 hs8 ho8 => ?_) (by simp; exact Nat.le_trans hlen (by decide))
  have F8 := F.change hs8 (N _ (.tail _ (.head _))).2.1 (N _ (.tail _ (.head _))).2.2
  have hnow := now_app (N _ (.tail _ (.head _))).1 (N _ (.head _)).1 hat (fun b o e => by first | exact ‹∀ b o, _ → _› b o e | (repeat (first | assumption | (refine ‹Heap.StaysIn _ _› b o ?_)))) hs8 ho8
  clear F N
  (repeat (first | (dsimp only; walk1) | walk1))
  exact ⟨_, _, rfl, F8.keep, rfl, hnow⟩
def SetD (hl : Addr) (ps : List (PySem.Str × PySem.Str)) (x y : PySem.Str) (v : Value) (h' : Heap) : Prop := match getOf ps x with
  | some z => (∃ t, v = .str z t) ∧ Now hl ps h'
  | none => (∃ t, v = .str y t) ∧ Now hl (ps ++ [(x, y)]) h'
set_option maxRecDepth 100000 in
set_option maxHeartbeats 8000000 in
theorem setd_spec (R : Room A 8) (X : (hd.heap_1 w.params).In g) (T : TT mean mg mb g) (O : Own w g s.heap tb dx hl tk₀ vs n ps) (hpl : ∀ p ∈ ps, p.1.length ≤ 1000)
    (x : PySem.Str) (t : Tok) (hxl : x.length ≤ 1000) (hxc : Clean badN (Txt.lower x)) (hxn : Clean badN x) (y : PySem.Str) (u : Tok) (hyv : Clean badV y) :
    wpAny (model PG w) A (call (.ref 165) [.ref tb, .str x t, .str y u]) (RetM g s (SetD hl ps x y)) NoE s := by
  have hX := X.keeps O.keep
  refine call_pure [(PySem.Str.ofString "self", .ref tb), (PySem.Str.ofString "name", .str x t), (PySem.Str.ofString "value", .str y u)] R hX (T.nolimit.keeps O.keep) (by k_is) (by k_is) (BindsTo.of_eq rfl) (locs rfl) ?_
  clear hX
  intro L h₁ tk0 F
  have N : News s.heap L h₁ [] := News.nil
  have hh : A.handled = none := R.handled
  have B := O.B
  have N1 := O.news F N
  have F1 := O.fr F
  clear F N
  simp only [List.nil_append] at N1
  iterate 10 (first | (dsimp only; walk1) | walk1)

  refine use_ret (s := { s with heap := h₁, toks := tk0 }) (get_spec (s := { s with heap := h₁, toks := tk0 }) (Room.less (R.deeper _) (by decide)) (X.keeps F1.keep) (T.keeps F1.keep) (B.keeps F1.keep) vs ⟨_, (N1 _ (.head _)).1, rfl, _, rfl⟩ ps (O.hps.keeps F1.keep) hpl x t .none hxl hxc _ (Or.inr ⟨rfl, rfl⟩)) F1 N1 ?_
  intro v h2 tk2 hf hk2 F2 N2
  clear F1 N1
  unfold Found at hf
  cases hg : getOf ps x with
  | some z =>
    rw [hg] at hf
    obtain ⟨t1, e⟩ := hf
    subst e
    (repeat (first | (dsimp only; walk1) | walk1))
    rename Fr _ _ _ _ => F
    rename News _ _ _ _ => N
    refine ⟨_, _, rfl, F.keep, ?_⟩
    unfold SetD
    rw [hg]
    exact ⟨⟨_, rfl⟩, vs, n, (N _ (.head _)).1, O.hps.keeps F.keep⟩
  | none =>
    rw [hg] at hf
    dsimp only at hf
    subst hf
    (repeat (first | (dsimp only; walk1) | walk1))
    rename Fr _ _ _ _ => F
    rename News _ _ _ _ => N
    refine append_at (N _ (.tail _ (.head _))).1 (fun h8 hs8 ho8 => ?_) (by simp; exact Nat.le_trans O.hz (by decide))
    have F8 := F.change hs8 (N _ (.tail _ (.head _))).2.1 (N _ (.tail _ (.head _))).2.2
    have hnow := now_app (N _ (.tail _ (.head _))).1 (N _ (.head _)).1 O.hps F.keep hs8 ho8
    have N8 : News g L h8 [] := News.nil
    clear F N
    (repeat (first | (dsimp only; walk1) | walk1))
    refine ⟨_, _, rfl, F8.keep, ?_⟩
    unfold SetD
    rw [hg]
    exact ⟨⟨_, rfl⟩, hnow⟩
end
end Mine
end
section
set_option maxRecDepth 100000
namespace Mine
theorem abs_post {M : Model} {A : Around} {α : Type} {t : Sem α} {P : α → Shared → Prop} {E : Value → Shared → Prop} {s : Shared} (h : ∀ Q : α → Shared → Prop, (∀ v s', P v s' → Q v s') → wpAny M A t Q E s) : wpAny M A t P E s := h P fun _ _ p => p
theorem wp_peekA {α : Type} {K : Frag} {M : Model} {A : Around} {E : Value → Shared → Prop} {Q : α → Shared → Prop} {s : Shared} {o : Obj} (X : K.In s.heap) :
    ∀ (t : Sem α) (g : Addr → Sem α), peekA K ⟨M.prog, M.w.params⟩ t = some (o, g) → wpAny M A (g s.heap.objs.size) Q E { s with heap := s.heap.push o } → wpAny M A t Q E s := by
  intro t
  induction t with
  | rule _ k ih => intro g e q Γ p hΓ; exact ih () g e q Γ p hΓ
  | point _ k ih => intro g e q Γ p hΓ; exact ih () g e q Γ p hΓ
  | ask k ih => intro g e q Γ p hΓ; exact ih _ g e q Γ p hΓ
  | load a _ k ih =>
    intro g e q Γ p hΓ
    simp only [peekA] at e
    split at e
    · rename_i ob ho; exact ⟨ob, X _ _ ho, ih ob g e q Γ p hΓ⟩
    · cases e
  | alloc ob k _ =>
    intro g e q
    have e : some (ob, k) = some (o, g) := e
    obtain ⟨e1, e2⟩ := Prod.mk.inj (Option.some.inj e)
    subst e1
    subst e2
    show wpAny M A (alloc ob >>= k) Q E s
    exact wpAny_bind (wpAny_alloc q)
  | _ => intro g e; cases e
section
variable {prog : Program} {w : World} {A : Around} {E : Value → Shared → Prop}
theorem ns_new {s : Shared} {d : Addr} {es : List DictEntry} {n : Nat} {k : PySem.Str} {v : Value} {Q : Unit → Shared → Prop} (D : s.heap.get? d = some (dictOf es n))
    (hs : ∀ e ∈ es, e.key.isStr k = false) (hr : ∀ e ∈ es, e.refKey = false)
    (h : ∀ h', Heap.SameBut d s.heap h' → h'.get? d = some (dictOf (es ++ [⟨PyData.keyHash w.params k, .str k s.toks, v⟩]) (n + 1)) → Q () { s with heap := h', toks := s.toks + 1 }) :
    wpAny (model prog w) A (nsSet d k v) Q E s := by
  have e1 : es.any (·.key.isStr k) = false := by
    cases q : es.any (·.key.isStr k) with
    | false => rfl
    | true => obtain ⟨e, he, z⟩ := List.any_eq_true.mp q; rw [hs e he] at z; cases z
  have e2 : es.any (·.refKey) = false := by
    cases q : es.any (·.refKey) with
    | false => rfl
    | true => obtain ⟨e, he, z⟩ := List.any_eq_true.mp q; rw [hr e he] at z; cases z
  have e : Obj.putName k (PyData.keyHash w.params k) (.str k s.toks) v (dictOf es n) = dictOf (es ++ [⟨PyData.keyHash w.params k, .str k s.toks, v⟩]) (n + 1) := by
    rw [putName_dict, putL_new hs]
    show dictOf _ (if es.any (·.key.isStr k) then n else n + 1) = _
    rw [e1, if_neg Bool.false_ne_true]
  have c : aRefKeyMayBeTheName k es.toArray = false := by
    rw [aRefKeyMayBeTheName_at, ← Array.any_toList, ← Array.any_toList]
    show (!es.any (·.key.isStr k) && es.any (·.refKey)) = false
    rw [e2, Bool.and_false]
  unfold nsSet
  refine wpAny_bind (wpAny_bind (wpAny_askSetting (wpAny_pure (wpAny_bind (wpAny_mkText (wpAny_bind (wpAny_loadPart D ?_)))))))
  dsimp only
  rw [c]
  refine wpAny_updatePart D (h _ (Heap.SameBut.update ..) ?_)
  rw [← e]
  exact Heap.get?_update_self _ D (show (Obj.putName k (PyData.keyHash w.params k) (.str k s.toks) v (dictOf es n)).isFreed = false by rw [e]; rfl)
theorem ns_fill {d : Addr} {Q : PUnit → Shared → Prop} : ∀ (ex : List (PySem.Str × Value)) (s : Shared) (es : List DictEntry) (n : Nat), s.heap.get? d = some (dictOf es n) →
    (∀ e ∈ es, ∀ x ∈ ex, e.key.isStr x.1 = false) → (∀ e ∈ es, e.refKey = false) → (ex.map (·.1)).Nodup →
    (∀ h', Heap.SameBut d s.heap h' → h'.get? d = some (dictOf (es ++ kwEs w.params s.toks ex) (n + ex.length)) → Q ⟨⟩ { s with heap := h', toks := s.toks + ex.length }) →
    wpAny (model prog w) A (forIn ex PUnit.unit fun x _ => (nsSet d x.1 x.2 >>= fun _ => pure (ForInStep.yield PUnit.unit))) Q E s
  | [], s, es, n, D, _, _, _, h => by
    rw [List.forIn_nil]
    refine wpAny_pure (h s.heap (Heap.SameBut.refl _ _) ?_)
    show s.heap.get? d = some (dictOf (es ++ []) n)
    rw [List.append_nil]
    exact D
  | x :: r, s, es, n, D, hs, hr, hn, h => by
    obtain ⟨hn1, hn2⟩ := List.nodup_cons.mp (show (x.1 :: r.map (·.1)).Nodup from hn)
    rw [List.forIn_cons]
    refine wpAny_bind (wpAny_bind (ns_new D (fun e he => hs e he x (.head _)) hr fun h' hs' D' => wpAny_pure ?_))
    show wpAny (model prog w) A (forIn r PUnit.unit fun x _ => (nsSet d x.1 x.2 >>= fun _ => pure (ForInStep.yield PUnit.unit))) Q E { s with heap := h', toks := s.toks + 1 }
    refine ns_fill r { s with heap := h', toks := s.toks + 1 } _ _ D' (fun e he y hy => ?_) (fun e he => ?_) hn2 fun h'' hs'' D'' => ?_
    · rcases List.mem_append.mp he with he | he
      · exact hs e he y (.tail _ hy)
      · obtain rfl := List.mem_singleton.mp he
        show (x.1 == y.1) = false
        exact beq_eq_false_iff_ne.mpr fun q => hn1 (by rw [q]; exact List.mem_map_of_mem hy)
    · rcases List.mem_append.mp he with he | he
      · exact hr e he
      · obtain rfl := List.mem_singleton.mp he
        rfl
    · have t1 : s.toks + 1 + r.length = s.toks + (r.length + 1) := by omega
      have t2 : n + 1 + r.length = n + (r.length + 1) := by omega
      show Q ⟨⟩ { s with heap := h'', toks := s.toks + 1 + r.length }
      rw [t1]
      refine h h'' (hs'.trans hs'') ?_
      rw [t2, List.append_assoc] at D''
      exact D''
theorem call_kw {s : Shared} {K : Frag} {Q : Value → Shared → Prop} {name qual : PySem.Str} {params : Arguments} {body : List Stmt} {scope : Scope} {dV kV doc pm cdv ct oc : Value} {an od : Option Addr} {osl : Array (Option Value)} {f : Addr} {vals : List Value} {kw : List (PySem.Str × Value)}
    {n : Nat} {nm : PySem.Str} {ex front : List (PySem.Str × Value)} {g₁ : Addr → Sem (List (PySem.Str × Value))}
    (R : Room A n) (X : K.In s.heap) (hlim : s.heap.NoLimit)
    (ho : K.lookup f = some ⟨oc, od, .func (fnOf name qual params body scope dV kV doc pm an cdv ct), osl⟩) (hcd : codeIn K cdv qual = true)
    (hp : peekA K ⟨prog, w.params⟩ (bindArgs (fnOf name qual params body scope dV kV doc pm an cdv ct) ⟨vals, kw⟩) = some (dictOf [] 0, g₁))
    (hk₁ : ∀ D, g₁ D = (forIn ex PUnit.unit (fun x _ => (nsSet D x.1 x.2 >>= fun _ => pure (ForInStep.yield PUnit.unit))) >>= fun _ => pure (front ++ [(nm, Value.ref D)])))
    (hn : kwDistinct ex = true) (hloc : ∀ D, ∀ y ∈ front ++ [(nm, Value.ref D)], scope.names.lookup y.1 = some .local)
    (h : ∀ D o L h₁ tk, (D == sysModules) = false → o.IsDictOf (strKind prog w) ex → Fr s.heap L h₁ (fun y => (front ++ [(nm, Value.ref D)]).reverse.lookup y) → News s.heap L h₁ [(D, o)] →
      wpAny (model prog w) (A.deeper (envOf qual scope L f cdv)) (execs body (envOf qual scope L f cdv))
        (fun fl s' => Q (match fl with | .ret v => v | _ => .none) s') NoE { s with heap := h₁, toks := tk })
    (hco : scope.isCoroutine = false := by rfl) (hgen : scope.isGenerator = false := by rfl) (hk : scope.kind = .function := by rfl)
    (hcell : ∀ x ∈ scope.names, x.2 ≠ .cell := by decide) : wpAny (model prog w) A (call (.ref f) vals kw) Q E s := by
  refine wpAny_call (codeAny_call_function (fd := fnOf name qual params body scope dV kV doc pm an cdv ct) (body := body) (by have := R.depth; show A.depth < 1000; omega) (X _ _ ho) rfl hco hgen rfl (codeRec_of X hcd) ?_)
  refine wp_peekA (M := model prog w) X _ g₁ hp ?_
  rw [hk₁]
  have hnone : s.heap.get? s.heap.objs.size = none := by
    cases e : s.heap.get? s.heap.objs.size with
    | none => rfl
    | some o => exact absurd (Heap.lt_size e) (Nat.lt_irrefl _)
  refine wpAny_bind (ns_fill ex _ [] 0 (Heap.get?_push_size _ rfl) (fun _ he => nomatch he) (fun _ he => nomatch he) (kwDistinct_nodup hn) fun h' hs' D' => wpAny_pure ?_)
  dsimp only at hs' D'
  have old : s.heap.StaysIn h' := fun b o e => hs'.extBut b o (Nat.ne_of_lt (Heap.lt_size e)) (Heap.get?_push_of_some _ e)
  have hsz : s.heap.objs.size < h'.objs.size := Heap.lt_size D'
  refine wpAny_newFunctionEnv hcell (hloc _) (fun h₁ hns hsb => ⟨(hlim.keeps old).fresh _ hsb, codeAny_func ?_⟩) hk
  dsimp only at hns hsb
  have k1 : h'.StaysIn h₁ := fun b o e => hsb.extBut b o (Nat.ne_of_lt (Heap.lt_size e)) (Heap.get?_push_of_some _ e)
  have hmod : (s.heap.objs.size == sysModules) = false := beq_eq_false_iff_ne.mpr (Nat.ne_of_gt (modules_low hlim))
  refine wpAny_mono (h s.heap.objs.size _ h'.objs.size h₁ _ hmod (kp_isDict s.toks (0 + ex.length) (kwDistinct_nodup hn)) ⟨hns, fun b o e => k1 b o (old b o e), Nat.le_of_lt hsz⟩ ?_) (fun fl s' q => q) (fun _ _ x => x.elim)
  intro p hp
  rw [List.mem_singleton.mp hp]
  exact ⟨k1 _ _ (by simpa using D'), Nat.ne_of_lt hsz, hnone⟩
end
end Mine
end
section
set_option maxRecDepth 100000
set_option maxHeartbeats 8000000
namespace Mine
theorem fmt_colon (x y : PySem.Str) (t t1 t2 : Tok) (b : Addr) (hx : x.length ≤ 1000000) (hy : y.length ≤ 1000000) :
    Meets (Builtin.«str.__mod__» ⟨[.str ⟨#[37, 115, 58, 32, 37, 115]⟩ t, .ref b], []⟩) (fun _ R s => IsTup s.heap b #[.str x t1, .str y t2] ∧ ∀ t' k, R (.ok (.ret (.str (x ++ PySem.Str.ofString ": " ++ y) t'))) { s with toks := k }) := by
  kpt_run
theorem mod_tup {prog : Program} {w : World} {A : Around} {E : Value → Shared → Prop} {s : Shared} {X X' T : PySem.Str} {t : Tok} {Q : Value → Shared → Prop} {b : Addr} {its : Array Value} (ht : s.heap.IsTuple b its) (hX : X = X')
    (hm : Meets (Builtin.«str.__mod__» ⟨[.str X' t, .ref b], []⟩) (fun _ R s => IsTup s.heap b its ∧ ∀ t' k, R (.ok (.ret (.str T t'))) { s with toks := k }))
    (h : ∀ t' k, Q (.str T t') { s with toks := k }) : wpAny (model prog w) A (binaryOp .Mod (.str X t) (.ref b)) Q E s := by
  subst hX
  have hT : s.TypeIs (.ref b) "tuple" := by
    obtain ⟨o, ho, hc, _⟩ := ht
    exact ⟨o, ho, hc⟩
  exact KPt.bin_left (T := "str") (U := "tuple") (op := .Mod) (by decide) (typeIs_str s X t) hT F.fills_str_mod KPt.fills_tuple F.slot_str_mod
    (call_meets F.slot_str_mod (typeIs_str s X t) F.entry_str_mod (F.args_str_mod_2 _ _) hm ⟨ht, fun t' k => ⟨(fun e => nomatch e), h t' k⟩⟩)
end Mine
end
section
namespace Mine
local macro_rules | `(tactic| k_inst) => `(tactic| exact Tbl.at (by assumption) (by k_asm))
local macro_rules | `(tactic| walk_at "call ref") => `(tactic| (
  (show wpAny _ _ (call (Value.ref 76) [Value.ref _, Value.str _ _] [(PySem.Str.ofString "name", Value.bool true)]) _ _ _);
  refine' use_ret (convN_spec ?R ?X ?T _ _ _ ?C) ?F ?N ?_;
  (case F => k_asm); (case N => k_asm); (case X => exact Frag.In.keeps (by k_asm) (Fr.keep (by k_asm)));
  (case T => exact Top.keeps (by k_asm) (Fr.keep (by k_asm)));
  (case R => exact Room.less (Room.deeper (by assumption) _) (by decide));
  (case C => assumption);
  intro v' h' tk' e' hk' F' N'; subst e'; (try k_sweep)))
local macro_rules | `(tactic| walk_at "call ref") => `(tactic| (
  (show wpAny _ _ (call (Value.ref 76) [Value.ref _, Value.str _ _] [(PySem.Str.ofString "name", Value.bool false)]) _ _ _);
  refine' use_ret (convV_spec ?R ?X ?T _ _ _ ?C) ?F ?N ?_;
  (case F => k_asm); (case N => k_asm); (case X => exact Frag.In.keeps (by k_asm) (Fr.keep (by k_asm)));
  (case T => exact Top.keeps (by k_asm) (Fr.keep (by k_asm)));
  (case R => exact Room.less (Room.deeper (by assumption) _) (by decide));
  (case C => assumption);
  intro v' h' tk' e' hk' F' N'; subst e'; (try k_sweep)))
section
variable {w : World} {A : Around} {s : Shared} {mean : ExcName → Option Value} {mg mb : PySem.Str → Option Value} {tb dx hl : Addr} {tk₀ : Tok} {g : Heap} {vs : List Value} {n : Nat} {ps : List (PySem.Str × PySem.Str)}
set_option maxRecDepth 100000 in
set_option maxHeartbeats 8000000 in
theorem add0_spec (R : Room A 8) (X : (hd.heap_1 w.params).In g) (T : TT mean mg mb g) (O : Own w g s.heap tb dx hl tk₀ vs n ps)
    (x : PySem.Str) (t : Tok) (hxn : Clean badN x) (y : PySem.Str) (u : Tok) (hyl : y.length ≤ 1000) (hyv : Clean badV y) :
    wpAny (model PG w) A (call (.ref 172) [.ref tb, .str x t, .str y u]) (RetM g s fun v h' => v = .none ∧ Now hl (ps ++ [(x, y)]) h') NoE s := by
  obtain ⟨f1, f2, f3, f4⟩ := A
  have hh := R.handled
  dsimp only at hh
  subst hh
  have hX := X.keeps O.keep
  refine call_kw (nm := PySem.Str.ofString "_params") (ex := []) (front := [(PySem.Str.ofString "self", .ref tb), (PySem.Str.ofString "_name", .str x t), (PySem.Str.ofString "_value", .str y u)]) R hX (T.nolimit.keeps O.keep) (by k_is) (by k_is) rfl (fun D => rfl) (by decide +kernel) (fun D => locs rfl) ?_
  clear hX
  intro D oD L h₁ tk0 hmod hisd F N
  have hflat : PyProof.V.FlatPairs PyData.str ([] : List (PySem.Str × Value)) [] := .nil
  have B := O.B
  have N1 := O.news F N
  have F1 := O.fr F
  clear F N
  simp only [List.nil_append, List.cons_append] at N1
  (repeat (first | (dsimp only; walk1) | walk1))
  rename Fr _ _ _ _ => F
  rename News _ _ _ _ => N
  have hD := (N _ (.head _)).1
  have hL := N _ (.tail _ (.tail _ (.tail _ (.head _))))
  rw [show Txt.join (PySem.Str.ofString "; ") [y] = y from rfl] at hD
  refine append_at hL.1 (fun h8 hs8 ho8 => ?_) (by simp; exact Nat.le_trans O.hz (by decide))
  have F8 := F.change hs8 hL.2.1 hL.2.2
  have hnow := now_app hL.1 hD O.hps F.keep hs8 ho8
  clear F N
  (repeat (first | (dsimp only; walk1) | walk1))
  exact ⟨_, _, rfl, F8.keep, rfl, hnow⟩
end
end Mine
end
section
namespace Mine
theorem str_empty_app (x : PySem.Str) : PySem.Str.empty ++ x = x := by
  cases x
  show PySem.Str.mk (#[] ++ _) = _
  simp
theorem rep_none {prog : Program} {w : World} {A : Around} {E : Value → Shared → Prop} {s : Shared} {x y z : PySem.Str} {t u v : Tok} {Q : Value → Shared → Prop} (ho : Builtin.Str.occurrences x y 0 x.length (x.length + 1) = [])
    (hq : Q (.str x t) s) : wpAny (model prog w) A (call (.builtin "str.replace") [.str x t, .str y u, .str z v]) Q E s := by
  refine call_gives F.slot_str_replace (typeIs_str _ _ _) F.entry_str_replace (F.args_str_replace_3 _ _ _)
    (gives_str_replace x y z t u v fun h => by rw [ho] at h; cases h) ?_
  rw [ho]
  exact hq
local macro_rules | `(tactic| walk_at "call builtin:str.replace") => `(tactic| refine rep_none (by assumption) ?_)
section
variable {w : World} {A : Around} {s : Shared} {mean : ExcName → Option Value} {mg mb : PySem.Str → Option Value}
set_option maxRecDepth 100000 in
set_option maxHeartbeats 8000000 in
theorem par_spec (R : Room A 3) (X : (hd.heap_1 w.params).In s.heap) (T : TT mean mg mb s.heap) (p : PySem.Str) (t : Tok) (hp : p.length ≤ 1000) (v : PySem.Str) (u : Tok) (hv : v.length ≤ 1000) (hv0 : 0 < v.length) (ho1 : Builtin.Str.occurrences v (PySem.Str.ofString "\\") 0 v.length (v.length + 1) = []) (ho2 : Builtin.Str.occurrences v (PySem.Str.ofString "\"") 0 v.length (v.length + 1) = []) :
    wpAny (model PG w) A (call (.ref 54) [.str p t, .str v u]) (Ret s fun r _ => ∃ t', r = .str (p ++ PySem.Str.ofString "=\"" ++ v ++ PySem.Str.ofString "\"") t') NoE s := by
  obtain ⟨f1, f2, f3, f4⟩ := A
  have hh := R.handled
  dsimp only at hh
  subst hh
  refine call_pure [(PySem.Str.ofString "param", .str p t), (PySem.Str.ofString "value", .str v u), (PySem.Str.ofString "quote", .int 1 378)] R X T.nolimit (by k_is) (by k_is) (binds_K X rfl (by k_is) rfl rfl rfl) (locs rfl) ?_
  intro L h₁ tk0 F
  have N : News s.heap L h₁ [] := News.nil
  (repeat (first | (dsimp only; walk1) | walk1))
  rename Fr _ _ _ _ => F
  refine ⟨_, _, rfl, F.keep, ?_⟩
  dsimp only
  rw [str_empty_app]
  exact ⟨_, rfl⟩
theorem clean_last : Clean badN (PySem.Str.ofString "last_mode") := by
  refine ⟨?_, by decide +kernel⟩
  decide +kernel
theorem clean_one : Clean badN (PySem.Str.ofString "one") := by
  refine ⟨?_, by decide +kernel⟩
  decide +kernel
end
theorem tok1 {M : Model} {A : Around} {α : Type} {t : Sem α} {E : Value → Shared → Prop} {Q : α → Shared → Prop} {h : Heap} {gs : _} {dr : _} {os : _} {tk : Nat} (k : ∀ z, tk < z → wpAny M A t Q E ⟨h, gs, dr, z, os⟩) : wpAny M A t Q E ⟨h, gs, dr, tk + 1, os⟩ := k _ (Nat.lt_succ_self _)
local macro_rules | `(tactic| k_inst) => `(tactic| exact Tbl.at (by assumption) (by k_asm))
theorem use_ret1 {M : Model} {A : Around} {E : Value → Shared → Prop} {s : Shared} {h₀ : Heap} {L : Addr} {m : PySem.Str → Option Value} {news : List (Addr × Obj)} {t : Sem Value} {P : Value → Heap → Prop} {Q : Value → Shared → Prop}
    (h : wpAny M A t (Ret1 s P) NoE s) (F : Fr h₀ L s.heap m) (N : News h₀ L s.heap news)
    (k : ∀ v h' tk', P v h' → 1 ≤ tk' → s.heap.StaysIn h' → Fr h₀ L h' m → News h₀ L h' news → Q v { s with heap := h', toks := tk' }) : wpAny M A t Q E s := by
  refine wpAny_mono h (fun v s' q => ?_) (fun _ _ x => x.elim)
  obtain ⟨h', tk', rfl, h1, hk, hp⟩ := q
  exact k v h' tk' hp h1 hk ⟨F.ns.keeps hk, fun b o e => hk b o (F.keep b o e), F.above⟩ (fun p hp => ⟨hk _ _ (N p hp).1, (N p hp).2⟩)
local macro_rules | `(tactic| walk_at "call ref") => `(tactic| (
  (show wpAny _ _ (call (Value.ref 76) [Value.ref _, Value.str _ _] [(PySem.Str.ofString "name", Value.bool true)]) _ _ _);
  refine' use_ret1 (convN_spec1 ?R ?X ?T _ _ _ ?C) ?F ?N ?_;
  (case F => k_asm); (case N => k_asm); (case X => exact Frag.In.keeps (by k_asm) (Fr.keep (by k_asm)));
  (case T => exact Top.keeps (by k_asm) (Fr.keep (by k_asm)));
  (case R => exact Room.less (Room.deeper (by assumption) _) (by decide));
  (case C => first | assumption | exact clean_last | exact clean_one);
  intro v' h' tk' e' htk' hk' F' N'; subst e'; (try k_sweep)))
local macro_rules | `(tactic| walk_at "call ref") => `(tactic| (
  (show wpAny _ _ (call (Value.ref 76) [Value.ref _, Value.str _ _] [(PySem.Str.ofString "name", Value.bool false)]) _ _ _);
  refine' use_ret1 (convV_spec1 ?R ?X ?T _ _ _ ?C) ?F ?N ?_;
  (case F => k_asm); (case N => k_asm); (case X => exact Frag.In.keeps (by k_asm) (Fr.keep (by k_asm)));
  (case T => exact Top.keeps (by k_asm) (Fr.keep (by k_asm)));
  (case R => exact Room.less (Room.deeper (by assumption) _) (by decide));
  (case C => assumption);
  intro v' h' tk' e' htk' hk' F' N'; subst e'; (try k_sweep)))
theorem str_len_app' (x y : PySem.Str) : (x ++ y).length = x.length + y.length := Array.size_append
theorem rep_last : Txt.replace (PySem.Str.ofString "last_mode") (PySem.Str.ofString "_") (PySem.Str.ofString "-") = PySem.Str.ofString "last-mode" := by decide +kernel
theorem rep_one : Txt.replace (PySem.Str.ofString "one") (PySem.Str.ofString "_") (PySem.Str.ofString "-") = PySem.Str.ofString "one" := by decide +kernel
theorem rep_lit {prog : Program} {w : World} {A : Around} {E : Value → Shared → Prop} {s : Shared} {x y z r : PySem.Str} {t : Tok} {Q : Value → Shared → Prop} {a u v : Nat} (h1 : a < u) (h2 : u < v) (hyz : (y == z) = false) (hx : x.length ≤ 1048576) (hz : z.length ≤ 14) (he : Txt.replace x y z = r)
    (hq : ∀ t' k, Q (.str r t') { s with toks := k }) : wpAny (model prog w) A (call (.builtin "str.replace") [.str x t, .str y u, .str z v]) Q E s :=
  SC.replaceW (Nat.ne_of_gt (Nat.lt_of_le_of_lt (Nat.zero_le _) h1)) (Nat.ne_of_gt (Nat.lt_of_le_of_lt (Nat.zero_le _) h2)) (Nat.ne_of_lt h2) hyz hx hz fun t' k => by rw [he]; exact hq t' k
local macro_rules | `(tactic| walk_at "call builtin:str.replace") => `(tactic| (refine rep_lit (by assumption) (by assumption) (by decide +kernel) (by decide +kernel) (by decide +kernel) (by first | exact rep_last | exact rep_one) ?_; intro t' k'))
theorem len_last : (PySem.Str.ofString "last-mode").length ≤ 1000 := by decide +kernel
local macro_rules | `(tactic| walk_at "call ref") => `(tactic| (
  (show wpAny _ _ (call (Value.ref 54) [Value.str _ _, Value.str _ _] []) _ _ _);
  refine' use_ret (par_spec ?R ?X ?T _ _ len_last _ _ ?v1 ?v2 ?o1 ?o2) ?F ?N ?_;
  (case F => k_asm); (case N => k_asm); (case X => exact Frag.In.keeps (by k_asm) (Fr.keep (by k_asm)));
  (case T => exact Top.keeps (by k_asm) (Fr.keep (by k_asm)));
  (case R => exact Room.less (Room.deeper (by assumption) _) (by decide));
  (case v1 => assumption); (case v2 => assumption); (case o1 => assumption); (case o2 => assumption);
  intro v' h' tk' e' hk' F' N'; obtain ⟨t', e'⟩ := e'; subst e'; (try k_sweep)))
section
variable {w : World} {A : Around} {s : Shared} {mean : ExcName → Option Value} {mg mb : PySem.Str → Option Value} {tb dx hl : Addr} {tk₀ : Tok} {g : Heap} {vs : List Value} {n : Nat} {ps : List (PySem.Str × PySem.Str)}
set_option maxRecDepth 100000 in
set_option maxHeartbeats 8000000 in
theorem add2_spec (R : Room A 8) (X : (hd.heap_1 w.params).In g) (T : TT mean mg mb g) (O : Own w g s.heap tb dx hl tk₀ vs n ps)
    (x : PySem.Str) (t : Tok) (hxn : Clean badN x) (y : PySem.Str) (u : Tok) (hyl : y.length ≤ 1000) (hyv : Clean badV y)
    (v : PySem.Str) (tv : Tok) (hv : v.length ≤ 1000) (hv0 : 0 < v.length) (hvv : Clean badV v) (ho1 : Builtin.Str.occurrences v (PySem.Str.ofString "\\") 0 v.length (v.length + 1) = []) (ho2 : Builtin.Str.occurrences v (PySem.Str.ofString "\"") 0 v.length (v.length + 1) = []) :
    wpAny (model PG w) A (call (.ref 172) [.ref tb, .str x t, .str y u] [(PySem.Str.ofString "last_mode", .str v tv), (PySem.Str.ofString "one", .none)])
      (RetM g s fun r h' => r = .none ∧ Now hl (ps ++ [(x, y ++ PySem.Str.ofString "; last-mode=\"" ++ v ++ PySem.Str.ofString "\"; one")]) h') NoE s := by
  obtain ⟨f1, f2, f3, f4⟩ := A
  have hh := R.handled
  dsimp only at hh
  subst hh
  have hX := X.keeps O.keep
  refine abs_post fun Q hQ => ?_
  refine call_kw (nm := PySem.Str.ofString "_params") (ex := [(PySem.Str.ofString "last_mode", .str v tv), (PySem.Str.ofString "one", .none)]) (front := [(PySem.Str.ofString "self", .ref tb), (PySem.Str.ofString "_name", .str x t), (PySem.Str.ofString "_value", .str y u)]) R hX (T.nolimit.keeps O.keep) (by k_is) (by k_is) rfl (fun D => rfl) (by rfl) (fun D => locs rfl) ?_
  clear hX
  intro D oD L h₁ tk0 hmod hisd F N
  have hflat : PyProof.V.FlatPairs PyData.str [(PySem.Str.ofString "last_mode", Value.str v tv), (PySem.Str.ofString "one", Value.none)] [(.str (PySem.Str.ofString "last_mode"), .str v), (.str (PySem.Str.ofString "one"), .none)] := .cons (.str _ _) (.cons .none .nil)
  have B := O.B
  have N1 := O.news F N
  have F1 := O.fr F
  clear F N
  simp only [List.nil_append, List.cons_append] at N1
  (repeat (first | ((with_reducible refine tok1 ?_); intro z' hz'; (try dsimp only at hz')) | ((with_reducible show wpAny _ _ (exec _ _) _ _ _); refine abs_post fun Q' hQ' => ?_; walk1) | (dsimp only; walk1) | walk1 | (refine hQ' _ _ ?_; clear hQ')))
  rename News _ _ _ _ => N
  refine join_list (ys := [y, PySem.Str.ofString "last-mode" ++ PySem.Str.ofString "=\"" ++ v ++ PySem.Str.ofString "\"", PySem.Str.ofString "one"]) ⟨_, (N _ (.head _)).1, rfl, _, rfl⟩ (.cons _ _ (.cons _ _ (.cons _ _ .nil))) ?_ fun t' k => ?_
  · simp only [List.map_cons, List.map_nil, List.sum_cons, List.sum_nil, List.length_cons, List.length_nil, str_len_app']
    have e1 : (PySem.Str.ofString "last-mode").length = 9 := by decide +kernel
    have e2 : (PySem.Str.ofString "=\"").length = 2 := by decide +kernel
    have e3 : (PySem.Str.ofString "\"").length = 1 := by decide +kernel
    have e4 : (PySem.Str.ofString "one").length = 3 := by decide +kernel
    have e5 : (PySem.Str.ofString "; ").length = 2 := by decide +kernel
    rw [e1, e2, e3, e4, e5]
    omega
  (repeat (first | ((with_reducible refine tok1 ?_); intro z' hz'; (try dsimp only at hz')) | ((with_reducible show wpAny _ _ (exec _ _) _ _ _); refine abs_post fun Q' hQ' => ?_; walk1) | (dsimp only; walk1) | walk1 | (refine hQ' _ _ ?_; clear hQ')))
  rename Fr _ _ _ _ => F
  rename News _ _ _ _ => N
  have hD := (N _ (.head _)).1
  have hL := N _ (.tail _ (.tail _ (.tail _ (.head _))))
  have e : Txt.join (PySem.Str.ofString "; ") [y, PySem.Str.ofString "last-mode" ++ PySem.Str.ofString "=\"" ++ v ++ PySem.Str.ofString "\"", PySem.Str.ofString "one"] = y ++ PySem.Str.ofString "; last-mode=\"" ++ v ++ PySem.Str.ofString "\"; one" := by
    have c1 : PySem.Str.ofString "; last-mode=\"" = PySem.Str.ofString "; " ++ (PySem.Str.ofString "last-mode" ++ PySem.Str.ofString "=\"") := by decide +kernel
    have c2 : PySem.Str.ofString "\"; one" = PySem.Str.ofString "\"" ++ (PySem.Str.ofString "; " ++ PySem.Str.ofString "one") := by decide +kernel
    rw [c1, c2]
    show y ++ PySem.Str.ofString "; " ++ (PySem.Str.ofString "last-mode" ++ PySem.Str.ofString "=\"" ++ v ++ PySem.Str.ofString "\"") ++ PySem.Str.ofString "; " ++ PySem.Str.ofString "one" = _
    simp only [PySem.Str.append_assoc]
  rw [e] at hD
  refine append_at hL.1 (fun h8 hs8 ho8 => ?_) (by simp; exact Nat.le_trans O.hz (by decide))
  have F8 := F.change hs8 hL.2.1 hL.2.2
  have hnow := now_app hL.1 hD O.hps F.keep hs8 ho8
  clear F N
  (repeat (first | ((with_reducible show wpAny _ _ (exec _ _) _ _ _); refine abs_post fun Q' hQ' => ?_; walk1) | (dsimp only; walk1) | walk1 | (refine hQ' _ _ ?_; clear hQ')))
  refine hQ _ _ ?_
  exact ⟨_, _, rfl, F8.keep, rfl, hnow⟩
end
end Mine
end
section
namespace Mine
local macro_rules | `(tactic| k_inst) => `(tactic| exact Tbl.at (by assumption) (by k_asm))
theorem pairs_ref {h : Heap} {vs : List Value} {ps : List (PySem.Str × PySem.Str)} (hps : AtAll h vs (ps.map pairD)) : ∀ v ∈ vs, ∃ a, v = .ref a := by
  intro v hv
  obtain ⟨i, hi⟩ := List.getElem?_of_mem hv
  obtain ⟨d', h1, h2⟩ := hps.get hi
  rw [List.getElem?_map] at h1
  obtain ⟨p, _, rfl⟩ := Option.map_eq_some_iff.mp h1
  obtain ⟨a, _, _, e, _⟩ := h2.pair
  exact ⟨a, e⟩
section
variable {w : World} {A : Around} {s : Shared} {mean : ExcName → Option Value} {mg mb : PySem.Str → Option Value} {tb dx hl : Addr} {tk₀ : Tok}
set_option maxRecDepth 100000 in
set_option maxHeartbeats 8000000 in
theorem keys_spec (R : Room A 5) (X : (hd.heap_1 w.params).In s.heap) (T : TT mean mg mb s.heap) (B : Tbl w s.heap tb dx hl tk₀) (vs : List Value) (hl' : s.heap.IsList hl vs.toArray) (hz : vs.length ≤ 1000) (ps : List (PySem.Str × PySem.Str)) (hps : AtAll s.heap vs (ps.map pairD)) :
    wpAny (model PG w) A (call (.ref 127) [.ref tb]) (Ret s fun v h' => At h' v (.list (ps.map fun p => .str p.1))) NoE s := by
  refine call_pure [(PySem.Str.ofString "self", .ref tb)] R X T.nolimit (by k_is) (by k_is) (BindsTo.of_eq rfl) (locs rfl) ?_
  intro L h₁ tk0 F
  have N : News s.heap L h₁ [] := News.nil
  have hh : A.handled = none := R.handled
  iterate 2 (first | (dsimp only; walk1) | walk1)
  refine comp_data (cl := []) pairD (fun _ => true) (fun p => .str p.1) hh rfl (by decide) rfl (by decide) ?_
  iterate 3 (first | (dsimp only; walk1) | walk1)
  refine ⟨hl, vs, ps, rfl, hl'.at fun o e => F.keep _ _ e, hps.keeps F.keep, hz, owned_list ⟨_, _, _, rfl⟩ (pairs_ref hps), ?_, ?_⟩
  · intro C v p h tk m led hp hat F2 N2
    change Fr _ C h m at F2
    change News _ C h led at N2
    obtain ⟨a, t1, u1, rfl, htup⟩ := hat.pair
    refine asgC2 hh F2 N2 (htup.at fun o e => F2.keep _ _ e) fun h3 tk3 F3 N3 => ?_
    refine wpAny_tests_nil ⟨rfl, fun _ => ?_, fun e => nomatch e⟩
    refine ldC F3 rfl ?_
    exact ⟨_, _, _, [], rfl, F3, N3, (fun p hp => nomatch hp), fun h _ _ => .cons .str .nil⟩
  · intro D h' tk' ys n hD hDl hat hk
    refine ⟨_, _, rfl, fun b o e => hk b o (F.keep b o e), At.list ⟨_, hDl, rfl, n, rfl⟩ ?_⟩
    rwa [List.filter_eq_self.mpr (fun _ _ => rfl)] at hat
set_option maxRecDepth 100000 in
set_option maxHeartbeats 8000000 in
theorem values_spec (R : Room A 5) (X : (hd.heap_1 w.params).In s.heap) (T : TT mean mg mb s.heap) (B : Tbl w s.heap tb dx hl tk₀) (vs : List Value) (hl' : s.heap.IsList hl vs.toArray) (hz : vs.length ≤ 1000) (ps : List (PySem.Str × PySem.Str)) (hps : AtAll s.heap vs (ps.map pairD)) :
    wpAny (model PG w) A (call (.ref 132) [.ref tb]) (Ret s fun v h' => At h' v (.list (ps.map fun p => .str p.2))) NoE s := by
  refine call_pure [(PySem.Str.ofString "self", .ref tb)] R X T.nolimit (by k_is) (by k_is) (BindsTo.of_eq rfl) (locs rfl) ?_
  intro L h₁ tk0 F
  have N : News s.heap L h₁ [] := News.nil
  have hh : A.handled = none := R.handled
  iterate 2 (first | (dsimp only; walk1) | walk1)
  refine comp_data (cl := []) pairD (fun _ => true) (fun p => .str p.2) hh rfl (by decide) rfl (by decide) ?_
  iterate 3 (first | (dsimp only; walk1) | walk1)
  refine ⟨hl, vs, ps, rfl, hl'.at fun o e => F.keep _ _ e, hps.keeps F.keep, hz, owned_list ⟨_, _, _, rfl⟩ (pairs_ref hps), ?_, ?_⟩
  · intro C v p h tk m led hp hat F2 N2
    change Fr _ C h m at F2
    change News _ C h led at N2
    obtain ⟨a, t1, u1, rfl, htup⟩ := hat.pair
    refine asgC2 hh F2 N2 (htup.at fun o e => F2.keep _ _ e) fun h3 tk3 F3 N3 => ?_
    refine wpAny_tests_nil ⟨rfl, fun _ => ?_, fun e => nomatch e⟩
    refine ldC F3 rfl ?_
    exact ⟨_, _, _, [], rfl, F3, N3, (fun p hp => nomatch hp), fun h _ _ => .cons .str .nil⟩
  · intro D h' tk' ys n hD hDl hat hk
    refine ⟨_, _, rfl, fun b o e => hk b o (F.keep b o e), At.list ⟨_, hDl, rfl, n, rfl⟩ ?_⟩
    rwa [List.filter_eq_self.mpr (fun _ _ => rfl)] at hat
theorem str_len_app (x y : PySem.Str) : (x ++ y).length = x.length + y.length := Array.size_append
theorem sum_le_mul {α : Type} (f : α → Nat) (B : Nat) : ∀ (ys : List α), (∀ y ∈ ys, f y ≤ B) → (ys.map f).sum ≤ ys.length * B
  | [], _ => by simp
  | y :: ys, h => by
    have h1 := h y (.head _)
    have h2 := sum_le_mul f B ys fun z hz => h z (.tail _ hz)
    simp only [List.map_cons, List.sum_cons, List.length_cons, Nat.add_mul, Nat.one_mul]
    omega
theorem strs_of {h : Heap} {vs : List Value} {ys : List PySem.Str} (r : AtAll h vs (ys.map .str)) : StrsAre vs ys := let ⟨_, r⟩ := r; (readsAll_are_strs r).1
set_option maxRecDepth 100000 in
set_option maxHeartbeats 8000000 in
theorem str_spec (R : Room A 5) (X : (hd.heap_1 w.params).In s.heap) (T : TT mean mg mb s.heap) (B : Tbl w s.heap tb dx hl tk₀) (vs : List Value) (hl' : s.heap.IsList hl vs.toArray) (hz : vs.length ≤ 1000) (ps : List (PySem.Str × PySem.Str)) (hps : AtAll s.heap vs (ps.map pairD)) (hpl : ∀ p ∈ ps, p.1.length ≤ 1000 ∧ p.2.length ≤ 1000) :
    wpAny (model PG w) A (call (.ref 151) [.ref tb]) (Ret s fun v _ => ∃ t, v = .str (Txt.join (PySem.Str.ofString "\r\n") ((ps.map fun p => p.1 ++ PySem.Str.ofString ": " ++ p.2) ++ [PySem.Str.ofString "", PySem.Str.ofString ""])) t) NoE s := by
  refine call_pure [(PySem.Str.ofString "self", .ref tb)] R X T.nolimit (by k_is) (by k_is) (BindsTo.of_eq rfl) (locs rfl) ?_
  intro L h₁ tk0 F
  have N : News s.heap L h₁ [] := News.nil
  have hh : A.handled = none := R.handled
  iterate 8 (first | (dsimp only; walk1) | walk1)
  refine comp_data (cl := []) pairD (fun _ => true) (fun p => .str (p.1 ++ PySem.Str.ofString ": " ++ p.2)) hh rfl (by decide) rfl (by decide) ?_
  iterate 3 (first | (dsimp only; walk1) | walk1)
  refine ⟨hl, vs, ps, rfl, hl'.at fun o e => F.keep _ _ e, hps.keeps F.keep, hz, named_owned, ?_, ?_⟩
  · intro C v p h tk m led hp hat F2 N2
    change Fr _ C h m at F2
    change News _ C h led at N2
    obtain ⟨a, t1, u1, rfl, htup⟩ := hat.pair
    refine asgC F2 N2 fun h3 F3 N3 => ?_
    refine wpAny_tests_nil ⟨rfl, fun _ => ?_, fun e => nomatch e⟩
    refine wpAny_BinOp (wpAny_Constant_str (ldC F3 rfl ?_))
    refine mod_tup (htup.at fun o e => F3.keep _ _ e) (by decide +kernel) (fmt_colon p.1 p.2 _ _ _ _ (Nat.le_trans (hpl p hp).1 (by decide)) (Nat.le_trans (hpl p hp).2 (by decide))) fun t' k => ?_
    exact ⟨_, _, _, [], rfl, F3, N3, (fun p hp => nomatch hp), fun h _ _ => .cons .str .nil⟩
  · intro D h' tk' ys n hD hDl hat hk
    rw [List.filter_eq_self.mpr (fun _ _ => rfl)] at hat
    have F' := Fr.stay F hk
    have N' := News.made F N hD hk hDl
    clear F N
    iterate 7 (first | (dsimp only; walk1) | walk1)
    rename Fr _ _ _ _ => F
    rename News _ _ _ _ => N
    have hlen : ys.length = ps.length := by simpa using hat.length
    have hvl : vs.length = ps.length := by simpa using hps.length
    refine add_lists F N (vs := ys) (ws := [_, _]) ⟨_, (N _ (.tail _ (.head _))).1, rfl, n, rfl⟩ ⟨_, (N _ (.head _)).1, rfl, _, rfl⟩ ?_ (by simp only [List.length_cons, List.length_nil, hlen, ← hvl]; exact Nat.le_trans (Nat.add_le_add_right hz _) (by decide))
    intro h5 F5 N5
    clear F N
    (repeat (first | (dsimp only; walk1) | walk1))
    have hs5 : ∀ a b, StrsAre (ys ++ [.str (PySem.Str.ofString "") a, .str (PySem.Str.ofString "") b]) ((ps.map fun p => p.1 ++ PySem.Str.ofString ": " ++ p.2) ++ [PySem.Str.ofString "", PySem.Str.ofString ""]) :=
      fun a b => strs_of (h := h') (by rw [List.map_append, List.map_map]; exact AtAll.append hat (.cons .str (.cons .str .nil)))
    refine join_list ⟨_, (N5 _ (.head _)).1, rfl, _, rfl⟩ (hs5 _ _) ?_ fun t' k => ?_
    · have h1 := sum_le_mul (fun y : PySem.Str => y.length) 2002 ((ps.map fun p => p.1 ++ PySem.Str.ofString ": " ++ p.2) ++ [PySem.Str.ofString "", PySem.Str.ofString ""]) ?_
      · simp only [List.length_append, List.length_map, List.length_cons, List.length_nil] at h1 ⊢
        have : (PySem.Str.ofString "\r\n").length = 2 := by decide +kernel
        rw [this]
        omega
      · intro y hy
        rcases List.mem_append.mp hy with hy | hy
        · obtain ⟨p, hp, rfl⟩ := List.mem_map.mp hy
          have := hpl p hp
          have e2 : (PySem.Str.ofString ": ").length = 2 := by decide +kernel
          have e3 : (p.1 ++ PySem.Str.ofString ": " ++ p.2).length = p.1.length + (PySem.Str.ofString ": ").length + p.2.length := by rw [str_len_app, str_len_app]
          rw [e3, e2]; omega
        · have : y = PySem.Str.ofString "" := by simpa using hy
          subst this; decide +kernel
    · (repeat (first | (dsimp only; walk1) | walk1))
      exact ⟨_, _, rfl, F5.keep, _, rfl⟩
end
end Mine
end
section
namespace Mine
abbrev Ent := Int × PySem.Str × PySem.Str
abbrev prOf (e : Ent) : PySem.Str × PySem.Str := (e.2.1, e.2.2)
section
variable {w : World} {A : Around} {s : Shared} {mean : ExcName → Option Value} {mg mb : PySem.Str → Option Value}
set_option maxRecDepth 100000 in
set_option maxHeartbeats 8000000 in
theorem pairs_spec (R : Room A 3) (X : (hd.heap_1 w.params).In s.heap) (T : TT mean mg mb s.heap) (rs : List Ent) (l : Addr) (vs : List Value) (hl : s.heap.IsList l vs.toArray) (hvs : AtAll s.heap vs (rs.map tripD)) (hz : vs.length ≤ 1000) :
    wpAny (model PG w) A (call (.ref 271) [.ref l]) (Ret s fun r h' => ∃ a ys n, r = .ref a ∧ s.heap.get? a = none ∧ h'.get? a = some (listOf (List.toArray ys) n) ∧ AtAll h' ys ((rs.map prOf).map pairD)) NoE s := by
  refine call_pure [(PySem.Str.ofString "rows", .ref l)] R X T.nolimit (by k_is) (by k_is) (BindsTo.of_eq rfl) (locs rfl) ?_
  intro L h₁ tk0 F
  have N : News s.heap L h₁ [] := News.nil
  have hh : A.handled = none := R.handled
  iterate 2 (first | (dsimp only; walk1) | walk1)
  refine comp_data (cl := []) tripD (fun _ => true) (fun e => pairD (prOf e)) hh rfl (by decide) rfl (by decide) ?_
  iterate 1 (first | (dsimp only; walk1) | walk1)
  refine ⟨l, vs, rs, rfl, hl.at fun o e => F.keep _ _ e, hvs.keeps F.keep, hz, named_owned, ?_, ?_⟩
  · intro C v p h tk m led hp hat F2 N2
    change Fr _ C h m at F2
    change News _ C h led at N2
    obtain ⟨a, t0, t1, u1, rfl, htup⟩ := hat.trip
    refine asgC F2 N2 fun h3 F3 N3 => ?_
    refine wpAny_tests_nil ⟨rfl, fun _ => ?_, fun e => nomatch e⟩
    refine Tuple_ (spliced_more ?_)
    refine Subscript_ (ldC F3 rfl (wpAny_Constant_int (tupItem (htup.at fun o e => F3.keep _ _ e) (by decide) (by decide) (j := 1) rfl rfl ?_)))
    refine spliced_more ?_
    refine Subscript_ (ldC F3 rfl (wpAny_Constant_int (tupItem (htup.at fun o e => F3.keep _ _ e) (by decide) (by decide) (j := 2) rfl rfl ?_)))
    refine spliced_none ?_
    refine newTuple_N F3 N3 fun h4 F4 N4 => ?_
    exact ⟨_, _, _, [(_, _)], rfl, F4, N4, (fun p hp q hq => by rw [List.mem_singleton.mp hp]; exact Nat.ne_of_gt (Heap.lt_size (N3 q hq).1)), fun h k mm => .cons (At.tuple (vs := [_, _]) ⟨_, mm _ (.head _), rfl, _, rfl⟩ (.cons .str (.cons .str .nil))) .nil⟩
  · intro D h' tk' ys n hD hDl hat hk
    rw [List.filter_eq_self.mpr (fun _ _ => rfl)] at hat
    refine ⟨_, _, rfl, fun b o e => hk b o (F.keep b o e), D, ys, n, rfl, ?_, hDl, by rw [List.map_map]; exact hat⟩
    cases q : s.heap.get? D with
    | none => rfl
    | some o => rw [F.keep _ _ q] at hD; cases hD
end
end Mine
end
section
namespace Mine
abbrev SOk (x : PySem.Str) : Prop := PyData.strOk x = true
theorem strs_any {h h' : Heap} : ∀ {vs : List Value} {xs : List PySem.Str}, AtAll h vs (xs.map .str) → AtAll h' vs (xs.map .str)
  | _, [], r => by rw [r.inv_nil]; exact .nil
  | _, x :: xs, r => by
    obtain ⟨v, vs', rfl, r1, r2⟩ := r.inv
    obtain ⟨t, rfl⟩ := r1.str_inv
    exact .cons .str (strs_any r2)
theorem ints_any {h h' : Heap} : ∀ {vs : List Value} {xs : List Int}, AtAll h vs (xs.map .int) → AtAll h' vs (xs.map .int)
  | _, [], r => by rw [r.inv_nil]; exact .nil
  | _, x :: xs, r => by
    obtain ⟨v, vs', rfl, r1, r2⟩ := r.inv
    obtain ⟨t, rfl⟩ := r1.int_inv
    exact .cons .int (ints_any r2)
mutual
theorem eqv_refl : ∀ d : PyData, noD d = true → PyData.eqv d d = true
  | .none, _ => by simp [PyData.eqv]
  | .bool b, _ => by simp [PyData.eqv]
  | .int i, _ => by simp [PyData.eqv]
  | .str x, _ => by simp [PyData.eqv]
  | .list xs, h => by simp only [PyData.eqv]; exact eqvAll_refl xs (by simpa [noD] using h)
  | .tuple xs, h => by simp only [PyData.eqv]; exact eqvAll_refl xs (by simpa [noD] using h)
  | .dict kvs, h => by simp [noD] at h
theorem eqvAll_refl : ∀ ds : List PyData, noDs ds = true → PyData.eqvAll ds ds = true
  | [], _ => by simp [PyData.eqvAll]
  | d :: ds, h => by
    simp only [noDs, Bool.and_eq_true] at h
    simp only [PyData.eqvAll, Bool.and_eq_true]
    exact ⟨eqv_refl d h.1, eqvAll_refl ds h.2⟩
end
theorem lay_all {ds : List PyData} (h : ∀ d ∈ ds, d.canLay0 = true) : PyData.canLayAll0 ds = true := by
  induction ds with
  | nil => simp [PyData.canLayAll0]
  | cons d ds ih => simp only [PyData.canLayAll0, Bool.and_eq_true]; exact ⟨h d (.head _), ih fun e he => h e (.tail _ he)⟩
theorem depth_all {ds : List PyData} {n : Nat} (h : ∀ d ∈ ds, d.depth ≤ n) : PyData.depthAll ds ≤ n := by
  induction ds with
  | nil => simp [PyData.depthAll]
  | cons d ds ih => simp only [PyData.depthAll]; exact Nat.max_le.mpr ⟨h d (.head _), ih fun e he => h e (.tail _ he)⟩
theorem shaped_mk {d : PyData} (h1 : d.canLay0 = true) (h2 : d.depth ≤ 64) : SeqAt.shaped d = true := by
  unfold SeqAt.shaped; rw [h1]; simpa using h2
structure Fine (n : Nat) (d : PyData) : Prop where
  lay : d.canLay0 = true
  depth : d.depth ≤ n
  noD : noD d = true
theorem Fine.none {n : Nat} : Fine n .none := ⟨by simp [PyData.canLay0], by simp [PyData.depth], rfl⟩
theorem Fine.int {n : Nat} {i : Int} : Fine n (.int i) := ⟨by simp [PyData.canLay0], by simp [PyData.depth], rfl⟩
theorem Fine.str {n : Nat} {x : PySem.Str} (h : SOk x) : Fine n (.str x) := ⟨by simpa [PyData.canLay0] using h, by simp [PyData.depth], rfl⟩
theorem Fine.list {n : Nat} {ds : List PyData} (h : ∀ d ∈ ds, Fine n d) : Fine (n + 1) (.list ds) :=
  ⟨by simp only [PyData.canLay0]; exact lay_all fun d hd => (h d hd).lay, by simp only [PyData.depth]; exact Nat.succ_le_succ (depth_all fun d hd => (h d hd).depth), by simp only [Mine.noD]; exact noDs_of fun d hd => (h d hd).noD⟩
theorem Fine.tuple {n : Nat} {ds : List PyData} (h : ∀ d ∈ ds, Fine n d) : Fine (n + 1) (.tuple ds) :=
  ⟨by simp only [PyData.canLay0]; exact lay_all fun d hd => (h d hd).lay, by simp only [PyData.depth]; exact Nat.succ_le_succ (depth_all fun d hd => (h d hd).depth), by simp only [Mine.noD]; exact noDs_of fun d hd => (h d hd).noD⟩
theorem Fine.more {n m : Nat} {d : PyData} (h : Fine n d) (k : n ≤ m) : Fine m d := ⟨h.lay, Nat.le_trans h.depth k, h.noD⟩
theorem Fine.shaped {n : Nat} {d : PyData} (h : Fine n d) (k : n ≤ 64 := by decide) : SeqAt.shaped d = true := shaped_mk h.lay (Nat.le_trans h.depth k)
theorem Fine.refl {n : Nat} {d : PyData} (h : Fine n d) : PyData.eqv d d = true := eqv_refl d h.noD
theorem Fine.pair {p : PySem.Str × PySem.Str} (h1 : SOk p.1) (h2 : SOk p.2) : Fine 1 (pairD p) := .tuple fun d hd => by
  rcases List.mem_cons.mp hd with rfl | hd
  · exact .str h1
  · rw [List.mem_singleton.mp hd]; exact .str h2
theorem Fine.trip {p : Ent} (h1 : SOk p.2.1) (h2 : SOk p.2.2) : Fine 1 (tripD p) := .tuple fun d hd => by
  rcases List.mem_cons.mp hd with rfl | hd
  · exact .int
  · rcases List.mem_cons.mp hd with rfl | hd
    · exact .str h1
    · rw [List.mem_singleton.mp hd]; exact .str h2
theorem Fine.pairs {ps : List (PySem.Str × PySem.Str)} (h : ∀ p ∈ ps, SOk p.1 ∧ SOk p.2) : Fine 2 (.list (ps.map pairD)) := .list fun d hd => by
  obtain ⟨p, hp, rfl⟩ := List.mem_map.mp hd
  exact .pair (h p hp).1 (h p hp).2
theorem Fine.trips {ps : List Ent} (h : ∀ p ∈ ps, SOk p.2.1 ∧ SOk p.2.2) : Fine 2 (.list (ps.map tripD)) := .list fun d hd => by
  obtain ⟨p, hp, rfl⟩ := List.mem_map.mp hd
  exact .trip (h p hp).1 (h p hp).2
theorem Fine.strs {xs : List PySem.Str} (h : ∀ x ∈ xs, SOk x) : Fine 1 (.list (xs.map .str)) := .list fun d hd => by
  obtain ⟨p, hp, rfl⟩ := List.mem_map.mp hd
  exact .str (h p hp)
section
variable {prog : Program} {w : World} {A : Around} {E : Value → Shared → Prop} {s : Shared} {a b : Value} {da db : PyData} {n m : Nat} {Q : Value → Shared → Prop}
theorem ne_at (ra : At s.heap a da) (rb : At s.heap b db) (ha : Fine n da) (hb : Fine m db) (hn : n ≤ 64) (hm : m ≤ 64) (hu : A.units ≤ 1000) (h : Q (.bool (!PyData.eqv da db)) s) : wpAny (model prog w) A (compareOp .NotEq a b) Q E s := by
  obtain ⟨_, ra⟩ := ra
  obtain ⟨_, rb⟩ := rb
  exact SeqAt.compareNe_shaped ra rb (ha.shaped hn) (hb.shaped hm) (by show A.units + 64 < 9900; omega) h
theorem eq_at (ra : At s.heap a da) (rb : At s.heap b db) (ha : Fine n da) (hb : Fine m db) (hn : n ≤ 64) (hm : m ≤ 64) (hu : A.units ≤ 1000) (h : Q (.bool (PyData.eqv da db)) s) : wpAny (model prog w) A (compareOp .Eq a b) Q E s := by
  obtain ⟨_, ra⟩ := ra
  obtain ⟨_, rb⟩ := rb
  exact SeqAt.compareEq_shaped ra rb (ha.shaped hn) (hb.shaped hm) (by show A.units + 64 < 9900; omega) h
end
end Mine
end
section
set_option maxRecDepth 100000
namespace Mine
open PySem.SeqAt PySem.MeetsSeq in
open AutoSeq1 (wpAny_loadPart') in
theorem remove_loop_at (l : Addr) (items : Array Value) (n : Nat) (x : Value) (e : Value → Bool) (hs1 : items.size ≤ sizeLine) (k : Nat) :
    ∀ i : Nat, items.size - i = k → Meets (Builtin.«list.remove.loop» ⟨[.ref l, x, rawInt i], []⟩)
      (fun A R s => s.heap.get? l = some { cls := .type "list", dict := none, data := .seq items n, slots := #[] } ∧ (∀ y, y ∈ items → EqAt A.in1 s y x (e y)) ∧
        (∀ j (hj : j < items.size), i ≤ j → e items[j] = true → (∀ m (hm : m < items.size), i ≤ m → m < j → e items[m] = false) → R (.ok (.ret .none)) { s with heap := s.heap.update l (Obj.mapSeq fun xs => xs.eraseIdxIfInBounds j) }) ∧
        ((∀ m (hm : m < items.size), i ≤ m → e items[m] = false) → raisesNew "ValueError" A R s)) := by
  induction k with
  | zero =>
    intro i hk prog w A R s h
    obtain ⟨hp, g, d, tk, os⟩ := s; obtain ⟨hl, he, h1, h2⟩ := h
    wp_walk using wpAny_loadPart' hl
    have hi : items[((i : Nat) : Int).toNat]? = none := by simp; omega
    rw [hi]
    wp_walk
    have h := h2 fun m hm hi' => by omega
    exact_raiseError plainExc_ValueError h.1 h.2
  | succ k ih =>
    intro i hk prog w A R s h
    obtain ⟨hp, g, d, tk, os⟩ := s; obtain ⟨hl, he, h1, h2⟩ := h
    have hlt : i < items.size := by omega
    wp_walk using wpAny_loadPart' hl
    have hi : items[((i : Nat) : Int).toNat]? = some items[i] := by simp [hlt]
    have hc : ((i : Int) + 1) = ((i + 1 : Nat) : Int) := by push_cast; rfl
    rw [hi]
    refine wpAny_bind (he _ (Array.getElem_mem hlt) prog w _ _ ?_)
    cases hb : e items[i] with
    | true =>
      have h := h1 i hlt (Nat.le_refl _) hb fun m hm q1 q2 => by omega
      have hz' : (items.eraseIdxIfInBounds i).size ≤ sizeLine + 1 := Nat.le_trans (size_erased items _) (Nat.le_succ_of_le hs1)
      wp_walk using (wpAny_updateSeq hl rfl (hz := hs1) (_hz' := hz')), wpAny_loadPart' hl
      simpa using h
    | false =>
      wp_walk
      rw [hc]
      exact ⟨plainId_quiet plain_remove_loop _, codeAny_builtin entry_remove_loop (by
        rw [Around.under_plainId plain_remove_loop _]
        refine ih (i + 1) (by omega) prog w A R _ ⟨hl, he, fun j hj hij hit hno => h1 j hj (by omega) hit fun m hm q1 q2 => ?_, fun hno => h2 fun m hm q1 => ?_⟩
        · rcases Nat.eq_or_lt_of_le q1 with rfl | q1
          · exact hb
          · exact hno m hm q1 q2
        · rcases Nat.eq_or_lt_of_le q1 with rfl | q1
          · exact hb
          · exact hno m hm q1)⟩
open PySem.SeqAt PySem.MeetsSeq in
open AutoSeq1 (wpAny_loadPart') in
theorem list_remove_at (l : Addr) (items : Array Value) (n : Nat) (x : Value) (e : Value → Bool) (hs1 : items.size ≤ sizeLine) :
    Meets (Builtin.«list.remove» ⟨[.ref l, x], []⟩)
      (fun A R s => s.heap.get? l = some { cls := .type "list", dict := none, data := .seq items n, slots := #[] } ∧ (∀ y, y ∈ items → EqAt A.in1 s y x (e y)) ∧
        (∀ j (hj : j < items.size), 0 ≤ j → e items[j] = true → (∀ m (hm : m < items.size), 0 ≤ m → m < j → e items[m] = false) → R (.ok (.ret .none)) { s with heap := s.heap.update l (Obj.mapSeq fun xs => xs.eraseIdxIfInBounds j) }) ∧
        ((∀ m (hm : m < items.size), 0 ≤ m → e items[m] = false) → raisesNew "ValueError" A R s)) := by
  intro prog w A R s h
  obtain ⟨hp, g, d, tk, os⟩ := s; obtain ⟨hl, h⟩ := h
  wp_walk using wpAny_loadPart' hl
  exact ⟨plainId_quiet plain_remove_loop _, codeAny_builtin entry_remove_loop (by
    rw [Around.under_plainId plain_remove_loop _]
    exact remove_loop_at l items n x e hs1 _ 0 rfl prog w A R _ ⟨hl, h⟩)⟩
end Mine
end
section
namespace Mine
section
variable {prog : Program} {w : World} {A : Around} {s : Shared} {K : Frag} {E : Value → Shared → Prop} {Q : Value → Shared → Prop}
theorem call_pureE {name qual : PySem.Str} {params : Arguments} {body : List Stmt} {scope : Scope} {dV kV doc pm cdv ct oc : Value} {an od : Option Addr} {osl : Array (Option Value)} {f : Addr} {vals : List Value} {kw : List (PySem.Str × Value)}
    (binds : List (PySem.Str × Value)) {n : Nat}
    (R : Room A n) (X : K.In s.heap) (hlim : s.heap.NoLimit)
    (ho : K.lookup f = some ⟨oc, od, .func (fnOf name qual params body scope dV kV doc pm an cdv ct), osl⟩) (hcd : codeIn K cdv qual = true)
    (hbind : BindsTo s (fnOf name qual params body scope dV kV doc pm an cdv ct) ⟨vals, kw⟩ binds) (hloc : ∀ y ∈ binds, scope.names.lookup y.1 = some .local)
    (h : ∀ L h₁ tk, Fr s.heap L h₁ (fun y => binds.reverse.lookup y) →
      wpAny (model prog w) (A.deeper (envOf qual scope L f cdv)) (execs body (envOf qual scope L f cdv))
        (fun fl s' => Q (match fl with | .ret v => v | _ => .none) s')
        (fun e s' => wpAny (model prog w) (A.deeper (envOf qual scope L f cdv)) (leaving (envOf qual scope L f cdv) e) (fun _ s'' => E e s'') (fun e' s'' => E e' s'') s') { s with heap := h₁, toks := tk })
    (hco : scope.isCoroutine = false := by rfl) (hgen : scope.isGenerator = false := by rfl) (hk : scope.kind = .function := by rfl)
    (hcell : ∀ x ∈ scope.names, x.2 ≠ .cell := by decide) : wpAny (model prog w) A (call (.ref f) vals kw) Q E s := by
  refine wpAny_call (codeAny_call_def (fd := fnOf name qual params body scope dV kV doc pm an cdv ct) (body := body) (binds := binds) (by have := R.depth; show A.depth < 1000; omega) (X _ _ ho) rfl hlim (codeRec_of X hcd) rfl hbind hcell hloc (fun h₁ hns hk₁ => ?_) hco hgen hk)
  exact h _ h₁ _ ⟨hns, hk₁, Nat.le_refl _⟩
end
theorem noBool_match : typeLookup (.type "re.Match") "__bool__" = pure none := by rw [typeLookup_type, builtinLookup_eq_fast]; kernel_rfl
theorem noLen_match : typeLookup (.type "re.Match") "__len__" = pure none := by rw [typeLookup_type, builtinLookup_eq_fast]; kernel_rfl
theorem truthy_match {prog : Program} {w : World} {A : Around} {E : Value → Shared → Prop} {s : Shared} {a : Addr} {o : Obj} {Q : Bool → Shared → Prop} (ho : s.heap.get? a = some o) (hc : o.cls = .type "re.Match") (h : Q true s) : wpAny (model prog w) A (truthy (.ref a)) Q E s := by
  have hT : s.TypeIs (.ref a) "re.Match" := ⟨o, ho, hc⟩
  unfold truthy
  first
    | refine wpAny_bind (wpAny_callSpecial?_none (name := PySem.Str.ofString "__bool__") hT noBool_match ?_)
    | refine wpAny_bind (wpAny_pure (wpAny_bind (wpAny_callSpecial?_none (name := PySem.Str.ofString "__bool__") hT noBool_match ?_)))
  first
    | refine wpAny_bind (wpAny_specialOf (name := PySem.Str.ofString "__len__") hT noLen_match ?_)
    | refine wpAny_bind (wpAny_pure (wpAny_bind (wpAny_specialOf (name := PySem.Str.ofString "__len__") hT noLen_match ?_)))
  exact wpAny_pure h
def Rsd (base g : Heap) (outer : List Env) (news : List (Addr × Obj)) (s : Shared) : Value → Shared → Prop :=
  fun e s' => ∃ ea h' tk', e = .ref ea ∧ s' = { s with heap := h', toks := tk' } ∧ RaisedSN base g outer ea (.type "ValueError") news h' ∧ g.UpToSlots h'
section
variable {w : World} {A : Around} {s : Shared} {mean : ExcName → Option Value} {mg mb : PySem.Str → Option Value} {base : Heap} {outer : List Env}
set_option maxRecDepth 100000 in
set_option maxHeartbeats 8000000 in
theorem convV_raise (R : Room A 3) (X : (hd.heap_1 w.params).In s.heap) (T : TT mean mg mb s.heap) (K : Below A base outer s.heap) (D : KtsDicts (outer.filterMap (·.frame)) s.heap) (x : PySem.Str) (t : Tok) (self : Addr) (hx : ∃ i, i < x.cps.size ∧ badV (x.cps.getD i 0) = true) (hsz : x.cps.size ≤ 2000) :
    wpAny (model PG w) A (call (.ref 76) [.ref self, .str x t] [(PySem.Str.ofString "name", .bool false)]) (fun _ _ => False) (Rsd base s.heap outer [] s) s := by
  obtain ⟨f1, f2, f3, f4⟩ := A
  have hh := R.handled
  dsimp only at hh
  subst hh
  refine call_pureE [(PySem.Str.ofString "self", .ref self), (PySem.Str.ofString "value", .str x t), (PySem.Str.ofString "name", .bool false)] R X T.nolimit (by k_is) (by k_is) (BindsTo.of_eq rfl) (locs rfl) ?_
  intro L h₁ tk F
  have N : News s.heap L h₁ [] := News.nil
  iterate 28 (first | walk1 | (dsimp only; walk1))
  rename Fr _ _ _ _ => F
  have X1 := X.keeps F.keep
  refine pat_method (X1 46 _ (by k_is)) rfl rfl ?_
  iterate 4 (first | walk1 | (dsimp only; walk1))
  refine search_yes oneV (X1 46 _ (by k_is)) rfl rfl (X1 45 _ (by k_is)) rfl (by decide +kernel) hx (Nat.le_trans hsz (by decide)) ?_
  intro h2 a o hk2 ha hao hcl hdi
  have F2 := Fr.stay F hk2
  have N2 : News s.heap L h2 [] := News.nil
  clear F X1
  refine truthy_match hao hcl ?_
  (repeat (first | walk1 | (dsimp only; walk1)))
  exact ⟨_, _, _, rfl, rfl, by assumption, by assumption⟩
end
end Mine
end
section
namespace Mine
def Carry (g : Heap) (nt : List (Addr × Obj)) (vs : List Value) (ps : List (PySem.Str × PySem.Str)) : Prop :=
  ∀ h', (∀ b o its n, g.get? b = some o → o.data = .seq its n → h'.get? b = some o) → (∀ q ∈ nt, h'.get? q.1 = some q.2) → AtAll h' vs (ps.map pairD)
theorem carry_of {g G : Heap} (hg : g.StaysIn G) : ∀ {ps : List (PySem.Str × PySem.Str)} {vs : List Value}, AtAll G vs (ps.map pairD) →
    ∃ nt, (∀ q ∈ nt, G.get? q.1 = some q.2 ∧ g.get? q.1 = none ∧ q.2.cls = .type "tuple" ∧ ∃ its n, q.2.data = .seq its n) ∧ Carry g nt vs ps
  | [], _, r => ⟨[], ⟨(fun q h => by cases h), fun h' _ _ => by rw [r.inv_nil]; exact .nil⟩⟩
  | p :: ps, _, r => by
    obtain ⟨v, vs', rfl, r1, r2⟩ := r.inv
    obtain ⟨nt, h1, h2⟩ := carry_of hg r2
    obtain ⟨b, t, u, rfl, o, ho, hc, k, hd⟩ := r1.pair
    cases hq : g.get? b with
    | some o' =>
      have e := hg b o' hq
      rw [ho] at e
      cases e
      exact ⟨nt, h1, fun h' k1 k2 => .cons (At.tuple (vs := [_, _]) ⟨o, k1 b o _ _ hq hd, hc, k, hd⟩ (.cons .str (.cons .str .nil))) (h2 h' k1 k2)⟩
    | none =>
      refine ⟨(b, o) :: nt, ?_, fun h' k1 k2 => .cons (At.tuple (vs := [_, _]) ⟨o, k2 (b, o) (.head _), hc, k, hd⟩ (.cons .str (.cons .str .nil))) (h2 h' k1 fun q hq => k2 q (.tail _ hq))⟩
      intro q hq'
      rcases List.mem_cons.mp hq' with rfl | hq'
      · exact ⟨ho, hq, hc, _, _, hd⟩
      · exact h1 q hq'
theorem raised_hide {base G G' : Heap} {l : List Env} {e : Addr} {cls : Value} {news : List (Addr × Obj)} {h : Heap} (R : RaisedSN base G l e cls [] h) (hG : G'.StaysIn G)
    (hn : ∀ q ∈ news, G.get? q.1 = some q.2 ∧ q.1 ∉ l.filterMap (·.frame) ∧ G'.get? q.1 = none ∧ base.get? q.1 = none) : RaisedSN base G' l e cls news h := by
  obtain ⟨B, a0, h1, h2, _, h4⟩ := R
  exact ⟨B, a0, h1, fun b o q nm => h2 b o (hG b o q) nm, fun q hq => ⟨h2 _ _ (hn q hq).1 (hn q hq).2.1, (hn q hq).2.2⟩, h4⟩
theorem upto_sub {G G' h : Heap} (k : G'.StaysIn G) (u : G.UpToSlots h) : G'.UpToSlots h := fun b o e n => u b o (k b o e) n
section
variable {M : Model} {A : Around} {E : Value → Shared → Prop} {s' : Shared} {base g G : Heap} {outer : List Env} {L a e : Addr} {m : PySem.Str → Option Value} {name : PySem.Str} {scope : Scope} {cd : Value} {news : List (Addr × Obj)}
theorem fr_hide (F : Fr g L G m) (N : News g L G news) : Fr g L (hideAll G (news.map (·.1))) m := by
  have nm : ∀ b o, g.get? b = some o → b ∉ news.map (·.1) := fun b o e q => by
    obtain ⟨p, hp, rfl⟩ := List.mem_map.mp q
    rw [(N p hp).2.2] at e; cases e
  have nL : L ∉ news.map (·.1) := fun q => by
    obtain ⟨p, hp, e⟩ := List.mem_map.mp q
    exact (N p hp).2.1 e
  obtain ⟨oL, es, ep, hL, r⟩ := F.ns
  exact ⟨⟨oL, es, ep, hideAll_get _ hL nL, r⟩, fun b o e => hideAll_get _ (F.keep b o e) (nm b o e), F.above⟩
theorem not_frame (K : Below A base outer g) (N : News g L G news) {q : Addr × Obj} (hq : q ∈ news) : q.1 ∉ (envOf name scope L a cd :: outer).filterMap (·.frame) := fun hm => by
  rcases kts_mem hm with z | z
  · exact (N q hq).2.1 z
  · obtain ⟨o, ho, _⟩ := (K.frames.mem z).2
    rw [(N q hq).2.2] at ho; cases ho
theorem led_raised (K : Below A base outer g) (N : News g L G news) {cls : Value} (R : RaisedSN base G (envOf name scope L a cd :: outer) e cls [] s'.heap) :
    RaisedSN base (hideAll G (news.map (·.1))) (envOf name scope L a cd :: outer) e cls news s'.heap :=
  raised_hide R (fun b o q => of_hideAll _ q) fun q hq => ⟨(N q hq).1, not_frame K N hq, hideAll_none _ (List.mem_map_of_mem hq), fresh_of_stays K.stays (N q hq).2.2⟩
theorem leave_led {Q : Unit → Shared → Prop} {cls : Value} (K : Below A base outer g) (F : Fr g L G m) (N : News g L G news) (R : RaisedSN base G (envOf name scope L a cd :: outer) e cls [] s'.heap) (hsm : G.UpToSlots s'.heap)
    (hQ : ∀ h', RaisedSN base g outer e cls news h' → g.UpToSlots h' → Q () { s' with heap := h' }) :
    wpAny M (A.deeper (envOf name scope L a cd)) (leaving (envOf name scope L a cd) (.ref e)) Q E s' :=
  leave_onSN K (fr_hide F N) (led_raised K N R) (upto_sub (fun b o q => of_hideAll _ q) hsm) fun h' R' _ U' => hQ h' R' U'
theorem dicts_push (F : Fr g L G m) (D : KtsDicts (outer.filterMap (·.frame)) g) : KtsDicts ((envOf name scope L a cd :: outer).filterMap (·.frame)) G := fun b hb => by
  rcases kts_mem hb with rfl | hb
  · obtain ⟨oL, es, ep, hL, hd, _⟩ := F.ns
    exact ⟨oL, es, ep, hL, hd⟩
  · obtain ⟨o, es, n, ho, hd⟩ := D b hb
    exact ⟨o, es, n, F.keep _ _ ho, hd⟩
end
theorem led_tuples {g G : Heap} {L hl : Addr} {m : PySem.Str → Option Value} {ol : Obj} {nt : List (Addr × Obj)} (F : Fr g L G m) (N : News g L G [(hl, ol)]) (hnt : ∀ q ∈ nt, G.get? q.1 = some q.2 ∧ g.get? q.1 = none ∧ q.2.cls = .type "tuple" ∧ ∃ its n, q.2.data = .seq its n) : News g L G ((hl, ol) :: nt) := by
  intro p hp
  rcases List.mem_cons.mp hp with rfl | hp
  · exact N _ (.head _)
  · obtain ⟨h1, h2, h3, its, n, h4⟩ := hnt p hp
    refine ⟨h1, fun e => ?_, h2⟩
    exact ns_noSeq F.ns _ (e ▸ h1) _ _ h4
theorem pairs_seq {g h' : Heap} : ∀ {ps : List (PySem.Str × PySem.Str)} {vs : List Value}, AtAll g vs (ps.map pairD) → (∀ b o its n, g.get? b = some o → o.data = .seq its n → h'.get? b = some o) → AtAll h' vs (ps.map pairD)
  | [], _, r, _ => by rw [r.inv_nil]; exact .nil
  | p :: ps, _, r, k => by
    obtain ⟨v, vs', rfl, r1, r2⟩ := r.inv
    obtain ⟨b, t, u, rfl, o, ho, hc, n, hd⟩ := r1.pair
    exact .cons (At.tuple (vs := [_, _]) ⟨o, k b o _ _ ho hd, hc, n, hd⟩ (.cons .str (.cons .str .nil))) (pairs_seq r2 k)
def RsdM (base g : Heap) (outer : List Env) (hl : Addr) (ps : List (PySem.Str × PySem.Str)) (s : Shared) : Value → Shared → Prop :=
  fun e s' => ∃ vs n nt, Carry g nt vs ps ∧ Rsd base g outer ((hl, listOf (List.toArray vs) n) :: nt) s e s'
local macro_rules | `(tactic| k_inst) => `(tactic| exact Tbl.at (by assumption) (by k_asm))
local macro_rules | `(tactic| walk_at "call ref") => `(tactic| (
  (show wpAny _ _ (call (Value.ref 76) [Value.ref _, Value.str _ _] [(PySem.Str.ofString "name", Value.bool true)]) _ _ _);
  refine' use_ret (convN_spec ?R ?X ?T _ _ _ ?C) ?F ?N ?_;
  (case F => k_asm); (case N => k_asm); (case X => exact Frag.In.keeps (by k_asm) (Fr.keep (by k_asm)));
  (case T => exact Top.keeps (by k_asm) (Fr.keep (by k_asm)));
  (case R => exact Room.less (Room.deeper (by assumption) _) (by decide));
  (case C => assumption);
  intro v' h' tk' e' hk' F' N'; subst e'; (try k_sweep)))
local macro_rules | `(tactic| walk_at "call ref") => `(tactic| (
  (show wpAny _ _ (call (Value.ref 76) [Value.ref _, Value.str _ _] [(PySem.Str.ofString "name", Value.bool false)]) _ _ _); fail))
section
variable {w : World} {A : Around} {s : Shared} {mean : ExcName → Option Value} {mg mb : PySem.Str → Option Value} {tb dx hl : Addr} {tk₀ : Tok} {base g : Heap} {outer : List Env} {vs : List Value} {n : Nat} {ps : List (PySem.Str × PySem.Str)}
set_option maxRecDepth 100000 in
set_option maxHeartbeats 8000000 in
theorem set_raise (R : Room A 8) (X : (hd.heap_1 w.params).In g) (T : TT mean mg mb g) (K : Below A base outer g) (D : KtsDicts (outer.filterMap (·.frame)) g) (O : Own w g s.heap tb dx hl tk₀ vs n ps) (hpl : ∀ p ∈ ps, p.1.length ≤ 1000)
    (x : PySem.Str) (t : Tok) (hxl : x.length ≤ 1000) (hxc : Clean badN (Txt.lower x)) (hxn : Clean badN x) (y : PySem.Str) (u : Tok) (hx : ∃ i, i < y.cps.size ∧ badV (y.cps.getD i 0) = true) (hsz : y.cps.size ≤ 2000) :
    wpAny (model PG w) A (call (.ref 90) [.ref tb, .str x t, .str y u]) (fun _ _ => False) (RsdM base g outer hl (ps.filter fun p => decide (Txt.lower p.1 ≠ Txt.lower x)) s) s := by
  obtain ⟨f1, f2, f3, f4⟩ := A
  have hh := R.handled
  dsimp only at hh
  subst hh
  have hX := X.keeps O.keep
  refine call_pureE [(PySem.Str.ofString "self", .ref tb), (PySem.Str.ofString "name", .str x t), (PySem.Str.ofString "val", .str y u)] R hX (T.nolimit.keeps O.keep) (by k_is) (by k_is) (BindsTo.of_eq rfl) (locs rfl) ?_
  clear hX
  intro L h₁ tk0 F
  have N : News s.heap L h₁ [] := News.nil
  have B := O.B
  have N1 := O.news F N
  have F1 := O.fr F
  clear F N
  simp only [List.nil_append] at N1
  iterate 6 (first | (dsimp only; walk1) | walk1)
  refine del_own (s := { s with heap := h₁, toks := tk0 }) F1 X (Tbl.at B F1) (by k_is) (by k_is) (by k_is) ?_
  refine use_retM (s := { s with heap := h₁, toks := tk0 }) (P := fun v => v = .none) (pre := []) (post := []) F1 N1 (fun p hp => nomatch hp) B O.hz (O.hps.keeps F1.keep) (fun g' hg O' => del_spec (Room.less (R.deeper _) (by decide)) (X.keeps hg) (T.keeps hg) O' hpl x t hxl hxc) ?_
  intro v h' tk' vs' n' e hat hb F2 N2
  clear F1 N1
  simp only [List.nil_append] at N2
  (repeat (first | (dsimp only; walk1) | walk1))
  rename Fr _ _ _ _ => F
  rename News _ _ _ _ => N
  show wpAny _ _ (call (Value.ref 76) [Value.ref tb, Value.str y u] [(PySem.Str.ofString "name", Value.bool false)]) _ _ _
  obtain ⟨nt, hnt, hcar⟩ := carry_of (g := g) F.keep (hat.keeps (by assumption))
  have Nt := led_tuples F N hnt
  refine wpAny_mono (convV_raise (base := base) (outer := _ :: outer) (Room.less (R.deeper _) (by decide)) (X.keeps F.keep) (T.keeps F.keep) (K.push F) (dicts_push F D) y u tb hx hsz) (fun _ _ h => h.elim) ?_
  rintro _ s' ⟨ea, h5, tk5, rfl, rfl, hR, hU⟩
  dsimp only at hR hU ⊢
  refine leave_led K F Nt hR hU fun h6 R6 U6 => ?_
  exact ⟨vs', n', nt, hcar, _, _, _, rfl, rfl, R6, U6⟩
set_option maxRecDepth 100000 in
set_option maxHeartbeats 8000000 in
theorem setd_raise (R : Room A 8) (X : (hd.heap_1 w.params).In g) (T : TT mean mg mb g) (K : Below A base outer g) (D : KtsDicts (outer.filterMap (·.frame)) g) (O : Own w g s.heap tb dx hl tk₀ vs n ps) (hpl : ∀ p ∈ ps, p.1.length ≤ 1000)
    (x : PySem.Str) (t : Tok) (hxl : x.length ≤ 1000) (hxc : Clean badN (Txt.lower x)) (hxn : Clean badN x) (y : PySem.Str) (u : Tok) (hx : ∃ i, i < y.cps.size ∧ badV (y.cps.getD i 0) = true) (hsz : y.cps.size ≤ 2000) :
    wpAny (model PG w) A (call (.ref 165) [.ref tb, .str x t, .str y u]) (fun v s' => ∃ z, getOf ps x = some z ∧ RetM g s (fun v h' => (∃ t, v = .str z t) ∧ Now hl ps h') v s') (fun e s' => getOf ps x = none ∧ RsdM base g outer hl ps s e s') s := by
  obtain ⟨f1, f2, f3, f4⟩ := A
  have hh := R.handled
  dsimp only at hh
  subst hh
  have hX := X.keeps O.keep
  refine call_pureE [(PySem.Str.ofString "self", .ref tb), (PySem.Str.ofString "name", .str x t), (PySem.Str.ofString "value", .str y u)] R hX (T.nolimit.keeps O.keep) (by k_is) (by k_is) (BindsTo.of_eq rfl) (locs rfl) ?_
  clear hX
  intro L h₁ tk0 F
  have N : News s.heap L h₁ [] := News.nil
  have B := O.B
  have N1 := O.news F N
  have F1 := O.fr F
  clear F N
  simp only [List.nil_append] at N1
  iterate 10 (first | (dsimp only; walk1) | walk1)
  refine use_ret (s := { s with heap := h₁, toks := tk0 }) (get_spec (s := { s with heap := h₁, toks := tk0 }) (Room.less (R.deeper _) (by decide)) (X.keeps F1.keep) (T.keeps F1.keep) (B.keeps F1.keep) vs ⟨_, (N1 _ (.head _)).1, rfl, _, rfl⟩ ps (O.hps.keeps F1.keep) hpl x t .none hxl hxc _ (Or.inr ⟨rfl, rfl⟩)) F1 N1 ?_
  intro v h2 tk2 hf hk2 F2 N2
  clear F1 N1
  unfold Found at hf
  cases hg : getOf ps x with
  | some z =>
    rw [hg] at hf
    obtain ⟨t1, e⟩ := hf
    subst e
    (repeat ((try dsimp only); (fail_if_success (with_reducible show Exists _)); walk1))
    rename Fr _ _ _ _ => F
    rename News _ _ _ _ => N
    exact ⟨z, rfl, _, _, rfl, F.keep, ⟨_, rfl⟩, vs, n, (N _ (.head _)).1, O.hps.keeps F.keep⟩
  | none =>
    rw [hg] at hf
    dsimp only at hf
    subst hf
    (repeat (first | (dsimp only; walk1) | walk1))
    rename Fr _ _ _ _ => F
    rename News _ _ _ _ => N
    show wpAny _ _ (call (Value.ref 76) [Value.ref tb, Value.str y u] [(PySem.Str.ofString "name", Value.bool false)]) _ _ _
    refine wpAny_mono (convV_raise (base := base) (outer := _ :: outer) (Room.less (R.deeper _) (by decide)) (X.keeps F.keep) (T.keeps F.keep) (K.push F) (dicts_push F D) y u tb hx hsz) (fun _ _ h => h.elim) ?_
    rintro _ s' ⟨ea, h5, tk5, rfl, rfl, hR, hU⟩
    dsimp only at hR hU ⊢
    refine leave_led K F N hR hU fun h6 R6 U6 => ?_
    refine ⟨trivial, vs, n, [], ?_, _, _, _, rfl, rfl, R6, U6⟩
    intro h' k1 _
    exact pairs_seq O.hps k1
end
end Mine
end
section
namespace Mine
theorem only_ground {g G : Heap} {L : Addr} {m : PySem.Str → Option Value} (F : Fr g L G m) :
    ∃ g', Fr g L g' m ∧ g'.StaysIn G ∧ g'.objs.size ≤ G.objs.size ∧ ∀ b o, g'.get? b = some o → b = L ∨ g.get? b = some o := by
  refine ⟨hideAll G ((List.range G.objs.size).filter fun b => decide (g.get? b = none) && decide (b ≠ L)), ⟨?_, ?_, F.above⟩, fun b o q => of_hideAll _ q, Nat.le_of_eq (hideAll_size _ _), ?_⟩
  · obtain ⟨oL, es, ep, hL, r⟩ := F.ns
    exact ⟨oL, es, ep, hideAll_get _ hL (by simp), r⟩
  · intro b o e
    exact hideAll_get _ (F.keep b o e) (by simp [e])
  · intro b o e
    have e1 := of_hideAll _ e
    by_cases hb : b = L
    · exact .inl hb
    · right
      cases hq : g.get? b with
      | some o' => have := F.keep _ _ hq; rw [e1] at this; cases this; rfl
      | none =>
        have : b ∈ (List.range G.objs.size).filter fun b => decide (g.get? b = none) && decide (b ≠ L) := by
          rw [List.mem_filter]
          exact ⟨List.mem_range.mpr (Heap.lt_size e1), by simp [hq, hb]⟩
        rw [hideAll_none _ this] at e
        cases e
theorem carry_ground {g g' : Heap} {L : Addr} {m : PySem.Str → Option Value} {nt : List (Addr × Obj)} {vs : List Value} {ps : List (PySem.Str × PySem.Str)} (n : g'.Ns L m) (h : ∀ b o, g'.get? b = some o → b = L ∨ g.get? b = some o) (c : Carry g' nt vs ps) : Carry g nt vs ps := by
  intro h' k1 k2
  refine c h' (fun b o its n' e1 e2 => ?_) k2
  rcases h b o e1 with rfl | e
  · exact absurd e2 (ns_noSeq n _ e1 _ _)
  · exact k1 b o its n' e e2
def RetS (fs : List Addr) (g : Heap) (s : Shared) (P : Value → Heap → Prop) : Value → Shared → Prop :=
  fun v s' => ∃ h' tk' g', s' = { s with heap := h', toks := tk' } ∧ KtsTurn fs g g' ∧ g'.StaysIn h' ∧ P v h'
theorem RetM.toS {fs : List Addr} {g : Heap} {s : Shared} {P : Value → Heap → Prop} {v : Value} {s' : Shared} (h : RetM g s P v s') : RetS fs g s P v s' :=
  let ⟨h', tk', e, k, p⟩ := h; ⟨h', tk', g, e, .refl, k, p⟩
def deedPs (d : Nat) (ps : List (PySem.Str × PySem.Str)) (x y v : PySem.Str) : List (PySem.Str × PySem.Str) := match d with
  | 0 => ps ++ [(x, y)]
  | 1 => (ps.filter fun p => decide (Txt.lower p.1 ≠ Txt.lower x)) ++ [(x, y)]
  | 2 => match getOf ps x with | some _ => ps | none => ps ++ [(x, y)]
  | 3 => ps.filter fun p => decide (Txt.lower p.1 ≠ Txt.lower x)
  | 4 => ps ++ [(x, y ++ PySem.Str.ofString "; last-mode=\"" ++ v ++ PySem.Str.ofString "\"; one")]
  | 5 => ps.filter fun p => decide (Txt.lower p.1 ≠ Txt.lower x)
  | _ => ps
def deedV (d : Nat) (ps : List (PySem.Str × PySem.Str)) (x y : PySem.Str) : PyData := match d with
  | 0 => .none
  | 1 => .none
  | 2 => .str ((getOf ps x).getD y)
  | 3 => .none
  | 4 => .none
  | 5 => .str (PySem.Str.ofString "refused")
  | _ => .str ((getOf ps x).getD (PySem.Str.ofString "refused"))
end Mine
end
section
set_option maxRecDepth 100000
namespace Mine
abbrev Pr2 := PySem.Str × PySem.Str
theorem pair_uniq {h : Heap} {v : Value} {p q : Pr2} (r1 : At h v (pairD p)) (r2 : At h v (pairD q)) : p = q := by
  obtain ⟨a, t, u, rfl, o, ho, hc, n, hd⟩ := r1.pair
  obtain ⟨a', t', u', e, o', ho', hc', n', hd'⟩ := r2.pair
  cases e
  rw [ho] at ho'
  cases ho'
  rw [hd] at hd'
  have := (Data.seq.inj hd').1
  simp only [Array.mk.injEq, List.cons.injEq, Value.str.injEq, and_true] at this
  exact Prod.ext this.1.1 this.2.1
theorem eqv_pair (p q : Pr2) : PyData.eqv (pairD p) (pairD q) = decide (p = q) := by
  simp only [PyData.eqv, PyData.eqvAll, Bool.and_true]
  rw [Bool.eq_iff_iff]
  simp only [Bool.and_eq_true, beq_iff_eq, decide_eq_true_iff]
  constructor
  · rintro ⟨h1, h2⟩; exact Prod.ext h1 h2
  · rintro rfl; exact ⟨rfl, rfl⟩
theorem AtAll.eraseIdx {h : Heap} : ∀ {vs : List Value} {ds : List PyData} (j : Nat), AtAll h vs ds → AtAll h (vs.eraseIdx j) (ds.eraseIdx j)
  | _, [], j, r => by rw [r.inv_nil]; exact .nil
  | _, d :: ds, j, r => by
    obtain ⟨v', vs', rfl, hv, r'⟩ := r.inv
    cases j with
    | zero => exact r'
    | succ j => exact .cons hv (AtAll.eraseIdx j r')
theorem map_eraseIdx {α β : Type} (f : α → β) : ∀ (l : List α) (j : Nat), (l.map f).eraseIdx j = (l.eraseIdx j).map f
  | [], _ => by simp
  | a :: l, 0 => rfl
  | a :: l, j + 1 => by rw [List.map_cons, List.eraseIdx_cons_succ, List.eraseIdx_cons_succ, List.map_cons, map_eraseIdx f l j]
theorem erase_at {α : Type} [BEq α] [LawfulBEq α] : ∀ (l : List α) (p : α) (j : Nat), l[j]? = some p → (∀ m, m < j → l[m]? ≠ some p) → l.erase p = l.eraseIdx j
  | [], p, j, h, _ => by simp at h
  | a :: l, p, 0, h, _ => by simp at h; subst h; simp
  | a :: l, p, j + 1, h, hn => by
    have ha : a ≠ p := by have := hn 0 (by omega); simpa using this
    rw [List.erase_cons_tail (by simpa using ha), List.eraseIdx_cons_succ, erase_at l p j (by simpa using h) fun m hm => by have := hn (m + 1) (by omega); simpa using this]
open Classical in
theorem remove_pairs {prog : Program} {w : World} {A : Around} {E : Value → Shared → Prop} {s : Shared} {Q : Value → Shared → Prop} {l : Addr} {vs : List Value} {n : Nat} {ps : List Pr2} {x : Value} {p : Pr2}
    (hl : s.heap.get? l = some (listOf vs.toArray n)) (hat : AtAll s.heap vs (ps.map pairD)) (hx : At s.heap x (pairD p)) (hok : ∀ p ∈ ps, SOk p.1 ∧ SOk p.2) (hp : SOk p.1 ∧ SOk p.2) (hz : vs.length ≤ 1000) (hh : A.handled = none) (hu : A.units ≤ 1000)
    (hit : p ∈ ps → ∀ h' n' j, Heap.SameBut l s.heap h' → h'.get? l = some (listOf (List.toArray (vs.eraseIdx j)) n') → ps.erase p = ps.eraseIdx j → Q .none { s with heap := h' })
    (hno : p ∉ ps → ∀ h' tk e, Heap.NewExc s.heap h' e "ValueError" → E (.ref e) { s with heap := h', toks := tk }) :
    wpAny (model prog w) A (call (.builtin "list.remove") [.ref l, x]) Q E s := by
  have rd : ∀ (j : Nat) (hj : j < vs.length), ∃ q, ps[j]? = some q ∧ At s.heap vs[j] (pairD q) := fun j hj => by
    obtain ⟨d', h1, h2⟩ := hat.get (List.getElem?_eq_getElem hj)
    rw [List.getElem?_map] at h1
    obtain ⟨q, hq, rfl⟩ := Option.map_eq_some_iff.mp h1
    exact ⟨q, hq, h2⟩
  have hlen : vs.length = ps.length := by simpa using hat.length
  have key : ∀ (j : Nat) (hj : j < vs.length), decide (At s.heap vs[j] (pairD p)) = decide (ps[j]? = some p) := fun j hj => by
    obtain ⟨q, hq, hr⟩ := rd j hj
    rw [hq, Bool.eq_iff_iff, decide_eq_true_iff, decide_eq_true_iff]
    constructor
    · intro h; rw [pair_uniq hr h]
    · intro h; cases h; exact hr
  refine call_meets PySem.F.slot_list_remove ⟨_, hl, rfl⟩ PySem.F.entry_list_remove (PySem.F.args_list_remove_2 _ _) (list_remove_at l vs.toArray n x (fun y => decide (At s.heap y (pairD p))) (by simp; exact Nat.le_trans hz (by decide))) ⟨hl, ?_, ?_, ?_⟩
  · intro y hy prog' w' E' Q' hq
    obtain ⟨j, hj⟩ := List.getElem?_of_mem (by simpa using hy)
    obtain ⟨hj1, rfl⟩ := List.getElem?_eq_some_iff.mp hj
    obtain ⟨q, hq1, hr⟩ := rd j hj1
    obtain ⟨_, ra⟩ := id hr
    obtain ⟨_, rb⟩ := id hx
    have hqok := hok q (List.mem_of_getElem? hq1)
    have f1 := Fine.pair hqok.1 hqok.2
    have f2 := Fine.pair hp.1 hp.2
    refine SeqAt.eqBoolOverData prog' w' _ E' s _ _ _ _ _ _ Q' ra rb f1.lay f2.lay ?_ ?_
    · have h1 := f1.depth
      have h2 : min (pairD q).depth (pairD p).depth ≤ (pairD q).depth := Nat.min_le_left _ _
      show A.units + 1 + _ < 9900
      omega
    · rw [eqv_pair, show decide (q = p) = decide (At s.heap vs[j] (pairD p)) by
        rw [key j hj1, hq1, Bool.eq_iff_iff, decide_eq_true_iff, decide_eq_true_iff]
        constructor
        · rintro rfl; rfl
        · intro h; cases h; rfl]
      exact hq
  · intro j hj _ h1 h2
    have hj' : j < vs.length := by simpa using hj
    have e1 : ps[j]? = some p := by
      have := key j hj'
      simp only [List.getElem_toArray] at h1
      rw [h1] at this
      exact of_decide_eq_true this.symm
    have e2 : ∀ m, m < j → ps[m]? ≠ some p := fun m hm hq => by
      have hm' : m < vs.length := by omega
      have := key m hm'
      have h3 := h2 m (by simpa using hm') (Nat.zero_le _) hm
      simp only [List.getElem_toArray] at h3
      rw [h3] at this
      exact of_decide_eq_false this.symm hq
    have z := get?_update_seq (c := "list") hl (fun zs => zs.eraseIdxIfInBounds j)
    have e : vs.toArray.eraseIdxIfInBounds j = (vs.eraseIdx j).toArray := by
      rw [Array.eraseIdxIfInBounds]
      simp [hj']
    rw [e] at z
    exact hit (List.mem_of_getElem? e1) _ _ j (Heap.SameBut.update ..) z (erase_at ps p j e1 e2)
  · intro h
    refine ⟨hh, fun h' tk e hx => hno (fun hm => ?_) h' tk e hx⟩
    obtain ⟨j, hj⟩ := List.getElem?_of_mem hm
    have hj' : j < vs.length := hlen ▸ (List.getElem?_eq_some_iff.mp hj).1
    have h3 := h j (by simpa using hj') (Nat.zero_le _)
    simp only [List.getElem_toArray] at h3
    rw [key j hj'] at h3
    exact of_decide_eq_false h3 hj
end Mine
end
section
namespace Mine
section
variable {M : Model} {A : Around} {E : Value → Shared → Prop} {s : Shared}
theorem looks_first {base : Heap} {env : Env} {outer : List Env} {L e : Addr} {oe : Obj} {vs : Array Value} {a0 : Value} {Q : Unit → Shared → Prop}
    (hfr : A.frames = some (env :: outer)) (hl : s.heap.FunFrames base (env :: outer)) (hf : env.frame = some L)
    (he : s.heap.get? e = some oe) (hkb : base.StaysIn s.heap) (hen : base.get? e = none) (hd : oe.data = .fields vs) (h1 : vs[1]? = some .none) (h0 : vs[0]? = some a0)
    (h : ∀ h', Heap.HeldW base (env :: outer) e oe.cls a0 L h' → s.heap.UpToSlots h' → Q () { s with heap := h' }) : wpAny M A (noteFrame (.ref e) env) Q E s := by
  unfold noteFrame
  simp only [hf]
  refine wpAny_bind (wpAny_field he hd h1 ?_)
  rw [if_neg (by decide)]
  exact wpAny_entryW hfr hl hf he hkb hen hd (Array.getElem?_eq_some_iff.mp h1).1 h0 fun h' ⟨k1, k2, k3, k4⟩ => h h' ⟨k1, hen, k2, k3⟩ k4
end
section
variable {prog : Program} {w : World} {A₀ : Around} {E : Value → Shared → Prop} {s' : Shared} {base g g₀ G : Heap} {outer : List Env} {L a e : Addr} {m : PySem.Str → Option Value} {name : PySem.Str} {scope : Scope} {cd : Value}
  {b₀ : Stmt} {suite : List Stmt} {pos np : Pos} {rest : List ExceptHandler} {Q : Flow → Shared → Prop} {news : List (Addr × Obj)} {KF : Frag}
  {p : Program} {loose : List PySem.Str} {mean : ExcName → Option Value} {mg mb : PySem.Str → Option Value} {x : PySem.Str} {X T' : String}
theorem caught_new0 (hx' : Heap.NewExc G s'.heap e X) (F : Fr g L G m) (N : News g L G news) (K : Below A₀ base outer g) (XB : KF.In base) (TB : Top p loose mean mg mb base)
    (D : KtsDicts (outer.filterMap (·.frame)) g) (T0 : KtsTurn (outer.filterMap (·.frame)) g₀ g)
    (ex : nsIn KF mainGlobals x = some none) (hv : bootBuiltins x = some (.type T')) (hn' : x ≠ "__name__")
    (hexc : isSubtype (.type T') (.type "BaseException") = pure true) (hnt : isSubtype (.type ((Manifest.find? T').elim "type" fun y => y.metatype)) (.type "tuple") = pure false) (hsub : isSubtype (.type X) (.type T') = pure true)
    (k : ∀ h' g', KtsTurn (outer.filterMap (·.frame)) g₀ g' → Fr g' L h' m → News g' L h' news → Below A₀ base outer g' → KF.In g' → Top p loose mean mg mb g' → KtsDicts (outer.filterMap (·.frame)) g' →
      wpAny (model prog w) ((A₀.deeper (envOf name scope L a cd)).mark (some (.ref e))) (execs (b₀ :: suite) (envOf name scope L a cd)) Q E { s' with heap := h' })
    (hk : scope.kind = .function := by rfl) (hx : (envOf name scope L a cd).kindOf x = some .globalImplicit := by rfl) (hd : (x == ("__debug__" : PySem.Str)) = false := by decide)
    (hE : PassesOwnAt (model prog w) ((A₀.deeper (envOf name scope L a cd)).mark (some (.ref e))) (A₀.deeper (envOf name scope L a cd)) (envOf name scope L a cd) E := by passes_own) :
    wpAny (model prog w) (A₀.deeper (envOf name scope L a cd)) (noteFrame (.ref e) (envOf name scope L a cd))
      (fun _ s₂ => wpAny (model prog w) (A₀.deeper (envOf name scope L a cd)) (setFlight (.ref e) none) (fun _ s₃ =>
        wpAny (model prog w) (A₀.deeper (envOf name scope L a cd)) (handleBy (.ref e) (envOf name scope L a cd) (.ExceptHandler (some (.Name x np)) none (b₀ :: suite) pos :: rest)) Q E s₃) E s₂) E s' := by
  have K' := K.push (name := name) (a := a) (cd := cd) F hk
  have hin : ∀ env ∈ (envOf name scope L a cd :: outer), ∀ b, env.frame = some b → b ∈ (envOf name scope L a cd :: outer).filterMap (·.frame) := fun env he b hb => List.mem_filterMap.mpr ⟨env, he, hb⟩
  have hB : base.StaysIn (hideAll G ((envOf name scope L a cd :: outer).filterMap (·.frame))) := fun b o q => hideAll_get _ (K'.stays b o q) fun hm => by
    rw [(K'.frames.mem hm).1] at q; cases q
  have hBG : ∀ b o, G.get? b = some o → b ∉ (envOf name scope L a cd :: outer).filterMap (·.frame) → (hideAll G ((envOf name scope L a cd :: outer).filterMap (·.frame))).get? b = some o := fun b o q nm => hideAll_get _ q nm
  have hl : ∀ q ∈ news, (hideAll G ((envOf name scope L a cd :: outer).filterMap (·.frame))).get? q.1 = some q.2 := fun q hq => hBG _ _ (N q hq).1 (not_frame K N hq)
  have hen : (hideAll G ((envOf name scope L a cd :: outer).filterMap (·.frame))).get? e = none := by
    cases q : (hideAll G ((envOf name scope L a cd :: outer).filterMap (·.frame))).get? e with
    | none => rfl
    | some o => have := of_hideAll _ q; rw [hx'.new] at this; cases this
  obtain ⟨ob, tp, he, hcls, hdd⟩ := hx'.there
  refine looks_first (a0 := tp) K'.stack ((funFrames_hide K'.frames hin).of_keeps fun b o hb _ => ⟨o, hx'.keeps b o hb, rfl⟩) rfl he (fun b o hb => hx'.keeps b o (of_hideAll _ hb)) hen hdd rfl rfl fun h₄ hheld₄ hsm₄' => ?_
  rw [hcls] at hheld₄
  have hsm₄ : G.UpToSlots h₄ := (Heap.UpToSlots.of_keeps hx'.keeps).trans hsm₄'
  refine wpAny_landsW hheld₄ fun h₅ hheld hsm₅' => ?_
  have hsm₅ := hsm₄.trans hsm₅'
  obtain ⟨g₅, T₅, F₅, K₅⟩ := kts_ground K F hBG hheld.1 hsm₅
  have X₅ : KF.In g₅ := XB.keeps K₅.stays
  have P₅ : TopRead p loose mg mb g₅ := topRead_of (TB.keeps K₅.stays)
  obtain ⟨ob, hob, hobc⟩ := hheld.there
  refine wpAny_handleBy_builtin (X := X) (T := T') (b := true) hexc hnt hsub (name_B F₅ X₅ P₅ ex hv hn' ⟨rfl, ⟨ob, hob, hobc⟩, ?_⟩ hk hx hd)
  refine lands_againW hheld fun h₆ hfl₆ hsm₆ => ?_
  obtain ⟨g₆, T₆, F₆, K₆⟩ := kts_ground K F hBG hfl₆.1 (hsm₅.trans hsm₆)
  have hL : (hideAll G ((envOf name scope L a cd :: outer).filterMap (·.frame))).get? L = none := hideAll_none _ (hin _ (.head _) L rfl)
  have Nl : News g₆ L h₆ news := fun q hq => ⟨hfl₆.1 _ _ (hl q hq), (N q hq).2.1, T₆.none_ _ (N q hq).2.2⟩
  exact wpAny_passesOwnAt hE (k h₆ g₆ (T0.trans T₆) F₆ Nl K₆ (XB.keeps K₆.stays) (TB.keeps K₆.stays) (D.turn T₆))
end
end Mine
end
section
namespace Mine
section
variable {w : World} {A : Around} {s : Shared} {mean : ExcName → Option Value} {mg mb : PySem.Str → Option Value}
set_option maxRecDepth 100000 in
set_option maxHeartbeats 8000000 in
theorem ifmt_spec (R : Room A 3) (X : (hd.heap_1 w.params).In s.heap) (T : TT mean mg mb s.heap) (m : Int) (t : Tok) :
    wpAny (model PG w) A (call (.ref 186) [.int m t]) (Ret s fun r _ => ∃ t', r = .int (Builtin.bitAnd m 61440) t') NoE s := by
  obtain ⟨f1, f2, f3, f4⟩ := A
  have hh := R.handled
  dsimp only at hh
  subst hh
  refine call_pure [(PySem.Str.ofString "mode", .int m t)] R X T.nolimit (by k_is) (by k_is) (BindsTo.of_eq rfl) (locs rfl) ?_
  intro L h₁ tk0 F
  have N : News s.heap L h₁ [] := News.nil
  (repeat (first | (dsimp only; walk1) | walk1))
  exact ⟨_, _, rfl, F.keep, _, rfl⟩
end
end Mine
end
section
set_option maxRecDepth 100000
set_option maxHeartbeats 4000000
namespace Mine
section
variable {prog : Program} {w : World} {A : Around} {E : Value → Shared → Prop} {s : Shared}
theorem nextOf_tuple_item {it l : Addr} {i : Nat} {items} {x : Value} {Q : Value → Shared → Prop} (hit : IsTupIter s.heap it l i)
    (hl : IsTup s.heap l items) (hx : items[i]? = some x)
    (hQ : ∀ h', IsTupIter h' it l (i + 1) → Heap.SameBut it s.heap h' → Q x { s with heap := h' }) :
    wpAny (model prog w) A (Builtin.SmallTypes.nextOf (.ref it)) Q E s := by
  obtain ⟨o, ho, hc, hd⟩ := id hit
  obtain ⟨ol, hol, _, nl, hdl⟩ := hl
  unfold Builtin.SmallTypes.nextOf
  refine wpAny_bind (wpAny_callSpecial?_slot (name := PySem.Str.ofString "__next__") hit.typeIs slot_tupleiter_next
    (wpAny_call_entry slot_tupleiter_next hit.typeIs entry_tupleiter_next ?_ (args_tupleiter_next _)))
  show wpAny _ _ (field (.ref it) 0 >>= _) _ _ s
  refine wpAny_bind (wpAny_field ho hd (x := .ref l) rfl ?_)
  show wpAny _ _ (if (Value.ref l == Value.none) = true then _ else _) _ _ s
  rw [if_neg (show ¬ ((Value.ref l == Value.none) = true) from Bool.false_ne_true)]
  show wpAny _ _ (field (.ref it) 1 >>= _) _ _ s
  refine wpAny_bind (wpAny_field ho hd (x := .int i 0) rfl ?_)
  show wpAny _ _ (seqItems? (.ref l) >>= _) _ _ s
  refine wpAny_bind (wpAny_seqItems hol hdl ?_)
  simp only [Int.toNat_natCast, hx]
  refine wpAny_bind (wpAny_setField ho hd (by simp) (wpAny_pure ⟨x, rfl, wpAny_pure (hQ _ ?_ (Heap.SameBut.update ..))⟩))
  exact ⟨_, Heap.get?_update_self _ ho (Obj.isFreed_of_fields (Obj.data_mapFields hd _)), (Obj.cls_mapFields ..).trans hc, by
    rw [Obj.data_mapFields hd]; simp [rawInt]⟩
theorem nextOf_tuple_end {it l : Addr} {i : Nat} {items} {Q : Value → Shared → Prop} (hh : A.handled = none)
    (hit : IsTupIter s.heap it l i) (hl : IsTup s.heap l items) (hx : items[i]? = none)
    (hE : ∀ h' e, Heap.ExtBut it s.heap h' → (∃ o, h'.get? e = some o ∧ o.cls = .type "StopIteration") → E (.ref e) { s with heap := h' }) :
    wpAny (model prog w) A (Builtin.SmallTypes.nextOf (.ref it)) Q E s := by
  obtain ⟨o, ho, hc, hd⟩ := id hit
  obtain ⟨ol, hol, _, nl, hdl⟩ := hl
  unfold Builtin.SmallTypes.nextOf
  refine wpAny_bind (wpAny_callSpecial?_slot (name := PySem.Str.ofString "__next__") hit.typeIs slot_tupleiter_next
    (wpAny_call_entry slot_tupleiter_next hit.typeIs entry_tupleiter_next ?_ (args_tupleiter_next _)))
  show wpAny _ _ (field (.ref it) 0 >>= _) _ _ s
  refine wpAny_bind (wpAny_field ho hd (x := .ref l) rfl ?_)
  show wpAny _ _ (if (Value.ref l == Value.none) = true then _ else _) _ _ s
  rw [if_neg (show ¬ ((Value.ref l == Value.none) = true) from Bool.false_ne_true)]
  show wpAny _ _ (field (.ref it) 1 >>= _) _ _ s
  refine wpAny_bind (wpAny_field ho hd (x := .int i 0) rfl ?_)
  show wpAny _ _ (seqItems? (.ref l) >>= _) _ _ s
  refine wpAny_bind (wpAny_seqItems hol hdl ?_)
  simp only [Int.toNat_natCast, hx]
  refine wpAny_bind (wpAny_rule (wpAny_bind (wpAny_setField ho hd (by simp) ?_)))
  show wpAny _ _ (newExc (.type "StopIteration") [] >>= _) _ _ _
  refine wpAny_bind ?_
  simp only [newExc, newTuple]
  refine wpAny_bind (wpAny_newObj_type ?_ (by size_fits))
  refine wpAny_bind (m := firstArgMember _ _) (wpAny_of_eq (a := Value.none) (by first | rfl | (simp only [firstArgMember]; rfl)) ?_)
  refine wpAny_newObj_type ?_ (by size_fits)
  simp only [raiseNew]
  refine wpAny_bind (wpAny_handled ?_)
  first | rw [show A.in1.handled = none from hh] | rw [hh]
  refine wpAny_bind (wpAny_pure (wpAny_throw ?_))
  exact hE _ _ (((Heap.SameBut.update ..).extBut.push _).push _) ⟨_, Heap.get?_push_size _ rfl, rfl⟩
end
theorem draws_tuple {prog : Program} {w : World} {A : Around} (hh : A.handled = none) (it l : Addr) (hne : l ≠ it) (items : Array Value) :
    Draws prog w A it [it, l] items.size (fun i v => items[i]? = some v) (fun i h => IsTupIter h it l i ∧ IsTup h l items) where
  live := fun _ _ st => let ⟨o, ho, _⟩ := st.1; ⟨o, ho⟩
  frame := fun _ _ _ st hk => ⟨let ⟨o, ho, r⟩ := st.1; ⟨o, hk it (by simp) o ho, r⟩, let ⟨o, ho, r⟩ := st.2; ⟨o, hk l (by simp) o ho, r⟩⟩
  item := fun i s Q E hi st hQ => by
    refine nextOf_tuple_item st.1 st.2 (x := items[i]) (by simp [hi]) fun h' hit' hs' => ?_
    exact hQ _ h' s.toks (by simp [hi]) ⟨hit', let ⟨o, ho, r⟩ := st.2; ⟨o, hs'.extBut l o hne ho, r⟩⟩ hs'
  done := fun s Q E st hE => nextOf_tuple_end hh st.1 st.2 (by simp) hE
theorem enumerate_new_tuple (l : Addr) (items : Array Value) :
    Meets (Builtin.«enumerate.__new__» ⟨[.type "enumerate", .ref l], []⟩) (fun _ R s => IsTup s.heap l items ∧
      R (.ok (.ret (.ref (s.heap.push { cls := .type "tuple_iterator", data := .fields #[.ref l, .int 0 0] }).objs.size)))
        { s with heap := (s.heap.push { cls := .type "tuple_iterator", data := .fields #[.ref l, .int 0 0] }).push { cls := .type "enumerate", data := .fields #[.none, .bool false, .ref s.heap.objs.size, rawInt 0, .none, .none] } }) :=
  .of_wp fun prog w A R s h => by
    obtain ⟨hp, g, d, tk, os⟩ := s; obtain ⟨hL, h⟩ := h
    obtain ⟨o, hl, hc, n, hd⟩ := id hL
    have hsub := sub_enumerate
    wp_walk using wpAny_loadPart' hl
    refine wpAny_stack_any fun st => wpAny_pure ?_
    split
    · rename_i c _ _ _ _ _
      cases (c == Value.type "enumerate")
      · wp_walk using wpAny_loadPart' hl, iter_tuple hL
        exact ⟨_, rfl, h⟩
      · wp_walk using wpAny_loadPart' hl, iter_tuple hL
        exact ⟨_, rfl, h⟩
    · wp_walk using wpAny_loadPart' hl, iter_tuple hL
      exact ⟨_, rfl, h⟩
end Mine
end
section
set_option maxRecDepth 100000
set_option maxHeartbeats 4000000
namespace Mine
section
variable {prog : Program} {w : World} {A : Around} {E : Value → Shared → Prop} {s : Shared} {env : Env} {Q : Flow → Shared → Prop}
theorem for_walkT {elts : List Expr} {kk : Nat} {pos : Pos} {body orelse : List Stmt} {I : Addr} {fp wr : List Addr} {n : Nat} {P : Nat → Array Value → Prop} {St : Nat → Heap → Prop} {Mid : Nat → Addr → Heap → Prop} (W : WalksT prog w A I fp wr n P St Mid) (J : Nat → Shared → Prop)
    (hst : ∀ i s, J i s → St i s.heap) (h0 : J 0 s)
    (turn : ∀ i T vals s h' tk, J i s → i < n → P i vals → s.heap.objs.size ≤ T → h'.IsTuple T vals → St (i + 1) h' → (∀ b o, b ∉ wr → s.heap.get? b = some o → h'.get? b = some o) →
      wpAny (model prog w) A (assign (.Tuple elts kk pos) env (.ref T)) (fun _ s₂ => wpAny (model prog w) A (execs body env) (fun f s₃ => match f with
        | .next | .cont => J (i + 1) s₃
        | .brk => Q .next s₃
        | .ret v => Q (.ret v) s₃) NoE s₂) NoE { s with heap := h', toks := tk })
    (done : ∀ s h' tk, J n s → (∀ b o, b ∉ wr → s.heap.get? b = some o → h'.get? b = some o) → wpAny (model prog w) A (execs orelse env) Q NoE { s with heap := h', toks := tk }) :
    codeAny (model prog w) A (.forLoop (.Tuple elts kk pos) (.ref I) body orelse env) (fun r s' => match r with | .ok f => Q f s' | .error e => cameBackBy (model prog w) A env NoE e s') s := by
  refine codeAny_forLoop_any (fun k s => ∃ i, i ≤ n ∧ k = n - i ∧ J i s) (fun k s hI => ?_) n ⟨0, Nat.zero_le _, rfl, h0⟩
  obtain ⟨i, hi, rfl, hJ⟩ := hI
  have nope : ∀ (e : Value) (s' : Shared), NoE e s' → notedBy (model prog w) A env (fun e s' => cameBackBy (model prog w) A env NoE e s') e s' := fun _ _ h => h.elim
  rcases Nat.eq_or_lt_of_le hi with rfl | hlt
  · refine W.done s _ _ (hst _ _ hJ) fun h' tk hk => ?_
    exact wpAny_mono (done s h' tk hJ hk) (fun _ _ q => q) nope
  · refine W.item i s _ _ hlt (hst _ _ hJ) fun T vals h' tk hP hT htup hmid hk => ?_
    refine W.go elts kk pos i T _ _ _ hmid fun h₂ hst₂ hk₂ => ?_
    have hTw : T ∉ wr := W.apart _ _ _ hmid
    have ht2 : h₂.IsTuple T vals := htup.at fun o e => hk₂ T o hTw e
    refine wpAny_mono (turn i T vals s h₂ tk hJ hlt hP hT ht2 hst₂ fun b o hb e => hk₂ b o hb (hk b o hb e)) (fun _ s₂ h₂ => ?_) nope
    refine wpAny_mono h₂ (fun f s₃ h₃ => ?_) nope
    cases f with
    | next => exact ⟨n - (i + 1), by omega, i + 1, hlt, rfl, h₃⟩
    | cont => exact ⟨n - (i + 1), by omega, i + 1, hlt, rfl, h₃⟩
    | brk => exact h₃
    | ret v => exact h₃
theorem for_enum {name : PySem.Str} {scope : Scope} {L f : Addr} {cd : Value} {xa xb : PySem.Str} {pa pb pos : Pos} {kk : Nat} {body orelse : List Stmt} {h₀ : Heap} {m : PySem.Str → Option Value} {news : List (Addr × Obj)} {e it t : Addr} {items : List Value} {old : Value}
    (J : Nat → (PySem.Str → Option Value) → List (Addr × Obj) → Prop) (hh : A.handled = none)
    (ht : IsTup h₀ t items.toArray) (F : Fr h₀ L s.heap m) (N : News h₀ L s.heap news) (he : IsEnum s.heap e it 0 old) (hit : IsTupIter s.heap it t 0) (hen : h₀.get? e = none) (hin : h₀.get? it = none) (heL : e ≠ L) (hiL : it ≠ L) (hei : e ≠ it)
    (hnw : ∀ p ∈ news, p.1 ≠ e ∧ p.1 ≠ it) (h0 : J 0 m news)
    (turn : ∀ i v m' news' oe oi h tk tk', items[i]? = some v → J i m' news' → Fr h₀ L h (fun z => if z = xb then some v else if z = xa then some (.int i tk') else m' z) → News h₀ L h ((e, oe) :: (it, oi) :: news') → (∀ p ∈ news', p.1 ≠ e ∧ p.1 ≠ it) →
      wpAny (model prog w) A (execs body (envOf name scope L f cd)) (fun fl s₃ => match fl with
        | .next | .cont => ∃ h' tk' m'' news'', s₃ = { s with heap := h', toks := tk' } ∧ Fr h₀ L h' m'' ∧ News h₀ L h' ((e, oe) :: (it, oi) :: news'') ∧ (∀ p ∈ news'', p.1 ≠ e ∧ p.1 ≠ it) ∧ J (i + 1) m'' news''
        | .brk => Q .next s₃
        | .ret v => Q (.ret v) s₃) NoE { s with heap := h, toks := tk })
    (done : ∀ h tk m' news', J items.length m' news' → Fr h₀ L h m' → News h₀ L h news' → wpAny (model prog w) A (execs orelse (envOf name scope L f cd)) Q NoE { s with heap := h, toks := tk })
    (hk : scope.kind = .function := by rfl) (ha : (envOf name scope L f cd).kindOf xa = some .local := by rfl) (hb : (envOf name scope L f cd).kindOf xb = some .local := by rfl) :
    codeAny (model prog w) A (.forLoop (.Tuple [.Name xa pa, .Name xb pb] kk pos) (.ref e) body orelse (envOf name scope L f cd)) (fun r s' => match r with | .ok f => Q f s' | .error e => cameBackBy (model prog w) A (envOf name scope L f cd) NoE e s') s := by
  have hti : t ≠ it := by rintro rfl; obtain ⟨o, ho, _⟩ := ht; rw [hin] at ho; cases ho
  have hte : t ≠ e := by rintro rfl; obtain ⟨o, ho, _⟩ := ht; rw [hen] at ho; cases ho
  have keepF : ∀ {h h' : Heap} {m' : PySem.Str → Option Value}, Fr h₀ L h m' → (∀ b o, b ∉ [e, it] → h.get? b = some o → h'.get? b = some o) → Fr h₀ L h' m' := by
    intro h h' m' F' hk'
    obtain ⟨o, es, ep, ho, r⟩ := F'.ns
    refine ⟨⟨o, es, ep, hk' _ _ (by simp [heL.symm, hiL.symm]) ho, r⟩, fun b o q => hk' b o ?_ (F'.keep b o q), F'.above⟩
    intro hm
    rcases List.mem_cons.mp hm with rfl | hm
    · rw [hen] at q; cases q
    · rw [List.mem_singleton.mp hm, hin] at q; cases q
  refine for_walkT (WalksT.enumerateD (draws_tuple (A := A.in1) hh it t hti items.toArray) e hei (by simp [hei, hte.symm]) (by simp))
    (fun i s₁ => ∃ h tk m' news', s₁ = { s with heap := h, toks := tk } ∧ ((∃ old, IsEnum h e it i old) ∧ IsTupIter h it t i ∧ IsTup h t items.toArray) ∧ Fr h₀ L h m' ∧ News h₀ L h news' ∧ (∀ p ∈ news', p.1 ≠ e ∧ p.1 ≠ it) ∧ J i m' news') ?_ ?_ ?_ ?_
  · rintro i s₁ ⟨h, tk, m', news', rfl, st, _⟩
    exact st
  · exact ⟨_, _, m, news, rfl, ⟨⟨old, he⟩, hit, let ⟨o, ho, r⟩ := ht; ⟨o, F.keep _ _ ho, r⟩⟩, F, N, hnw, h0⟩
  · rintro i T vals s₁ h' tk ⟨h, tk₁, m', news', rfl, st, F', N', hn, hJ⟩ hlt ⟨tt, x, hx, rfl⟩ hT htup hst hkeep
    have F1 := keepF F' hkeep
    obtain ⟨⟨old1, he1⟩, hit1, _⟩ := hst
    obtain ⟨oi, hoi, r1, r2⟩ := hit1
    obtain ⟨oe, hoe, hback⟩ : ∃ oe : Obj, h'.get? e = some oe ∧ ∀ g : Heap, g.get? e = some oe → ∃ old, IsEnum g e it ((i + 1 : Nat) : Int) old := ⟨_, he1, fun g q => ⟨old1, q⟩⟩
    have N1 : News h₀ L h' ((e, oe) :: (it, oi) :: news') := by
      intro p hp
      rcases List.mem_cons.mp hp with rfl | hp
      · exact ⟨hoe, heL, hen⟩
      · rcases List.mem_cons.mp hp with rfl | hp
        · exact ⟨hoi, hiL, hin⟩
        · exact ⟨hkeep _ _ (by simp [(hn p hp).1, (hn p hp).2]) (N' p hp).1, (N' p hp).2⟩
    refine assign_pair hh F1 N1 htup (fun h3 tk3 F3 N3 => ?_) hk ha hb
    refine wpAny_mono (turn i x m' news' oe oi h3 tk3 tt (by simpa using hx) hJ F3 N3 hn) (fun fl s₃ h₃ => ?_) fun _ _ q => q
    have go : (∃ h' tk' m'' news'', s₃ = { s with heap := h', toks := tk' } ∧ Fr h₀ L h' m'' ∧ News h₀ L h' ((e, oe) :: (it, oi) :: news'') ∧ (∀ p ∈ news'', p.1 ≠ e ∧ p.1 ≠ it) ∧ J (i + 1) m'' news'') →
        ∃ h tk m' news', s₃ = { s with heap := h, toks := tk } ∧ ((∃ old, IsEnum h e it ((i + 1 : Nat) : Int) old) ∧ IsTupIter h it t (i + 1) ∧ IsTup h t items.toArray) ∧ Fr h₀ L h m' ∧ News h₀ L h news' ∧ (∀ p ∈ news', p.1 ≠ e ∧ p.1 ≠ it) ∧ J (i + 1) m' news' := by
      rintro ⟨h4, tk4, m4, news4, q, F4, N4, hn4, hJ4⟩
      exact ⟨h4, tk4, m4, news4, q, ⟨hback _ (N4 _ (.head _)).1, ⟨oi, (N4 _ (.tail _ (.head _))).1, r1, r2⟩, let ⟨o, ho, r⟩ := ht; ⟨o, F4.keep _ _ ho, r⟩⟩, F4, fun p hp => N4 p (.tail _ (.tail _ hp)), hn4, hJ4⟩
    cases fl with
    | next => exact go h₃
    | cont => exact go h₃
    | brk => exact h₃
    | ret v => exact h₃
  · rintro s₁ h' tk ⟨h, tk₁, m', news', rfl, st, F', N', hn, hJ⟩ hkeep
    exact done h' tk m' news' (by simpa using hJ) (keepF F' hkeep) fun p hp => ⟨hkeep _ _ (by simp [(hn p hp).1, (hn p hp).2]) (N' p hp).1, (N' p hp).2⟩
end
end Mine
end
section
set_option maxRecDepth 100000
set_option maxHeartbeats 4000000
namespace Mine
section
variable {prog : Program} {w : World} {A : Around} {E : Value → Shared → Prop} {s : Shared} {h₀ : Heap} {m : PySem.Str → Option Value} {news : List (Addr × Obj)} {env : Env} {Q : Flow → Shared → Prop}
theorem for_tup {target : Expr} {body orelse : List Stmt} {l L : Addr} {items : List Value} (J : Nat → (PySem.Str → Option Value) → List (Addr × Obj) → Prop) (hh : A.handled = none)
    (hl : h₀.IsTuple l items.toArray) (F : Fr h₀ L s.heap m) (N : News h₀ L s.heap news) (h0 : J 0 m news)
    (turn : ∀ i v m' news' I oI h tk, items[i]? = some v → J i m' news' → h.IsTupleIter I l (i + 1) → Fr h₀ L h m' → News h₀ L h ((I, oI) :: news') → (∀ p ∈ news', p.1 ≠ I) →
      wpAny (model prog w) A (assign target env v) (fun _ s₂ => wpAny (model prog w) A (execs body env) (fun f s₃ => match f with
        | .next | .cont => ∃ h' tk' m'' news'', s₃ = { s with heap := h', toks := tk' } ∧ Fr h₀ L h' m'' ∧ News h₀ L h' ((I, oI) :: news'') ∧ (∀ p ∈ news'', p.1 ≠ I) ∧ J (i + 1) m'' news''
        | .brk => Q .next s₃
        | .ret v => Q (.ret v) s₃) NoE s₂) NoE { s with heap := h, toks := tk })
    (done : ∀ h tk m' news', J items.length m' news' → Fr h₀ L h m' → News h₀ L h news' → wpAny (model prog w) A (execs orelse env) Q NoE { s with heap := h, toks := tk })
    (ht : ∀ (I : Addr) (v : Value) (s₁ : Shared) (i : Nat) (Q : Unit → Shared → Prop), s₁.heap.IsTupleIter I l i → v ∈ items → Q () s₁ → wpAny (model prog w) A (letOwnedTupleGo target (.ref I) v) Q NoE s₁)
    (eL : env.locals = L := by rfl) :
    wpAny (model prog w) A (pyIter (.ref l)) (fun it s₂ => codeAny (model prog w) A (.forLoop target it body orelse env) (fun r s' => match r with | .ok f => Q f s' | .error e => cameBackBy (model prog w) A env NoE e s') s₂) E s := by
  subst eL
  have hl1 : s.heap.IsTuple l items.toArray := hl.at fun o e => F.keep _ _ e
  have hne : l ≠ s.heap.objs.size := by obtain ⟨o, ho, _⟩ := hl1; exact Nat.ne_of_lt (Heap.lt_size ho)
  refine wpAny_pyIter_tuple hl1 ?_
  have hnew : h₀.get? s.heap.objs.size = none := by
    cases q : h₀.get? s.heap.objs.size with
    | none => rfl
    | some o => exact absurd (Heap.lt_size (F.keep _ _ q)) (Nat.lt_irrefl _)
  have hLI : env.locals ≠ s.heap.objs.size := Nat.ne_of_lt F.ns.lt
  generalize hI : s.heap.objs.size = I at *
  refine for_walk (Walks.tuple hh I l hne items.toArray)
    (fun i s₁ => ∃ h tk m' news', s₁ = { s with heap := h, toks := tk } ∧ h.IsTupleIter I l i ∧ Fr h₀ env.locals h m' ∧ News h₀ env.locals h news' ∧ (∀ p ∈ news', p.1 ≠ I) ∧ J i m' news') ?_ ?_ ?_ ?_
  · rintro i s₁ ⟨h, tk, m', news', rfl, hi, F', _, _, _⟩
    exact ⟨hi, hl.at fun o e => F'.keep _ _ e⟩
  · refine ⟨_, _, m, news, rfl, ⟨_, hI ▸ Heap.get?_push_size _ rfl, rfl, rfl⟩, F.push _, fun p hp => ⟨Heap.get?_push_of_some _ (N p hp).1, (N p hp).2⟩, fun p hp => ?_, h0⟩
    exact hI ▸ Nat.ne_of_lt (Heap.lt_size (N p hp).1)
  · rintro i v s₁ h' tk ⟨h, tk₁, m', news', rfl, hi, F', N', hn, hJ⟩ hlt hP hst hk
    have F1 : Fr h₀ env.locals h' m' := by
      obtain ⟨o, es, ep, ho, r⟩ := F'.ns
      refine ⟨⟨o, es, ep, hk _ _ (by simpa using hLI) ho, r⟩, fun b o e => hk b o ?_ (F'.keep b o e), F'.above⟩
      intro hb
      rw [List.mem_singleton.mp hb, hnew] at e
      cases e
    obtain ⟨oI, hoI, hc, hd⟩ := hst.1
    have N1 : News h₀ env.locals h' ((I, oI) :: news') := by
      intro p hp
      rcases List.mem_cons.mp hp with rfl | hp
      · exact ⟨hoI, Ne.symm hLI, hnew⟩
      · exact ⟨hk _ _ (by simpa using hn p hp) (N' p hp).1, (N' p hp).2⟩
    have hv : items[i]? = some v := by simpa using hP
    refine ht I v _ (i + 1) _ hst.1 (List.mem_of_getElem? hv) ?_
    refine wpAny_mono (turn i v m' news' I oI h' tk hv hJ hst.1 F1 N1 hn) (fun _ s₂ h₂ => wpAny_mono h₂ (fun f s₃ h₃ => ?_) fun _ _ e => e) fun _ _ e => e
    have go : (∃ h'' tk' m'' news'', s₃ = { s with heap := h'', toks := tk' } ∧ Fr h₀ env.locals h'' m'' ∧ News h₀ env.locals h'' ((I, oI) :: news'') ∧ (∀ p ∈ news'', p.1 ≠ I) ∧ J (i + 1) m'' news'') →
        ∃ h tk m' news', s₃ = { s with heap := h, toks := tk } ∧ h.IsTupleIter I l (i + 1) ∧ Fr h₀ env.locals h m' ∧ News h₀ env.locals h news' ∧ (∀ p ∈ news', p.1 ≠ I) ∧ J (i + 1) m' news' := by
      rintro ⟨h'', tk', m'', news'', e, F2, N2, hn2, hJ2⟩
      exact ⟨h'', tk', m'', news'', e, ⟨oI, (N2 _ (.head _)).1, hc, hd⟩, F2, fun p hp => N2 p (.tail _ hp), hn2, hJ2⟩
    cases f with
    | next => exact go h₃
    | cont => exact go h₃
    | brk => exact h₃
    | ret v => exact h₃
  · rintro s₁ h' tk ⟨h, tk₁, m', news', rfl, hi, F', N', hn, hJ⟩ hk
    have F1 : Fr h₀ env.locals h' m' := by
      obtain ⟨o, es, ep, ho, r⟩ := F'.ns
      refine ⟨⟨o, es, ep, hk _ _ (by simpa using hLI) ho, r⟩, fun b o e => hk b o ?_ (F'.keep b o e), F'.above⟩
      intro hb
      rw [List.mem_singleton.mp hb, hnew] at e
      cases e
    refine done h' tk m' news' (by simpa using hJ) F1 fun p hp => ⟨hk _ _ (by simpa using hn p hp) (N' p hp).1, (N' p hp).2⟩
end
theorem call_enum_tup {prog : Program} {w : World} {A : Around} {E : Value → Shared → Prop} {s : Shared} {l : Addr} {items : Array Value} {Q : Value → Shared → Prop} (hl : IsTup s.heap l items)
    (h : ∀ h', IsEnum h' (s.heap.objs.size + 1) s.heap.objs.size 0 .none → IsTupIter h' s.heap.objs.size l 0 → h'.objs.size = s.heap.objs.size + 2 →
      (∀ b o, s.heap.get? b = some o → h'.get? b = some o) → Q (.ref (s.heap.objs.size + 1)) { s with heap := h' }) :
    wpAny (model prog w) A (call (.type "enumerate") [.ref l]) Q E s := by
  refine callType_new F.called_enumerate (by decide) (F.typeCall_enumerate_1 _) (F.newCall_enumerate_1 _) (fun obj => F.args_object_init_2 obj _) F.entry_enumerate_new
    (enumerate_new_tuple l items) ⟨hl, ?_⟩
  have hz : (s.heap.push { cls := .type "tuple_iterator", data := .fields #[.ref l, .int 0 0] }).objs.size = s.heap.objs.size + 1 := Heap.size_push ..
  show _ ∧ _
  rw [hz]
  have he : IsEnum ((s.heap.push { cls := .type "tuple_iterator", data := .fields #[.ref l, .int 0 0] }).push
      { cls := .type "enumerate", data := .fields #[.none, .bool false, .ref s.heap.objs.size, rawInt 0, .none, .none] }) (s.heap.objs.size + 1) s.heap.objs.size 0 .none := by
    have := Heap.get?_push_size (s.heap.push { cls := .type "tuple_iterator", data := .fields #[.ref l, .int 0 0] })
      (o := { cls := .type "enumerate", data := .fields #[.none, .bool false, .ref s.heap.objs.size, rawInt 0, .none, .none] }) rfl
    rw [hz] at this; exact this
  refine ⟨⟨_, he, rfl⟩, h _ he ⟨_, Heap.get?_push_of_some _ (Heap.get?_push_size _ rfl), rfl, rfl⟩ (by rw [Heap.size_push, hz]) fun b o x => Heap.get?_push_of_some _ (Heap.get?_push_of_some _ x)⟩
end Mine
end
section
namespace Mine
abbrev bcD (p : Int × PySem.Str) : PyData := .tuple [.int p.1, .str p.2]
def ents : Nat → List (Int × PySem.Str)
  | 0 => [(40960, PySem.Str.ofString "l"), (49152, PySem.Str.ofString "s"), (32768, PySem.Str.ofString "-"), (24576, PySem.Str.ofString "b"), (16384, PySem.Str.ofString "d"), (8192, PySem.Str.ofString "c"), (4096, PySem.Str.ofString "p")]
  | 1 => [(256, PySem.Str.ofString "r")]
  | 2 => [(128, PySem.Str.ofString "w")]
  | 3 => [(2112, PySem.Str.ofString "s"), (2048, PySem.Str.ofString "S"), (64, PySem.Str.ofString "x")]
  | 4 => [(32, PySem.Str.ofString "r")]
  | 5 => [(16, PySem.Str.ofString "w")]
  | 6 => [(1032, PySem.Str.ofString "s"), (1024, PySem.Str.ofString "S"), (8, PySem.Str.ofString "x")]
  | 7 => [(4, PySem.Str.ofString "r")]
  | 8 => [(2, PySem.Str.ofString "w")]
  | _ => [(513, PySem.Str.ofString "t"), (512, PySem.Str.ofString "T"), (1, PySem.Str.ofString "x")]
abbrev tabV : List Value := [.ref 194, .ref 196, .ref 198, .ref 202, .ref 204, .ref 206, .ref 210, .ref 212, .ref 214, .ref 218]
set_option maxRecDepth 100000 in
theorem tab_is {w : World} {h : Heap} (X : (hd.heap_1 w.params).In h) : IsTup h 219 tabV.toArray := ⟨_, X 219 _ (by k_is), rfl, _, rfl⟩
theorem bc_at {h : Heap} {a : Addr} {o : Obj} {b : Int} {c : PySem.Str} {t u : Tok} {n : Nat} (ho : h.get? a = some o) (hc : o.cls = .type "tuple") (hd : o.data = .seq #[.int b t, .str c u] n) : At h (.ref a) (bcD (b, c)) :=
  At.tuple (vs := [_, _]) ⟨o, ho, hc, n, hd⟩ (.cons .int (.cons .str .nil))
set_option maxRecDepth 100000 in
theorem row_is {w : World} {h : Heap} (X : (hd.heap_1 w.params).In h) : ∀ i v, tabV[i]? = some v → ∃ a vs, v = .ref a ∧ h.IsTuple a (List.toArray vs) ∧ AtAll h vs ((ents i).map bcD) := by
  intro i v hv
  match i, hv with
  | 0, hv => cases hv; exact ⟨194, [.ref 187, .ref 188, .ref 189, .ref 190, .ref 191, .ref 192, .ref 193], rfl, ⟨_, X 194 _ (by k_is), rfl, _, rfl⟩, (.cons (bc_at (X 187 _ (by k_is)) rfl rfl) (.cons (bc_at (X 188 _ (by k_is)) rfl rfl) (.cons (bc_at (X 189 _ (by k_is)) rfl rfl) (.cons (bc_at (X 190 _ (by k_is)) rfl rfl) (.cons (bc_at (X 191 _ (by k_is)) rfl rfl) (.cons (bc_at (X 192 _ (by k_is)) rfl rfl) (.cons (bc_at (X 193 _ (by k_is)) rfl rfl) .nil)))))))⟩
  | 1, hv => cases hv; exact ⟨196, [.ref 195], rfl, ⟨_, X 196 _ (by k_is), rfl, _, rfl⟩, (.cons (bc_at (X 195 _ (by k_is)) rfl rfl) .nil)⟩
  | 2, hv => cases hv; exact ⟨198, [.ref 197], rfl, ⟨_, X 198 _ (by k_is), rfl, _, rfl⟩, (.cons (bc_at (X 197 _ (by k_is)) rfl rfl) .nil)⟩
  | 3, hv => cases hv; exact ⟨202, [.ref 199, .ref 200, .ref 201], rfl, ⟨_, X 202 _ (by k_is), rfl, _, rfl⟩, (.cons (bc_at (X 199 _ (by k_is)) rfl rfl) (.cons (bc_at (X 200 _ (by k_is)) rfl rfl) (.cons (bc_at (X 201 _ (by k_is)) rfl rfl) .nil)))⟩
  | 4, hv => cases hv; exact ⟨204, [.ref 203], rfl, ⟨_, X 204 _ (by k_is), rfl, _, rfl⟩, (.cons (bc_at (X 203 _ (by k_is)) rfl rfl) .nil)⟩
  | 5, hv => cases hv; exact ⟨206, [.ref 205], rfl, ⟨_, X 206 _ (by k_is), rfl, _, rfl⟩, (.cons (bc_at (X 205 _ (by k_is)) rfl rfl) .nil)⟩
  | 6, hv => cases hv; exact ⟨210, [.ref 207, .ref 208, .ref 209], rfl, ⟨_, X 210 _ (by k_is), rfl, _, rfl⟩, (.cons (bc_at (X 207 _ (by k_is)) rfl rfl) (.cons (bc_at (X 208 _ (by k_is)) rfl rfl) (.cons (bc_at (X 209 _ (by k_is)) rfl rfl) .nil)))⟩
  | 7, hv => cases hv; exact ⟨212, [.ref 211], rfl, ⟨_, X 212 _ (by k_is), rfl, _, rfl⟩, (.cons (bc_at (X 211 _ (by k_is)) rfl rfl) .nil)⟩
  | 8, hv => cases hv; exact ⟨214, [.ref 213], rfl, ⟨_, X 214 _ (by k_is), rfl, _, rfl⟩, (.cons (bc_at (X 213 _ (by k_is)) rfl rfl) .nil)⟩
  | 9, hv => cases hv; exact ⟨218, [.ref 215, .ref 216, .ref 217], rfl, ⟨_, X 218 _ (by k_is), rfl, _, rfl⟩, (.cons (bc_at (X 215 _ (by k_is)) rfl rfl) (.cons (bc_at (X 216 _ (by k_is)) rfl rfl) (.cons (bc_at (X 217 _ (by k_is)) rfl rfl) .nil)))⟩
  | i + 10, hv => simp at hv
end Mine
end
section
namespace Mine
def hits (i : Nat) (m b : Int) : Bool := if i = 0 then decide (Builtin.bitAnd m 61440 = b) else decide (Builtin.bitAnd m b = b)
def signOf (m : Int) (i : Nat) : PySem.Str := match (ents i).find? (fun e => hits i m e.1) with
  | some e => e.2
  | none => if i = 0 then PySem.Str.ofString "?" else PySem.Str.ofString "-"
def fmI (m : Int) : PySem.Str := Txt.join (PySem.Str.ofString "") ((List.range 10).map (signOf m))
theorem ext4 {α : Type} {m' base : PySem.Str → Option α} (x1 x2 x3 x4 : PySem.Str) (h : ∀ z, z ≠ x1 → z ≠ x2 → z ≠ x3 → z ≠ x4 → m' z = base z) :
    ∃ a b c d, m' = fun z => if z = x1 then a else if z = x2 then b else if z = x3 then c else if z = x4 then d else base z := by
  refine ⟨m' x1, m' x2, m' x3, m' x4, funext fun z => ?_⟩
  by_cases h1 : z = x1
  · rw [if_pos h1, h1]
  · by_cases h2 : z = x2
    · rw [if_neg h1, if_pos h2, h2]
    · by_cases h3 : z = x3
      · rw [if_neg h1, if_neg h2, if_pos h3, h3]
      · by_cases h4 : z = x4
        · rw [if_neg h1, if_neg h2, if_neg h3, if_pos h4, h4]
        · rw [if_neg h1, if_neg h2, if_neg h3, if_neg h4]; exact h z h1 h2 h3 h4
theorem strs_len {vs : List Value} {xs : List PySem.Str} (h : StrsAre vs xs) : vs.length = xs.length := by
  induction h with
  | nil => rfl
  | cons a b _ ih => simp [ih]
theorem strs_app {vs : List Value} {xs : List PySem.Str} {x : PySem.Str} {t : Tok} (h : StrsAre vs xs) : StrsAre (vs ++ [.str x t]) (xs ++ [x]) := by
  induction h with
  | nil => exact .cons _ _ .nil
  | cons a b _ ih => exact .cons _ _ ih
theorem sign_hit {m : Int} {i j : Nat} {p : Int × PySem.Str} (hp : (ents i)[j]? = some p) (hj : ∀ (k : Nat) q, k < j → (ents i)[k]? = some q → hits i m q.1 = false) (h : hits i m p.1 = true) : signOf m i = p.2 := by
  have : (ents i).find? (fun e => hits i m e.1) = some p := by
    rw [List.find?_eq_some_iff_getElem]
    obtain ⟨h1, h2⟩ := List.getElem?_eq_some_iff.mp hp
    refine ⟨h, j, h1, h2, fun k hk => ?_⟩
    have := hj k _ hk (List.getElem?_eq_getElem (by omega))
    simpa using this
  unfold signOf
  rw [this]
theorem sign_miss {m : Int} {i n : Nat} (hn : (ents i).length = n) (hj : ∀ (k : Nat) q, k < n → (ents i)[k]? = some q → hits i m q.1 = false) : signOf m i = if i = 0 then PySem.Str.ofString "?" else PySem.Str.ofString "-" := by
  have : (ents i).find? (fun e => hits i m e.1) = none := by
    rw [List.find?_eq_none]
    intro q hq
    obtain ⟨k, hk⟩ := List.getElem?_of_mem hq
    have := hj k q (hn ▸ (List.getElem?_eq_some_iff.mp hk).1) hk
    simpa using this
  unfold signOf
  rw [this]
theorem app_news {prog : Program} {w : World} {A : Around} {E : Value → Shared → Prop} {s : Shared} {h₀ : Heap} {L l : Addr} {m : PySem.Str → Option Value} {pre post : List (Addr × Obj)} {xs : List Value} {n : Nat} {v : Value} {Q : Value → Shared → Prop}
    (F : Fr h₀ L s.heap m) (N : News h₀ L s.heap (pre ++ (l, listOf xs.toArray n) :: post)) (hne : ∀ p ∈ pre ++ post, p.1 ≠ l) (hz : xs.length ≤ 1000)
    (k : ∀ h', Fr h₀ L h' m → News h₀ L h' (pre ++ (l, listOf (xs ++ [v]).toArray (n + 1)) :: post) → Heap.SameBut l s.heap h' → Q .none { s with heap := h' }) : wpAny (model prog w) A (call (.builtin "list.append") [.ref l, v]) Q E s := by
  have hl := N (l, listOf xs.toArray n) (List.mem_append_right _ (.head _))
  refine append_at hl.1 (fun h' hs ho => k h' (F.change hs hl.2.1 hl.2.2) (fun p hp => ?_) hs) (by simp; exact Nat.le_trans hz (by decide))
  rcases List.mem_append.mp hp with hp | hp
  · have z := N p (List.mem_append_left _ hp)
    exact ⟨(hs.2 _ (hne p (List.mem_append_left _ hp))).trans z.1, z.2⟩
  · rcases List.mem_cons.mp hp with rfl | hp
    · exact ⟨by simpa using ho, hl.2⟩
    · have z := N p (List.mem_append_right _ (.tail _ hp))
      exact ⟨(hs.2 _ (hne p (List.mem_append_right _ hp))).trans z.1, z.2⟩
theorem sign_len (m : Int) (i : Nat) : (signOf m i).length ≤ 1 := by
  have key : ∀ e ∈ ents i, e.2.length ≤ 1 := by
    unfold ents
    split <;> decide +kernel
  unfold signOf
  split
  · rename_i e he
    exact key e (List.mem_of_find?_eq_some he)
  · split <;> decide +kernel
theorem bc_of {h : Heap} {es : List Value} {ds : List (Int × PySem.Str)} (hes : AtAll h es (ds.map bcD)) {j : Nat} {v : Value} (hv : es[j]? = some v) : ∃ p, ds[j]? = some p ∧ ∃ a t u, v = .ref a ∧ h.IsTuple a #[.int p.1 t, .str p.2 u] := by
  obtain ⟨d', h1, h2⟩ := hes.get hv
  rw [List.getElem?_map] at h1
  obtain ⟨p, hp, rfl⟩ := Option.map_eq_some_iff.mp h1
  obtain ⟨a, vs, rfl, ht, q⟩ := h2.tuple_inv
  obtain ⟨v1, vs1, rfl, r1, q1⟩ := q.inv
  obtain ⟨v2, vs2, rfl, r2, q2⟩ := q1.inv
  obtain ⟨t, rfl⟩ := r1.int_inv
  obtain ⟨u, rfl⟩ := r2.str_inv
  have e := q2.inv_nil
  subst e
  exact ⟨p, hp, a, t, u, rfl, ht⟩
local macro_rules | `(tactic| walk_at "call ref") => `(tactic| (
  (show wpAny _ _ (call (Value.ref 186) [Value.int _ _] []) _ _ _);
  refine' use_ret (ifmt_spec ?R ?X ?T _ _) ?F ?N ?_;
  (case F => k_asm); (case N => k_asm); (case X => exact Frag.In.keeps (by k_asm) (Fr.keep (by k_asm)));
  (case T => exact Top.keeps (by k_asm) (Fr.keep (by k_asm)));
  (case R => exact Room.less (Room.deeper (by assumption) _) (by decide));
  intro v' h' tk' e' hk' F' N'; obtain ⟨t', e'⟩ := e'; subst e'; (try k_sweep)))
section
variable {w : World} {A : Around} {s : Shared} {mean : ExcName → Option Value} {mg mb : PySem.Str → Option Value}
set_option maxRecDepth 100000 in
set_option maxHeartbeats 8000000 in
theorem fm_spec (R : Room A 6) (X : (hd.heap_1 w.params).In s.heap) (T : TT mean mg mb s.heap) (m : Int) (t : Tok) :
    wpAny (model PG w) A (call (.ref 226) [.int m t]) (Ret s fun r _ => ∃ t', r = .str (fmI m) t') NoE s := by
  obtain ⟨f1, f2, f3, f4⟩ := A
  have hh := R.handled
  dsimp only at hh
  subst hh
  refine call_pure [(PySem.Str.ofString "mode", .int m t)] R X T.nolimit (by k_is) (by k_is) (BindsTo.of_eq rfl) (locs rfl) ?_
  intro L h₁ tk0 F
  have N : News s.heap L h₁ [] := News.nil
  iterate 8 (first | (dsimp only; walk1) | walk1)
  refine wpAny_For ?_
  iterate 6 (first | (dsimp only; walk1) | walk1)
  rename Fr _ _ _ _ => F
  rename News _ _ _ _ => N
  rename_i l' _ _ h2
  have ht := tab_is X
  refine call_enum_tup (items := tabV.toArray) (let ⟨o, ho, r⟩ := ht; ⟨o, F.keep _ _ ho, r⟩) fun h3 he hit hsz hk3 => ?_
  refine wpAny_pyIter_enum he ?_
  have F3 := Fr.stay F hk3
  have N3 := News.stay N hk3
  dsimp only at he hit hsz hk3
  have hnew : ∀ a, h2.objs.size ≤ a → s.heap.get? a = none := fun a ha => by
    cases q : s.heap.get? a with
    | none => rfl
    | some o => exact absurd (Heap.lt_size (F.keep _ _ q)) (Nat.not_lt.mpr ha)
  have hLlt : @LT.lt Nat _ L h2.objs.size := F.ns.lt
  have hllt : @LT.lt Nat _ l' h2.objs.size := Heap.lt_size (N _ (.head _)).1
  clear F N
  dsimp only
  obtain ⟨e, hee⟩ : ∃ e, e = h2.objs.size + 1 := ⟨_, rfl⟩
  obtain ⟨it, hie⟩ : ∃ it, it = h2.objs.size := ⟨_, rfl⟩
  have e1 : @Ne Nat e L := by omega
  have e2 : @Ne Nat it L := by omega
  have e3 : @Ne Nat e it := by omega
  have e4 : @Ne Nat l' e := by omega
  have e5 : @Ne Nat l' it := by omega
  have e6 := hnew e (by omega)
  have e7 := hnew it (by omega)
  rw [← hee, ← hie] at he
  rw [← hie] at hit
  rw [← hee]
  refine for_enum (items := tabV) (it := it) (fun i m' news' => ∃ ys n, news' = [(l', listOf (List.toArray ys) n)] ∧ StrsAre ys ((List.range i).map (signOf m)) ∧
    ∀ z, z ≠ PySem.Str.ofString "char" → z ≠ PySem.Str.ofString "bit" → z ≠ PySem.Str.ofString "table" → z ≠ PySem.Str.ofString "index" → m' z = if z = PySem.Str.ofString "perm" then some (.ref l') else List.lookup z [(PySem.Str.ofString "mode", Value.int m t)].reverse)
    rfl ht F3 N3 he hit e6 e7 e1 e2 e3 ?_ ?_ ?_ ?_
  · intro p hp
    rw [List.mem_singleton.mp hp]
    exact ⟨e4, e5⟩
  · exact ⟨[], 0, rfl, .nil, fun z h1 h2 h3 h4 => rfl⟩
  · rintro i v m' news' oe oi h tk1 tk2 hv ⟨ys, n, rfl, hys, hm'⟩ F N hn
    clear F3 N3 hn
    dsimp only
    have hyl : ys.length ≤ 1000 := by
      have h1 := strs_len hys
      have h2 : i < 10 := (List.getElem?_eq_some_iff.mp hv).1
      rw [List.length_map, List.length_range] at h1
      omega
    obtain ⟨a, es, rfl, hat, hes⟩ := row_is X i v hv
    obtain ⟨c1, c2, c3, c4, rfl⟩ := ext4 _ _ _ _ hm'
    clear hm'
    refine abs_post fun Q1 hQ1 => ?_
    walk1
    refine wpAny_For ?_
    dsimp only at F
    iterate 1 (first | (dsimp only; walk1) | walk1)
    refine for_tup (items := es) (fun j m' news' => news' = [(e, oe), (it, oi), (l', listOf (List.toArray ys) n)] ∧ (∀ (k : Nat) q, k < j → (ents i)[k]? = some q → hits i m q.1 = false) ∧
      ∃ x y, m' = fun z => if z = PySem.Str.ofString "char" then x else if z = PySem.Str.ofString "bit" then y else if z = PySem.Str.ofString "table" then some (Value.ref a) else if z = PySem.Str.ofString "index" then some (Value.int (i : Int) tk2) else if z = PySem.Str.ofString "char" then c1 else if z = PySem.Str.ofString "bit" then c2 else if z = PySem.Str.ofString "table" then c3 else if z = PySem.Str.ofString "index" then c4 else
        if z = PySem.Str.ofString "perm" then some (.ref l') else List.lookup z [(PySem.Str.ofString "mode", Value.int m t)].reverse) rfl hat F N ?_ ?_ ?_ ?_
    · refine ⟨rfl, fun k q hk => absurd hk (Nat.not_lt_zero _), c1, c2, ?_⟩
      funext z
      by_cases h1 : z = PySem.Str.ofString "char"
      · subst h1; rfl
      · by_cases h2 : z = PySem.Str.ofString "bit"
        · subst h2; rfl
        · simp only [if_neg h1, if_neg h2]
    · rintro j v m' news' I oI h2 tk3 hv ⟨rfl, hj, x, y, rfl⟩ hit' F' N' hn
      clear F N
      obtain ⟨p, hp, b, t1, u1, rfl, htup⟩ := bc_of hes hv
      refine assign_pair rfl F' N' (htup.at fun o e => F'.keep _ _ e) ?_
      intro h4 tk4 F4 N4
      clear F' N'
      refine abs_post fun Q2 hQ2 => ?_
      have hI1 : l' ≠ I := hn (l', _) (.tail _ (.tail _ (.head _)))
      have hI2 : e ≠ I := hn (e, _) (.head _)
      have hI3 : it ≠ I := hn (it, _) (.tail _ (.head _))
      have hne : ∀ p ∈ [(I, oI), (e, oe), (it, oi)] ++ [], p.1 ≠ l' := by
        intro p hp
        simp only [List.append_nil, List.mem_cons, List.not_mem_nil, or_false] at hp
        rcases hp with rfl | rfl | rfl
        · exact hI1.symm
        · exact e4.symm
        · exact e5.symm
      (repeat (first | ((with_reducible show wpAny _ _ (exec _ _) _ _ _); refine abs_post fun Q' hQ' => ?_; walk1) | (dsimp only; walk1) | walk1 | (refine hQ' _ _ ?_; clear hQ')))
      · rename Fr _ _ _ _ => F5
        rename News _ _ _ _ => N5
        refine app_news (pre := [(I, oI), (e, oe), (it, oi)]) (post := []) F5 N5 hne hyl ?_
        intro h6 F6 N6 hs6
        clear F5 N5
        (repeat ((try dsimp only); (fail_if_success (with_reducible show Exists _)); (first | ((with_reducible show wpAny _ _ (exec _ _) _ _ _); refine abs_post fun Q' hQ' => ?_; walk1) | walk1 | (refine hQ' _ _ ?_; clear hQ'))))
        refine hQ2 _ _ ?_
        (repeat ((try dsimp only); (fail_if_success (with_reducible show Exists _)); (first | ((with_reducible show wpAny _ _ (exec _ _) _ _ _); refine abs_post fun Q' hQ' => ?_; walk1) | walk1 | (refine hQ' _ _ ?_; clear hQ'))))
        refine hQ1 _ _ ?_
        dsimp only
        refine ⟨h6, _, _, _, rfl, F6, fun p hp => N6 p (.tail _ hp), ?_, ys ++ [.str p.2 u1], n + 1, rfl, ?_, ?_⟩
        · intro q hq; rw [List.mem_singleton.mp hq]; exact ⟨e4, e5⟩
        · rw [List.range_succ, List.map_append, List.map_singleton, sign_hit hp hj (by unfold hits; rw [if_pos (by omega)]; exact decide_eq_true (by assumption))]
          exact strs_app hys
        · intro z h1 h2 h3 h4; simp only [if_neg h1, if_neg h2, if_neg h3, if_neg h4]
      · (repeat ((try dsimp only); (fail_if_success (with_reducible show Exists _)); (first | ((with_reducible show wpAny _ _ (exec _ _) _ _ _); refine abs_post fun Q' hQ' => ?_; walk1) | walk1 | (refine hQ' _ _ ?_; clear hQ'))))
        rename Fr _ _ _ _ => F5
        rename News _ _ _ _ => N5
        refine hQ2 _ _ ?_
        refine ⟨_, _, _, _, rfl, F5, N5, hn, rfl, ?_, _, _, map_again _ _⟩
        intro k q hk hq
        rcases Nat.lt_succ_iff_lt_or_eq.mp hk with h | rfl
        · exact hj k q h hq
        · rw [hp] at hq; cases hq; unfold hits; rw [if_pos (by omega)]; exact decide_eq_false (by assumption)
      · (repeat (first | ((with_reducible show wpAny _ _ (exec _ _) _ _ _); refine abs_post fun Q' hQ' => ?_; walk1) | (dsimp only; walk1) | walk1 | (refine hQ' _ _ ?_; clear hQ')))
        · rename Fr _ _ _ _ => F5
          rename News _ _ _ _ => N5
          refine app_news (pre := [(I, oI), (e, oe), (it, oi)]) (post := []) F5 N5 hne hyl ?_
          intro h6 F6 N6 hs6
          clear F5 N5
          (repeat ((try dsimp only); (fail_if_success (with_reducible show Exists _)); (first | ((with_reducible show wpAny _ _ (exec _ _) _ _ _); refine abs_post fun Q' hQ' => ?_; walk1) | walk1 | (refine hQ' _ _ ?_; clear hQ'))))
          refine hQ2 _ _ ?_
          (repeat ((try dsimp only); (fail_if_success (with_reducible show Exists _)); (first | ((with_reducible show wpAny _ _ (exec _ _) _ _ _); refine abs_post fun Q' hQ' => ?_; walk1) | walk1 | (refine hQ' _ _ ?_; clear hQ'))))
          refine hQ1 _ _ ?_
          dsimp only
          refine ⟨h6, _, _, _, rfl, F6, fun p hp => N6 p (.tail _ hp), ?_, ys ++ [.str p.2 u1], n + 1, rfl, ?_, ?_⟩
          · intro q hq; rw [List.mem_singleton.mp hq]; exact ⟨e4, e5⟩
          · rw [List.range_succ, List.map_append, List.map_singleton, sign_hit hp hj (by unfold hits; rw [if_neg (by omega)]; exact decide_eq_true (by assumption))]
            exact strs_app hys
          · intro z h1 h2 h3 h4; simp only [if_neg h1, if_neg h2, if_neg h3, if_neg h4]
        · (repeat ((try dsimp only); (fail_if_success (with_reducible show Exists _)); (first | ((with_reducible show wpAny _ _ (exec _ _) _ _ _); refine abs_post fun Q' hQ' => ?_; walk1) | walk1 | (refine hQ' _ _ ?_; clear hQ'))))
          rename Fr _ _ _ _ => F5
          rename News _ _ _ _ => N5
          refine hQ2 _ _ ?_
          refine ⟨_, _, _, _, rfl, F5, N5, hn, rfl, ?_, _, _, map_again _ _⟩
          intro k q hk hq
          rcases Nat.lt_succ_iff_lt_or_eq.mp hk with h | rfl
          · exact hj k q h hq
          · rw [hp] at hq; cases hq; unfold hits; rw [if_neg (by omega)]; exact decide_eq_false (by assumption)
    · rintro h2 tk3 m' news' ⟨rfl, hj, x, y, rfl⟩ F' N'
      clear F N
      have hln : (ents i).length = es.length := by simpa using hes.length.symm
      have hne : ∀ p ∈ [(e, oe), (it, oi)] ++ [], p.1 ≠ l' := by
        intro p hp
        simp only [List.append_nil, List.mem_cons, List.not_mem_nil, or_false] at hp
        rcases hp with rfl | rfl
        · exact e4.symm
        · exact e5.symm
      (repeat ((try dsimp only); (fail_if_success (with_reducible show Exists _)); (first | ((with_reducible show wpAny _ _ (exec _ _) _ _ _); refine abs_post fun Q' hQ' => ?_; walk1) | walk1 | (refine hQ' _ _ ?_; clear hQ'))))
      · rename Fr _ _ _ _ => F6
        rename News _ _ _ _ => N6
        simp only [List.push_toArray] at N6
        refine hQ1 _ _ ?_
        refine ⟨_, _, _, _, rfl, F6, N6, ?_, _, n + 1, rfl, ?_, ?_⟩
        · intro q hq; rw [List.mem_singleton.mp hq]; exact ⟨e4, e5⟩
        · rw [List.range_succ, List.map_append, List.map_singleton, sign_miss hln hj, if_pos (by omega)]
          exact strs_app hys
        · intro z h1 h2 h3 h4; simp only [if_neg h1, if_neg h2, if_neg h3, if_neg h4]
      · (repeat ((try dsimp only); (fail_if_success (with_reducible show Exists _)); (first | ((with_reducible show wpAny _ _ (exec _ _) _ _ _); refine abs_post fun Q' hQ' => ?_; walk1) | walk1 | (refine hQ' _ _ ?_; clear hQ'))))
        rename Fr _ _ _ _ => F6
        rename News _ _ _ _ => N6
        simp only [List.push_toArray] at N6
        refine hQ1 _ _ ?_
        refine ⟨_, _, _, _, rfl, F6, N6, ?_, _, n + 1, rfl, ?_, ?_⟩
        · intro q hq; rw [List.mem_singleton.mp hq]; exact ⟨e4, e5⟩
        · rw [List.range_succ, List.map_append, List.map_singleton, sign_miss hln hj, if_neg (by omega)]
          exact strs_app hys
        · intro z h1 h2 h3 h4; simp only [if_neg h1, if_neg h2, if_neg h3, if_neg h4]
    · exact fun I v s₁ i Q st hv q => letGo_tupleiter st q
  · rintro h tk1 m' news' ⟨ys, n, rfl, hys, hm'⟩ F N
    clear F3 N3
    dsimp only
    obtain ⟨c1, c2, c3, c4, rfl⟩ := ext4 _ _ _ _ hm'
    clear hm'
    (repeat (first | ((with_reducible show wpAny _ _ (exec _ _) _ _ _); refine abs_post fun Q' hQ' => ?_; walk1) | (dsimp only; walk1) | walk1 | (refine hQ' _ _ ?_; clear hQ')))
    refine join_list ⟨_, (N _ (.head _)).1, rfl, _, rfl⟩ hys ?_ fun t' k => ?_
    · rw [show (PySem.Str.ofString "").length = 0 from rfl, Nat.mul_zero, Nat.add_zero]
      refine Nat.le_trans (sum_le_mul _ 1 _ ?_) ?_
      · intro y hy
        obtain ⟨i, _, rfl⟩ := List.mem_map.mp hy
        exact sign_len m i
      · rw [List.length_map, List.length_range]; decide
    (repeat (first | ((with_reducible show wpAny _ _ (exec _ _) _ _ _); refine abs_post fun Q' hQ' => ?_; walk1) | (dsimp only; walk1) | walk1 | (refine hQ' _ _ ?_; clear hQ')))
    exact ⟨_, _, rfl, F.keep, _, rfl⟩
end
end Mine
end
section
namespace Mine
def diffR : List Pr2 → List Pr2 → List Pr2 → List Pr2 × List Pr2
  | [], qs, miss => (miss, qs)
  | p :: r, qs, miss => if p ∈ qs then diffR r (qs.erase p) miss else diffR r qs (miss ++ [p])
theorem pairs_turn {g g' : Heap} {fs : List Addr} {ps : List Pr2} {vs : List Value} (D : KtsDicts fs g) (T : KtsTurn fs g g') (r : AtAll g vs (ps.map pairD)) : AtAll g' vs (ps.map pairD) :=
  pairs_seq r fun b o its n e1 e2 => T.other b o e1 fun hm => by
    obtain ⟨o', es, k', ho, hd⟩ := D b hm
    rw [e1] at ho
    cases ho
    rw [e2] at hd
    cases hd
theorem map_once {α : Type} {a b : Option α} {m : PySem.Str → Option α} (k : PySem.Str) : (fun z => if z = k then a else if z = k then b else m z) = fun z => if z = k then a else m z := by
  funext z
  by_cases h : z = k
  · simp only [if_pos h]
  · simp only [if_neg h]
theorem upd_news {h₀ H h' : Heap} {L l : Addr} {m : PySem.Str → Option Value} {pre post : List (Addr × Obj)} {o o' : Obj} (F : Fr h₀ L H m) (N : News h₀ L H (pre ++ (l, o) :: post)) (hne : ∀ p ∈ pre ++ post, p.1 ≠ l) (hs : Heap.SameBut l H h') (ho : h'.get? l = some o') :
    Fr h₀ L h' m ∧ News h₀ L h' (pre ++ (l, o') :: post) := by
  have hl := N (l, o) (List.mem_append_right _ (.head _))
  refine ⟨F.change hs hl.2.1 hl.2.2, fun p hp => ?_⟩
  rcases List.mem_append.mp hp with hp | hp
  · have z := N p (List.mem_append_left _ hp)
    exact ⟨(hs.2 _ (hne p (List.mem_append_left _ hp))).trans z.1, z.2⟩
  · rcases List.mem_cons.mp hp with rfl | hp
    · exact ⟨ho, hl.2⟩
    · have z := N p (List.mem_append_right _ (.tail _ hp))
      exact ⟨(hs.2 _ (hne p (List.mem_append_right _ hp))).trans z.1, z.2⟩
theorem pop_news {prog : Program} {w : World} {A : Around} {E : Value → Shared → Prop} {s : Shared} {h₀ : Heap} {L l : Addr} {m : PySem.Str → Option Value} {pre post : List (Addr × Obj)} {xs : List Value} {n : Nat} {v : Value} {Q : Value → Shared → Prop}
    (F : Fr h₀ L s.heap m) (N : News h₀ L s.heap (pre ++ (l, listOf (xs ++ [v]).toArray n) :: post)) (hne : ∀ p ∈ pre ++ post, p.1 ≠ l) (hz : (xs ++ [v]).length ≤ 1000)
    (k : ∀ h' n', Fr h₀ L h' m → News h₀ L h' (pre ++ (l, listOf xs.toArray n') :: post) → Q v { s with heap := h' }) : wpAny (model prog w) A (call (.builtin "list.pop") [.ref l]) Q E s := by
  have hl := N (l, listOf (xs ++ [v]).toArray n) (List.mem_append_right _ (.head _))
  refine call_meets PySem.F.slot_list_pop ⟨_, hl.1, rfl⟩ PySem.F.entry_list_pop (PySem.F.args_list_pop_1 _) (MeetsSeq.list_pop_last l (xs ++ [v]).toArray n v (by simp) (by rw [List.size_toArray]; exact Nat.le_trans hz (by decide))) ⟨hl.1, ?_⟩
  have z := get?_update_seq (c := "list") hl.1 (fun zs => zs.eraseIdxIfInBounds ((xs ++ [v]).toArray.size - 1))
  have e : (xs ++ [v]).toArray.eraseIdxIfInBounds ((xs ++ [v]).toArray.size - 1) = xs.toArray := by
    rw [Array.eraseIdxIfInBounds]
    simp [List.eraseIdx_append_of_length_le]
  rw [e] at z
  obtain ⟨F', N'⟩ := upd_news F N hne (Heap.SameBut.update ..) z
  exact k _ _ F' N'
section
variable {w : World} {A : Around} {s : Shared} {mean : ExcName → Option Value} {mg mb : PySem.Str → Option Value} {base g : Heap} {outer : List Env}
set_option maxRecDepth 100000 in
set_option maxHeartbeats 8000000 in
theorem diff_spec (R : Room A 6) (X : (hd.heap_1 w.params).In g) (T : TT mean mg mb g) (XB : (hd.heap_1 w.params).In base) (TB : TT mean mg mb base) (K : Below A base outer g) (D : KtsDicts (outer.filterMap (·.frame)) g)
    (hg : g.StaysIn s.heap) (hgs : g.objs.size ≤ s.heap.objs.size) (ea aa : Addr) (hea : ea ≠ aa) (es as : List Value) (n1 n2 : Nat) (hge : g.get? ea = none) (hga : g.get? aa = none) (he : s.heap.get? ea = some (listOf es.toArray n1)) (ha : s.heap.get? aa = some (listOf as.toArray n2))
    (ps qs : List Pr2) (hps : AtAll g es (ps.map pairD)) (hqs : AtAll g as (qs.map pairD)) (hz1 : es.length ≤ 500) (hz2 : as.length ≤ 500) (ok1 : ∀ p ∈ ps, SOk p.1 ∧ SOk p.2) (ok2 : ∀ p ∈ qs, SOk p.1 ∧ SOk p.2) :
    wpAny (model PG w) A (call (.ref 233) [.ref ea, .ref aa]) (RetS (outer.filterMap (·.frame)) g s fun r h' => At h' r (.tuple [.list ((diffR ps.reverse qs []).1.map pairD), .list ((diffR ps.reverse qs []).2.map pairD)])) NoE s := by
  obtain ⟨f1, f2, f3, f4, f5⟩ := A
  have hh := R.handled
  dsimp only at hh
  subst hh
  have hun := R.units
  dsimp only at hun
  have hX := X.keeps hg
  refine abs_post fun Q hQ => ?_
  refine call_pure [(PySem.Str.ofString "expected", .ref ea), (PySem.Str.ofString "actual", .ref aa)] R hX (T.nolimit.keeps hg) (by k_is) (by k_is) (BindsTo.of_eq rfl) (locs rfl) ?_
  clear hX
  intro L h₁ tk0 F
  have F1 : Fr g L h₁ _ := ⟨F.ns, fun b o e => F.keep b o (hg b o e), Nat.le_trans hgs F.above⟩
  have N1 : News g L h₁ [(ea, listOf es.toArray n1), (aa, listOf as.toArray n2)] := by
    intro p hp
    rcases List.mem_cons.mp hp with rfl | hp
    · exact ⟨F.keep _ _ he, Nat.ne_of_lt (Nat.lt_of_lt_of_le (Heap.lt_size he) F.above), hge⟩
    · rw [List.mem_singleton.mp hp]
      exact ⟨F.keep _ _ ha, Nat.ne_of_lt (Nat.lt_of_lt_of_le (Heap.lt_size ha) F.above), hga⟩
  clear F
  iterate 6 (first | (dsimp only; walk1) | walk1)
  dsimp only
  rename Fr _ _ _ _ => F2
  rename News _ _ _ _ => N2
  rename _ ∧ _ => hlt
  obtain ⟨h1, h2⟩ := hlt
  rename_i l' _ hc
  have e1 : @Ne Nat ea l' := by omega
  have e2 : @Ne Nat aa l' := by omega
  clear h1 h2
  walk1
  refine wpAny_While (codeAny_whileLoop (fun k s' => ∃ g' h tk es' as' ms m1 m2 m3 ps' qs' miss it, s' = { s with heap := h, toks := tk } ∧ KtsTurn (outer.filterMap (·.frame)) g g' ∧ Fr g' L h (fun y => if y = PySem.Str.ofString "item" then it else if y = PySem.Str.ofString "missing" then some (Value.ref l') else List.lookup y [(PySem.Str.ofString "expected", Value.ref ea), (PySem.Str.ofString "actual", Value.ref aa)].reverse) ∧
    News g' L h [(l', listOf (List.toArray ms) m3), (ea, listOf (List.toArray es') m1), (aa, listOf (List.toArray as') m2)] ∧ Below { depth := f2, frames := f3, guards := f4, units := f5 } base outer g' ∧ KtsDicts (outer.filterMap (·.frame)) g' ∧ (hd.heap_1 w.params).In g' ∧ TT mean mg mb g' ∧
    AtAll g' es' (List.map pairD ps') ∧ AtAll g' as' (List.map pairD qs') ∧ AtAll g' ms (List.map pairD miss) ∧ (∀ p ∈ ps', SOk p.1 ∧ SOk p.2) ∧ (∀ p ∈ qs', SOk p.1 ∧ SOk p.2) ∧ as'.length ≤ 500 ∧ ms.length + es'.length ≤ 500 ∧ k = es'.length ∧
    diffR ps'.reverse qs' miss = diffR ps.reverse qs []) ?_ es.length ?_)
  rotate_left
  · refine ⟨g, _, _, es, as, [], n1, n2, 0, ps, qs, [], none, rfl, .refl, ?_, N2, K, D, X, T, hps, hqs, .nil, ok1, ok2, hz2, by simpa using hz1, rfl, rfl⟩
    have e : (fun y => if y = PySem.Str.ofString "item" then none else if y = PySem.Str.ofString "missing" then some (Value.ref l') else List.lookup y [(PySem.Str.ofString "expected", Value.ref ea), (PySem.Str.ofString "actual", Value.ref aa)].reverse) =
        fun y => if y = PySem.Str.ofString "missing" then some (Value.ref l') else List.lookup y [(PySem.Str.ofString "expected", Value.ref ea), (PySem.Str.ofString "actual", Value.ref aa)].reverse := by
      funext y
      by_cases hy : y = PySem.Str.ofString "item"
      · subst hy; rfl
      · rw [if_neg hy]
    rw [e]
    exact F2
  rintro k _ ⟨g', h, tk, es', as', ms, m1, m2, m3, ps', qs', miss, it, rfl, T', F, N, K', D', X', P', hes, has, hms, ok1', ok2', hz2', hz1', rfl, hd⟩
  clear F2 N2
  have hne1 : ∀ p ∈ [(l', listOf (List.toArray ms) m3)] ++ [(aa, listOf (List.toArray as') m2)], p.1 ≠ ea := by
    intro p hp
    simp only [List.cons_append, List.nil_append, List.mem_cons, List.not_mem_nil, or_false] at hp
    rcases hp with rfl | rfl
    · exact e1.symm
    · exact hea.symm
  iterate 2 (first | (dsimp only; walk1) | walk1)
  refine wpAny_truthy_list (items := es'.toArray) ⟨_, (N _ (.tail _ (.head _))).1, rfl, _, rfl⟩ (by simp; omega) ?_
  obtain rfl | ⟨init, x, rfl⟩ : es' = [] ∨ ∃ init x, es' = init ++ [x] := by
    rcases List.eq_nil_or_concat es' with h | ⟨a, b, h⟩
    · exact .inl h
    · exact .inr ⟨a, b, by rw [h, List.concat_eq_append]⟩
  · have hp0 : ps' = [] := by simpa using hes.length.symm
    subst hp0
    rw [show (!(List.toArray ([] : List Value)).isEmpty) = false from rfl]
    dsimp only
    rw [if_neg Bool.false_ne_true]
    have hd' : diffR ps.reverse qs [] = (miss, qs') := hd.symm
    (repeat ((try dsimp only); (fail_if_success (with_reducible show Exists _)); walk1))
    rename Fr _ _ _ _ => F4
    rename News _ _ _ _ => N4
    refine hQ _ _ ?_
    refine ⟨_, _, g', rfl, T', F4.keep, ?_⟩
    rw [hd']
    exact At.tuple (vs := [_, _]) ⟨_, (N4 _ (.head _)).1, rfl, _, rfl⟩ (.cons (At.list ⟨_, (N4 _ (.tail _ (.head _))).1, rfl, _, rfl⟩ (hms.keeps F4.keep)) (.cons (At.list ⟨_, (N4 _ (.tail _ (.tail _ (.tail _ (.head _))))).1, rfl, _, rfl⟩ (has.keeps F4.keep)) .nil))
  · rw [show (!(List.toArray (init ++ [x])).isEmpty) = true by simp]
    dsimp only
    rw [if_pos rfl]
    refine abs_post fun Q1 hQ1 => ?_
    have hrv := hes.reverse
    rw [List.reverse_append, List.reverse_singleton, List.singleton_append, ← List.map_reverse] at hrv
    obtain ⟨p, r, hpr⟩ : ∃ p r, ps'.reverse = p :: r := by
      cases hq : ps'.reverse with
      | nil => rw [hq] at hrv; have := hrv.length; simp at this
      | cons p r => exact ⟨p, r, rfl⟩
    rw [hpr] at hrv hd
    obtain ⟨v0, vs0, ev, rx, rr⟩ := hrv.inv
    obtain ⟨rfl, rfl⟩ := List.cons.inj ev
    have hinit := rr.reverse
    rw [List.reverse_reverse, ← List.map_reverse] at hinit
    clear hrv ev rr
    have hokp : SOk p.1 ∧ SOk p.2 := ok1' p (by rw [← List.mem_reverse, hpr]; exact .head _)
    have hokr : ∀ q ∈ r.reverse, SOk q.1 ∧ SOk q.2 := fun q hq => ok1' q (by rw [← List.mem_reverse, hpr]; exact .tail _ (List.mem_reverse.mp hq))
    (repeat (first | (dsimp only; walk1) | walk1))
    show wpAny _ _ (call (Value.builtin "list.pop") [Value.ref ea]) _ _ _
    refine pop_news (pre := [(l', listOf (List.toArray ms) m3)]) (post := [(aa, listOf (List.toArray as') m2)]) F N hne1 (by omega) ?_
    intro h5 m1' F5 N5
    simp only [List.cons_append, List.nil_append] at N5
    clear F N
    obtain ⟨xa, xt, xu, rfl, xtup⟩ := At.pair rx
    (repeat (first | (dsimp only; walk1) | walk1))
    rename Fr _ _ _ _ => F6
    rename News _ _ _ _ => N6
    simp only [map_once] at F6
    refine remove_pairs (p := p) (ps := qs') (N6 _ (.tail _ (.tail _ (.head _)))).1 (has.keeps F6.keep) (rx.keeps F6.keep) ok2' hokp (by omega) rfl (by dsimp only [Around.deeper]; omega) ?_ ?_
    · intro hm h7 n7 j hs7 ho7 hej
      dsimp only at hs7
      have hne2 : ∀ q ∈ [(l', listOf (List.toArray ms) m3), (ea, listOf (List.toArray init) m1')] ++ [], q.1 ≠ aa := by
        intro q hq
        simp only [List.append_nil, List.mem_cons, List.not_mem_nil, or_false] at hq
        rcases hq with rfl | rfl
        · exact e2.symm
        · exact hea
      obtain ⟨F7, N7⟩ := upd_news (pre := [(l', listOf (List.toArray ms) m3), (ea, listOf (List.toArray init) m1')]) (post := []) F6 N6 hne2 hs7 ho7
      clear F6 N6
      (repeat ((try dsimp only); (fail_if_success (with_reducible show Exists _)); walk1))
      refine hQ1 _ _ ?_
      refine ⟨init.length, by simp, g', h7, _, init, as'.eraseIdx j, ms, m1', n7, m3, r.reverse, qs'.erase p, miss, some (.ref xa), rfl, T', F7, N7, K', D', X', P', hinit, ?_, hms, hokr, fun q hq => ok2' q (List.mem_of_mem_erase hq), Nat.le_trans (List.length_eraseIdx_le _ _) hz2', by simp at hz1'; omega, rfl, ?_⟩
      · rw [hej, ← map_eraseIdx]; exact AtAll.eraseIdx j has
      · rw [List.reverse_reverse, ← hd]; exact (if_pos hm).symm
    · intro hm h7 tk7 e7 hx7
      dsimp only at hx7
      dsimp only
      refine caught_new0 (T' := "ValueError") hx7 F6 N6 K' XB TB D' .refl (by k_is) PyProof.Rows.Boot.«ValueError» (by decide) PySem.F.isExc_ValueError PySem.F.notTuple_ValueError (by rw [isSubtype_type]; kernel_rfl) ?_
      intro h8 g8 T8 F8 N8 K8 X8 P8 D8
      clear F6 N6 hx7
      (repeat ((try dsimp only); (fail_if_success (with_reducible show Exists _)); walk1))
      rename Fr _ _ _ _ => F9
      rename News _ _ _ _ => N9
      try simp only [List.push_toArray] at N9
      try dsimp only
      refine hQ1 _ _ ?_
      refine ⟨init.length, by simp, g8, _, _, init, as', ms ++ [.ref xa], m1', m2, m3 + 1, r.reverse, qs', miss ++ [p], some (.ref xa), rfl, T'.trans T8, F9, N9, K8, D8, X8, P8, pairs_turn D' T8 hinit, pairs_turn D' T8 has, ?_, hokr, ok2', hz2', by simp at hz1' ⊢; omega, rfl, ?_⟩
      · rw [List.map_append]
        exact AtAll.append (pairs_turn D' T8 hms) (pairs_turn (ps := [p]) (vs := [_]) D' T8 (.cons rx .nil))
      · rw [List.reverse_reverse, ← hd]; exact (if_neg hm).symm
end
end Mine
end
section
namespace Mine
theorem now_caught {g g6 h6 : Heap} {fs : List Addr} {L hl : Addr} {m : PySem.Str → Option Value} {nt : List (Addr × Obj)} {vs : List Value} {n : Nat} {ps : List (PySem.Str × PySem.Str)} (c : Carry g nt vs ps) (D : KtsDicts fs g) (T : KtsTurn fs g g6) (F : Fr g6 L h6 m) (N : News g6 L h6 ((hl, listOf vs.toArray n) :: nt)) : Now hl ps h6 := by
  refine ⟨vs, n, (N _ (.head _)).1, c h6 (fun b o its k e1 e2 => F.keep _ _ (T.other b o e1 fun hm => ?_)) fun q hq => (N q (.tail _ hq)).1⟩
  obtain ⟨o', es, k', ho, hd⟩ := D b hm
  rw [e1] at ho
  cases ho
  rw [e2] at hd
  cases hd
theorem size_nl (y : PySem.Str) : (y ++ PySem.Str.ofString "\n").cps.size = y.cps.size + 1 := by
  show (y.cps ++ _).size = _
  rw [Array.size_append]; rfl
theorem bad_nl (y : PySem.Str) : ∃ i, i < (y ++ PySem.Str.ofString "\n").cps.size ∧ badV ((y ++ PySem.Str.ofString "\n").cps.getD i 0) = true := by
  refine ⟨y.cps.size, by rw [size_nl]; omega, ?_⟩
  have : (y ++ PySem.Str.ofString "\n").cps.getD y.cps.size 0 = 10 := by
    show (y.cps ++ #[10]).getD y.cps.size 0 = 10
    simp
  rw [this]
  decide +kernel
local macro_rules | `(tactic| k_inst) => `(tactic| exact Tbl.at (by assumption) (by k_asm))
section
variable {w : World} {A : Around} {s : Shared} {mean : ExcName → Option Value} {mg mb : PySem.Str → Option Value} {tb dx hl : Addr} {tk₀ : Tok} {base g : Heap} {outer : List Env} {vs : List Value} {n : Nat} {ps : List (PySem.Str × PySem.Str)}
set_option maxRecDepth 100000 in
set_option maxHeartbeats 8000000 in
theorem deed_spec (R : Room A 12) (X : (hd.heap_1 w.params).In g) (T : TT mean mg mb g) (XB : (hd.heap_1 w.params).In base) (TB : TT mean mg mb base) (K : Below A base outer g) (D : KtsDicts (outer.filterMap (·.frame)) g) (O : Own w g s.heap tb dx hl tk₀ vs n ps) (hpl : ∀ p ∈ ps, p.1.length ≤ 1000)
    (x : PySem.Str) (t : Tok) (hxl : x.length ≤ 1000) (hxc : Clean badN (Txt.lower x)) (hxn : Clean badN x) (y : PySem.Str) (u : Tok) (hyl : y.length ≤ 1000) (hyv : Clean badV y)
    (v : PySem.Str) (tv : Tok) (hv : v.length ≤ 1000) (hv0 : 0 < v.length) (hvv : Clean badV v) (ho1 : Builtin.Str.occurrences v (PySem.Str.ofString "\\") 0 v.length (v.length + 1) = []) (ho2 : Builtin.Str.occurrences v (PySem.Str.ofString "\"") 0 v.length (v.length + 1) = [])
    (d : Nat) (di : Int) (td : Tok) (hdi : di = d) (hdl : d < 7) :
    wpAny (model PG w) A (call (.ref 261) [.ref tb, .int di td, .str x t, .str y u, .str v tv]) (RetS (outer.filterMap (·.frame)) g s fun r h' => At h' r (deedV d ps x y) ∧ Now hl (deedPs d ps x y v) h') NoE s := by
  obtain ⟨f1, f2, f3, f4⟩ := A
  have hh := R.handled
  dsimp only at hh
  subst hh
  have hX := X.keeps O.keep
  refine abs_post fun Q hQ => ?_
  refine call_pure [(PySem.Str.ofString "table", .ref tb), (PySem.Str.ofString "deed", .int di td), (PySem.Str.ofString "row", .str x t), (PySem.Str.ofString "text", .str y u), (PySem.Str.ofString "last", .str v tv)] R hX (T.nolimit.keeps O.keep) (by k_is) (by k_is) (BindsTo.of_eq rfl) (locs rfl) ?_
  clear hX
  intro L h₁ tk0 F
  have N : News s.heap L h₁ [] := News.nil
  have B := O.B
  have N1 := O.news F N
  have F1 := O.fr F
  clear F N
  simp only [List.nil_append] at N1
  have hdd : d = 0 ∨ d = 1 ∨ d = 2 ∨ d = 3 ∨ d = 4 ∨ d = 5 ∨ d = 6 := by omega
  clear hdl
  rcases hdd with rfl | rfl | rfl | rfl | rfl | rfl | rfl
  · obtain rfl : di = 0 := hdi
    (repeat ((fail_if_success (with_reducible show wpAny _ _ (call (Value.ref _) _ _) _ _ _)); (first | walk1 | (dsimp only; walk1))))
    refine use_retM (P := fun v => v = .none) (pre := []) (post := []) F1 N1 (fun p hp => nomatch hp) B O.hz (O.hps.keeps F1.keep) (fun g' hg O' => add0_spec (Room.less (R.deeper _) (by decide)) (X.keeps hg) (T.keeps hg) O' x t hxn y u hyl hyv) ?_
    intro v2 h2 tk2 vs2 n2 e2 hat2 hb2 F2 N2
    clear F1 N1
    simp only [List.nil_append] at N2
    (repeat ((fail_if_success (with_reducible show wpAny _ _ (call (Value.ref _) _ _) _ _ _)); (first | walk1 | (dsimp only; walk1))))
    refine hQ _ _ ?_
    exact ⟨_, _, g, rfl, .refl, F2.keep, .none, vs2, n2, (N2 _ (.head _)).1, hat2⟩
  · obtain rfl : di = 1 := hdi
    (repeat ((fail_if_success (with_reducible show wpAny _ _ (call (Value.ref _) _ _) _ _ _)); (first | walk1 | (dsimp only; walk1))))
    refine use_retM (P := fun v => v = .none) (pre := []) (post := []) F1 N1 (fun p hp => nomatch hp) B O.hz (O.hps.keeps F1.keep) (fun g' hg O' => set_spec (Room.less (R.deeper _) (by decide)) (X.keeps hg) (T.keeps hg) O' hpl x t hxl hxc hxn y u hyv) ?_
    intro v2 h2 tk2 vs2 n2 e2 hat2 hb2 F2 N2
    clear F1 N1
    simp only [List.nil_append] at N2
    (repeat ((fail_if_success (with_reducible show wpAny _ _ (call (Value.ref _) _ _) _ _ _)); (first | walk1 | (dsimp only; walk1))))
    refine hQ _ _ ?_
    exact ⟨_, _, g, rfl, .refl, F2.keep, .none, vs2, n2, (N2 _ (.head _)).1, hat2⟩
  · obtain rfl : di = 2 := hdi
    (repeat ((fail_if_success (with_reducible show wpAny _ _ (call (Value.ref _) _ _) _ _ _)); (first | walk1 | (dsimp only; walk1))))
    refine use_retM (P := fun v => ∃ t, v = .str ((getOf ps x).getD y) t) (ps' := deedPs 2 ps x y v) (pre := []) (post := []) F1 N1 (fun p hp => nomatch hp) B O.hz (O.hps.keeps F1.keep) (fun g' hg O' => wpAny_mono (setd_spec (Room.less (R.deeper _) (by decide)) (X.keeps hg) (T.keeps hg) O' hpl x t hxl hxc hxn y u hyv) (fun v' s' h => ?_) fun _ _ e => e) ?_
    · obtain ⟨h', tk', e1, e2, e3⟩ := h
      refine ⟨h', tk', e1, e2, ?_⟩
      unfold SetD at e3
      unfold deedPs
      dsimp only
      split at e3
      · rename_i z hz; rw [hz]; exact e3
      · rename_i hz; rw [hz]; exact e3
    rintro v2 h2 tk2 vs2 n2 ⟨t2, rfl⟩ hat2 hb2 F2 N2
    clear F1 N1
    simp only [List.nil_append] at N2
    (repeat ((fail_if_success (with_reducible show wpAny _ _ (call (Value.ref _) _ _) _ _ _)); (first | walk1 | (dsimp only; walk1))))
    refine hQ _ _ ?_
    exact ⟨_, _, g, rfl, .refl, F2.keep, .str, vs2, n2, (N2 _ (.head _)).1, hat2⟩
  · obtain rfl : di = 3 := hdi
    (repeat ((fail_if_success (with_reducible show wpAny _ _ (call (Value.ref _) _ _) _ _ _)); (first | walk1 | (dsimp only; walk1))))
    refine del_own F1 X (Tbl.at B F1) (by k_is) (by k_is) (by k_is) ?_
    refine use_retM (P := fun v => v = .none) (pre := []) (post := []) F1 N1 (fun p hp => nomatch hp) B O.hz (O.hps.keeps F1.keep) (fun g' hg O' => del_spec (Room.less (R.deeper _) (by decide)) (X.keeps hg) (T.keeps hg) O' hpl x t hxl hxc) ?_
    intro v2 h2 tk2 vs2 n2 e2 hat2 hb2 F2 N2
    clear F1 N1
    simp only [List.nil_append] at N2
    (repeat ((fail_if_success (with_reducible show wpAny _ _ (call (Value.ref _) _ _) _ _ _)); (first | walk1 | (dsimp only; walk1))))
    refine hQ _ _ ?_
    exact ⟨_, _, g, rfl, .refl, F2.keep, .none, vs2, n2, (N2 _ (.head _)).1, hat2⟩
  · obtain rfl : di = 4 := hdi
    (repeat ((fail_if_success (with_reducible show wpAny _ _ (call (Value.ref _) _ _) _ _ _)); (first | walk1 | (dsimp only; walk1))))
    show wpAny _ _ (call (Value.ref 172) [Value.ref tb, Value.str x t, Value.str y u] [(PySem.Str.ofString "last_mode", Value.str v tv), (PySem.Str.ofString "one", Value.none)]) _ _ _
    refine use_retM (P := fun v => v = .none) (pre := []) (post := []) F1 N1 (fun p hp => nomatch hp) B O.hz (O.hps.keeps F1.keep) (fun g' hg O' => add2_spec (Room.less (R.deeper _) (by decide)) (X.keeps hg) (T.keeps hg) O' x t hxn y u hyl hyv v tv hv hv0 hvv ho1 ho2) ?_
    intro v2 h2 tk2 vs2 n2 e2 hat2 hb2 F2 N2
    clear F1 N1
    simp only [List.nil_append] at N2
    (repeat ((fail_if_success (with_reducible show wpAny _ _ (call (Value.ref _) _ _) _ _ _)); (first | walk1 | (dsimp only; walk1))))
    refine hQ _ _ ?_
    exact ⟨_, _, g, rfl, .refl, F2.keep, .none, vs2, n2, (N2 _ (.head _)).1, hat2⟩
  · obtain rfl : di = 5 := hdi
    (repeat ((fail_if_success (with_reducible show wpAny _ _ (call (Value.ref _) _ _) _ _ _)); (first | walk1 | (dsimp only; walk1))))
    obtain ⟨g', F', hst, hsz, honly⟩ := only_ground F1
    have hlg : g'.get? hl = none := by
      cases q : g'.get? hl with
      | none => rfl
      | some o =>
        rcases honly _ _ q with e | e
        · exact absurd e (N1 _ (.head _)).2.1
        · rw [O.gone] at e; cases e
    have O' : Own w g' h₁ tb dx hl tk₀ vs n ps := ⟨hst, hsz, hlg, B.keeps F'.keep, (N1 _ (.head _)).1, O.hz, O.hps.keeps F'.keep⟩
    dsimp only
    refine wpAny_mono (set_raise (base := base) (outer := _ :: outer) (s := ⟨h₁, _, _, _, _⟩) (Room.less (R.deeper _) (by decide)) (X.keeps F'.keep) (T.keeps F'.keep) (K.push F') (dicts_push F' D) O' hpl x t hxl hxc hxn _ _ (bad_nl y) (by rw [size_nl]; exact Nat.le_trans (Nat.succ_le_succ hyl) (by decide))) (fun _ _ h => h.elim) ?_
    rintro _ s' ⟨vs', n', nt, hcar, ea, h5, tk5, rfl, rfl, hR, hU⟩
    dsimp only
    refine caught_SN0 (T' := "ValueError") hR F' K hU XB TB D .refl (by k_is) PyProof.Rows.Boot.«ValueError» (by decide) PySem.F.isExc_ValueError PySem.F.notTuple_ValueError (by rw [isSubtype_type]; kernel_rfl) ?_
    intro h6 g6 T6 F6 N6 K6 X6 P6 D6
    have hnow := now_caught (carry_ground F'.ns honly hcar) D T6 F6 N6
    clear F1 N1 F' K D X T O O' B hR hU hst hsz hlg honly
    (repeat ((fail_if_success (with_reducible show wpAny _ _ (call (Value.ref _) _ _) _ _ _)); (first | walk1 | (dsimp only; walk1))))
    refine hQ _ _ ?_
    exact ⟨_, _, g6, rfl, T6, F6.keep, .str, hnow⟩
  · obtain rfl : di = 6 := hdi
    (repeat ((fail_if_success (with_reducible show wpAny _ _ (call (Value.ref _) _ _) _ _ _)); (first | walk1 | (dsimp only; walk1))))
    obtain ⟨g', F', hst, hsz, honly⟩ := only_ground F1
    have hlg : g'.get? hl = none := by
      cases q : g'.get? hl with
      | none => rfl
      | some o =>
        rcases honly _ _ q with e | e
        · exact absurd e (N1 _ (.head _)).2.1
        · rw [O.gone] at e; cases e
    have O' : Own w g' h₁ tb dx hl tk₀ vs n ps := ⟨hst, hsz, hlg, B.keeps F'.keep, (N1 _ (.head _)).1, O.hz, O.hps.keeps F'.keep⟩
    refine wpAny_mono (setd_raise (base := base) (outer := _ :: outer) (s := ⟨h₁, _, _, _, _⟩) (Room.less (R.deeper _) (by decide)) (X.keeps F'.keep) (T.keeps F'.keep) (K.push F') (dicts_push F' D) O' hpl x t hxl hxc hxn _ _ (bad_nl y) (by rw [size_nl]; exact Nat.le_trans (Nat.succ_le_succ hyl) (by decide))) ?_ ?_
    · rintro v' s' ⟨z, hz, h5, tk5, rfl, k5, ⟨t5, rfl⟩, vs5, n5, hl5, hat5⟩
      dsimp only
      refine hQ _ _ ?_
      refine ⟨_, _, g, rfl, .refl, fun b o e => k5 b o (F'.keep b o e), ?_, vs5, n5, hl5, hat5⟩
      unfold deedV
      rw [hz]
      exact .str
    · rintro _ s' ⟨hz, vs', n', nt, hcar, ea, h5, tk5, rfl, rfl, hR, hU⟩
      dsimp only
      refine caught_SN0 (T' := "ValueError") hR F' K hU XB TB D .refl (by k_is) PyProof.Rows.Boot.«ValueError» (by decide) PySem.F.isExc_ValueError PySem.F.notTuple_ValueError (by rw [isSubtype_type]; kernel_rfl) ?_
      intro h6 g6 T6 F6 N6 K6 X6 P6 D6
      have hnow := now_caught (carry_ground F'.ns honly hcar) D T6 F6 N6
      clear F1 N1 F' K D X T O O' B hR hU hst hsz hlg honly
      (repeat ((fail_if_success (with_reducible show wpAny _ _ (call (Value.ref _) _ _) _ _ _)); (first | walk1 | (dsimp only; walk1))))
      refine hQ _ _ ?_
      refine ⟨_, _, g6, rfl, T6, F6.keep, ?_, hnow⟩
      unfold deedV
      rw [hz]
      exact .str
end
end Mine
end
section
namespace Mine
def sameOf (rs : List Ent) (e : Ent) : List Ent := rs.filter fun o => decide (o.1 = e.1)
def othersOf (rs : List Ent) (e : Ent) : List Ent := rs.filter fun o => decide (o.1 ≠ e.1)
def dueRs (d : Nat) (rs : List Ent) (e : Ent) (v : PySem.Str) : List Ent := match d with
  | 0 => rs ++ [e]
  | 1 => othersOf rs e ++ [e]
  | 2 => match sameOf rs e with | [] => rs ++ [e] | _ => rs
  | 3 => othersOf rs e
  | 4 => rs ++ [(e.1, e.2.1, e.2.2 ++ PySem.Str.ofString "; last-mode=\"" ++ v ++ PySem.Str.ofString "\"; one")]
  | 5 => othersOf rs e
  | _ => rs
def dueV (d : Nat) (rs : List Ent) (e : Ent) : PyData := match d with
  | 0 => .none
  | 1 => .none
  | 2 => match sameOf rs e with | [] => .str e.2.2 | o :: _ => .str o.2.2
  | 3 => .none
  | 4 => .none
  | 5 => .str (PySem.Str.ofString "refused")
  | _ => match sameOf rs e with | [] => .str (PySem.Str.ofString "refused") | o :: _ => .str o.2.2
def dueG (d : Nat) (rs : List Ent) (e : Ent) : List Ent := match d with
  | 1 => sameOf rs e
  | 3 => sameOf rs e
  | 5 => sameOf rs e
  | _ => []
def DueP (s : Shared) (l : Addr) (d : Nat) (rs : List Ent) (e : Ent) (v : PySem.Str) (r : Value) (h' : Heap) : Prop :=
  ∃ T D G x, r = .ref T ∧ h'.IsTuple T #[.ref D, x, .ref G] ∧ At h' (.ref D) (.list ((dueRs d rs e v).map tripD)) ∧ At h' x (dueV d rs e) ∧ At h' (.ref G) (.list ((dueG d rs e).map tripD)) ∧ (D = l ∨ s.heap.get? D = none) ∧ s.heap.get? G = none
theorem dueP_mk {s : Shared} {l T D G : Addr} {x : Value} {d : Nat} {rs : List Ent} {e : Ent} {v : PySem.Str} {h' : Heap} (ht : h'.IsTuple T #[.ref D, x, .ref G]) (hf : D = l ∨ s.heap.get? D = none) (hg : s.heap.get? G = none)
    (r : AtAll h' [.ref D, x, .ref G] [.list ((dueRs d rs e v).map tripD), dueV d rs e, .list ((dueG d rs e).map tripD)]) : DueP s l d rs e v (.ref T) h' := by
  obtain ⟨_, _, e0, r1, q1⟩ := r.inv
  cases e0
  obtain ⟨_, _, e0, r2, q2⟩ := q1.inv
  cases e0
  obtain ⟨_, _, e0, r3, q3⟩ := q2.inv
  cases e0
  exact ⟨T, D, G, x, rfl, ht, r1, r2, r3, hf, hg⟩
theorem dueRs2_nil {rs : List Ent} {e : Ent} {v : PySem.Str} (h : sameOf rs e = []) : dueRs 2 rs e v = rs ++ [e] := by simp [dueRs, h]
theorem dueRs2_cons {rs os : List Ent} {e o : Ent} {v : PySem.Str} (h : sameOf rs e = o :: os) : dueRs 2 rs e v = rs := by simp [dueRs, h]
theorem dueV2_nil {rs : List Ent} {e : Ent} (h : sameOf rs e = []) : dueV 2 rs e = .str e.2.2 := by simp [dueV, h]
theorem dueV2_cons {rs os : List Ent} {e o : Ent} (h : sameOf rs e = o :: os) : dueV 2 rs e = .str o.2.2 := by simp [dueV, h]
theorem dueV6_nil {rs : List Ent} {e : Ent} (h : sameOf rs e = []) : dueV 6 rs e = .str (PySem.Str.ofString "refused") := by simp [dueV, h]
theorem dueV6_cons {rs os : List Ent} {e o : Ent} (h : sameOf rs e = o :: os) : dueV 6 rs e = .str o.2.2 := by simp [dueV, h]
theorem int_beq (a b : Int) : (a == b) = decide (a = b) := by rw [Bool.eq_iff_iff]; simp
theorem int_bne (a b : Int) : (a != b) = decide (a ≠ b) := by rw [Bool.eq_iff_iff]; simp
theorem comp_after {h₀ H h' : Heap} {L D : Addr} {m m' : PySem.Str → Option Value} {o : Obj} {news : List (Addr × Obj)} (F : Fr h₀ L H m) (N : News h₀ L H news) (hD : H.get? D = none) (hDl : h'.get? D = some o) (hn : h'.Ns L m') (hk : ∀ b o, b ≠ L → H.get? b = some o → h'.get? b = some o) :
    Fr h₀ L h' m' ∧ News h₀ L h' ((D, o) :: news) := by
  have hL := kts_self F
  refine ⟨⟨hn, fun b o e => hk b o (by rintro rfl; rw [hL] at e; cases e) (F.keep b o e), F.above⟩, fun p hp => ?_⟩
  rcases List.mem_cons.mp hp with rfl | hp
  · refine ⟨hDl, ?_, ?_⟩
    · rintro rfl
      obtain ⟨oL, _, _, hoL, _⟩ := F.ns
      rw [hD] at hoL
      cases hoL
    · show h₀.get? D = none
      cases q : h₀.get? D with
      | none => rfl
      | some o => rw [F.keep _ _ q] at hD; cases hD
  · exact ⟨hk _ _ (N p hp).2.1 (N p hp).1, (N p hp).2⟩
theorem ent_at {h : Heap} {ae : Addr} {e : Ent} {t0 t1 t2 : Tok} (hae : h.IsTuple ae #[.int e.1 t0, .str e.2.1 t1, .str e.2.2 t2]) : At h (.ref ae) (tripD e) := At.tuple (vs := [_, _, _]) hae (.cons .int (.cons .str (.cons .str .nil)))
theorem trips_get {h : Heap} {rs : List Ent} {vs : List Value} {v : Value} (r : AtAll h vs (rs.map tripD)) (hv : v ∈ vs) : ∃ p, p ∈ rs ∧ At h v (tripD p) := by
  obtain ⟨i, hi⟩ := List.getElem?_of_mem hv
  obtain ⟨d', h1, h2⟩ := r.get hi
  rw [List.getElem?_map] at h1
  obtain ⟨p, hp, rfl⟩ := Option.map_eq_some_iff.mp h1
  exact ⟨p, List.mem_of_getElem? hp, h2⟩
theorem trips_back {h h' : Heap} {rs : List Ent} {vs : List Value} (k : h.StaysIn h') (r : AtAll h vs (rs.map tripD)) : ∀ {qs : List Ent} {ys : List Value}, (∀ y ∈ ys, y ∈ vs) → AtAll h' ys (qs.map tripD) → AtAll h ys (qs.map tripD)
  | [], _, _, q => by rw [q.inv_nil]; exact .nil
  | e :: qs, _, hy, q => by
    obtain ⟨v, vs', rfl, r1, r2⟩ := q.inv
    refine .cons ?_ (trips_back k r (fun y hm => hy y (.tail _ hm)) r2)
    obtain ⟨p, _, hp⟩ := trips_get r (hy v (.head _))
    obtain ⟨a, s0, t0, u0, rfl, o, ho, hc, n, hd⟩ := hp.trip
    obtain ⟨a', s1, t1, u1, e1, o', ho', hc', n', hd'⟩ := r1.trip
    cases e1
    rw [k _ _ ho] at ho'
    cases ho'
    rw [hd] at hd'
    exact At.tuple (vs := [_, _, _]) ⟨o, ho, hc, n', hd.trans hd'⟩ (.cons .int (.cons .str (.cons .str .nil)))
section
variable {w : World} {A : Around} {s : Shared} {mean : ExcName → Option Value} {mg mb : PySem.Str → Option Value}
set_option maxRecDepth 100000 in
set_option maxHeartbeats 8000000 in
theorem due_spec (R : Room A 3) (X : (hd.heap_1 w.params).In s.heap) (T : TT mean mg mb s.heap) (rs : List Ent) (l : Addr) (vs : List Value) (hl : s.heap.IsList l vs.toArray) (hvs : AtAll s.heap vs (rs.map tripD)) (hz : vs.length ≤ 900)
    (e : Ent) (ae : Addr) (t0 t1 t2 : Tok) (hae : s.heap.IsTuple ae #[.int e.1 t0, .str e.2.1 t1, .str e.2.2 t2]) (hel : e.2.2.length ≤ 1000) (hok : ∀ p ∈ rs, SOk p.2.1 ∧ SOk p.2.2) (v : PySem.Str) (tv : Tok) (hvl : v.length ≤ 1000) (d : Nat) (di : Int) (td : Tok) (hdi : di = d) (hdl : d < 7) :
    wpAny (model PG w) A (call (.ref 266) [.ref l, .int di td, .ref ae, .str v tv]) (Ret s fun r h' => DueP s l d rs e v r h') NoE s := by
  obtain ⟨f1, f2, f3, f4⟩ := A
  have hh := R.handled
  dsimp only at hh
  subst hh
  have hun := R.units
  dsimp only at hun
  refine abs_post fun Q hQ => ?_
  refine call_pureC [(PySem.Str.ofString "rows", .ref l), (PySem.Str.ofString "deed", .int di td), (PySem.Str.ofString "entry", .ref ae), (PySem.Str.ofString "last", .str v tv)] R X T.nolimit (by k_is) (by k_is) (BindsTo.of_eq rfl) (kindsX rfl) (by decide +kernel) ?_
  intro L h₁ tk0 cells F N Y
  k_cells Y
  have hci : h₁.IsCell (L + 1) (some (Value.ref ae)) := ⟨_, (N _ (.head _)).1, by assumption⟩
  iterate 1 (first | (dsimp only; walk1) | walk1)
  refine comp_assignV (cl := [(PySem.Str.ofString "entry", L + 1)]) tripD (fun o => decide (o.1 = e.1)) tripD (fun v => v ∈ vs) rfl rfl rfl (by decide) rfl (by decide) rfl rfl ?_
  iterate 1 (first | (dsimp only; walk1) | walk1)
  refine ⟨l, vs, rs, _, rfl, hl.at fun o e => F.keep _ _ e, hvs.keeps F.keep, Nat.le_trans hz (by decide), F.ns, fun _ _ => rfl, named_owned, ?_, ?_⟩
  · intro C v1 p h tk m led hv1 hp hat FC NC
    change Fr _ C h m at FC
    change News _ C h led at NC
    obtain ⟨a, s1, t1, u1, rfl, htup⟩ := hat.trip
    refine asgC FC NC fun h3 F3 N3 => ?_
    refine wpAny_tests_one (wpAny_isTrue_Compare1 (Subscript_ (ldC F3 rfl (wpAny_Constant_int (tupItem (htup.at fun o e => F3.keep _ _ e) (by decide) (by decide) (j := 0) rfl rfl ?_)))))
    refine Subscript_ (ldCell F3 hci (wpAny_Constant_int (tupItem (hae.at fun o e => F3.keep _ _ (F.keep _ _ e)) (by decide) (by decide) (j := 0) rfl rfl ?_)))
    refine eq_int (wpAny_truthy_bool ?_)
    refine ⟨int_beq _ _, ?_, ?_⟩
    · intro _
      refine ldC F3 rfl ?_
      exact ⟨_, _, _, [], rfl, F3, N3, (fun p hp => nomatch hp), (fun h k _ => .cons (hat.keeps k) .nil), hv1⟩
    · intro _
      exact ⟨_, _, _, rfl, F3, N3⟩
  intro D2 h2 tk2 ys2 n2 hV2 hD2 hDl2 hat2 hn2 hk2
  dsimp only
  obtain ⟨F2, N2⟩ := comp_after F N hD2 hDl2 hn2 hk2
  have hs2 : AtAll s.heap ys2 ((sameOf rs e).map tripD) := trips_back F2.keep hvs hV2 hat2
  clear F N hat2 hn2
  have hci : h2.IsCell (L + 1) (some (Value.ref ae)) := ⟨_, (N2 _ (.tail _ (.head _))).1, by assumption⟩
  iterate 1 (first | (dsimp only; walk1) | walk1)
  refine comp_assignV (cl := [(PySem.Str.ofString "entry", L + 1)]) tripD (fun o => decide (o.1 ≠ e.1)) tripD (fun v => v ∈ vs) rfl rfl rfl (by decide) rfl (by decide) rfl rfl ?_
  iterate 1 (first | (dsimp only; walk1) | walk1)
  refine ⟨l, vs, rs, _, rfl, hl.at fun o e => F2.keep _ _ e, hvs.keeps F2.keep, Nat.le_trans hz (by decide), F2.ns, fun _ _ => rfl, named_owned, ?_, ?_⟩
  · intro C v1 p h tk m led hv1 hp hat FC NC
    change Fr _ C h m at FC
    change News _ C h led at NC
    obtain ⟨a, s1, t1, u1, rfl, htup⟩ := hat.trip
    refine asgC FC NC fun h3 F3 N3 => ?_
    refine wpAny_tests_one (wpAny_isTrue_Compare1 (Subscript_ (ldC F3 rfl (wpAny_Constant_int (tupItem (htup.at fun o e => F3.keep _ _ e) (by decide) (by decide) (j := 0) rfl rfl ?_)))))
    refine Subscript_ (ldCell F3 hci (wpAny_Constant_int (tupItem (hae.at fun o e => F3.keep _ _ (F2.keep _ _ e)) (by decide) (by decide) (j := 0) rfl rfl ?_)))
    refine ne_int (wpAny_truthy_bool ?_)
    refine ⟨int_bne _ _, ?_, ?_⟩
    · intro _
      refine ldC F3 rfl ?_
      exact ⟨_, _, _, [], rfl, F3, N3, (fun p hp => nomatch hp), (fun h k _ => .cons (hat.keeps k) .nil), hv1⟩
    · intro _
      exact ⟨_, _, _, rfl, F3, N3⟩
  intro D3 h3 tk3 ys3 n3 hV3 hD3 hDl3 hat3 hn3 hk3
  dsimp only
  obtain ⟨F3, N3⟩ := comp_after F2 N2 hD3 hDl3 hn3 hk3
  have hs3 : AtAll s.heap ys3 ((othersOf rs e).map tripD) := trips_back F3.keep hvs hV3 hat3
  clear F2 N2 hat3 hn3
  have hdd : d = 0 ∨ d = 1 ∨ d = 2 ∨ d = 3 ∨ d = 4 ∨ d = 5 ∨ d = 6 := by omega
  clear hdl
  rcases hdd with rfl | rfl | rfl | rfl | rfl | rfl | rfl
  · obtain rfl : di = 0 := hdi
    (repeat (first | ((with_reducible show wpAny _ _ (exec _ _) _ _ _); refine abs_post fun Q' hQ' => ?_; walk1) | (dsimp only; walk1) | walk1 | (refine hQ' _ _ ?_; clear hQ')))
    rename Fr _ _ _ _ => F4
    rename News _ _ _ _ => N4
    refine hQ _ _ ?_
    refine ⟨_, _, rfl, F4.keep, dueP_mk ⟨_, (N4 _ (.head _)).1, rfl, _, rfl⟩ (.inr (N4 _ (.tail _ (.tail _ (.head _)))).2.2) (by first | exact (N4 _ (.tail _ (.head _))).2.2 | exact (N4 _ (.tail _ (.tail _ (.head _)))).2.2 | exact (N4 _ (.tail _ (.tail _ (.tail _ (.head _))))).2.2 | exact (N4 _ (.tail _ (.tail _ (.tail _ (.tail _ (.head _)))))).2.2) (.cons (At.list ⟨_, (N4 _ (.tail _ (.tail _ (.head _)))).1, rfl, _, rfl⟩ ?_) (.cons .none (.cons (At.list (vs := []) ⟨_, (N4 _ (.tail _ (.head _))).1, rfl, _, rfl⟩ .nil) .nil)))⟩
    rw [show dueRs 0 rs e v = rs ++ [e] from rfl, List.map_append]
    exact AtAll.append (hvs.keeps F4.keep) (.cons ((ent_at hae).keeps F4.keep) .nil)
  · obtain rfl : di = 1 := hdi
    (repeat (first | ((with_reducible show wpAny _ _ (exec _ _) _ _ _); refine abs_post fun Q' hQ' => ?_; walk1) | (dsimp only; walk1) | walk1 | (refine hQ' _ _ ?_; clear hQ')))
    rename Fr _ _ _ _ => F4
    rename News _ _ _ _ => N4
    refine add_lists F4 N4 (vs := ys3) (ws := [.ref ae]) ⟨_, (N4 _ (.tail _ (.head _))).1, rfl, _, rfl⟩ ⟨_, (N4 _ (.head _)).1, rfl, _, rfl⟩ ?_ (by have h1 := hs3.length; have h2 := hvs.length; have h3 := List.length_filter_le (fun o : Ent => decide (o.1 ≠ e.1)) rs; simp only [List.length_map, othersOf] at h1 h2; simp only [List.length_cons, List.length_nil]; show _ ≤ 16777216; omega)
    intro h5 F5 N5
    clear F4 N4
    (repeat (first | ((with_reducible show wpAny _ _ (exec _ _) _ _ _); refine abs_post fun Q' hQ' => ?_; walk1) | (dsimp only; walk1) | walk1 | (refine hQ' _ _ ?_; clear hQ')))
    rename Fr _ _ _ _ => F4
    rename News _ _ _ _ => N4
    refine hQ _ _ ?_
    refine ⟨_, _, rfl, F4.keep, dueP_mk ⟨_, (N4 _ (.head _)).1, rfl, _, rfl⟩ (.inr (N4 _ (.tail _ (.head _))).2.2) (by first | exact (N4 _ (.tail _ (.head _))).2.2 | exact (N4 _ (.tail _ (.tail _ (.head _)))).2.2 | exact (N4 _ (.tail _ (.tail _ (.tail _ (.head _))))).2.2 | exact (N4 _ (.tail _ (.tail _ (.tail _ (.tail _ (.head _)))))).2.2) (.cons (At.list ⟨_, (N4 _ (.tail _ (.head _))).1, rfl, _, rfl⟩ ?_) (.cons .none (.cons (At.list ⟨_, (N4 _ (.tail _ (.tail _ (.tail _ (.tail _ (.head _)))))).1, rfl, _, rfl⟩ (hs2.keeps F4.keep)) .nil)))⟩
    rw [show dueRs 1 rs e v = othersOf rs e ++ [e] from rfl, List.map_append]
    exact AtAll.append (hs3.keeps F4.keep) (.cons ((ent_at hae).keeps F4.keep) .nil)
  · obtain rfl : di = 2 := hdi
    (repeat ((fail_if_success (with_reducible show wpAny _ _ (compareOp _ (Value.ref _) _) _ _ _)); (first | ((with_reducible show wpAny _ _ (exec _ _) _ _ _); refine abs_post fun Q' hQ' => ?_; walk1) | (dsimp only; walk1) | walk1 | (refine hQ' _ _ ?_; clear hQ'))))
    rename Fr _ _ _ _ => F4
    rename News _ _ _ _ => N4
    refine ne_at (At.list ⟨_, (N4 _ (.tail _ (.tail _ (.head _)))).1, rfl, _, rfl⟩ (hs2.keeps F4.keep)) (At.list (vs := []) ⟨_, (N4 _ (.head _)).1, rfl, _, rfl⟩ .nil) (.trips fun p hp => hok p (List.mem_filter.mp hp).1) (.list (n := 1) fun _ h => nomatch h) (by decide) (by decide) (by dsimp only [Around.deeper]; omega) ?_
    cases hq : sameOf rs e with
    | nil =>
      rw [hq] at hs2
      rw [show (!PyData.eqv (.list (List.map tripD [])) (.list [])) = false by simp [PyData.eqv, PyData.eqvAll]]
      (repeat (first | ((with_reducible show wpAny _ _ (exec _ _) _ _ _); refine abs_post fun Q' hQ' => ?_; walk1) | (dsimp only; walk1) | walk1 | (refine hQ' _ _ ?_; clear hQ')))
      rename Fr _ _ _ _ => F5
      rename News _ _ _ _ => N5
      refine hQ _ _ ?_
      refine ⟨_, _, rfl, F5.keep, dueP_mk ⟨_, (N5 _ (.head _)).1, rfl, _, rfl⟩ (.inr (N5 _ (.tail _ (.tail _ (.head _)))).2.2) (by first | exact (N5 _ (.tail _ (.head _))).2.2 | exact (N5 _ (.tail _ (.tail _ (.head _)))).2.2 | exact (N5 _ (.tail _ (.tail _ (.tail _ (.head _))))).2.2 | exact (N5 _ (.tail _ (.tail _ (.tail _ (.tail _ (.head _)))))).2.2) ?_⟩
      rw [dueRs2_nil hq, dueV2_nil hq, List.map_append]
      exact (.cons (At.list ⟨_, (N5 _ (.tail _ (.tail _ (.head _)))).1, rfl, _, rfl⟩ (AtAll.append (hvs.keeps F5.keep) (.cons ((ent_at hae).keeps F5.keep) .nil))) (.cons .str (.cons (At.list (vs := []) ⟨_, (N5 _ (.tail _ (.head _))).1, rfl, _, rfl⟩ .nil) .nil)))
    | cons o os =>
      rw [hq] at hs2
      rw [show (!PyData.eqv (.list (List.map tripD (o :: os))) (.list [])) = true by simp [PyData.eqv, PyData.eqvAll]]
      obtain ⟨v0, vs0, rfl, r0, rr⟩ := hs2.inv
      obtain ⟨a0, s0, p0, q0, rfl, htup⟩ := r0.trip
      (repeat (first | ((with_reducible show wpAny _ _ (exec _ _) _ _ _); refine abs_post fun Q' hQ' => ?_; walk1) | (dsimp only; walk1) | walk1 | (refine hQ' _ _ ?_; clear hQ')))
      rename Fr _ _ _ _ => F5
      rename News _ _ _ _ => N5
      refine hQ _ _ ?_
      refine ⟨_, _, rfl, F5.keep, dueP_mk ⟨_, (N5 _ (.head _)).1, rfl, _, rfl⟩ (.inl rfl) (by first | exact (N5 _ (.tail _ (.head _))).2.2 | exact (N5 _ (.tail _ (.tail _ (.head _)))).2.2 | exact (N5 _ (.tail _ (.tail _ (.tail _ (.head _))))).2.2 | exact (N5 _ (.tail _ (.tail _ (.tail _ (.tail _ (.head _)))))).2.2) ?_⟩
      rw [dueRs2_cons hq, dueV2_cons hq]
      exact (.cons (At.list (hl.at fun o e => F5.keep _ _ e) (hvs.keeps F5.keep)) (.cons .str (.cons (At.list (vs := []) ⟨_, (N5 _ (.tail _ (.head _))).1, rfl, _, rfl⟩ .nil) .nil)))
  · obtain rfl : di = 3 := hdi
    (repeat (first | ((with_reducible show wpAny _ _ (exec _ _) _ _ _); refine abs_post fun Q' hQ' => ?_; walk1) | (dsimp only; walk1) | walk1 | (refine hQ' _ _ ?_; clear hQ')))
    rename Fr _ _ _ _ => F4
    rename News _ _ _ _ => N4
    refine hQ _ _ ?_
    exact ⟨_, _, rfl, F4.keep, dueP_mk ⟨_, (N4 _ (.head _)).1, rfl, _, rfl⟩ (.inr (N4 _ (.tail _ (.head _))).2.2) (by first | exact (N4 _ (.tail _ (.head _))).2.2 | exact (N4 _ (.tail _ (.tail _ (.head _)))).2.2 | exact (N4 _ (.tail _ (.tail _ (.tail _ (.head _))))).2.2 | exact (N4 _ (.tail _ (.tail _ (.tail _ (.tail _ (.head _)))))).2.2) (.cons (At.list ⟨_, (N4 _ (.tail _ (.head _))).1, rfl, _, rfl⟩ (hs3.keeps F4.keep)) (.cons .none (.cons (At.list ⟨_, (N4 _ (.tail _ (.tail _ (.head _)))).1, rfl, _, rfl⟩ (hs2.keeps F4.keep)) .nil)))⟩
  · obtain rfl : di = 4 := hdi
    (repeat (first | ((with_reducible show wpAny _ _ (exec _ _) _ _ _); refine abs_post fun Q' hQ' => ?_; walk1) | (dsimp only; walk1) | walk1 | (refine hQ' _ _ ?_; clear hQ')))
    rename Fr _ _ _ _ => F4
    rename News _ _ _ _ => N4
    refine hQ _ _ ?_
    refine ⟨_, _, rfl, F4.keep, dueP_mk ⟨_, (N4 _ (.head _)).1, rfl, _, rfl⟩ (.inr (N4 _ (.tail _ (.tail _ (.head _)))).2.2) (by first | exact (N4 _ (.tail _ (.head _))).2.2 | exact (N4 _ (.tail _ (.tail _ (.head _)))).2.2 | exact (N4 _ (.tail _ (.tail _ (.tail _ (.head _))))).2.2 | exact (N4 _ (.tail _ (.tail _ (.tail _ (.tail _ (.head _)))))).2.2) (.cons (At.list ⟨_, (N4 _ (.tail _ (.tail _ (.head _)))).1, rfl, _, rfl⟩ ?_) (.cons .none (.cons (At.list (vs := []) ⟨_, (N4 _ (.tail _ (.head _))).1, rfl, _, rfl⟩ .nil) .nil)))⟩
    rw [show dueRs 4 rs e v = rs ++ [(e.1, e.2.1, e.2.2 ++ PySem.Str.ofString "; last-mode=\"" ++ v ++ PySem.Str.ofString "\"; one")] from rfl, List.map_append]
    exact AtAll.append (hvs.keeps F4.keep) (.cons (At.tuple (vs := [_, _, _]) ⟨_, (N4 _ (.tail _ (.tail _ (.tail _ (.tail _ (.head _)))))).1, rfl, _, rfl⟩ (.cons .int (.cons .str (.cons .str .nil)))) .nil)
  · obtain rfl : di = 5 := hdi
    (repeat (first | ((with_reducible show wpAny _ _ (exec _ _) _ _ _); refine abs_post fun Q' hQ' => ?_; walk1) | (dsimp only; walk1) | walk1 | (refine hQ' _ _ ?_; clear hQ')))
    rename Fr _ _ _ _ => F4
    rename News _ _ _ _ => N4
    refine hQ _ _ ?_
    exact ⟨_, _, rfl, F4.keep, dueP_mk ⟨_, (N4 _ (.head _)).1, rfl, _, rfl⟩ (.inr (N4 _ (.tail _ (.head _))).2.2) (by first | exact (N4 _ (.tail _ (.head _))).2.2 | exact (N4 _ (.tail _ (.tail _ (.head _)))).2.2 | exact (N4 _ (.tail _ (.tail _ (.tail _ (.head _))))).2.2 | exact (N4 _ (.tail _ (.tail _ (.tail _ (.tail _ (.head _)))))).2.2) (.cons (At.list ⟨_, (N4 _ (.tail _ (.head _))).1, rfl, _, rfl⟩ (hs3.keeps F4.keep)) (.cons .str (.cons (At.list ⟨_, (N4 _ (.tail _ (.tail _ (.head _)))).1, rfl, _, rfl⟩ (hs2.keeps F4.keep)) .nil)))⟩
  · obtain rfl : di = 6 := hdi
    (repeat ((fail_if_success (with_reducible show wpAny _ _ (compareOp _ (Value.ref _) _) _ _ _)); (first | ((with_reducible show wpAny _ _ (exec _ _) _ _ _); refine abs_post fun Q' hQ' => ?_; walk1) | (dsimp only; walk1) | walk1 | (refine hQ' _ _ ?_; clear hQ'))))
    rename Fr _ _ _ _ => F4
    rename News _ _ _ _ => N4
    refine ne_at (At.list ⟨_, (N4 _ (.tail _ (.tail _ (.head _)))).1, rfl, _, rfl⟩ (hs2.keeps F4.keep)) (At.list (vs := []) ⟨_, (N4 _ (.head _)).1, rfl, _, rfl⟩ .nil) (.trips fun p hp => hok p (List.mem_filter.mp hp).1) (.list (n := 1) fun _ h => nomatch h) (by decide) (by decide) (by dsimp only [Around.deeper]; omega) ?_
    cases hq : sameOf rs e with
    | nil =>
      rw [hq] at hs2
      rw [show (!PyData.eqv (.list (List.map tripD [])) (.list [])) = false by simp [PyData.eqv, PyData.eqvAll]]
      (repeat (first | ((with_reducible show wpAny _ _ (exec _ _) _ _ _); refine abs_post fun Q' hQ' => ?_; walk1) | (dsimp only; walk1) | walk1 | (refine hQ' _ _ ?_; clear hQ')))
      rename Fr _ _ _ _ => F5
      rename News _ _ _ _ => N5
      refine hQ _ _ ?_
      refine ⟨_, _, rfl, F5.keep, dueP_mk ⟨_, (N5 _ (.head _)).1, rfl, _, rfl⟩ (.inl rfl) (by first | exact (N5 _ (.tail _ (.head _))).2.2 | exact (N5 _ (.tail _ (.tail _ (.head _)))).2.2 | exact (N5 _ (.tail _ (.tail _ (.tail _ (.head _))))).2.2 | exact (N5 _ (.tail _ (.tail _ (.tail _ (.tail _ (.head _)))))).2.2) ?_⟩
      rw [dueV6_nil hq]
      exact (.cons (At.list (hl.at fun o e => F5.keep _ _ e) (hvs.keeps F5.keep)) (.cons .str (.cons (At.list (vs := []) ⟨_, (N5 _ (.tail _ (.head _))).1, rfl, _, rfl⟩ .nil) .nil)))
    | cons o os =>
      rw [hq] at hs2
      rw [show (!PyData.eqv (.list (List.map tripD (o :: os))) (.list [])) = true by simp [PyData.eqv, PyData.eqvAll]]
      obtain ⟨v0, vs0, rfl, r0, rr⟩ := hs2.inv
      obtain ⟨a0, s0, p0, q0, rfl, htup⟩ := r0.trip
      (repeat (first | ((with_reducible show wpAny _ _ (exec _ _) _ _ _); refine abs_post fun Q' hQ' => ?_; walk1) | (dsimp only; walk1) | walk1 | (refine hQ' _ _ ?_; clear hQ')))
      rename Fr _ _ _ _ => F5
      rename News _ _ _ _ => N5
      refine hQ _ _ ?_
      refine ⟨_, _, rfl, F5.keep, dueP_mk ⟨_, (N5 _ (.head _)).1, rfl, _, rfl⟩ (.inl rfl) (by first | exact (N5 _ (.tail _ (.head _))).2.2 | exact (N5 _ (.tail _ (.tail _ (.head _)))).2.2 | exact (N5 _ (.tail _ (.tail _ (.tail _ (.head _))))).2.2 | exact (N5 _ (.tail _ (.tail _ (.tail _ (.tail _ (.head _)))))).2.2) ?_⟩
      rw [show dueRs 6 rs e v = rs from rfl, dueV6_cons hq]
      exact (.cons (At.list (hl.at fun o e => F5.keep _ _ e) (hvs.keeps F5.keep)) (.cons .str (.cons (At.list (vs := []) ⟨_, (N5 _ (.tail _ (.head _))).1, rfl, _, rfl⟩ .nil) .nil)))
end
end Mine
end
section
namespace Mine
local macro_rules | `(tactic| k_inst) => `(tactic| exact Tbl.at (by assumption) (by k_asm))
local macro_rules | `(tactic| walk_at "call ref") => `(tactic| (
  (show wpAny _ _ (call (Value.ref 76) [Value.ref _, Value.str _ _] [(PySem.Str.ofString "name", Value.bool true)]) _ _ _);
  refine' use_ret (convN_spec ?R ?X ?T _ _ _ ?C) ?F ?N ?_;
  (case F => k_asm); (case N => k_asm); (case X => exact Frag.In.keeps (by k_asm) (Fr.keep (by k_asm)));
  (case T => exact Top.keeps (by k_asm) (Fr.keep (by k_asm)));
  (case R => exact Room.less (Room.deeper (by assumption) _) (by decide));
  (case C => assumption);
  intro v' h' tk' e' hk' F' N'; subst e'; (try k_sweep)))
section
variable {w : World} {A : Around} {s : Shared} {mean : ExcName → Option Value} {mg mb : PySem.Str → Option Value} {tb dx hl : Addr} {tk₀ : Tok}
set_option maxRecDepth 100000 in
set_option maxHeartbeats 8000000 in
theorem all_spec (R : Room A 5) (X : (hd.heap_1 w.params).In s.heap) (T : TT mean mg mb s.heap) (B : Tbl w s.heap tb dx hl tk₀) (vs : List Value) (hl' : s.heap.IsList hl vs.toArray) (hz : vs.length ≤ 1000) (ps : List (PySem.Str × PySem.Str)) (hps : AtAll s.heap vs (ps.map pairD)) (hpl : ∀ p ∈ ps, p.1.length ≤ 1000)
    (x : PySem.Str) (t : Tok) (hxl : x.length ≤ 1000) (hxc : Clean badN (Txt.lower x)) :
    wpAny (model PG w) A (call (.ref 114) [.ref tb, .str x t]) (Ret s fun v h' => At h' v (.list ((ps.filter fun p => decide (Txt.lower p.1 = Txt.lower x)).map fun p => .str p.2))) NoE s := by
  refine call_pureC [(PySem.Str.ofString "self", .ref tb), (PySem.Str.ofString "name", .str x t)] R X T.nolimit (by k_is) (by k_is) (BindsTo.of_eq rfl) (kindsX rfl) (by decide +kernel) ?_
  intro L h₁ tk0 cells F N Y
  k_cells Y
  have hh : A.handled = none := R.handled
  iterate 22 (first | walk1 | (dsimp only; walk1))
  rename Fr _ _ _ _ => F
  rename News _ _ _ _ => N
  rename _ = Data.cell _ => hcd
  have hci : Heap.IsCell _ (L + 1) (some (Value.str (Txt.lower x) tk0)) := ⟨_, (N _ (.head _)).1, hcd⟩
  refine comp_data (cl := [(PySem.Str.ofString "name", L + 1)]) pairD (fun p => decide (Txt.lower p.1 = Txt.lower x)) (fun p => .str p.2) hh rfl (by decide) rfl (by decide) ?_
  iterate 3 (first | walk1 | (dsimp only; walk1))
  refine ⟨hl, vs, ps, rfl, hl'.at fun o e => F.keep _ _ e, hps.keeps F.keep, hz, named_owned, ?_, ?_⟩
  · intro C v p h tk m led hp hat F2 N2
    change Fr _ C h m at F2
    change News _ C h led at N2
    obtain ⟨a, t1, u1, rfl, htup⟩ := hat.pair
    have hpl1 := hpl p hp
    refine asgC F2 N2 fun h3 F3 N3 => ?_
    clear F N F2 N2
    refine wpAny_tests_one (wpAny_isTrue_Compare1 (lowerCall (Subscript_ (ldC F3 rfl (wpAny_Constant_int (tupItem (htup.at fun o e => F3.keep _ _ e) (by decide) (by decide) (j := 0) rfl rfl ?_))))))
    refine ⟨p.1, t1, rfl, hpl1, ldCell F3 hci (eq_str (wpAny_truthy_bool ?_))⟩
    refine ⟨str_beq _ _, ?_, ?_⟩
    · intro _
      refine Subscript_ (ldC F3 rfl (wpAny_Constant_int (tupItem (htup.at fun o e => F3.keep _ _ e) (by decide) (by decide) (j := 1) rfl rfl ?_)))
      exact ⟨_, _, _, [], rfl, F3, N3, (fun p hp => nomatch hp), fun h _ _ => .cons .str .nil⟩
    · intro _
      exact ⟨_, _, _, rfl, F3, N3⟩
  · intro D h' tk' ys n hD hDl hat hk
    refine ⟨_, _, rfl, fun b o e => hk b o (F.keep b o e), At.list ⟨_, hDl, rfl, n, rfl⟩ hat⟩
end
end Mine
end
section
namespace Mine
local macro_rules | `(tactic| k_inst) => `(tactic| exact Tbl.at (by assumption) (by k_asm))
theorem fil_eq {x : PySem.Str} {k : Int} : ∀ {rs : List Ent}, (∀ e ∈ rs, (Txt.lower e.2.1 = Txt.lower x ↔ e.1 = k)) → ((rs.map prOf).filter fun p => decide (Txt.lower p.1 = Txt.lower x)).map (·.2) = (rs.filter fun o => decide (o.1 = k)).map (·.2.2)
  | [], _ => rfl
  | e :: rs, h => by
    have ih := fil_eq fun e' he => h e' (.tail _ he)
    have h1 := h e (.head _)
    rw [List.map_cons, List.filter_cons, List.filter_cons]
    by_cases hc : e.1 = k
    · rw [if_pos (by simpa using h1.mpr hc), if_pos (by simpa using hc), List.map_cons, List.map_cons, ih]
    · rw [if_neg (by simpa using fun q => hc (h1.mp q)), if_neg (by simpa using hc), ih]
theorem get_eq {x : PySem.Str} {k : Int} {rs : List Ent} (h : ∀ e ∈ rs, (Txt.lower e.2.1 = Txt.lower x ↔ e.1 = k)) : getOf (rs.map prOf) x = ((rs.filter fun o => decide (o.1 = k)).map (·.2.2)).head? := by
  rw [← fil_eq h, List.head?_map, List.head?_filter]
  rfl
section
variable {w : World} {A : Around} {s : Shared} {mean : ExcName → Option Value} {mg mb : PySem.Str → Option Value} {tb dx hl : Addr} {tk₀ : Tok}
set_option maxRecDepth 100000 in
set_option maxHeartbeats 8000000 in
theorem ans_spec (R : Room A 12) (X : (hd.heap_1 w.params).In s.heap) (T : TT mean mg mb s.heap) (B : Tbl w s.heap tb dx hl tk₀) (vs : List Value) (hl' : s.heap.IsList hl vs.toArray) (hz : vs.length ≤ 900) (rs : List Ent) (hps : AtAll s.heap vs ((rs.map prOf).map pairD)) (hpl : ∀ p ∈ rs, p.2.1.length ≤ 1000) (hok : ∀ p ∈ rs, SOk p.2.1 ∧ SOk p.2.2)
    (l : Addr) (us : List Value) (hl : s.heap.IsList l us.toArray) (hus : AtAll s.heap us (rs.map tripD))
    (x : PySem.Str) (t : Tok) (hxl : x.length ≤ 1000) (hxc : Clean badN (Txt.lower x)) (k : Int) (tk : Tok) (hk : ∀ e ∈ rs, (Txt.lower e.2.1 = Txt.lower x ↔ e.1 = k)) :
    wpAny (model PG w) A (call (.ref 276) [.ref tb, .ref l, .str x t, .int k tk]) (Ret s fun r _ => r = .bool true) NoE s := by
  obtain ⟨f1, f2, f3, f4, f5⟩ := A
  have hh := R.handled
  dsimp only at hh
  subst hh
  have hun := R.units
  dsimp only at hun
  refine abs_post fun Q hQ => ?_
  refine call_pureC [(PySem.Str.ofString "table", .ref tb), (PySem.Str.ofString "rows", .ref l), (PySem.Str.ofString "row", .str x t), (PySem.Str.ofString "rank", .int k tk)] R X T.nolimit (by k_is) (by k_is) (BindsTo.of_eq rfl) (kindsX rfl) (by decide +kernel) ?_
  intro L h₁ tk0 cells F N Y
  k_cells Y
  have hci : h₁.IsCell (L + 1) (some (Value.int k tk)) := ⟨_, (N _ (.head _)).1, by assumption⟩
  have hul : us.length = vs.length := by have h1 := hus.length; have h2 := hps.length; simp at h1 h2; omega
  iterate 1 (first | walk1 | (dsimp only; walk1))
  refine comp_assignV (cl := [(PySem.Str.ofString "rank", L + 1)]) tripD (fun o => decide (o.1 = k)) (fun o => .str o.2.2) (fun _ => True) rfl rfl rfl (by decide) rfl (by decide) rfl rfl ?_
  iterate 1 (first | walk1 | (dsimp only; walk1))
  refine ⟨l, us, rs, _, rfl, hl.at fun o e => F.keep _ _ e, hus.keeps F.keep, by omega, F.ns, fun _ _ => rfl, named_owned, ?_, ?_⟩
  · intro C v1 p h tk m led hv1 hp hat FC NC
    change Fr _ C h m at FC
    change News _ C h led at NC
    obtain ⟨a, s1, t1, u1, rfl, htup⟩ := hat.trip
    refine asgC FC NC fun h3 F3 N3 => ?_
    refine wpAny_tests_one (wpAny_isTrue_Compare1 (Subscript_ (ldC F3 rfl (wpAny_Constant_int (tupItem (htup.at fun o e => F3.keep _ _ e) (by decide) (by decide) (j := 0) rfl rfl ?_)))))
    refine ldCell F3 hci ?_
    refine eq_int (wpAny_truthy_bool ?_)
    refine ⟨int_beq _ _, ?_, ?_⟩
    · intro _
      refine Subscript_ (ldC F3 rfl (wpAny_Constant_int (tupItem (htup.at fun o e => F3.keep _ _ e) (by decide) (by decide) (j := 2) rfl rfl ?_)))
      exact ⟨_, _, _, [], rfl, F3, N3, (fun p hp => nomatch hp), (fun h k _ => .cons .str .nil), trivial⟩
    · intro _
      exact ⟨_, _, _, rfl, F3, N3⟩
  intro D2 h2 tk2 ys n2 _ hD2 hDl2 hat2 hn2 hk2
  dsimp only
  obtain ⟨F2, N2⟩ := comp_after F N hD2 hDl2 hn2 hk2
  clear F N hn2
  have hys : ∀ h' : Heap, AtAll h' ys (((rs.filter fun o => decide (o.1 = k)).map (·.2.2)).map .str) := fun h' => by
    refine strs_any (h := h2) ?_
    rw [List.map_map]
    exact hat2
  clear hat2
  have hfe := fil_eq hk
  have hge := get_eq hk
  generalize hms : (rs.filter fun o => decide (o.1 = k)).map (·.2.2) = ms at hys hfe hge
  have hmok : ∀ y ∈ ms, SOk y := fun y hy => by
    rw [← hms] at hy
    obtain ⟨e, he, rfl⟩ := List.mem_map.mp hy
    exact (hok e (List.mem_filter.mp he).1).2
  have hpl' : ∀ p ∈ rs.map prOf, p.1.length ≤ 1000 := fun p hp => by
    obtain ⟨e, he, rfl⟩ := List.mem_map.mp hp
    exact hpl e he
  (repeat ((fail_if_success (with_reducible show wpAny _ _ (call (Value.ref _) _ _) _ _ _)); (fail_if_success (with_reducible show wpAny _ _ (compareOp _ (Value.ref _) _) _ _ _)); (first | ((with_reducible show wpAny _ _ (exec _ _) _ _ _); refine abs_post fun Q' hQ' => ?_; walk1) | walk1 | (dsimp only; walk1) | (refine hQ' _ _ ?_; clear hQ'))))
  refine use_ret (s := { s with heap := h2, toks := tk2 }) (all_spec (s := { s with heap := h2, toks := tk2 }) (Room.less (R.deeper _) (by decide)) (X.keeps F2.keep) (T.keeps F2.keep) (B.keeps F2.keep) vs (hl'.at fun o e => F2.keep _ _ e) (by omega) (rs.map prOf) (hps.keeps F2.keep) hpl' x t hxl hxc) F2 N2 ?_
  intro v3 h3 tk3 hat3 hk3 F3 N3
  rw [show (((rs.map prOf).filter fun p => decide (Txt.lower p.1 = Txt.lower x)).map fun p => PyData.str p.2) = ms.map .str by rw [← hfe, List.map_map]; rfl] at hat3
  clear F2 N2
  obtain ⟨a3, ws3, rfl, hw3, hr3⟩ := hat3.list_inv
  (repeat ((fail_if_success (with_reducible show wpAny _ _ (call (Value.ref _) _ _) _ _ _)); (fail_if_success (with_reducible show wpAny _ _ (compareOp _ (Value.ref _) _) _ _ _)); (first | ((with_reducible show wpAny _ _ (exec _ _) _ _ _); refine abs_post fun Q' hQ' => ?_; walk1) | walk1 | (dsimp only; walk1) | (refine hQ' _ _ ?_; clear hQ'))))
  refine ne_at (At.list hw3 hr3) (At.list ⟨_, (N3 _ (.head _)).1, rfl, _, rfl⟩ (hys _)) (.strs hmok) (.strs hmok) (by decide) (by decide) (by dsimp only [Around.deeper]; omega) ?_
  rw [(Fine.strs (xs := ms) hmok).refl]
  (repeat ((fail_if_success (with_reducible show wpAny _ _ (call (Value.ref _) _ _) _ _ _)); (fail_if_success (with_reducible show wpAny _ _ (compareOp _ (Value.ref _) _) _ _ _)); (first | ((with_reducible show wpAny _ _ (exec _ _) _ _ _); refine abs_post fun Q' hQ' => ?_; walk1) | walk1 | (dsimp only; walk1) | (refine hQ' _ _ ?_; clear hQ'))))
  refine use_ret (get_spec (s := ⟨h3, _, _, _, _⟩) (Room.less (R.deeper _) (by decide)) (X.keeps F3.keep) (T.keeps F3.keep) (B.keeps F3.keep) vs (hl'.at fun o e => F3.keep _ _ e) (rs.map prOf) (hps.keeps F3.keep) hpl' x t _ hxl hxc _ (Or.inl rfl)) F3 N3 ?_
  intro v4 h4 tk4 hf4 hk4 F4 N4
  clear F3 N3 hat3 hw3 hr3 hk3
  unfold Found at hf4
  rw [hge] at hf4
  cases ms with
  | nil =>
    have hy0 : ys = [] := (hys h4).inv_nil
    subst hy0
    dsimp only [List.head?_nil] at hf4
    subst hf4
    (repeat ((fail_if_success (with_reducible show wpAny _ _ (call (Value.ref _) _ _) _ _ _)); (fail_if_success (with_reducible show wpAny _ _ (compareOp _ (Value.ref _) _) _ _ _)); (first | ((with_reducible show wpAny _ _ (exec _ _) _ _ _); refine abs_post fun Q' hQ' => ?_; walk1) | walk1 | (dsimp only; walk1) | (refine hQ' _ _ ?_; clear hQ'))))
    rename Fr _ _ _ _ => F5
    rename News _ _ _ _ => N5
    refine use_ret (item_spec (s := ⟨_, _, _, _, _⟩) (Room.less (R.deeper _).in1 (by decide)) (X.keeps F5.keep) (T.keeps F5.keep) (B.keeps F5.keep) vs (hl'.at fun o e => F5.keep _ _ e) (rs.map prOf) (hps.keeps F5.keep) hpl' x t hxl hxc) F5 N5 ?_
    intro v6 h6 tk6 hf6 hk6 F6 N6
    clear F5 N5
    unfold Found at hf6
    rw [hge] at hf6
    dsimp only [List.head?_nil] at hf6
    subst hf6
    (repeat ((fail_if_success (with_reducible show wpAny _ _ (call (Value.ref _) _ _) _ _ _)); (fail_if_success (with_reducible show wpAny _ _ (compareOp _ (Value.ref _) _) _ _ _)); (first | ((with_reducible show wpAny _ _ (exec _ _) _ _ _); refine abs_post fun Q' hQ' => ?_; walk1) | walk1 | (dsimp only; walk1) | (refine hQ' _ _ ?_; clear hQ'))))
    rename Fr _ _ _ _ => F7
    rename News _ _ _ _ => N7
    dsimp only
    refine use_ret (contains_spec (s := ⟨_, _, _, _, _⟩) (Room.less (R.deeper _) (by decide)) (X.keeps F7.keep) (T.keeps F7.keep) (B.keeps F7.keep) vs (hl'.at fun o e => F7.keep _ _ e) (rs.map prOf) (hps.keeps F7.keep) hpl' x t hxl hxc) F7 N7 ?_
    intro v8 h8 tk8 hf8 hk8 F8 N8
    clear F7 N7
    rw [hge] at hf8
    replace hf8 : v8 = .bool false := hf8
    subst hf8
    (repeat ((fail_if_success (with_reducible show wpAny _ _ (call (Value.ref _) _ _) _ _ _)); (fail_if_success (with_reducible show wpAny _ _ (compareOp _ (Value.ref _) _) _ _ _)); (first | ((with_reducible show wpAny _ _ (exec _ _) _ _ _); refine abs_post fun Q' hQ' => ?_; walk1) | walk1 | (dsimp only; walk1) | (refine hQ' _ _ ?_; clear hQ'))))
    rename Fr _ _ _ _ => F9
    rename News _ _ _ _ => N9
    refine ne_at (At.list ⟨_, (N9 _ (.tail _ (.tail _ (.tail _ (.tail _ (.tail _ (.head _))))))).1, rfl, _, rfl⟩ (hys _)) (At.list (vs := []) ⟨_, (N9 _ (.head _)).1, rfl, _, rfl⟩ .nil) (.strs hmok) (.list (n := 1) fun _ h => nomatch h) (by decide) (by decide) (by dsimp only [Around.deeper]; omega) ?_
    rw [show (!PyData.eqv (.list (List.map PyData.str [])) (.list [])) = false by simp [PyData.eqv, PyData.eqvAll]]
    (repeat ((fail_if_success (with_reducible show wpAny _ _ (call (Value.ref _) _ _) _ _ _)); (fail_if_success (with_reducible show wpAny _ _ (compareOp _ (Value.ref _) _) _ _ _)); (first | ((with_reducible show wpAny _ _ (exec _ _) _ _ _); refine abs_post fun Q' hQ' => ?_; walk1) | walk1 | (dsimp only; walk1) | (refine hQ' _ _ ?_; clear hQ'))))
    refine use_ret (len_spec (s := ⟨_, _, _, _, _⟩) (Room.less (R.deeper _).in1 (by decide)) (X.keeps F9.keep) (T.keeps F9.keep) (B.keeps F9.keep) vs (hl'.at fun o e => F9.keep _ _ e) (by omega)) F9 N9 ?_
    rintro v10 h10 tk10 ⟨t10, rfl⟩ hk10 F10 N10
    clear F9 N9
    dsimp only [PySem.W.LenBack]
    refine ⟨⟨by omega, by omega⟩, ?_⟩
    (repeat ((fail_if_success (with_reducible show wpAny _ _ (call (Value.ref _) _ _) _ _ _)); (fail_if_success (with_reducible show wpAny _ _ (compareOp _ (Value.ref _) _) _ _ _)); (first | ((with_reducible show wpAny _ _ (exec _ _) _ _ _); refine abs_post fun Q' hQ' => ?_; walk1) | walk1 | (dsimp only; walk1) | (refine hQ' _ _ ?_; clear hQ'))))
    refine Calls.call_len_list (items := us.toArray) (hl.at fun o e => F10.keep _ _ e) (by simp; omega) ?_
    rw [show ((us.toArray.size : Nat) : Int) = (vs.length : Int) by simp [hul]]
    (repeat ((fail_if_success (with_reducible show wpAny _ _ (call (Value.ref _) _ _) _ _ _)); (fail_if_success (with_reducible show wpAny _ _ (compareOp _ (Value.ref _) _) _ _ _)); (first | ((with_reducible show wpAny _ _ (exec _ _) _ _ _); refine abs_post fun Q' hQ' => ?_; walk1) | walk1 | (dsimp only; walk1) | (refine hQ' _ _ ?_; clear hQ'))))
    refine hQ _ _ ?_
    exact ⟨_, _, rfl, F10.keep, by rw [beq_self_eq_true]⟩
  | cons y0 ms =>
    obtain ⟨w0, ys0, rfl, r0, rr0⟩ := (hys h4).inv
    obtain ⟨t0, rfl⟩ := r0.str_inv
    dsimp only [List.head?_cons] at hf4
    obtain ⟨t4, rfl⟩ := hf4
    have hadd : (Value.str y0 t0 :: ys0).length + 1 ≤ sizeLine := by
      have h1 := (hys h4).length
      have h5 := List.length_filter_le (fun o : Ent => decide (o.1 = k)) rs
      have h6 := congrArg List.length hms
      have h7 := hus.length
      simp only [List.length_map, List.length_cons, List.length_nil] at *
      show _ ≤ 16777216
      omega
    (repeat ((fail_if_success (with_reducible show wpAny _ _ (call (Value.ref _) _ _) _ _ _)); (fail_if_success (with_reducible show wpAny _ _ (compareOp _ (Value.ref _) _) _ _ _)); (first | ((with_reducible show wpAny _ _ (exec _ _) _ _ _); refine abs_post fun Q' hQ' => ?_; walk1) | walk1 | (dsimp only; walk1) | (refine hQ' _ _ ?_; clear hQ'))))
    · exact absurd (by assumption) (by simp : ¬ ((y0 != y0) = true))
    (repeat ((fail_if_success (with_reducible show wpAny _ _ (call (Value.ref _) _ _) _ _ _)); (fail_if_success (with_reducible show wpAny _ _ (compareOp _ (Value.ref _) _) _ _ _)); (first | ((with_reducible show wpAny _ _ (exec _ _) _ _ _); refine abs_post fun Q' hQ' => ?_; walk1) | walk1 | (dsimp only; walk1) | (refine hQ' _ _ ?_; clear hQ'))))
    rename Fr _ _ _ _ => F5
    rename News _ _ _ _ => N5
    refine use_ret (item_spec (s := ⟨_, _, _, _, _⟩) (Room.less (R.deeper _).in1 (by decide)) (X.keeps F5.keep) (T.keeps F5.keep) (B.keeps F5.keep) vs (hl'.at fun o e => F5.keep _ _ e) (rs.map prOf) (hps.keeps F5.keep) hpl' x t hxl hxc) F5 N5 ?_
    intro v6 h6 tk6 hf6 hk6 F6 N6
    clear F5 N5
    unfold Found at hf6
    rw [hge] at hf6
    dsimp only [List.head?_cons] at hf6
    obtain ⟨t6, rfl⟩ := hf6
    (repeat ((fail_if_success (with_reducible show wpAny _ _ (call (Value.ref _) _ _) _ _ _)); (fail_if_success (with_reducible show wpAny _ _ (compareOp _ (Value.ref _) _) _ _ _)); (first | ((with_reducible show wpAny _ _ (exec _ _) _ _ _); refine abs_post fun Q' hQ' => ?_; walk1) | walk1 | (dsimp only; walk1) | (refine hQ' _ _ ?_; clear hQ'))))
    rotate_left 1
    · exact absurd (by assumption) (by simp : ¬ ((y0 == y0) = false))
    rename Fr _ _ _ _ => F7
    rename News _ _ _ _ => N7
    dsimp only
    refine use_ret (contains_spec (s := ⟨_, _, _, _, _⟩) (Room.less (R.deeper _) (by decide)) (X.keeps F7.keep) (T.keeps F7.keep) (B.keeps F7.keep) vs (hl'.at fun o e => F7.keep _ _ e) (rs.map prOf) (hps.keeps F7.keep) hpl' x t hxl hxc) F7 N7 ?_
    intro v8 h8 tk8 hf8 hk8 F8 N8
    clear F7 N7
    rw [hge] at hf8
    replace hf8 : v8 = .bool true := hf8
    subst hf8
    (repeat ((fail_if_success (with_reducible show wpAny _ _ (call (Value.ref _) _ _) _ _ _)); (fail_if_success (with_reducible show wpAny _ _ (compareOp _ (Value.ref _) _) _ _ _)); (first | ((with_reducible show wpAny _ _ (exec _ _) _ _ _); refine abs_post fun Q' hQ' => ?_; walk1) | walk1 | (dsimp only; walk1) | (refine hQ' _ _ ?_; clear hQ'))))
    rename Fr _ _ _ _ => F9
    rename News _ _ _ _ => N9
    refine ne_at (At.list ⟨_, (N9 _ (.tail _ (.tail _ (.tail _ (.tail _ (.tail _ (.head _))))))).1, rfl, _, rfl⟩ (hys _)) (At.list (vs := []) ⟨_, (N9 _ (.head _)).1, rfl, _, rfl⟩ .nil) (.strs hmok) (.list (n := 1) fun _ h => nomatch h) (by decide) (by decide) (by dsimp only [Around.deeper]; omega) ?_
    rw [show (!PyData.eqv (.list (List.map PyData.str (y0 :: ms))) (.list [])) = true by simp [PyData.eqv, PyData.eqvAll]]
    (repeat ((fail_if_success (with_reducible show wpAny _ _ (call (Value.ref _) _ _) _ _ _)); (fail_if_success (with_reducible show wpAny _ _ (compareOp _ (Value.ref _) _) _ _ _)); (first | ((with_reducible show wpAny _ _ (exec _ _) _ _ _); refine abs_post fun Q' hQ' => ?_; walk1) | walk1 | (dsimp only; walk1) | (refine hQ' _ _ ?_; clear hQ'))))
    refine use_ret (len_spec (s := ⟨_, _, _, _, _⟩) (Room.less (R.deeper _).in1 (by decide)) (X.keeps F9.keep) (T.keeps F9.keep) (B.keeps F9.keep) vs (hl'.at fun o e => F9.keep _ _ e) (by omega)) F9 N9 ?_
    rintro v10 h10 tk10 ⟨t10, rfl⟩ hk10 F10 N10
    clear F9 N9
    dsimp only [PySem.W.LenBack]
    refine ⟨⟨by omega, by omega⟩, ?_⟩
    (repeat ((fail_if_success (with_reducible show wpAny _ _ (call (Value.ref _) _ _) _ _ _)); (fail_if_success (with_reducible show wpAny _ _ (compareOp _ (Value.ref _) _) _ _ _)); (first | ((with_reducible show wpAny _ _ (exec _ _) _ _ _); refine abs_post fun Q' hQ' => ?_; walk1) | walk1 | (dsimp only; walk1) | (refine hQ' _ _ ?_; clear hQ'))))
    refine Calls.call_len_list (items := us.toArray) (hl.at fun o e => F10.keep _ _ e) (by simp; omega) ?_
    rw [show ((us.toArray.size : Nat) : Int) = (vs.length : Int) by simp [hul]]
    (repeat ((fail_if_success (with_reducible show wpAny _ _ (call (Value.ref _) _ _) _ _ _)); (fail_if_success (with_reducible show wpAny _ _ (compareOp _ (Value.ref _) _) _ _ _)); (first | ((with_reducible show wpAny _ _ (exec _ _) _ _ _); refine abs_post fun Q' hQ' => ?_; walk1) | walk1 | (dsimp only; walk1) | (refine hQ' _ _ ?_; clear hQ'))))
    refine hQ _ _ ?_
    exact ⟨_, _, rfl, F10.keep, by rw [beq_self_eq_true]⟩
end
end Mine
end
section
set_option maxRecDepth 100000
namespace Mine
section
variable {prog : Program} {w : World} {A : Around} {E : Value → Shared → Prop} {s : Shared} {h₀ : Heap} {m : PySem.Str → Option Value} {news : List (Addr × Obj)} {Q : Flow → Shared → Prop}
theorem for_range {name : PySem.Str} {scope : Scope} {L f : Addr} {cd : Value} {x : PySem.Str} {px : Pos} {body orelse : List Stmt} {N : Nat} {n : Int} {t : Tok} (J : Nat → (PySem.Str → Option Value) → List (Addr × Obj) → Prop) (hh : A.handled = none) (hn : n = N) (hN : N ≤ 1000)
    (F : Fr h₀ L s.heap m) (Nw : News h₀ L s.heap news) (h0 : J 0 m news)
    (turn : ∀ (i : Nat) m' news' I oI h tk ti, i < N → J i m' news' → Fr h₀ L h (fun z => if z = x then some (.int i ti) else m' z) → News h₀ L h ((I, oI) :: news') → (∀ p ∈ news', p.1 ≠ I) →
      wpAny (model prog w) A (execs body (envOf name scope L f cd)) (fun fl s₃ => match fl with
        | .next | .cont => ∃ h' tk' m'' news'', s₃ = { s with heap := h', toks := tk' } ∧ Fr h₀ L h' m'' ∧ News h₀ L h' ((I, oI) :: news'') ∧ (∀ p ∈ news'', p.1 ≠ I) ∧ J (i + 1) m'' news''
        | .brk => Q .next s₃
        | .ret v => Q (.ret v) s₃) NoE { s with heap := h, toks := tk })
    (done : ∀ h tk m' news', J N m' news' → Fr h₀ L h m' → News h₀ L h news' → wpAny (model prog w) A (execs orelse (envOf name scope L f cd)) Q NoE { s with heap := h, toks := tk })
    (hk : scope.kind = .function := by rfl) (hx : (envOf name scope L f cd).kindOf x = some .local := by rfl) :
    wpAny (model prog w) A (call (.type "range") [.int n t]) (fun v s₁ => wpAny (model prog w) A (pyIter v) (fun it s₂ => codeAny (model prog w) A (.forLoop (.Name x px) it body orelse (envOf name scope L f cd)) (fun r s' => match r with | .ok f => Q f s' | .error e => cameBackBy (model prog w) A (envOf name scope L f cd) NoE e s') s₂) E s₁) E s := by
  subst hn
  refine call_range_1 ?_
  have F1 := F.push { cls := .type "range", data := .fields #[.int 0 s.toks, .int N t, .int 1 (s.toks + 1)] }
  have N1 : News h₀ L (s.heap.push { cls := .type "range", data := .fields #[.int 0 s.toks, .int N t, .int 1 (s.toks + 1)] }) news := fun p hp => ⟨Heap.get?_push_of_some _ (Nw p hp).1, (Nw p hp).2⟩
  have hsz : Builtin.Range.rangeSize 0 N 1 = N := by
    unfold Builtin.Range.rangeSize
    rcases Nat.eq_zero_or_pos N with rfl | hp
    · rfl
    · rw [if_pos (by decide), if_pos (by omega)]; omega
  refine wpAny_pyIter_range (a := 0) (b := N) (c := 1) (Heap.get?_push_size _ rfl) (by unfold Builtin.Range.small; simp only [hsz]; simp [Builtin.Range.rangeFitsLong]; omega) ?_
  dsimp only at F1 N1 ⊢
  generalize s.heap.push { cls := .type "range", data := .fields #[.int 0 s.toks, .int N t, .int 1 (s.toks + 1)] } = H1 at F1 N1 ⊢
  have hnew : h₀.get? H1.objs.size = none := by
    cases q : h₀.get? H1.objs.size with
    | none => rfl
    | some o => exact absurd (Heap.lt_size (F1.keep _ _ q)) (Nat.lt_irrefl _)
  have hLI : L ≠ H1.objs.size := Nat.ne_of_lt F1.ns.lt
  rw [hsz]
  have hit0 : IsRangeIter (H1.push { cls := .type "range_iterator", data := .fields #[rawInt 0, rawInt N, rawInt 1] }) H1.objs.size 0 N 1 := Heap.get?_push_size _ rfl
  have F2 := F1.push { cls := .type "range_iterator", data := .fields #[rawInt 0, rawInt N, rawInt 1] }
  have N2 : News h₀ L (H1.push { cls := .type "range_iterator", data := .fields #[rawInt 0, rawInt N, rawInt 1] }) news := fun p hp => ⟨Heap.get?_push_of_some _ (N1 p hp).1, (N1 p hp).2⟩
  have hne : ∀ p ∈ news, p.1 ≠ H1.objs.size := fun p hp => Nat.ne_of_lt (Heap.lt_size (N1 p hp).1)
  generalize H1.push { cls := .type "range_iterator", data := .fields #[rawInt 0, rawInt N, rawInt 1] } = H2 at hit0 F2 N2 ⊢
  generalize H1.objs.size = I at *
  refine for_walk (Walks.range hh I 0 1 N)
    (fun i s₁ => ∃ h tk m' news', s₁ = { s with heap := h, toks := tk } ∧ IsRangeIter h I (0 + (i : Nat) * 1) ((N : Int) - (i : Nat)) 1 ∧ Fr h₀ L h m' ∧ News h₀ L h news' ∧ (∀ p ∈ news', p.1 ≠ I) ∧ J i m' news') ?_ ?_ ?_ ?_
  · rintro i s₁ ⟨h, tk, m', news', rfl, hi, _⟩
    exact hi
  · exact ⟨_, _, m, news, rfl, by simpa using hit0, F2, N2, hne, h0⟩
  · rintro i v s₁ h' tk ⟨h, tk₁, m', news', rfl, hi, F', N', hn, hJ⟩ hlt ⟨ti, rfl⟩ hst hkk
    have F1' : Fr h₀ L h' m' := by
      obtain ⟨o, es, ep, ho, r⟩ := F'.ns
      refine ⟨⟨o, es, ep, hkk _ _ (by simpa using hLI) ho, r⟩, fun b o e => hkk b o ?_ (F'.keep b o e), F'.above⟩
      intro hb
      rw [List.mem_singleton.mp hb, hnew] at e
      cases e
    obtain ⟨oI, hoI, hback⟩ : ∃ oI : Obj, h'.get? I = some oI ∧ ∀ g : Heap, g.get? I = some oI → IsRangeIter g I (0 + ((i + 1 : Nat) : Nat) * 1) ((N : Int) - ((i + 1 : Nat) : Nat)) 1 := ⟨_, hst, fun g q => q⟩
    have N1' : News h₀ L h' ((I, oI) :: news') := by
      intro p hp
      rcases List.mem_cons.mp hp with rfl | hp
      · exact ⟨hoI, Ne.symm hLI, hnew⟩
      · exact ⟨hkk _ _ (by simpa using hn p hp) (N' p hp).1, (N' p hp).2⟩
    refine wpAny_pure ?_
    rw [show (0 + (i : Int) * 1) = (i : Int) by omega]
    refine wpAny_assign_Name (stN F1' N1' (fun h3 F3 N3 => ?_) hk hx)
    refine wpAny_mono (turn i m' news' I oI h3 _ ti hlt hJ F3 N3 hn) (fun fl s₃ h₃ => ?_) fun _ _ q => q
    have go : (∃ h'' tk' m'' news'', s₃ = { s with heap := h'', toks := tk' } ∧ Fr h₀ L h'' m'' ∧ News h₀ L h'' ((I, oI) :: news'') ∧ (∀ p ∈ news'', p.1 ≠ I) ∧ J (i + 1) m'' news'') →
        ∃ h tk m' news', s₃ = { s with heap := h, toks := tk } ∧ IsRangeIter h I (0 + ((i + 1 : Nat) : Nat) * 1) ((N : Int) - ((i + 1 : Nat) : Nat)) 1 ∧ Fr h₀ L h m' ∧ News h₀ L h news' ∧ (∀ p ∈ news', p.1 ≠ I) ∧ J (i + 1) m' news' := by
      rintro ⟨h'', tk', m'', news'', e, F4, N4, hn4, hJ4⟩
      exact ⟨h'', tk', m'', news'', e, hback _ (N4 _ (.head _)).1, F4, fun p hp => N4 p (.tail _ hp), hn4, hJ4⟩
    cases fl with
    | next => exact go h₃
    | cont => exact go h₃
    | brk => exact h₃
    | ret v => exact h₃
  · rintro s₁ h' tk ⟨h, tk₁, m', news', rfl, hi, F', N', hn, hJ⟩ hkk
    have F1' : Fr h₀ L h' m' := by
      obtain ⟨o, es, ep, ho, r⟩ := F'.ns
      refine ⟨⟨o, es, ep, hkk _ _ (by simpa using hLI) ho, r⟩, fun b o e => hkk b o ?_ (F'.keep b o e), F'.above⟩
      intro hb
      rw [List.mem_singleton.mp hb, hnew] at e
      cases e
    exact done h' tk m' news' hJ F1' fun p hp => ⟨hkk _ _ (by simpa using hn p hp) (N' p hp).1, (N' p hp).2⟩
end
end Mine
end
section
namespace Mine
theorem kind_there : ∀ n : Fin 16, Txt.find (PySem.Str.ofString "-?bcdlps") (Txt.item (PySem.Str.ofString "?pc?d?b?-?l?s???") (n.val : Int)) ≠ -1 := by decide +kernel
theorem kind_found (k : Int) : Txt.find (PySem.Str.ofString "-?bcdlps") (Txt.item (PySem.Str.ofString "?pc?d?b?-?l?s???") (k.fmod 16)) ≠ -1 := by
  have h0 : 0 ≤ k.fmod 16 := Int.fmod_nonneg_of_pos _ (by decide)
  have h1 : k.fmod 16 < 16 := Int.fmod_lt_of_pos _ (by decide)
  obtain ⟨n, e⟩ := Int.eq_ofNat_of_zero_le h0
  rw [e] at h1 ⊢
  exact kind_there ⟨n, by omega⟩
def digI (m : Int) (o f : Int) : Int := if ((m.fdiv 512).fdiv o).fmod 2 = 1 then 1 else 2 * ((m.fdiv f).fmod 8).fmod 2
def rankI (m : Int) : Int := ((((((Txt.find (PySem.Str.ofString "-?bcdlps") (Txt.item (PySem.Str.ofString "?pc?d?b?-?l?s???") ((m.fdiv 4096).fmod 16))) * 4 + ((m.fdiv 64).fmod 8).fdiv 2) * 3 + digI m 4 64) * 4 + ((m.fdiv 8).fmod 8).fdiv 2) * 3 + digI m 2 8) * 4 + ((m.fdiv 1).fmod 8).fdiv 2) * 3 + digI m 1 1
def GotInt (n : Int) (s : Shared) : Value → Shared → Prop := fun v s' => ∃ k t', v = .int n t' ∧ s' = { s with toks := k }
theorem join_int {M : Model} {A : Around} {E : Value → Shared → Prop} {s : Shared} {t : Sem Value} {n : Int} {Q : Value → Shared → Prop} (h : wpAny M A t (GotInt n s) E s) (k : ∀ t' k, Q (.int n t') { s with toks := k }) : wpAny M A t Q E s :=
  wpAny_mono h (fun v s' ⟨_, _, e1, e2⟩ => by subst e1; subst e2; exact k _ _) fun _ _ e => e
section
variable {w : World} {A : Around} {s : Shared} {mean : ExcName → Option Value} {mg mb : PySem.Str → Option Value}
set_option maxRecDepth 100000 in
set_option maxHeartbeats 8000000 in
theorem rank_spec (R : Room A 3) (X : (hd.heap_1 w.params).In s.heap) (T : TT mean mg mb s.heap) (m : Int) (t : Tok) :
    wpAny (model PG w) A (call (.ref 254) [.int m t]) (Ret s fun r _ => ∃ t', r = .int (rankI m) t') NoE s := by
  obtain ⟨f1, f2, f3, f4⟩ := A
  have hh := R.handled
  dsimp only at hh
  subst hh
  refine abs_post fun Q hQ => ?_
  refine call_pure [(PySem.Str.ofString "mode", .int m t)] R X T.nolimit (by k_is) (by k_is) (BindsTo.of_eq rfl) (locs rfl) ?_
  intro L h₁ tk0 F
  have N : News s.heap L h₁ [] := News.nil
  (repeat (first | ((with_reducible show wpAny _ _ (exec _ _) _ _ _); refine abs_post fun Q' hQ' => ?_; walk1) | (dsimp only; walk1) | walk1 | (refine hQ' _ _ ?_; clear hQ')))
  · exact absurd (by assumption) (kind_found _)
  (repeat ((fail_if_success (with_reducible show wpAny _ _ (eval (PySem.Expr.IfExp _ _ _ _) _) _ _ _)); (first | ((with_reducible show wpAny _ _ (exec _ _) _ _ _); refine abs_post fun Q' hQ' => ?_; walk1) | (dsimp only; walk1) | walk1 | (refine hQ' _ _ ?_; clear hQ'))))
  refine join_int (n := if ((m.fdiv 512).fdiv 4).fmod 2 = 1 then 1 else 2 * ((m.fdiv 64).fmod 8).fmod 2) ?_ ?_
  · (repeat (first | ((with_reducible show wpAny _ _ (exec _ _) _ _ _); refine abs_post fun Q' hQ' => ?_; walk1) | (dsimp only; walk1) | walk1 | (refine hQ' _ _ ?_; clear hQ')))
    · exact ⟨_, _, congrArg (fun z => Value.int z _) (if_pos (by assumption)).symm, rfl⟩
    (repeat (first | ((with_reducible show wpAny _ _ (exec _ _) _ _ _); refine abs_post fun Q' hQ' => ?_; walk1) | (dsimp only; walk1) | walk1 | (refine hQ' _ _ ?_; clear hQ')))
    exact ⟨_, _, congrArg (fun z => Value.int z _) (if_neg (by assumption)).symm, rfl⟩
  intro t1 k1
  (repeat ((fail_if_success (with_reducible show wpAny _ _ (eval (PySem.Expr.IfExp _ _ _ _) _) _ _ _)); (first | ((with_reducible show wpAny _ _ (exec _ _) _ _ _); refine abs_post fun Q' hQ' => ?_; walk1) | (dsimp only; walk1) | walk1 | (refine hQ' _ _ ?_; clear hQ'))))
  refine join_int (n := if ((m.fdiv 512).fdiv 2).fmod 2 = 1 then 1 else 2 * ((m.fdiv 8).fmod 8).fmod 2) ?_ ?_
  · (repeat (first | ((with_reducible show wpAny _ _ (exec _ _) _ _ _); refine abs_post fun Q' hQ' => ?_; walk1) | (dsimp only; walk1) | walk1 | (refine hQ' _ _ ?_; clear hQ')))
    · exact ⟨_, _, congrArg (fun z => Value.int z _) (if_pos (by assumption)).symm, rfl⟩
    (repeat (first | ((with_reducible show wpAny _ _ (exec _ _) _ _ _); refine abs_post fun Q' hQ' => ?_; walk1) | (dsimp only; walk1) | walk1 | (refine hQ' _ _ ?_; clear hQ')))
    exact ⟨_, _, congrArg (fun z => Value.int z _) (if_neg (by assumption)).symm, rfl⟩
  intro t1 k1
  (repeat ((fail_if_success (with_reducible show wpAny _ _ (eval (PySem.Expr.IfExp _ _ _ _) _) _ _ _)); (first | ((with_reducible show wpAny _ _ (exec _ _) _ _ _); refine abs_post fun Q' hQ' => ?_; walk1) | (dsimp only; walk1) | walk1 | (refine hQ' _ _ ?_; clear hQ'))))
  refine join_int (n := if ((m.fdiv 512).fdiv 1).fmod 2 = 1 then 1 else 2 * ((m.fdiv 1).fmod 8).fmod 2) ?_ ?_
  · (repeat (first | ((with_reducible show wpAny _ _ (exec _ _) _ _ _); refine abs_post fun Q' hQ' => ?_; walk1) | (dsimp only; walk1) | walk1 | (refine hQ' _ _ ?_; clear hQ')))
    · exact ⟨_, _, congrArg (fun z => Value.int z _) (if_pos (by assumption)).symm, rfl⟩
    (repeat (first | ((with_reducible show wpAny _ _ (exec _ _) _ _ _); refine abs_post fun Q' hQ' => ?_; walk1) | (dsimp only; walk1) | walk1 | (refine hQ' _ _ ?_; clear hQ')))
    exact ⟨_, _, congrArg (fun z => Value.int z _) (if_neg (by assumption)).symm, rfl⟩
  intro t1 k1
  (repeat (first | ((with_reducible show wpAny _ _ (exec _ _) _ _ _); refine abs_post fun Q' hQ' => ?_; walk1) | (dsimp only; walk1) | walk1 | (refine hQ' _ _ ?_; clear hQ')))
  rename Fr _ _ _ _ => F
  refine hQ _ _ ?_
  exact ⟨_, _, rfl, F.keep, _, rfl⟩
end
end Mine
end
section
namespace Mine
section
variable {w : World} {A : Around} {s : Shared} {mean : ExcName → Option Value} {mg mb : PySem.Str → Option Value}
set_option maxRecDepth 100000 in
set_option maxHeartbeats 8000000 in
theorem cmp_spec (R : Room A 3) (X : (hd.heap_1 w.params).In s.heap) (T : TT mean mg mb s.heap) (x y : PySem.Str) (t u : Tok) :
    wpAny (model PG w) A (call (.ref 240) [.str x t, .str y u]) (Ret s fun r _ => ∃ t', r = .int (b2i (decide (y.cps.toList < x.cps.toList)) - b2i (decide (x.cps.toList < y.cps.toList))) t') NoE s := by
  obtain ⟨f1, f2, f3, f4⟩ := A
  have hh := R.handled
  dsimp only at hh
  subst hh
  refine call_pure [(PySem.Str.ofString "x", .str x t), (PySem.Str.ofString "y", .str y u)] R X T.nolimit (by k_is) (by k_is) (BindsTo.of_eq rfl) (locs rfl) ?_
  intro L h₁ tk0 F
  have N : News s.heap L h₁ [] := News.nil
  (repeat (first | (dsimp only; walk1) | walk1))
  exact ⟨_, _, rfl, F.keep, _, rfl⟩
end
end Mine
end
section
namespace Mine
theorem fm_len (m : Int) : (fmI m).length ≤ 1000 := by
  have key : ∀ l : List PySem.Str, (∀ x ∈ l, x.length ≤ 1) → (Txt.join (PySem.Str.ofString "") l).length ≤ l.length := fun l hl => by
    have h1 := StrLaws.join_length_le (PySem.Str.ofString "") l
    rw [← StrLaws.glued_eq_join] at h1
    rw [show (PySem.Str.ofString "").length = 0 from rfl, Nat.mul_zero, Nat.add_zero] at h1
    exact Nat.le_trans h1 (Nat.le_trans (sum_le_mul (fun x : PySem.Str => x.length) 1 _ hl) (by omega))
  refine Nat.le_trans (key _ fun x hx => ?_) (by rw [List.length_map, List.length_range]; decide)
  obtain ⟨i, _, rfl⟩ := List.mem_map.mp hx
  exact sign_len m i
theorem ext3 {α : Type} {m' base : PySem.Str → Option α} (x1 x2 x3 : PySem.Str) (h : ∀ z, z ≠ x1 → z ≠ x2 → z ≠ x3 → m' z = base z) :
    ∃ a b c, m' = fun z => if z = x1 then a else if z = x2 then b else if z = x3 then c else base z := by
  refine ⟨m' x1, m' x2, m' x3, funext fun z => ?_⟩
  by_cases h1 : z = x1
  · rw [if_pos h1, h1]
  · by_cases h2 : z = x2
    · rw [if_neg h1, if_pos h2, h2]
    · by_cases h3 : z = x3
      · rw [if_neg h1, if_neg h2, if_pos h3, h3]
      · rw [if_neg h1, if_neg h2, if_neg h3]; exact h z h1 h2 h3
theorem str_get {h : Heap} {vs : List Value} {ns : List Int} {f : Int → PySem.Str} {i : Nat} (r : AtAll h vs ((ns.map f).map .str)) (hi : i < ns.length) : ∃ t, vs[i]? = some (.str (f ns[i]) t) := by
  have hl : i < vs.length := by have := r.length; simp at this; omega
  obtain ⟨d, h1, h2⟩ := r.get (List.getElem?_eq_getElem hl)
  simp only [List.getElem?_map, List.getElem?_eq_getElem hi, Option.map_some] at h1
  cases h1
  obtain ⟨t, e⟩ := h2.str_inv
  exact ⟨t, by rw [List.getElem?_eq_getElem hl, e]⟩
theorem int_get {h : Heap} {vs : List Value} {ns : List Int} {f : Int → Int} {i : Nat} (r : AtAll h vs ((ns.map f).map .int)) (hi : i < ns.length) : ∃ t, vs[i]? = some (.int (f ns[i]) t) := by
  have hl : i < vs.length := by have := r.length; simp at this; omega
  obtain ⟨d, h1, h2⟩ := r.get (List.getElem?_eq_getElem hl)
  simp only [List.getElem?_map, List.getElem?_eq_getElem hi, Option.map_some] at h1
  cases h1
  obtain ⟨t, e⟩ := h2.int_inv
  exact ⟨t, by rw [List.getElem?_eq_getElem hl, e]⟩
def cmpI (x y : PySem.Str) : Int := b2i (decide (y.cps.toList < x.cps.toList)) - b2i (decide (x.cps.toList < y.cps.toList))
def dueI (a b : Int) : Int := if a = b then 0 else if a < b then -1 else 1
theorem callC {prog : Program} {w : World} {A : Around} {E : Value → Shared → Prop} {s : Shared} {K : Frag} {mean : ExcName → Option Value} {mg mb : PySem.Str → Option Value} {H : Heap} {C : Addr} {m : PySem.Str → Option Value} {env : Env} {scope : Scope} {cl : List (PySem.Str × Addr)} {f y : PySem.Str} {pf py pos : Pos} {a : Addr} {v : Value} {o : Obj} {fd : FuncData} {Q : Value → Shared → Prop}
    (F : Fr H C s.heap m) (X : K.In H) (T : TT mean mg mb H) (e : nsIn K mainGlobals f = some (some (.ref a))) (ho : K.lookup a = some o) (hd : o.data = .func fd) (hv : m y = some v)
    (h : wpAny (model prog w) A (call (.ref a) [v] []) Q E s) (hg : env.globals = mainGlobals := by rfl)
    (hk : (compEnvC scope cl C env).scope.kind = .function := by rfl) (hf : (compEnvC scope cl C env).kindOf f = some .globalImplicit := by rfl) (hfd : (f == ("__debug__" : PySem.Str)) = false := by decide)
    (hl : (compEnvC scope cl C env).kindOf y = some .local := by rfl) (hyd : (y == ("__debug__" : PySem.Str)) = false := by decide) :
    wpAny (model prog w) A (eval (.Call (.Name f pf) [.Name y py] [] pos) (compEnvC scope cl C env)) Q E s := by
  have hns : s.heap.Ns (compEnvC scope cl C env).globals mg := by
    show s.heap.Ns env.globals mg
    rw [hg]
    exact (topRead_of T).g.keeps F.keep
  refine Call_ (Calls.Name_function_global hk hf (Calls.loadGlobal_global hns (mg_of X (topRead_of T).g e) ?_) hfd)
  refine callWith_function_kw (o := o) (fd := fd) (Calls.evalArgs_plain (Calls.spliced_cons ?_))
  refine wpAny_Name (wpAny_loadName_local hk hl F.ns hv ?_) hyd
  refine Calls.spliced_nil ⟨⟨X.keeps F.keep _ _ ho, hd⟩, ?_⟩
  exact h
section
variable {w : World} {A : Around} {s : Shared} {mean : ExcName → Option Value} {mg mb : PySem.Str → Option Value}
set_option maxRecDepth 100000 in
set_option maxHeartbeats 8000000 in
theorem ord_spec (R : Room A 12) (X : (hd.heap_1 w.params).In s.heap) (T : TT mean mg mb s.heap) (l : Addr) (vs : List Value) (hl : s.heap.IsList l vs.toArray) (ns : List Int) (hns : AtAll s.heap vs (ns.map .int)) (hz : vs.length ≤ 900)
    (H : ∀ a ∈ ns, ∀ b ∈ ns, cmpI (Txt.lower (fmI a)) (Txt.lower (fmI b)) = dueI (rankI a) (rankI b)) :
    wpAny (model PG w) A (call (.ref 281) [.ref l]) (Ret s fun r _ => r = .bool true) NoE s := by
  obtain ⟨f1, f2, f3, f4, f5⟩ := A
  have hh := R.handled
  dsimp only at hh
  subst hh
  have hun := R.units
  dsimp only at hun
  refine abs_post fun Q hQ => ?_
  refine call_pure [(PySem.Str.ofString "modes", .ref l)] R X T.nolimit (by k_is) (by k_is) (BindsTo.of_eq rfl) (locs rfl) ?_
  intro L h₁ tk0 F
  have N : News s.heap L h₁ [] := News.nil
  iterate 1 (first | (dsimp only; walk1) | walk1)
  refine comp_assignV (cl := []) PyData.int (fun _ => true) (fun n => .str (Txt.lower (fmI n))) (fun _ => True) rfl rfl rfl (by decide) rfl (by decide) rfl rfl ?_
  iterate 1 (first | (dsimp only; walk1) | walk1)
  refine ⟨l, vs, ns, _, rfl, hl.at fun o e => F.keep _ _ e, hns.keeps F.keep, by omega, F.ns, fun _ _ => rfl, named_owned, ?_, ?_⟩
  · intro C v1 p h tk m led hv1 hp hat FC NC
    change Fr _ C h m at FC
    change News _ C h led at NC
    obtain ⟨t1, rfl⟩ := hat.int_inv
    refine asgC FC NC fun h3 F3 N3 => ?_
    refine wpAny_tests_nil ⟨rfl, fun _ => ?_, fun e => nomatch e⟩
    refine lowerCall ?_
    have X3 := X.keeps F.keep
    have T3 := T.keeps F.keep
    refine callC F3 X3 T3 (by k_is) (by k_is) rfl rfl ?_
    refine use_ret (fm_spec (Room.less (R.deeper _) (by decide)) (X3.keeps F3.keep) (T3.keeps F3.keep) p t1) F3 N3 ?_
    rintro v4 h4 tk4 ⟨t4, rfl⟩ hk4 F4 N4
    refine ⟨_, _, rfl, fm_len p, ?_⟩
    exact ⟨_, _, _, [], rfl, F4, N4, (fun p hp => nomatch hp), (fun h k _ => .cons .str .nil), trivial⟩
  intro D2 h2 tk2 ys2 n2 _ hD2 hDl2 hat2 hn2 hk2
  dsimp only
  obtain ⟨F2, N2⟩ := comp_after F N hD2 hDl2 hn2 hk2
  rw [List.filter_eq_self.mpr (fun _ _ => rfl)] at hat2
  clear F N hn2
  have hys : ∀ h' : Heap, AtAll h' ys2 ((ns.map fun n => Txt.lower (fmI n)).map .str) := fun h' => strs_any (h := h2) (by rw [List.map_map]; exact hat2)
  clear hat2
  iterate 1 (first | (dsimp only; walk1) | walk1)
  refine comp_assignV (cl := []) PyData.int (fun _ => true) (fun n => .int (rankI n)) (fun _ => True) rfl rfl rfl (by decide) rfl (by decide) rfl rfl ?_
  iterate 1 (first | (dsimp only; walk1) | walk1)
  refine ⟨l, vs, ns, _, rfl, hl.at fun o e => F2.keep _ _ e, hns.keeps F2.keep, by omega, F2.ns, fun _ _ => rfl, named_owned, ?_, ?_⟩
  · intro C v1 p h tk m led hv1 hp hat FC NC
    change Fr _ C h m at FC
    change News _ C h led at NC
    obtain ⟨t1, rfl⟩ := hat.int_inv
    refine asgC FC NC fun h3 F3 N3 => ?_
    refine wpAny_tests_nil ⟨rfl, fun _ => ?_, fun e => nomatch e⟩
    have X3 := X.keeps F2.keep
    have T3 := T.keeps F2.keep
    refine callC F3 X3 T3 (by k_is) (by k_is) rfl rfl ?_
    refine use_ret (rank_spec (Room.less (R.deeper _) (by decide)) (X3.keeps F3.keep) (T3.keeps F3.keep) p t1) F3 N3 ?_
    rintro v4 h4 tk4 ⟨t4, rfl⟩ hk4 F4 N4
    exact ⟨_, _, _, [], rfl, F4, N4, (fun p hp => nomatch hp), (fun h k _ => .cons .int .nil), trivial⟩
  intro D3 h3 tk3 ys3 n3 _ hD3 hDl3 hat3 hn3 hk3
  dsimp only
  obtain ⟨F3, N3⟩ := comp_after F2 N2 hD3 hDl3 hn3 hk3
  rw [List.filter_eq_self.mpr (fun _ _ => rfl)] at hat3
  clear F2 N2 hn3
  have hzs : ∀ h' : Heap, AtAll h' ys3 ((ns.map rankI).map .int) := fun h' => ints_any (h := h3) (by rw [List.map_map]; exact hat3)
  clear hat3 hDl2 hD2 hk2 hDl3 hD3 hk3
  iterate 1 (first | (dsimp only; walk1) | walk1)
  refine wpAny_For ?_
  (repeat ((fail_if_success (with_reducible show wpAny _ _ (call (Value.ref _) _ _) _ _ _)); (first | ((with_reducible show wpAny _ _ (exec _ _) _ _ _); refine abs_post fun Q' hQ' => ?_; walk1) | (dsimp only; walk1) | walk1 | (refine hQ' _ _ ?_; clear hQ'))))
  refine Calls.call_len_list (items := vs.toArray) (hl.at fun o e => F3.keep _ _ e) (by simp; omega) ?_
  rw [show ((vs.toArray.size : Nat) : Int) = (vs.length : Int) by simp]
  iterate 1 (first | (dsimp only; walk1) | walk1)
  have hln : vs.length = ns.length := by simpa using hns.length
  refine for_range (N := vs.length) (fun _ m' news' => news' = [(D3, listOf ys3.toArray n3), (D2, listOf ys2.toArray n2)] ∧
    ∀ z, z ≠ PySem.Str.ofString "due" → z ≠ PySem.Str.ofString "told" → z ≠ PySem.Str.ofString "j" → z ≠ PySem.Str.ofString "i" → m' z = if z = PySem.Str.ofString "ranks" then some (Value.ref D3) else if z = PySem.Str.ofString "rows" then some (Value.ref D2) else List.lookup z [(PySem.Str.ofString "modes", Value.ref l)].reverse) rfl rfl (by omega) F3 N3 ?_ ?_ ?_
  · exact ⟨rfl, fun z _ _ _ _ => rfl⟩
  · rintro i m' news' I oI h tk ti hi ⟨rfl, hm'⟩ F N hn
    clear F3 N3
    dsimp only
    obtain ⟨c1, c2, c3, c4, rfl⟩ := ext4 _ _ _ _ hm'
    clear hm'
    iterate 1 (first | (dsimp only; walk1) | walk1)
    refine wpAny_For ?_
    dsimp only at F
    (repeat ((fail_if_success (with_reducible show wpAny _ _ (call (Value.type _) _ _) _ _ _)); (first | ((with_reducible show wpAny _ _ (exec _ _) _ _ _); refine abs_post fun Q' hQ' => ?_; walk1) | (dsimp only; walk1) | walk1 | (refine hQ' _ _ ?_; clear hQ'))))
    show wpAny _ _ (call (Value.type "range") [Value.int ((i : Int) + 1) _]) _ _ _
    refine for_range (N := i + 1) (fun _ m' news' => news' = [(I, oI), (D3, listOf ys3.toArray n3), (D2, listOf ys2.toArray n2)] ∧
      ∀ z, z ≠ PySem.Str.ofString "due" → z ≠ PySem.Str.ofString "told" → z ≠ PySem.Str.ofString "j" → m' z = if z = PySem.Str.ofString "i" then some (Value.int (i : Int) ti) else if z = PySem.Str.ofString "due" then c1 else if z = PySem.Str.ofString "told" then c2 else if z = PySem.Str.ofString "j" then c3 else if z = PySem.Str.ofString "i" then c4 else if z = PySem.Str.ofString "ranks" then some (Value.ref D3) else if z = PySem.Str.ofString "rows" then some (Value.ref D2) else List.lookup z [(PySem.Str.ofString "modes", Value.ref l)].reverse) rfl (by omega) (by omega) F N ?_ ?_ ?_
    · exact ⟨rfl, fun z _ _ _ => rfl⟩
    · rintro j m' news' I2 oI2 h4 tk4 tj hj ⟨rfl, hm'⟩ F4 N4 hn4
      clear F N
      dsimp only
      obtain ⟨d1, d2, d3, rfl⟩ := ext3 _ _ _ hm'
      clear hm'
      dsimp only at F4
      have hin : i < ns.length := by omega
      have hjn : j < ns.length := by omega
      obtain ⟨ta, ga⟩ := str_get (hys h4) hin
      obtain ⟨tb, gb⟩ := str_get (hys h4) hjn
      obtain ⟨ra, ka⟩ := int_get (hzs h4) hin
      obtain ⟨rb, kb⟩ := int_get (hzs h4) hjn
      have hH := H _ (List.getElem_mem hin) _ (List.getElem_mem hjn)
      generalize ns[i] = a at ga ka hH
      generalize ns[j] = b at gb kb hH
      refine abs_post fun Q1 hQ1 => ?_
      (repeat ((fail_if_success (with_reducible show wpAny _ _ (call (Value.ref _) _ _) _ _ _)); (fail_if_success (with_reducible show wpAny _ _ (subscriptTail _ _ (Value.ref _) _) _ _ _)); (first | ((with_reducible show wpAny _ _ (exec _ _) _ _ _); refine abs_post fun Q' hQ' => ?_; walk1) | (dsimp only; walk1) | walk1 | (refine hQ' _ _ ?_; clear hQ'))))
      refine item_litK ⟨_, (N4 _ (.tail _ (.tail _ (.tail _ (.head _))))).1, rfl, _, rfl⟩ (by omega) (by omega) (by rw [Int.toNat_natCast]; exact ga) ?_
      (repeat ((fail_if_success (with_reducible show wpAny _ _ (call (Value.ref _) _ _) _ _ _)); (fail_if_success (with_reducible show wpAny _ _ (subscriptTail _ _ (Value.ref _) _) _ _ _)); (first | ((with_reducible show wpAny _ _ (exec _ _) _ _ _); refine abs_post fun Q' hQ' => ?_; walk1) | (dsimp only; walk1) | walk1 | (refine hQ' _ _ ?_; clear hQ'))))
      refine item_litK ⟨_, (N4 _ (.tail _ (.tail _ (.tail _ (.head _))))).1, rfl, _, rfl⟩ (by omega) (by omega) (by rw [Int.toNat_natCast]; exact gb) ?_
      (repeat ((fail_if_success (with_reducible show wpAny _ _ (call (Value.ref _) _ _) _ _ _)); (fail_if_success (with_reducible show wpAny _ _ (subscriptTail _ _ (Value.ref _) _) _ _ _)); (first | ((with_reducible show wpAny _ _ (exec _ _) _ _ _); refine abs_post fun Q' hQ' => ?_; walk1) | (dsimp only; walk1) | walk1 | (refine hQ' _ _ ?_; clear hQ'))))
      refine use_ret (cmp_spec (s := ⟨h4, _, _, _, _⟩) (Room.less (R.deeper _) (by decide)) (X.keeps F4.keep) (T.keeps F4.keep) _ _ _ _) F4 N4 ?_
      rintro v5 h5 tk5 ⟨t5, rfl⟩ hk5 F5 N5
      clear F4 N4
      rw [show b2i (decide ((Txt.lower (fmI b)).cps.toList < (Txt.lower (fmI a)).cps.toList)) - b2i (decide ((Txt.lower (fmI a)).cps.toList < (Txt.lower (fmI b)).cps.toList)) = dueI (rankI a) (rankI b) from hH]
      (repeat ((fail_if_success (with_reducible show wpAny _ _ (call (Value.ref _) _ _) _ _ _)); (fail_if_success (with_reducible show wpAny _ _ (subscriptTail _ _ (Value.ref _) _) _ _ _)); (first | ((with_reducible show wpAny _ _ (exec _ _) _ _ _); refine abs_post fun Q' hQ' => ?_; walk1) | (dsimp only; walk1) | walk1 | (refine hQ' _ _ ?_; clear hQ'))))
      rename Fr _ _ _ _ => F6
      rename News _ _ _ _ => N6
      refine item_litK ⟨_, (N6 _ (.tail _ (.tail _ (.head _)))).1, rfl, _, rfl⟩ (by omega) (by omega) (by rw [Int.toNat_natCast]; exact ka) ?_
      (repeat ((fail_if_success (with_reducible show wpAny _ _ (call (Value.ref _) _ _) _ _ _)); (fail_if_success (with_reducible show wpAny _ _ (subscriptTail _ _ (Value.ref _) _) _ _ _)); (first | ((with_reducible show wpAny _ _ (exec _ _) _ _ _); refine abs_post fun Q' hQ' => ?_; walk1) | (dsimp only; walk1) | walk1 | (refine hQ' _ _ ?_; clear hQ'))))
      refine item_litK ⟨_, (N6 _ (.tail _ (.tail _ (.head _)))).1, rfl, _, rfl⟩ (by omega) (by omega) (by rw [Int.toNat_natCast]; exact kb) ?_
      clear hH ga gb H
      (repeat ((fail_if_success (with_reducible show wpAny _ _ (call (Value.ref _) _ _) _ _ _)); (fail_if_success (with_reducible show wpAny _ _ (subscriptTail _ _ (Value.ref _) _) _ _ _)); (first | ((with_reducible show wpAny _ _ (exec _ _) _ _ _); refine abs_post fun Q' hQ' => ?_; walk1) | (dsimp only; walk1) | walk1 | (refine hQ' _ _ ?_; clear hQ'))))
      · exact absurd (by unfold dueI; rw [if_pos (by assumption)]) (show dueI (rankI a) (rankI b) ≠ 0 by assumption)
      · (repeat ((try dsimp only); (fail_if_success (with_reducible show Exists _)); (fail_if_success (with_reducible show wpAny _ _ (call (Value.ref _) _ _) _ _ _)); (first | ((with_reducible show wpAny _ _ (exec _ _) _ _ _); refine abs_post fun Q' hQ' => ?_; walk1) | walk1 | (refine hQ' _ _ ?_; clear hQ'))))
        rename Fr _ _ _ _ => F9
        rename News _ _ _ _ => N9
        refine hQ1 _ _ ?_
        refine ⟨_, _, _, _, rfl, F9, N9, hn4, rfl, fun z h1 h2 h3 => ?_⟩
        simp only [if_neg h1, if_neg h2, if_neg h3]
      · have hne : rankI a ≠ rankI b := by assumption
        (repeat ((fail_if_success (with_reducible show wpAny _ _ (call (Value.ref _) _ _) _ _ _)); (fail_if_success (with_reducible show wpAny _ _ (subscriptTail _ _ (Value.ref _) _) _ _ _)); (first | ((with_reducible show wpAny _ _ (exec _ _) _ _ _); refine abs_post fun Q' hQ' => ?_; walk1) | (dsimp only; walk1) | walk1 | (refine hQ' _ _ ?_; clear hQ'))))
        refine item_litK ⟨_, (N6 _ (.tail _ (.tail _ (.head _)))).1, rfl, _, rfl⟩ (by omega) (by omega) (by rw [Int.toNat_natCast]; exact ka) ?_
        (repeat ((fail_if_success (with_reducible show wpAny _ _ (call (Value.ref _) _ _) _ _ _)); (fail_if_success (with_reducible show wpAny _ _ (subscriptTail _ _ (Value.ref _) _) _ _ _)); (first | ((with_reducible show wpAny _ _ (exec _ _) _ _ _); refine abs_post fun Q' hQ' => ?_; walk1) | (dsimp only; walk1) | walk1 | (refine hQ' _ _ ?_; clear hQ'))))
        refine item_litK ⟨_, (N6 _ (.tail _ (.tail _ (.head _)))).1, rfl, _, rfl⟩ (by omega) (by omega) (by rw [Int.toNat_natCast]; exact kb) ?_
        (repeat ((fail_if_success (with_reducible show wpAny _ _ (call (Value.ref _) _ _) _ _ _)); (fail_if_success (with_reducible show wpAny _ _ (subscriptTail _ _ (Value.ref _) _) _ _ _)); (first | ((with_reducible show wpAny _ _ (exec _ _) _ _ _); refine abs_post fun Q' hQ' => ?_; walk1) | (dsimp only; walk1) | walk1 | (refine hQ' _ _ ?_; clear hQ'))))
        · exact absurd (by unfold dueI; rw [if_neg hne, if_pos (by assumption)]) (show dueI (rankI a) (rankI b) ≠ -1 by assumption)
        · (repeat ((try dsimp only); (fail_if_success (with_reducible show Exists _)); (fail_if_success (with_reducible show wpAny _ _ (call (Value.ref _) _ _) _ _ _)); (first | ((with_reducible show wpAny _ _ (exec _ _) _ _ _); refine abs_post fun Q' hQ' => ?_; walk1) | walk1 | (refine hQ' _ _ ?_; clear hQ'))))
          rename Fr _ _ _ _ => F9
          rename News _ _ _ _ => N9
          refine hQ1 _ _ ?_
          refine ⟨_, _, _, _, rfl, F9, N9, hn4, rfl, fun z h1 h2 h3 => ?_⟩
          simp only [if_neg h1, if_neg h2, if_neg h3]
        · (repeat ((fail_if_success (with_reducible show wpAny _ _ (call (Value.ref _) _ _) _ _ _)); (fail_if_success (with_reducible show wpAny _ _ (subscriptTail _ _ (Value.ref _) _) _ _ _)); (first | ((with_reducible show wpAny _ _ (exec _ _) _ _ _); refine abs_post fun Q' hQ' => ?_; walk1) | (dsimp only; walk1) | walk1 | (refine hQ' _ _ ?_; clear hQ'))))
          · exact absurd (by unfold dueI; rw [if_neg hne, if_neg (by omega)]) (show dueI (rankI a) (rankI b) ≠ 1 by assumption)
          · (repeat ((try dsimp only); (fail_if_success (with_reducible show Exists _)); (fail_if_success (with_reducible show wpAny _ _ (call (Value.ref _) _ _) _ _ _)); (first | ((with_reducible show wpAny _ _ (exec _ _) _ _ _); refine abs_post fun Q' hQ' => ?_; walk1) | walk1 | (refine hQ' _ _ ?_; clear hQ'))))
            rename Fr _ _ _ _ => F9
            rename News _ _ _ _ => N9
            refine hQ1 _ _ ?_
            refine ⟨_, _, _, _, rfl, F9, N9, hn4, rfl, fun z h1 h2 h3 => ?_⟩
            simp only [if_neg h1, if_neg h2, if_neg h3]
    · rintro h4 tk4 m' news' ⟨rfl, hm'⟩ F4 N4
      clear F N
      dsimp only
      (repeat ((try dsimp only); (fail_if_success (with_reducible show Exists _)); (first | ((with_reducible show wpAny _ _ (exec _ _) _ _ _); refine abs_post fun Q' hQ' => ?_; walk1) | walk1 | (refine hQ' _ _ ?_; clear hQ'))))
      refine ⟨_, _, _, _, rfl, F4, N4, hn, rfl, fun z h1 h2 h3 h4 => ?_⟩
      rw [hm' z h1 h2 h3, if_neg h4, if_neg h1, if_neg h2, if_neg h3, if_neg h4]
  · rintro h tk m' news' ⟨rfl, hm'⟩ F N
    clear F3 N3
    dsimp only
    (repeat ((fail_if_success (with_reducible show wpAny _ _ (call (Value.ref _) _ _) _ _ _)); (first | ((with_reducible show wpAny _ _ (exec _ _) _ _ _); refine abs_post fun Q' hQ' => ?_; walk1) | (dsimp only; walk1) | walk1 | (refine hQ' _ _ ?_; clear hQ'))))
    refine hQ _ _ ?_
    exact ⟨_, _, rfl, F.keep, rfl⟩
end
end Mine
end
section
namespace Mine
def rowI (m : Int) : PySem.Str := Txt.join (PySem.Str.ofString "") [
  Txt.item (PySem.Str.ofString "?pc?d?b?-?l?s???") ((m.fdiv 4096).fmod 16),
  Txt.item (PySem.Str.ofString "-r") (((m.fdiv 64).fmod 8).fdiv 4),
  Txt.item (PySem.Str.ofString "-w") ((((m.fdiv 64).fmod 8).fdiv 2).fmod 2),
  Txt.item (PySem.Str.ofString "-xSs") (2 * ((m.fdiv 512).fdiv 4).fmod 2 + ((m.fdiv 64).fmod 8).fmod 2),
  Txt.item (PySem.Str.ofString "-r") (((m.fdiv 8).fmod 8).fdiv 4),
  Txt.item (PySem.Str.ofString "-w") ((((m.fdiv 8).fmod 8).fdiv 2).fmod 2),
  Txt.item (PySem.Str.ofString "-xSs") (2 * ((m.fdiv 512).fdiv 2).fmod 2 + ((m.fdiv 8).fmod 8).fmod 2),
  Txt.item (PySem.Str.ofString "-r") (((m.fdiv 1).fmod 8).fdiv 4),
  Txt.item (PySem.Str.ofString "-w") ((((m.fdiv 1).fmod 8).fdiv 2).fmod 2),
  Txt.item (PySem.Str.ofString "-xTt") (2 * ((m.fdiv 512).fdiv 1).fmod 2 + ((m.fdiv 1).fmod 8).fmod 2)]
section
variable {w : World} {A : Around} {s : Shared} {mean : ExcName → Option Value} {mg mb : PySem.Str → Option Value}
set_option maxRecDepth 100000 in
set_option maxHeartbeats 8000000 in
theorem row_spec (R : Room A 3) (X : (hd.heap_1 w.params).In s.heap) (T : TT mean mg mb s.heap) (m : Int) (t : Tok) (h0 : 0 ≤ m) (h1 : m < 4294967296) :
    wpAny (model PG w) A (call (.ref 247) [.int m t]) (Ret s fun r _ => ∃ t', r = .str (rowI m) t') NoE s := by
  obtain ⟨f1, f2, f3, f4⟩ := A
  have hh := R.handled
  dsimp only at hh
  subst hh
  refine abs_post fun Q hQ => ?_
  refine call_pure [(PySem.Str.ofString "mode", .int m t)] R X T.nolimit (by k_is) (by k_is) (BindsTo.of_eq rfl) (locs rfl) ?_
  intro L h₁ tk0 F
  have N : News s.heap L h₁ [] := News.nil
  (repeat (first | ((with_reducible show wpAny _ _ (exec _ _) _ _ _); refine abs_post fun Q' hQ' => ?_; walk1) | (dsimp only; walk1) | walk1 | (refine hQ' _ _ ?_; clear hQ')))
  rename Fr _ _ _ _ => F
  refine hQ _ _ ?_
  exact ⟨_, _, rfl, F.keep, _, rfl⟩
end
end Mine
end
section
set_option maxRecDepth 100000
namespace Mine
section
variable {prog : Program} {w : World} {A : Around} {E : Value → Shared → Prop} {s : Shared} {h₀ : Heap} {m : PySem.Str → Option Value} {news : List (Addr × Obj)} {Q : Flow → Shared → Prop}
theorem for_listN {name : PySem.Str} {scope : Scope} {L f : Addr} {cd : Value} {x : PySem.Str} {px : Pos} {body orelse : List Stmt} {l : Addr} {items : List Value} {nn : Nat} (J : Nat → (PySem.Str → Option Value) → List (Addr × Obj) → Prop) (hh : A.handled = none)
    (hin : ∀ i m' news', J i m' news' → (l, listOf items.toArray nn) ∈ news') (F : Fr h₀ L s.heap m) (N : News h₀ L s.heap news) (h0 : J 0 m news)
    (turn : ∀ i v m' news' I oI h tk, items[i]? = some v → oI.cls = .type "list_iterator" → J i m' news' → Fr h₀ L h (fun z => if z = x then some v else m' z) → News h₀ L h ((I, oI) :: news') → (∀ p ∈ news', p.1 ≠ I) →
      wpAny (model prog w) A (execs body (envOf name scope L f cd)) (fun fl s₃ => match fl with
        | .next | .cont => ∃ h' tk' m'' news'', s₃ = { s with heap := h', toks := tk' } ∧ Fr h₀ L h' m'' ∧ News h₀ L h' ((I, oI) :: news'') ∧ (∀ p ∈ news'', p.1 ≠ I) ∧ J (i + 1) m'' news''
        | .brk => Q .next s₃
        | .ret v => Q (.ret v) s₃) NoE { s with heap := h, toks := tk })
    (done : ∀ h tk m' news', J items.length m' news' → Fr h₀ L h m' → News h₀ L h news' → wpAny (model prog w) A (execs orelse (envOf name scope L f cd)) Q NoE { s with heap := h, toks := tk })
    (hk : scope.kind = .function := by rfl) (hx : (envOf name scope L f cd).kindOf x = some .local := by rfl) :
    wpAny (model prog w) A (pyIter (.ref l)) (fun it s₂ => codeAny (model prog w) A (.forLoop (.Name x px) it body orelse (envOf name scope L f cd)) (fun r s' => match r with | .ok f => Q f s' | .error e => cameBackBy (model prog w) A (envOf name scope L f cd) NoE e s') s₂) E s := by
  have isl : ∀ {h : Heap} {news'}, News h₀ L h news' → (l, listOf items.toArray nn) ∈ news' → h.IsList l items.toArray := fun N' hm => ⟨_, (N' _ hm).1, rfl, nn, rfl⟩
  have hl1 : s.heap.IsList l items.toArray := isl N (hin _ _ _ h0)
  have hne : l ≠ s.heap.objs.size := by obtain ⟨o, ho, _⟩ := hl1; exact Nat.ne_of_lt (Heap.lt_size ho)
  refine wpAny_pyIter_list hl1 ?_
  have hnew : h₀.get? s.heap.objs.size = none := by
    cases q : h₀.get? s.heap.objs.size with
    | none => rfl
    | some o => exact absurd (Heap.lt_size (F.keep _ _ q)) (Nat.lt_irrefl _)
  have hLI : L ≠ s.heap.objs.size := Nat.ne_of_lt F.ns.lt
  generalize hI : s.heap.objs.size = I at *
  have keepF : ∀ {h h' : Heap} {m' : PySem.Str → Option Value}, Fr h₀ L h m' → (∀ b o, b ∉ [I] → h.get? b = some o → h'.get? b = some o) → Fr h₀ L h' m' := by
    intro h h' m' F' hk'
    obtain ⟨o, es, ep, ho, r⟩ := F'.ns
    refine ⟨⟨o, es, ep, hk' _ _ (by simpa using hLI) ho, r⟩, fun b o q => hk' b o ?_ (F'.keep b o q), F'.above⟩
    intro hm
    rw [List.mem_singleton.mp hm, hnew] at q
    cases q
  refine for_walk (Walks.list hh I l hne items.toArray)
    (fun i s₁ => ∃ h tk m' news', s₁ = { s with heap := h, toks := tk } ∧ h.IsListIter I l i ∧ Fr h₀ L h m' ∧ News h₀ L h news' ∧ (∀ p ∈ news', p.1 ≠ I) ∧ J i m' news') ?_ ?_ ?_ ?_
  · rintro i s₁ ⟨h, tk, m', news', rfl, hi, F', N', _, hJ⟩
    exact ⟨hi, isl N' (hin _ _ _ hJ)⟩
  · refine ⟨_, _, m, news, rfl, ⟨_, hI ▸ Heap.get?_push_size _ rfl, rfl, rfl⟩, F.push _, fun p hp => ⟨Heap.get?_push_of_some _ (N p hp).1, (N p hp).2⟩, fun p hp => ?_, h0⟩
    exact hI ▸ Nat.ne_of_lt (Heap.lt_size (N p hp).1)
  · rintro i v s₁ h' tk ⟨h, tk₁, m', news', rfl, hi, F', N', hn, hJ⟩ hlt hP hst hkk
    have F1 := keepF F' hkk
    obtain ⟨oI, hoI, hc, hd⟩ := hst.1
    have N1 : News h₀ L h' ((I, oI) :: news') := by
      intro p hp
      rcases List.mem_cons.mp hp with rfl | hp
      · exact ⟨hoI, Ne.symm hLI, hnew⟩
      · exact ⟨hkk _ _ (by simpa using hn p hp) (N' p hp).1, (N' p hp).2⟩
    have hv : items[i]? = some v := by simpa using hP
    refine wpAny_pure ?_
    refine wpAny_assign_Name (stN F1 N1 (fun h3 F3 N3 => ?_) hk hx)
    refine wpAny_mono (turn i v m' news' I oI h3 _ hv hc hJ F3 N3 hn) (fun fl s₃ h₃ => ?_) fun _ _ q => q
    have go : (∃ h'' tk' m'' news'', s₃ = { s with heap := h'', toks := tk' } ∧ Fr h₀ L h'' m'' ∧ News h₀ L h'' ((I, oI) :: news'') ∧ (∀ p ∈ news'', p.1 ≠ I) ∧ J (i + 1) m'' news'') →
        ∃ h tk m' news', s₃ = { s with heap := h, toks := tk } ∧ h.IsListIter I l (i + 1) ∧ Fr h₀ L h m' ∧ News h₀ L h news' ∧ (∀ p ∈ news', p.1 ≠ I) ∧ J (i + 1) m' news' := by
      rintro ⟨h'', tk', m'', news'', e, F2, N2, hn2, hJ2⟩
      exact ⟨h'', tk', m'', news'', e, ⟨oI, (N2 _ (.head _)).1, hc, hd⟩, F2, fun p hp => N2 p (.tail _ hp), hn2, hJ2⟩
    cases fl with
    | next => exact go h₃
    | cont => exact go h₃
    | brk => exact h₃
    | ret v => exact h₃
  · rintro s₁ h' tk ⟨h, tk₁, m', news', rfl, hi, F', N', hn, hJ⟩ hkk
    exact done h' tk m' news' (by simpa using hJ) (keepF F' hkk) fun p hp => ⟨hkk _ _ (by simpa using hn p hp) (N' p hp).1, (N' p hp).2⟩
end
section
variable {M : Model} {A₀ : Around} {E : Value → Shared → Prop} {s : Shared} {h₀ : Heap} {L a : Addr} {name : PySem.Str} {scope : Scope} {cd : Value} {m : PySem.Str → Option Value} {news : List (Addr × Obj)} {t : Sem Value} {P : Value → Heap → Prop} {Q : Value → Shared → Prop}
theorem use_turn (hid : List Addr) (K0 : Below A₀ h₀ [] h₀) (F : Fr h₀ L s.heap m) (hhid : ∀ b ∈ hid, h₀.get? b = none ∧ b ≠ L)
    (h : ∀ g, g.StaysIn s.heap → g.objs.size ≤ s.heap.objs.size → h₀.StaysIn g → (∀ b ∈ hid, g.get? b = none) → (∀ b o, b ∉ hid → s.heap.get? b = some o → g.get? b = some o) →
      Below (A₀.deeper (envOf name scope L a cd)) h₀ [envOf name scope L a cd] g → KtsDicts ([envOf name scope L a cd].filterMap (·.frame)) g →
      wpAny M (A₀.deeper (envOf name scope L a cd)) t (RetS ([envOf name scope L a cd].filterMap (·.frame)) g s P) NoE s)
    (k : ∀ v h' tk', P v h' → (∀ b o, b ∉ hid → b ≠ L → s.heap.get? b = some o → h'.get? b = some o) → Fr h₀ L h' m → Q v { s with heap := h', toks := tk' })
    (hk : scope.kind = .function := by rfl) : wpAny M (A₀.deeper (envOf name scope L a cd)) t Q E s := by
  have hL : L ∉ hid := fun hm => (hhid L hm).2 rfl
  have st : h₀.StaysIn (hideAll s.heap hid) := fun b o e => hideAll_get _ (F.keep b o e) fun hm => by rw [(hhid b hm).1] at e; cases e
  obtain ⟨oL, es, ep, hoL, hLd, hLr⟩ := F.ns
  have Fg : Fr h₀ L (hideAll s.heap hid) m := ⟨⟨oL, es, ep, hideAll_get _ hoL hL, hLd, hLr⟩, st, F.above⟩
  refine wpAny_mono (h (hideAll s.heap hid) (fun b o q => of_hideAll _ q) (Nat.le_of_eq (hideAll_size _ _)) st (fun b hb => hideAll_none _ hb) (fun b o hb e => hideAll_get _ e hb) (K0.push Fg hk) (dicts_push Fg ktsDicts_nil)) (fun v s' q => ?_) (fun _ _ x => x.elim)
  obtain ⟨h', tk', g', rfl, T, hg', hp⟩ := q
  have kp : ∀ b o, b ∉ hid → b ≠ L → s.heap.get? b = some o → h'.get? b = some o := fun b o hb hbL e => hg' b o (T.other b o (hideAll_get _ e hb) fun hm => by
    rcases kts_mem hm with z | z
    · exact hbL z
    · simp at z)
  refine k v h' tk' hp kp ⟨?_, fun b o e => kp b o (fun hm => by rw [(hhid b hm).1] at e; cases e) (by rintro rfl; rw [kts_self F] at e; cases e) (F.keep b o e), F.above⟩
  obtain ⟨sl, hs⟩ := T.up (hideAll_get _ hoL hL)
  exact ⟨_, es, ep, hg' _ _ hs, hLd, hLr⟩
end
end Mine
end
section
namespace Mine
section
variable {prog : Program} {w : World} {A : Around} {s : Shared} {K : Frag} {R : Result → Shared → Prop}
theorem code_pure {name qual : PySem.Str} {params : Arguments} {body : List Stmt} {scope : Scope} {dV kV doc pm cdv ct oc : Value} {an od : Option Addr} {osl : Array (Option Value)} {f : Addr} {vals : List Value} {kw : List (PySem.Str × Value)}
    (binds : List (PySem.Str × Value)) {n : Nat}
    (Rm : Room A n) (X : K.In s.heap) (hlim : s.heap.NoLimit)
    (ho : K.lookup f = some ⟨oc, od, .func (fnOf name qual params body scope dV kV doc pm an cdv ct), osl⟩) (hcd : codeIn K cdv qual = true)
    (hbind : BindsTo s (fnOf name qual params body scope dV kV doc pm an cdv ct) ⟨vals, kw⟩ binds) (hloc : ∀ y ∈ binds, scope.names.lookup y.1 = some .local)
    (h : ∀ L h₁ tk, Fr s.heap L h₁ (fun y => binds.reverse.lookup y) →
      wpAny (model prog w) (A.deeper (envOf qual scope L f cdv)) (execs body (envOf qual scope L f cdv))
        (fun fl s' => R (.ok (.ret (match fl with | .ret v => v | _ => .none))) s') NoE { s with heap := h₁, toks := tk })
    (hco : scope.isCoroutine = false := by rfl) (hgen : scope.isGenerator = false := by rfl) (hk : scope.kind = .function := by rfl)
    (hcell : ∀ x ∈ scope.names, x.2 ≠ .cell := by decide) : codeAny (model prog w) A (.call (.ref f) ⟨vals, kw⟩) R s := by
  refine codeAny_call_def (fd := fnOf name qual params body scope dV kV doc pm an cdv ct) (body := body) (binds := binds) (by have := Rm.depth; show A.depth < 1000; omega) (X _ _ ho) rfl hlim (codeRec_of X hcd) rfl hbind hcell hloc (fun h₁ hns hk₁ => ?_) hco hgen hk
  exact wpAny_mono (h _ h₁ _ ⟨hns, hk₁, Nat.le_refl _⟩) (fun fl s' q => q) (fun _ _ x => x.elim)
end
theorem ne_of_some {g : Heap} {a b : Addr} {o : Obj} (h1 : g.get? a = some o) (h2 : g.get? b = none) : b ≠ a := by rintro rfl; rw [h1] at h2; cases h2
theorem none_sub {g G : Heap} (k : g.StaysIn G) {b : Addr} (e : G.get? b = none) : g.get? b = none := fresh_of_stays k e
theorem news4 {h₀ h' : Heap} {L a1 a2 a3 : Addr} {o1 o2 o3 : Obj} {news : List (Addr × Obj)} (n1 : h'.get? a1 = some o1 ∧ a1 ≠ L ∧ h₀.get? a1 = none) (n2 : h'.get? a2 = some o2 ∧ a2 ≠ L ∧ h₀.get? a2 = none) (n3 : h'.get? a3 = some o3 ∧ a3 ≠ L ∧ h₀.get? a3 = none)
    (n : News h₀ L h' news) : News h₀ L h' ((a1, o1) :: (a2, o2) :: (a3, o3) :: news) := fun p hp => by
  rcases List.mem_cons.mp hp with rfl | hp
  · exact n1
  · rcases List.mem_cons.mp hp with rfl | hp
    · exact n2
    · rcases List.mem_cons.mp hp with rfl | hp
      · exact n3
      · exact n p hp
section
variable {w : World} {A : Around} {s : Shared} {mean : ExcName → Option Value} {mg mb : PySem.Str → Option Value} {h₀ : Heap} {L : Addr} {m : PySem.Str → Option Value} {news : List (Addr × Obj)} {E : Value → Shared → Prop} {Q : Value → Shared → Prop}
set_option maxRecDepth 100000 in
set_option maxHeartbeats 8000000 in
theorem new_tbl (R : Room A 6) (X : (hd.heap_1 w.params).In h₀) (T : TT mean mg mb h₀) (F : Fr h₀ L s.heap m) (N : News h₀ L s.heap news)
    (k : ∀ tb dx hl tk h' tk', Fr h₀ L h' m → News h₀ L h' ((hl, listOf #[] 0) :: (tb, instObj 175 dx) :: (dx, dictOf [⟨PyData.keyHash w.params (PySem.Str.ofString "_headers"), .str (PySem.Str.ofString "_headers") tk, .ref hl⟩] 1) :: news) →
      (∀ p ∈ news, p.1 < dx) → dx < tb → tb < hl → Q (.ref tb) { s with heap := h', toks := tk' }) :
    wpAny (model PG w) A (call (.ref 175) []) Q E s := by
  obtain ⟨f1, f2, f3, f4, f5⟩ := A
  have hh := R.handled
  dsimp only at hh
  subst hh
  refine call_cls F X N (by k_is) (by k_is) (by k_is) ?_
  intro x dx h' FA NA la l2
  have R' : Room (Around.under { depth := f2, frames := f3, guards := f4, units := f5 } (.builtin "type.__call__" ⟨[.ref 175], []⟩)) 5 := by
    refine ⟨?_, ?_, ?_⟩
    · have := R.depth
      dsimp only at this
      rw [depth_under_make]
      dsimp only
      omega
    · have := R.units
      dsimp only at this
      have e : (Around.under { depth := f2, frames := f3, guards := f4, units := f5 } (.builtin "type.__call__" ⟨[.ref 175], []⟩)).units ≤ f5 + 4 := by
        first | (simp [Around.under, Code.cUnits, Code.frames, Code.isFrame]; done) | (unfold Around.under Code.cUnits; decide)
      omega
    · first | rfl | (simp [Around.under]; done)
  refine code_pure [(PySem.Str.ofString "self", .ref x), (PySem.Str.ofString "headers", .none)] R' (X.keeps FA.keep) (T.nolimit.keeps FA.keep) (by k_is) (by k_is) (binds_K (X.keeps FA.keep) rfl (by k_is) rfl rfl rfl) (locs rfl) ?_
  intro L2 h2 tk2 F2
  dsimp only at F2 ⊢
  have hx := (NA _ (.head _))
  have hdx := (NA _ (.tail _ (.head _)))
  have hxd : dx ≠ x := Nat.ne_of_lt l2
  have hL2 : ∀ b o, h'.get? b = some o → b ≠ L2 := fun b o e => Nat.ne_of_lt (Nat.lt_of_lt_of_le (Heap.lt_size e) F2.above)
  have Fg : Fr (hideAll h' [x, dx]) L2 h2 _ := ⟨F2.ns, fun b o e => F2.keep b o (of_hideAll _ e), Nat.le_trans (Nat.le_of_eq (hideAll_size _ _)) F2.above⟩
  have Ng : News (hideAll h' [x, dx]) L2 h2 [(x, instObj 175 dx), (dx, dictOf [] 0)] := by
    intro p hp
    rcases List.mem_cons.mp hp with rfl | hp
    · exact ⟨F2.keep _ _ hx.1, hL2 _ _ hx.1, hideAll_none _ (.head _)⟩
    · rw [List.mem_singleton.mp hp]
      exact ⟨F2.keep _ _ hdx.1, hL2 _ _ hdx.1, hideAll_none _ (.tail _ (.head _))⟩
  have hst : h₀.StaysIn (hideAll h' [x, dx]) := fun b o e => hideAll_get _ (FA.keep b o e) fun hm => by
    rcases List.mem_cons.mp hm with rfl | hm
    · rw [hx.2.2] at e; cases e
    · rw [List.mem_singleton.mp hm, hdx.2.2] at e; cases e
  have Xg := X.keeps hst
  have Tg := T.keeps hst
  have keep : ∀ b o, b ≠ x → b ≠ dx → h'.get? b = some o → (hideAll h' [x, dx]).get? b = some o := fun b o h1 h2 e => hideAll_get _ e (by simp [h1, h2])
  generalize hideAll h' [x, dx] = g at Fg Ng Xg Tg keep
  clear F2 hst X T
  have l2n : @LT.lt Nat _ dx x := l2
  obtain ⟨oL, es, ep, hoL, rL⟩ := FA.ns
  have gL := keep L oL (Ne.symm hx.2.1) (Ne.symm hdx.2.1) hoL
  have g0 : h₀.StaysIn g := fun b o e => keep b o (by rintro rfl; rw [hx.2.2] at e; cases e) (by rintro rfl; rw [hdx.2.2] at e; cases e) (FA.keep b o e)
  have gN : ∀ p ∈ news, g.get? p.1 = some p.2 := fun p hp => keep _ _ (Nat.ne_of_lt (Nat.lt_trans (la p hp) l2)) (Nat.ne_of_lt (la p hp)) (NA p (.tail _ (.tail _ hp))).1
  have ab := FA.above
  have hNA : ∀ p ∈ news, p.1 ≠ L ∧ h₀.get? p.1 = none := fun p hp => (NA p (.tail _ (.tail _ hp))).2
  clear FA NA keep hL2
  (repeat (first | (dsimp only; walk1) | walk1))
  rename Fr g _ _ _ => F6
  rename News g _ _ _ => N6
  have n1 := N6 _ (.head _)
  have n2 := N6 _ (.tail _ (.head _))
  have n3 := N6 _ (.tail _ (.tail _ (.head _)))
  dsimp only at n1 n2 n3
  have q1 := ne_of_some gL n1.2.2
  have q2 := none_sub g0 n1.2.2
  refine ⟨rfl, k x dx _ _ _ _ ⟨⟨oL, es, ep, F6.keep _ _ gL, rL⟩, fun b o e => F6.keep b o (g0 b o e), ab⟩ (news4 ⟨n1.1, q1, q2⟩ ⟨n2.1, hx.2⟩ ⟨n3.1, hdx.2⟩ fun p hp => ⟨F6.keep _ _ (gN p hp), hNA p hp⟩) la l2 ?_⟩
  exact (show @LT.lt Nat _ x _ by omega)
end
end Mine
end
section
namespace Mine
theorem item_last {prog : Program} {w : World} {A : Around} {E : Value → Shared → Prop} {s : Shared} {value slice : Expr} {l : Addr} {ini : List Value} {v : Value} {u : Tok} {Q : Value → Shared → Prop} (hl : s.heap.IsList l (ini ++ [v]).toArray) (h : Q v s)
    (hs : subscripted slice false (.ref l) (.int (-1) u) = operate [.ref l, .int (-1) u] (getItem (.ref l) (.int (-1) u)) := by with_unfolding_all rfl) :
    wpAny (model prog w) A (subscriptTail value slice (.ref l) (.int (-1) u)) Q E s :=
  tail_any hl.typeIs slot_list_getitem.lookup (wpAny_getItem_list_neg hl (by decide) (by simp; omega) (by decide) (by simp; rw [show (-1 + ((ini.length : Int) + 1)).toNat = ini.length by omega]; simp) h) hs
def Flat : PyData → Prop
  | .tuple ds => ∀ d ∈ ds, (∃ i, d = .int i) ∨ (∃ x, d = .str x) ∨ d = .none
  | _ => False
theorem flat_any {h h' : Heap} : ∀ {ds : List PyData} {vs : List Value}, (∀ d ∈ ds, (∃ i, d = .int i) ∨ (∃ x, d = .str x) ∨ d = .none) → AtAll h vs ds → AtAll h' vs ds
  | [], _, _, r => by rw [r.inv_nil]; exact .nil
  | d :: ds, _, hf, r => by
    obtain ⟨v, vs', rfl, r1, r2⟩ := r.inv
    refine .cons ?_ (flat_any (fun d hd => hf d (.tail _ hd)) r2)
    rcases hf d (.head _) with ⟨i, rfl⟩ | ⟨x, rfl⟩ | rfl
    · obtain ⟨t, rfl⟩ := r1.int_inv; exact .int
    · obtain ⟨t, rfl⟩ := r1.str_inv; exact .str
    · obtain ⟨_, r1⟩ := r1; cases r1; exact .none
theorem to_led {h₀ h : Heap} {L : Addr} {m : PySem.Str → Option Value} (F : Fr h₀ L h m) : ∀ {ds : List PyData} {vs : List Value}, (∀ d ∈ ds, Flat d) → AtAll h vs ds →
    ∃ nt, News h₀ L h nt ∧ Bears h₀ nt vs ds ∧ ∀ p ∈ nt, p.2.cls = .type "tuple"
  | [], _, _, r => ⟨[], News.nil, fun h' _ _ => by rw [r.inv_nil]; exact .nil, fun _ hp => nomatch hp⟩
  | d :: ds, _, hf, r => by
    obtain ⟨v, vs', rfl, r1, r2⟩ := r.inv
    obtain ⟨nt, n1, n2, n3⟩ := to_led F (fun d hd => hf d (.tail _ hd)) r2
    have hd := hf d (.head _)
    match d, hd, r1 with
    | .tuple es, hd, r1 =>
      obtain ⟨a, ws, rfl, ⟨o, ho, hc, k, hdat⟩, rw⟩ := r1.tuple_inv
      have hL : a ≠ L := fun e => ns_noSeq F.ns o (e ▸ ho) _ _ hdat
      cases hq : h₀.get? a with
      | some o' =>
        have e := F.keep _ _ hq
        rw [ho] at e
        cases e
        exact ⟨nt, n1, fun h' k1 k2 => .cons (At.tuple ⟨o, k1 _ _ hq, hc, k, hdat⟩ (flat_any hd rw)) (n2 h' k1 k2), n3⟩
      | none =>
        refine ⟨(a, o) :: nt, ?_, fun h' k1 k2 => .cons (At.tuple ⟨o, k2 (a, o) (.head _), hc, k, hdat⟩ (flat_any hd rw)) (n2 h' k1 fun p hp => k2 p (.tail _ hp)), ?_⟩
        · intro p hp
          rcases List.mem_cons.mp hp with rfl | hp
          · exact ⟨ho, hL, hq⟩
          · exact n1 p hp
        · intro p hp
          rcases List.mem_cons.mp hp with rfl | hp
          · exact hc
          · exact n3 p hp
theorem flat_pair (p : Pr2) : Flat (pairD p) := fun d hd => by
  rcases List.mem_cons.mp hd with rfl | hd
  · exact .inr (.inl ⟨_, rfl⟩)
  · rw [List.mem_singleton.mp hd]; exact .inr (.inl ⟨_, rfl⟩)
theorem flat_trip (p : Ent) : Flat (tripD p) := fun d hd => by
  rcases List.mem_cons.mp hd with rfl | hd
  · exact .inl ⟨_, rfl⟩
  · rcases List.mem_cons.mp hd with rfl | hd
    · exact .inr (.inl ⟨_, rfl⟩)
    · rw [List.mem_singleton.mp hd]; exact .inr (.inl ⟨_, rfl⟩)
end Mine
end
section
namespace Mine
theorem oth_eq {x : PySem.Str} {e0 : Ent} : ∀ {rs : List Ent}, (∀ e ∈ rs, (Txt.lower e.2.1 = Txt.lower x ↔ e.1 = e0.1)) → (rs.map prOf).filter (fun p => decide (Txt.lower p.1 ≠ Txt.lower x)) = (othersOf rs e0).map prOf
  | [], _ => rfl
  | e :: rs, h => by
    have ih := oth_eq fun e' he => h e' (.tail _ he)
    have h1 := h e (.head _)
    unfold othersOf at ih ⊢
    rw [List.map_cons, List.filter_cons, List.filter_cons]
    by_cases hc : e.1 = e0.1
    · rw [if_neg (by simpa using h1.mpr hc), if_neg (by simpa using hc), ih]
    · rw [if_pos (by simpa using fun q => hc (h1.mp q)), if_pos (by simpa using hc), List.map_cons, ih]
theorem get_same {x : PySem.Str} {e0 : Ent} {rs : List Ent} (h : ∀ e ∈ rs, (Txt.lower e.2.1 = Txt.lower x ↔ e.1 = e0.1)) : getOf (rs.map prOf) x = ((sameOf rs e0).map (·.2.2)).head? := get_eq h
theorem deed_due {d : Nat} (hd : d < 7) {rs : List Ent} {e0 : Ent} {v : PySem.Str} (h : ∀ e ∈ rs, (Txt.lower e.2.1 = Txt.lower e0.2.1 ↔ e.1 = e0.1)) : deedPs d (rs.map prOf) e0.2.1 e0.2.2 v = (dueRs d rs e0 v).map prOf := by
  have ho := oth_eq h
  have hg := get_same h
  have hdd : d = 0 ∨ d = 1 ∨ d = 2 ∨ d = 3 ∨ d = 4 ∨ d = 5 ∨ d = 6 := by omega
  rcases hdd with rfl | rfl | rfl | rfl | rfl | rfl | rfl
  · simp [deedPs, dueRs]
  · simp only [deedPs, dueRs, List.map_append, List.map_cons, List.map_nil]; rw [ho]
  · unfold deedPs dueRs
    rw [hg]
    cases hs : sameOf rs e0 with
    | nil => simp
    | cons o os => simp
  · simp only [deedPs, dueRs]; exact ho
  · simp [deedPs, dueRs]
  · simp only [deedPs, dueRs]; exact ho
  · rfl
theorem deed_told {d : Nat} (hd : d < 7) {rs : List Ent} {e0 : Ent} (h : ∀ e ∈ rs, (Txt.lower e.2.1 = Txt.lower e0.2.1 ↔ e.1 = e0.1)) : deedV d (rs.map prOf) e0.2.1 e0.2.2 = dueV d rs e0 := by
  have hg := get_same h
  have hdd : d = 0 ∨ d = 1 ∨ d = 2 ∨ d = 3 ∨ d = 4 ∨ d = 5 ∨ d = 6 := by omega
  rcases hdd with rfl | rfl | rfl | rfl | rfl | rfl | rfl
  · rfl
  · rfl
  · unfold deedV dueV
    rw [hg]
    cases hs : sameOf rs e0 with
    | nil => simp
    | cons o os => simp
  · rfl
  · rfl
  · rfl
  · unfold deedV dueV
    rw [hg]
    cases hs : sameOf rs e0 with
    | nil => simp
    | cons o os => simp
end Mine
end
section
namespace Mine
theorem diff_eq : ∀ (L Q miss : List Pr2), L.Nodup → Q.Nodup → diffR L Q miss = (miss ++ L.filter (fun p => decide (p ∉ Q)), Q.filter (fun q => decide (q ∉ L)))
  | [], Q, miss, _, _ => by
    have e : Q.filter (fun q => decide (q ∉ ([] : List Pr2))) = Q := List.filter_eq_self.mpr (fun a _ => by simp)
    rw [e]
    simp [diffR]
  | p :: r, Q, miss, hL, hQ => by
    obtain ⟨h1, h2⟩ := List.nodup_cons.mp hL
    unfold diffR
    by_cases hp : p ∈ Q
    · rw [if_pos hp, diff_eq r (Q.erase p) miss h2 (hQ.erase p)]
      have e1 : r.filter (fun x => decide (x ∉ Q.erase p)) = (p :: r).filter (fun x => decide (x ∉ Q)) := by
        rw [List.filter_cons_of_neg (by simpa using hp)]
        refine List.filter_congr fun x hx => ?_
        have : x ≠ p := fun q => h1 (q ▸ hx)
        exact decide_eq_decide.mpr (not_congr (List.mem_erase_of_ne this))
      have e2 : (Q.erase p).filter (fun q => decide (q ∉ r)) = Q.filter (fun q => decide (q ∉ p :: r)) := by
        rw [hQ.erase_eq_filter, List.filter_filter]
        refine List.filter_congr fun x _ => ?_
        by_cases hx : x = p <;> simp [hx]
      rw [e1, e2]
    · rw [if_neg hp, diff_eq r Q (miss ++ [p]) h2 hQ]
      have e1 : miss ++ [p] ++ r.filter (fun x => decide (x ∉ Q)) = miss ++ (p :: r).filter (fun x => decide (x ∉ Q)) := by
        rw [List.filter_cons_of_pos (by simpa using hp)]; simp
      have e2 : Q.filter (fun q => decide (q ∉ r)) = Q.filter (fun q => decide (q ∉ p :: r)) := by
        refine List.filter_congr fun x hx => ?_
        have : x ≠ p := fun q => hp (q ▸ hx)
        simp [this]
      rw [e1, e2]
theorem diff_due {rs N : List Ent} {f : Ent → Bool} (hd : rs.Pairwise fun a b => a.2.2 ≠ b.2.2) (hN : ∀ q ∈ N, ∀ e ∈ rs, e.2.2 ≠ q.2.2) (hNN : N.length ≤ 1) :
    diffR (rs.map prOf).reverse ((rs.filter f ++ N).map prOf) [] = ((rs.filter fun e => !f e).reverse.map prOf, N.map prOf) := by
  have hne : ∀ {a b : Ent}, a.2.2 ≠ b.2.2 → prOf a ≠ prOf b := fun h e => h (congrArg Prod.snd e)
  have inj : ∀ a ∈ rs, ∀ b ∈ rs, prOf a = prOf b → a = b := by
    intro a ha b hb e
    obtain ⟨i, hi, rfl⟩ := List.getElem_of_mem ha
    obtain ⟨j, hj, rfl⟩ := List.getElem_of_mem hb
    have e2 : rs[i].2.2 = rs[j].2.2 := congrArg Prod.snd e
    have hp := List.pairwise_iff_getElem.mp hd
    rcases Nat.lt_trichotomy i j with q | q | q
    · exact absurd e2 (hp i j hi hj q)
    · subst q; rfl
    · exact absurd e2.symm (hp j i hj hi q)
  have n1 : (rs.map prOf).Nodup := by
    rw [List.nodup_iff_pairwise_ne, List.pairwise_map]
    exact hd.imp fun h => hne h
  have n2 : ((rs.filter f ++ N).map prOf).Nodup := by
    rw [List.nodup_iff_pairwise_ne, List.pairwise_map, List.pairwise_append]
    refine ⟨(hd.sublist List.filter_sublist).imp fun h => hne h, ?_, fun a ha b hb => hne (hN b hb a (List.mem_filter.mp ha).1)⟩
    match N, hNN with
    | [], _ => exact .nil
    | [q], _ => simp
    | _ :: _ :: _, h => simp at h
  have n3 : (rs.map prOf).reverse.Nodup := by
    rw [List.nodup_iff_pairwise_ne, List.pairwise_reverse]
    exact (List.nodup_iff_pairwise_ne.mp n1).imp fun h => h.symm
  rw [diff_eq _ _ _ n3 n2, List.nil_append]
  have m1 : ∀ e ∈ rs, (prOf e ∈ (rs.filter f ++ N).map prOf ↔ f e = true) := by
    intro e he
    constructor
    · intro hm
      obtain ⟨e', he', q⟩ := List.mem_map.mp hm
      rcases List.mem_append.mp he' with h | h
      · obtain ⟨h3, h4⟩ := List.mem_filter.mp h
        rw [← inj e' h3 e he q]; exact h4
      · exact absurd (congrArg Prod.snd q).symm (hN e' h e he)
    · intro h
      exact List.mem_map_of_mem (List.mem_append_left _ (List.mem_filter.mpr ⟨he, h⟩))
  refine Prod.ext ?_ ?_
  · show (rs.map prOf).reverse.filter _ = _
    rw [List.filter_reverse, List.map_reverse, List.filter_map]
    congr 2
    refine List.filter_congr fun e he => ?_
    show decide (prOf e ∉ _) = !f e
    have := m1 e he
    by_cases hf : f e = true
    · rw [hf, decide_eq_false (fun h => h (this.mpr hf))]; rfl
    · have hq : prOf e ∉ (rs.filter f ++ N).map prOf := fun h => hf (this.mp h)
      rw [decide_eq_true hq]; simp [hf]
  · show ((rs.filter f ++ N).map prOf).filter _ = _
    rw [List.map_append, List.filter_append]
    have z1 : ((rs.filter f).map prOf).filter (fun q => decide (q ∉ (rs.map prOf).reverse)) = [] := by
      rw [List.filter_eq_nil_iff]
      intro q hq
      obtain ⟨e, he, rfl⟩ := List.mem_map.mp hq
      have : prOf e ∈ rs.map prOf := List.mem_map_of_mem (List.mem_filter.mp he).1
      simpa using this
    have z2 : (N.map prOf).filter (fun q => decide (q ∉ (rs.map prOf).reverse)) = N.map prOf := by
      rw [List.filter_eq_self]
      intro q hq
      obtain ⟨e, he, rfl⟩ := List.mem_map.mp hq
      refine decide_eq_true fun hm => ?_
      obtain ⟨e', he', q⟩ := List.mem_map.mp (List.mem_reverse.mp hm)
      exact hN e he e' he' (congrArg Prod.snd q)
    rw [z1, z2, List.nil_append]
end Mine
end
section
set_option maxRecDepth 100000
namespace Mine
theorem mask_iff (n b : Nat) : n &&& b = b ↔ ∀ i, b.testBit i = true → n.testBit i = true := by
  constructor
  · intro h i hb
    have := congrArg (fun x => x.testBit i) h
    simp only [Nat.testBit_and, hb, Bool.and_true] at this
    exact this
  · intro h
    apply Nat.eq_of_testBit_eq
    intro i
    rw [Nat.testBit_and]
    cases hb : b.testBit i with
    | false => simp
    | true => simp [h i hb]
theorem bit_div (n i : Nat) : n.testBit i = decide (n / 2 ^ i % 2 = 1) := Nat.testBit_eq_decide_div_mod_eq
theorem mask_one (n k : Nat) (hk : k < 16) : n &&& 2 ^ k = 2 ^ k ↔ n / 2 ^ k % 2 = 1 := by
  rw [mask_iff]
  constructor
  · intro h
    have := h k (Nat.testBit_two_pow_self)
    rw [bit_div] at this
    exact of_decide_eq_true this
  · intro h i hi
    rw [Nat.testBit_two_pow] at hi
    have : k = i := by simpa using hi
    subst this
    rw [bit_div]
    exact decide_eq_true h
theorem mask_two (n j k b : Nat) (hb : ∀ i, b.testBit i = true ↔ i = j ∨ i = k) : n &&& b = b ↔ n / 2 ^ j % 2 = 1 ∧ n / 2 ^ k % 2 = 1 := by
  rw [mask_iff]
  constructor
  · intro h
    have h1 := h j ((hb j).mpr (.inl rfl))
    have h2 := h k ((hb k).mpr (.inr rfl))
    rw [bit_div] at h1 h2
    exact ⟨of_decide_eq_true h1, of_decide_eq_true h2⟩
  · intro h i hi
    rw [bit_div]
    rcases (hb i).mp hi with rfl | rfl
    · exact decide_eq_true h.1
    · exact decide_eq_true h.2
theorem kind_mask (n : Nat) : n &&& 61440 = (n / 4096 % 16) * 4096 := by
  apply Nat.eq_of_testBit_eq
  intro i
  rw [Nat.testBit_and, show (61440 : Nat) = (2 ^ 4 - 1) * 2 ^ 12 from rfl, show (4096 : Nat) = 2 ^ 12 from rfl, show (16 : Nat) = 2 ^ 4 from rfl,
    Nat.testBit_mul_two_pow, Nat.testBit_mul_two_pow, Nat.testBit_two_pow_sub_one, Nat.testBit_mod_two_pow, Nat.testBit_div_two_pow]
  by_cases h : 12 ≤ i
  · simp [h]
    rw [Bool.and_comm]
  · simp [h]
theorem bitAnd_nat (n b : Nat) : Builtin.bitAnd (n : Int) (b : Int) = ((n &&& b : Nat) : Int) := by
  unfold Builtin.bitAnd
  simp
end Mine
end
section
set_option maxRecDepth 100000
namespace Mine
abbrev sg1 (c : String) (b : Nat) : PySem.Str := if b = 1 then PySem.Str.ofString c else PySem.Str.ofString "-"
abbrev sg3 (s S : String) (x o : Nat) : PySem.Str := if x = 1 ∧ o = 1 then PySem.Str.ofString s else if o = 1 then PySem.Str.ofString S else if x = 1 then PySem.Str.ofString "x" else PySem.Str.ofString "-"
theorem hit_one (n k i : Nat) (hi : i ≠ 0) (hk : k < 16) : hits i (n : Int) ((2 ^ k : Nat) : Int) = decide (n / 2 ^ k % 2 = 1) := by
  unfold hits
  rw [if_neg hi, bitAnd_nat, Bool.eq_iff_iff, decide_eq_true_iff, decide_eq_true_iff, ← mask_one n k hk]
  exact Int.ofNat_inj
theorem hit_two (n j k b i : Nat) (hi : i ≠ 0) (hb : ∀ i, b.testBit i = true ↔ i = j ∨ i = k) : hits i (n : Int) (b : Int) = decide (n / 2 ^ j % 2 = 1 ∧ n / 2 ^ k % 2 = 1) := by
  unfold hits
  rw [if_neg hi, bitAnd_nat, Bool.eq_iff_iff, decide_eq_true_iff, decide_eq_true_iff, ← mask_two n j k b hb]
  exact Int.ofNat_inj
theorem bits2 (j k b : Nat) (hb : b < 2 ^ 16) (h : ∀ i, i < 16 → (b.testBit i = true ↔ i = j ∨ i = k)) (hj : j < 16) (hk : k < 16) : ∀ i, b.testBit i = true ↔ i = j ∨ i = k := by
  intro i
  rcases Nat.lt_or_ge i 16 with q | q
  · exact h i q
  · rw [Nat.testBit_lt_two_pow (Nat.lt_of_lt_of_le hb (Nat.pow_le_pow_right (by decide) q))]
    constructor
    · intro e; cases e
    · rintro (rfl | rfl) <;> omega
theorem sign_one (n k i : Nat) (c : String) (hi : i ≠ 0) (hk : k < 16) (he : ents i = [(((2 ^ k : Nat) : Int), PySem.Str.ofString c)]) : signOf (n : Int) i = sg1 c (n / 2 ^ k % 2) := by
  unfold signOf
  rw [he, List.find?_cons]
  dsimp only
  rw [hit_one n k i hi hk]
  by_cases h : n / 2 ^ k % 2 = 1
  · rw [decide_eq_true h, sg1, if_pos h]
  · rw [decide_eq_false h, sg1, if_neg h, List.find?_nil, if_neg hi]
theorem sign_three (n j k b i : Nat) (s S : String) (hi : i ≠ 0) (hj : j < 16) (hk : k < 16) (hb : ∀ i, b.testBit i = true ↔ i = j ∨ i = k)
    (he : ents i = [((b : Int), PySem.Str.ofString s), (((2 ^ k : Nat) : Int), PySem.Str.ofString S), (((2 ^ j : Nat) : Int), PySem.Str.ofString "x")]) : signOf (n : Int) i = sg3 s S (n / 2 ^ j % 2) (n / 2 ^ k % 2) := by
  unfold signOf
  rw [he, List.find?_cons, List.find?_cons, List.find?_cons]
  dsimp only
  rw [hit_one n k i hi hk, hit_one n j i hi hj, hit_two n j k b i hi hb]
  unfold sg3
  by_cases h1 : n / 2 ^ j % 2 = 1 <;> by_cases h2 : n / 2 ^ k % 2 = 1 <;> simp [h1, h2, hi]
theorem sign_zero (n : Nat) : signOf (n : Int) 0 = Txt.item (PySem.Str.ofString "?pc?d?b?-?l?s???") ((n / 4096 % 16 : Nat) : Int) := by
  have key : ∀ k : Fin 16, (match (ents 0).find? (fun e => decide ((((k.val * 4096 : Nat) : Int)) = e.1)) with | some e => e.2 | none => PySem.Str.ofString "?") = Txt.item (PySem.Str.ofString "?pc?d?b?-?l?s???") (k.val : Int) := by decide +kernel
  have h : ∀ b : Int, hits 0 (n : Int) b = decide ((((n / 4096 % 16) * 4096 : Nat) : Int) = b) := fun b => by
    unfold hits
    rw [if_pos rfl, show (61440 : Int) = ((61440 : Nat) : Int) from rfl, bitAnd_nat, kind_mask]
  have := key ⟨n / 4096 % 16, by omega⟩
  unfold signOf
  simp only [h]
  exact this
end Mine
end
section
set_option maxRecDepth 100000
namespace Mine
theorem fd (a : Int) (b : Nat) : a.fdiv (b : Int) = a / (b : Int) := Int.fdiv_eq_ediv_of_nonneg _ (Int.natCast_nonneg b)
theorem fm (a : Int) (b : Nat) : a.fmod (b : Int) = a % (b : Int) := Int.fmod_eq_emod_of_nonneg _ (Int.natCast_nonneg b)
theorem fdl (a b : Int) (hb : 0 ≤ b) : a.fdiv b = a / b := Int.fdiv_eq_ediv_of_nonneg _ hb
theorem fml (a b : Int) (hb : 0 ≤ b) : a.fmod b = a % b := Int.fmod_eq_emod_of_nonneg _ hb
theorem item1 (t c : String) (hc : Txt.item (PySem.Str.ofString t) 1 = PySem.Str.ofString c) (h0 : Txt.item (PySem.Str.ofString t) 0 = PySem.Str.ofString "-") (i : Int) (b : Nat) (hi : i = (b : Int)) (hb : b < 2) : Txt.item (PySem.Str.ofString t) i = sg1 c b := by
  subst hi
  match b, hb with
  | 0, _ => exact h0
  | 1, _ => exact hc
theorem item3 (t s S : String) (h0 : Txt.item (PySem.Str.ofString t) 0 = PySem.Str.ofString "-") (h1 : Txt.item (PySem.Str.ofString t) 1 = PySem.Str.ofString "x") (h2 : Txt.item (PySem.Str.ofString t) 2 = PySem.Str.ofString S) (h3 : Txt.item (PySem.Str.ofString t) 3 = PySem.Str.ofString s)
    (i : Int) (x o : Nat) (hi : i = 2 * (o : Int) + (x : Int)) (hx : x < 2) (ho : o < 2) : Txt.item (PySem.Str.ofString t) i = sg3 s S x o := by
  subst hi
  match x, o, hx, ho with
  | 0, 0, _, _ => exact h0
  | 1, 0, _, _ => exact h1
  | 0, 1, _, _ => exact h2
  | 1, 1, _, _ => exact h3
def signs (n : Nat) : List PySem.Str := [Txt.item (PySem.Str.ofString "?pc?d?b?-?l?s???") ((n / 4096 % 16 : Nat) : Int),
  sg1 "r" (n / 2 ^ 8 % 2), sg1 "w" (n / 2 ^ 7 % 2), sg3 "s" "S" (n / 2 ^ 6 % 2) (n / 2 ^ 11 % 2),
  sg1 "r" (n / 2 ^ 5 % 2), sg1 "w" (n / 2 ^ 4 % 2), sg3 "s" "S" (n / 2 ^ 3 % 2) (n / 2 ^ 10 % 2),
  sg1 "r" (n / 2 ^ 2 % 2), sg1 "w" (n / 2 ^ 1 % 2), sg3 "t" "T" (n / 2 ^ 0 % 2) (n / 2 ^ 9 % 2)]
theorem fm_signs (n : Nat) : fmI (n : Int) = Txt.join (PySem.Str.ofString "") (signs n) := by
  unfold fmI
  have e : (List.range 10).map (signOf (n : Int)) = [signOf n 0, signOf n 1, signOf n 2, signOf n 3, signOf n 4, signOf n 5, signOf n 6, signOf n 7, signOf n 8, signOf n 9] := rfl
  rw [e, sign_zero, sign_one n 8 1 "r" (by decide) (by decide) rfl, sign_one n 7 2 "w" (by decide) (by decide) rfl,
    sign_three n 6 11 2112 3 "s" "S" (by decide) (by decide) (by decide) (bits2 6 11 2112 (by decide) (by decide) (by decide) (by decide)) rfl,
    sign_one n 5 4 "r" (by decide) (by decide) rfl, sign_one n 4 5 "w" (by decide) (by decide) rfl,
    sign_three n 3 10 1032 6 "s" "S" (by decide) (by decide) (by decide) (bits2 3 10 1032 (by decide) (by decide) (by decide) (by decide)) rfl,
    sign_one n 2 7 "r" (by decide) (by decide) rfl, sign_one n 1 8 "w" (by decide) (by decide) rfl,
    sign_three n 0 9 513 9 "t" "T" (by decide) (by decide) (by decide) (bits2 0 9 513 (by decide) (by decide) (by decide) (by decide)) rfl]
  rfl
theorem int_div (n A : Nat) : (n : Int) / (A : Int) = ((n / A : Nat) : Int) := rfl
theorem fig2 (n A : Nat) : (n : Int) / (A : Int) % 8 / 2 = 2 * ((n / (A * 4) % 2 : Nat) : Int) + ((n / (A * 2) % 2 : Nat) : Int) := by
  rw [int_div, ← Nat.div_div_eq_div_mul, ← Nat.div_div_eq_div_mul]
  generalize n / A = q
  omega
theorem fig1 (n A : Nat) : (n : Int) / (A : Int) % 8 % 2 = ((n / (A * 1) % 2 : Nat) : Int) := by
  rw [int_div, Nat.mul_one]
  generalize n / A = q
  omega
theorem figr (n A : Nat) : (n : Int) / (A : Int) % 8 / 4 = ((n / (A * 4) % 2 : Nat) : Int) := by
  rw [int_div, ← Nat.div_div_eq_div_mul]
  generalize n / A = q
  omega
theorem figw (n A : Nat) : (n : Int) / (A : Int) % 8 / 2 % 2 = ((n / (A * 2) % 2 : Nat) : Int) := by
  rw [int_div, ← Nat.div_div_eq_div_mul]
  generalize n / A = q
  omega
theorem fover (n o : Nat) : (n : Int) / 512 / (o : Int) % 2 = ((n / (512 * o) % 2 : Nat) : Int) := by
  rw [show (n : Int) / 512 = ((n / 512 : Nat) : Int) from rfl, int_div, Nat.div_div_eq_div_mul]
  rfl
theorem fboth (n o A : Nat) : 2 * ((n : Int) / 512 / (o : Int) % 2) + (n : Int) / (A : Int) % 8 % 2 = 2 * ((n / (512 * o) % 2 : Nat) : Int) + ((n / (A * 1) % 2 : Nat) : Int) := by rw [fover, fig1]
theorem two_lt (n : Nat) : n % 2 < 2 := Nat.mod_lt _ (by decide)
theorem row_signs (n : Nat) : rowI (n : Int) = Txt.join (PySem.Str.ofString "") (signs n) := by
  unfold rowI signs
  simp only [fdl _ _ (show (0 : Int) ≤ 4096 by decide), fdl _ _ (show (0 : Int) ≤ 64 by decide), fdl _ _ (show (0 : Int) ≤ 8 by decide), fdl _ _ (show (0 : Int) ≤ 1 by decide), fdl _ _ (show (0 : Int) ≤ 512 by decide), fdl _ _ (show (0 : Int) ≤ 4 by decide), fdl _ _ (show (0 : Int) ≤ 2 by decide),
    fml _ _ (show (0 : Int) ≤ 16 by decide), fml _ _ (show (0 : Int) ≤ 8 by decide), fml _ _ (show (0 : Int) ≤ 2 by decide)]
  rw [show (n : Int) / 4096 % 16 = ((n / 4096 % 16 : Nat) : Int) from rfl,
    item1 "-r" "r" (by decide +kernel) (by decide +kernel) ((n : Int) / 64 % 8 / 4) (n / 2 ^ 8 % 2) (figr n 64) (two_lt _),
    item1 "-w" "w" (by decide +kernel) (by decide +kernel) ((n : Int) / 64 % 8 / 2 % 2) (n / 2 ^ 7 % 2) (figw n 64) (two_lt _),
    item3 "-xSs" "s" "S" (by decide +kernel) (by decide +kernel) (by decide +kernel) (by decide +kernel) (2 * ((n : Int) / 512 / 4 % 2) + (n : Int) / 64 % 8 % 2) (n / 2 ^ 6 % 2) (n / 2 ^ 11 % 2) (fboth n 4 64) (two_lt _) (two_lt _),
    item1 "-r" "r" (by decide +kernel) (by decide +kernel) ((n : Int) / 8 % 8 / 4) (n / 2 ^ 5 % 2) (figr n 8) (two_lt _),
    item1 "-w" "w" (by decide +kernel) (by decide +kernel) ((n : Int) / 8 % 8 / 2 % 2) (n / 2 ^ 4 % 2) (figw n 8) (two_lt _),
    item3 "-xSs" "s" "S" (by decide +kernel) (by decide +kernel) (by decide +kernel) (by decide +kernel) (2 * ((n : Int) / 512 / 2 % 2) + (n : Int) / 8 % 8 % 2) (n / 2 ^ 3 % 2) (n / 2 ^ 10 % 2) (fboth n 2 8) (two_lt _) (two_lt _),
    item1 "-r" "r" (by decide +kernel) (by decide +kernel) ((n : Int) / 1 % 8 / 4) (n / 2 ^ 2 % 2) (figr n 1) (two_lt _),
    item1 "-w" "w" (by decide +kernel) (by decide +kernel) ((n : Int) / 1 % 8 / 2 % 2) (n / 2 ^ 1 % 2) (figw n 1) (two_lt _),
    item3 "-xTt" "t" "T" (by decide +kernel) (by decide +kernel) (by decide +kernel) (by decide +kernel) (2 * ((n : Int) / 512 / 1 % 2) + (n : Int) / 1 % 8 % 2) (n / 2 ^ 0 % 2) (n / 2 ^ 9 % 2) (fboth n 1 1) (two_lt _) (two_lt _)]
theorem fm_row (m : Int) (h : 0 ≤ m) : fmI m = rowI m := by
  obtain ⟨n, rfl⟩ := Int.eq_ofNat_of_zero_le h
  rw [fm_signs, row_signs]
end Mine
end
section
set_option maxRecDepth 100000
namespace Mine
theorem join_cps : ∀ l : List PySem.Str, (Txt.join (PySem.Str.ofString "") l).cps.toList = (l.map (·.cps.toList)).flatten := by
  intro l
  rw [show Txt.join (PySem.Str.ofString "") l = PySem.Str.join (PySem.Str.ofString "") l from StrLaws.glued_eq_join _ _]
  induction l with
  | nil => rfl
  | cons x l ih =>
    cases l with
    | nil => show x.cps.toList = _; simp
    | cons y l =>
      show (x ++ PySem.Str.ofString "" ++ PySem.Str.join (PySem.Str.ofString "") (y :: l)).cps.toList = _
      rw [List.map_cons, List.flatten_cons, ← ih]
      show ((x.cps ++ #[]) ++ (PySem.Str.join (PySem.Str.ofString "") (y :: l)).cps).toList = _
      simp
theorem lex_step {a b x y B : Nat} {P : Prop} (hx : x < B) (hy : y < B) (h : P ↔ x < y) : (a < b ∨ a = b ∧ P) ↔ a * B + x < b * B + y := by
  constructor
  · rintro (q | ⟨rfl, q⟩)
    · have : (a + 1) * B ≤ b * B := Nat.mul_le_mul_right _ q
      rw [Nat.add_mul, Nat.one_mul] at this
      omega
    · have := h.mp q; omega
  · intro q
    rcases Nat.lt_trichotomy a b with r | rfl | r
    · exact .inl r
    · exact .inr ⟨rfl, h.mpr (by omega)⟩
    · have : (b + 1) * B ≤ a * B := Nat.mul_le_mul_right _ r
      rw [Nat.add_mul, Nat.one_mul] at this
      omega
def kcode (d : Nat) : Nat := [45, 63, 98, 99, 100, 108, 112, 115].getD d 0
def rcode (d : Nat) : Nat := if d = 1 then 114 else 45
def wcode (d : Nat) : Nat := if d = 1 then 119 else 45
def scode (d : Nat) : Nat := if d = 1 then 115 else if d = 2 then 120 else 45
def tcode (d : Nat) : Nat := if d = 1 then 116 else if d = 2 then 120 else 45
theorem kmono : ∀ a b : Fin 8, (kcode a.val < kcode b.val ↔ a.val < b.val) ∧ (kcode a.val = kcode b.val ↔ a.val = b.val) := by decide +kernel
theorem rmono : ∀ a b : Fin 2, (rcode a.val < rcode b.val ↔ a.val < b.val) ∧ (rcode a.val = rcode b.val ↔ a.val = b.val) := by decide +kernel
theorem wmono : ∀ a b : Fin 2, (wcode a.val < wcode b.val ↔ a.val < b.val) ∧ (wcode a.val = wcode b.val ↔ a.val = b.val) := by decide +kernel
theorem smono : ∀ a b : Fin 3, (scode a.val < scode b.val ↔ a.val < b.val) ∧ (scode a.val = scode b.val ↔ a.val = b.val) := by decide +kernel
theorem tmono : ∀ a b : Fin 3, (tcode a.val < tcode b.val ↔ a.val < b.val) ∧ (tcode a.val = tcode b.val ↔ a.val = b.val) := by decide +kernel
structure Digs where
  k : Fin 8
  r1 : Fin 2
  w1 : Fin 2
  x1 : Fin 3
  r2 : Fin 2
  w2 : Fin 2
  x2 : Fin 3
  r3 : Fin 2
  w3 : Fin 2
  x3 : Fin 3
def Digs.codes (d : Digs) : List Nat := [kcode d.k, rcode d.r1, wcode d.w1, scode d.x1, rcode d.r2, wcode d.w2, scode d.x2, rcode d.r3, wcode d.w3, tcode d.x3]
def Digs.num (d : Digs) : Nat := d.k.val * 1728 + (d.r1.val * 864 + (d.w1.val * 432 + (d.x1.val * 144 + (d.r2.val * 72 + (d.w2.val * 36 + (d.x2.val * 12 + (d.r3.val * 6 + (d.w3.val * 3 + d.x3.val))))))))
theorem bs {r x R B C : Nat} (hr : r < R) (hx : x < B) (e : R * B = C) : r * B + x < C := by
  have h1 : (r + 1) * B ≤ R * B := Nat.mul_le_mul_right _ hr
  rw [Nat.add_mul, Nat.one_mul] at h1
  omega
theorem ds {a b x y B : Nat} (h : a * B + x = b * B + y) (hx : x < B) (hy : y < B) : a = b ∧ x = y := by
  have hB : 0 < B := Nat.lt_of_le_of_lt (Nat.zero_le _) hx
  have h1 : a = b := by
    have e1 : (a * B + x) / B = a := by rw [Nat.mul_comm, Nat.mul_add_div hB, Nat.div_eq_of_lt hx, Nat.add_zero]
    have e2 : (b * B + y) / B = b := by rw [Nat.mul_comm, Nat.mul_add_div hB, Nat.div_eq_of_lt hy, Nat.add_zero]
    rw [← e1, h, e2]
  subst h1
  exact ⟨rfl, Nat.add_left_cancel h⟩
theorem Digs.t8 (d : Digs) : d.w3.val * 3 + d.x3.val < 6 := bs d.w3.isLt d.x3.isLt rfl
theorem Digs.t7 (d : Digs) : d.r3.val * 6 + (d.w3.val * 3 + d.x3.val) < 12 := bs d.r3.isLt d.t8 rfl
theorem Digs.t6 (d : Digs) : d.x2.val * 12 + (d.r3.val * 6 + (d.w3.val * 3 + d.x3.val)) < 36 := bs d.x2.isLt d.t7 rfl
theorem Digs.t5 (d : Digs) : d.w2.val * 36 + (d.x2.val * 12 + (d.r3.val * 6 + (d.w3.val * 3 + d.x3.val))) < 72 := bs d.w2.isLt d.t6 rfl
theorem Digs.t4 (d : Digs) : d.r2.val * 72 + (d.w2.val * 36 + (d.x2.val * 12 + (d.r3.val * 6 + (d.w3.val * 3 + d.x3.val)))) < 144 := bs d.r2.isLt d.t5 rfl
theorem Digs.t3 (d : Digs) : d.x1.val * 144 + (d.r2.val * 72 + (d.w2.val * 36 + (d.x2.val * 12 + (d.r3.val * 6 + (d.w3.val * 3 + d.x3.val))))) < 432 := bs d.x1.isLt d.t4 rfl
theorem Digs.t2 (d : Digs) : d.w1.val * 432 + (d.x1.val * 144 + (d.r2.val * 72 + (d.w2.val * 36 + (d.x2.val * 12 + (d.r3.val * 6 + (d.w3.val * 3 + d.x3.val)))))) < 864 := bs d.w1.isLt d.t3 rfl
theorem Digs.t1 (d : Digs) : d.r1.val * 864 + (d.w1.val * 432 + (d.x1.val * 144 + (d.r2.val * 72 + (d.w2.val * 36 + (d.x2.val * 12 + (d.r3.val * 6 + (d.w3.val * 3 + d.x3.val))))))) < 1728 := bs d.r1.isLt d.t2 rfl
theorem codes_lt (d e : Digs) : d.codes < e.codes ↔ d.num < e.num := by
  obtain ⟨k, r1, w1, x1, r2, w2, x2, r3, w3, x3⟩ := d
  obtain ⟨k', r1', w1', x1', r2', w2', x2', r3', w3', x3'⟩ := e
  unfold Digs.codes Digs.num
  dsimp only
  simp only [List.cons_lt_cons_iff, (kmono k k').1, (kmono k k').2, (rmono r1 r1').1, (rmono r1 r1').2, (wmono w1 w1').1, (wmono w1 w1').2, (smono x1 x1').1, (smono x1 x1').2,
    (rmono r2 r2').1, (rmono r2 r2').2, (wmono w2 w2').1, (wmono w2 w2').2, (smono x2 x2').1, (smono x2 x2').2, (rmono r3 r3').1, (rmono r3 r3').2, (wmono w3 w3').1, (wmono w3 w3').2, (tmono x3 x3').1, (tmono x3 x3').2]
  have hl : (x3.val < x3'.val ∨ x3.val = x3'.val ∧ ([] : List Nat) < []) ↔ x3.val < x3'.val := by simp
  rw [hl]
  exact lex_step (Digs.t1 (⟨k, r1, w1, x1, r2, w2, x2, r3, w3, x3⟩ : Digs)) (Digs.t1 (⟨k', r1', w1', x1', r2', w2', x2', r3', w3', x3'⟩ : Digs)) (lex_step (Digs.t2 (⟨k, r1, w1, x1, r2, w2, x2, r3, w3, x3⟩ : Digs)) (Digs.t2 (⟨k', r1', w1', x1', r2', w2', x2', r3', w3', x3'⟩ : Digs)) (lex_step (Digs.t3 (⟨k, r1, w1, x1, r2, w2, x2, r3, w3, x3⟩ : Digs)) (Digs.t3 (⟨k', r1', w1', x1', r2', w2', x2', r3', w3', x3'⟩ : Digs)) (lex_step (Digs.t4 (⟨k, r1, w1, x1, r2, w2, x2, r3, w3, x3⟩ : Digs)) (Digs.t4 (⟨k', r1', w1', x1', r2', w2', x2', r3', w3', x3'⟩ : Digs)) (lex_step (Digs.t5 (⟨k, r1, w1, x1, r2, w2, x2, r3, w3, x3⟩ : Digs)) (Digs.t5 (⟨k', r1', w1', x1', r2', w2', x2', r3', w3', x3'⟩ : Digs)) (lex_step (Digs.t6 (⟨k, r1, w1, x1, r2, w2, x2, r3, w3, x3⟩ : Digs)) (Digs.t6 (⟨k', r1', w1', x1', r2', w2', x2', r3', w3', x3'⟩ : Digs)) (lex_step (Digs.t7 (⟨k, r1, w1, x1, r2, w2, x2, r3, w3, x3⟩ : Digs)) (Digs.t7 (⟨k', r1', w1', x1', r2', w2', x2', r3', w3', x3'⟩ : Digs)) (lex_step (Digs.t8 (⟨k, r1, w1, x1, r2, w2, x2, r3, w3, x3⟩ : Digs)) (Digs.t8 (⟨k', r1', w1', x1', r2', w2', x2', r3', w3', x3'⟩ : Digs)) (lex_step x3.isLt x3'.isLt (Iff.rfl)))))))))
end Mine
end
section
set_option maxRecDepth 100000
namespace Mine
def krank (k : Fin 16) : Fin 8 := [1, 6, 3, 1, 4, 1, 2, 1, 0, 1, 5, 1, 7, 1, 1, 1].getD k.val 0
def bit (n k : Nat) : Fin 2 := ⟨n / 2 ^ k % 2, by omega⟩
def tri (n j k : Nat) : Fin 3 := if n / 2 ^ k % 2 = 1 then 1 else ⟨2 * (n / 2 ^ j % 2), by omega⟩
def digs (n : Nat) : Digs := ⟨krank ⟨n / 4096 % 16, by omega⟩, bit n 8, bit n 7, tri n 6 11, bit n 5, bit n 4, tri n 3 10, bit n 2, bit n 1, tri n 0 9⟩
theorem kind_code : ∀ k : Fin 16, ((Txt.item (PySem.Str.ofString "?pc?d?b?-?l?s???") (k.val : Int)).cps.toList).map lo1 = [kcode (krank k).val] := by decide +kernel
theorem kind_lt : ∀ k : Fin 16, ∀ c ∈ (Txt.item (PySem.Str.ofString "?pc?d?b?-?l?s???") (k.val : Int)).cps.toList, c < 128 := by decide +kernel
theorem kind_find : ∀ k : Fin 16, Txt.find (PySem.Str.ofString "-?bcdlps") (Txt.item (PySem.Str.ofString "?pc?d?b?-?l?s???") (k.val : Int)) = ((krank k).val : Int) := by decide +kernel
theorem r_code (b : Nat) : ((sg1 "r" b).cps.toList).map lo1 = [rcode b] := by unfold sg1 rcode; split <;> decide +kernel
theorem w_code (b : Nat) : ((sg1 "w" b).cps.toList).map lo1 = [wcode b] := by unfold sg1 wcode; split <;> decide +kernel
theorem tri_val (n j k : Nat) : (tri n j k).val = if n / 2 ^ k % 2 = 1 then 1 else 2 * (n / 2 ^ j % 2) := by unfold tri; split <;> rfl
theorem s_tab : ∀ x o : Fin 2, ((sg3 "s" "S" x.val o.val).cps.toList).map lo1 = [scode (if o.val = 1 then 1 else 2 * x.val)] := by decide +kernel
theorem t_tab : ∀ x o : Fin 2, ((sg3 "t" "T" x.val o.val).cps.toList).map lo1 = [tcode (if o.val = 1 then 1 else 2 * x.val)] := by decide +kernel
theorem s_code (n j k : Nat) : ((sg3 "s" "S" (n / 2 ^ j % 2) (n / 2 ^ k % 2)).cps.toList).map lo1 = [scode (tri n j k).val] := by
  rw [tri_val]; exact s_tab (bit n j) (bit n k)
theorem t_code (n j k : Nat) : ((sg3 "t" "T" (n / 2 ^ j % 2) (n / 2 ^ k % 2)).cps.toList).map lo1 = [tcode (tri n j k).val] := by
  rw [tri_val]; exact t_tab (bit n j) (bit n k)
theorem sg1_lt (c : String) (hc : ∀ x ∈ (PySem.Str.ofString c).cps.toList, x < 128) (b : Nat) : ∀ x ∈ (sg1 c b).cps.toList, x < 128 := by
  unfold sg1; split
  · exact hc
  · decide +kernel
theorem sg3_lt (s S : String) (h1 : ∀ x ∈ (PySem.Str.ofString s).cps.toList, x < 128) (h2 : ∀ x ∈ (PySem.Str.ofString S).cps.toList, x < 128) (b o : Nat) : ∀ x ∈ (sg3 s S b o).cps.toList, x < 128 := by
  unfold sg3; split
  · exact h1
  · split
    · exact h2
    · split <;> decide +kernel
theorem signs_lt (n : Nat) : ∀ x ∈ signs n, ∀ c ∈ x.cps.toList, c < 128 := by
  intro x hx
  unfold signs at hx
  simp only [List.mem_cons, List.not_mem_nil, or_false] at hx
  rcases hx with rfl | rfl | rfl | rfl | rfl | rfl | rfl | rfl | rfl | rfl
  · exact kind_lt ⟨n / 4096 % 16, by omega⟩
  · exact sg1_lt _ (by decide +kernel) _
  · exact sg1_lt _ (by decide +kernel) _
  · exact sg3_lt _ _ (by decide +kernel) (by decide +kernel) _ _
  · exact sg1_lt _ (by decide +kernel) _
  · exact sg1_lt _ (by decide +kernel) _
  · exact sg3_lt _ _ (by decide +kernel) (by decide +kernel) _ _
  · exact sg1_lt _ (by decide +kernel) _
  · exact sg1_lt _ (by decide +kernel) _
  · exact sg3_lt _ _ (by decide +kernel) (by decide +kernel) _ _
theorem fm_ascii (n : Nat) : ∀ c ∈ (fmI (n : Int)).cps.toList, c < 128 := by
  intro c hc
  rw [fm_signs, join_cps, List.mem_flatten] at hc
  obtain ⟨l, hl, hc⟩ := hc
  obtain ⟨x, hx, rfl⟩ := List.mem_map.mp hl
  exact signs_lt n x hx c hc
theorem lower_codes (n : Nat) : (Txt.lower (fmI (n : Int))).cps.toList = (digs n).codes := by
  rw [lower_ascii (fm_ascii n)]
  show (Array.map lo1 (fmI (n : Int)).cps).toList = _
  rw [Array.toList_map, fm_signs, join_cps, List.map_flatten, List.map_map]
  unfold signs
  simp only [List.map_cons, List.map_nil, Function.comp]
  rw [kind_code ⟨n / 4096 % 16, by omega⟩, r_code, w_code, s_code, r_code, w_code, s_code, r_code, w_code, t_code]
  rfl
theorem one_iff {a : Int} {b : Nat} (h : a = (b : Int)) : a = 1 ↔ b = 1 := by rw [h]; exact Int.ofNat_inj
theorem ite_int (c : Prop) [Decidable c] (a : Nat) : (if c then (1 : Int) else 2 * (a : Int)) = ((if c then 1 else 2 * a : Nat) : Int) := by split <;> rfl
set_option maxHeartbeats 4000000 in
theorem rank_num (n : Nat) : rankI (n : Int) = ((digs n).num : Int) := by
  have d1 : ∀ o f : Int, 0 ≤ o → 0 ≤ f → digI (n : Int) o f = if ((n : Int) / 512) / o % 2 = 1 then 1 else 2 * ((n : Int) / f % 8 % 2) := fun o f ho hf => by
    unfold digI
    rw [fdl _ _ (by decide : (0 : Int) ≤ 512), fdl _ _ ho, fml _ _ (by decide : (0 : Int) ≤ 2), fdl _ _ hf, fml _ _ (by decide : (0 : Int) ≤ 8), fml _ _ (by decide : (0 : Int) ≤ 2)]
  unfold rankI
  rw [d1 4 64 (by decide) (by decide), d1 2 8 (by decide) (by decide), d1 1 1 (by decide) (by decide)]
  simp only [fdl _ _ (show (0 : Int) ≤ 4096 by decide), fdl _ _ (show (0 : Int) ≤ 64 by decide), fdl _ _ (show (0 : Int) ≤ 8 by decide), fdl _ _ (show (0 : Int) ≤ 1 by decide), fdl _ _ (show (0 : Int) ≤ 2 by decide), fml _ _ (show (0 : Int) ≤ 16 by decide), fml _ _ (show (0 : Int) ≤ 8 by decide)]
  have hk := kind_find ⟨n / 4096 % 16, by omega⟩
  have hc : (n : Int) / 4096 % 16 = ((n / 4096 % 16 : Nat) : Int) := rfl
  rw [hc, hk]
  show _ = (((krank ⟨n / 4096 % 16, by omega⟩).val * 1728 + ((n / 2 ^ 8 % 2) * 864 + ((n / 2 ^ 7 % 2) * 432 + ((tri n 6 11).val * 144 + ((n / 2 ^ 5 % 2) * 72 + ((n / 2 ^ 4 % 2) * 36 + ((tri n 3 10).val * 12 + ((n / 2 ^ 2 % 2) * 6 + ((n / 2 ^ 1 % 2) * 3 + (tri n 0 9).val)))))))) : Nat) : Int)
  generalize (krank ⟨n / 4096 % 16, by omega⟩).val = K
  rw [tri_val, tri_val, tri_val]
  have e1 : ((n : Int) / 512 / 4 % 2 = 1) ↔ (n / 2 ^ 11 % 2 = 1) := one_iff (fover n 4)
  have e2 : ((n : Int) / 512 / 2 % 2 = 1) ↔ (n / 2 ^ 10 % 2 = 1) := one_iff (fover n 2)
  have e3 : ((n : Int) / 512 / 1 % 2 = 1) ↔ (n / 2 ^ 9 % 2 = 1) := one_iff (fover n 1)
  simp only [e1, e2, e3]
  have f1 : (n : Int) / 64 % 8 / 2 = 2 * ((n / 2 ^ 8 % 2 : Nat) : Int) + ((n / 2 ^ 7 % 2 : Nat) : Int) := fig2 n 64
  have f2 : (n : Int) / 8 % 8 / 2 = 2 * ((n / 2 ^ 5 % 2 : Nat) : Int) + ((n / 2 ^ 4 % 2 : Nat) : Int) := fig2 n 8
  have f3 : (n : Int) / 1 % 8 / 2 = 2 * ((n / 2 ^ 2 % 2 : Nat) : Int) + ((n / 2 ^ 1 % 2 : Nat) : Int) := fig2 n 1
  have g1 : (n : Int) / 64 % 8 % 2 = ((n / 2 ^ 6 % 2 : Nat) : Int) := fig1 n 64
  have g2 : (n : Int) / 8 % 8 % 2 = ((n / 2 ^ 3 % 2 : Nat) : Int) := fig1 n 8
  have g3 : (n : Int) / 1 % 8 % 2 = ((n / 2 ^ 0 % 2 : Nat) : Int) := fig1 n 1
  rw [f1, f2, f3, g1, g2, g3]
  clear f1 f2 f3 g1 g2 g3 e1 e2 e3 hc hk d1
  generalize n / 2 ^ 8 % 2 = a8
  generalize n / 2 ^ 7 % 2 = a7
  generalize n / 2 ^ 6 % 2 = a6
  generalize n / 2 ^ 5 % 2 = a5
  generalize n / 2 ^ 4 % 2 = a4
  generalize n / 2 ^ 3 % 2 = a3
  generalize n / 2 ^ 2 % 2 = a2
  generalize n / 2 ^ 1 % 2 = a1
  generalize n / 2 ^ 0 % 2 = a0
  rw [ite_int (n / 2 ^ 11 % 2 = 1) a6, ite_int (n / 2 ^ 10 % 2 = 1) a3, ite_int (n / 2 ^ 9 % 2 = 1) a0]
  generalize (if n / 2 ^ 11 % 2 = 1 then 1 else 2 * a6) = T1
  generalize (if n / 2 ^ 10 % 2 = 1 then 1 else 2 * a3) = T2
  generalize (if n / 2 ^ 9 % 2 = 1 then 1 else 2 * a0) = T3
  push_cast
  omega
end Mine
end
section
set_option maxRecDepth 100000
namespace Mine
theorem num_inj (d e : Digs) (h : d.num = e.num) : d = e := by
  obtain ⟨k, r1, w1, x1, r2, w2, x2, r3, w3, x3⟩ := d
  obtain ⟨k', r1', w1', x1', r2', w2', x2', r3', w3', x3'⟩ := e
  unfold Digs.num at h
  dsimp only at h
  obtain ⟨e1, h⟩ := ds h (Digs.t1 (⟨k, r1, w1, x1, r2, w2, x2, r3, w3, x3⟩ : Digs)) (Digs.t1 (⟨k', r1', w1', x1', r2', w2', x2', r3', w3', x3'⟩ : Digs))
  obtain ⟨e2, h⟩ := ds h (Digs.t2 (⟨k, r1, w1, x1, r2, w2, x2, r3, w3, x3⟩ : Digs)) (Digs.t2 (⟨k', r1', w1', x1', r2', w2', x2', r3', w3', x3'⟩ : Digs))
  obtain ⟨e3, h⟩ := ds h (Digs.t3 (⟨k, r1, w1, x1, r2, w2, x2, r3, w3, x3⟩ : Digs)) (Digs.t3 (⟨k', r1', w1', x1', r2', w2', x2', r3', w3', x3'⟩ : Digs))
  obtain ⟨e4, h⟩ := ds h (Digs.t4 (⟨k, r1, w1, x1, r2, w2, x2, r3, w3, x3⟩ : Digs)) (Digs.t4 (⟨k', r1', w1', x1', r2', w2', x2', r3', w3', x3'⟩ : Digs))
  obtain ⟨e5, h⟩ := ds h (Digs.t5 (⟨k, r1, w1, x1, r2, w2, x2, r3, w3, x3⟩ : Digs)) (Digs.t5 (⟨k', r1', w1', x1', r2', w2', x2', r3', w3', x3'⟩ : Digs))
  obtain ⟨e6, h⟩ := ds h (Digs.t6 (⟨k, r1, w1, x1, r2, w2, x2, r3, w3, x3⟩ : Digs)) (Digs.t6 (⟨k', r1', w1', x1', r2', w2', x2', r3', w3', x3'⟩ : Digs))
  obtain ⟨e7, h⟩ := ds h (Digs.t7 (⟨k, r1, w1, x1, r2, w2, x2, r3, w3, x3⟩ : Digs)) (Digs.t7 (⟨k', r1', w1', x1', r2', w2', x2', r3', w3', x3'⟩ : Digs))
  obtain ⟨e8, h⟩ := ds h (Digs.t8 (⟨k, r1, w1, x1, r2, w2, x2, r3, w3, x3⟩ : Digs)) (Digs.t8 (⟨k', r1', w1', x1', r2', w2', x2', r3', w3', x3'⟩ : Digs))
  obtain ⟨e9, h⟩ := ds h x3.isLt x3'.isLt
  have e10 := h
  rw [Fin.ext e1, Fin.ext e2, Fin.ext e3, Fin.ext e4, Fin.ext e5, Fin.ext e6, Fin.ext e7, Fin.ext e8, Fin.ext e9, Fin.ext e10]
theorem str_ext {x y : PySem.Str} (h : x.cps.toList = y.cps.toList) : x = y := by
  cases x; cases y
  simp only [PySem.Str.mk.injEq]
  exact Array.toList_inj.mp h
theorem meet_iff (a b : Int) (ha : 0 ≤ a) (hb : 0 ≤ b) : Txt.lower (fmI a) = Txt.lower (fmI b) ↔ rankI a = rankI b := by
  obtain ⟨n, rfl⟩ := Int.eq_ofNat_of_zero_le ha
  obtain ⟨k, rfl⟩ := Int.eq_ofNat_of_zero_le hb
  rw [rank_num, rank_num]
  constructor
  · intro h
    have h1 : (digs n).codes = (digs k).codes := by rw [← lower_codes, ← lower_codes, h]
    have h2 := codes_lt (digs n) (digs k)
    have h3 := codes_lt (digs k) (digs n)
    rw [h1] at h2 h3
    have h4 : ¬ (digs k).codes < (digs k).codes := List.lt_irrefl _
    have h5 : ¬ (digs n).num < (digs k).num := fun q => h4 (h2.mpr q)
    have h6 : ¬ (digs k).num < (digs n).num := fun q => h4 (h3.mpr q)
    omega
  · intro h
    have h1 := num_inj _ _ (Int.ofNat_inj.mp h)
    refine str_ext ?_
    rw [lower_codes, lower_codes, h1]
theorem cmp_due (a b : Int) (ha : 0 ≤ a) (hb : 0 ≤ b) : cmpI (Txt.lower (fmI a)) (Txt.lower (fmI b)) = dueI (rankI a) (rankI b) := by
  obtain ⟨n, rfl⟩ := Int.eq_ofNat_of_zero_le ha
  obtain ⟨k, rfl⟩ := Int.eq_ofNat_of_zero_le hb
  unfold cmpI dueI
  rw [rank_num, rank_num, lower_codes, lower_codes]
  have h1 := codes_lt (digs n) (digs k)
  have h2 := codes_lt (digs k) (digs n)
  rw [decide_eq_decide.mpr h1, decide_eq_decide.mpr h2]
  rcases Nat.lt_trichotomy (digs n).num (digs k).num with q | q | q
  · rw [decide_eq_true q, decide_eq_false (show ¬ (digs k).num < (digs n).num by omega), if_neg (by omega), if_pos (by omega)]; rfl
  · rw [decide_eq_false (show ¬ (digs k).num < (digs n).num by omega), decide_eq_false (show ¬ (digs n).num < (digs k).num by omega), if_pos (by omega)]; rfl
  · rw [decide_eq_true q, decide_eq_false (show ¬ (digs n).num < (digs k).num by omega), if_neg (by omega), if_neg (by omega)]; rfl
end Mine
end
section
set_option maxRecDepth 100000
namespace Mine
def Saf (x : PySem.Str) : Prop := ∀ c ∈ x.cps.toList, 32 ≤ c ∧ c ≤ 126
theorem getD_mem (a : Array Nat) (i : Nat) (h : i < a.size) : a.getD i 0 ∈ a.toList := by
  rw [Array.getD, dif_pos h]
  exact Array.mem_toList_iff.mpr (Array.getElem_mem h)
theorem badN_ok (c : Nat) (h : 32 ≤ c ∧ c ≤ 126) : badN c = false := by
  unfold badN
  rw [decide_eq_false (by omega), show (c == 127) = false by simp; omega]
  rfl
theorem badV_tab : ∀ c : Fin 127, 32 ≤ c.val → badV c.val = false := by decide +kernel
theorem Saf.cleanN {x : PySem.Str} (h : Saf x) (hl : x.length ≤ 1000) : Clean badN x := ⟨fun i hi => badN_ok _ (h _ (getD_mem _ _ hi)), hl⟩
theorem Saf.cleanV {x : PySem.Str} (h : Saf x) (hl : x.length ≤ 1000) : Clean badV x := ⟨fun i hi => by
  have := h _ (getD_mem _ _ hi)
  exact badV_tab ⟨x.cps.getD i 0, by omega⟩ this.1, hl⟩
theorem Saf.sok {x : PySem.Str} (h : Saf x) : PyData.strOk x = true := by
  unfold PyData.strOk
  rw [Array.all_eq_true_iff_forall_mem]
  intro c hc
  have := h c (Array.mem_toList_iff.mpr hc)
  simp
  omega
theorem Saf.app {x y : PySem.Str} (hx : Saf x) (hy : Saf y) : Saf (x ++ y) := by
  intro c hc
  have hc' : c ∈ (x.cps ++ y.cps).toList := hc
  rw [Array.toList_append, List.mem_append] at hc'
  exact hc'.elim (hx c) (hy c)
theorem Saf.lower {x : PySem.Str} (h : Saf x) : Saf (Txt.lower x) := by
  rw [lower_ascii fun c hc => by have := h c hc; omega]
  intro c hc
  have hc' : c ∈ (x.cps.map lo1).toList := hc
  rw [Array.toList_map, List.mem_map] at hc'
  obtain ⟨d, hd, rfl⟩ := hc'
  have := h d hd
  unfold lo1
  split <;> omega
theorem lower_len {x : PySem.Str} (h : Saf x) : (Txt.lower x).length = x.length := by
  rw [lower_ascii fun c hc => by have := h c hc; omega]
  show (x.cps.map lo1).size = x.cps.size
  simp
theorem signs_saf (n : Nat) : ∀ x ∈ signs n, Saf x ∧ ∀ c ∈ x.cps.toList, c ≠ 34 ∧ c ≠ 92 := by
  have k0 : ∀ k : Fin 16, ∀ c ∈ (Txt.item (PySem.Str.ofString "?pc?d?b?-?l?s???") (k.val : Int)).cps.toList, (32 ≤ c ∧ c ≤ 126) ∧ c ≠ 34 ∧ c ≠ 92 := by decide +kernel
  have k1 : ∀ b : Fin 2, ∀ c ∈ (sg1 "r" b.val).cps.toList, (32 ≤ c ∧ c ≤ 126) ∧ c ≠ 34 ∧ c ≠ 92 := by decide +kernel
  have k2 : ∀ b : Fin 2, ∀ c ∈ (sg1 "w" b.val).cps.toList, (32 ≤ c ∧ c ≤ 126) ∧ c ≠ 34 ∧ c ≠ 92 := by decide +kernel
  have k3 : ∀ b o : Fin 2, ∀ c ∈ (sg3 "s" "S" b.val o.val).cps.toList, (32 ≤ c ∧ c ≤ 126) ∧ c ≠ 34 ∧ c ≠ 92 := by decide +kernel
  have k4 : ∀ b o : Fin 2, ∀ c ∈ (sg3 "t" "T" b.val o.val).cps.toList, (32 ≤ c ∧ c ≤ 126) ∧ c ≠ 34 ∧ c ≠ 92 := by decide +kernel
  intro x hx
  unfold signs at hx
  simp only [List.mem_cons, List.not_mem_nil, or_false] at hx
  have fin : ∀ y : PySem.Str, (∀ c ∈ y.cps.toList, (32 ≤ c ∧ c ≤ 126) ∧ c ≠ 34 ∧ c ≠ 92) → Saf y ∧ ∀ c ∈ y.cps.toList, c ≠ 34 ∧ c ≠ 92 := fun y h => ⟨fun c hc => (h c hc).1, fun c hc => (h c hc).2⟩
  rcases hx with rfl | rfl | rfl | rfl | rfl | rfl | rfl | rfl | rfl | rfl
  · exact fin _ (k0 ⟨n / 4096 % 16, by omega⟩)
  · exact fin _ (k1 (bit n 8))
  · exact fin _ (k2 (bit n 7))
  · exact fin _ (k3 (bit n 6) (bit n 11))
  · exact fin _ (k1 (bit n 5))
  · exact fin _ (k2 (bit n 4))
  · exact fin _ (k3 (bit n 3) (bit n 10))
  · exact fin _ (k1 (bit n 2))
  · exact fin _ (k2 (bit n 1))
  · exact fin _ (k4 (bit n 0) (bit n 9))
theorem fm_saf (m : Int) (h : 0 ≤ m) : Saf (fmI m) ∧ ∀ c ∈ (fmI m).cps.toList, c ≠ 34 ∧ c ≠ 92 := by
  obtain ⟨n, rfl⟩ := Int.eq_ofNat_of_zero_le h
  constructor
  · intro c hc
    rw [fm_signs, join_cps, List.mem_flatten] at hc
    obtain ⟨l, hl, hc⟩ := hc
    obtain ⟨x, hx, rfl⟩ := List.mem_map.mp hl
    exact (signs_saf n x hx).1 c hc
  · intro c hc
    rw [fm_signs, join_cps, List.mem_flatten] at hc
    obtain ⟨l, hl, hc⟩ := hc
    obtain ⟨x, hx, rfl⟩ := List.mem_map.mp hl
    exact (signs_saf n x hx).2 c hc
theorem fm_len10 (m : Int) (h : 0 ≤ m) : (fmI m).length = 10 := by
  obtain ⟨n, rfl⟩ := Int.eq_ofNat_of_zero_le h
  have h1 := congrArg List.length (lower_codes n)
  have h2 := lower_len (fm_saf (n : Int) h).1
  rw [← h2]
  show (Txt.lower (fmI (n : Int))).cps.size = 10
  rw [← Array.length_toList, h1]
  rfl
end Mine
end
section
set_option maxRecDepth 100000
namespace Mine
open StrLaws Builtin Builtin.Str in
theorem occ_run (s sub : PySem.Str) (hi limit : Nat) (h : ∀ i, i + sub.length ≤ hi → subAt s sub i = false) : ∀ (l : List Nat) (st : Array Nat × Nat), (forIn l st (occBody s sub hi limit)).run = st
  | [], st => rfl
  | a :: l, st => by
    rw [List.forIn_cons]
    unfold occBody
    split
    · rename_i hc
      have h1 := hc.1.2
      have h2 := hc.2
      rw [h a h1] at h2
      cases h2
    · exact occ_run s sub hi limit h l _
open StrLaws Builtin Builtin.Str in
theorem occ_none (x : PySem.Str) (sub : PySem.Str) (c : Nat) (hs : sub.cps = #[c]) (h : ∀ d ∈ x.cps.toList, d ≠ c) : occurrences x sub 0 x.length (x.length + 1) = [] := by
  rw [occ_eq, occ_run]
  · intro i hi
    have hl : sub.length = 1 := by show sub.cps.size = 1; rw [hs]; rfl
    rw [hl] at hi
    unfold subAt
    rw [hl, hs]
    have hi' : i < x.cps.size := hi
    rw [beq_eq_false_iff_ne]
    intro e
    have e0 := congrArg (fun a => a[0]?) e
    have e1 : x.cps[i] = c := by
      have e2 : (x.cps.extract i (i + 1))[0]? = some c := e0
      rw [Array.getElem?_extract, if_pos (by omega)] at e2
      simpa [hi'] using e2
    exact h _ (Array.mem_toList_iff.mpr (Array.getElem_mem hi')) e1
theorem fm_occ (m : Int) (h : 0 ≤ m) : Builtin.Str.occurrences (fmI m) (PySem.Str.ofString "\\") 0 (fmI m).length ((fmI m).length + 1) = [] ∧ Builtin.Str.occurrences (fmI m) (PySem.Str.ofString "\"") 0 (fmI m).length ((fmI m).length + 1) = [] :=
  ⟨occ_none _ _ 92 rfl fun d hd => ((fm_saf m h).2 d hd).2, occ_none _ _ 34 rfl fun d hd => ((fm_saf m h).2 d hd).1⟩
end Mine
end
section
set_option maxRecDepth 100000
namespace Mine
def txtK (k : Nat) : PySem.Str := if k = 0 then PySem.Str.ofString "" else PySem.Str.ofString (toString (k : Int))
def TxtOf (k : Nat) (x : PySem.Str) : Prop := x.cps.toList.takeWhile (fun c => decide (c ≠ 59)) = (txtK k).cps.toList
theorem txtK_tab : ∀ k : Fin 13, (∀ c ∈ (txtK k.val).cps.toList, 48 ≤ c ∧ c ≤ 57) ∧ (txtK k.val).length ≤ 2 := by decide +kernel
theorem txtK_inj : ∀ a b : Fin 13, (txtK a.val).cps.toList = (txtK b.val).cps.toList → a = b := by decide +kernel
theorem str_app_cps (x y : PySem.Str) : (x ++ y).cps.toList = x.cps.toList ++ y.cps.toList := by
  show (x.cps ++ y.cps).toList = _
  rw [Array.toList_append]
theorem TxtOf.app {k : Nat} (hk : k < 13) {y : PySem.Str} (hy : y.cps.toList.head? = none ∨ y.cps.toList.head? = some 59) : TxtOf k (txtK k ++ y) := by
  have h := (txtK_tab ⟨k, hk⟩).1
  unfold TxtOf
  rw [str_app_cps, List.takeWhile_append_of_pos (fun c hc => by have := h c hc; exact decide_eq_true (by omega))]
  have e : y.cps.toList.takeWhile (fun c => decide (c ≠ 59)) = [] := by
    generalize y.cps.toList = l at hy
    match l, hy with
    | [], _ => rfl
    | c :: l, .inl h => simp at h
    | c :: l, .inr h =>
      simp at h
      subst h
      rfl
  rw [e, List.append_nil]
theorem TxtOf.self {k : Nat} (hk : k < 13) : TxtOf k (txtK k) := by
  have h := TxtOf.app hk (y := PySem.Str.ofString "") (.inl rfl)
  have e : txtK k ++ PySem.Str.ofString "" = txtK k := str_ext (by rw [str_app_cps]; exact List.append_nil _)
  rwa [e] at h
theorem TxtOf.inj {a b : Nat} (ha : a < 13) (hb : b < 13) {x : PySem.Str} (h1 : TxtOf a x) (h2 : TxtOf b x) : a = b := by
  have := txtK_inj ⟨a, ha⟩ ⟨b, hb⟩ (h1.symm.trans h2)
  exact congrArg Fin.val this
def withP (x v : PySem.Str) : PySem.Str := x ++ PySem.Str.ofString "; last-mode=\"" ++ v ++ PySem.Str.ofString "\"; one"
theorem lit1 : (∀ c ∈ (PySem.Str.ofString "; last-mode=\"").cps.toList, 32 ≤ c ∧ c ≤ 126) ∧ (PySem.Str.ofString "; last-mode=\"").length = 13 ∧ (PySem.Str.ofString "; last-mode=\"").cps.toList.head? = some 59 := by decide +kernel
theorem lit2 : (∀ c ∈ (PySem.Str.ofString "\"; one").cps.toList, 32 ≤ c ∧ c ≤ 126) ∧ (PySem.Str.ofString "\"; one").length = 6 := by decide +kernel
theorem txtK_saf {k : Nat} (hk : k < 13) : Saf (txtK k) := fun c hc => by have := (txtK_tab ⟨k, hk⟩).1 c hc; omega
theorem txtK_len {k : Nat} (hk : k < 13) : (txtK k).length ≤ 2 := (txtK_tab ⟨k, hk⟩).2
theorem withP_saf {x v : PySem.Str} (hx : Saf x) (hv : Saf v) : Saf (withP x v) := ((hx.app lit1.1).app hv).app lit2.1
theorem withP_len {x v : PySem.Str} (hx : x.length ≤ 2) (hv : v.length = 10) : (withP x v).length ≤ 31 := by
  unfold withP
  rw [str_len_app, str_len_app, str_len_app, lit1.2.1, lit2.2]
  omega
theorem withP_of {k : Nat} (hk : k < 13) (v : PySem.Str) : TxtOf k (withP (txtK k) v) := by
  have e : withP (txtK k) v = txtK k ++ (PySem.Str.ofString "; last-mode=\"" ++ v ++ PySem.Str.ofString "\"; one") := str_ext (by
    unfold withP
    simp only [str_app_cps, List.append_assoc])
  rw [e]
  refine TxtOf.app hk (.inr ?_)
  rw [str_app_cps, str_app_cps, List.append_assoc, List.head?_append, lit1.2.2]
  rfl
structure LInv (i : Nat) (rs : List Ent) (modes : List Int) : Prop where
  len : modes.length = i + 1
  rng : ∀ m ∈ modes, 0 ≤ m ∧ m < 4294967296
  rlen : rs.length ≤ i
  row : ∀ e ∈ rs, ∃ m : Int, 0 ≤ m ∧ e.1 = rankI m ∧ e.2.1 = fmI m
  txt : ∀ e ∈ rs, ∃ k, k < i ∧ TxtOf k e.2.2
  saf : ∀ e ∈ rs, Saf e.2.2 ∧ e.2.2.length ≤ 31
  dist : rs.Pairwise fun a b => a.2.2 ≠ b.2.2
theorem LInv.start : LInv 0 [] [35309] := ⟨rfl, by simp, by simp, by simp, by simp, by simp, .nil⟩
theorem LInv.meet {i : Nat} {rs : List Ent} {modes : List Int} (h : LInv i rs modes) {m : Int} (hm : 0 ≤ m) : ∀ e ∈ rs, (Txt.lower e.2.1 = Txt.lower (fmI m) ↔ e.1 = rankI m) := by
  intro e he
  obtain ⟨m', h0, h1, h2⟩ := h.row e he
  rw [h1, h2]
  exact meet_iff m' m h0 hm
theorem LInv.sok {i : Nat} {rs : List Ent} {modes : List Int} (h : LInv i rs modes) : ∀ e ∈ rs, SOk e.2.1 ∧ SOk e.2.2 := by
  intro e he
  obtain ⟨m', h0, _, h2⟩ := h.row e he
  exact ⟨by rw [h2]; exact (fm_saf m' h0).1.sok, (h.saf e he).1.sok⟩
theorem LInv.lens {i : Nat} {rs : List Ent} {modes : List Int} (h : LInv i rs modes) : ∀ e ∈ rs, e.2.1.length ≤ 1000 ∧ e.2.2.length ≤ 1000 := by
  intro e he
  obtain ⟨m', h0, _, h2⟩ := h.row e he
  exact ⟨by rw [h2, fm_len10 m' h0]; decide, Nat.le_trans (h.saf e he).2 (by decide)⟩
theorem due_split {d : Nat} (hd : d < 7) (rs : List Ent) (e : Ent) (v : PySem.Str) : ∃ (f : Ent → Bool) (N : List Ent), dueRs d rs e v = rs.filter f ++ N ∧ dueG d rs e = rs.filter (fun o => !f o) ∧ N.length ≤ 1 ∧ ∀ q ∈ N, q = e ∨ q = (e.1, e.2.1, withP e.2.2 v) := by
  have ft : rs.filter (fun _ => true) = rs := List.filter_eq_self.mpr fun _ _ => rfl
  have ff : rs.filter (fun _ => !true) = [] := List.filter_eq_nil_iff.mpr fun _ _ => by simp
  have fs : rs.filter (fun o => !decide (o.1 ≠ e.1)) = sameOf rs e := by
    unfold sameOf
    refine List.filter_congr fun o _ => ?_
    simp
  have one : ∀ q ∈ [e], q = e ∨ q = (e.1, e.2.1, withP e.2.2 v) := fun q hq => .inl (List.mem_singleton.mp hq)
  have hdd : d = 0 ∨ d = 1 ∨ d = 2 ∨ d = 3 ∨ d = 4 ∨ d = 5 ∨ d = 6 := by omega
  rcases hdd with rfl | rfl | rfl | rfl | rfl | rfl | rfl
  · exact ⟨fun _ => true, [e], by rw [ft]; rfl, by rw [ff]; rfl, Nat.le_refl _, one⟩
  · exact ⟨fun o => decide (o.1 ≠ e.1), [e], rfl, by rw [fs]; rfl, Nat.le_refl _, one⟩
  · cases hs : sameOf rs e with
    | nil => exact ⟨fun _ => true, [e], by rw [ft, dueRs2_nil hs], by rw [ff]; rfl, Nat.le_refl _, one⟩
    | cons o os => exact ⟨fun _ => true, [], by rw [ft, dueRs2_cons hs, List.append_nil], by rw [ff]; rfl, Nat.zero_le _, by simp⟩
  · exact ⟨fun o => decide (o.1 ≠ e.1), [], by rw [List.append_nil]; rfl, by rw [fs]; rfl, Nat.zero_le _, by simp⟩
  · exact ⟨fun _ => true, [(e.1, e.2.1, withP e.2.2 v)], by rw [ft]; rfl, by rw [ff]; rfl, Nat.le_refl _, fun q hq => .inr (List.mem_singleton.mp hq)⟩
  · exact ⟨fun o => decide (o.1 ≠ e.1), [], by rw [List.append_nil]; rfl, by rw [fs]; rfl, Nat.zero_le _, by simp⟩
  · exact ⟨fun _ => true, [], by rw [ft, List.append_nil]; rfl, by rw [ff]; rfl, Nat.zero_le _, by simp⟩
theorem filter_sum {α : Type} (f : α → Bool) : ∀ l : List α, (l.filter f).length + (l.filter fun o => !f o).length = l.length
  | [] => rfl
  | a :: l => by
    have ih := filter_sum f l
    rw [List.filter_cons, List.filter_cons]
    cases f a <;> simp <;> omega
theorem LInv.step {i : Nat} {rs : List Ent} {modes : List Int} (h : LInv i rs modes) (hi : i < 13) {d : Nat} (hd : d < 7) {m last : Int} (hm : 0 ≤ m ∧ m < 4294967296) (hl : 0 ≤ last) :
    LInv (i + 1) (dueRs d rs (rankI m, fmI m, txtK i) (fmI last)) (modes ++ [m]) ∧
    (diffR (rs.map prOf).reverse ((dueRs d rs (rankI m, fmI m, txtK i) (fmI last)).map prOf) [] =
      ((dueG d rs (rankI m, fmI m, txtK i)).reverse.map prOf, ((dueRs d rs (rankI m, fmI m, txtK i) (fmI last)).drop (rs.length - (dueG d rs (rankI m, fmI m, txtK i)).length)).map prOf)) ∧
    (dueG d rs (rankI m, fmI m, txtK i)).length ≤ rs.length := by
  obtain ⟨f, N, e1, e2, hN, hq⟩ := due_split hd rs (rankI m, fmI m, txtK i) (fmI last)
  rw [e1, e2]
  have hs : ∀ q ∈ N, Saf q.2.2 ∧ q.2.2.length ≤ 31 ∧ TxtOf i q.2.2 ∧ q.1 = rankI m ∧ q.2.1 = fmI m := by
    intro q hqN
    rcases hq q hqN with rfl | rfl
    · exact ⟨txtK_saf hi, Nat.le_trans (txtK_len hi) (by decide), TxtOf.self hi, rfl, rfl⟩
    · exact ⟨withP_saf (txtK_saf hi) (fm_saf last hl).1, withP_len (txtK_len hi) (fm_len10 last hl), withP_of hi _, rfl, rfl⟩
  have hne : ∀ q ∈ N, ∀ e ∈ rs, e.2.2 ≠ q.2.2 := by
    intro q hqN e he eq
    obtain ⟨k, hk, ht⟩ := h.txt e he
    have := TxtOf.inj (by omega) hi (eq ▸ ht) (hs q hqN).2.2.1
    omega
  have hfl := List.length_filter_le f rs
  have hsum : (rs.filter f).length + (rs.filter fun o => !f o).length = rs.length := by
    exact filter_sum f rs
  refine ⟨⟨?_, ?_, ?_, ?_, ?_, ?_, ?_⟩, ?_, ?_⟩
  · simp [h.len]
  · intro m' hm'
    rcases List.mem_append.mp hm' with q | q
    · exact h.rng m' q
    · rw [List.mem_singleton.mp q]; exact hm
  · have := h.rlen
    simp
    omega
  · intro e he
    rcases List.mem_append.mp he with q | q
    · exact h.row e (List.mem_filter.mp q).1
    · exact ⟨m, hm.1, (hs e q).2.2.2⟩
  · intro e he
    rcases List.mem_append.mp he with q | q
    · obtain ⟨k, hk, ht⟩ := h.txt e (List.mem_filter.mp q).1
      exact ⟨k, by omega, ht⟩
    · exact ⟨i, by omega, (hs e q).2.2.1⟩
  · intro e he
    rcases List.mem_append.mp he with q | q
    · exact h.saf e (List.mem_filter.mp q).1
    · exact ⟨(hs e q).1, (hs e q).2.1⟩
  · rw [List.pairwise_append]
    refine ⟨h.dist.sublist List.filter_sublist, ?_, fun a ha b hb => hne b hb a (List.mem_filter.mp ha).1⟩
    match N, hN with
    | [], _ => exact .nil
    | [q], _ => simp
    | _ :: _ :: _, h => simp at h
  · rw [diff_due h.dist hne hN]
    congr 2
    have e3 : rs.length - (rs.filter fun o => !f o).length = (rs.filter f).length := by omega
    rw [e3, List.drop_left]
  · exact List.length_filter_le _ _
end Mine
end
section
set_option maxRecDepth 100000
namespace Mine
theorem xor_rng {m : Int} (h : 0 ≤ m ∧ m < 4294967296) {k : Nat} (hk : k < 32) : 0 ≤ Builtin.bitXor m (2 ^ k) ∧ Builtin.bitXor m (2 ^ k) < 4294967296 := by
  obtain ⟨n, rfl⟩ := Int.eq_ofNat_of_zero_le h.1
  have e : Builtin.bitXor (n : Int) (2 ^ k) = (n : Int) + 2 ^ k - 2 * ((n &&& 2 ^ k : Nat) : Int) := by
    have h1 : ((2 : Int) ^ k) = ((2 ^ k : Nat) : Int) := by simp
    rw [bitXor_and, h1, bitAnd_nat]
  have hn : n < 2 ^ 32 := by have := h.2; omega
  have ha : (n.testBit k = false ∧ n &&& 2 ^ k = 0) ∨ n &&& 2 ^ k = 2 ^ k := by
    cases hb : n.testBit k with
    | false =>
      refine .inl ⟨rfl, Nat.eq_of_testBit_eq fun i => ?_⟩
      rw [Nat.testBit_and, Nat.testBit_two_pow, Nat.zero_testBit]
      by_cases hi : k = i
      · subst hi; rw [hb]; rfl
      · rw [decide_eq_false hi, Bool.and_false]
    | true =>
      refine .inr (Nat.eq_of_testBit_eq fun i => ?_)
      rw [Nat.testBit_and, Nat.testBit_two_pow]
      by_cases hi : k = i
      · subst hi; rw [hb]; rfl
      · rw [decide_eq_false hi, Bool.and_false]
  have hle : n &&& 2 ^ k ≤ n := Nat.and_le_left
  have h1 : ((2 : Int) ^ k) = ((2 ^ k : Nat) : Int) := by simp
  rw [e, h1]
  rcases ha with h0 | h0
  · obtain ⟨hb, h0⟩ := h0
    have hadd : n + 2 ^ k < 2 ^ 32 := by
      rw [bit_div] at hb
      have hq : n / 2 ^ k % 2 = 0 := by have := of_decide_eq_false hb; omega
      have hp : 0 < 2 ^ k := Nat.pow_pos (by decide)
      have hc : 2 ^ 32 = 2 ^ k * (2 * 2 ^ (31 - k)) := by
        rw [← Nat.pow_succ', ← Nat.pow_add]
        congr 1
        omega
      rw [hc] at hn ⊢
      have h5 : n / 2 ^ k < 2 * 2 ^ (31 - k) := Nat.div_lt_of_lt_mul hn
      have h6 : n / 2 ^ k + 2 ≤ 2 * 2 ^ (31 - k) := by omega
      have h7 := Nat.mul_le_mul_left (2 ^ k) h6
      have h8 := Nat.div_add_mod n (2 ^ k)
      have h9 := Nat.mod_lt n hp
      rw [Nat.mul_add] at h7
      omega
    rw [h0]
    clear e h1 h0 hb
    generalize (2 : Nat) ^ k = b at *
    omega
  · have hp : 0 < 2 ^ k := Nat.pow_pos (by decide)
    rw [h0] at hle
    rw [h0]
    have hn' := h.2
    clear e h1 h0 h
    generalize (2 : Nat) ^ k = b at *
    omega
def nextM (x last : Int) : Int := if (x.fdiv 7).fmod 2 = 0 then (x.fdiv 7).fdiv 2 else Builtin.bitXor last (2 ^ (((x.fdiv 7).fdiv 2).fmod 32).toNat)
theorem nextM_rng {x last : Int} (hx : 0 ≤ x ∧ x < 1000000) (h : 0 ≤ last ∧ last < 4294967296) : 0 ≤ nextM x last ∧ nextM x last < 4294967296 := by
  unfold nextM
  have e1 : x.fdiv 7 = x / 7 := fdl _ _ (by decide)
  have e2 : (x / 7).fdiv 2 = x / 7 / 2 := fdl _ _ (by decide)
  split
  · rw [e1, e2]; omega
  · refine xor_rng h ?_
    rw [fml _ 32 (by decide)]
    omega
theorem join_app (sep : PySem.Str) : ∀ xs : List PySem.Str, (PySem.Str.join sep (xs ++ [PySem.Str.ofString "", PySem.Str.ofString ""])).cps.toList = (xs.map fun x => x.cps.toList ++ sep.cps.toList).flatten ++ sep.cps.toList
  | [] => by
    show (PySem.Str.ofString "" ++ sep ++ PySem.Str.ofString "").cps.toList = _
    rw [str_app_cps, str_app_cps]
    show ([] ++ sep.cps.toList) ++ [] = _
    simp
  | [x] => by
    show (x ++ sep ++ (PySem.Str.ofString "" ++ sep ++ PySem.Str.ofString "")).cps.toList = _
    simp only [str_app_cps]
    show x.cps.toList ++ sep.cps.toList ++ ([] ++ sep.cps.toList ++ []) = _
    simp
  | x :: y :: xs => by
    have ih := join_app sep (y :: xs)
    show (x ++ sep ++ PySem.Str.join sep ((y :: xs) ++ [PySem.Str.ofString "", PySem.Str.ofString ""])).cps.toList = _
    rw [str_app_cps, str_app_cps, ih]
    simp
theorem str_due (ps : List Pr2) : Txt.join (PySem.Str.ofString "\r\n") ((ps.map fun p => p.1 ++ PySem.Str.ofString ": " ++ p.2) ++ [PySem.Str.ofString "", PySem.Str.ofString ""]) =
    Txt.join (PySem.Str.ofString "") (ps.map fun p => p.1 ++ PySem.Str.ofString ": " ++ p.2 ++ PySem.Str.ofString "\r\n") ++ PySem.Str.ofString "\r\n" := by
  apply str_ext
  rw [show Txt.join (PySem.Str.ofString "\r\n") ((ps.map fun p => p.1 ++ PySem.Str.ofString ": " ++ p.2) ++ [PySem.Str.ofString "", PySem.Str.ofString ""]) = PySem.Str.join (PySem.Str.ofString "\r\n") ((ps.map fun p => p.1 ++ PySem.Str.ofString ": " ++ p.2) ++ [PySem.Str.ofString "", PySem.Str.ofString ""]) from StrLaws.glued_eq_join _ _]
  rw [join_app, str_app_cps, join_cps, List.map_map, List.map_map]
  congr 2
  refine List.map_congr_left fun p _ => ?_
  show _ = (p.1 ++ PySem.Str.ofString ": " ++ p.2 ++ PySem.Str.ofString "\r\n").cps.toList
  rw [str_app_cps _ (PySem.Str.ofString "\r\n")]
  rfl
end Mine
end
section
set_option maxRecDepth 100000
namespace Mine
noncomputable def defBody : Stmt → List Stmt
  | .FunctionDef _ _ b _ _ _ _ _ _ _ => b
  | .For _ _ b _ _ => b
  | _ => []
noncomputable def defScope : Stmt → Option Scope
  | .FunctionDef _ _ _ _ _ _ sc _ _ _ => some sc
  | _ => none
noncomputable def lawDef : Stmt := PySem.Challenge.pw_ny0252_01.main.body.getD 41 (.Pass ⟨0, 0, 0, 0⟩)
noncomputable def lawBody : List Stmt := defBody lawDef
noncomputable def turnBody : List Stmt := defBody (lawBody.getD 3 (.Pass ⟨0, 0, 0, 0⟩))
noncomputable def lawScope : Scope := (defScope lawDef).getD PySem.Challenge.pw_ny0252_01.main.scope
noncomputable abbrev lawEnv (L : Addr) : Env := envOf (PySem.Str.ofString "law") lawScope L 286 (.ref 285)
abbrev lawBase (sa tb ml : Addr) : PySem.Str → Option Value := fun z => if z = PySem.Str.ofString "modes" then some (Value.ref ml) else if z = PySem.Str.ofString "table" then some (Value.ref tb) else if z = PySem.Str.ofString "script" then some (Value.ref sa) else none
def LB (sa tb ml : Addr) (m : PySem.Str → Option Value) : Prop := ∀ z, z ≠ PySem.Str.ofString "come" → z ≠ PySem.Str.ofString "gone" → z ≠ PySem.Str.ofString "answer" → z ≠ PySem.Str.ofString "due" → z ≠ PySem.Str.ofString "rank" → z ≠ PySem.Str.ofString "told" → z ≠ PySem.Str.ofString "ahead" → z ≠ PySem.Str.ofString "text" → z ≠ PySem.Str.ofString "mode" → z ≠ PySem.Str.ofString "half" → z ≠ PySem.Str.ofString "x" → z ≠ PySem.Str.ofString "rows" → m z = lawBase sa tb ml z
theorem mem_at {α : Type} {l : List α} {p : α} (k : Nat) (e : l[k]? = some p) : p ∈ l := List.mem_of_getElem? e
theorem sub_drop {α : Type} {l nt : List α} (k : Nat) (e : l.drop k = nt) (p : α) (hp : p ∈ nt) : p ∈ l := List.mem_of_mem_drop (e ▸ hp)
theorem News.cons {h₀ h : Heap} {L a : Addr} {o : Obj} {l : List (Addr × Obj)} (k : h.get? a = some o ∧ a ≠ L ∧ h₀.get? a = none) (N : News h₀ L h l) : News h₀ L h ((a, o) :: l) := fun p hp => by
  rcases List.mem_cons.mp hp with rfl | hp
  · exact k
  · exact N p hp
theorem Bears.mono {H : Heap} {A B : List (Addr × Obj)} {ys : List Value} {ds : List PyData} (r : Bears H A ys ds) (h : ∀ p ∈ A, p ∈ B) : Bears H B ys ds :=
  fun h' k1 k2 => r h' k1 fun p hp => k2 p (h p hp)
theorem Bears.read {h₀ h : Heap} {L : Addr} {m : PySem.Str → Option Value} {news nt : List (Addr × Obj)} {ys : List Value} {ds : List PyData} (r : Bears h₀ nt ys ds) (F : Fr h₀ L h m) (N : News h₀ L h news) (hs : ∀ p ∈ nt, p ∈ news) : AtAll h ys ds :=
  r h F.keep fun p hp => (N p (hs p hp)).1
theorem tup_ne {h₀ h : Heap} {L : Addr} {news : List (Addr × Obj)} {l : Addr} {xs : Array Value} {n : Nat} (N : News h₀ L h news) (hl : (l, listOf xs n) ∈ news) {p : Addr × Obj} (hp : p ∈ news) (hc : p.2.cls = .type "tuple") : p.1 ≠ l := by
  rintro rfl
  have h1 := (N _ hl).1
  have h2 := (N _ hp).1
  rw [h1] at h2
  obtain ⟨a, o⟩ := p
  injection h2 with h2
  dsimp only at h2 hc
  rw [← h2] at hc
  exact absurd (show Value.type "list" = Value.type "tuple" from hc) (by decide)
theorem tup_it {h : Heap} {I : Addr} {oI : Obj} {p : Addr × Obj} (hI : h.get? I = some oI) (hc : oI.cls = .type "list_iterator") (hp : h.get? p.1 = some p.2) (ht : p.2.cls = .type "tuple") : p.1 ≠ I := by
  intro e
  rw [e, hI] at hp
  injection hp with hp
  rw [← hp, hc] at ht
  exact absurd ht (by decide)
def GotStr (x : PySem.Str) (s : Shared) : Value → Shared → Prop := fun v s' => ∃ k t', v = .str x t' ∧ s' = { s with toks := k }
theorem join_str {M : Model} {A : Around} {E : Value → Shared → Prop} {s : Shared} {t : Sem Value} {x : PySem.Str} {Q : Value → Shared → Prop} (h : wpAny M A t (GotStr x s) E s) (k : ∀ t' k, Q (.str x t') { s with toks := k }) : wpAny M A t Q E s :=
  wpAny_mono h (fun v s' ⟨_, _, e1, e2⟩ => by subst e1; subst e2; exact k _ _) fun _ _ e => e
theorem deedV_flat (d : Nat) (ps : List Pr2) (x y : PySem.Str) : deedV d ps x y = .none ∨ ∃ z, deedV d ps x y = .str z := by
  unfold deedV
  split <;> first | exact .inl rfl | exact .inr ⟨_, rfl⟩
theorem at_flat {h h' : Heap} {v : Value} {d : PyData} (hd : d = .none ∨ ∃ z, d = .str z) (r : At h v d) : At h' v d := by
  rcases hd with rfl | ⟨z, rfl⟩
  · obtain ⟨_, r⟩ := r
    cases r
    exact .none
  · obtain ⟨t, rfl⟩ := r.str_inv
    exact .str
theorem assign_trip {prog : Program} {w : World} {A : Around} {E : Value → Shared → Prop} {s : Shared} {h₀ : Heap} {m : PySem.Str → Option Value} {news : List (Addr × Obj)} {name : PySem.Str} {scope : Scope} {L f : Addr} {cd : Value} {a b c : PySem.Str} {pa pb pc pos : Pos} {n : Nat} {t : Addr} {x y z : Value} {Q : Unit → Shared → Prop} (hh : A.handled = none)
    (F : Fr h₀ L s.heap m) (N : News h₀ L s.heap news) (ht : s.heap.IsTuple t #[x, y, z])
    (k : ∀ h' tk, Fr h₀ L h' (fun u => if u = c then some z else if u = b then some y else if u = a then some x else m u) → News h₀ L h' news → Q () { s with heap := h', toks := tk })
    (hk : scope.kind = .function := by rfl) (ha : (envOf name scope L f cd).kindOf a = some .local := by rfl) (hb : (envOf name scope L f cd).kindOf b = some .local := by rfl) (hc : (envOf name scope L f cd).kindOf c = some .local := by rfl) :
    wpAny (model prog w) A (assign (.Tuple [.Name a pa, .Name b pb, .Name c pc] n pos) (envOf name scope L f cd) (.ref t)) Q E s := by
  refine wpAny_assign_Tuple hh ht rfl rfl fun h' hx => ?_
  have F1 := Fr.stay F (stay_ext hx)
  have N1 := News.stay N (stay_ext hx)
  show wpAny _ A (do holding [y, z] (assign (.Name a pa) (envOf name scope L f cd) x); assignInOrder [assign (.Name b pb) (envOf name scope L f cd), assign (.Name c pc) (envOf name scope L f cd)] [y, z]) Q E _
  refine wpAny_bind (wpAny_holding (wpAny_assign_Name (stN (s := { s with heap := h' }) F1 N1 (fun h2 F2 N2 => ?_) hk ha)))
  show wpAny _ A (do holding [z] (assign (.Name b pb) (envOf name scope L f cd) y); assignInOrder [assign (.Name c pc) (envOf name scope L f cd)] [z]) Q E _
  refine wpAny_bind (wpAny_holding (wpAny_assign_Name (stN (s := { s with heap := h2, toks := s.toks + 1 }) F2 N2 (fun h3 F3 N3 => ?_) hk hb)))
  show wpAny _ A (do holding [] (assign (.Name c pc) (envOf name scope L f cd) z); assignInOrder [] []) Q E _
  refine wpAny_bind (wpAny_holding (wpAny_assign_Name (stN (s := { s with heap := h3, toks := s.toks + 1 + 1 }) F3 N3 (fun h4 F4 N4 => ?_) hk hc)))
  exact wpAny_pure (k h4 _ F4 N4)
theorem dueV_fine {d : Nat} {rs : List Ent} {e : Ent} (hr : ∀ o ∈ rs, SOk o.2.2) (he : SOk e.2.2) : Fine 1 (dueV d rs e) := by
  have hsame : ∀ o ∈ sameOf rs e, SOk o.2.2 := fun o ho => hr o (List.mem_filter.mp ho).1
  have hrf : SOk (PySem.Str.ofString "refused") := by decide +kernel
  unfold dueV
  split
  · exact .none
  · exact .none
  · split
    · exact .str he
    · rename_i o _ hs
      exact .str (hsame o (by rw [hs]; exact .head _))
  · exact .none
  · exact .none
  · exact .str hrf
  · split
    · exact .str hrf
    · rename_i o _ hs
      exact .str (hsame o (by rw [hs]; exact .head _))
theorem list_led {h₀ h : Heap} {L a : Addr} {m : PySem.Str → Option Value} {rs : List Ent} (F : Fr h₀ L h m) (ha : h₀.get? a = none) (r : At h (.ref a) (.list (rs.map tripD))) :
    ∃ (o : Obj) (vs : List Value) (n : Nat) (nt : List (Addr × Obj)), (h.get? a = some o ∧ a ≠ L ∧ h₀.get? a = none) ∧ o.cls = .type "list" ∧ o.data = .seq vs.toArray n ∧ News h₀ L h nt ∧ Bears h₀ nt vs (rs.map tripD) ∧ ∀ p ∈ nt, p.2.cls = .type "tuple" := by
  obtain ⟨a', vs, e, ⟨o, ho, hc, n, hd⟩, hat⟩ := r.list_inv
  cases e
  obtain ⟨nt, B1, B2, B3⟩ := to_led F (fun d hd => by obtain ⟨p, _, rfl⟩ := List.mem_map.mp hd; exact flat_trip p) hat
  exact ⟨o, vs, n, nt, ⟨ho, fun e => ns_noSeq F.ns o (e ▸ ho) _ _ hd, ha⟩, hc, hd, B1, B2, B3⟩
theorem dueV_flat (d : Nat) (rs : List Ent) (e : Ent) : dueV d rs e = .none ∨ ∃ z, dueV d rs e = .str z := by
  unfold dueV
  split
  · exact .inl rfl
  · exact .inl rfl
  · split <;> exact .inr ⟨_, rfl⟩
  · exact .inl rfl
  · exact .inl rfl
  · exact .inr ⟨_, rfl⟩
  · split <;> exact .inr ⟨_, rfl⟩
theorem News.app {h₀ h : Heap} {L : Addr} {a b : List (Addr × Obj)} (A : News h₀ L h a) (B : News h₀ L h b) : News h₀ L h (a ++ b) := fun p hp => (List.mem_append.mp hp).elim (A p) (B p)
theorem one_led {h₀ h : Heap} {L a : Addr} {m : PySem.Str → Option Value} {o : Obj} {xs : Array Value} {n : Nat} (F : Fr h₀ L h m) (ho : h.get? a = some o) (hd : o.data = .seq xs n) :
    ∃ nt, News h₀ L h nt ∧ ∀ h', h₀.StaysIn h' → (∀ p ∈ nt, h'.get? p.1 = some p.2) → h'.get? a = some o := by
  cases hq : h₀.get? a with
  | some o' =>
    have e := F.keep _ _ hq
    rw [ho] at e
    cases e
    exact ⟨[], News.nil, fun h' k1 _ => k1 _ _ hq⟩
  | none =>
    refine ⟨[(a, o)], fun p hp => ?_, fun h' _ k2 => k2 (a, o) (.head _)⟩
    rw [List.mem_singleton.mp hp]
    exact ⟨ho, fun e => ns_noSeq F.ns o (e ▸ ho) _ _ hd, hq⟩
mutual
theorem deep_led {h₀ h : Heap} {L : Addr} {m : PySem.Str → Option Value} (F : Fr h₀ L h m) : ∀ {v : Value} {d : PyData} {as : List Addr}, noD d = true → Reads h v d as →
    ∃ nt, News h₀ L h nt ∧ ∀ h', h₀.StaysIn h' → (∀ p ∈ nt, h'.get? p.1 = some p.2) → Reads h' v d as
  | _, _, _, _, .none => ⟨[], News.nil, fun _ _ _ => .none⟩
  | _, _, _, _, .bool b => ⟨[], News.nil, fun _ _ _ => .bool b⟩
  | _, _, _, _, .int i t => ⟨[], News.nil, fun _ _ _ => .int i t⟩
  | _, _, _, _, .str x t => ⟨[], News.nil, fun _ _ _ => .str x t⟩
  | _, _, _, n, .list h1 h2 h3 h4 =>
    let ⟨n1, A1, A2⟩ := one_led F h1 h3
    let ⟨n2, B1, B2⟩ := deep_leds F (by simpa [noD] using n) h4
    ⟨n1 ++ n2, News.app A1 B1, fun h' k1 k2 => .list (A2 h' k1 fun p hp => k2 p (List.mem_append_left _ hp)) h2 h3 (B2 h' k1 fun p hp => k2 p (List.mem_append_right _ hp))⟩
  | _, _, _, n, .tuple h1 h2 h3 h4 =>
    let ⟨n1, A1, A2⟩ := one_led F h1 h3
    let ⟨n2, B1, B2⟩ := deep_leds F (by simpa [noD] using n) h4
    ⟨n1 ++ n2, News.app A1 B1, fun h' k1 k2 => .tuple (A2 h' k1 fun p hp => k2 p (List.mem_append_left _ hp)) h2 h3 (B2 h' k1 fun p hp => k2 p (List.mem_append_right _ hp))⟩
  | _, _, _, n, .dict .. => by simp [noD] at n
theorem deep_leds {h₀ h : Heap} {L : Addr} {m : PySem.Str → Option Value} (F : Fr h₀ L h m) : ∀ {vs : List Value} {ds : List PyData} {as : List Addr}, noDs ds = true → ReadsAll h vs ds as →
    ∃ nt, News h₀ L h nt ∧ ∀ h', h₀.StaysIn h' → (∀ p ∈ nt, h'.get? p.1 = some p.2) → ReadsAll h' vs ds as
  | _, _, _, _, .nil => ⟨[], News.nil, fun _ _ _ => .nil⟩
  | _, _, _, n, .cons h1 h2 =>
    let ⟨n1, A1, A2⟩ := deep_led F (by simp [noDs] at n; exact n.1) h1
    let ⟨n2, B1, B2⟩ := deep_leds F (by simp [noDs] at n; exact n.2) h2
    ⟨n1 ++ n2, News.app A1 B1, fun h' k1 k2 => .cons (A2 h' k1 fun p hp => k2 p (List.mem_append_left _ hp)) (B2 h' k1 fun p hp => k2 p (List.mem_append_right _ hp))⟩
end
theorem pick_from (vs : List Value) (k : Nat) : kms_pick vs.toArray.toList (some (k : Int)) none = vs.drop k := by
  unfold kms_pick kms_lo kms_hi
  have h1 : ¬ ((k : Int) < 0) := by omega
  simp only [h1, if_false, Int.toNat_natCast]
  rcases Nat.le_total k vs.length with h | h
  · rw [Nat.min_eq_left h]
    exact List.take_of_length_le (by rw [List.length_drop]; exact Nat.le_refl _)
  · rw [Nat.min_eq_right h, Nat.sub_self, List.take_zero, List.drop_eq_nil_of_le h]
theorem join_len (l : List PySem.Str) : (Txt.join (PySem.Str.ofString "") l).length = (l.map (·.length)).sum := by
  show (Txt.join (PySem.Str.ofString "") l).cps.size = _
  rw [← Array.length_toList, join_cps, List.length_flatten, List.map_map]
  rfl
theorem fr_set {h₀ h : Heap} {L : Addr} {m : PySem.Str → Option Value} {k : PySem.Str} {v : Option Value} (F : Fr h₀ L h m) (hk : m k = v) : Fr h₀ L h (fun z => if z = k then v else m z) := by
  have e : (fun z => if z = k then v else m z) = m := by
    funext z
    by_cases h : z = k
    · rw [if_pos h, h, hk]
    · rw [if_neg h]
  rw [e]
  exact F
theorem LB.modes {sa tb ml : Addr} {m : PySem.Str → Option Value} (hb : LB sa tb ml m) : m (PySem.Str.ofString "modes") = some (.ref ml) :=
  hb (PySem.Str.ofString "modes") (by decide) (by decide) (by decide) (by decide) (by decide) (by decide) (by decide) (by decide) (by decide) (by decide) (by decide) (by decide)
theorem LB.table {sa tb ml : Addr} {m : PySem.Str → Option Value} (hb : LB sa tb ml m) : m (PySem.Str.ofString "table") = some (.ref tb) :=
  hb (PySem.Str.ofString "table") (by decide) (by decide) (by decide) (by decide) (by decide) (by decide) (by decide) (by decide) (by decide) (by decide) (by decide) (by decide)
theorem LB.fin {sa tb ml : Addr} {m : PySem.Str → Option Value} (hb : LB sa tb ml m) : LB sa tb ml (fun z => if z = (PySem.Str.ofString "modes") then some (.ref ml) else if z = (PySem.Str.ofString "table") then some (.ref tb) else m z) := by
  intro z z0 z1 z2 z3 z4 z5 z6 z7 z8 z9 z10 z11
  show (if z = (PySem.Str.ofString "modes") then some (.ref ml) else if z = (PySem.Str.ofString "table") then some (.ref tb) else m z) = lawBase sa tb ml z
  have e := hb z z0 z1 z2 z3 z4 z5 z6 z7 z8 z9 z10 z11
  by_cases h1 : z = (PySem.Str.ofString "modes")
  · rw [if_pos h1, h1]; rfl
  · by_cases h2 : z = (PySem.Str.ofString "table")
    · rw [if_neg h1, if_pos h2, h2]; rfl
    · rw [if_neg h1, if_neg h2, e]
end Mine
end
section
namespace Mine
section
variable {w : World} {A : Around} {s : Shared} {mean : ExcName → Option Value} {mg mb : PySem.Str → Option Value} {h₀ : Heap} {L : Addr} {m : PySem.Str → Option Value} {Q : Flow → Shared → Prop}
set_option maxRecDepth 100000 in
set_option maxHeartbeats 8000000 in
theorem turn_a (R : Room A 40) (X : (hd.heap_1 w.params).In h₀) (T : TT mean mg mb h₀) (K0 : Below A h₀ [] h₀)
    {sa tb dx hl ml xl rl I : Addr} {oI oR : Obj} {ini pv XV : List Value} {last : Int} {tl tkH : Tok} {nm np : Nat} {nt : List (Addr × Obj)} {ps : List Pr2} {x : Int} {tx : Tok} {i : Nat}
    (F : Fr h₀ L s.heap m) (N : News h₀ L s.heap ((I, oI) :: (rl, oR) :: (ml, listOf (ini ++ [Value.int last tl]).toArray nm) :: (hl, listOf pv.toArray np) :: (tb, instObj 175 dx) :: (dx, dictOf [⟨PyData.keyHash w.params (PySem.Str.ofString "_headers"), .str (PySem.Str.ofString "_headers") tkH, .ref hl⟩] 1) :: (xl, listOf XV.toArray 0) :: nt))
    (hb : LB sa tb ml m) (hx : m (PySem.Str.ofString "x") = some (.int x tx)) (hr : m (PySem.Str.ofString "rows") = some (.ref rl)) (hx0 : 0 ≤ x ∧ x < 1000000) (hil : ini.length = i) (hi : i < 13) (hl0 : 0 ≤ last ∧ last < 4294967296)
    (hrl : rl ≠ ml ∧ rl ≠ hl) (hnt : ∀ p ∈ nt, p.2.cls = .type "tuple") (hpv : Bears h₀ nt pv (ps.map pairD)) (hps : ps.length ≤ i) (hpl : ∀ p ∈ ps, p.1.length ≤ 1000)
    (hmh : ml ≠ hl) (hth : tb ≠ hl ∧ dx ≠ hl ∧ xl ≠ hl ∧ I ≠ hl)
    (k : ∀ h' tk' m' al r np' pv' nt' u1 u2, Fr h₀ L h' m' → News h₀ L h' ((al, listOf pv.toArray 0) :: (I, oI) :: (rl, oR) :: (ml, listOf (ini ++ [Value.int last tl]).toArray nm) :: (hl, listOf pv'.toArray np') :: (tb, instObj 175 dx) :: (dx, dictOf [⟨PyData.keyHash w.params (PySem.Str.ofString "_headers"), .str (PySem.Str.ofString "_headers") tkH, .ref hl⟩] 1) :: (xl, listOf XV.toArray 0) :: nt') →
      (∀ p ∈ nt, p ∈ nt') → (∀ p ∈ nt', p.2.cls = .type "tuple") → (al ≠ I ∧ al ≠ rl ∧ al ≠ ml ∧ al ≠ hl ∧ al ≠ tb ∧ al ≠ dx ∧ al ≠ xl) →
      Bears h₀ nt' pv' ((deedPs (x.fmod 7).toNat ps (fmI (nextM x last)) (txtK i) (fmI last)).map pairD) → LB sa tb ml m' → m' (PySem.Str.ofString "x") = some (.int x tx) → m' (PySem.Str.ofString "rows") = some (.ref rl) →
      m' (PySem.Str.ofString "mode") = some (.int (nextM x last) u1) → m' (PySem.Str.ofString "text") = some (.str (txtK i) u2) → m' (PySem.Str.ofString "ahead") = some (.ref al) → m' (PySem.Str.ofString "told") = some r → (∀ h, At h r (deedV (x.fmod 7).toNat ps (fmI (nextM x last)) (txtK i))) →
      wpAny (model PG w) (A.deeper (lawEnv L)) (execs (turnBody.drop 5) (lawEnv L)) Q NoE { s with heap := h', toks := tk' }) :
    wpAny (model PG w) (A.deeper (lawEnv L)) (execs (turnBody.drop 0) (lawEnv L)) Q NoE s := by
  obtain ⟨f1, f2, f3, f4, f5⟩ := A
  have hh := R.handled
  dsimp only at hh
  subst hh
  have hun := R.units
  dsimp only at hun
  replace F := fr_set (k := (PySem.Str.ofString "table")) F hb.table
  replace F := fr_set (k := (PySem.Str.ofString "modes")) F hb.modes
  replace F := fr_set (k := (PySem.Str.ofString "x")) F hx
  conv in (turnBody.drop 0) => whnf
  delta lawEnv
  conv => pattern (occs := *) lawScope <;> whnf
  (repeat ((fail_if_success (with_reducible show wpAny _ _ (eval (PySem.Expr.IfExp _ _ _ _) _) _ _ _)); (fail_if_success (with_reducible show wpAny _ _ (call (Value.ref _) _ _) _ _ _)); (fail_if_success (with_reducible show wpAny _ _ (subscriptTail _ _ (Value.ref _) _) _ _ _)); (first | ((with_reducible show wpAny _ _ (exec _ _) _ _ _); refine abs_post fun Q' hQ' => ?_; walk1) | walk1 | (dsimp only; walk1) | (refine hQ' _ _ ?_; clear hQ'))))
  refine join_int (n := nextM x last) ?_ ?_
  · (repeat ((fail_if_success (with_reducible show wpAny _ _ (call (Value.ref _) _ _) _ _ _)); (fail_if_success (with_reducible show wpAny _ _ (call (Value.type "str") _ _) _ _ _)); (fail_if_success (with_reducible show wpAny _ _ (call (Value.builtin "len") _ _) _ _ _)); (fail_if_success (with_reducible show wpAny _ _ (subscriptTail _ _ (Value.ref _) _) _ _ _)); (first | ((with_reducible show wpAny _ _ (exec _ _) _ _ _); refine abs_post fun Q' hQ' => ?_; walk1) | walk1 | (dsimp only; walk1) | (refine hQ' _ _ ?_; clear hQ'))))
    · exact ⟨_, _, congrArg (fun z => Value.int z _) (if_pos (by assumption)).symm, rfl⟩
    (repeat ((fail_if_success (with_reducible show wpAny _ _ (call (Value.ref _) _ _) _ _ _)); (fail_if_success (with_reducible show wpAny _ _ (call (Value.type "str") _ _) _ _ _)); (fail_if_success (with_reducible show wpAny _ _ (call (Value.builtin "len") _ _) _ _ _)); (fail_if_success (with_reducible show wpAny _ _ (subscriptTail _ _ (Value.ref _) _) _ _ _)); (first | ((with_reducible show wpAny _ _ (exec _ _) _ _ _); refine abs_post fun Q' hQ' => ?_; walk1) | walk1 | (dsimp only; walk1) | (refine hQ' _ _ ?_; clear hQ'))))
    rename News _ _ _ _ => N
    refine item_last (ini := ini) ⟨_, (N _ (.tail _ (.tail _ (.head _)))).1, rfl, _, rfl⟩ ?_
    (repeat ((fail_if_success (with_reducible show wpAny _ _ (binaryOp Operator.Pow _ _) _ _ _)); (first | ((with_reducible show wpAny _ _ (exec _ _) _ _ _); refine abs_post fun Q' hQ' => ?_; walk1) | walk1 | (dsimp only; walk1) | (refine hQ' _ _ ?_; clear hQ'))))
    have hp0 : 0 ≤ ((x.fdiv 7).fdiv 2).fmod 32 := Int.fmod_nonneg_of_pos _ (by decide)
    have hp1 : ((x.fdiv 7).fdiv 2).fmod 32 < 32 := Int.fmod_lt_of_pos _ (by decide)
    refine pow_int hp0 (by rw [show (Builtin.Int.intBits 2 : Int) = 2 by decide +kernel]; omega) ?_
    refine xor_int ?_
    exact ⟨_, _, congrArg (fun z => Value.int z _) (if_neg (by assumption)).symm, rfl⟩
  intro tm1 km1
  (repeat ((fail_if_success (with_reducible show wpAny _ _ (eval (PySem.Expr.IfExp _ _ _ _) _) _ _ _)); (fail_if_success (with_reducible show wpAny _ _ (call (Value.ref _) _ _) _ _ _)); (fail_if_success (with_reducible show wpAny _ _ (subscriptTail _ _ (Value.ref _) _) _ _ _)); (first | ((with_reducible show wpAny _ _ (exec _ _) _ _ _); refine abs_post fun Q' hQ' => ?_; walk1) | walk1 | (dsimp only; walk1) | (refine hQ' _ _ ?_; clear hQ'))))
  refine join_str (x := txtK i) ?_ ?_
  · have hlen : (((ini ++ [Value.int last tl]).toArray.size : Nat) : Int) = (i : Int) + 1 := by simp [hil]
    (repeat ((fail_if_success (with_reducible show wpAny _ _ (call (Value.ref _) _ _) _ _ _)); (fail_if_success (with_reducible show wpAny _ _ (call (Value.type "str") _ _) _ _ _)); (fail_if_success (with_reducible show wpAny _ _ (call (Value.builtin "len") _ _) _ _ _)); (fail_if_success (with_reducible show wpAny _ _ (subscriptTail _ _ (Value.ref _) _) _ _ _)); (first | ((with_reducible show wpAny _ _ (exec _ _) _ _ _); refine abs_post fun Q' hQ' => ?_; walk1) | walk1 | (dsimp only; walk1) | (refine hQ' _ _ ?_; clear hQ'))))
    rename News _ _ _ _ => N
    refine Calls.call_len_list (items := (ini ++ [Value.int last tl]).toArray) ⟨_, (N _ (.tail _ (.tail _ (.head _)))).1, rfl, _, rfl⟩ (by simp; omega) ?_
    rw [hlen]
    (repeat ((fail_if_success (with_reducible show wpAny _ _ (call (Value.ref _) _ _) _ _ _)); (fail_if_success (with_reducible show wpAny _ _ (call (Value.type "str") _ _) _ _ _)); (fail_if_success (with_reducible show wpAny _ _ (call (Value.builtin "len") _ _) _ _ _)); (fail_if_success (with_reducible show wpAny _ _ (subscriptTail _ _ (Value.ref _) _) _ _ _)); (first | ((with_reducible show wpAny _ _ (exec _ _) _ _ _); refine abs_post fun Q' hQ' => ?_; walk1) | walk1 | (dsimp only; walk1) | (refine hQ' _ _ ?_; clear hQ'))))
    · refine Calls.call_len_list (items := (ini ++ [Value.int last tl]).toArray) ⟨_, (N _ (.tail _ (.tail _ (.head _)))).1, rfl, _, rfl⟩ (by simp; omega) ?_
      rw [hlen]
      (repeat ((fail_if_success (with_reducible show wpAny _ _ (call (Value.ref _) _ _) _ _ _)); (fail_if_success (with_reducible show wpAny _ _ (call (Value.type "str") _ _) _ _ _)); (fail_if_success (with_reducible show wpAny _ _ (call (Value.builtin "len") _ _) _ _ _)); (fail_if_success (with_reducible show wpAny _ _ (subscriptTail _ _ (Value.ref _) _) _ _ _)); (first | ((with_reducible show wpAny _ _ (exec _ _) _ _ _); refine abs_post fun Q' hQ' => ?_; walk1) | walk1 | (dsimp only; walk1) | (refine hQ' _ _ ?_; clear hQ'))))
      have hi1 : 1 < (i : Int) + 1 := by assumption
      have e : (i : Int) + 1 - 1 = (i : Int) := by omega
      rw [e]
      refine P.str_of_int (by rw [Int.natAbs_natCast]; exact Nat.lt_of_le_of_lt (Nat.log2_le_self _) (by omega)) ?_
      have e2 : txtK i = PySem.Str.ofString (toString (i : Int)) := if_neg (by omega)
      rw [e2]
      exact ⟨_, _, rfl, rfl⟩
    · have hi1 : ¬ 1 < (i : Int) + 1 := by assumption
      iterate 1 (first | walk1 | (dsimp only; walk1))
      have e2 : txtK i = PySem.Str.ofString "" := if_pos (by omega)
      rw [e2]
      exact ⟨_, _, rfl, rfl⟩
  intro tm2 km2
  (repeat ((fail_if_success (with_reducible show wpAny _ _ (call (Value.ref _) _ _) _ _ _)); (fail_if_success (with_reducible show wpAny _ _ (call (Value.type "str") _ _) _ _ _)); (fail_if_success (with_reducible show wpAny _ _ (call (Value.builtin "len") _ _) _ _ _)); (fail_if_success (with_reducible show wpAny _ _ (subscriptTail _ _ (Value.ref _) _) _ _ _)); (first | ((with_reducible show wpAny _ _ (exec _ _) _ _ _); refine abs_post fun Q' hQ' => ?_; walk1) | walk1 | (dsimp only; walk1) | (refine hQ' _ _ ?_; clear hQ'))))
  rename Fr _ _ _ _ => F3
  rename News _ _ _ _ => N3
  dsimp only [List.append_nil]
  have hB : ∀ {h : Heap} {news : List (Addr × Obj)}, News h₀ L h news → ((tb, instObj 175 dx) ∈ news) → ((dx, dictOf [⟨PyData.keyHash w.params (PySem.Str.ofString "_headers"), .str (PySem.Str.ofString "_headers") tkH, .ref hl⟩] 1) ∈ news) → Tbl w h tb dx hl tkH := fun N h1 h2 => ⟨(N _ h1).1, (N _ h2).1⟩
  have hpvl : pv.length = ps.length := by
    have := (hpv.read F3 N3 fun p hp => by first | (((repeat refine List.Mem.tail _ ?_); first | assumption | exact List.mem_append_right _ (by assumption) | exact List.mem_append_left _ (by assumption))) | simp [hp]).length
    simpa using this
  refine use_ret (items_spec (s := ⟨_, _, _, _, _⟩) (Room.less (R.deeper _) (by decide)) (X.keeps F3.keep) (T.keeps F3.keep) (hB N3 (by first | (((repeat (first | exact List.Mem.head _ | refine List.Mem.tail _ ?_)); done)) | simp) (by first | (((repeat (first | exact List.Mem.head _ | refine List.Mem.tail _ ?_)); done)) | simp)) pv ⟨_, (N3 (hl, listOf pv.toArray np) (by first | (((repeat (first | exact List.Mem.head _ | refine List.Mem.tail _ ?_)); done)) | simp)).1, rfl, _, rfl⟩ (by omega)) F3 N3 ?_
  rintro v4 h4 tk4 ⟨al, rfl, hal0, hal1⟩ hk4 F4 N4
  have hal : al ≠ I ∧ al ≠ rl ∧ al ≠ ml ∧ al ≠ hl ∧ al ≠ tb ∧ al ≠ dx ∧ al ≠ xl := by
    refine ⟨?_, ?_, ?_, ?_, ?_, ?_, ?_⟩
    · exact ne_of_some (N3 (I, oI) (by first | (((repeat (first | exact List.Mem.head _ | refine List.Mem.tail _ ?_)); done)) | simp)).1 hal0
    · exact ne_of_some (N3 (rl, oR) (by first | (((repeat (first | exact List.Mem.head _ | refine List.Mem.tail _ ?_)); done)) | simp)).1 hal0
    · exact ne_of_some (N3 (ml, listOf (ini ++ [Value.int last tl]).toArray nm) (by first | (((repeat (first | exact List.Mem.head _ | refine List.Mem.tail _ ?_)); done)) | simp)).1 hal0
    · exact ne_of_some (N3 (hl, listOf pv.toArray np) (by first | (((repeat (first | exact List.Mem.head _ | refine List.Mem.tail _ ?_)); done)) | simp)).1 hal0
    · exact ne_of_some (N3 (tb, instObj 175 dx) (by first | (((repeat (first | exact List.Mem.head _ | refine List.Mem.tail _ ?_)); done)) | simp)).1 hal0
    · exact ne_of_some (N3 (dx, dictOf [⟨PyData.keyHash w.params (PySem.Str.ofString "_headers"), .str (PySem.Str.ofString "_headers") tkH, .ref hl⟩] 1) (by first | (((repeat (first | exact List.Mem.head _ | refine List.Mem.tail _ ?_)); done)) | simp)).1 hal0
    · exact ne_of_some (N3 (xl, listOf XV.toArray 0) (by first | (((repeat (first | exact List.Mem.head _ | refine List.Mem.tail _ ?_)); done)) | simp)).1 hal0
  have N5 := News.made F3 N3 hal0 hk4 hal1
  clear F3 N3 N4 hk4 hal0 hal1
  (repeat ((fail_if_success (with_reducible show wpAny _ _ (call (Value.ref _) _ _) _ _ _)); (fail_if_success (with_reducible show wpAny _ _ (call (Value.type "str") _ _) _ _ _)); (fail_if_success (with_reducible show wpAny _ _ (call (Value.builtin "len") _ _) _ _ _)); (fail_if_success (with_reducible show wpAny _ _ (subscriptTail _ _ (Value.ref _) _) _ _ _)); (first | ((with_reducible show wpAny _ _ (exec _ _) _ _ _); refine abs_post fun Q' hQ' => ?_; walk1) | walk1 | (dsimp only; walk1) | (refine hQ' _ _ ?_; clear hQ'))))
  rename Fr _ _ _ _ => F6
  rename News _ _ _ _ => N6
  have hm0 : 0 ≤ nextM x last ∧ nextM x last < 4294967296 := nextM_rng hx0 hl0
  refine use_ret (fm_spec (s := ⟨_, _, _, _, _⟩) (Room.less (R.deeper _) (by decide)) (X.keeps F6.keep) (T.keeps F6.keep) (nextM x last) tm1) F6 N6 ?_
  rintro v7 h7 tk7 ⟨t7, rfl⟩ hk7 F7 N7
  clear F6 N6 hk7
  (repeat ((fail_if_success (with_reducible show wpAny _ _ (call (Value.ref _) _ _) _ _ _)); (fail_if_success (with_reducible show wpAny _ _ (call (Value.type "str") _ _) _ _ _)); (fail_if_success (with_reducible show wpAny _ _ (call (Value.builtin "len") _ _) _ _ _)); (fail_if_success (with_reducible show wpAny _ _ (subscriptTail _ _ (Value.ref _) _) _ _ _)); (first | ((with_reducible show wpAny _ _ (exec _ _) _ _ _); refine abs_post fun Q' hQ' => ?_; walk1) | walk1 | (dsimp only; walk1) | (refine hQ' _ _ ?_; clear hQ'))))
  rename Fr _ _ _ _ => F8
  rename News _ _ _ _ => N8
  refine item_last (ini := ini) ⟨_, (N8 (ml, listOf (ini ++ [Value.int last tl]).toArray nm) (by first | (((repeat (first | exact List.Mem.head _ | refine List.Mem.tail _ ?_)); done)) | simp)).1, rfl, _, rfl⟩ ?_
  (repeat ((fail_if_success (with_reducible show wpAny _ _ (call (Value.ref _) _ _) _ _ _)); (fail_if_success (with_reducible show wpAny _ _ (call (Value.type "str") _ _) _ _ _)); (fail_if_success (with_reducible show wpAny _ _ (call (Value.builtin "len") _ _) _ _ _)); (fail_if_success (with_reducible show wpAny _ _ (subscriptTail _ _ (Value.ref _) _) _ _ _)); (first | ((with_reducible show wpAny _ _ (exec _ _) _ _ _); refine abs_post fun Q' hQ' => ?_; walk1) | walk1 | (dsimp only; walk1) | (refine hQ' _ _ ?_; clear hQ'))))
  refine use_ret (fm_spec (s := ⟨_, _, _, _, _⟩) (Room.less (R.deeper _) (by decide)) (X.keeps F8.keep) (T.keeps F8.keep) last tl) F8 N8 ?_
  rintro v9 h9 tk9 ⟨t9, rfl⟩ hk9 F9 N9
  clear F8 N8 hk9
  (repeat ((fail_if_success (with_reducible show wpAny _ _ (call (Value.ref _) _ _) _ _ _)); (fail_if_success (with_reducible show wpAny _ _ (call (Value.type "str") _ _) _ _ _)); (fail_if_success (with_reducible show wpAny _ _ (call (Value.builtin "len") _ _) _ _ _)); (fail_if_success (with_reducible show wpAny _ _ (subscriptTail _ _ (Value.ref _) _) _ _ _)); (first | ((with_reducible show wpAny _ _ (exec _ _) _ _ _); refine abs_post fun Q' hQ' => ?_; walk1) | walk1 | (dsimp only; walk1) | (refine hQ' _ _ ?_; clear hQ'))))
  have hsaf := fm_saf (nextM x last) hm0.1
  have hlen10 := fm_len10 (nextM x last) hm0.1
  have hsafl := fm_saf last hl0.1
  have hlenl := fm_len10 last hl0.1
  have hts := txtK_saf hi
  have htl := txtK_len hi
  have hocc := fm_occ last hl0.1
  have hd0 : 0 ≤ x.fmod 7 := Int.fmod_nonneg_of_pos _ (by decide)
  have hd1 : x.fmod 7 < 7 := Int.fmod_lt_of_pos _ (by decide)
  refine use_turn (s := ⟨_, _, _, _, _⟩) (P := fun r h' => At h' r (deedV (x.fmod 7).toNat ps (fmI (nextM x last)) (txtK i)) ∧ Now hl (deedPs (x.fmod 7).toNat ps (fmI (nextM x last)) (txtK i) (fmI last)) h') [hl] K0 F9 ?_ ?_ ?_
  · intro b hb
    rw [List.mem_singleton.mp hb]
    exact ⟨(N9 (hl, listOf pv.toArray np) (by first | (((repeat (first | exact List.Mem.head _ | refine List.Mem.tail _ ?_)); done)) | simp)).2.2, (N9 (hl, listOf pv.toArray np) (by first | (((repeat (first | exact List.Mem.head _ | refine List.Mem.tail _ ?_)); done)) | simp)).2.1⟩
  · intro g g1 g2 g3 g4 g5 g6 g7
    refine deed_spec (s := ⟨_, _, _, _, _⟩) (tb := tb) (dx := dx) (hl := hl) (tk₀ := tkH) (vs := pv) (n := np) (ps := ps) (Room.less (R.deeper _) (by decide)) (X.keeps g3) (T.keeps g3) X T g6 g7 ⟨g1, g2, g4 hl (by first | (((repeat (first | exact List.Mem.head _ | refine List.Mem.tail _ ?_)); done)) | simp), ⟨?_, ?_⟩, ?_, by omega, ?_⟩ hpl (fmI (nextM x last)) t7 (by omega) (hsaf.1.lower.cleanN (by rw [lower_len hsaf.1]; omega)) (hsaf.1.cleanN (by omega)) (txtK i) tm2 (by omega) (hts.cleanV (by omega)) (fmI last) t9 (by omega) (by omega) (hsafl.1.cleanV (by omega)) hocc.1 hocc.2 (x.fmod 7).toNat (x.fmod 7) _ (by omega) (by omega)
    · exact g5 _ _ (by simp [hth.1]) (N9 (tb, instObj 175 dx) (by first | (((repeat (first | exact List.Mem.head _ | refine List.Mem.tail _ ?_)); done)) | simp)).1
    · exact g5 _ _ (by simp [hth.2.1]) (N9 (dx, dictOf [⟨PyData.keyHash w.params (PySem.Str.ofString "_headers"), .str (PySem.Str.ofString "_headers") tkH, .ref hl⟩] 1) (by first | (((repeat (first | exact List.Mem.head _ | refine List.Mem.tail _ ?_)); done)) | simp)).1
    · exact (N9 (hl, listOf pv.toArray np) (by first | (((repeat (first | exact List.Mem.head _ | refine List.Mem.tail _ ?_)); done)) | simp)).1
    · refine hpv g g3 fun p hp => g5 _ _ ?_ (N9 p (by first | (((repeat refine List.Mem.tail _ ?_); first | assumption | exact List.mem_append_right _ (by assumption) | exact List.mem_append_left _ (by assumption))) | simp [hp])).1
      have := tup_ne N9 (l := hl) (xs := pv.toArray) (n := np) (by first | (((repeat (first | exact List.Mem.head _ | refine List.Mem.tail _ ?_)); done)) | simp) (p := p) (by first | (((repeat refine List.Mem.tail _ ?_); first | assumption | exact List.mem_append_right _ (by assumption) | exact List.mem_append_left _ (by assumption))) | simp [hp]) (hnt p hp)
      simp [this]
  · rintro r h10 tk10 ⟨hat, pv', np', hget, hats⟩ kp F10
    obtain ⟨nt1, B1, B2, B3⟩ := to_led F10 (fun d hd => by obtain ⟨p, _, rfl⟩ := List.mem_map.mp hd; exact flat_pair p) hats
    have N10 : News h₀ L h10 ((al, listOf pv.toArray 0) :: (I, oI) :: (rl, oR) :: (ml, listOf (ini ++ [Value.int last tl]).toArray nm) :: (hl, listOf pv'.toArray np') :: (tb, instObj 175 dx) :: (dx, dictOf [⟨PyData.keyHash w.params (PySem.Str.ofString "_headers"), .str (PySem.Str.ofString "_headers") tkH, .ref hl⟩] 1) :: (xl, listOf XV.toArray 0) :: (nt1 ++ nt)) := by
      have keep : ∀ p : Addr × Obj, p ∈ ((al, listOf pv.toArray 0) :: (I, oI) :: (rl, oR) :: (ml, listOf (ini ++ [Value.int last tl]).toArray nm) :: (hl, listOf pv.toArray np) :: (tb, instObj 175 dx) :: (dx, dictOf [⟨PyData.keyHash w.params (PySem.Str.ofString "_headers"), .str (PySem.Str.ofString "_headers") tkH, .ref hl⟩] 1) :: (xl, listOf XV.toArray 0) :: nt) → p.1 ≠ hl → h10.get? p.1 = some p.2 ∧ p.1 ≠ L ∧ h₀.get? p.1 = none := fun p hp hne => by
        obtain ⟨q1, q2⟩ := N9 p hp
        exact ⟨kp _ _ (by simp [hne]) q2.1 q1, q2⟩
      have k0 := keep (al, listOf pv.toArray 0) (by first | (((repeat (first | exact List.Mem.head _ | refine List.Mem.tail _ ?_)); done)) | simp) hal.2.2.2.1
      have k1 := keep (I, oI) (by first | (((repeat (first | exact List.Mem.head _ | refine List.Mem.tail _ ?_)); done)) | simp) hth.2.2.2
      have k2 := keep (rl, oR) (by first | (((repeat (first | exact List.Mem.head _ | refine List.Mem.tail _ ?_)); done)) | simp) hrl.2
      have k3 := keep (ml, listOf (ini ++ [Value.int last tl]).toArray nm) (by first | (((repeat (first | exact List.Mem.head _ | refine List.Mem.tail _ ?_)); done)) | simp) hmh
      have k4 := N9 (hl, listOf pv.toArray np) (by first | (((repeat (first | exact List.Mem.head _ | refine List.Mem.tail _ ?_)); done)) | simp)
      have k5 := keep (tb, instObj 175 dx) (by first | (((repeat (first | exact List.Mem.head _ | refine List.Mem.tail _ ?_)); done)) | simp) hth.1
      have k6 := keep (dx, dictOf [⟨PyData.keyHash w.params (PySem.Str.ofString "_headers"), .str (PySem.Str.ofString "_headers") tkH, .ref hl⟩] 1) (by first | (((repeat (first | exact List.Mem.head _ | refine List.Mem.tail _ ?_)); done)) | simp) hth.2.1
      have k7 := keep (xl, listOf XV.toArray 0) (by first | (((repeat (first | exact List.Mem.head _ | refine List.Mem.tail _ ?_)); done)) | simp) hth.2.2.1
      have k8 : ∀ p ∈ nt, h10.get? p.1 = some p.2 ∧ p.1 ≠ L ∧ h₀.get? p.1 = none := fun p hp => keep p (by first | (((repeat refine List.Mem.tail _ ?_); first | assumption | exact List.mem_append_right _ (by assumption) | exact List.mem_append_left _ (by assumption))) | simp [hp]) (tup_ne N9 (l := hl) (xs := pv.toArray) (n := np) (by first | (((repeat (first | exact List.Mem.head _ | refine List.Mem.tail _ ?_)); done)) | simp) (p := p) (by first | (((repeat refine List.Mem.tail _ ?_); first | assumption | exact List.mem_append_right _ (by assumption) | exact List.mem_append_left _ (by assumption))) | simp [hp]) (hnt p hp))
      exact News.cons k0 (News.cons k1 (News.cons k2 (News.cons k3 (News.cons ⟨hget, k4.2⟩ (News.cons k5 (News.cons k6 (News.cons k7 (News.app B1 k8))))))))
    have hfl := deedV_flat (x.fmod 7).toNat ps (fmI (nextM x last)) (txtK i)
    clear F9 N9
    (repeat ((fail_if_success (with_reducible show wpAny _ _ (execs (Stmt.Assign [PySem.Expr.Name (PySem.Str.ofString "rank") _] _ _ :: _) _) _ _ _)); (first | ((with_reducible show wpAny _ _ (exec _ _) _ _ _); refine abs_post fun Q' hQ' => ?_; walk1) | walk1 | (dsimp only; walk1) | (refine hQ' _ _ ?_; clear hQ'))))
    rename Fr _ _ _ _ => F11
    rename News _ _ _ _ => N11
    exact k _ _ _ al r np' pv' (nt1 ++ nt) _ _ F11 N11 (fun p hp => by first | (((repeat refine List.Mem.tail _ ?_); first | assumption | exact List.mem_append_right _ (by assumption) | exact List.mem_append_left _ (by assumption))) | simp [hp]) (fun p hp => (List.mem_append.mp hp).elim (B3 p) (hnt p)) hal (B2.mono fun p hp => by first | (((repeat refine List.Mem.tail _ ?_); first | assumption | exact List.mem_append_right _ (by assumption) | exact List.mem_append_left _ (by assumption))) | simp [hp])
      (fun z z0 z1 z2 z3 z4 z5 z6 z7 z8 z9 z10 z11 => by simp only [if_neg z0, if_neg z1, if_neg z2, if_neg z3, if_neg z4, if_neg z5, if_neg z6, if_neg z7, if_neg z8, if_neg z9, if_neg z10, if_neg z11]; exact LB.fin hb z z0 z1 z2 z3 z4 z5 z6 z7 z8 z9 z10 z11) rfl hr rfl rfl rfl rfl (fun h => at_flat hfl hat)
end
end Mine
end
section
namespace Mine
section
variable {w : World} {A : Around} {s : Shared} {mean : ExcName → Option Value} {mg mb : PySem.Str → Option Value} {h₀ : Heap} {L : Addr} {m : PySem.Str → Option Value} {Q : Flow → Shared → Prop}
set_option maxRecDepth 100000 in
set_option maxHeartbeats 8000000 in
theorem turn_b (R : Room A 40) (X : (hd.heap_1 w.params).In h₀) (T : TT mean mg mb h₀)
    {sa tb dx hl ml xl rl I al : Addr} {oI oR : Obj} {us ini pv pvo XV : List Value} {last mo : Int} {tl tkH u1 u2 : Tok} {nm np nr : Nat} {nt : List (Addr × Obj)} {rs : List Ent} {modes : List Int} {x : Int} {tx : Tok} {i : Nat} {r : Value}
    (F : Fr h₀ L s.heap m) (N : News h₀ L s.heap ((al, listOf pvo.toArray 0) :: (I, oI) :: (rl, oR) :: (ml, listOf (ini ++ [Value.int last tl]).toArray nm) :: (hl, listOf pv.toArray np) :: (tb, instObj 175 dx) :: (dx, dictOf [⟨PyData.keyHash w.params (PySem.Str.ofString "_headers"), .str (PySem.Str.ofString "_headers") tkH, .ref hl⟩] 1) :: (xl, listOf XV.toArray 0) :: nt))
    (hb : LB sa tb ml m) (hx : m (PySem.Str.ofString "x") = some (.int x tx)) (hr : m (PySem.Str.ofString "rows") = some (.ref rl)) (hmo : m (PySem.Str.ofString "mode") = some (.int mo u1)) (htx : m (PySem.Str.ofString "text") = some (.str (txtK i) u2)) (hah : m (PySem.Str.ofString "ahead") = some (.ref al)) (htd : m (PySem.Str.ofString "told") = some r)
    (hi : i < 13) (hl0 : 0 ≤ last ∧ last < 4294967296) (hm0 : 0 ≤ mo ∧ mo < 4294967296) (H : LInv i rs modes)
    (hrl : rl ≠ ml ∧ rl ≠ hl ∧ rl ≠ al ∧ rl ≠ I) (hnt : ∀ p ∈ nt, p.2.cls = .type "tuple") (hRc : oR.cls = .type "list") (hRd : oR.data = .seq us.toArray nr) (hus : Bears h₀ nt us (rs.map tripD))
    (hpv : Bears h₀ nt pv (((dueRs (x.fmod 7).toNat rs (rankI mo, fmI mo, txtK i) (fmI last)).map prOf).map pairD)) (htv : ∀ h, At h r (dueV (x.fmod 7).toNat rs (rankI mo, fmI mo, txtK i)))
    (k : ∀ h' tk' m' D oD dv nd G oG gv ng nt', Fr h₀ L h' m' → News h₀ L h' ((D, oD) :: (G, oG) :: (al, listOf pvo.toArray 0) :: (I, oI) :: (rl, oR) :: (ml, listOf (ini ++ [Value.int last tl]).toArray nm) :: (hl, listOf pv.toArray np) :: (tb, instObj 175 dx) :: (dx, dictOf [⟨PyData.keyHash w.params (PySem.Str.ofString "_headers"), .str (PySem.Str.ofString "_headers") tkH, .ref hl⟩] 1) :: (xl, listOf XV.toArray 0) :: nt') → (∀ p ∈ nt, p ∈ nt') → (∀ p ∈ nt', p.2.cls = .type "tuple") →
      (oD.cls = .type "list" ∧ oD.data = .seq (List.toArray dv) nd) → (oG.cls = .type "list" ∧ oG.data = .seq (List.toArray gv) ng) → Bears h₀ nt' dv ((dueRs (x.fmod 7).toNat rs (rankI mo, fmI mo, txtK i) (fmI last)).map tripD) → Bears h₀ nt' gv ((dueG (x.fmod 7).toNat rs (rankI mo, fmI mo, txtK i)).map tripD) →
      (D ≠ al ∧ D ≠ I ∧ D ≠ ml ∧ D ≠ hl) → (G ≠ al ∧ G ≠ I ∧ G ≠ ml ∧ G ≠ hl) → LB sa tb ml m' → m' (PySem.Str.ofString "rows") = some (.ref rl) → m' (PySem.Str.ofString "mode") = some (.int mo u1) → m' (PySem.Str.ofString "ahead") = some (.ref al) → m' (PySem.Str.ofString "due") = some (.ref D) → m' (PySem.Str.ofString "gone") = some (.ref G) →
      wpAny (model PG w) (A.deeper (lawEnv L)) (execs (turnBody.drop 9) (lawEnv L)) Q NoE { s with heap := h', toks := tk' }) :
    wpAny (model PG w) (A.deeper (lawEnv L)) (execs (turnBody.drop 5) (lawEnv L)) Q NoE s := by
  obtain ⟨f1, f2, f3, f4, f5⟩ := A
  have hh := R.handled
  dsimp only at hh
  subst hh
  have hun := R.units
  dsimp only at hun
  have hd0 : 0 ≤ x.fmod 7 := Int.fmod_nonneg_of_pos _ (by decide)
  have hd1 : x.fmod 7 < 7 := Int.fmod_lt_of_pos _ (by decide)
  have H' := (H.step hi (d := (x.fmod 7).toNat) (by omega) hm0 (last := last) hl0.1).1
  have hlen10 := fm_len10 mo hm0.1
  have hlenl := fm_len10 last hl0.1
  have hsaf := fm_saf mo hm0.1
  have htl := txtK_len hi
  replace F := fr_set (k := (PySem.Str.ofString "table")) F hb.table
  replace F := fr_set (k := (PySem.Str.ofString "modes")) F hb.modes
  replace F := fr_set (k := (PySem.Str.ofString "x")) F hx
  replace F := fr_set (k := (PySem.Str.ofString "rows")) F hr
  replace F := fr_set (k := (PySem.Str.ofString "mode")) F hmo
  replace F := fr_set (k := (PySem.Str.ofString "text")) F htx
  replace F := fr_set (k := (PySem.Str.ofString "told")) F htd
  conv in (turnBody.drop 5) => whnf
  delta lawEnv
  conv => pattern (occs := *) lawScope <;> whnf
  (repeat ((fail_if_success (with_reducible show wpAny _ _ (call (Value.ref _) _ _) _ _ _)); (fail_if_success (with_reducible show wpAny _ _ (compareOp _ _ _) _ _ _)); (fail_if_success (with_reducible show wpAny _ _ (subscriptTail _ _ (Value.ref _) _) _ _ _)); (first | ((with_reducible show wpAny _ _ (exec _ _) _ _ _); refine abs_post fun Q' hQ' => ?_; walk1) | walk1 | (dsimp only; walk1) | (refine hQ' _ _ ?_; clear hQ'))))
  rename Fr _ _ _ _ => F1
  rename News _ _ _ _ => N1
  refine use_ret (rank_spec (s := ⟨_, _, _, _, _⟩) (Room.less (R.deeper _) (by decide)) (X.keeps F1.keep) (T.keeps F1.keep) mo u1) F1 N1 ?_
  rintro v2 h2 tk2 ⟨t2, rfl⟩ hk2 F2 N2
  clear F1 N1 hk2
  (repeat ((fail_if_success (with_reducible show wpAny _ _ (call (Value.ref _) _ _) _ _ _)); (fail_if_success (with_reducible show wpAny _ _ (compareOp _ _ _) _ _ _)); (fail_if_success (with_reducible show wpAny _ _ (subscriptTail _ _ (Value.ref _) _) _ _ _)); (first | ((with_reducible show wpAny _ _ (exec _ _) _ _ _); refine abs_post fun Q' hQ' => ?_; walk1) | walk1 | (dsimp only; walk1) | (refine hQ' _ _ ?_; clear hQ'))))
  rename Fr _ _ _ _ => F3
  rename News _ _ _ _ => N3
  refine use_ret (row_spec (s := ⟨_, _, _, _, _⟩) (Room.less (R.deeper _) (by decide)) (X.keeps F3.keep) (T.keeps F3.keep) mo u1 hm0.1 hm0.2) F3 N3 ?_
  rintro v4 h4 tk4 ⟨t4, rfl⟩ hk4 F4 N4
  rw [← fm_row mo hm0.1]
  clear F3 N3 hk4
  (repeat ((fail_if_success (with_reducible show wpAny _ _ (call (Value.ref _) _ _) _ _ _)); (fail_if_success (with_reducible show wpAny _ _ (compareOp _ _ _) _ _ _)); (fail_if_success (with_reducible show wpAny _ _ (subscriptTail _ _ (Value.ref _) _) _ _ _)); (first | ((with_reducible show wpAny _ _ (exec _ _) _ _ _); refine abs_post fun Q' hQ' => ?_; walk1) | walk1 | (dsimp only; walk1) | (refine hQ' _ _ ?_; clear hQ'))))
  rename Fr _ _ _ _ => F5
  rename News _ _ _ _ => N5
  refine item_last (ini := ini) ⟨_, (N5 (ml, listOf (ini ++ [Value.int last tl]).toArray nm) (by first | (((repeat (first | exact List.Mem.head _ | refine List.Mem.tail _ ?_)); done)) | simp)).1, rfl, _, rfl⟩ ?_
  (repeat ((fail_if_success (with_reducible show wpAny _ _ (call (Value.ref _) _ _) _ _ _)); (fail_if_success (with_reducible show wpAny _ _ (compareOp _ _ _) _ _ _)); (fail_if_success (with_reducible show wpAny _ _ (subscriptTail _ _ (Value.ref _) _) _ _ _)); (first | ((with_reducible show wpAny _ _ (exec _ _) _ _ _); refine abs_post fun Q' hQ' => ?_; walk1) | walk1 | (dsimp only; walk1) | (refine hQ' _ _ ?_; clear hQ'))))
  refine use_ret (row_spec (s := ⟨_, _, _, _, _⟩) (Room.less (R.deeper _) (by decide)) (X.keeps F5.keep) (T.keeps F5.keep) last tl hl0.1 hl0.2) F5 N5 ?_
  rintro v6 h6 tk6 ⟨t6, rfl⟩ hk6 F6 N6
  rw [← fm_row last hl0.1]
  clear F5 N5 hk6
  (repeat ((fail_if_success (with_reducible show wpAny _ _ (call (Value.ref _) _ _) _ _ _)); (fail_if_success (with_reducible show wpAny _ _ (compareOp _ _ _) _ _ _)); (fail_if_success (with_reducible show wpAny _ _ (subscriptTail _ _ (Value.ref _) _) _ _ _)); (first | ((with_reducible show wpAny _ _ (exec _ _) _ _ _); refine abs_post fun Q' hQ' => ?_; walk1) | walk1 | (dsimp only; walk1) | (refine hQ' _ _ ?_; clear hQ'))))
  have husl : us.length = rs.length := by
    have := (hus.read F6 N6 fun p hp => by first | (((repeat refine List.Mem.tail _ ?_); first | assumption | exact List.mem_append_right _ (by assumption) | exact List.mem_append_left _ (by assumption))) | simp [hp]).length
    simpa using this
  have hrll := H.rlen
  refine use_ret (due_spec (s := ⟨_, _, _, _, _⟩) (Room.less (R.deeper _) (by decide)) (X.keeps F6.keep) (T.keeps F6.keep) rs rl us ⟨oR, (N6 (rl, oR) (by first | (((repeat (first | exact List.Mem.head _ | refine List.Mem.tail _ ?_)); done)) | simp)).1, hRc, _, hRd⟩ (hus.read F6 N6 fun p hp => by first | (((repeat refine List.Mem.tail _ ?_); first | assumption | exact List.mem_append_right _ (by assumption) | exact List.mem_append_left _ (by assumption))) | simp [hp]) (by omega) (rankI mo, fmI mo, txtK i) _ t2 t4 u2 ⟨_, (N6 _ (.head _)).1, rfl, _, rfl⟩ (by show (txtK i).length ≤ 1000; omega) H.sok (fmI last) t6 (by omega) (x.fmod 7).toNat (x.fmod 7) _ (by omega) (by omega)) F6 N6 ?_
  rintro v7 h7 tk7 ⟨T7, D, G, x7, rfl, hT7, hD7, hx7, hG7, hDf, hGf⟩ hk7 F7 N7
  have hL6 : ∀ b, h6.get? b = none → h₀.get? b = none := fun b e => none_sub F6.keep e
  have hD0 : h₀.get? D = none ∧ (D ≠ al ∧ D ≠ I ∧ D ≠ ml ∧ D ≠ hl) := by
    rcases hDf with rfl | hDf
    · exact ⟨(N6 (D, oR) (by first | (((repeat (first | exact List.Mem.head _ | refine List.Mem.tail _ ?_)); done)) | simp)).2.2, hrl.2.2.1, hrl.2.2.2, hrl.1, hrl.2.1⟩
    · exact ⟨hL6 _ hDf, ne_of_some (N6 (al, listOf pvo.toArray 0) (by first | (((repeat (first | exact List.Mem.head _ | refine List.Mem.tail _ ?_)); done)) | simp)).1 hDf, ne_of_some (N6 (I, oI) (by first | (((repeat (first | exact List.Mem.head _ | refine List.Mem.tail _ ?_)); done)) | simp)).1 hDf, ne_of_some (N6 (ml, listOf (ini ++ [Value.int last tl]).toArray nm) (by first | (((repeat (first | exact List.Mem.head _ | refine List.Mem.tail _ ?_)); done)) | simp)).1 hDf, ne_of_some (N6 (hl, listOf pv.toArray np) (by first | (((repeat (first | exact List.Mem.head _ | refine List.Mem.tail _ ?_)); done)) | simp)).1 hDf⟩
  have hG0 : h₀.get? G = none ∧ (G ≠ al ∧ G ≠ I ∧ G ≠ ml ∧ G ≠ hl) :=
    ⟨hL6 _ hGf, ne_of_some (N6 (al, listOf pvo.toArray 0) (by first | (((repeat (first | exact List.Mem.head _ | refine List.Mem.tail _ ?_)); done)) | simp)).1 hGf, ne_of_some (N6 (I, oI) (by first | (((repeat (first | exact List.Mem.head _ | refine List.Mem.tail _ ?_)); done)) | simp)).1 hGf, ne_of_some (N6 (ml, listOf (ini ++ [Value.int last tl]).toArray nm) (by first | (((repeat (first | exact List.Mem.head _ | refine List.Mem.tail _ ?_)); done)) | simp)).1 hGf, ne_of_some (N6 (hl, listOf pv.toArray np) (by first | (((repeat (first | exact List.Mem.head _ | refine List.Mem.tail _ ?_)); done)) | simp)).1 hGf⟩
  obtain ⟨oD, dv, nd, ntd, d1, d2, d3, d4, d5, d6⟩ := list_led F7 hD0.1 hD7
  obtain ⟨oG, gv, ng, ntg, g1, g2, g3, g4, g5, g6⟩ := list_led F7 hG0.1 hG7
  have N8 : News h₀ L h7 ((D, oD) :: (G, oG) :: (al, listOf pvo.toArray 0) :: (I, oI) :: (rl, oR) :: (ml, listOf (ini ++ [Value.int last tl]).toArray nm) :: (hl, listOf pv.toArray np) :: (tb, instObj 175 dx) :: (dx, dictOf [⟨PyData.keyHash w.params (PySem.Str.ofString "_headers"), .str (PySem.Str.ofString "_headers") tkH, .ref hl⟩] 1) :: (xl, listOf XV.toArray 0) :: (ntd ++ (ntg ++ nt))) := by
    have k0 := N7 (al, listOf pvo.toArray 0) (by first | (((repeat (first | exact List.Mem.head _ | refine List.Mem.tail _ ?_)); done)) | simp)
    have k1 := N7 (I, oI) (by first | (((repeat (first | exact List.Mem.head _ | refine List.Mem.tail _ ?_)); done)) | simp)
    have k2 := N7 (rl, oR) (by first | (((repeat (first | exact List.Mem.head _ | refine List.Mem.tail _ ?_)); done)) | simp)
    have k3 := N7 (ml, listOf (ini ++ [Value.int last tl]).toArray nm) (by first | (((repeat (first | exact List.Mem.head _ | refine List.Mem.tail _ ?_)); done)) | simp)
    have k4 := N7 (hl, listOf pv.toArray np) (by first | (((repeat (first | exact List.Mem.head _ | refine List.Mem.tail _ ?_)); done)) | simp)
    have k5 := N7 (tb, instObj 175 dx) (by first | (((repeat (first | exact List.Mem.head _ | refine List.Mem.tail _ ?_)); done)) | simp)
    have k6 := N7 (dx, dictOf [⟨PyData.keyHash w.params (PySem.Str.ofString "_headers"), .str (PySem.Str.ofString "_headers") tkH, .ref hl⟩] 1) (by first | (((repeat (first | exact List.Mem.head _ | refine List.Mem.tail _ ?_)); done)) | simp)
    have k7 := N7 (xl, listOf XV.toArray 0) (by first | (((repeat (first | exact List.Mem.head _ | refine List.Mem.tail _ ?_)); done)) | simp)
    have k8 : ∀ p ∈ nt, h7.get? p.1 = some p.2 ∧ p.1 ≠ L ∧ h₀.get? p.1 = none := fun p hp => N7 p (by first | (((repeat refine List.Mem.tail _ ?_); first | assumption | exact List.mem_append_right _ (by assumption) | exact List.mem_append_left _ (by assumption))) | simp [hp])
    exact News.cons d1 (News.cons g1 (News.cons k0 (News.cons k1 (News.cons k2 (News.cons k3 (News.cons k4 (News.cons k5 (News.cons k6 (News.cons k7 (News.app d4 (News.app g4 k8)))))))))))
  have hnt' : ∀ p ∈ ntd ++ (ntg ++ nt), p.2.cls = .type "tuple" := fun p hp => by
    simp only [List.mem_append] at hp
    rcases hp with hp | hp | hp
    · exact d6 p hp
    · exact g6 p hp
    · exact hnt p hp
  have hBD : Bears h₀ (ntd ++ (ntg ++ nt)) dv ((dueRs (x.fmod 7).toNat rs (rankI mo, fmI mo, txtK i) (fmI last)).map tripD) := d5.mono fun p hp => by first | (((repeat refine List.Mem.tail _ ?_); first | assumption | exact List.mem_append_right _ (by assumption) | exact List.mem_append_left _ (by assumption))) | simp [hp]
  have hBG : Bears h₀ (ntd ++ (ntg ++ nt)) gv ((dueG (x.fmod 7).toNat rs (rankI mo, fmI mo, txtK i)).map tripD) := g5.mono fun p hp => by first | (((repeat refine List.Mem.tail _ ?_); first | assumption | exact List.mem_append_right _ (by assumption) | exact List.mem_append_left _ (by assumption))) | simp [hp]
  have hBP : Bears h₀ (ntd ++ (ntg ++ nt)) pv (((dueRs (x.fmod 7).toNat rs (rankI mo, fmI mo, txtK i) (fmI last)).map prOf).map pairD) := hpv.mono fun p hp => by first | (((repeat refine List.Mem.tail _ ?_); first | assumption | exact List.mem_append_right _ (by assumption) | exact List.mem_append_left _ (by assumption))) | simp [hp]
  have hsub : ∀ p ∈ nt, p ∈ ntd ++ (ntg ++ nt) := fun p hp => by first | (((repeat refine List.Mem.tail _ ?_); first | assumption | exact List.mem_append_right _ (by assumption) | exact List.mem_append_left _ (by assumption))) | simp [hp]
  have hso := H.sok
  have hvf : Fine 1 (dueV (x.fmod 7).toNat rs (rankI mo, fmI mo, txtK i)) := dueV_fine (fun o ho => (hso o ho).2) (txtK_saf hi).sok
  have hxv : ∀ h, At h x7 (dueV (x.fmod 7).toNat rs (rankI mo, fmI mo, txtK i)) := fun h => at_flat (dueV_flat _ _ _) hx7
  have hDl := H'.rlen
  have hDs := H'.sok
  have hDn := H'.lens
  have hDm := H'.meet (m := mo) hm0.1
  generalize (ntd ++ (ntg ++ nt)) = nt' at N8 hnt' hBD hBG hBP hsub
  clear F6 N6 N7 hD7 hx7 hG7 hDf hGf d1 d4 d5 d6 g1 g4 g5 g6 hL6 hpv hus hk7
  (repeat ((fail_if_success (with_reducible show wpAny _ _ (assign (PySem.Expr.Tuple _ _ _) _ _) _ _ _)); (first | ((with_reducible show wpAny _ _ (exec _ _) _ _ _); refine abs_post fun Q' hQ' => ?_; walk1) | walk1 | (dsimp only; walk1) | (refine hQ' _ _ ?_; clear hQ'))))
  dsimp only
  refine assign_trip rfl F7 N8 hT7 ?_
  intro h9 tk9 F9 N9
  clear F7 N8 hT7
  (repeat ((fail_if_success (with_reducible show wpAny _ _ (call (Value.ref _) _ _) _ _ _)); (fail_if_success (with_reducible show wpAny _ _ (compareOp _ _ _) _ _ _)); (fail_if_success (with_reducible show wpAny _ _ (subscriptTail _ _ (Value.ref _) _) _ _ _)); (first | ((with_reducible show wpAny _ _ (exec _ _) _ _ _); refine abs_post fun Q' hQ' => ?_; walk1) | walk1 | (dsimp only; walk1) | (refine hQ' _ _ ?_; clear hQ'))))
  refine ne_at (htv _) (hxv _) hvf hvf (by decide) (by decide) (by dsimp only [Around.deeper]; omega) ?_
  rw [hvf.refl]
  (repeat ((fail_if_success (with_reducible show wpAny _ _ (call (Value.ref _) _ _) _ _ _)); (fail_if_success (with_reducible show wpAny _ _ (compareOp _ _ _) _ _ _)); (fail_if_success (with_reducible show wpAny _ _ (subscriptTail _ _ (Value.ref _) _) _ _ _)); (first | ((with_reducible show wpAny _ _ (exec _ _) _ _ _); refine abs_post fun Q' hQ' => ?_; walk1) | walk1 | (dsimp only; walk1) | (refine hQ' _ _ ?_; clear hQ'))))
  rename Fr _ _ _ _ => F10
  rename News _ _ _ _ => N10
  have hpvl : pv.length = (dueRs (x.fmod 7).toNat rs (rankI mo, fmI mo, txtK i) (fmI last)).length := by
    have := (hBP.read F10 N10 fun p hp => by first | (((repeat refine List.Mem.tail _ ?_); first | assumption | exact List.mem_append_right _ (by assumption) | exact List.mem_append_left _ (by assumption))) | simp [hp]).length
    simpa using this
  have hdvl : dv.length = (dueRs (x.fmod 7).toNat rs (rankI mo, fmI mo, txtK i) (fmI last)).length := by
    have := (hBD.read F10 N10 fun p hp => by first | (((repeat refine List.Mem.tail _ ?_); first | assumption | exact List.mem_append_right _ (by assumption) | exact List.mem_append_left _ (by assumption))) | simp [hp]).length
    simpa using this
  have hTb : ∀ {h : Heap} {news : List (Addr × Obj)}, News h₀ L h news → ((tb, instObj 175 dx) ∈ news) → ((dx, dictOf [⟨PyData.keyHash w.params (PySem.Str.ofString "_headers"), .str (PySem.Str.ofString "_headers") tkH, .ref hl⟩] 1) ∈ news) → Tbl w h tb dx hl tkH := fun N h1 h2 => ⟨(N _ h1).1, (N _ h2).1⟩
  dsimp only [List.append_nil]
  refine use_ret (items_spec (s := ⟨_, _, _, _, _⟩) (Room.less (R.deeper _) (by decide)) (X.keeps F10.keep) (T.keeps F10.keep) (hTb N10 (by first | (((repeat (first | exact List.Mem.head _ | refine List.Mem.tail _ ?_)); done)) | simp) (by first | (((repeat (first | exact List.Mem.head _ | refine List.Mem.tail _ ?_)); done)) | simp)) pv ⟨_, (N10 (hl, listOf pv.toArray np) (by first | (((repeat (first | exact List.Mem.head _ | refine List.Mem.tail _ ?_)); done)) | simp)).1, rfl, _, rfl⟩ (by omega)) F10 N10 ?_
  rintro v11 h11 tk11 ⟨a11, rfl, hi0, hi1⟩ hk11 F11 N11
  have N12 := News.made F10 N10 hi0 hk11 hi1
  clear F10 N10 N11 hk11 hi0 hi1
  (repeat ((fail_if_success (with_reducible show wpAny _ _ (call (Value.ref _) _ _) _ _ _)); (fail_if_success (with_reducible show wpAny _ _ (compareOp _ _ _) _ _ _)); (fail_if_success (with_reducible show wpAny _ _ (subscriptTail _ _ (Value.ref _) _) _ _ _)); (first | ((with_reducible show wpAny _ _ (exec _ _) _ _ _); refine abs_post fun Q' hQ' => ?_; walk1) | walk1 | (dsimp only; walk1) | (refine hQ' _ _ ?_; clear hQ'))))
  refine use_ret (pairs_spec (s := ⟨_, _, _, _, _⟩) (Room.less (R.deeper _) (by decide)) (X.keeps F11.keep) (T.keeps F11.keep) (dueRs (x.fmod 7).toNat rs (rankI mo, fmI mo, txtK i) (fmI last)) D dv ⟨oD, (N12 (D, oD) (by first | (((repeat (first | exact List.Mem.head _ | refine List.Mem.tail _ ?_)); done)) | simp)).1, d2, _, d3⟩ (hBD.read F11 N12 fun p hp => by first | (((repeat refine List.Mem.tail _ ?_); first | assumption | exact List.mem_append_right _ (by assumption) | exact List.mem_append_left _ (by assumption))) | simp [hp]) (by omega)) F11 N12 ?_
  rintro v13 h13 tk13 ⟨a13, ys13, n13, rfl, hp0, hp1, hp2⟩ hk13 F13 N13
  clear F11 N12 hk13
  (repeat ((fail_if_success (with_reducible show wpAny _ _ (call (Value.ref _) _ _) _ _ _)); (fail_if_success (with_reducible show wpAny _ _ (compareOp _ _ _) _ _ _)); (fail_if_success (with_reducible show wpAny _ _ (subscriptTail _ _ (Value.ref _) _) _ _ _)); (first | ((with_reducible show wpAny _ _ (exec _ _) _ _ _); refine abs_post fun Q' hQ' => ?_; walk1) | walk1 | (dsimp only; walk1) | (refine hQ' _ _ ?_; clear hQ'))))
  refine ne_at (At.list ⟨_, (N13 (a11, listOf pv.toArray 0) (by first | (((repeat (first | exact List.Mem.head _ | refine List.Mem.tail _ ?_)); done)) | simp)).1, rfl, _, rfl⟩ (hBP.read F13 N13 fun p hp => by first | (((repeat refine List.Mem.tail _ ?_); first | assumption | exact List.mem_append_right _ (by assumption) | exact List.mem_append_left _ (by assumption))) | simp [hp])) (At.list ⟨_, hp1, rfl, _, rfl⟩ hp2) (n := 2) (m := 2) (.pairs fun p hp => by obtain ⟨e, he, rfl⟩ := List.mem_map.mp hp; exact hDs e he) (.pairs fun p hp => by obtain ⟨e, he, rfl⟩ := List.mem_map.mp hp; exact hDs e he) (by decide) (by decide) (by dsimp only [Around.deeper]; omega) ?_
  rw [Fine.refl (n := 2) (.pairs fun p hp => by obtain ⟨e, he, rfl⟩ := List.mem_map.mp hp; exact hDs e he)]
  clear hp0 hp1 hp2
  (repeat ((fail_if_success (with_reducible show wpAny _ _ (call (Value.ref _) _ _) _ _ _)); (fail_if_success (with_reducible show wpAny _ _ (compareOp _ _ _) _ _ _)); (fail_if_success (with_reducible show wpAny _ _ (subscriptTail _ _ (Value.ref _) _) _ _ _)); (first | ((with_reducible show wpAny _ _ (exec _ _) _ _ _); refine abs_post fun Q' hQ' => ?_; walk1) | walk1 | (dsimp only; walk1) | (refine hQ' _ _ ?_; clear hQ'))))
  rename Fr _ _ _ _ => F14
  rename News _ _ _ _ => N14
  refine use_ret (fm_spec (s := ⟨_, _, _, _, _⟩) (Room.less (R.deeper _) (by decide)) (X.keeps F14.keep) (T.keeps F14.keep) mo u1) F14 N14 ?_
  rintro v15 h15 tk15 ⟨t15, rfl⟩ hk15 F15 N15
  clear F14 N14 hk15
  (repeat ((fail_if_success (with_reducible show wpAny _ _ (call (Value.ref _) _ _) _ _ _)); (fail_if_success (with_reducible show wpAny _ _ (compareOp _ _ _) _ _ _)); (fail_if_success (with_reducible show wpAny _ _ (subscriptTail _ _ (Value.ref _) _) _ _ _)); (first | ((with_reducible show wpAny _ _ (exec _ _) _ _ _); refine abs_post fun Q' hQ' => ?_; walk1) | walk1 | (dsimp only; walk1) | (refine hQ' _ _ ?_; clear hQ'))))
  refine use_ret (ans_spec (s := ⟨_, _, _, _, _⟩) (Room.less (R.deeper _) (by decide)) (X.keeps F15.keep) (T.keeps F15.keep) (hTb N15 (by first | (((repeat (first | exact List.Mem.head _ | refine List.Mem.tail _ ?_)); done)) | simp) (by first | (((repeat (first | exact List.Mem.head _ | refine List.Mem.tail _ ?_)); done)) | simp)) pv ⟨_, (N15 (hl, listOf pv.toArray np) (by first | (((repeat (first | exact List.Mem.head _ | refine List.Mem.tail _ ?_)); done)) | simp)).1, rfl, _, rfl⟩ (by omega) (dueRs (x.fmod 7).toNat rs (rankI mo, fmI mo, txtK i) (fmI last)) (hBP.read F15 N15 fun p hp => by first | (((repeat refine List.Mem.tail _ ?_); first | assumption | exact List.mem_append_right _ (by assumption) | exact List.mem_append_left _ (by assumption))) | simp [hp]) (fun p hp => (hDn p hp).1) hDs D dv ⟨oD, (N15 (D, oD) (by first | (((repeat (first | exact List.Mem.head _ | refine List.Mem.tail _ ?_)); done)) | simp)).1, d2, _, d3⟩ (hBD.read F15 N15 fun p hp => by first | (((repeat refine List.Mem.tail _ ?_); first | assumption | exact List.mem_append_right _ (by assumption) | exact List.mem_append_left _ (by assumption))) | simp [hp]) (fmI mo) t15 (by omega) (hsaf.1.lower.cleanN (by rw [lower_len hsaf.1]; omega)) (rankI mo) _ hDm) F15 N15 ?_
  rintro v16 h16 tk16 rfl hk16 F16 N16
  clear F15 N15 hk16
  have N17 : News h₀ L h16 ((D, oD) :: (G, oG) :: (al, listOf pvo.toArray 0) :: (I, oI) :: (rl, oR) :: (ml, listOf (ini ++ [Value.int last tl]).toArray nm) :: (hl, listOf pv.toArray np) :: (tb, instObj 175 dx) :: (dx, dictOf [⟨PyData.keyHash w.params (PySem.Str.ofString "_headers"), .str (PySem.Str.ofString "_headers") tkH, .ref hl⟩] 1) :: (xl, listOf XV.toArray 0) :: nt') := fun p hp => N16 p (.tail _ hp)
  clear N16
  (repeat ((fail_if_success (with_reducible show wpAny _ _ (execs (Stmt.Assign [PySem.Expr.Name (PySem.Str.ofString "come") _] _ _ :: _) _) _ _ _)); (first | ((with_reducible show wpAny _ _ (exec _ _) _ _ _); refine abs_post fun Q' hQ' => ?_; walk1) | walk1 | (dsimp only; walk1) | (refine hQ' _ _ ?_; clear hQ'))))
  rename Fr _ _ _ _ => F18
  rename News _ _ _ _ => N18
  exact k _ _ _ D oD dv nd G oG gv ng nt' F18 N18 hsub hnt' ⟨d2, d3⟩ ⟨g2, g3⟩ hBD hBG hD0.2 hG0.2 (fun z z0 z1 z2 z3 z4 z5 z6 z7 z8 z9 z10 z11 => by simp only [if_neg z0, if_neg z1, if_neg z2, if_neg z3, if_neg z4, if_neg z5, if_neg z6, if_neg z7, if_neg z8, if_neg z9, if_neg z10, if_neg z11]; exact LB.fin hb z z0 z1 z2 z3 z4 z5 z6 z7 z8 z9 z10 z11) rfl rfl hah rfl rfl
end
end Mine
end
section
namespace Mine
local macro_rules | `(tactic| walk_at "newTuple") => `(tactic| (refine' tup_stay ?F ?N ?_ ?z; (case F => k_asm); (case N => k_asm); (case z => kmk_size); intro D' h' F' N' l1 hk'; (try k_lt l1); (try k_sweep)))
section
variable {w : World} {A : Around} {s : Shared} {mean : ExcName → Option Value} {mg mb : PySem.Str → Option Value} {h₀ : Heap} {L : Addr} {m : PySem.Str → Option Value} {Q : Flow → Shared → Prop}
set_option maxRecDepth 100000 in
set_option maxHeartbeats 8000000 in
theorem turn_c (R : Room A 40) (X : (hd.heap_1 w.params).In h₀) (T : TT mean mg mb h₀) (K0 : Below A h₀ [] h₀)
    {sa tb dx hl ml xl rl I al D G : Addr} {oI oR oD oG : Obj} {us ini pv pvo XV dv gv : List Value} {last mo : Int} {tl tkH u1 : Tok} {nm np nr nd ng : Nat} {nt : List (Addr × Obj)} {rs : List Ent} {modes : List Int} {x : Int} {i : Nat}
    (F : Fr h₀ L s.heap m) (N : News h₀ L s.heap ((D, oD) :: (G, oG) :: (al, listOf pvo.toArray 0) :: (I, oI) :: (rl, oR) :: (ml, listOf (ini ++ [Value.int last tl]).toArray nm) :: (hl, listOf pv.toArray np) :: (tb, instObj 175 dx) :: (dx, dictOf [⟨PyData.keyHash w.params (PySem.Str.ofString "_headers"), .str (PySem.Str.ofString "_headers") tkH, .ref hl⟩] 1) :: (xl, listOf XV.toArray 0) :: nt))
    (hb : LB sa tb ml m) (hr : m (PySem.Str.ofString "rows") = some (.ref rl)) (hmo : m (PySem.Str.ofString "mode") = some (.int mo u1)) (hah : m (PySem.Str.ofString "ahead") = some (.ref al)) (hdu : m (PySem.Str.ofString "due") = some (.ref D)) (hgo : m (PySem.Str.ofString "gone") = some (.ref G))
    (hi : i < 13) (hil : ini.length = i) (hl0 : 0 ≤ last ∧ last < 4294967296) (hm0 : 0 ≤ mo ∧ mo < 4294967296) (H : LInv i rs modes)
    (hnt : ∀ p ∈ nt, p.2.cls = .type "tuple") (hRc : oR.cls = .type "list") (hRd : oR.data = .seq us.toArray nr) (hus : us.length = rs.length) (hD : oD.cls = .type "list" ∧ oD.data = .seq dv.toArray nd) (hG : oG.cls = .type "list" ∧ oG.data = .seq gv.toArray ng)
    (hpvo : Bears h₀ nt pvo ((rs.map prOf).map pairD)) (hpv : Bears h₀ nt pv (((dueRs (x.fmod 7).toNat rs (rankI mo, fmI mo, txtK i) (fmI last)).map prOf).map pairD)) (hdv : Bears h₀ nt dv ((dueRs (x.fmod 7).toNat rs (rankI mo, fmI mo, txtK i) (fmI last)).map tripD)) (hgv : Bears h₀ nt gv ((dueG (x.fmod 7).toNat rs (rankI mo, fmI mo, txtK i)).map tripD))
    (hne : D ≠ al ∧ D ≠ I ∧ D ≠ ml ∧ D ≠ hl) (hge : G ≠ al ∧ G ≠ I ∧ G ≠ ml ∧ G ≠ hl) (hal : al ≠ I ∧ al ≠ rl ∧ al ≠ ml ∧ al ≠ hl ∧ al ≠ tb ∧ al ≠ dx ∧ al ≠ xl) (hml : ml ≠ hl ∧ ml ≠ tb ∧ ml ≠ dx ∧ ml ≠ xl ∧ ml ≠ I)
    (k : ∀ h' tk' m', Fr h₀ L h' m' → News h₀ L h' ((I, oI) :: (D, oD) :: (ml, listOf (ini ++ [Value.int last tl] ++ [Value.int mo u1]).toArray (nm + 1)) :: (hl, listOf pv.toArray np) :: (tb, instObj 175 dx) :: (dx, dictOf [⟨PyData.keyHash w.params (PySem.Str.ofString "_headers"), .str (PySem.Str.ofString "_headers") tkH, .ref hl⟩] 1) :: (xl, listOf XV.toArray 0) :: nt) →
      LB sa tb ml m' → m' (PySem.Str.ofString "rows") = some (.ref D) → Q .next { s with heap := h', toks := tk' }) :
    wpAny (model PG w) (A.deeper (lawEnv L)) (execs (turnBody.drop 9) (lawEnv L)) Q NoE s := by
  obtain ⟨f1, f2, f3, f4, f5⟩ := A
  have hh := R.handled
  dsimp only at hh
  subst hh
  have hun := R.units
  dsimp only at hun
  have hd0 : 0 ≤ x.fmod 7 := Int.fmod_nonneg_of_pos _ (by decide)
  have hd1 : x.fmod 7 < 7 := Int.fmod_lt_of_pos _ (by decide)
  obtain ⟨H', hdiff, hgl⟩ := H.step hi (d := (x.fmod 7).toNat) (by omega) hm0 (last := last) hl0.1
  replace F := fr_set (k := (PySem.Str.ofString "table")) F hb.table
  replace F := fr_set (k := (PySem.Str.ofString "modes")) F hb.modes
  replace F := fr_set (k := (PySem.Str.ofString "rows")) F hr
  replace F := fr_set (k := (PySem.Str.ofString "mode")) F hmo
  replace F := fr_set (k := (PySem.Str.ofString "ahead")) F hah
  replace F := fr_set (k := (PySem.Str.ofString "due")) F hdu
  replace F := fr_set (k := (PySem.Str.ofString "gone")) F hgo
  conv in (turnBody.drop 9) => whnf
  delta lawEnv
  conv => pattern (occs := *) lawScope <;> whnf
  have hrll := H.rlen
  have hdul := H'.rlen
  have hgvl : gv.length = (dueG (x.fmod 7).toNat rs (rankI mo, fmI mo, txtK i)).length := by
    have := (hgv.read F N fun p hp => by first | (((repeat refine List.Mem.tail _ ?_); first | assumption | exact List.mem_append_right _ (by assumption) | exact List.mem_append_left _ (by assumption))) | simp [hp]).length
    simpa using this
  have hdvl : dv.length = (dueRs (x.fmod 7).toNat rs (rankI mo, fmI mo, txtK i) (fmI last)).length := by
    have := (hdv.read F N fun p hp => by first | (((repeat refine List.Mem.tail _ ?_); first | assumption | exact List.mem_append_right _ (by assumption) | exact List.mem_append_left _ (by assumption))) | simp [hp]).length
    simpa using this
  have hpvl : pv.length = (dueRs (x.fmod 7).toNat rs (rankI mo, fmI mo, txtK i) (fmI last)).length := by
    have := (hpv.read F N fun p hp => by first | (((repeat refine List.Mem.tail _ ?_); first | assumption | exact List.mem_append_right _ (by assumption) | exact List.mem_append_left _ (by assumption))) | simp [hp]).length
    simpa using this
  have hpvol : pvo.length = rs.length := by
    have := (hpvo.read F N fun p hp => by first | (((repeat refine List.Mem.tail _ ?_); first | assumption | exact List.mem_append_right _ (by assumption) | exact List.mem_append_left _ (by assumption))) | simp [hp]).length
    simpa using this
  (repeat ((fail_if_success (with_reducible show wpAny _ _ (call (Value.ref _) _ _) _ _ _)); (fail_if_success (with_reducible show wpAny _ _ (call (Value.builtin "len") _ _) _ _ _)); (fail_if_success (with_reducible show wpAny _ _ (call (Value.builtin "list.append") _ _) _ _ _)); (fail_if_success (with_reducible show wpAny _ _ (compareOp _ _ _) _ _ _)); (fail_if_success (with_reducible show wpAny _ _ (subscriptTail _ _ (Value.ref _) _) _ _ _)); (first | ((with_reducible show wpAny _ _ (exec _ _) _ _ _); refine abs_post fun Q' hQ' => ?_; walk1) | walk1 | (dsimp only; walk1) | (refine hQ' _ _ ?_; clear hQ'))))
  rename Fr _ _ _ _ => F1
  rename News _ _ _ _ => N1
  refine Calls.call_len_list (items := us.toArray) ⟨_, (N1 (rl, oR) (by first | (((repeat (first | exact List.Mem.head _ | refine List.Mem.tail _ ?_)); done)) | simp)).1, hRc, _, hRd⟩ (by simp; omega) ?_
  rw [show ((us.toArray.size : Nat) : Int) = (rs.length : Int) by simp [hus]]
  (repeat ((fail_if_success (with_reducible show wpAny _ _ (call (Value.ref _) _ _) _ _ _)); (fail_if_success (with_reducible show wpAny _ _ (call (Value.builtin "len") _ _) _ _ _)); (fail_if_success (with_reducible show wpAny _ _ (call (Value.builtin "list.append") _ _) _ _ _)); (fail_if_success (with_reducible show wpAny _ _ (compareOp _ _ _) _ _ _)); (fail_if_success (with_reducible show wpAny _ _ (subscriptTail _ _ (Value.ref _) _) _ _ _)); (first | ((with_reducible show wpAny _ _ (exec _ _) _ _ _); refine abs_post fun Q' hQ' => ?_; walk1) | walk1 | (dsimp only; walk1) | (refine hQ' _ _ ?_; clear hQ'))))
  rename Fr _ _ _ _ => F1
  rename News _ _ _ _ => N1
  refine Calls.call_len_list (items := gv.toArray) ⟨_, (N1 (G, oG) (by first | (((repeat (first | exact List.Mem.head _ | refine List.Mem.tail _ ?_)); done)) | simp)).1, hG.1, _, hG.2⟩ (by simp; omega) ?_
  rw [show ((gv.toArray.size : Nat) : Int) = ((dueG (x.fmod 7).toNat rs (rankI mo, fmI mo, txtK i)).length : Int) by simp [hgvl]]
  (repeat ((fail_if_success (with_reducible show wpAny _ _ (call (Value.ref _) _ _) _ _ _)); (fail_if_success (with_reducible show wpAny _ _ (call (Value.builtin "len") _ _) _ _ _)); (fail_if_success (with_reducible show wpAny _ _ (call (Value.builtin "list.append") _ _) _ _ _)); (fail_if_success (with_reducible show wpAny _ _ (compareOp _ _ _) _ _ _)); (fail_if_success (with_reducible show wpAny _ _ (subscriptTail _ _ (Value.ref _) _) _ _ _)); (first | ((with_reducible show wpAny _ _ (exec _ _) _ _ _); refine abs_post fun Q' hQ' => ?_; walk1) | walk1 | (dsimp only; walk1) | (refine hQ' _ _ ?_; clear hQ'))))
  have hsub : (rs.length : Int) - ((dueG (x.fmod 7).toNat rs (rankI mo, fmI mo, txtK i)).length : Int) = (((rs.length - (dueG (x.fmod 7).toNat rs (rankI mo, fmI mo, txtK i)).length) : Nat) : Int) := by omega
  dsimp only
  rw [hsub]
  refine' kms_slice_lit (s := { s with toks := s.toks + 1 + 1 + 1 + 1 + 1 }) (its := dv.toArray) (zs := dv.drop (rs.length - (dueG (x.fmod 7).toNat rs (rankI mo, fmI mo, txtK i)).length)) (lo := some (((rs.length - (dueG (x.fmod 7).toNat rs (rankI mo, fmI mo, txtK i)).length) : Nat) : Int)) (hi := none) ?zF ?zN ?zl ?zp ?zq ?ze ?_ ?zs ?zt ?zz
  case zF => exact F1
  case zN => exact N1
  case zl => exact ⟨_, (N1 (D, oD) (by first | (((repeat (first | exact List.Mem.head _ | refine List.Mem.tail _ ?_)); done)) | simp)).1, hD.1, _, hD.2⟩
  case zp => exact .int _ _
  case zq => exact .none
  case ze => exact pick_from dv _
  case zs => with_unfolding_all rfl
  case zt => exact fun _ => rfl
  case zz => simp; show _ ≤ 16777216; omega
  intro C4 h4 F4 N4 l4
  dsimp only
  have hC4 : al ≠ C4 := Nat.ne_of_lt (l4 (al, listOf pvo.toArray 0) (by first | (((repeat (first | exact List.Mem.head _ | refine List.Mem.tail _ ?_)); done)) | simp))
  clear F1 N1 l4
  (repeat ((fail_if_success (with_reducible show wpAny _ _ (call (Value.ref _) _ _) _ _ _)); (fail_if_success (with_reducible show wpAny _ _ (call (Value.builtin "len") _ _) _ _ _)); (fail_if_success (with_reducible show wpAny _ _ (call (Value.builtin "list.append") _ _) _ _ _)); (fail_if_success (with_reducible show wpAny _ _ (compareOp _ _ _) _ _ _)); (fail_if_success (with_reducible show wpAny _ _ (subscriptTail _ _ (Value.ref _) _) _ _ _)); (first | ((with_reducible show wpAny _ _ (exec _ _) _ _ _); refine abs_post fun Q' hQ' => ?_; walk1) | walk1 | (dsimp only; walk1) | (refine hQ' _ _ ?_; clear hQ'))))
  rename Fr _ _ _ _ => F5
  rename News _ _ _ _ => N5
  have hTb : ∀ {h : Heap} {news : List (Addr × Obj)}, News h₀ L h news → ((tb, instObj 175 dx) ∈ news) → ((dx, dictOf [⟨PyData.keyHash w.params (PySem.Str.ofString "_headers"), .str (PySem.Str.ofString "_headers") tkH, .ref hl⟩] 1) ∈ news) → Tbl w h tb dx hl tkH := fun N h1 h2 => ⟨(N _ h1).1, (N _ h2).1⟩
  dsimp only [List.append_nil]
  refine use_ret (items_spec (s := ⟨_, _, _, _, _⟩) (Room.less (R.deeper _) (by decide)) (X.keeps F5.keep) (T.keeps F5.keep) (hTb N5 (by first | (((repeat (first | exact List.Mem.head _ | refine List.Mem.tail _ ?_)); done)) | simp) (by first | (((repeat (first | exact List.Mem.head _ | refine List.Mem.tail _ ?_)); done)) | simp)) pv ⟨_, (N5 (hl, listOf pv.toArray np) (by first | (((repeat (first | exact List.Mem.head _ | refine List.Mem.tail _ ?_)); done)) | simp)).1, rfl, _, rfl⟩ (by omega)) F5 N5 ?_
  rintro v6 h6 tk6 ⟨a6, rfl, hi0, hi1⟩ hk6 F6 N6
  have hN6 := fun p hp => ne_of_some (N5 p hp).1 hi0
  have N7 := News.made F5 N5 hi0 hk6 hi1
  clear F5 N5 N6 hk6 hi0 hi1
  (repeat ((fail_if_success (with_reducible show wpAny _ _ (call (Value.ref _) _ _) _ _ _)); (fail_if_success (with_reducible show wpAny _ _ (call (Value.builtin "len") _ _) _ _ _)); (fail_if_success (with_reducible show wpAny _ _ (call (Value.builtin "list.append") _ _) _ _ _)); (fail_if_success (with_reducible show wpAny _ _ (compareOp _ _ _) _ _ _)); (fail_if_success (with_reducible show wpAny _ _ (subscriptTail _ _ (Value.ref _) _) _ _ _)); (first | ((with_reducible show wpAny _ _ (exec _ _) _ _ _); refine abs_post fun Q' hQ' => ?_; walk1) | walk1 | (dsimp only; walk1) | (refine hQ' _ _ ?_; clear hQ'))))
  have hsokD := H'.sok
  have hsokR := H.sok
  refine use_turn (s := ⟨_, _, _, _, _⟩) (P := fun r h' => At h' r (.tuple [.list ((diffR (rs.map prOf).reverse ((dueRs (x.fmod 7).toNat rs (rankI mo, fmI mo, txtK i) (fmI last)).map prOf) []).1.map pairD), .list ((diffR (rs.map prOf).reverse ((dueRs (x.fmod 7).toNat rs (rankI mo, fmI mo, txtK i) (fmI last)).map prOf) []).2.map pairD)])) [al, a6] K0 F6 ?_ ?_ ?_
  · intro b hb
    simp only [List.mem_cons, List.not_mem_nil, or_false] at hb
    rcases hb with rfl | rfl
    · exact ⟨(N7 (b, listOf pvo.toArray 0) (by first | (((repeat (first | exact List.Mem.head _ | refine List.Mem.tail _ ?_)); done)) | simp)).2.2, (N7 (b, listOf pvo.toArray 0) (by first | (((repeat (first | exact List.Mem.head _ | refine List.Mem.tail _ ?_)); done)) | simp)).2.1⟩
    · exact ⟨(N7 (b, listOf pv.toArray 0) (by first | (((repeat (first | exact List.Mem.head _ | refine List.Mem.tail _ ?_)); done)) | simp)).2.2, (N7 (b, listOf pv.toArray 0) (by first | (((repeat (first | exact List.Mem.head _ | refine List.Mem.tail _ ?_)); done)) | simp)).2.1⟩
  · intro g g1 g2 g3 g4 g5 g6 g7
    have hin : ∀ p ∈ nt, g.get? p.1 = some p.2 := fun p hp => g5 _ _ (by
      have q1 := tup_ne N7 (l := al) (xs := pvo.toArray) (n := 0) (by first | (((repeat (first | exact List.Mem.head _ | refine List.Mem.tail _ ?_)); done)) | simp) (p := p) (by first | (((repeat refine List.Mem.tail _ ?_); first | assumption | exact List.mem_append_right _ (by assumption) | exact List.mem_append_left _ (by assumption))) | simp [hp]) (hnt p hp)
      have q2 := tup_ne N7 (l := a6) (xs := pv.toArray) (n := 0) (by first | (((repeat (first | exact List.Mem.head _ | refine List.Mem.tail _ ?_)); done)) | simp) (p := p) (by first | (((repeat refine List.Mem.tail _ ?_); first | assumption | exact List.mem_append_right _ (by assumption) | exact List.mem_append_left _ (by assumption))) | simp [hp]) (hnt p hp)
      simp [q1, q2]) (N7 p (by first | (((repeat refine List.Mem.tail _ ?_); first | assumption | exact List.mem_append_right _ (by assumption) | exact List.mem_append_left _ (by assumption))) | simp [hp])).1
    exact diff_spec (s := ⟨_, _, _, _, _⟩) (Room.less (R.deeper _) (by decide)) (X.keeps g3) (T.keeps g3) X T g6 g7 g1 g2 al a6 (Ne.symm (hN6 (al, listOf pvo.toArray 0) (by first | (((repeat (first | exact List.Mem.head _ | refine List.Mem.tail _ ?_)); done)) | simp))) pvo pv 0 0 (g4 al (by first | (((repeat (first | exact List.Mem.head _ | refine List.Mem.tail _ ?_)); done)) | simp)) (g4 a6 (by first | (((repeat (first | exact List.Mem.head _ | refine List.Mem.tail _ ?_)); done)) | simp)) (N7 (al, listOf pvo.toArray 0) (by first | (((repeat (first | exact List.Mem.head _ | refine List.Mem.tail _ ?_)); done)) | simp)).1 (N7 (a6, listOf pv.toArray 0) (by first | (((repeat (first | exact List.Mem.head _ | refine List.Mem.tail _ ?_)); done)) | simp)).1 (rs.map prOf) ((dueRs (x.fmod 7).toNat rs (rankI mo, fmI mo, txtK i) (fmI last)).map prOf) (hpvo g g3 hin) (hpv g g3 hin) (by omega) (by omega) (fun p hp => by obtain ⟨e, he, rfl⟩ := List.mem_map.mp hp; exact hsokR e he) (fun p hp => by obtain ⟨e, he, rfl⟩ := List.mem_map.mp hp; exact hsokD e he)
  · rintro r h8 tk8 ⟨asr, hat⟩ kp F8
    rw [hdiff] at hat
    dsimp only at hat
    have hrn : noD (.tuple [.list (((dueG (x.fmod 7).toNat rs (rankI mo, fmI mo, txtK i)).reverse.map prOf).map pairD), .list ((((dueRs (x.fmod 7).toNat rs (rankI mo, fmI mo, txtK i) (fmI last)).drop (rs.length - (dueG (x.fmod 7).toNat rs (rankI mo, fmI mo, txtK i)).length)).map prOf).map pairD)]) = true := by
      simp only [noD, noDs, Bool.and_true, Bool.and_eq_true]
      exact ⟨noDs_of fun d hd => by obtain ⟨p, _, rfl⟩ := List.mem_map.mp hd; rfl, noDs_of fun d hd => by obtain ⟨p, _, rfl⟩ := List.mem_map.mp hd; rfl⟩
    obtain ⟨ntr, B1, B2⟩ := deep_led F8 hrn hat
    have N8 : News h₀ L h8 ((C4, listOf (dv.drop (rs.length - (dueG (x.fmod 7).toNat rs (rankI mo, fmI mo, txtK i)).length)).toArray 0) :: (D, oD) :: (G, oG) :: (I, oI) :: (rl, oR) :: (ml, listOf (ini ++ [Value.int last tl]).toArray nm) :: (hl, listOf pv.toArray np) :: (tb, instObj 175 dx) :: (dx, dictOf [⟨PyData.keyHash w.params (PySem.Str.ofString "_headers"), .str (PySem.Str.ofString "_headers") tkH, .ref hl⟩] 1) :: (xl, listOf XV.toArray 0) :: (ntr ++ nt)) := by
      have keep : ∀ p : Addr × Obj, p ∈ ((C4, listOf (dv.drop (rs.length - (dueG (x.fmod 7).toNat rs (rankI mo, fmI mo, txtK i)).length)).toArray 0) :: (D, oD) :: (G, oG) :: (al, listOf pvo.toArray 0) :: (I, oI) :: (rl, oR) :: (ml, listOf (ini ++ [Value.int last tl]).toArray nm) :: (hl, listOf pv.toArray np) :: (tb, instObj 175 dx) :: (dx, dictOf [⟨PyData.keyHash w.params (PySem.Str.ofString "_headers"), .str (PySem.Str.ofString "_headers") tkH, .ref hl⟩] 1) :: (xl, listOf XV.toArray 0) :: nt) → p.1 ≠ al → h8.get? p.1 = some p.2 ∧ p.1 ≠ L ∧ h₀.get? p.1 = none := fun p hp hne => by
        obtain ⟨q1, q2⟩ := N7 p (.tail _ hp)
        have q3 := hN6 p hp
        exact ⟨kp _ _ (by simp [hne, Ne.symm q3]) q2.1 q1, q2⟩
      have k0 := keep (C4, listOf (dv.drop (rs.length - (dueG (x.fmod 7).toNat rs (rankI mo, fmI mo, txtK i)).length)).toArray 0) (by first | (((repeat (first | exact List.Mem.head _ | refine List.Mem.tail _ ?_)); done)) | simp) hC4.symm
      have k1 := keep (D, oD) (by first | (((repeat (first | exact List.Mem.head _ | refine List.Mem.tail _ ?_)); done)) | simp) hne.1
      have k2 := keep (G, oG) (by first | (((repeat (first | exact List.Mem.head _ | refine List.Mem.tail _ ?_)); done)) | simp) hge.1
      have k3 := keep (I, oI) (by first | (((repeat (first | exact List.Mem.head _ | refine List.Mem.tail _ ?_)); done)) | simp) hal.1.symm
      have k4 := keep (rl, oR) (by first | (((repeat (first | exact List.Mem.head _ | refine List.Mem.tail _ ?_)); done)) | simp) hal.2.1.symm
      have k5 := keep (ml, listOf (ini ++ [Value.int last tl]).toArray nm) (by first | (((repeat (first | exact List.Mem.head _ | refine List.Mem.tail _ ?_)); done)) | simp) hal.2.2.1.symm
      have k6 := keep (hl, listOf pv.toArray np) (by first | (((repeat (first | exact List.Mem.head _ | refine List.Mem.tail _ ?_)); done)) | simp) hal.2.2.2.1.symm
      have k7 := keep (tb, instObj 175 dx) (by first | (((repeat (first | exact List.Mem.head _ | refine List.Mem.tail _ ?_)); done)) | simp) hal.2.2.2.2.1.symm
      have k8 := keep (dx, dictOf [⟨PyData.keyHash w.params (PySem.Str.ofString "_headers"), .str (PySem.Str.ofString "_headers") tkH, .ref hl⟩] 1) (by first | (((repeat (first | exact List.Mem.head _ | refine List.Mem.tail _ ?_)); done)) | simp) hal.2.2.2.2.2.1.symm
      have k9 := keep (xl, listOf XV.toArray 0) (by first | (((repeat (first | exact List.Mem.head _ | refine List.Mem.tail _ ?_)); done)) | simp) hal.2.2.2.2.2.2.symm
      have k10 : ∀ p ∈ nt, h8.get? p.1 = some p.2 ∧ p.1 ≠ L ∧ h₀.get? p.1 = none := fun p hp => keep p (by first | (((repeat refine List.Mem.tail _ ?_); first | assumption | exact List.mem_append_right _ (by assumption) | exact List.mem_append_left _ (by assumption))) | simp [hp]) (tup_ne N7 (l := al) (xs := pvo.toArray) (n := 0) (by first | (((repeat (first | exact List.Mem.head _ | refine List.Mem.tail _ ?_)); done)) | simp) (p := p) (by first | (((repeat refine List.Mem.tail _ ?_); first | assumption | exact List.mem_append_right _ (by assumption) | exact List.mem_append_left _ (by assumption))) | simp [hp]) (hnt p hp))
      exact News.cons k0 (News.cons k1 (News.cons k2 (News.cons k3 (News.cons k4 (News.cons k5 (News.cons k6 (News.cons k7 (News.cons k8 (News.cons k9 (News.app B1 k10))))))))))
    clear F6 N7
    (repeat ((fail_if_success (with_reducible show wpAny _ _ (call (Value.ref _) _ _) _ _ _)); (fail_if_success (with_reducible show wpAny _ _ (call (Value.builtin "len") _ _) _ _ _)); (fail_if_success (with_reducible show wpAny _ _ (call (Value.builtin "list.append") _ _) _ _ _)); (fail_if_success (with_reducible show wpAny _ _ (compareOp _ _ _) _ _ _)); (fail_if_success (with_reducible show wpAny _ _ (subscriptTail _ _ (Value.ref _) _) _ _ _)); (first | ((with_reducible show wpAny _ _ (exec _ _) _ _ _); refine abs_post fun Q' hQ' => ?_; walk1) | walk1 | (dsimp only; walk1) | (refine hQ' _ _ ?_; clear hQ'))))
    have hdvB : ∀ {h : Heap} {m' : PySem.Str → Option Value} {news : List (Addr × Obj)}, Fr h₀ L h m' → News h₀ L h news → (∀ p ∈ nt, p ∈ news) → AtAll h (dv.drop (rs.length - (dueG (x.fmod 7).toNat rs (rankI mo, fmI mo, txtK i)).length)) (((dueRs (x.fmod 7).toNat rs (rankI mo, fmI mo, txtK i) (fmI last)).drop (rs.length - (dueG (x.fmod 7).toNat rs (rankI mo, fmI mo, txtK i)).length)).map tripD) := fun F N hs => by
      rw [List.map_drop]
      exact (hdv.read F N hs).drop _
    have hgvB : ∀ {h : Heap} {m' : PySem.Str → Option Value} {news : List (Addr × Obj)}, Fr h₀ L h m' → News h₀ L h news → (∀ p ∈ nt, p ∈ news) → AtAll h gv.reverse ((dueG (x.fmod 7).toNat rs (rankI mo, fmI mo, txtK i)).reverse.map tripD) := fun F N hs => by
      rw [List.map_reverse]
      exact (hgv.read F N hs).reverse
    have hgR : ∀ e ∈ (dueG (x.fmod 7).toNat rs (rankI mo, fmI mo, txtK i)), e ∈ rs := fun e he => by
      obtain ⟨f, M, _, e2, _⟩ := due_split (d := (x.fmod 7).toNat) (by omega) rs (rankI mo, fmI mo, txtK i) (fmI last)
      rw [e2] at he
      exact (List.mem_filter.mp he).1
    refine' krv_lit (s := ⟨h8, _, _, _, _⟩) (its := gv.toArray) (zs := gv.reverse) ?zF ?zN ?zl ?zp ?ze ?_ ?zs ?zt ?zz
    case zF => exact F8
    case zN => exact N8
    case zl => exact ⟨_, (N8 (G, oG) (by first | (((repeat (first | exact List.Mem.head _ | refine List.Mem.tail _ ?_)); done)) | simp)).1, hG.1, _, hG.2⟩
    case zp => exact .int _ _
    case ze => rfl
    case zs => with_unfolding_all rfl
    case zt => exact fun _ => rfl
    case zz => simp; show _ ≤ 16777216; omega
    intro R9 h9 F9 N9 l9
    clear F8 N8 l9
    (repeat ((fail_if_success (with_reducible show wpAny _ _ (call (Value.ref _) _ _) _ _ _)); (fail_if_success (with_reducible show wpAny _ _ (call (Value.builtin "len") _ _) _ _ _)); (fail_if_success (with_reducible show wpAny _ _ (call (Value.builtin "list.append") _ _) _ _ _)); (fail_if_success (with_reducible show wpAny _ _ (compareOp _ _ _) _ _ _)); (fail_if_success (with_reducible show wpAny _ _ (subscriptTail _ _ (Value.ref _) _) _ _ _)); (first | ((with_reducible show wpAny _ _ (exec _ _) _ _ _); refine abs_post fun Q' hQ' => ?_; walk1) | walk1 | (dsimp only; walk1) | (refine hQ' _ _ ?_; clear hQ'))))
    refine use_ret (pairs_spec (s := ⟨_, _, _, _, _⟩) (Room.less (R.deeper _) (by decide)) (X.keeps F9.keep) (T.keeps F9.keep) (dueG (x.fmod 7).toNat rs (rankI mo, fmI mo, txtK i)).reverse R9 gv.reverse ⟨_, (N9 (R9, listOf gv.reverse.toArray 0) (by first | (((repeat (first | exact List.Mem.head _ | refine List.Mem.tail _ ?_)); done)) | simp)).1, rfl, _, rfl⟩ (hgvB F9 N9 fun p hp => by first | (((repeat refine List.Mem.tail _ ?_); first | assumption | exact List.mem_append_right _ (by assumption) | exact List.mem_append_left _ (by assumption))) | simp [hp]) (by rw [List.length_reverse]; omega)) F9 N9 ?_
    rintro v10 h10 tk10 ⟨a10, ys10, n10, rfl, _, p1, p2⟩ _ F10 N10
    have A10 : At h10 (.ref a10) (.list (((dueG (x.fmod 7).toNat rs (rankI mo, fmI mo, txtK i)).reverse.map prOf).map pairD)) := At.list ⟨_, p1, rfl, _, rfl⟩ p2
    clear F9 N9 p1 p2
    (repeat ((fail_if_success (with_reducible show wpAny _ _ (call (Value.ref _) _ _) _ _ _)); (fail_if_success (with_reducible show wpAny _ _ (call (Value.builtin "len") _ _) _ _ _)); (fail_if_success (with_reducible show wpAny _ _ (call (Value.builtin "list.append") _ _) _ _ _)); (fail_if_success (with_reducible show wpAny _ _ (compareOp _ _ _) _ _ _)); (fail_if_success (with_reducible show wpAny _ _ (subscriptTail _ _ (Value.ref _) _) _ _ _)); (first | ((with_reducible show wpAny _ _ (exec _ _) _ _ _); refine abs_post fun Q' hQ' => ?_; walk1) | walk1 | (dsimp only; walk1) | (refine hQ' _ _ ?_; clear hQ'))))
    refine use_ret (pairs_spec (s := ⟨_, _, _, _, _⟩) (Room.less (R.deeper _) (by decide)) (X.keeps F10.keep) (T.keeps F10.keep) ((dueRs (x.fmod 7).toNat rs (rankI mo, fmI mo, txtK i) (fmI last)).drop (rs.length - (dueG (x.fmod 7).toNat rs (rankI mo, fmI mo, txtK i)).length)) C4 (dv.drop (rs.length - (dueG (x.fmod 7).toNat rs (rankI mo, fmI mo, txtK i)).length)) ⟨_, (N10 (C4, listOf (dv.drop (rs.length - (dueG (x.fmod 7).toNat rs (rankI mo, fmI mo, txtK i)).length)).toArray 0) (by first | (((repeat (first | exact List.Mem.head _ | refine List.Mem.tail _ ?_)); done)) | simp)).1, rfl, _, rfl⟩ (hdvB F10 N10 fun p hp => by first | (((repeat refine List.Mem.tail _ ?_); first | assumption | exact List.mem_append_right _ (by assumption) | exact List.mem_append_left _ (by assumption))) | simp [hp]) (by rw [List.length_drop]; omega)) F10 N10 ?_
    rintro v11 h11 tk11 ⟨a11, ys11, n11, rfl, _, p1, p2⟩ hk11 F11 N11
    have A11 : At h11 (.ref a11) (.list ((((dueRs (x.fmod 7).toNat rs (rankI mo, fmI mo, txtK i) (fmI last)).drop (rs.length - (dueG (x.fmod 7).toNat rs (rankI mo, fmI mo, txtK i)).length)).map prOf).map pairD)) := At.list ⟨_, p1, rfl, _, rfl⟩ p2
    replace A10 := A10.keeps hk11
    clear F10 N10 p1 p2 hk11
    (repeat ((fail_if_success (with_reducible show wpAny _ _ (call (Value.ref _) _ _) _ _ _)); (fail_if_success (with_reducible show wpAny _ _ (call (Value.builtin "len") _ _) _ _ _)); (fail_if_success (with_reducible show wpAny _ _ (call (Value.builtin "list.append") _ _) _ _ _)); (fail_if_success (with_reducible show wpAny _ _ (compareOp _ _ _) _ _ _)); (fail_if_success (with_reducible show wpAny _ _ (subscriptTail _ _ (Value.ref _) _) _ _ _)); (first | ((with_reducible show wpAny _ _ (exec _ _) _ _ _); refine abs_post fun Q' hQ' => ?_; walk1) | walk1 | (dsimp only; walk1) | (refine hQ' _ _ ?_; clear hQ'))))
    rename Fr _ _ _ _ => F12
    rename News _ _ _ _ => N12
    rename Heap.StaysIn _ _ => hk12
    replace A10 := A10.keeps hk12
    replace A11 := A11.keeps hk12
    have hfine : Fine 3 (.tuple [.list (((dueG (x.fmod 7).toNat rs (rankI mo, fmI mo, txtK i)).reverse.map prOf).map pairD), .list ((((dueRs (x.fmod 7).toNat rs (rankI mo, fmI mo, txtK i) (fmI last)).drop (rs.length - (dueG (x.fmod 7).toNat rs (rankI mo, fmI mo, txtK i)).length)).map prOf).map pairD)]) := .tuple fun d hd => by
      simp only [List.mem_cons, List.not_mem_nil, or_false] at hd
      rcases hd with rfl | rfl
      · exact .pairs fun p hp => by obtain ⟨e, he, rfl⟩ := List.mem_map.mp hp; exact hsokR e (hgR e (List.mem_reverse.mp he))
      · exact .pairs fun p hp => by obtain ⟨e, he, rfl⟩ := List.mem_map.mp hp; exact hsokD e (List.mem_of_mem_drop he)
    refine ne_at ⟨asr, B2 _ F12.keep fun p hp => (N12 p (by first | (((repeat refine List.Mem.tail _ ?_); first | assumption | exact List.mem_append_right _ (by assumption) | exact List.mem_append_left _ (by assumption))) | simp [hp])).1⟩ (At.tuple (vs := [.ref a10, .ref a11]) ⟨_, (N12 _ (.head _)).1, rfl, _, rfl⟩ (.cons A10 (.cons A11 .nil))) hfine hfine (by decide) (by decide) (by dsimp only [Around.deeper]; omega) ?_
    rw [hfine.refl]
    clear A10 A11 hk12
    have N13 : News h₀ L _ ((ml, listOf (ini ++ [Value.int last tl]).toArray nm) :: (I, oI) :: (D, oD) :: (hl, listOf pv.toArray np) :: (tb, instObj 175 dx) :: (dx, dictOf [⟨PyData.keyHash w.params (PySem.Str.ofString "_headers"), .str (PySem.Str.ofString "_headers") tkH, .ref hl⟩] 1) :: (xl, listOf XV.toArray 0) :: nt) := News.cons (N12 (ml, listOf (ini ++ [Value.int last tl]).toArray nm) (by first | (((repeat (first | exact List.Mem.head _ | refine List.Mem.tail _ ?_)); done)) | simp)) (News.cons (N12 (I, oI) (by first | (((repeat (first | exact List.Mem.head _ | refine List.Mem.tail _ ?_)); done)) | simp)) (News.cons (N12 (D, oD) (by first | (((repeat (first | exact List.Mem.head _ | refine List.Mem.tail _ ?_)); done)) | simp)) (News.cons (N12 (hl, listOf pv.toArray np) (by first | (((repeat (first | exact List.Mem.head _ | refine List.Mem.tail _ ?_)); done)) | simp)) (News.cons (N12 (tb, instObj 175 dx) (by first | (((repeat (first | exact List.Mem.head _ | refine List.Mem.tail _ ?_)); done)) | simp)) (News.cons (N12 (dx, dictOf [⟨PyData.keyHash w.params (PySem.Str.ofString "_headers"), .str (PySem.Str.ofString "_headers") tkH, .ref hl⟩] 1) (by first | (((repeat (first | exact List.Mem.head _ | refine List.Mem.tail _ ?_)); done)) | simp)) (News.cons (N12 (xl, listOf XV.toArray 0) (by first | (((repeat (first | exact List.Mem.head _ | refine List.Mem.tail _ ?_)); done)) | simp)) (fun p hp => N12 p (by first | (((repeat refine List.Mem.tail _ ?_); first | assumption | exact List.mem_append_right _ (by assumption) | exact List.mem_append_left _ (by assumption))) | simp [hp]))))))))
    clear N12
    (repeat ((fail_if_success (with_reducible show wpAny _ _ (call (Value.ref _) _ _) _ _ _)); (fail_if_success (with_reducible show wpAny _ _ (call (Value.builtin "len") _ _) _ _ _)); (fail_if_success (with_reducible show wpAny _ _ (call (Value.builtin "list.append") _ _) _ _ _)); (fail_if_success (with_reducible show wpAny _ _ (compareOp _ _ _) _ _ _)); (fail_if_success (with_reducible show wpAny _ _ (subscriptTail _ _ (Value.ref _) _) _ _ _)); (first | ((with_reducible show wpAny _ _ (exec _ _) _ _ _); refine abs_post fun Q' hQ' => ?_; walk1) | walk1 | (dsimp only; walk1) | (refine hQ' _ _ ?_; clear hQ'))))
    refine app_news (s := ⟨_, _, _, _, _⟩) (pre := []) (xs := ini ++ [Value.int last tl]) (n := nm) (post := (I, oI) :: (D, oD) :: (hl, listOf pv.toArray np) :: (tb, instObj 175 dx) :: (dx, dictOf [⟨PyData.keyHash w.params (PySem.Str.ofString "_headers"), .str (PySem.Str.ofString "_headers") tkH, .ref hl⟩] 1) :: (xl, listOf XV.toArray 0) :: nt) F12 N13 ?_ (by simp; omega) ?_
    · intro p hp
      simp only [List.nil_append, List.mem_cons] at hp
      rcases hp with rfl | rfl | rfl | rfl | rfl | rfl | hp
      · exact hml.2.2.2.2.symm
      · exact hne.2.2.1
      · exact hml.1.symm
      · exact hml.2.1.symm
      · exact hml.2.2.1.symm
      · exact hml.2.2.2.1.symm
      · exact tup_ne N13 (l := ml) (xs := (ini ++ [Value.int last tl]).toArray) (n := nm) (by first | (((repeat (first | exact List.Mem.head _ | refine List.Mem.tail _ ?_)); done)) | simp) (p := p) (by first | (((repeat refine List.Mem.tail _ ?_); first | assumption | exact List.mem_append_right _ (by assumption) | exact List.mem_append_left _ (by assumption))) | simp [hp]) (hnt p hp)
    intro h14 F14 N14 _
    have N15 : News h₀ L h14 ((I, oI) :: (D, oD) :: (ml, listOf (ini ++ [Value.int last tl] ++ [Value.int mo u1]).toArray (nm + 1)) :: (hl, listOf pv.toArray np) :: (tb, instObj 175 dx) :: (dx, dictOf [⟨PyData.keyHash w.params (PySem.Str.ofString "_headers"), .str (PySem.Str.ofString "_headers") tkH, .ref hl⟩] 1) :: (xl, listOf XV.toArray 0) :: nt) := News.cons (N14 (I, oI) (by first | (((repeat (first | exact List.Mem.head _ | refine List.Mem.tail _ ?_)); done)) | simp)) (News.cons (N14 (D, oD) (by first | (((repeat (first | exact List.Mem.head _ | refine List.Mem.tail _ ?_)); done)) | simp)) (News.cons (N14 (ml, listOf (ini ++ [Value.int last tl] ++ [Value.int mo u1]).toArray (nm + 1)) (by first | (((repeat (first | exact List.Mem.head _ | refine List.Mem.tail _ ?_)); done)) | simp)) (News.cons (N14 (hl, listOf pv.toArray np) (by first | (((repeat (first | exact List.Mem.head _ | refine List.Mem.tail _ ?_)); done)) | simp)) (News.cons (N14 (tb, instObj 175 dx) (by first | (((repeat (first | exact List.Mem.head _ | refine List.Mem.tail _ ?_)); done)) | simp)) (News.cons (N14 (dx, dictOf [⟨PyData.keyHash w.params (PySem.Str.ofString "_headers"), .str (PySem.Str.ofString "_headers") tkH, .ref hl⟩] 1) (by first | (((repeat (first | exact List.Mem.head _ | refine List.Mem.tail _ ?_)); done)) | simp)) (News.cons (N14 (xl, listOf XV.toArray 0) (by first | (((repeat (first | exact List.Mem.head _ | refine List.Mem.tail _ ?_)); done)) | simp)) (fun p hp => N14 p (by first | (((repeat refine List.Mem.tail _ ?_); first | assumption | exact List.mem_append_right _ (by assumption) | exact List.mem_append_left _ (by assumption))) | simp [hp]))))))))
    clear F12 N13 N14
    (repeat ((fail_if_success (with_reducible show wpAny _ _ (call (Value.ref _) _ _) _ _ _)); (fail_if_success (with_reducible show wpAny _ _ (call (Value.builtin "len") _ _) _ _ _)); (fail_if_success (with_reducible show wpAny _ _ (call (Value.builtin "list.append") _ _) _ _ _)); (fail_if_success (with_reducible show wpAny _ _ (compareOp _ _ _) _ _ _)); (fail_if_success (with_reducible show wpAny _ _ (subscriptTail _ _ (Value.ref _) _) _ _ _)); (first | ((with_reducible show wpAny _ _ (exec _ _) _ _ _); refine abs_post fun Q' hQ' => ?_; walk1) | walk1 | (dsimp only; walk1) | (refine hQ' _ _ ?_; clear hQ'))))
    rename Fr _ _ _ _ => F16
    rename News _ _ _ _ => N16
    exact k _ _ _ F16 N16 (fun z z0 z1 z2 z3 z4 z5 z6 z7 z8 z9 z10 z11 => by simp only [if_neg z0, if_neg z1, if_neg z2, if_neg z3, if_neg z4, if_neg z5, if_neg z6, if_neg z7, if_neg z8, if_neg z9, if_neg z10, if_neg z11]; exact LB.fin hb z z0 z1 z2 z3 z4 z5 z6 z7 z8 z9 z10 z11) rfl
end
end Mine
end
section
namespace Mine
section
variable {w : World} {A : Around} {s : Shared} {mean : ExcName → Option Value} {mg mb : PySem.Str → Option Value} {h₀ : Heap} {L : Addr} {m : PySem.Str → Option Value} {Q : Flow → Shared → Prop}
set_option maxRecDepth 100000 in
set_option maxHeartbeats 8000000 in
theorem law_end (R : Room A 40) (X : (hd.heap_1 w.params).In h₀) (T : TT mean mg mb h₀)
    {sa tb dx hl ml xl rl : Addr} {oR : Obj} {us mv pv XV : List Value} {tkH : Tok} {nm np nr : Nat} {nt : List (Addr × Obj)} {rs : List Ent} {modes : List Int} {i : Nat}
    (F : Fr h₀ L s.heap m) (N : News h₀ L s.heap ((rl, oR) :: (ml, listOf mv.toArray nm) :: (hl, listOf pv.toArray np) :: (tb, instObj 175 dx) :: (dx, dictOf [⟨PyData.keyHash w.params (PySem.Str.ofString "_headers"), .str (PySem.Str.ofString "_headers") tkH, .ref hl⟩] 1) :: (xl, listOf XV.toArray 0) :: nt)) (hb : LB sa tb ml m) (hr : m (PySem.Str.ofString "rows") = some (.ref rl)) (hi : i ≤ 13) (H : LInv i rs modes)
    (hRc : oR.cls = .type "list") (hRd : oR.data = .seq us.toArray nr) (hus : Bears h₀ nt us (rs.map tripD)) (hpv : Bears h₀ nt pv ((rs.map prOf).map pairD)) (hmv : ∀ h : Heap, AtAll h mv (modes.map .int))
    (k : ∀ h' tk', h₀.StaysIn h' → Q (.ret (.bool true)) { s with heap := h', toks := tk' }) :
    wpAny (model PG w) (A.deeper (lawEnv L)) (execs (lawBody.drop 4) (lawEnv L)) Q NoE s := by
  obtain ⟨f1, f2, f3, f4, f5⟩ := A
  have hh := R.handled
  dsimp only at hh
  subst hh
  have hun := R.units
  dsimp only at hun
  replace F := fr_set (k := (PySem.Str.ofString "table")) F hb.table
  replace F := fr_set (k := (PySem.Str.ofString "modes")) F hb.modes
  replace F := fr_set (k := (PySem.Str.ofString "rows")) F hr
  conv in (lawBody.drop 4) => whnf
  delta lawEnv
  conv => pattern (occs := *) lawScope <;> whnf
  have hrll := H.rlen
  have husl : us.length = rs.length := by
    have := (hus.read F N fun p hp => by first | (((repeat refine List.Mem.tail _ ?_); first | assumption | exact List.mem_append_right _ (by assumption) | exact List.mem_append_left _ (by assumption))) | simp [hp]).length
    simpa using this
  have hpvl : pv.length = rs.length := by
    have := (hpv.read F N fun p hp => by first | (((repeat refine List.Mem.tail _ ?_); first | assumption | exact List.mem_append_right _ (by assumption) | exact List.mem_append_left _ (by assumption))) | simp [hp]).length
    simpa using this
  have hsok := H.sok
  have hlens := H.lens
  have hTb : ∀ {h : Heap} {news : List (Addr × Obj)}, News h₀ L h news → ((tb, instObj 175 dx) ∈ news) → ((dx, dictOf [⟨PyData.keyHash w.params (PySem.Str.ofString "_headers"), .str (PySem.Str.ofString "_headers") tkH, .ref hl⟩] 1) ∈ news) → Tbl w h tb dx hl tkH := fun N h1 h2 => ⟨(N _ h1).1, (N _ h2).1⟩
  (repeat ((fail_if_success (with_reducible show wpAny _ _ (call (Value.ref _) _ _) _ _ _)); (fail_if_success (with_reducible show wpAny _ _ (call (Value.type "str") _ _) _ _ _)); (fail_if_success (with_reducible show wpAny _ _ (call (Value.builtin "str.join") _ _) _ _ _)); (fail_if_success (with_reducible show wpAny _ _ (call (Value.builtin "len") _ _) _ _ _)); (fail_if_success (with_reducible show wpAny _ _ (eval (PySem.Expr.ListComp _ _ _ _) _) _ _ _)); (fail_if_success (with_reducible show wpAny _ _ (compareOp _ _ _) _ _ _)); (fail_if_success (with_reducible show wpAny _ _ (subscriptTail _ _ (Value.ref _) _) _ _ _)); (first | ((with_reducible show wpAny _ _ (exec _ _) _ _ _); refine abs_post fun Q' hQ' => ?_; walk1) | walk1 | (dsimp only; walk1) | (refine hQ' _ _ ?_; clear hQ'))))
  refine use_ret (pairs_spec (s := ⟨_, _, _, _, _⟩) (Room.less (R.deeper _) (by decide)) (X.keeps F.keep) (T.keeps F.keep) rs rl us ⟨oR, (N (rl, oR) (by first | (((repeat (first | exact List.Mem.head _ | refine List.Mem.tail _ ?_)); done)) | simp)).1, hRc, _, hRd⟩ (hus.read F N fun p hp => by first | (((repeat refine List.Mem.tail _ ?_); first | assumption | exact List.mem_append_right _ (by assumption) | exact List.mem_append_left _ (by assumption))) | simp [hp]) (by omega)) F N ?_
  rintro v1 h1 tk1 ⟨pl, ys, n1, rfl, p0, p1, p2⟩ hk1 F1 N1
  have N2 := News.made F N p0 hk1 p1
  obtain ⟨ntp, B1, B2, _⟩ := to_led F1 (fun d hd => by obtain ⟨p, _, rfl⟩ := List.mem_map.mp hd; exact flat_pair p) p2
  have N3 : News h₀ L h1 ((pl, listOf ys.toArray n1) :: (rl, oR) :: (ml, listOf mv.toArray nm) :: (hl, listOf pv.toArray np) :: (tb, instObj 175 dx) :: (dx, dictOf [⟨PyData.keyHash w.params (PySem.Str.ofString "_headers"), .str (PySem.Str.ofString "_headers") tkH, .ref hl⟩] 1) :: (xl, listOf XV.toArray 0) :: (ntp ++ nt)) := by
    exact News.cons (N2 (pl, listOf ys.toArray n1) (by first | (((repeat (first | exact List.Mem.head _ | refine List.Mem.tail _ ?_)); done)) | simp)) (News.cons (N2 (rl, oR) (by first | (((repeat (first | exact List.Mem.head _ | refine List.Mem.tail _ ?_)); done)) | simp)) (News.cons (N2 (ml, listOf mv.toArray nm) (by first | (((repeat (first | exact List.Mem.head _ | refine List.Mem.tail _ ?_)); done)) | simp)) (News.cons (N2 (hl, listOf pv.toArray np) (by first | (((repeat (first | exact List.Mem.head _ | refine List.Mem.tail _ ?_)); done)) | simp)) (News.cons (N2 (tb, instObj 175 dx) (by first | (((repeat (first | exact List.Mem.head _ | refine List.Mem.tail _ ?_)); done)) | simp)) (News.cons (N2 (dx, dictOf [⟨PyData.keyHash w.params (PySem.Str.ofString "_headers"), .str (PySem.Str.ofString "_headers") tkH, .ref hl⟩] 1) (by first | (((repeat (first | exact List.Mem.head _ | refine List.Mem.tail _ ?_)); done)) | simp)) (News.cons (N2 (xl, listOf XV.toArray 0) (by first | (((repeat (first | exact List.Mem.head _ | refine List.Mem.tail _ ?_)); done)) | simp)) (News.app B1 (fun p hp => N2 p (by first | (((repeat refine List.Mem.tail _ ?_); first | assumption | exact List.mem_append_right _ (by assumption) | exact List.mem_append_left _ (by assumption))) | simp [hp])))))))))
  have hys : Bears h₀ (ntp ++ nt) ys ((rs.map prOf).map pairD) := B2.mono fun p hp => by first | (((repeat refine List.Mem.tail _ ?_); first | assumption | exact List.mem_append_right _ (by assumption) | exact List.mem_append_left _ (by assumption))) | simp [hp]
  have hpv' : Bears h₀ (ntp ++ nt) pv ((rs.map prOf).map pairD) := hpv.mono fun p hp => by first | (((repeat refine List.Mem.tail _ ?_); first | assumption | exact List.mem_append_right _ (by assumption) | exact List.mem_append_left _ (by assumption))) | simp [hp]
  have hysl : ys.length = rs.length := by have := p2.length; simpa using this
  clear F N N1 N2 B1 B2 p0 p1 p2 hk1
  generalize ntp ++ nt = nt' at N3 hys hpv'
  (repeat ((fail_if_success (with_reducible show wpAny _ _ (call (Value.ref _) _ _) _ _ _)); (fail_if_success (with_reducible show wpAny _ _ (call (Value.type "str") _ _) _ _ _)); (fail_if_success (with_reducible show wpAny _ _ (call (Value.builtin "str.join") _ _) _ _ _)); (fail_if_success (with_reducible show wpAny _ _ (call (Value.builtin "len") _ _) _ _ _)); (fail_if_success (with_reducible show wpAny _ _ (eval (PySem.Expr.ListComp _ _ _ _) _) _ _ _)); (fail_if_success (with_reducible show wpAny _ _ (compareOp _ _ _) _ _ _)); (fail_if_success (with_reducible show wpAny _ _ (subscriptTail _ _ (Value.ref _) _) _ _ _)); (first | ((with_reducible show wpAny _ _ (exec _ _) _ _ _); refine abs_post fun Q' hQ' => ?_; walk1) | walk1 | (dsimp only; walk1) | (refine hQ' _ _ ?_; clear hQ'))))
  rename Fr _ _ _ _ => F4
  rename News _ _ _ _ => N4
  have hfin : Fine 2 (.list ((rs.map prOf).map pairD)) := .pairs fun p hp => by obtain ⟨e, he, rfl⟩ := List.mem_map.mp hp; exact hsok e he
  dsimp only [List.append_nil]
  refine use_ret (items_spec (s := ⟨_, _, _, _, _⟩) (Room.less (R.deeper _) (by decide)) (X.keeps F4.keep) (T.keeps F4.keep) (hTb N4 (by first | (((repeat (first | exact List.Mem.head _ | refine List.Mem.tail _ ?_)); done)) | simp) (by first | (((repeat (first | exact List.Mem.head _ | refine List.Mem.tail _ ?_)); done)) | simp)) pv ⟨_, (N4 (hl, listOf pv.toArray np) (by first | (((repeat (first | exact List.Mem.head _ | refine List.Mem.tail _ ?_)); done)) | simp)).1, rfl, _, rfl⟩ (by omega)) F4 N4 ?_
  rintro v5 h5 tk5 ⟨a5, rfl, hi0, hi1⟩ hk5 F5 N5
  clear F4 N4 hk5
  (repeat ((fail_if_success (with_reducible show wpAny _ _ (call (Value.ref _) _ _) _ _ _)); (fail_if_success (with_reducible show wpAny _ _ (call (Value.type "str") _ _) _ _ _)); (fail_if_success (with_reducible show wpAny _ _ (call (Value.builtin "str.join") _ _) _ _ _)); (fail_if_success (with_reducible show wpAny _ _ (call (Value.builtin "len") _ _) _ _ _)); (fail_if_success (with_reducible show wpAny _ _ (eval (PySem.Expr.ListComp _ _ _ _) _) _ _ _)); (fail_if_success (with_reducible show wpAny _ _ (compareOp _ _ _) _ _ _)); (fail_if_success (with_reducible show wpAny _ _ (subscriptTail _ _ (Value.ref _) _) _ _ _)); (first | ((with_reducible show wpAny _ _ (exec _ _) _ _ _); refine abs_post fun Q' hQ' => ?_; walk1) | walk1 | (dsimp only; walk1) | (refine hQ' _ _ ?_; clear hQ'))))
  refine ne_at (At.list ⟨_, hi1, rfl, _, rfl⟩ (hpv'.read F5 N5 fun p hp => by first | (((repeat refine List.Mem.tail _ ?_); first | assumption | exact List.mem_append_right _ (by assumption) | exact List.mem_append_left _ (by assumption))) | simp [hp])) (At.list ⟨_, (N5 (pl, listOf ys.toArray n1) (by first | (((repeat (first | exact List.Mem.head _ | refine List.Mem.tail _ ?_)); done)) | simp)).1, rfl, _, rfl⟩ (hys.read F5 N5 fun p hp => by first | (((repeat refine List.Mem.tail _ ?_); first | assumption | exact List.mem_append_right _ (by assumption) | exact List.mem_append_left _ (by assumption))) | simp [hp])) hfin hfin (by decide) (by decide) (by dsimp only [Around.deeper]; omega) ?_
  rw [hfin.refl]
  clear hi0 hi1
  (repeat ((fail_if_success (with_reducible show wpAny _ _ (call (Value.ref _) _ _) _ _ _)); (fail_if_success (with_reducible show wpAny _ _ (call (Value.type "str") _ _) _ _ _)); (fail_if_success (with_reducible show wpAny _ _ (call (Value.builtin "str.join") _ _) _ _ _)); (fail_if_success (with_reducible show wpAny _ _ (call (Value.builtin "len") _ _) _ _ _)); (fail_if_success (with_reducible show wpAny _ _ (eval (PySem.Expr.ListComp _ _ _ _) _) _ _ _)); (fail_if_success (with_reducible show wpAny _ _ (compareOp _ _ _) _ _ _)); (fail_if_success (with_reducible show wpAny _ _ (subscriptTail _ _ (Value.ref _) _) _ _ _)); (first | ((with_reducible show wpAny _ _ (exec _ _) _ _ _); refine abs_post fun Q' hQ' => ?_; walk1) | walk1 | (dsimp only; walk1) | (refine hQ' _ _ ?_; clear hQ'))))
  rename Fr _ _ _ _ => F6
  rename News _ _ _ _ => N6
  dsimp only [List.append_nil]
  refine use_ret (keys_spec (s := ⟨_, _, _, _, _⟩) (Room.less (R.deeper _) (by decide)) (X.keeps F6.keep) (T.keeps F6.keep) (hTb N6 (by first | (((repeat (first | exact List.Mem.head _ | refine List.Mem.tail _ ?_)); done)) | simp) (by first | (((repeat (first | exact List.Mem.head _ | refine List.Mem.tail _ ?_)); done)) | simp)) pv ⟨_, (N6 (hl, listOf pv.toArray np) (by first | (((repeat (first | exact List.Mem.head _ | refine List.Mem.tail _ ?_)); done)) | simp)).1, rfl, _, rfl⟩ (by omega) (rs.map prOf) (hpv'.read F6 N6 fun p hp => by first | (((repeat refine List.Mem.tail _ ?_); first | assumption | exact List.mem_append_right _ (by assumption) | exact List.mem_append_left _ (by assumption))) | simp [hp])) F6 N6 ?_
  intro v7 h7 tk7 A7 hk7 F7 N7
  obtain ⟨a7, ws7, rfl, r71, r72⟩ := A7.list_inv
  clear F6 N6 hk7 r71 r72
  (repeat ((fail_if_success (with_reducible show wpAny _ _ (call (Value.ref _) _ _) _ _ _)); (fail_if_success (with_reducible show wpAny _ _ (call (Value.type "str") _ _) _ _ _)); (fail_if_success (with_reducible show wpAny _ _ (call (Value.builtin "str.join") _ _) _ _ _)); (fail_if_success (with_reducible show wpAny _ _ (call (Value.builtin "len") _ _) _ _ _)); (fail_if_success (with_reducible show wpAny _ _ (eval (PySem.Expr.ListComp _ _ _ _) _) _ _ _)); (fail_if_success (with_reducible show wpAny _ _ (compareOp _ _ _) _ _ _)); (fail_if_success (with_reducible show wpAny _ _ (subscriptTail _ _ (Value.ref _) _) _ _ _)); (first | ((with_reducible show wpAny _ _ (exec _ _) _ _ _); refine abs_post fun Q' hQ' => ?_; walk1) | walk1 | (dsimp only; walk1) | (refine hQ' _ _ ?_; clear hQ'))))
  refine comp_data (cl := []) pairD (fun _ => true) (fun p => .str p.1) rfl rfl (by decide) rfl (by decide) ?_
  iterate 1 (first | walk1 | (dsimp only; walk1))
  refine ⟨pl, ys, rs.map prOf, rfl, ⟨_, (N7 (pl, listOf ys.toArray n1) (by first | (((repeat (first | exact List.Mem.head _ | refine List.Mem.tail _ ?_)); done)) | simp)).1, rfl, _, rfl⟩, hys.read F7 N7 fun p hp => by first | (((repeat refine List.Mem.tail _ ?_); first | assumption | exact List.mem_append_right _ (by assumption) | exact List.mem_append_left _ (by assumption))) | simp [hp], by omega, named_owned, ?_, ?_⟩
  · intro C v p h tk m led hp hat F2 N2
    change Fr _ C h m at F2
    change News _ C h led at N2
    obtain ⟨a, t1, u1, rfl, htup⟩ := hat.pair
    refine asgC F2 N2 fun h3 F3 N3 => ?_
    refine wpAny_tests_nil ⟨rfl, fun _ => ?_, fun e => nomatch e⟩
    refine Subscript_ (ldC F3 rfl (wpAny_Constant_int (tupItem (htup.at fun o e => F3.keep _ _ e) (by decide) (by decide) (j := 0) rfl rfl ?_)))
    exact ⟨_, _, _, [], rfl, F3, N3, (fun p hp => nomatch hp), fun h _ _ => .cons .str .nil⟩
  intro D8 h8 tk8 ys8 n8 hD8 hDl8 hat8 hk8
  rw [List.filter_eq_self.mpr (fun _ _ => rfl)] at hat8
  have F8 := Fr.stay F7 hk8
  have N8 := News.stay N7 hk8
  clear F7 N7
  dsimp only
  have hkf : Fine 1 (.list ((rs.map prOf).map fun p => .str p.1)) := by
    refine .list fun d hd => ?_
    obtain ⟨p, hp, rfl⟩ := List.mem_map.mp hd
    obtain ⟨e, he, rfl⟩ := List.mem_map.mp hp
    exact .str (hsok e he).1
  refine ne_at (A7.keeps hk8) (At.list ⟨_, hDl8, rfl, _, rfl⟩ hat8) hkf hkf (by decide) (by decide) (by dsimp only [Around.deeper]; omega) ?_
  rw [hkf.refl]
  clear A7 hD8 hDl8 hat8 hk8
  (repeat ((fail_if_success (with_reducible show wpAny _ _ (call (Value.ref _) _ _) _ _ _)); (fail_if_success (with_reducible show wpAny _ _ (call (Value.type "str") _ _) _ _ _)); (fail_if_success (with_reducible show wpAny _ _ (call (Value.builtin "str.join") _ _) _ _ _)); (fail_if_success (with_reducible show wpAny _ _ (call (Value.builtin "len") _ _) _ _ _)); (fail_if_success (with_reducible show wpAny _ _ (eval (PySem.Expr.ListComp _ _ _ _) _) _ _ _)); (fail_if_success (with_reducible show wpAny _ _ (compareOp _ _ _) _ _ _)); (fail_if_success (with_reducible show wpAny _ _ (subscriptTail _ _ (Value.ref _) _) _ _ _)); (first | ((with_reducible show wpAny _ _ (exec _ _) _ _ _); refine abs_post fun Q' hQ' => ?_; walk1) | walk1 | (dsimp only; walk1) | (refine hQ' _ _ ?_; clear hQ'))))
  dsimp only [List.append_nil]
  refine use_ret (values_spec (s := ⟨_, _, _, _, _⟩) (Room.less (R.deeper _) (by decide)) (X.keeps F8.keep) (T.keeps F8.keep) (hTb N8 (by first | (((repeat (first | exact List.Mem.head _ | refine List.Mem.tail _ ?_)); done)) | simp) (by first | (((repeat (first | exact List.Mem.head _ | refine List.Mem.tail _ ?_)); done)) | simp)) pv ⟨_, (N8 (hl, listOf pv.toArray np) (by first | (((repeat (first | exact List.Mem.head _ | refine List.Mem.tail _ ?_)); done)) | simp)).1, rfl, _, rfl⟩ (by omega) (rs.map prOf) (hpv'.read F8 N8 fun p hp => by first | (((repeat refine List.Mem.tail _ ?_); first | assumption | exact List.mem_append_right _ (by assumption) | exact List.mem_append_left _ (by assumption))) | simp [hp])) F8 N8 ?_
  intro v9 h9 tk9 A9 hk9 F9 N9
  obtain ⟨a9, ws9, rfl, r91, r92⟩ := A9.list_inv
  clear F8 N8 hk9 r91 r92
  (repeat ((fail_if_success (with_reducible show wpAny _ _ (call (Value.ref _) _ _) _ _ _)); (fail_if_success (with_reducible show wpAny _ _ (call (Value.type "str") _ _) _ _ _)); (fail_if_success (with_reducible show wpAny _ _ (call (Value.builtin "str.join") _ _) _ _ _)); (fail_if_success (with_reducible show wpAny _ _ (call (Value.builtin "len") _ _) _ _ _)); (fail_if_success (with_reducible show wpAny _ _ (eval (PySem.Expr.ListComp _ _ _ _) _) _ _ _)); (fail_if_success (with_reducible show wpAny _ _ (compareOp _ _ _) _ _ _)); (fail_if_success (with_reducible show wpAny _ _ (subscriptTail _ _ (Value.ref _) _) _ _ _)); (first | ((with_reducible show wpAny _ _ (exec _ _) _ _ _); refine abs_post fun Q' hQ' => ?_; walk1) | walk1 | (dsimp only; walk1) | (refine hQ' _ _ ?_; clear hQ'))))
  refine comp_data (cl := []) pairD (fun _ => true) (fun p => .str p.2) rfl rfl (by decide) rfl (by decide) ?_
  iterate 1 (first | walk1 | (dsimp only; walk1))
  refine ⟨pl, ys, rs.map prOf, rfl, ⟨_, (N9 (pl, listOf ys.toArray n1) (by first | (((repeat (first | exact List.Mem.head _ | refine List.Mem.tail _ ?_)); done)) | simp)).1, rfl, _, rfl⟩, hys.read F9 N9 fun p hp => by first | (((repeat refine List.Mem.tail _ ?_); first | assumption | exact List.mem_append_right _ (by assumption) | exact List.mem_append_left _ (by assumption))) | simp [hp], by omega, named_owned, ?_, ?_⟩
  · intro C v p h tk m led hp hat F2 N2
    change Fr _ C h m at F2
    change News _ C h led at N2
    obtain ⟨a, t1, u1, rfl, htup⟩ := hat.pair
    refine asgC F2 N2 fun h3 F3 N3 => ?_
    refine wpAny_tests_nil ⟨rfl, fun _ => ?_, fun e => nomatch e⟩
    refine Subscript_ (ldC F3 rfl (wpAny_Constant_int (tupItem (htup.at fun o e => F3.keep _ _ e) (by decide) (by decide) (j := 1) rfl rfl ?_)))
    exact ⟨_, _, _, [], rfl, F3, N3, (fun p hp => nomatch hp), fun h _ _ => .cons .str .nil⟩
  intro D10 h10 tk10 ys10 n10 hD10 hDl10 hat10 hk10
  rw [List.filter_eq_self.mpr (fun _ _ => rfl)] at hat10
  have F10 := Fr.stay F9 hk10
  have N10 := News.stay N9 hk10
  clear F9 N9
  dsimp only
  have hvf : Fine 1 (.list ((rs.map prOf).map fun p => .str p.2)) := by
    refine .list fun d hd => ?_
    obtain ⟨p, hp, rfl⟩ := List.mem_map.mp hd
    obtain ⟨e, he, rfl⟩ := List.mem_map.mp hp
    exact .str (hsok e he).2
  refine ne_at (A9.keeps hk10) (At.list ⟨_, hDl10, rfl, _, rfl⟩ hat10) hvf hvf (by decide) (by decide) (by dsimp only [Around.deeper]; omega) ?_
  rw [hvf.refl]
  clear A9 hD10 hDl10 hat10 hk10
  (repeat ((fail_if_success (with_reducible show wpAny _ _ (call (Value.ref _) _ _) _ _ _)); (fail_if_success (with_reducible show wpAny _ _ (call (Value.type "str") _ _) _ _ _)); (fail_if_success (with_reducible show wpAny _ _ (call (Value.builtin "str.join") _ _) _ _ _)); (fail_if_success (with_reducible show wpAny _ _ (call (Value.builtin "len") _ _) _ _ _)); (fail_if_success (with_reducible show wpAny _ _ (eval (PySem.Expr.ListComp _ _ _ _) _) _ _ _)); (fail_if_success (with_reducible show wpAny _ _ (compareOp _ _ _) _ _ _)); (fail_if_success (with_reducible show wpAny _ _ (subscriptTail _ _ (Value.ref _) _) _ _ _)); (first | ((with_reducible show wpAny _ _ (exec _ _) _ _ _); refine abs_post fun Q' hQ' => ?_; walk1) | walk1 | (dsimp only; walk1) | (refine hQ' _ _ ?_; clear hQ'))))
  show wpAny _ _ (call (Value.ref 175) [] []) _ _ _
  refine new_tbl (Room.less (R.deeper _) (by decide)) X T F10 N10 ?_
  intro tb2 dx2 hl2 tk2 h11 tk11 F11 N11 _ _ _
  clear F10 N10
  (repeat ((fail_if_success (with_reducible show wpAny _ _ (call (Value.ref _) _ _) _ _ _)); (fail_if_success (with_reducible show wpAny _ _ (call (Value.type "str") _ _) _ _ _)); (fail_if_success (with_reducible show wpAny _ _ (call (Value.builtin "str.join") _ _) _ _ _)); (fail_if_success (with_reducible show wpAny _ _ (call (Value.builtin "len") _ _) _ _ _)); (fail_if_success (with_reducible show wpAny _ _ (eval (PySem.Expr.ListComp _ _ _ _) _) _ _ _)); (fail_if_success (with_reducible show wpAny _ _ (compareOp _ _ _) _ _ _)); (fail_if_success (with_reducible show wpAny _ _ (subscriptTail _ _ (Value.ref _) _) _ _ _)); (first | ((with_reducible show wpAny _ _ (exec _ _) _ _ _); refine abs_post fun Q' hQ' => ?_; walk1) | walk1 | (dsimp only; walk1) | (refine hQ' _ _ ?_; clear hQ'))))
  (repeat ((fail_if_success (with_reducible show wpAny _ _ (call (Value.ref _) _ _) _ _ _)); (first | ((with_reducible show wpAny _ _ (exec _ _) _ _ _); refine abs_post fun Q' hQ' => ?_; walk1) | walk1 | (dsimp only; walk1) | (refine hQ' _ _ ?_; clear hQ'))))
  refine use_ret (len_spec (s := ⟨_, _, _, _, _⟩) (tb := tb2) (dx := dx2) (hl := hl2) (tk₀ := tk2) (Room.less (R.deeper _).in1 (by decide)) (X.keeps F11.keep) (T.keeps F11.keep) ⟨(N11 _ (.tail _ (.head _))).1, (N11 _ (.tail _ (.tail _ (.head _)))).1⟩ [] ⟨_, (N11 _ (.head _)).1, rfl, _, rfl⟩ (by decide)) F11 N11 ?_
  rintro v12 h12 tk12 ⟨t12, rfl⟩ hk12 F12 N12
  have N13 : News h₀ L h12 ((pl, listOf ys.toArray n1) :: (rl, oR) :: (ml, listOf mv.toArray nm) :: (hl, listOf pv.toArray np) :: (tb, instObj 175 dx) :: (dx, dictOf [⟨PyData.keyHash w.params (PySem.Str.ofString "_headers"), .str (PySem.Str.ofString "_headers") tkH, .ref hl⟩] 1) :: (xl, listOf XV.toArray 0) :: nt') := fun p hp => N12 p (.tail _ (.tail _ (.tail _ hp)))
  clear F11 N11 N12 hk12
  dsimp only [PySem.W.LenBack]
  refine ⟨⟨by decide, by decide⟩, ?_⟩
  (repeat ((fail_if_success (with_reducible show wpAny _ _ (call (Value.ref _) _ _) _ _ _)); (fail_if_success (with_reducible show wpAny _ _ (call (Value.type "str") _ _) _ _ _)); (fail_if_success (with_reducible show wpAny _ _ (call (Value.builtin "str.join") _ _) _ _ _)); (fail_if_success (with_reducible show wpAny _ _ (call (Value.builtin "len") _ _) _ _ _)); (fail_if_success (with_reducible show wpAny _ _ (eval (PySem.Expr.ListComp _ _ _ _) _) _ _ _)); (fail_if_success (with_reducible show wpAny _ _ (compareOp _ _ _) _ _ _)); (fail_if_success (with_reducible show wpAny _ _ (subscriptTail _ _ (Value.ref _) _) _ _ _)); (first | ((with_reducible show wpAny _ _ (exec _ _) _ _ _); refine abs_post fun Q' hQ' => ?_; walk1) | walk1 | (dsimp only; walk1) | (refine hQ' _ _ ?_; clear hQ'))))
  refine ne_int ?_
  rw [show (((([] : List Value).length : Nat) : Int) != 0) = false from rfl]
  (repeat ((fail_if_success (with_reducible show wpAny _ _ (call (Value.ref _) _ _) _ _ _)); (fail_if_success (with_reducible show wpAny _ _ (call (Value.type "str") _ _) _ _ _)); (fail_if_success (with_reducible show wpAny _ _ (call (Value.builtin "str.join") _ _) _ _ _)); (fail_if_success (with_reducible show wpAny _ _ (call (Value.builtin "len") _ _) _ _ _)); (fail_if_success (with_reducible show wpAny _ _ (eval (PySem.Expr.ListComp _ _ _ _) _) _ _ _)); (fail_if_success (with_reducible show wpAny _ _ (compareOp _ _ _) _ _ _)); (fail_if_success (with_reducible show wpAny _ _ (subscriptTail _ _ (Value.ref _) _) _ _ _)); (first | ((with_reducible show wpAny _ _ (exec _ _) _ _ _); refine abs_post fun Q' hQ' => ?_; walk1) | walk1 | (dsimp only; walk1) | (refine hQ' _ _ ?_; clear hQ'))))
  rename Fr _ _ _ _ => F14
  rename News _ _ _ _ => N14
  refine kso_call (x := tb) (C := 175) (ox := instObj 175 dx) (od := some (dictOf [⟨PyData.keyHash w.params (PySem.Str.ofString "_headers"), .str (PySem.Str.ofString "_headers") tkH, .ref hl⟩] 1)) (f := 151) (Nat.lt_of_le_of_lt (Nat.le_trans (Nat.le_add_right _ _) (R.deeper _).in1.in1.units) (by decide)) (X.keeps F14.keep) ⟨(N14 (tb, instObj 175 dx) (by first | (((repeat (first | exact List.Mem.head _ | refine List.Mem.tail _ ?_)); done)) | simp)).1, rfl, rfl, (N14 (dx, dictOf [⟨PyData.keyHash w.params (PySem.Str.ofString "_headers"), .str (PySem.Str.ofString "_headers") tkH, .ref hl⟩] 1) (by first | (((repeat (first | exact List.Mem.head _ | refine List.Mem.tail _ ?_)); done)) | simp)).1⟩ (by k_is) (by k_is) ?_
  refine use_ret (str_spec (s := ⟨_, _, _, _, _⟩) (Room.less (R.deeper _).in1.in1 (by decide)) (X.keeps F14.keep) (T.keeps F14.keep) (hTb N14 (by first | (((repeat (first | exact List.Mem.head _ | refine List.Mem.tail _ ?_)); done)) | simp) (by first | (((repeat (first | exact List.Mem.head _ | refine List.Mem.tail _ ?_)); done)) | simp)) pv ⟨_, (N14 (hl, listOf pv.toArray np) (by first | (((repeat (first | exact List.Mem.head _ | refine List.Mem.tail _ ?_)); done)) | simp)).1, rfl, _, rfl⟩ (by omega) (rs.map prOf) (hpv'.read F14 N14 fun p hp => by first | (((repeat refine List.Mem.tail _ ?_); first | assumption | exact List.mem_append_right _ (by assumption) | exact List.mem_append_left _ (by assumption))) | simp [hp]) (fun p hp => by obtain ⟨e, he, rfl⟩ := List.mem_map.mp hp; exact hlens e he)) F14 N14 ?_
  rintro v15 h15 tk15 ⟨t15, rfl⟩ hk15 F15 N15
  clear F14 N14 hk15
  dsimp only [StrBack]
  rw [str_due]
  (repeat ((fail_if_success (with_reducible show wpAny _ _ (call (Value.ref _) _ _) _ _ _)); (fail_if_success (with_reducible show wpAny _ _ (call (Value.type "str") _ _) _ _ _)); (fail_if_success (with_reducible show wpAny _ _ (call (Value.builtin "str.join") _ _) _ _ _)); (fail_if_success (with_reducible show wpAny _ _ (call (Value.builtin "len") _ _) _ _ _)); (fail_if_success (with_reducible show wpAny _ _ (eval (PySem.Expr.ListComp _ _ _ _) _) _ _ _)); (fail_if_success (with_reducible show wpAny _ _ (compareOp _ _ _) _ _ _)); (fail_if_success (with_reducible show wpAny _ _ (subscriptTail _ _ (Value.ref _) _) _ _ _)); (first | ((with_reducible show wpAny _ _ (exec _ _) _ _ _); refine abs_post fun Q' hQ' => ?_; walk1) | walk1 | (dsimp only; walk1) | (refine hQ' _ _ ?_; clear hQ'))))
  have hL2 : (PySem.Str.ofString ": ").length = 2 := by decide +kernel
  have hL3 : (PySem.Str.ofString "\r\n").length = 2 := by decide +kernel
  have hlp : ∀ p ∈ rs.map prOf, p.1.length ≤ 1000 ∧ p.2.length ≤ 1000 := fun p hp => by obtain ⟨e, he, rfl⟩ := List.mem_map.mp hp; exact hlens e he
  refine comp_data (cl := []) pairD (fun _ => true) (fun p => .str (p.1 ++ PySem.Str.ofString ": " ++ p.2 ++ PySem.Str.ofString "\r\n")) rfl rfl (by decide) rfl (by decide) ?_
  iterate 1 (first | walk1 | (dsimp only; walk1))
  refine ⟨pl, ys, rs.map prOf, rfl, ⟨_, (N15 (pl, listOf ys.toArray n1) (by first | (((repeat (first | exact List.Mem.head _ | refine List.Mem.tail _ ?_)); done)) | simp)).1, rfl, _, rfl⟩, hys.read F15 N15 fun p hp => by first | (((repeat refine List.Mem.tail _ ?_); first | assumption | exact List.mem_append_right _ (by assumption) | exact List.mem_append_left _ (by assumption))) | simp [hp], by omega, named_owned, ?_, ?_⟩
  · intro C v p h tk m led hp hat F2 N2
    change Fr _ C h m at F2
    change News _ C h led at N2
    obtain ⟨a, t1, u1, rfl, htup⟩ := hat.pair
    obtain ⟨q1, q2⟩ := hlp p hp
    refine asgC F2 N2 fun h3 F3 N3 => ?_
    refine wpAny_tests_nil ⟨rfl, fun _ => ?_, fun e => nomatch e⟩
    refine wpAny_BinOp (wpAny_BinOp (wpAny_BinOp (Subscript_ (ldC F3 rfl (wpAny_Constant_int (tupItem (htup.at fun o e => F3.keep _ _ e) (by decide) (by decide) (j := 0) rfl rfl ?_))))))
    refine wpAny_Constant_str (add_str (fun t3 k3 => ?_) (by rw [hL2]; show _ ≤ 16777216; omega))
    refine Subscript_ (ldC (s := ⟨_, _, _, _, _⟩) F3 rfl (wpAny_Constant_int (tupItem (htup.at fun o e => F3.keep _ _ e) (by decide) (by decide) (j := 1) rfl rfl ?_)))
    refine add_str (fun t4 k4 => ?_) (by rw [str_len_app, hL2]; show _ ≤ 16777216; omega)
    refine wpAny_Constant_str (add_str (fun t5 k5 => ?_) (by rw [str_len_app, str_len_app, hL2, hL3]; show _ ≤ 16777216; omega))
    exact ⟨_, _, _, [], rfl, F3, N3, (fun p hp => nomatch hp), fun h _ _ => .cons .str .nil⟩
  intro D16 h16 tk16 ys16 n16 hD16 hDl16 hat16 hk16
  rw [List.filter_eq_self.mpr (fun _ _ => rfl)] at hat16
  have F16 := Fr.stay F15 hk16
  have N16 := News.stay N15 hk16
  clear F15 N15
  dsimp only
  (repeat ((fail_if_success (with_reducible show wpAny _ _ (call (Value.ref _) _ _) _ _ _)); (fail_if_success (with_reducible show wpAny _ _ (call (Value.type "str") _ _) _ _ _)); (fail_if_success (with_reducible show wpAny _ _ (call (Value.builtin "str.join") _ _) _ _ _)); (fail_if_success (with_reducible show wpAny _ _ (call (Value.builtin "len") _ _) _ _ _)); (fail_if_success (with_reducible show wpAny _ _ (eval (PySem.Expr.ListComp _ _ _ _) _) _ _ _)); (fail_if_success (with_reducible show wpAny _ _ (compareOp _ _ _) _ _ _)); (fail_if_success (with_reducible show wpAny _ _ (subscriptTail _ _ (Value.ref _) _) _ _ _)); (first | ((with_reducible show wpAny _ _ (exec _ _) _ _ _); refine abs_post fun Q' hQ' => ?_; walk1) | walk1 | (dsimp only; walk1) | (refine hQ' _ _ ?_; clear hQ'))))
  have hys16 : ys16.length = rs.length := by have := hat16.length; simpa using this
  refine join_list (s := ⟨_, _, _, _, _⟩) (ys := (rs.map prOf).map fun p => p.1 ++ PySem.Str.ofString ": " ++ p.2 ++ PySem.Str.ofString "\r\n") ⟨_, hDl16, rfl, _, rfl⟩ (strs_of (h := h16) (by rw [List.map_map]; exact hat16)) ?_ fun t17 k17 => ?_
  · have h1 := sum_le_mul (fun y : PySem.Str => y.length) 2004 ((rs.map prOf).map fun p => p.1 ++ PySem.Str.ofString ": " ++ p.2 ++ PySem.Str.ofString "\r\n") ?_
    · simp only [List.length_map] at h1 ⊢
      have : (PySem.Str.ofString "").length = 0 := by decide +kernel
      rw [this]
      omega
    · intro y hy
      obtain ⟨p, hp, rfl⟩ := List.mem_map.mp hy
      have := hlp p hp
      rw [str_len_app, str_len_app, str_len_app, hL2, hL3]
      omega
  clear hD16 hDl16 hat16 hk16
  have hJ : (Txt.join (PySem.Str.ofString "") ((rs.map prOf).map fun p => p.1 ++ PySem.Str.ofString ": " ++ p.2 ++ PySem.Str.ofString "\r\n")).length ≤ 30000 := by
    rw [join_len]
    have h1 := sum_le_mul (fun y : PySem.Str => y.length) 2004 ((rs.map prOf).map fun p => p.1 ++ PySem.Str.ofString ": " ++ p.2 ++ PySem.Str.ofString "\r\n") (by
      intro y hy
      obtain ⟨p, hp, rfl⟩ := List.mem_map.mp hy
      have := hlp p hp
      rw [str_len_app, str_len_app, str_len_app, hL2, hL3]
      omega)
    simp only [List.length_map] at h1
    omega
  generalize Txt.join (PySem.Str.ofString "") ((rs.map prOf).map fun p => p.1 ++ PySem.Str.ofString ": " ++ p.2 ++ PySem.Str.ofString "\r\n") = J at hJ
  iterate 1 (first | walk1 | (dsimp only; walk1))
  refine add_str (fun t18 k18 => ?_) (by rw [hL3]; show _ ≤ 16777216; omega)
  (repeat ((fail_if_success (with_reducible show wpAny _ _ (call (Value.ref _) _ _) _ _ _)); (fail_if_success (with_reducible show wpAny _ _ (call (Value.type "str") _ _) _ _ _)); (fail_if_success (with_reducible show wpAny _ _ (call (Value.builtin "str.join") _ _) _ _ _)); (fail_if_success (with_reducible show wpAny _ _ (call (Value.builtin "len") _ _) _ _ _)); (fail_if_success (with_reducible show wpAny _ _ (eval (PySem.Expr.ListComp _ _ _ _) _) _ _ _)); (fail_if_success (with_reducible show wpAny _ _ (compareOp _ _ _) _ _ _)); (fail_if_success (with_reducible show wpAny _ _ (subscriptTail _ _ (Value.ref _) _) _ _ _)); (first | ((with_reducible show wpAny _ _ (exec _ _) _ _ _); refine abs_post fun Q' hQ' => ?_; walk1) | walk1 | (dsimp only; walk1) | (refine hQ' _ _ ?_; clear hQ'))))
  refine PyProof.Rows.ne_str ?_
  rw [show (J ++ PySem.Str.ofString "\r\n" != J ++ PySem.Str.ofString "\r\n") = false by rw [str_bne]; simp]
  (repeat ((fail_if_success (with_reducible show wpAny _ _ (call (Value.ref _) _ _) _ _ _)); (fail_if_success (with_reducible show wpAny _ _ (call (Value.type "str") _ _) _ _ _)); (fail_if_success (with_reducible show wpAny _ _ (call (Value.builtin "str.join") _ _) _ _ _)); (fail_if_success (with_reducible show wpAny _ _ (call (Value.builtin "len") _ _) _ _ _)); (fail_if_success (with_reducible show wpAny _ _ (eval (PySem.Expr.ListComp _ _ _ _) _) _ _ _)); (fail_if_success (with_reducible show wpAny _ _ (compareOp _ _ _) _ _ _)); (fail_if_success (with_reducible show wpAny _ _ (subscriptTail _ _ (Value.ref _) _) _ _ _)); (first | ((with_reducible show wpAny _ _ (exec _ _) _ _ _); refine abs_post fun Q' hQ' => ?_; walk1) | walk1 | (dsimp only; walk1) | (refine hQ' _ _ ?_; clear hQ'))))
  rename Fr _ _ _ _ => F20
  rename News _ _ _ _ => N20
  refine use_ret (ord_spec (s := ⟨_, _, _, _, _⟩) (Room.less (R.deeper _) (by decide)) (X.keeps F20.keep) (T.keeps F20.keep) ml mv ⟨_, (N20 (ml, listOf mv.toArray nm) (by first | (((repeat (first | exact List.Mem.head _ | refine List.Mem.tail _ ?_)); done)) | simp)).1, rfl, _, rfl⟩ modes (hmv _) (by have e1 := (hmv h₀).length; have e2 := H.len; simp at e1; omega) fun a ha b hb => cmp_due a b (H.rng a ha).1 (H.rng b hb).1) F20 N20 ?_
  rintro v21 h21 tk21 rfl _ F21 _
  clear F20 N20
  (repeat ((fail_if_success (with_reducible show wpAny _ _ (call (Value.ref _) _ _) _ _ _)); (fail_if_success (with_reducible show wpAny _ _ (call (Value.type "str") _ _) _ _ _)); (fail_if_success (with_reducible show wpAny _ _ (call (Value.builtin "str.join") _ _) _ _ _)); (fail_if_success (with_reducible show wpAny _ _ (call (Value.builtin "len") _ _) _ _ _)); (fail_if_success (with_reducible show wpAny _ _ (eval (PySem.Expr.ListComp _ _ _ _) _) _ _ _)); (fail_if_success (with_reducible show wpAny _ _ (compareOp _ _ _) _ _ _)); (fail_if_success (with_reducible show wpAny _ _ (subscriptTail _ _ (Value.ref _) _) _ _ _)); (first | ((with_reducible show wpAny _ _ (exec _ _) _ _ _); refine abs_post fun Q' hQ' => ?_; walk1) | walk1 | (dsimp only; walk1) | (refine hQ' _ _ ?_; clear hQ'))))
  exact k _ _ F21.keep
end
end Mine
end
section
namespace Mine
theorem AtAll.take {h : Heap} : ∀ {vs : List Value} {ds : List PyData} (n : Nat), AtAll h vs ds → AtAll h (vs.take n) (ds.take n)
  | _, _, 0, _ => by simp; exact .nil
  | _, [], n + 1, r => by rw [r.inv_nil]; exact .nil
  | _, d :: ds, n + 1, r => by obtain ⟨v', vs', rfl, hv, r'⟩ := r.inv; exact .cons hv (AtAll.take n r')
theorem pick7 (vs : List Value) : kms_pick vs.toArray.toList none (some 7) = vs.take 7 := by
  unfold kms_pick kms_lo kms_hi
  simp [List.take_eq_take_iff]
structure LJ (w : World) (h₀ : Heap) (sa tb dx hl ml xl : Addr) (tkH : Tok) (XV : List Value) (i : Nat) (m' : PySem.Str → Option Value) (news' : List (Addr × Obj)) : Prop where
  all : ∃ (rl : Addr) (oR : Obj) (us mv pv : List Value) (nr nm np : Nat) (nt : List (Addr × Obj)) (rs : List Ent) (modes : List Int),
    news' = (rl, oR) :: (ml, listOf mv.toArray nm) :: (hl, listOf pv.toArray np) :: (tb, instObj 175 dx) :: (dx, dictOf [⟨PyData.keyHash w.params (PySem.Str.ofString "_headers"), .str (PySem.Str.ofString "_headers") tkH, .ref hl⟩] 1) :: (xl, listOf XV.toArray 0) :: nt ∧
    (rl ≠ ml ∧ rl ≠ hl) ∧ (∀ p ∈ nt, p.2.cls = .type "tuple") ∧ oR.cls = .type "list" ∧ oR.data = .seq us.toArray nr ∧ Bears h₀ nt us (rs.map tripD) ∧ Bears h₀ nt pv ((rs.map prOf).map pairD) ∧ (∀ h : Heap, AtAll h mv (modes.map .int)) ∧
    m' (PySem.Str.ofString "rows") = some (.ref rl) ∧ LB sa tb ml m' ∧ LInv i rs modes
theorem mv_split {h : Heap} {mv : List Value} {modes : List Int} {i : Nat} (r : AtAll h mv (modes.map .int)) (hl : modes.length = i + 1) : ∃ ini last tl, mv = ini ++ [Value.int last tl] ∧ ini.length = i ∧ last ∈ modes := by
  have q := r.reverse
  rw [← List.map_reverse] at q
  cases hm : modes.reverse with
  | nil => rw [List.reverse_eq_nil_iff] at hm; rw [hm] at hl; cases hl
  | cons last rest =>
    rw [hm] at q
    obtain ⟨v, vs, e, r1, _⟩ := q.inv
    obtain ⟨tl, rfl⟩ := r1.int_inv
    have e2 : mv = vs.reverse ++ [Value.int last tl] := by
      have := congrArg List.reverse e
      simpa using this
    refine ⟨vs.reverse, last, tl, e2, ?_, ?_⟩
    · have h1 := r.length
      rw [e2] at h1
      simp at h1 ⊢
      omega
    · rw [← List.mem_reverse, hm]; exact .head _
section
variable {w : World} {A : Around} {s : Shared} {mean : ExcName → Option Value} {mg mb : PySem.Str → Option Value}
set_option maxRecDepth 100000 in
set_option maxHeartbeats 8000000 in
theorem law_code (R : Room A 40) (X : (hd.heap_1 w.params).In s.heap) (T : TT mean mg mb s.heap) (K0 : Below A s.heap [] s.heap) (sa : Addr) (vs : List Value) (ns : List Int) (hsl : s.heap.IsList sa vs.toArray) (hI : AtAll s.heap vs (ns.map .int)) (hn : ns.length ≤ 63) :
    codeAny (model PG w) A (.call (.ref 286) ⟨[.ref sa], []⟩) (fun r s' => r = .ok (.ret (.bool true)) ∧ ∃ h' tk', s' = { s with heap := h', toks := tk' } ∧ s.heap.StaysIn h') s := by
  obtain ⟨f1, f2, f3, f4, f5⟩ := A
  have hh := R.handled
  dsimp only at hh
  subst hh
  have hun := R.units
  dsimp only at hun
  refine code_pure [(PySem.Str.ofString "script", .ref sa)] R X T.nolimit (by k_is) (by k_is) (BindsTo.of_eq rfl) (locs rfl) ?_
  intro L h₁ tk0 F
  have N : News s.heap L h₁ [] := News.nil
  (repeat ((fail_if_success (with_reducible show wpAny _ _ (call (Value.ref _) _ _) _ _ _)); (fail_if_success (with_reducible show wpAny _ _ (eval (PySem.Expr.ListComp _ _ _ _) _) _ _ _)); (first | (dsimp only; walk1) | walk1)))
  show wpAny _ _ (call (Value.ref 175) [] []) _ _ _
  refine new_tbl (Room.less (R.deeper _) (by decide)) X T F N ?_
  intro tb dx hl tkH h2 tk2 F2 N2 _ l1 l2
  clear F N
  have l1' : @LT.lt Nat _ dx tb := l1
  have l2' : @LT.lt Nat _ tb hl := l2
  (repeat ((fail_if_success (with_reducible show wpAny _ _ (exec (PySem.Stmt.For _ _ _ _ _) _) _ _ _)); (first | (dsimp only; walk1) | walk1)))
  refine wpAny_For ?_
  (repeat ((fail_if_success (with_reducible show wpAny _ _ (call (Value.ref _) _ _) _ _ _)); (fail_if_success (with_reducible show wpAny _ _ (eval (PySem.Expr.ListComp _ _ _ _) _) _ _ _)); (first | (dsimp only; walk1) | walk1)))
  rename Fr _ _ _ _ => F3
  rename News _ _ _ _ => N3
  refine comp_data (cl := []) PyData.int (fun _ => true) (fun n => .int (n.fmod 1000000)) rfl rfl (by decide) rfl (by decide) ?_
  (repeat ((fail_if_success (with_reducible show wpAny _ _ (subscriptTail _ _ (Value.ref _) _) _ _ _)); (first | (dsimp only; walk1) | walk1)))
  dsimp only
  have hvl : vs.length = ns.length := by simpa using hI.length
  refine' kms_slice_lit (s := ⟨_, _, _, _, _⟩) (its := vs.toArray) (zs := vs.take 7) (lo := none) (hi := some 7) ?zF ?zN ?zl ?zp ?zq ?ze ?_ ?zs ?zt ?zz
  case zF => exact F3
  case zN => exact N3
  case zl => exact hsl.at fun o e => F3.keep _ _ e
  case zp => exact .none
  case zq => exact .int _ _
  case ze => exact pick7 vs
  case zs => with_unfolding_all rfl
  case zt => exact fun _ => rfl
  case zz => simp; show _ ≤ 16777216; omega
  intro D4 h4 F4 N4 l4
  dsimp only
  clear F3 N3 l4
  refine ⟨D4, vs.take 7, ns.take 7, rfl, ⟨_, (N4 _ (.head _)).1, rfl, _, rfl⟩, by rw [List.map_take]; exact AtAll.take 7 (hI.keeps F4.keep), by simp; omega, named_owned, ?_, ?_⟩
  · intro C v1 p h tk m led hp hat FC NC
    change Fr _ C h m at FC
    change News _ C h led at NC
    obtain ⟨t1, rfl⟩ := hat.int_inv
    refine asgC FC NC fun h3 F3 N3 => ?_
    refine wpAny_tests_nil ⟨rfl, fun _ => ?_, fun e => nomatch e⟩
    refine wpAny_BinOp (ldC F3 rfl (wpAny_Constant_int (mod_int (by decide) ?_)))
    exact ⟨_, _, _, [], rfl, F3, N3, (fun p hp => nomatch hp), (fun h k _ => .cons .int .nil)⟩
  intro D5 h5 tk5 ys n5 hD5 hDl5 hat5 hk5
  rw [List.filter_eq_self.mpr (fun _ _ => rfl)] at hat5
  have F5 := Fr.stay F4 hk5
  have N5 := News.made F4 N4 hD5 hk5 hDl5
  clear F4 N4
  have hyl : ys.length ≤ 7 := by have := hat5.length; simp at this; omega
  refine add_lists F5 N5 (vs := [_, _, _, _, _, _]) (ws := ys) ⟨_, (N5 _ (.tail _ (.tail _ (.head _)))).1, rfl, _, rfl⟩ ⟨_, (N5 _ (.head _)).1, rfl, _, rfl⟩ ?_ (by show 6 + ys.length ≤ 16777216; omega)
  intro h6 F6 N6
  rename_i rl _ e1 _ tkm ml _ e2 _ l6 _ e3
  have hxl : hl < h5.objs.size := Heap.lt_size (N5 (hl, listOf (#[] : Array Value) 0) (by first | (((repeat (first | exact List.Mem.head _ | refine List.Mem.tail _ ?_)); done)) | simp)).1
  have hrx : rl < h5.objs.size := Heap.lt_size (N5 (rl, listOf #[] 0) (by first | (((repeat (first | exact List.Mem.head _ | refine List.Mem.tail _ ?_)); done)) | simp)).1
  have hmx : ml < h5.objs.size := Heap.lt_size (N5 (ml, listOf #[Value.int 35309 tkm] 0) (by first | (((repeat (first | exact List.Mem.head _ | refine List.Mem.tail _ ?_)); done)) | simp)).1
  clear F5 N5
  dsimp only at F6 N6 ⊢
  generalize h5.objs.size = xl at N6 hxl hrx hmx
  generalize hXV : [Value.int 443 _, Value.int 93 _, Value.int 11 _, Value.int 7 _, Value.int 92 _, Value.int 209 _] ++ ys = XV at N6
  have hat6 : ∀ h : Heap, AtAll h XV (([443, 93, 11, 7, 92, 209] ++ (ns.take 7).map fun n : Int => n.fmod 1000000).map .int) := fun h => by
    rw [← hXV, List.map_append]
    refine AtAll.append (.cons .int (.cons .int (.cons .int (.cons .int (.cons .int (.cons .int .nil)))))) (ints_any (h := h5) ?_)
    rw [List.map_map]
    exact hat5
  have N7 : News s.heap L h6 ((rl, listOf (#[] : Array Value) 0) :: (ml, listOf #[Value.int 35309 tkm] 0) :: (hl, listOf (#[] : Array Value) 0) :: (tb, instObj 175 dx) :: (dx, dictOf [⟨PyData.keyHash w.params (PySem.Str.ofString "_headers"), .str (PySem.Str.ofString "_headers") tkH, .ref hl⟩] 1) :: (xl, listOf XV.toArray 0) :: []) := by
    exact News.cons (N6 (rl, listOf (#[] : Array Value) 0) (by first | (((repeat (first | exact List.Mem.head _ | refine List.Mem.tail _ ?_)); done)) | simp)) (News.cons (N6 (ml, listOf #[Value.int 35309 tkm] 0) (by first | (((repeat (first | exact List.Mem.head _ | refine List.Mem.tail _ ?_)); done)) | simp)) (News.cons (N6 (hl, listOf (#[] : Array Value) 0) (by first | (((repeat (first | exact List.Mem.head _ | refine List.Mem.tail _ ?_)); done)) | simp)) (News.cons (N6 (tb, instObj 175 dx) (by first | (((repeat (first | exact List.Mem.head _ | refine List.Mem.tail _ ?_)); done)) | simp)) (News.cons (N6 (dx, dictOf [⟨PyData.keyHash w.params (PySem.Str.ofString "_headers"), .str (PySem.Str.ofString "_headers") tkH, .ref hl⟩] 1) (by first | (((repeat (first | exact List.Mem.head _ | refine List.Mem.tail _ ?_)); done)) | simp)) (News.cons (N6 (xl, listOf XV.toArray 0) (by first | (((repeat (first | exact List.Mem.head _ | refine List.Mem.tail _ ?_)); done)) | simp)) (News.nil))))))
  clear N6
  have hrm : @Ne Nat rl ml := by omega
  have hrh : @Ne Nat rl hl := by omega
  have hXl : XV.length ≤ 13 := by
    rw [← hXV]
    simp
    omega
  have hml : @Ne Nat ml hl ∧ @Ne Nat ml tb ∧ @Ne Nat ml dx ∧ @Ne Nat ml xl := by
    have hmx' : @LT.lt Nat _ ml xl := hmx
    refine ⟨?_, ?_, ?_, ?_⟩ <;> omega
  have hhl : @Ne Nat tb hl ∧ @Ne Nat dx hl ∧ @Ne Nat xl hl := by
    have this' : @LT.lt Nat _ hl xl := hxl
    refine ⟨?_, ?_, ?_⟩ <;> omega
  refine for_listN (items := XV) (nn := 0) (l := xl) (LJ w s.heap sa tb dx hl ml xl tkH XV) rfl ?_ F6 N7 ?_ ?_ ?_
  · rintro i m' news' ⟨rl, oR, us, mv, pv, nr, nm, np, nt, rs, modes, rfl, _⟩
    first | (((repeat (first | exact List.Mem.head _ | refine List.Mem.tail _ ?_)); done)) | simp
  · refine ⟨rl, listOf (#[] : Array Value) 0, [], [Value.int 35309 tkm], [], 0, 0, 0, [], [], [35309], rfl, ⟨hrm, hrh⟩, (fun _ h => nomatch h), rfl, rfl, (fun _ _ _ => .nil), (fun _ _ _ => .nil), (fun h => .cons .int .nil), rfl, ?_, .start⟩
    intro z z0 z1 z2 z3 z4 z5 z6 z7 z8 z9 z10 z11
    show (if z = PySem.Str.ofString "modes" then some (Value.ref ml) else if z = PySem.Str.ofString "rows" then some (Value.ref rl) else if z = PySem.Str.ofString "table" then some (Value.ref tb) else List.lookup z [(PySem.Str.ofString "script", Value.ref sa)]) = if z = PySem.Str.ofString "modes" then some (Value.ref ml) else if z = PySem.Str.ofString "table" then some (Value.ref tb) else if z = PySem.Str.ofString "script" then some (Value.ref sa) else none
    rw [if_neg z11]
    by_cases q1 : z = PySem.Str.ofString "modes"
    · rw [if_pos q1, if_pos q1]
    rw [if_neg q1, if_neg q1]
    by_cases q2 : z = PySem.Str.ofString "table"
    · rw [if_pos q2, if_pos q2]
    rw [if_neg q2, if_neg q2]
    by_cases q3 : z = PySem.Str.ofString "script"
    · rw [if_pos q3, q3]; rfl
    · rw [if_neg q3, List.lookup_cons, beq_false_of_ne q3]; rfl
  · rintro i v m' news' I oI h tk hv hcI ⟨rl', oR, us, mv, pv, nr, nm, np, nt, rs, modes, rfl, ⟨hd1, hd2⟩, htt, hRc, hRd, hus, hpv, hmv, hrw, hb, H⟩ F N hn
    clear F6 N7
    have hi : i < 13 := by
      have := (List.getElem?_eq_some_iff.mp hv).1
      omega
    obtain ⟨ini, last, tl, rfl, hil, hlast⟩ := mv_split (hmv h) H.len
    have hl0 := H.rng last hlast
    obtain ⟨x, tx, rfl, hx0⟩ : ∃ x tx, v = Value.int x tx ∧ 0 ≤ x ∧ x < 1000000 := by
      obtain ⟨d, q1, q2⟩ := (hat6 h).get hv
      rw [List.getElem?_map] at q1
      obtain ⟨x, q3, rfl⟩ := Option.map_eq_some_iff.mp q1
      obtain ⟨tx, rfl⟩ := q2.int_inv
      refine ⟨x, tx, rfl, ?_⟩
      have q4 := List.mem_of_getElem? q3
      rcases List.mem_append.mp q4 with q5 | q5
      · simp only [List.mem_cons, List.not_mem_nil, or_false] at q5
        rcases q5 with rfl | rfl | rfl | rfl | rfl | rfl <;> decide
      · obtain ⟨n, _, rfl⟩ := List.mem_map.mp q5
        exact ⟨Int.fmod_nonneg_of_pos _ (by decide), Int.fmod_lt_of_pos _ (by decide)⟩
    have hI : rl' ≠ I ∧ ml ≠ I ∧ hl ≠ I := ⟨hn (rl', oR) (by first | (((repeat (first | exact List.Mem.head _ | refine List.Mem.tail _ ?_)); done)) | simp), hn (ml, listOf (ini ++ [Value.int last tl]).toArray nm) (by first | (((repeat (first | exact List.Mem.head _ | refine List.Mem.tail _ ?_)); done)) | simp), hn (hl, listOf pv.toArray np) (by first | (((repeat (first | exact List.Mem.head _ | refine List.Mem.tail _ ?_)); done)) | simp)⟩
    have hmo := nextM_rng hx0 hl0
    have hdd0 : 0 ≤ x.fmod 7 := Int.fmod_nonneg_of_pos _ (by decide)
    have hdd1 : x.fmod 7 < 7 := Int.fmod_lt_of_pos _ (by decide)
    have hmeet : ∀ e ∈ rs, (Txt.lower e.2.1 = Txt.lower (rankI (nextM x last), fmI (nextM x last), txtK i).2.1 ↔ e.1 = (rankI (nextM x last), fmI (nextM x last), txtK i).1) := H.meet hmo.1
    have hdue := deed_due (d := (x.fmod 7).toNat) (by omega) (v := fmI last) hmeet
    have htold := deed_told (d := (x.fmod 7).toNat) (by omega) hmeet
    dsimp only at hdue htold
    have husl : us.length = rs.length := by
      have := (hus.read F N fun p hp => by first | (((repeat refine List.Mem.tail _ ?_); first | assumption | exact List.mem_append_right _ (by assumption) | exact List.mem_append_left _ (by assumption))) | simp [hp]).length
      simpa using this
    have hrl := H.rlen
    have hlens := H.lens
    have hstep := (H.step hi (d := (x.fmod 7).toNat) (by omega) hmo (last := last) hl0.1).1
    refine turn_a (s := ⟨h, _, _, tk, _⟩) (ps := rs.map prOf) R X T K0 F N (sa := sa) ?_ rfl hrw hx0 hil hi hl0 ⟨hd1, hd2⟩ htt hpv (by simpa using hrl) (fun p hp => by obtain ⟨e, he, rfl⟩ := List.mem_map.mp hp; exact (hlens e he).1) hml.1 ⟨hhl.1, hhl.2.1, hhl.2.2, hI.2.2.symm⟩ ?_
    · intro z z0 z1 z2 z3 z4 z5 z6 z7 z8 z9 z10 z11
      show (if z = PySem.Str.ofString "x" then some (Value.int x tx) else m' z) = _
      rw [if_neg z10]
      exact hb z z0 z1 z2 z3 z4 z5 z6 z7 z8 z9 z10 z11
    intro h1 tk1 m1 al r np1 pv1 nt1 u1 u2 F1 N1 sub1 ht1 hal1 hpv1 hb1 hx1 hr1 hmo1 htx1 hah1 htd1 htv1
    rw [hdue] at hpv1
    rw [htold] at htv1
    refine turn_b (s := ⟨h1, _, _, tk1, _⟩) R X T F1 N1 hb1 hx1 hr1 hmo1 htx1 hah1 htd1 hi hl0 hmo H ⟨hd1, hd2, hal1.2.1.symm, hI.1⟩ ht1 hRc hRd (hus.mono sub1) hpv1 htv1 ?_
    intro h2 tk2 m2 D oD dv nd G oG gv ng nt2 F2 N2 sub2 ht2 hD hG hdv hgv hne hge hb2 hr2 hmo2 hah2 hdu2 hgo2
    refine turn_c (s := ⟨h2, _, _, tk2, _⟩) R X T K0 F2 N2 hb2 hr2 hmo2 hah2 hdu2 hgo2 hi hil hl0 hmo H ht2 hRc hRd husl hD hG ((hpv.mono sub1).mono sub2) (hpv1.mono sub2) hdv hgv hne hge hal1 ⟨hml.1, hml.2.1, hml.2.2.1, hml.2.2.2, hI.2.1⟩ ?_
    intro h3 tk3 m3 F3 N3 hb3 hr3
    refine ⟨h3, tk3, m3, _, rfl, F3, N3, ?_, ⟨D, oD, dv, ini ++ [Value.int last tl] ++ [Value.int (nextM x last) u1], pv1, nd, nm + 1, np1, nt2, _, modes ++ [nextM x last], rfl, ⟨hne.2.2.1, hne.2.2.2⟩, ht2, hD.1, hD.2, hdv, hpv1.mono sub2, fun h' => ?_, hr3, hb3, hstep⟩⟩
    · refine List.forall_mem_cons.mpr ⟨hne.2.1, List.forall_mem_cons.mpr ⟨hI.2.1, List.forall_mem_cons.mpr ⟨hI.2.2, List.forall_mem_cons.mpr ⟨hn (tb, instObj 175 dx) (by first | (((repeat (first | exact List.Mem.head _ | refine List.Mem.tail _ ?_)); done)) | simp), List.forall_mem_cons.mpr ⟨hn (dx, dictOf [⟨PyData.keyHash w.params (PySem.Str.ofString "_headers"), .str (PySem.Str.ofString "_headers") tkH, .ref hl⟩] 1) (by first | (((repeat (first | exact List.Mem.head _ | refine List.Mem.tail _ ?_)); done)) | simp), List.forall_mem_cons.mpr ⟨hn (xl, listOf XV.toArray 0) (by first | (((repeat (first | exact List.Mem.head _ | refine List.Mem.tail _ ?_)); done)) | simp), ?_⟩⟩⟩⟩⟩⟩
      exact fun p hp => tup_it (N3 (I, oI) (.head _)).1 hcI (N3 p (by first | (((repeat refine List.Mem.tail _ ?_); first | assumption | exact List.mem_append_right _ (by assumption) | exact List.mem_append_left _ (by assumption))) | simp [hp])).1 (ht2 p hp)
    · rw [List.map_append]
      exact AtAll.append (hmv h') (.cons .int .nil)
  · rintro h tk m' news' ⟨rl', oR, us, mv, pv, nr, nm, np, nt, rs, modes, rfl, _, _, hRc, hRd, hus, hpv, hmv, hrw, hb, H⟩ F N
    clear F6 N7
    iterate 1 (first | (dsimp only; walk1) | walk1)
    refine law_end (s := ⟨h, _, _, tk, _⟩) R X T F N hb hrw hXl H hRc hRd hus hpv hmv ?_
    intro h' tk' hk
    exact ⟨rfl, h', tk', rfl, hk⟩
end
end Mine
end
namespace Mine
theorem fa_is {w : World} {h : Heap} {p : Program} {loose : List PySem.Str} {mean : ExcName → Option Value} {mg mb : PySem.Str → Option Value} {fa : Addr} (KX : (hd.heap_1 w.params).In h) (T : Top p loose mean mg mb h) (e : nsIn (hd.heap_1 w.params) mainGlobals (PySem.Str.ofString "law") = some (some (.ref 286))) (hmg : mg (PySem.Str.ofString "law") = some (.ref fa)) : fa = 286 := by
  have q := mg_of KX (topRead_of T).g e
  rw [hmg] at q
  injection q with q
  injection q
theorem post_true (as : List WData) : PySem.Challenge.rw_ny0252_01.row.claim.post as (WData.bool true) as = true := by
  show (WShape.has [] (WData.bool true) .bool && WTm.holds [] (.eq .res (.lit (.bool true))) { args := as, res := some (WData.bool true), after := as }) = true
  have h1 : WShape.has [] (WData.bool true) .bool = true := by first | rfl | decide +kernel | (simp [WShape.has, WShape.arms])
  rw [h1]
  simp [WTm.holds, WTm.value, PySem.W.same]
end Mine
set_option maxRecDepth 100000 in
set_option maxHeartbeats 8000000 in
theorem PySem.Challenge.cw_ny0252_01_holds : PySem.Challenge.rw_ny0252_01.Holds :=
  Mine.hd (by
  k_fill
  intro w s₀ s₁ mg mb G Y fa o pm cd doc dV kV ho hd hcd hD hmg hg args vals as hpre hlay hrd hwl hlo
  have KX := kIn_of Y
  refine Ground.open G ?_
  intro T B D TE TW
  have hfa : fa = 286 := Mine.fa_is KX T (by k_is) hmg
  subst hfa
  clear ho hd hcd hD hmg B D TE TW
  wrow_args hpre hlay hrd hwl hlo
  refine enter_call ?_
  w_top on
  refine codeAny_mono ?_ (fun _ _ g => GoodW.toG g)
  have K0 := below_caller (Top.heap T)
  rename PySem.Heap.IsList s₁.heap _ _ => hIs
  rename PySem.ReadsAll s₁.heap _ _ _ => hRa
  rename ¬ _ => hlen
  refine codeAny_mono (Mine.law_code ⟨by decide, by decide, rfl⟩ KX T K0 _ _ _ hIs ⟨_, hRa⟩ (by omega)) ?_
  rintro r s' ⟨rfl, h', tk', rfl, hst⟩
  exact ⟨.inl ⟨_, _, _, rfl, fun _ => rfl, .bool true, Mine.post_true _, fun _ => ⟨.nil, fun _ h => nomatch h⟩⟩, hst, rfl, hg⟩)
