import PyProof.Rows.All
import Wide.All
import OpenK.AllK
import Wide.FinOn
import PySem.Builtin.Re_Pattern.W2All
import PySem.Challenge.RW_ey0010_01
set_option Elab.async false
set_option maxRecDepth 100000

section
open PySem PySem.W PyProof.Rows
set_option maxHeartbeats 8000000
namespace Mine
open_top hd for PySem.Challenge.rw_ey0010_01
end Mine
end

section
open PySem PySem.W PyProof.Rows
namespace Mine
def sl (l : List Nat) : Str := ⟨l.toArray⟩
theorem sl_append (a b : List Nat) : sl a ++ sl b = sl (a ++ b) := Str.ext' (by rw [Str.cps_append]; simp [sl])
theorem sl_length (a : List Nat) : (sl a).length = a.length := by show a.toArray.size = _; simp
theorem execs_append (l2 : List Stmt) (env : Env) : ∀ l1 : List Stmt, execs (l1 ++ l2) env = (execs l1 env >>= fun f => match f with | .next => execs l2 env | f => pure f)
  | [] => rfl
  | st :: r => by
    show (exec st env >>= fun f => match f with | .next => execs (r ++ l2) env | f => pure f) = ((exec st env >>= fun f => match f with | .next => execs r env | f => pure f) >>= _)
    rw [LawfulMonad.bind_assoc]
    congr 1
    funext f
    cases f with
    | next => exact execs_append l2 env r
    | _ => rfl
theorem cut_at {M : Model} {A : Around} {E : Value → Shared → Prop} {s : Shared} {Q : Flow → Shared → Prop} {env : Env} {l : List Stmt} (n : Nat) (Mid : Shared → Prop)
    (h1 : wpAny M A (execs (l.take n) env) (fun f s' => match f with | .next => Mid s' | f => Q f s') E s) (h2 : ∀ s', Mid s' → wpAny M A (execs (l.drop n) env) Q E s') : wpAny M A (execs l env) Q E s := by
  rw [← List.take_append_drop n l, execs_append]
  refine wpAny_bind (wpAny_mono h1 (fun f s' h => ?_) fun _ _ h => h)
  cases f with
  | next => exact h2 s' h
  | _ => exact wpAny_pure h
theorem over_eq (m : Str → Option Value) : ∀ l : List (Str × Value), (∀ p ∈ l, m p.1 = some p.2) → (l.foldr (fun p f y => if y = p.1 then some p.2 else f y) m) = m
  | [], _ => rfl
  | p :: l, h => by
    have ih := over_eq m l fun q hq => h q (.tail _ hq)
    rw [List.foldr_cons, ih]
    funext y
    by_cases hy : y = p.1
    · rw [if_pos hy, hy, h p (.head _)]
    · rw [if_neg hy]
theorem Fr.overs {h₀ h : Heap} {L : Addr} {m : Str → Option Value} (F : Fr h₀ L h m) (l : List (Str × Value)) (hl : ∀ p ∈ l, m p.1 = some p.2) : Fr h₀ L h (l.foldr (fun p f y => if y = p.1 then some p.2 else f y) m) := by
  rw [over_eq m l hl]; exact F
theorem news_of {h₀ h : Heap} {L : Addr} {a b : List (Addr × Obj)} (N : News h₀ L h a) (hs : ∀ p ∈ b, p ∈ a) : News h₀ L h b := fun p hp => N p (hs p hp)

end Mine
end

section
open PySem PySem.W PyProof.Rows
set_option maxHeartbeats 8000000
set_option pp.deepTerms false
set_option pp.deepTerms.threshold 8
namespace Mine
def nz (l : List Nat) : Int := ((l.countP (· == 48) : Nat) : Int)
def nd (l : List Nat) : Int := ((l.countP (· != 44) : Nat) : Int)
def toN (l : List Int) : List Nat := l.map Int.toNat
theorem toN_snoc (l : List Int) (n : Nat) : toN (l ++ [(n : Int)]) = toN l ++ [n] := by simp [toN]
theorem toN_codes (x : Str) : toN (KStt.codes x) = x.cps.toList := by
  unfold toN KStt.codes
  rw [List.map_map]
  exact (List.map_congr_left (g := _root_.id) fun c _ => Int.toNat_natCast c).trans (List.map_id _)
theorem prec_st {pre : List Int} {a b a' b' : Int} {n : Nat} (h1 : a = nz (toN pre)) (h2 : b = nd (toN pre)) (e1 : a' = a + (if n == 48 then 1 else 0)) (e2 : b' = b + (if n != 44 then 1 else 0)) :
    a' = nz (toN (pre ++ [(n : Int)])) ∧ b' = nd (toN (pre ++ [(n : Int)])) := by
  subst e1 e2 h1 h2
  rw [toN_snoc]
  unfold nz nd
  simp only [List.countP_append, List.countP_singleton]
  constructor <;> split <;> simp
theorem code_of {p : Str} {pre post : List Int} {n : Nat} (hp : ∀ c ∈ p.cps.toList, c = 48 ∨ c = 35 ∨ c = 44) (e : KStt.codes p = pre ++ (n : Int) :: post) : n = 48 ∨ n = 35 ∨ n = 44 := by
  have h1 : (n : Int) ∈ KStt.codes p := by rw [e]; simp
  unfold KStt.codes at h1
  obtain ⟨c, hc, hcn⟩ := List.mem_map.mp h1
  have : c = n := by omega
  subst this
  exact hp c hc
theorem prec_call {dp un : Nat} {gd : Option (List Code)} {cn : Str} {cs : Scope} {a : Addr} {ccd : Value} {cl : List (Str × Addr)} {outer : List Env} {A₀ : Around} {base h₀ : Heap} {L : Addr} {m : Str → Option Value} {s : Shared} {Q E : Value → Shared → Prop}
    {w : World} {loose : List Str} {mean : ExcName → Option Value} {mg mb : Str → Option Value} {news : List (Addr × Obj)} {p : Str} {t : Tok}
    (B : Below A₀ base outer h₀) (F : Fr h₀ L s.heap m) (X : (hd.heap_39 w.params).In h₀) (N : News h₀ L s.heap news) (T : Top hd.view_39 loose mean mg mb h₀) (hk : cs.kind = .function) (hdp : dp + 1 < recursionLimit) (hun : un + 8 < cLine)
    (hp : ∀ c ∈ p.cps.toList, c = 48 ∨ c = 35 ∨ c = 44)
    (hret : ∀ (x : Addr) (t1 t2 : Tok) (h' : Heap) (tk' : Nat), Fr h₀ L h' m → News h₀ L h' ((x, { cls := .type "tuple", data := .seq #[.int (nz p.cps.toList) t1, .int (nd p.cps.toList) t2] }) :: news) → (∀ q ∈ news, q.1 < x) → Q (.ref x) { s with heap := h', toks := tk' }) :
    wpAny (model PySem.Challenge.rw_ey0010_01.row.prog w) (ktrTop dp un gd cn cs L a ccd cl outer) (call (.ref 64) [.str p t]) Q E s := by
  revert X; k_fill; intro X
  refine wpAny_call ?_
  k_dflt cell_enter
  k_with "pyIter str" => (fail "stop")
  k_with "state" => first | exact ⟨rfl, rfl⟩ | exact prec_st (by assumption) (by assumption) rfl rfl | exact prec_st (by assumption) (by assumption) (by simp) (by simp)
  k_steps
  k_state (fun pre mn mx => mn = nz (toN pre) ∧ mx = nd (toN pre)) "min" "max"
  · have h3 : kN = 48 ∨ kN = 35 ∨ kN = 44 := code_of hp kEq
    clear kEq
    rcases h3 with rfl | rfl | rfl
    · k_steps
      exact absurd (by assumption) (show ¬ ((Builtin.Str.occurrences (Str.ofString "@0") { cps := #[48] } 0 (Str.ofString "@0").length 1).isEmpty = true) by decide +kernel)
    · k_steps
      exact absurd (by assumption) (show ¬ ((Builtin.Str.occurrences (Str.ofString "@0") { cps := #[35] } 0 (Str.ofString "@0").length 1).isEmpty = false) by decide +kernel)
    · k_steps
      exact absurd (by assumption) (show ¬ ((Builtin.Str.occurrences (Str.ofString "@0") { cps := #[44] } 0 (Str.ofString "@0").length 1).isEmpty = false) by decide +kernel)
  · rw [toN_codes] at *
    k_steps
    subst_vars
    refine hret _ _ _ _ _ (by assumption) (by assumption) (by assumption)
end Mine
end

section
open PySem PySem.W PyProof.Rows
set_option maxHeartbeats 8000000
set_option pp.deepTerms false
set_option pp.deepTerms.threshold 8
namespace Mine
def grpR2 (p : Str) (g1 : Int) : Int := Txt.rfind (Txt.slice p none (some (-g1 - 1))) (Str.ofString ",")
def grp1 (p : Str) : Int := (p.length : Int) - Txt.rfind p (Str.ofString ",") - 1
def grp (p : Str) : Int × Int :=
  if Txt.rfind p (Str.ofString ",") = -1 then (1000, 1000) else
  if grpR2 p (grp1 p) = -1 then (grp1 p, grp1 p) else (grp1 p, (p.length : Int) - grp1 p - grpR2 p (grp1 p) - 2)
theorem group_call {dp un : Nat} {gd : Option (List Code)} {cn : Str} {cs : Scope} {a : Addr} {ccd : Value} {cl : List (Str × Addr)} {outer : List Env} {A₀ : Around} {base h₀ : Heap} {L : Addr} {m : Str → Option Value} {s : Shared} {Q E : Value → Shared → Prop}
    {w : World} {loose : List Str} {mean : ExcName → Option Value} {mg mb : Str → Option Value} {news : List (Addr × Obj)} {p : Str} {t : Tok}
    (B : Below A₀ base outer h₀) (F : Fr h₀ L s.heap m) (X : (hd.heap_39 w.params).In h₀) (N : News h₀ L s.heap news) (T : Top hd.view_39 loose mean mg mb h₀) (hk : cs.kind = .function) (hdp : dp + 1 < recursionLimit) (hun : un + 8 < cLine)
    (hlen : p.length ≤ 1000)
    (hret : ∀ (x : Addr) (t1 t2 : Tok) (h' : Heap) (tk' : Nat), Fr h₀ L h' m → News h₀ L h' ((x, { cls := .type "tuple", data := .seq #[.int (grp p).1 t1, .int (grp p).2 t2] }) :: news) → (∀ q ∈ news, q.1 < x) → Q (.ref x) { s with heap := h', toks := tk' }) :
    wpAny (model PySem.Challenge.rw_ey0010_01.row.prog w) (ktrTop dp un gd cn cs L a ccd cl outer) (call (.ref 50) [.str p t]) Q E s := by
  revert X; k_fill; intro X
  refine wpAny_call ?_
  k_dflt cell_enter
  k_steps
  · have e : grp p = (1000, 1000) := by unfold grp; rw [if_pos (by assumption)]
    rw [e] at hret
    exact hret _ _ _ _ _ (by assumption) (by assumption) (by assumption)
  · have e : grp p = (grp1 p, grp1 p) := by unfold grp; rw [if_neg (by assumption), if_pos (by assumption)]
    rw [e] at hret
    exact hret _ _ _ _ _ (by assumption) (by assumption) (by assumption)
  · have e : grp p = (grp1 p, (p.length : Int) - grp1 p - grpR2 p (grp1 p) - 2) := by unfold grp; rw [if_neg (by assumption), if_neg (by assumption)]
    rw [e] at hret
    exact hret _ _ _ _ _ (by assumption) (by assumption) (by assumption)
end Mine
end

section
open PySem PySem.Sre
namespace Mine
def C : Array Nat := #[14, 4, 0, 0, 4294967295, 17, 0, 23, 35, 0, 4294967295, 7, 16, 13, 12, 21, 9, 0, 67063944, 1, 0, 0, 0, 0, 0, 0, 15, 16, 14, 16, 39, 24, 6, 0, 4294967295, 20, 39, 1, 16, 39, 15, 2, 0, 18, 17, 1, 17, 2, 24, 16, 0, 4294967295, 13, 11, 9, 0, 67065864, 33, 0, 0, 0, 0, 0, 0, 1, 17, 3, 17, 4, 24, 5, 0, 4294967295, 2, 1, 17, 5, 1]

theorem runFor_go {m : M} {n : Nat} (h : m.outcome = none) : M.runFor (n + 1) m = M.runFor n m.step := by
  show (if m.outcome.isSome then m else M.runFor n m.step) = _
  rw [h]; rfl
theorem runFor_done {m : M} (h : m.outcome.isSome = true) : ∀ n, M.runFor n m = m
  | 0 => rfl
  | n + 1 => by show (if m.outcome.isSome then m else M.runFor n m.step) = _; rw [h]; rfl
theorem runFor_add (m : M) : ∀ (a b : Nat), M.runFor (a + b) m = M.runFor b (M.runFor a m)
  | 0, b => by rw [Nat.zero_add]; rfl
  | a + 1, b => by
    cases h : m.outcome with
    | none =>
      rw [Nat.add_right_comm, runFor_go h, runFor_go h]
      exact runFor_add m.step a b
    | some o =>
      have hs : m.outcome.isSome = true := by rw [h]; rfl
      rw [runFor_done hs, runFor_done hs, runFor_done hs]

/-- m comes in at most n steps to m' -/
def To (n : Nat) (m m' : M) : Prop := ∃ k, k ≤ n ∧ M.runFor k m = m'
theorem To.refl (m : M) : To 0 m m := ⟨0, Nat.le_refl _, rfl⟩
theorem To.trans {x y : Nat} {a b c : M} (h1 : To x a b) (h2 : To y b c) : To (x + y) a c := by
  obtain ⟨k, hk, rfl⟩ := h1
  obtain ⟨j, hj, rfl⟩ := h2
  exact ⟨k + j, Nat.add_le_add hk hj, runFor_add a k j⟩
theorem To.step {m m' : M} (h : m.outcome = none) (e : m.step = m') : To 1 m m' := ⟨1, Nat.le_refl _, by rw [runFor_go h, e]; rfl⟩
theorem To.le {x y : Nat} {a b : M} (h : To x a b) (hxy : x ≤ y) : To y a b := by
  obtain ⟨k, hk, e⟩ := h
  exact ⟨k, Nat.le_trans hk hxy, e⟩

def goodW : Wait → Bool
  | .nextStart | .nextBranch | .giveBack | .closeLoop | .maxMore | .maxTail => true
  | _ => false

def Won (m m' : M) : Prop := m'.outcome = some .matched ∧ m'.handed = m.handed ∧ m'.start = m.start ∧ m'.marks = m.marks ∧ m'.lastmark = m.lastmark ∧ m'.lastindex = m.lastindex

theorem resume_won (m : M) (f : Sre.Frame) (h : goodW f.wait = true) : (m.resume f true).outcome = m.outcome ∧ (m.resume f true).answer = some true ∧ (m.resume f true).frames = m.frames ∧ (m.resume f true).handed = m.handed ∧ (m.resume f true).start = m.start ∧
    (m.resume f true).marks = m.marks ∧ (m.resume f true).lastmark = m.lastmark ∧ (m.resume f true).lastindex = m.lastindex := by
  obtain ⟨wt, fpc, fpos, fo, fc, fk, fl, fb⟩ := f
  cases wt <;> first | exact Bool.noConfusion (show false = true from h) | exact ⟨rfl, rfl, rfl, rfl, rfl, rfl, rfl, rfl⟩

theorem unwind : ∀ (fs : List Sre.Frame) (m : M), m.outcome = none → m.answer = some true → m.frames = fs → (∀ f ∈ fs, goodW f.wait = true) → ∃ m', To (fs.length + 1) m m' ∧ Won m m'
  | [], m, ho, ha, hf, _ => by
    refine ⟨_, To.step ho rfl, ?_⟩
    unfold M.step
    rw [ho, ha, hf]
    exact ⟨rfl, rfl, rfl, rfl, rfl, rfl⟩
  | f :: rest, m, ho, ha, hf, hg => by
    obtain ⟨r1, r2, r3, r4, r5, r6, r7, r8⟩ := resume_won { m with answer := none, frames := rest, weight := m.weight - (1 + f.kept.marks.size), pc := f.pc, pos := f.pos, outermost := f.outermost } f (hg f (.head _))
    have e : m.step = M.resume { m with answer := none, frames := rest, weight := m.weight - (1 + f.kept.marks.size), pc := f.pc, pos := f.pos, outermost := f.outermost } f true := by
      unfold M.step
      rw [ho, ha, hf]
      rfl
    obtain ⟨m', t, w1, w2, w3, w4, w5, w6⟩ := unwind rest _ (r1.trans ho) r2 r3 fun f' h' => hg f' (.tail _ h')
    exact ⟨m', ((To.step ho e).trans t).le (by simp only [List.length_cons]; omega), w1, w2.trans r4, w3.trans r5, w4.trans r6, w5.trans r7, w6.trans r8⟩

theorem attempt_ok {m : M} {f : Sre.Frame} {t p : Nat} {o : Bool} (h : m.weight + 1 + f.kept.marks.size ≤ 16777216) :
    m.attempt f t p o = { m with frames := f :: m.frames, weight := m.weight + 1 + f.kept.marks.size, pc := t, pos := p, handed := p, outermost := o } := by
  unfold M.attempt
  rw [if_neg (by omega)]

/-- what a run over signs of one kind takes -/
theorem run_spec {T : Array Nat} {i : Nat} {acc : Nat → Bool} (hacc : ∀ c seen, ∃ seen', accepts C i c seen = .ok (acc c, seen')) :
    ∀ (k n p found : Nat) (seen : Seen), k ≤ n → (∀ j, j < k → acc (T.getD (p + j) 0) = true) → (k < n → acc (T.getD (p + k) 0) = false) → ∃ seen', Sre.run C T i n p found seen = .ok (found + k, seen')
  | 0, 0, p, found, seen, _, _, _ => ⟨seen, rfl⟩
  | 0, n + 1, p, found, seen, _, _, hs => by
    obtain ⟨s1, e1⟩ := hacc (T.getD p 0) seen
    refine ⟨s1, ?_⟩
    unfold Sre.run
    rw [e1]
    have := hs (Nat.succ_pos _)
    rw [Nat.add_zero] at this
    rw [this]
    rfl
  | k + 1, 0, p, found, seen, h, _, _ => by omega
  | k + 1, n + 1, p, found, seen, h, ha, hs => by
    obtain ⟨s1, e1⟩ := hacc (T.getD p 0) seen
    obtain ⟨s2, e2⟩ := run_spec hacc k n (p + 1) (found + 1) s1 (by omega) (fun j hj => by have := ha (j + 1) (by omega); rwa [show p + (j + 1) = p + 1 + j by omega] at this)
      (fun hk => by have := hs (by omega); rwa [show p + (k + 1) = p + 1 + k by omega] at this)
    refine ⟨s2, ?_⟩
    unfold Sre.run
    rw [e1]
    have := ha 0 (by omega)
    rw [Nat.add_zero] at this
    rw [this]
    show Sre.run C T i n (p + 1) (found + 1) s1 = _
    rw [e2, show found + 1 + k = found + (k + 1) by omega]

def accN (c : Nat) : Bool := c < 256 && (C.getD (54 + (1 + c / 32)) 0).testBit (c % 32)
def accP (c : Nat) : Bool := !(c < 256 && (C.getD (16 + (1 + c / 32)) 0).testBit (c % 32))
theorem accN_ok (c : Nat) (seen : Seen) : ∃ seen', accepts C 52 c seen = .ok (accN c, seen') := by
  show ∃ seen', inSet C c 78 54 true seen = .ok (accN c, seen')
  unfold inSet
  show ∃ seen', (if accN c = true then Except.ok (true, seen.add 9) else inSet C c 77 63 true (seen.add 9)) = .ok (accN c, seen')
  cases accN c with
  | true => exact ⟨_, rfl⟩
  | false => exact ⟨_, rfl⟩
theorem accP_ok (c : Nat) (seen : Seen) : ∃ seen', accepts C 13 c seen = .ok (accP c, seen') := by
  show ∃ seen', inSet C c 77 16 false (seen.add 21) = .ok (accP c, seen')
  unfold inSet
  show ∃ seen', (if (c < 256 && (C.getD (16 + (1 + c / 32)) 0).testBit (c % 32)) = true then Except.ok (false, (seen.add 21).add 9) else inSet C c 76 25 false ((seen.add 21).add 9)) = .ok (accP c, seen')
  unfold accP
  cases (c < 256 && (C.getD (16 + (1 + c / 32)) 0).testBit (c % 32)) with
  | true => exact ⟨_, rfl⟩
  | false => exact ⟨_, rfl⟩
theorem accQ_ok (c : Nat) (seen : Seen) : ∃ seen', accepts C 35 c seen = .ok (c != 39, seen') := ⟨seen, rfl⟩
theorem accA_ok (c : Nat) (seen : Seen) : ∃ seen', accepts C 73 c seen = .ok (c != 10, seen') := ⟨seen, rfl⟩
end Mine
end

section
open PySem PySem.Sre
namespace Mine
def mk0 : Array (Option Nat) := #[some 0, none, none, none, none, none]
def lp (k : Int) (b : Option Nat) : Loop := { pc := 7, count := k, began := b, outer := none }
/-- a state in the loop, just ahead of word `pc` -/
def H (T : Array Nat) (lim pc p : Nat) (hd : Nat) (k : Int) (b : Option Nat) (fs : List Sre.Frame) (W : Nat) (seen : Seen) : M :=
  { code := C, text := T, lim, start := 0, lastStart := lim, pc, pos := p, handed := hd, marks := mk0, lastmark := 0, lastindex := -1, loops := #[lp k b], inner := some 0, frames := fs, weight := W, seen }
def kp : Sre.Kept := { lastmark := 0, lastindex := -1, whole := true, marks := #[some 0] }
def fMore (p : Nat) (k : Int) (b : Option Nat) : Sre.Frame := { wait := .maxMore, pc := 44, pos := p, outermost := true, count := k, kept := kp, loop := 0, began := b }
def fBr (pc p : Nat) : Sre.Frame := { wait := .nextBranch, pc, pos := p, outermost := true, kept := kp }
def fGive (pc p : Nat) (c : Int) (kept : Sre.Kept) : Sre.Frame := { wait := .giveBack, pc, pos := p, outermost := true, count := c, kept }

section
variable {T : Array Nat} {lim p hd W : Nat} {k : Int} {b : Option Nat} {fs : List Sre.Frame} {seen : Seen}
theorem H_until (hk : -1 ≤ k) (hb : b ≠ some p) (hW : W + 4 ≤ 16777216) :
    (H T lim 43 p hd k b fs W seen).step = H T lim 11 p p (k + 1) (some p) (fMore p (k + 1) b :: fs) (W + 2) (seen.add 18) := by
  show M.until_ (H T lim 44 p hd k b fs W (seen.add 18)) true = _
  unfold M.until_
  show (if k + 1 < ((0 : Nat) : Int) then _ else if (!true) = true then _ else if ((decide (k + 1 < ((4294967295 : Nat) : Int)) || (4294967295 == maxRepeat)) && (b != some p)) = true then _ else _) = _
  rw [if_neg (by omega), if_neg (by decide), if_pos (by simp [maxRepeat, hb])]
  unfold M.round
  rw [attempt_ok (by show W + 1 + 1 ≤ _; omega)]
  rfl
theorem H_branch (hW : W + 2 ≤ 16777216) :
    (H T lim 11 p hd k b fs W seen).step = H T lim 13 p p k b (fBr 12 p :: fs) (W + 2) (seen.add 7) := by
  show M.alternative (H T lim 11 p hd k b fs W (seen.add 7)) 12 kp = _
  unfold M.alternative
  show (if false = true then _ else _) = _
  rw [if_neg (by decide), attempt_ok (by show W + 1 + 1 ≤ _; omega)]
  rfl
theorem H_in (hp : p < lim) (ha : accP (T.getD p 0) = true) : ∃ seen', (H T lim 13 p hd k b fs W seen).step = H T lim 26 (p + 1) hd k b fs W seen' := by
  obtain ⟨s1, e1⟩ := accP_ok (T.getD p 0) (seen.add 13)
  refine ⟨s1, ?_⟩
  show (if p ≥ lim then _ else match accepts C 13 (T.getD p 0) (seen.add 13) with | .error why => _ | .ok (false, seen) => _ | .ok (true, seen) => _) = _
  rw [if_neg (by omega), e1, ha]
  rfl
theorem H_in_no (hp : p < lim) (ha : accP (T.getD p 0) = false) : ∃ seen', (H T lim 13 p hd k b fs W seen).step = { H T lim 13 p hd k b fs W seen' with answer := some false } := by
  obtain ⟨s1, e1⟩ := accP_ok (T.getD p 0) (seen.add 13)
  refine ⟨s1, ?_⟩
  show (if p ≥ lim then _ else match accepts C 13 (T.getD p 0) (seen.add 13) with | .error why => _ | .ok (false, seen) => _ | .ok (true, seen) => _) = _
  rw [if_neg (by omega), e1, ha]
  rfl
theorem H_jump : (H T lim 26 p hd k b fs W seen).step = H T lim 43 p hd k b fs W (seen.add 15) := rfl
theorem H_jump2 : (H T lim 40 p hd k b fs W seen).step = H T lim 43 p hd k b fs W (seen.add 15) := rfl

theorem char_go (hk : -1 ≤ k) (hb : b ≠ some p) (hW : W + 4 ≤ 16777216) (hp : p < lim) (ha : accP (T.getD p 0) = true) :
    ∃ seen', To 4 (H T lim 43 p hd k b fs W seen) (H T lim 43 (p + 1) p (k + 1) (some p) (fBr 12 p :: fMore p (k + 1) b :: fs) (W + 4) seen') := by
  obtain ⟨s1, e1⟩ := H_in (T := T) (hd := p) (k := k + 1) (b := some p) (fs := fBr 12 p :: fMore p (k + 1) b :: fs) (W := W + 2 + 2) (seen := (seen.add 18).add 7) hp ha
  exact ⟨_, (To.step rfl (H_until hk hb hW)).trans ((To.step rfl (H_branch (by omega))).trans ((To.step rfl e1).trans (To.step rfl H_jump)))⟩

/-- the second way of the branch: behind a sign that the first way refuses -/
theorem H_alt2 (hW : W + 2 ≤ 16777216) : (({ H T lim 13 p hd k b (fBr 12 p :: fs) (W + 2) seen with answer := some false } : M)).step = H T lim 29 p p k b (fBr 28 p :: fs) (W + 2) seen := by
  show M.alternative { H T lim 12 p hd k b fs (W + 2 - (1 + 1)) seen with marks := #[some 0] ++ mk0.extract 1 6 } 28 kp = _
  unfold M.alternative
  show (if false = true then _ else _) = _
  rw [if_neg (by decide), attempt_ok (by show W + 2 - (1 + 1) + 1 + 1 ≤ _; omega)]
  show ({ H T lim 29 p p k b (fBr 28 p :: fs) (W + 2 - (1 + 1) + 1 + 1) seen with marks := _ } : M) = _
  rw [show W + 2 - (1 + 1) + 1 + 1 = W + 2 by omega]
  rfl
theorem H_q1 (hp : p < lim) (hq : T.getD p 0 = 39) : (H T lim 29 p hd k b fs W seen).step = H T lim 31 (p + 1) hd k b fs W (seen.add 16) := by
  show (if p ≥ lim then _ else match (Except.ok (T.getD p 0 == 39, seen.add 16) : Except String (Bool × Seen)) with | .error why => _ | .ok (false, seen) => _ | .ok (true, seen) => _) = _
  rw [if_neg (by omega), hq]
  rfl
theorem H_q1_no (hp : p < lim) (hq : T.getD p 0 ≠ 39) : (H T lim 29 p hd k b fs W seen).step = { H T lim 29 p hd k b fs W (seen.add 16) with answer := some false } := by
  show (if p ≥ lim then _ else match (Except.ok (T.getD p 0 == 39, seen.add 16) : Except String (Bool × Seen)) with | .error why => _ | .ok (false, seen) => _ | .ok (true, seen) => _) = _
  rw [if_neg (by omega), show (T.getD p 0 == 39) = false from beq_false_of_ne hq]
  rfl
theorem H_q3 (hp : p < lim) (hq : T.getD p 0 = 39) : (H T lim 38 p hd k b fs W seen).step = H T lim 40 (p + 1) hd k b fs W (seen.add 16) := by
  show (if p ≥ lim then _ else match (Except.ok (T.getD p 0 == 39, seen.add 16) : Except String (Bool × Seen)) with | .error why => _ | .ok (false, seen) => _ | .ok (true, seen) => _) = _
  rw [if_neg (by omega), hq]
  rfl
theorem H_q2 {j : Nat} (hW : W + 2 ≤ 16777216) (hlim : lim < 4294967295) (hj : p + j < lim) (hin : ∀ i, i < j → T.getD (p + i) 0 ≠ 39) (hend : T.getD (p + j) 0 = 39) :
    ∃ seen', (H T lim 31 p hd k b fs W seen).step = H T lim 38 (p + j) (p + j) k b (fGive 31 (p + j) j kp :: fs) (W + 2) seen' := by
  obtain ⟨s1, e1⟩ := run_spec (T := T) (i := 35) accQ_ok j (min 4294967295 ((lim : Int) - p).toNat) p 0 ((seen.add 24).add 20) (by omega) (fun i hi => by simpa using hin i hi) (fun _ => by rw [hend]; rfl)
  refine ⟨s1, ?_⟩
  show (if ((0 : Nat) : Int) > (lim : Int) - p then _ else match Sre.run C T 35 (min 4294967295 ((lim : Int) - p).toNat) p 0 ((seen.add 24).add 20) with | .error why => _ | .ok (n, seen) => _) = _
  rw [if_neg (by omega), e1]
  show (if 0 + j < 0 then _ else _) = _
  rw [if_neg (by omega), Nat.zero_add]
  show M.attempt _ _ _ _ _ = _
  rw [attempt_ok (by show W + 1 + 1 ≤ _; omega)]
  rfl
end
end Mine
end

section
open PySem PySem.Sre
namespace Mine
section
variable {T : Array Nat} {lim p hd W : Nat} {k : Int} {b : Option Nat} {fs : List Sre.Frame} {seen : Seen}
theorem quote_go {j : Nat} (hk : -1 ≤ k) (hb : b ≠ some p) (hW : W + 6 ≤ 16777216) (hlim : lim < 4294967295) (hj : p + 1 + j < lim) (hq : T.getD p 0 = 39) (hin : ∀ i, i < j → T.getD (p + 1 + i) 0 ≠ 39) (hend : T.getD (p + 1 + j) 0 = 39) :
    ∃ seen', To 8 (H T lim 43 p hd k b fs W seen) (H T lim 43 (p + 1 + j + 1) (p + 1 + j) (k + 1) (some p) (fGive 31 (p + 1 + j) j kp :: fBr 28 p :: fMore p (k + 1) b :: fs) (W + 6) seen') := by
  obtain ⟨s1, e1⟩ := H_in_no (T := T) (hd := p) (k := k + 1) (b := some p) (fs := fBr 12 p :: fMore p (k + 1) b :: fs) (W := W + 2 + 2) (seen := (seen.add 18).add 7) (p := p) (lim := lim) (by omega) (by rw [hq]; decide)
  obtain ⟨s2, e2⟩ := H_q2 (T := T) (p := p + 1) (hd := p) (k := k + 1) (b := some p) (fs := fBr 28 p :: fMore p (k + 1) b :: fs) (W := W + 2 + 2) (seen := s1.add 16) (lim := lim) (by omega) hlim hj hin hend
  exact ⟨_, (To.step rfl (H_until hk hb (by omega))).trans ((To.step rfl (H_branch (by omega))).trans ((To.step rfl e1).trans ((To.step rfl (H_alt2 (by omega))).trans
    ((To.step rfl (H_q1 (by omega) hq)).trans ((To.step rfl e2).trans ((To.step rfl (H_q3 hj hend)).trans (To.step rfl H_jump2)))))))⟩

/-- a state behind the loop -/
def G (T : Array Nat) (lim pc p : Nat) (hd : Nat) (k : Int) (b : Option Nat) (fs : List Sre.Frame) (W : Nat) (seen : Seen) (mk : Array (Option Nat)) (lm li : Int) : M :=
  { code := C, text := T, lim, start := 0, lastStart := lim, pc, pos := p, handed := hd, marks := mk, lastmark := lm, lastindex := li, loops := #[lp k b], inner := none, frames := fs, weight := W, seen }
def kq (lm li : Int) : Sre.Kept := { lastmark := lm, lastindex := li, whole := false, marks := #[] }
def fTail (p : Nat) (k : Int) : Sre.Frame := { wait := .maxTail, pc := 44, pos := p, outermost := true, count := k, kept := kq 0 (-1), loop := 0 }

theorem H_alt3 (hW : 2 ≤ W) : ({ H T lim 29 p hd k b (fBr 28 p :: fs) W seen with answer := some false } : M).step = { H T lim 28 p hd k b fs (W - 2) seen with answer := some false } := by
  show M.alternative { H T lim 28 p hd k b fs (W - (1 + 1)) seen with marks := #[some 0] ++ mk0.extract 1 6 } 42 kp = _
  rfl
theorem H_more_no {b' : Option Nat} (hW : W + 2 ≤ 16777216) : ({ H T lim 28 p hd (k + 1) b' (fMore p (k + 1) b :: fs) (W + 2) seen with answer := some false } : M).step =
    G T lim 44 p p k b (fTail p (k + 1) :: fs) (W + 1) seen mk0 0 (-1) := by
  show M.afterLoop { H T lim 44 p hd (k + 1 - 1) b fs (W + 2 - (1 + 1)) seen with marks := #[some 0] ++ mk0.extract 1 6 } .maxTail 0 (k + 1) (fun _ => false) = _
  unfold M.afterLoop
  show M.attempt _ _ _ _ _ = _
  rw [attempt_ok (by show W + 2 - (1 + 1) + 1 + 0 ≤ _; omega), show k + 1 - 1 = k by omega]
  show G T lim 44 p p k b (fTail p (k + 1) :: fs) (W + 2 - (1 + 1) + 1 + 0) seen mk0 0 (-1) = _
  rw [show W + 2 - (1 + 1) + 1 + 0 = W + 1 by omega]

theorem end_go (hk : -1 ≤ k) (hb : b ≠ some p) (hW : W + 4 ≤ 16777216) (hp : p < lim) (ha : accP (T.getD p 0) = false) (hq : T.getD p 0 ≠ 39) :
    ∃ seen', To 7 (H T lim 43 p hd k b fs W seen) (G T lim 44 p p k b (fTail p (k + 1) :: fs) (W + 1) seen' mk0 0 (-1)) := by
  obtain ⟨s1, e1⟩ := H_in_no (T := T) (hd := p) (k := k + 1) (b := some p) (fs := fBr 12 p :: fMore p (k + 1) b :: fs) (W := W + 2 + 2) (seen := (seen.add 18).add 7) (p := p) (lim := lim) hp ha
  exact ⟨_, (To.step rfl (H_until hk hb (by omega))).trans ((To.step rfl (H_branch (by omega))).trans ((To.step rfl e1).trans ((To.step rfl (H_alt2 (by omega))).trans
    ((To.step rfl (H_q1_no hp hq)).trans ((To.step rfl (H_alt3 (by omega))).trans (To.step rfl (H_more_no (by omega))))))))⟩

def mkA (p : Nat) : Array (Option Nat) := #[some 0, some p, some p, none, none, none]
def mkB (p q : Nat) : Array (Option Nat) := #[some 0, some p, some p, some q, some q, none]
def mkC (p q r : Nat) : Array (Option Nat) := #[some 0, some p, some p, some q, some q, some r]
theorem mark_ok {m : M} {i : Nat} (h : (i : Int) ≤ m.lastmark + 1) : m.mark i = { m with marks := m.marks.setIfInBounds i (some m.pos), lastmark := max m.lastmark i, lastindex := if i % 2 == 1 then ((i / 2 + 1 : Nat) : Int) else m.lastindex, pc := m.pc + 2 } := by
  unfold M.mark
  simp only [if_pos h]
theorem G_m1 : (G T lim 44 p hd k b fs W seen mk0 0 (-1)).step = G T lim 46 p hd k b fs W (seen.add 17) #[some 0, some p, none, none, none, none] 1 1 := by
  show M.mark (G T lim 44 p hd k b fs W (seen.add 17) mk0 0 (-1)) 1 = _
  rw [mark_ok (by show ((1 : Nat) : Int) ≤ 0 + 1; decide)]
  rfl
theorem G_m2 : (G T lim 46 p hd k b fs W seen #[some 0, some p, none, none, none, none] 1 1).step = G T lim 48 p hd k b fs W (seen.add 17) (mkA p) 2 1 := by
  show M.mark (G T lim 46 p hd k b fs W (seen.add 17) #[some 0, some p, none, none, none, none] 1 1) 2 = _
  rw [mark_ok (by show ((2 : Nat) : Int) ≤ 1 + 1; decide)]
  rfl
theorem G_m3 {q : Nat} : (G T lim 65 q hd k b fs W seen (mkA p) 2 1).step = G T lim 67 q hd k b fs W (seen.add 17) #[some 0, some p, some p, some q, none, none] 3 2 := by
  show M.mark (G T lim 65 q hd k b fs W (seen.add 17) (mkA p) 2 1) 3 = _
  rw [mark_ok (by show ((3 : Nat) : Int) ≤ 2 + 1; decide)]
  rfl
theorem G_m4 {q : Nat} : (G T lim 67 q hd k b fs W seen #[some 0, some p, some p, some q, none, none] 3 2).step = G T lim 69 q hd k b fs W (seen.add 17) (mkB p q) 4 2 := by
  show M.mark (G T lim 67 q hd k b fs W (seen.add 17) #[some 0, some p, some p, some q, none, none] 3 2) 4 = _
  rw [mark_ok (by show ((4 : Nat) : Int) ≤ 3 + 1; decide)]
  rfl
theorem G_m5 {q r : Nat} : (G T lim 75 r hd k b fs W seen (mkB p q) 4 2).step = G T lim 77 r hd k b fs W (seen.add 17) (mkC p q r) 5 3 := by
  show M.mark (G T lim 75 r hd k b fs W (seen.add 17) (mkB p q) 4 2) 5 = _
  rw [mark_ok (by show ((5 : Nat) : Int) ≤ 4 + 1; decide)]
  rfl
theorem G_mark12 : To 2 (G T lim 44 p hd k b fs W seen mk0 0 (-1)) (G T lim 48 p hd k b fs W ((seen.add 17).add 17) (mkA p) 2 1) := (To.step rfl G_m1).trans (To.step rfl G_m2)
theorem G_mark34 {q : Nat} : To 2 (G T lim 65 q hd k b fs W seen (mkA p) 2 1) (G T lim 69 q hd k b fs W ((seen.add 17).add 17) (mkB p q) 4 2) := (To.step rfl G_m3).trans (To.step rfl G_m4)
theorem G_mark5 {q r : Nat} : To 1 (G T lim 75 r hd k b fs W seen (mkB p q) 4 2) (G T lim 77 r hd k b fs W (seen.add 17) (mkC p q r) 5 3) := To.step rfl G_m5
theorem G_numb {mk : Array (Option Nat)} {lm li : Int} {j : Nat} (hW : W + 1 ≤ 16777216) (hlim : lim < 4294967295) (hj : p + j ≤ lim) (hin : ∀ i, i < j → accN (T.getD (p + i) 0) = true) (hend : p + j < lim → accN (T.getD (p + j) 0) = false) :
    ∃ seen', (G T lim 48 p hd k b fs W seen mk lm li).step = G T lim 65 (p + j) (p + j) k b (fGive 48 (p + j) j (kq lm li) :: fs) (W + 1) seen' mk lm li := by
  obtain ⟨s1, e1⟩ := run_spec (T := T) (i := 52) accN_ok j (min 4294967295 ((lim : Int) - p).toNat) p 0 ((seen.add 24).add 13) (by omega) hin (fun h => hend (by omega))
  refine ⟨s1, ?_⟩
  show (if ((0 : Nat) : Int) > (lim : Int) - p then _ else match Sre.run C T 52 (min 4294967295 ((lim : Int) - p).toNat) p 0 ((seen.add 24).add 13) with | .error why => _ | .ok (n, seen) => _) = _
  rw [if_neg (by omega), e1]
  show (if 0 + j < 0 then _ else _) = _
  rw [if_neg (by omega), Nat.zero_add]
  show M.attempt _ _ _ _ _ = _
  rw [attempt_ok (by show W + 1 + 0 ≤ _; omega)]
  rfl
theorem G_any {mk : Array (Option Nat)} {lm li : Int} {j : Nat} (hW : W + 1 ≤ 16777216) (hlim : lim < 4294967295) (hj : p + j = lim) (hin : ∀ i, i < j → T.getD (p + i) 0 ≠ 10) :
    ∃ seen', (G T lim 69 p hd k b fs W seen mk lm li).step = G T lim 75 (p + j) (p + j) k b (fGive 69 (p + j) j (kq lm li) :: fs) (W + 1) seen' mk lm li := by
  obtain ⟨s1, e1⟩ := run_spec (T := T) (i := 73) accA_ok j (min 4294967295 ((lim : Int) - p).toNat) p 0 ((seen.add 24).add 2) (by omega) (fun i hi => by simpa using hin i hi) (fun h => by omega)
  refine ⟨s1, ?_⟩
  show (if ((0 : Nat) : Int) > (lim : Int) - p then _ else match Sre.run C T 73 (min 4294967295 ((lim : Int) - p).toNat) p 0 ((seen.add 24).add 2) with | .error why => _ | .ok (n, seen) => _) = _
  rw [if_neg (by omega), e1]
  show (if 0 + j < 0 then _ else _) = _
  rw [if_neg (by omega), Nat.zero_add]
  show M.attempt _ _ _ _ _ = _
  rw [attempt_ok (by show W + 1 + 0 ≤ _; omega)]
  rfl
theorem G_succ {mk : Array (Option Nat)} {lm li : Int} : (G T lim 77 p hd k b fs W seen mk lm li).step = { G T lim 77 p p k b fs W (seen.add 1) mk lm li with answer := some true } := rfl

def Good (fs : List Sre.Frame) : Prop := ∀ f ∈ fs, goodW f.wait = true
theorem Good.cons {f : Sre.Frame} {fs : List Sre.Frame} (h : goodW f.wait = true) (g : Good fs) : Good (f :: fs) := fun f' h' => by
  rcases List.mem_cons.mp h' with rfl | h'
  · exact h
  · exact g f' h'
/-- the answer of a search -/
def Found (T : Array Nat) (p q : Nat) (m : M) : Prop := m.outcome = some .matched ∧ m.handed = T.size ∧ m.start = 0 ∧ m.marks = mkC p q T.size ∧ m.lastmark = 5 ∧ m.lastindex = 3
theorem tail_go {j : Nat} (hg : Good fs) (hW : W + 4 ≤ 16777216) (hlim : T.size < 4294967295) (hj : p + j ≤ T.size) (hin : ∀ i, i < j → accN (T.getD (p + i) 0) = true) (hend : p + j < T.size → accN (T.getD (p + j) 0) = false)
    (hany : ∀ i, p + j + i < T.size → T.getD (p + j + i) 0 ≠ 10) :
    ∃ m', To (fs.length + 11) (G T T.size 44 p hd k b fs W seen mk0 0 (-1)) m' ∧ Found T p (p + j) m' := by
  obtain ⟨s1, e1⟩ := G_numb (T := T) (lim := T.size) (p := p) (hd := hd) (k := k) (b := b) (fs := fs) (W := W) (seen := (seen.add 17).add 17) (mk := mkA p) (lm := 2) (li := 1) (j := j) (by omega) hlim hj hin hend
  obtain ⟨s2, e2⟩ := G_any (T := T) (lim := T.size) (p := p + j) (hd := p + j) (k := k) (b := b) (fs := fGive 48 (p + j) j (kq 2 1) :: fs) (W := W + 1) (seen := (s1.add 17).add 17) (mk := mkB p (p + j)) (lm := 4) (li := 2) (j := T.size - (p + j)) (by omega) hlim (by omega) (fun i hi => hany i (by omega))
  obtain ⟨m', t, w1, w2, w3, w4, w5, w6⟩ := unwind (fGive 69 (p + j + (T.size - (p + j))) ((T.size - (p + j) : Nat) : Int) (kq 4 2) :: fGive 48 (p + j) j (kq 2 1) :: fs)
    { G T T.size 77 (p + j + (T.size - (p + j))) (p + j + (T.size - (p + j))) k b (fGive 69 (p + j + (T.size - (p + j))) ((T.size - (p + j) : Nat) : Int) (kq 4 2) :: fGive 48 (p + j) j (kq 2 1) :: fs) (W + 1 + 1) ((s2.add 17).add 1) (mkC p (p + j) (p + j + (T.size - (p + j)))) 5 3 with answer := some true }
    rfl rfl rfl ((hg.cons (f := fGive 48 (p + j) j (kq 2 1)) rfl).cons (f := fGive 69 (p + j + (T.size - (p + j))) ((T.size - (p + j) : Nat) : Int) (kq 4 2)) rfl)
  have er : p + j + (T.size - (p + j)) = T.size := by omega
  refine ⟨m', (G_mark12.trans ((To.step rfl e1).trans (G_mark34.trans ((To.step rfl e2).trans (G_mark5.trans ((To.step rfl G_succ).trans t)))))).le (by simp only [List.length_cons]; omega), w1, ?_, w3, ?_, w5, w6⟩
  · rw [w2]; exact er
  · rw [w4]
    show mkC p (p + j) (p + j + (T.size - (p + j))) = mkC p (p + j) T.size
    rw [er]
end
end Mine
end

section
open PySem PySem.Sre
namespace Mine
inductive Pre : List Nat → Prop
  | nil : Pre []
  | char {c : Nat} {A : List Nat} : accP c = true → Pre A → Pre (c :: A)
  | quote {bd A : List Nat} : (∀ c ∈ bd, c ≠ 39) → Pre A → Pre (39 :: (bd ++ 39 :: A))

theorem pre_go {T : Array Nat} (hsz : T.size < 4294967295) {A : List Nat} (hA : Pre A) : ∀ (p hd W : Nat) (k : Int) (b : Option Nat) (fs : List Sre.Frame) (seen : Seen), -1 ≤ k → b ≠ some p → Good fs → fs.length ≤ W → W + 6 * A.length + 4 ≤ 16777216 →
    (∀ i, i < A.length → T.getD (p + i) 0 = A.getD i 0) → p + A.length < T.size →
    ∃ hd' W' k' b' fs' seen', To (8 * A.length) (H T T.size 43 p hd k b fs W seen) (H T T.size 43 (p + A.length) hd' k' b' fs' W' seen') ∧ -1 ≤ k' ∧ b' ≠ some (p + A.length) ∧ Good fs' ∧ fs'.length ≤ W' ∧ W' ≤ W + 6 * A.length := by
  induction hA with
  | nil =>
    intro p hd W k b fs seen hk hb hg hfl hW hT hp
    exact ⟨hd, W, k, b, fs, seen, To.refl _, hk, hb, hg, hfl, by omega⟩
  | @char c A hc _ ih =>
    intro p hd W k b fs seen hk hb hg hfl hW hT hp
    simp only [List.length_cons] at hW hp hT ⊢
    obtain ⟨s1, t1⟩ := char_go (T := T) (lim := T.size) (p := p) (hd := hd) (W := W) (k := k) (b := b) (fs := fs) (seen := seen) hk hb (by omega) (by omega) (by have := hT 0 (by omega); rw [Nat.add_zero] at this; rw [this]; exact hc)
    obtain ⟨hd', W', k', b', fs', seen', t2, h1, h2, h3, h3', h4⟩ := ih (p + 1) p (W + 4) (k + 1) (some p) (fBr 12 p :: fMore p (k + 1) b :: fs) s1 (by omega) (by intro e; have := Option.some.inj e; omega)
      ((hg.cons (f := fMore p (k + 1) b) rfl).cons (f := fBr 12 p) rfl) (by simp only [List.length_cons]; omega) (by omega) (fun i hi => by have := hT (i + 1) (by omega); rw [show p + (i + 1) = p + 1 + i by omega] at this; rw [this]; rfl) (by omega)
    rw [show p + 1 + A.length = p + (A.length + 1) by omega] at t2 h2
    exact ⟨hd', W', k', b', fs', seen', (t1.trans t2).le (by omega), h1, h2, h3, h3', by omega⟩
  | @quote bd A hbd _ ih =>
    intro p hd W k b fs seen hk hb hg hfl hW hT hp
    simp only [List.length_cons, List.length_append] at hW hp hT ⊢
    have g0 : T.getD p 0 = 39 := by have := hT 0 (by omega); rw [Nat.add_zero] at this; rw [this]; rfl
    have g1 : ∀ i, i < bd.length → T.getD (p + 1 + i) 0 ≠ 39 := fun i hi => by
      have := hT (i + 1) (by omega)
      rw [show p + (i + 1) = p + 1 + i by omega] at this
      rw [this]
      refine hbd _ ?_
      rw [List.getD_eq_getElem?_getD, List.getElem?_cons_succ, List.getElem?_append_left hi, List.getElem?_eq_getElem hi]
      exact List.getElem_mem hi
    have g2 : T.getD (p + 1 + bd.length) 0 = 39 := by
      have := hT (bd.length + 1) (by omega)
      rw [show p + (bd.length + 1) = p + 1 + bd.length by omega] at this
      rw [this, List.getD_eq_getElem?_getD, List.getElem?_cons_succ, List.getElem?_append_right (Nat.le_refl _), Nat.sub_self]
      rfl
    obtain ⟨s1, t1⟩ := quote_go (T := T) (lim := T.size) (p := p) (hd := hd) (W := W) (k := k) (b := b) (fs := fs) (seen := seen) (j := bd.length) hk hb (by omega) hsz (by omega) g0 g1 g2
    obtain ⟨hd', W', k', b', fs', seen', t2, h1, h2, h3, h3', h4⟩ := ih (p + 1 + bd.length + 1) (p + 1 + bd.length) (W + 6) (k + 1) (some p) (fGive 31 (p + 1 + bd.length) bd.length kp :: fBr 28 p :: fMore p (k + 1) b :: fs) s1 (by omega) (by intro e; have := Option.some.inj e; omega)
      (((hg.cons (f := fMore p (k + 1) b) rfl).cons (f := fBr 28 p) rfl).cons (f := fGive 31 (p + 1 + bd.length) bd.length kp) rfl) (by simp only [List.length_cons]; omega) (by omega)
      (fun i hi => by
        have := hT (bd.length + 1 + 1 + i) (by omega)
        rw [show p + (bd.length + 1 + 1 + i) = p + 1 + bd.length + 1 + i by omega] at this
        rw [this, List.getD_eq_getElem?_getD, List.getD_eq_getElem?_getD, show bd.length + 1 + 1 + i = (bd.length + (1 + i)) + 1 by omega, List.getElem?_cons_succ, List.getElem?_append_right (by omega), show bd.length + (1 + i) - bd.length = i + 1 by omega]
        rfl) (by omega)
    rw [show p + 1 + bd.length + 1 + A.length = p + (bd.length + (A.length + 1) + 1) by omega] at t2 h2
    exact ⟨hd', W', k', b', fs', seen', (t1.trans t2).le (by omega), h1, h2, h3, h3', by omega⟩

def fStart : Sre.Frame := { wait := .nextStart, pc := 5, pos := 0, outermost := true }
def fClose : Sre.Frame := { wait := .closeLoop, pc := 7, pos := 0, outermost := true }
def S0 (T : Array Nat) (pc : Nat) (seen : Seen) (mk : Array (Option Nat)) (lm : Int) : M :=
  { code := C, text := T, lim := T.size, start := 0, lastStart := T.size, pc, pos := 0, handed := 0, marks := mk, lastmark := lm, lastindex := -1, frames := [fStart], weight := 1, seen }
theorem start_eq (T : Array Nat) : forSearch C T 3 0 T.size false = S0 T 5 (({} : Seen).add 14) (Array.replicate 6 none) (-1) := by
  unfold forSearch
  show (if (decide (0 > T.size) || decide (T.size - 0 < 0)) = true then _ else _) = _
  rw [if_neg (by simp)]
  rfl
theorem start_m0 {T : Array Nat} {seen : Seen} : (S0 T 5 seen (Array.replicate 6 none) (-1)).step = S0 T 7 (seen.add 17) mk0 0 := by
  show M.mark (S0 T 5 (seen.add 17) (Array.replicate 6 none) (-1)) 0 = _
  rw [mark_ok (by show ((0 : Nat) : Int) ≤ -1 + 1; decide)]
  rfl
theorem start_rep {T : Array Nat} {seen : Seen} : (S0 T 7 seen mk0 0).step = H T T.size 43 0 0 (-1) none [fClose, fStart] 2 (seen.add 23) := rfl
theorem start_go (T : Array Nat) : ∃ seen, To 2 (forSearch C T 3 0 T.size false) (H T T.size 43 0 0 (-1) none [fClose, fStart] 2 seen) := by
  rw [start_eq]
  exact ⟨_, (To.step rfl start_m0).trans (To.step rfl start_rep)⟩

theorem getD_list (l : List Nat) (i : Nat) : l.toArray.getD i 0 = l.getD i 0 := by
  simp [Array.getD_eq_getD_getElem?, List.getD_eq_getElem?_getD]
theorem search_found {A N B : List Nat} {n : Nat} (hA : Pre A) (hN : ∀ c ∈ n :: N, accN c = true) (hn1 : accP n = false) (hn2 : n ≠ 39) (hB : ∀ c ∈ B, c ≠ 10) (hB1 : ∀ c, B.head? = some c → accN c = false)
    (hsz : A.length + (N.length + 1) + B.length ≤ 1000) :
    ∃ m', To 100000 (forSearch C (A ++ (n :: N) ++ B).toArray 3 0 (A ++ (n :: N) ++ B).toArray.size false) m' ∧ Found (A ++ (n :: N) ++ B).toArray A.length (A.length + (N.length + 1)) m' := by
  generalize hT : (A ++ (n :: N) ++ B).toArray = T
  have hl : T.size = A.length + (N.length + 1) + B.length := by rw [← hT]; simp; omega
  have hg : ∀ i, T.getD i 0 = (A ++ (n :: N) ++ B).getD i 0 := fun i => by rw [← hT]; exact getD_list _ i
  have gA : ∀ i, i < A.length → T.getD (0 + i) 0 = A.getD i 0 := fun i hi => by
    rw [hg, Nat.zero_add, List.getD_eq_getElem?_getD, List.append_assoc, List.getElem?_append_left hi, List.getD_eq_getElem?_getD]
  have gN : ∀ i, i < N.length + 1 → T.getD (A.length + i) 0 = (n :: N).getD i 0 := fun i hi => by
    rw [hg, List.getD_eq_getElem?_getD, List.append_assoc, List.getElem?_append_right (by omega), List.getElem?_append_left (by simp only [List.length_cons]; omega), List.getD_eq_getElem?_getD, show A.length + i - A.length = i by omega]
  have gB : ∀ i, T.getD (A.length + (N.length + 1) + i) 0 = B.getD i 0 := fun i => by
    rw [hg, List.getD_eq_getElem?_getD, List.append_assoc, List.getElem?_append_right (by omega), List.getElem?_append_right (by simp only [List.length_cons]; omega), List.getD_eq_getElem?_getD]
    simp only [List.length_cons]
    rw [show A.length + (N.length + 1) + i - A.length - (N.length + 1) = i by omega]
  obtain ⟨s1, t1⟩ := start_go T
  obtain ⟨hd', W', k', b', fs', s2, t2, h1, h2, h3, h3', h4⟩ := pre_go (T := T) (by omega) hA 0 0 2 (-1) none [fClose, fStart] s1 (by omega) (fun e => by cases e) (by
    intro f hf
    rcases List.mem_cons.mp hf with rfl | hf
    · rfl
    · rw [List.mem_singleton.mp hf]; rfl) (by simp only [List.length_cons, List.length_nil]; omega) (by omega) gA (by omega)
  rw [Nat.zero_add] at t2 h2
  have g0 : T.getD A.length 0 = n := by have := gN 0 (by omega); rw [Nat.add_zero] at this; rw [this]; rfl
  obtain ⟨s3, t3⟩ := end_go (T := T) (lim := T.size) (p := A.length) (hd := hd') (W := W') (k := k') (b := b') (fs := fs') (seen := s2) h1 h2 (by omega) (by omega) (by rw [g0]; exact hn1) (by rw [g0]; exact hn2)
  obtain ⟨m', t4, hf⟩ := tail_go (T := T) (p := A.length) (hd := A.length) (k := k') (b := b') (fs := fTail A.length (k' + 1) :: fs') (W := W' + 1) (seen := s3) (j := N.length + 1) (h3.cons rfl) (by omega) (by omega) (by omega)
    (fun i hi => by
      rw [gN i hi]
      refine hN _ ?_
      rw [List.getD_eq_getElem?_getD, List.getElem?_eq_getElem (by simp only [List.length_cons]; omega)]
      exact List.getElem_mem _)
    (fun hlt => by
      have := gB 0
      rw [Nat.add_zero] at this
      rw [this]
      cases B with
      | nil => simp only [List.length_nil] at hl; omega
      | cons c B => exact hB1 c rfl)
    (fun i hi => by
      rw [gB i]
      have hi' : i < B.length := by omega
      refine hB _ ?_
      rw [List.getD_eq_getElem?_getD, List.getElem?_eq_getElem hi']
      exact List.getElem_mem _)
  exact ⟨m', (t1.trans (t2.trans (t3.trans t4))).le (by simp only [List.length_cons]; omega), hf⟩
end Mine
end

section
open PySem PySem.W PyProof.Rows PySem.Builtin PySem.Builtin.Re
set_option maxHeartbeats 400000
namespace Mine
theorem plainAttrs_pat : PlainAttrs "re.Pattern" :=
  ⟨⟨"object.__getattribute__", by rw [typeLookup_type, builtinLookup_eq_fast]; kernel_rfl, by decide +kernel⟩, by rw [typeLookup_type, builtinLookup_eq_fast]; kernel_rfl⟩
theorem plainAttrs_mat : PlainAttrs "re.Match" :=
  ⟨⟨"object.__getattribute__", by rw [typeLookup_type, builtinLookup_eq_fast]; kernel_rfl, by decide +kernel⟩, by rw [typeLookup_type, builtinLookup_eq_fast]; kernel_rfl⟩
theorem owner_pat : Manifest.owners.lookup (String.ofList ['n', 'r', 'e', 't', 't', 'a', 'P', '.', 'e', 'r'].reverse) = some Manifest.sig_re_Pattern := by kernel_rfl
theorem owner_mat : Manifest.owners.lookup (String.ofList ['h', 'c', 't', 'a', 'M', '.', 'e', 'r'].reverse) = some Manifest.sig_re_Match := by kernel_rfl
theorem slot_search : Slot "re.Pattern" "search" "re.Pattern.search" :=
  .of (owner := "re.Pattern") (n := "search") (by rw [typeLookup_type, builtinLookup_eq_fast]; kernel_rfl) (by decide +kernel) (by decide +kernel) (by decide +kernel)
    (by first | exact .inl (by decide +kernel) | exact .inr (by decide +kernel)) (by rw [isSubtype_type]; kernel_rfl)
theorem type_search : typeOf (.builtin "re.Pattern.search") = pure (.type "method_descriptor") := by show builtinType _ = _; rw [builtinType_eq_fast]; kernel_rfl
theorem entry_search : entryFor table "re.Pattern.search" = some Builtin.«re.Pattern.search» := entryFor_of_tree (by kernel_rfl)
theorem args_search (a b : Value) : argsOk "re.Pattern.search" ⟨[a, b], []⟩ := by
  unfold argsOk; rw [signature?_of (id := "re.Pattern.search") (n := ['h', 'c', 'r', 'a', 'e', 's']) (o := ['n', 'r', 'e', 't', 't', 'a', 'P', '.', 'e', 'r']) (by kernel_rfl) owner_pat]; kernel_rfl
theorem slot_groups : Slot "re.Match" "groups" "re.Match.groups" :=
  .of (owner := "re.Match") (n := "groups") (by rw [typeLookup_type, builtinLookup_eq_fast]; kernel_rfl) (by decide +kernel) (by decide +kernel) (by decide +kernel)
    (by first | exact .inl (by decide +kernel) | exact .inr (by decide +kernel)) (by rw [isSubtype_type]; kernel_rfl)
theorem type_groups : typeOf (.builtin "re.Match.groups") = pure (.type "method_descriptor") := by show builtinType _ = _; rw [builtinType_eq_fast]; kernel_rfl
theorem entry_groups : entryFor table "re.Match.groups" = some Builtin.«re.Match.groups» := entryFor_of_tree (by kernel_rfl)
theorem args_groups (a : Value) : argsOk "re.Match.groups" ⟨[a], []⟩ := by
  unfold argsOk; rw [signature?_of (id := "re.Match.groups") (n := ['s', 'p', 'u', 'o', 'r', 'g']) (o := ['h', 'c', 't', 'a', 'M', '.', 'e', 'r']) (by kernel_rfl) owner_mat]; kernel_rfl

theorem named_search (v : Value) : reNamed "re.Pattern.search" "search" ["string", "pos", "endpos"] 1 [v] [] = pure [some v, none, none] := by with_unfolding_all rfl
theorem named_groups : reNamed "re.Match.groups" "groups" ["default"] 0 [] [] = pure [none] := by with_unfolding_all rfl

/-- the engine's drive comes to its end -/
theorem drive_ok {M : Model} {A : Around} {E : Value → Shared → Prop} {s : Shared} {Q : Sre.M → Shared → Prop} :
    ∀ (j t : Nat) (m : Sre.M), (Sre.M.runFor (4 * (j + 1)) m).outcome.isSome = true → Q (Sre.M.runFor (4 * (j + 1)) m) s → wpAny M A (reDrive (t + (j + 1)) m) Q E s
  | 0, t, m, ho, hq => by
    show wpAny M A (if (Sre.M.runFor 4 m).outcome.isSome = true then pure (Sre.M.runFor 4 m) else _) Q E s
    rw [if_pos ho]
    exact wpAny_pure hq
  | j + 1, t, m, ho, hq => by
    show wpAny M A (if (Sre.M.runFor 4 m).outcome.isSome = true then pure (Sre.M.runFor 4 m) else (do rule "sre.turn"; reDrive (t + (j + 1)) (Sre.M.runFor 4 m))) Q E s
    have e : 4 * (j + 1 + 1) = 4 + 4 * (j + 1) := by omega
    rw [e, runFor_add] at ho hq
    split
    · rename_i hs
      rw [runFor_done hs] at hq
      exact wpAny_pure hq
    · exact wpAny_bind (wpAny_rule (drive_ok j t _ ho hq))

theorem rules_ok {M : Model} {A : Around} {E : Value → Shared → Prop} {s : Shared} (m : Sre.M) {Q : PUnit → Shared → Prop} (hq : Q ⟨⟩ s) :
    ∀ l : List Nat, wpAny M A (forIn l PUnit.unit fun i _ => (if m.seen.has i = true then (do rule (Sre.names.getD i ""); pure (ForInStep.yield PUnit.unit)) else pure (ForInStep.yield PUnit.unit) : Sem (ForInStep PUnit))) Q E s
  | [] => wpAny_pure hq
  | i :: l => by
    rw [List.forIn_cons]
    refine wpAny_bind ?_
    cases m.seen.has i with
    | true => exact wpAny_bind (wpAny_rule (wpAny_pure (rules_ok m hq l)))
    | false => exact wpAny_pure (rules_ok m hq l)

theorem runToEnd_ok {M : Model} {A : Around} {E : Value → Shared → Prop} {s : Shared} {Q : Option Sre.M → Shared → Prop} {m m' : Sre.M} (ht : To 100000 m m') (ho : m'.outcome = some .matched) (hq : Q (some m') s) : wpAny M A (reRunToEnd m) Q E s := by
  obtain ⟨k, hk, rfl⟩ := ht
  have hs : (Sre.M.runFor k m).outcome.isSome = true := by rw [ho]; rfl
  have e : Sre.M.runFor (4 * (k + 1)) m = Sre.M.runFor k m := by
    rw [show 4 * (k + 1) = k + (3 * k + 4) by omega, runFor_add, runFor_done hs]
  unfold reRunToEnd
  refine wpAny_bind ?_
  obtain ⟨t, et⟩ : ∃ t, 2 ^ 64 = t + (k + 1) := ⟨2 ^ 64 - (k + 1), by omega⟩
  rw [et]
  refine drive_ok k t m (by rw [e]; exact hs) ?_
  rw [e]
  refine wpAny_bind (rules_ok _ ?_ _)
  rw [ho]
  exact wpAny_pure hq

def codeVals : Array Value := C.map fun (n : Nat) => Value.int (n : Int) 0
theorem codeVals_back : (codeVals.map reRawOf).map (·.toNat) = C := by kernel_rfl
def patObj (pt ft : Tok) : Obj := { cls := .type "re.Pattern", data := .fields #[.str (Str.ofString "((?:[^'0-9@#.,]|'[^']*')*)([0-9@#.,E+]*)(.*)") pt, .int 32 ft, .int 3 0, .none, .none, .ref 42, .int 0 0] }
def spansOf (p q r : Nat) : List Value := [rawInt (0 : Nat), rawInt (r : Nat), rawInt (0 : Nat), rawInt (p : Nat), rawInt (p : Nat), rawInt (q : Nat), rawInt (q : Nat), rawInt (r : Nat)]
def matObj (x : Str) (t : Tok) (sp : Addr) : Obj := { cls := .type "re.Match", data := .fields #[.str x t, .ref 43, rawInt (0 : Nat), rawInt (x.cps.size : Nat), rawInt 3, .ref sp] }
def tupObj (vs : List Value) : Obj := { cls := .type "tuple", data := .seq vs.toArray }
section
variable {prog : Program} {w : World} {A : Around} {E : Value → Shared → Prop} {s : Shared} {x : Str} {t pt ft : Tok} {co : Obj} {nn : Nat} {Q : Value → Shared → Prop} {m' : Sre.M} {p q : Nat}
theorem search_call (hP : s.heap.get? 43 = some (patObj pt ft)) (hC : s.heap.get? 42 = some co) (hcd : co.data = .seq codeVals nn) (hsz : x.length ≤ 1000)
    (ht : To 100000 (Sre.forSearch C x.cps 3 0 x.cps.size false) m') (hf : Found x.cps p q m') (hpq : p ≤ q) (hq : q ≤ x.cps.size)
    (h : Q (.ref (s.heap.push (tupObj (spansOf p q x.cps.size))).objs.size) { s with heap := (s.heap.push (tupObj (spansOf p q x.cps.size))).push (matObj x t s.heap.objs.size) }) :
    wpAny (model prog w) A (call (.builtin "re.Pattern.search") [.ref 43, .str x t]) Q E s := by
  obtain ⟨f1, f2, f3, f4, f5, f6⟩ := hf
  have hx : x.cps.size ≤ 1000 := hsz
  refine wpAny_call_entry slot_search ⟨_, hP, rfl⟩ entry_search ?_ (args_search _ _)
  show wpAny _ _ (reTarget "re.Pattern.search" "search" ⟨[.ref 43, .str x t], []⟩ >>= fun t => reAnswer t (Sre.forSearch t.code t.text t.groups t.pos t.lim false)) _ _ s
  refine wpAny_bind ?_
  unfold reTarget
  dsimp only
  rw [named_search]
  simp only [pure_bind]
  refine wpAny_bind (wpAny_fieldsOf hP rfl ?_)
  have e1 : reTextOf (.str x t) = pure (x.cps, 0) := rfl
  have e2 : ∀ n, reNoCollectionInside n 0 = pure () := fun n => rfl
  rw [e1]
  simp only [pure_bind, Array.getD_eq_getD_getElem?, List.getElem?_toArray, List.getElem?_cons_succ, List.getElem?_cons_zero, Option.getD_some, reRawNat]
  rw [if_neg (by decide), if_neg (by decide), e2]
  simp only [pure_bind]
  have hm : min (2 ^ 63 - 1 : Int).toNat x.cps.size = x.cps.size := by omega
  have h0 : min (Int.toNat 0) x.cps.size = 0 := by simp
  rw [hm, h0]
  refine wpAny_bind ?_
  unfold reRawItems
  refine wpAny_bind (wpAny_seqItems hC hcd ?_)
  refine wpAny_pure (wpAny_pure ?_)
  dsimp only [Option.getD_some]
  unfold reAnswer
  dsimp only
  rw [codeVals_back, show Int.toNat 3 = 3 from rfl]
  refine wpAny_bind ?_
  generalize Sre.forSearch C x.cps 3 0 x.cps.size false = m0 at ht ⊢
  refine runToEnd_ok ht f1 ?_
  dsimp only
  refine wpAny_bind ?_
  unfold reNewMatch
  rw [f2, f3, f4, f5, f6]
  have ea : ¬ ((decide (((2 * 0 + 1 : Nat) : Int) ≤ 5) && decide (p < 0) || (decide (((2 * 1 + 1 : Nat) : Int) ≤ 5) && decide (q < p) || (decide (((2 * 2 + 1 : Nat) : Int) ≤ 5) && decide (x.cps.size < q) || false))) = true) := by
    simp; omega
  show wpAny _ _ (if (decide (((2 * 0 + 1 : Nat) : Int) ≤ 5) && decide (p < 0) || (decide (((2 * 1 + 1 : Nat) : Int) ≤ 5) && decide (q < p) || (decide (((2 * 2 + 1 : Nat) : Int) ≤ 5) && decide (x.cps.size < q) || false))) = true then _ else
    (newTuple (spansOf p q x.cps.size) >>= fun v => newFields "re.Match" [Value.str x t, Value.ref 43, rawInt (0 : Nat), rawInt (x.cps.size : Nat), rawInt 3, v])) _ _ _
  rw [if_neg ea]
  refine wpAny_bind (wpAny_newTuple ?_ (by show 8 ≤ sizeLine; decide))
  refine wpAny_newObj_type ?_ (by show 6 ≤ sizeLine + 2; decide)
  exact wpAny_pure ⟨_, rfl, h⟩

def sub (x : Str) (i j : Nat) : Str := ⟨x.cps.extract i j⟩
theorem sub_le (x : Str) (i j : Nat) : (sub x i j).length ≤ x.length := by
  show (x.cps.extract i j).size ≤ x.cps.size
  simp; omega
theorem groups_call {r sp : Addr} (hm : s.heap.get? r = some (matObj x t sp)) (hs : s.heap.get? sp = some (tupObj (spansOf p q x.cps.size))) (hsz : x.length ≤ 1000)
    (h : Q (.ref s.heap.objs.size) { s with heap := s.heap.push (tupObj [.str (sub x 0 p) s.toks, .str (sub x p q) (s.toks + 1), .str (sub x q x.cps.size) (s.toks + 1 + 1)]), toks := s.toks + 1 + 1 + 1 }) :
    wpAny (model prog w) A (call (.builtin "re.Match.groups") [.ref r]) Q E s := by
  have hl : x.length ≤ sizeLine := Nat.le_trans hsz (by decide)
  refine wpAny_call_entry slot_groups ⟨_, hm, rfl⟩ entry_groups ?_ (args_groups _)
  show wpAny _ _ (reWithDefault "re.Match.groups" "groups" ⟨[.ref r], []⟩ >>= _) _ _ s
  refine wpAny_bind ?_
  unfold reWithDefault
  dsimp only
  rw [named_groups]
  simp only [pure_bind]
  refine wpAny_bind ?_
  unfold reFound
  refine wpAny_bind (wpAny_fieldsOf hm rfl ?_)
  refine wpAny_bind ?_
  unfold reRawItems
  refine wpAny_bind (m := seqItems? (.ref sp)) (wpAny_seqItems hs rfl ?_)
  refine wpAny_pure (wpAny_pure (wpAny_pure ?_))
  dsimp only
  have e : Array.map reRawOf ((some (spansOf p q x.cps.size).toArray).getD #[]) = #[((0 : Nat) : Int), (x.cps.size : Nat), ((0 : Nat) : Int), (p : Nat), (p : Nat), (q : Nat), (q : Nat), (x.cps.size : Nat)] := by
    simp [spansOf, reRawOf, rawInt]
  rw [e]
  simp only [List.size_toArray, List.length_cons, List.length_nil, Nat.reduceAdd, Nat.reduceDiv, Nat.reduceSub]
  show wpAny _ _ ((List.mapM (fun g => reGroupText (ReFound.mk #[.str x t, .ref 43, rawInt (0 : Nat), rawInt (x.cps.size : Nat), rawInt 3, .ref sp] #[((0 : Nat) : Int), (x.cps.size : Nat), ((0 : Nat) : Int), (p : Nat), (p : Nat), (q : Nat), (q : Nat), (x.cps.size : Nat)]) (g + 1) .none) [0, 1, 2]) >>= fun vs => newTuple vs >>= fun v => ret v) _ _ _
  have g : ∀ (b f : Nat) (i : Nat) (sps : Array Int) (Q' : Value → Shared → Prop) (s' : Shared), sps.getD (2 * i) (-1) = (b : Nat) → sps.getD (2 * i + 1) (-1) = (f : Nat) → Q' (.str (sub x b f) s'.toks) { s' with toks := s'.toks + 1 } →
      wpAny (model prog w) A.in1 (reGroupText (ReFound.mk #[.str x t, .ref 43, rawInt (0 : Nat), rawInt (x.cps.size : Nat), rawInt 3, .ref sp] sps) i .none) Q' E s' := fun b f i sps Q' s' h1 h2 hq => by
    unfold reGroupText
    dsimp only
    rw [h1, h2, if_neg (by simp), Int.toNat_natCast, Int.toNat_natCast]
    refine wpAny_bind (m := reTextOf (.str x t)) (wpAny_of_eq (a := (x.cps, 0)) rfl ?_)
    show wpAny _ _ (mkStr (sub x b f)) _ _ _
    exact wpAny_mkStr hq (Nat.le_trans (sub_le x b f) hl)
  simp only [List.mapM_cons, List.mapM_nil]
  refine wpAny_bind (wpAny_bind (g 0 p _ _ _ _ rfl rfl ?_))
  refine wpAny_bind (wpAny_bind (g p q _ _ _ _ rfl rfl ?_))
  refine wpAny_bind (wpAny_bind (g q x.cps.size _ _ _ _ rfl rfl ?_))
  refine wpAny_bind (wpAny_pure (wpAny_pure (wpAny_pure (wpAny_pure ?_))))
  refine wpAny_bind (wpAny_newTuple ?_ (by show 3 ≤ sizeLine; decide))
  exact wpAny_pure ⟨_, rfl, h⟩
end
end Mine
end

section
open PySem PySem.W PyProof.Rows
set_option maxHeartbeats 1000000
set_option pp.deepTerms false
set_option pp.deepTerms.threshold 8
namespace Mine
/-- a text in three parts, as the pattern takes it apart -/
structure Cut (p : Str) (A N B : List Nat) : Prop where
  text : p.cps = (A ++ N ++ B).toArray
  pre : Pre A
  numb : ∀ c ∈ N, accN c = true
  first : ∃ n r, N = n :: r ∧ accP n = false ∧ n ≠ 39
  behind : ∀ c ∈ B, c ≠ 10
  stop : ∀ c, B.head? = some c → accN c = false
  short : A.length + N.length + B.length ≤ 1000
theorem Cut.size {p : Str} {A N B : List Nat} (h : Cut p A N B) : p.cps.size = A.length + N.length + B.length := by rw [h.text]; simp; omega
theorem Cut.len {p : Str} {A N B : List Nat} (h : Cut p A N B) : p.length ≤ 1000 := by have := h.size; have := h.short; show p.cps.size ≤ 1000; omega
theorem Cut.le {p : Str} {A N B : List Nat} (h : Cut p A N B) : A.length + N.length ≤ p.cps.size := by have := h.size; omega
theorem Cut.found {p : Str} {A N B : List Nat} (h : Cut p A N B) : ∃ m', To 100000 (Sre.forSearch C p.cps 3 0 p.cps.size false) m' ∧ Found p.cps A.length (A.length + N.length) m' := by
  obtain ⟨n, r, rfl, h1, h2⟩ := h.first
  rw [h.text]
  exact search_found h.pre h.numb h1 h2 h.behind h.stop (by have := h.short; simpa using this)
theorem sub0 {p : Str} {A N B : List Nat} (h : Cut p A N B) : sub p 0 A.length = sl A := by
  unfold sub sl; rw [h.text]; simp
theorem sub1 {p : Str} {A N B : List Nat} (h : Cut p A N B) : sub p A.length (A.length + N.length) = sl N := by
  unfold sub sl; rw [h.text]; simp
theorem sub2 {p : Str} {A N B : List Nat} (h : Cut p A N B) : sub p (A.length + N.length) p.cps.size = sl B := by
  unfold sub sl; rw [h.text]
  have e : (A ++ N).length = A.length + N.length := by simp
  simp only [List.size_toArray, List.extract_toArray, List.extract_eq_drop_take, List.length_append]
  rw [← e, List.drop_left, ← List.length_append, e]
  rw [List.take_of_length_le (by simp only [List.length_append]; omega)]
theorem news_drop2 {h₀ h : Heap} {L : Addr} {x y z : Addr × Obj} {news : List (Addr × Obj)} (N : News h₀ L h (x :: y :: z :: news)) : News h₀ L h (x :: news) := fun p hp => by
  rcases List.mem_cons.mp hp with rfl | hp
  · exact N _ (.head _)
  · exact N _ (.tail _ (.tail _ (.tail _ hp)))
theorem pushed_lt {h₀ h : Heap} {L : Addr} {news : List (Addr × Obj)} (N : News h₀ L h news) : ∀ q ∈ news, q.1 < h.objs.size := fun q hq => Heap.lt_size (N q hq).1
section
variable {prog : Program} {w : World} {A : Around} {E : Value → Shared → Prop} {s : Shared} {x : Str} {t pt ft : Tok} {co : Obj} {nn : Nat} {Q : Value → Shared → Prop} {m' : Sre.M} {p q : Nat} {h₀ : Heap} {L : Addr} {m : Str → Option Value} {news : List (Addr × Obj)}
theorem search_K (F : Fr h₀ L s.heap m) (N : News h₀ L s.heap news) (hP : s.heap.get? 43 = some (patObj pt ft)) (hC : s.heap.get? 42 = some co) (hcd : co.data = .seq codeVals nn) (hsz : x.length ≤ 1000)
    (ht : To 100000 (Sre.forSearch C x.cps 3 0 x.cps.size false) m') (hf : Found x.cps p q m') (hpq : p ≤ q) (hq : q ≤ x.cps.size)
    (h : ∀ r sp h', Fr h₀ L h' m → News h₀ L h' ((r, matObj x t sp) :: (sp, tupObj (spansOf p q x.cps.size)) :: news) → (∀ q ∈ news, q.1 < sp) → sp < r → Q (.ref r) { s with heap := h' }) :
    wpAny (model prog w) A (call (.builtin "re.Pattern.search") [.ref 43, .str x t]) Q E s :=
  search_call hP hC hcd hsz ht hf hpq hq (h _ _ _ (Fr.push (Fr.push F _) _) (News.push (Fr.push F _) (News.push F N _) _) (pushed_lt N) (by rw [Heap.size_push]; exact Nat.lt_succ_self _))
theorem groups_K {r sp : Addr} (F : Fr h₀ L s.heap m) (N : News h₀ L s.heap news) (hm : s.heap.get? r = some (matObj x t sp)) (hs : s.heap.get? sp = some (tupObj (spansOf p q x.cps.size))) (hsz : x.length ≤ 1000)
    (h : ∀ r t1 t2 t3 h' tk, Fr h₀ L h' m → News h₀ L h' ((r, tupObj [.str (sub x 0 p) t1, .str (sub x p q) t2, .str (sub x q x.cps.size) t3]) :: news) → (∀ q ∈ news, q.1 < r) → Q (.ref r) { s with heap := h', toks := tk }) :
    wpAny (model prog w) A (call (.builtin "re.Match.groups") [.ref r]) Q E s :=
  groups_call hm hs hsz (h _ _ _ _ _ _ (Fr.push F _) (News.push F N _) (pushed_lt N))
end
theorem match_call {dp un : Nat} {gd : Option (List Code)} {cn : Str} {cs : Scope} {a : Addr} {ccd : Value} {cl : List (Str × Addr)} {outer : List Env} {A₀ : Around} {base h₀ : Heap} {L : Addr} {m : Str → Option Value} {s : Shared} {Q E : Value → Shared → Prop}
    {w : World} {loose : List Str} {mean : ExcName → Option Value} {mg mb : Str → Option Value} {news : List (Addr × Obj)} {p : Str} {t : Tok} {A N' B' : List Nat}
    (B : Below A₀ base outer h₀) (F : Fr h₀ L s.heap m) (X : (hd.heap_39 w.params).In h₀) (N : News h₀ L s.heap news) (T : Top hd.view_39 loose mean mg mb h₀) (hk : cs.kind = .function) (hdp : dp + 1 < recursionLimit) (hun : un + 8 < cLine)
    (hc : Cut p A N' B')
    (hret : ∀ (x : Addr) (t1 t2 t3 : Tok) (h' : Heap) (tk' : Nat), Fr h₀ L h' m → News h₀ L h' ((x, { cls := .type "tuple", data := .seq #[.str (sl A) t1, .str (sl N') t2, .str (sl B') t3] }) :: news) → (∀ q ∈ news, q.1 < x) → Q (.ref x) { s with heap := h', toks := tk' }) :
    wpAny (model PySem.Challenge.rw_ey0010_01.row.prog w) (ktrTop dp un gd cn cs L a ccd cl outer) (call (.ref 57) [.str p t]) Q E s := by
  revert X; k_fill; intro X
  obtain ⟨m', ht, hf⟩ := hc.found
  refine wpAny_call ?_
  k_dflt cell_enter
  k_steps
  (with_reducible rename Frag.In _ _ => hX')
  (with_reducible rename Fr _ _ _ _ => hF')
  have kX3 := Frag.In.keeps hX' (Fr.keep hF')
  have hP := kX3 43 _ (by k_is)
  have hC := kX3 42 _ (by k_is)
  refine getMethod_builtin (T := "re.Pattern") ⟨_, hP, rfl⟩ plainAttrs_pat slot_search type_search (fun a e => ⟨_, (by cases e; exact hP), rfl⟩) ?_
  dsimp only
  k_steps
  refine search_K (nn := 0) (p := A.length) (q := A.length + N'.length) hF' (by assumption) hP hC (by kernel_rfl) (hc.len) ht hf (by omega) hc.le ?_
  intro r' sp' h' F' N' l1 l2
  try dsimp only
  k_steps
  (with_reducible rename News _ _ _ _ => hN2)
  (with_reducible rename Fr _ _ _ _ => hF2)
  have hM := (hN2 _ (.head _)).1
  have hS := (hN2 _ (.tail _ (.head _))).1
  refine getMethod_builtin (T := "re.Match") ⟨_, hM, rfl⟩ plainAttrs_mat slot_groups type_groups (fun a e => ⟨_, (by cases e; exact hM), rfl⟩) ?_
  dsimp only
  k_steps
  refine groups_K hF2 hN2 hM hS hc.len ?_
  rw [sub0 hc, sub1 hc, sub2 hc]
  intro r3 t1 t2 t3 h3 tk3 F3 N3 l3
  try dsimp only
  k_steps
  (with_reducible rename Fr _ _ _ _ => hF9)
  (with_reducible rename News _ _ _ _ => hN9)
  exact hret r3 t1 t2 t3 _ _ hF9 (news_drop2 hN9) (fun q hq => l3 q (.tail _ (.tail _ hq)))
end Mine
end

section
open PySem PySem.W PyProof.Rows
set_option maxHeartbeats 2000000
set_option pp.deepTerms false
set_option pp.deepTerms.threshold 8
namespace Mine
local macro_rules | `(tactic| k_room) => `(tactic| ktr_room)
theorem Cut.lenA {p : Str} {A N B : List Nat} (h : Cut p A N B) : (sl A).length ≤ 1000 := by have := h.short; show A.toArray.size ≤ 1000; simp; omega
theorem Cut.lenN {p : Str} {A N B : List Nat} (h : Cut p A N B) : (sl N).length ≤ 1000 := by have := h.short; show N.toArray.size ≤ 1000; simp; omega
theorem Cut.lenB {p : Str} {A N B : List Nat} (h : Cut p A N B) : (sl B).length ≤ 1000 := by have := h.short; show B.toArray.size ≤ 1000; simp; omega
theorem field_any {prog : Program} {w : World} {A : Around} {E : Value → Shared → Prop} {s : Shared} {x : Str} {t : Tok} {Q : Value → Shared → Prop} (h : ∀ t' k, Q (.str x t') { s with toks := k }) (hx : x.length ≤ 1000) :
    wpAny (model prog w) A (formatField (.str x t) Str.empty) Q E s :=
  wpAny_formatField_str (h _ _) (h _ _) (Nat.le_trans hx (by decide))
theorem two_of {l : List (Str × Tok)} {a b : Str} (h : l.map (·.1) = [a, b]) : ∃ t u : Tok, l = [(a, t), (b, u)] := by
  match l, h with
  | [(p, t), (q, u)], h =>
    have e1 : p = a := (List.cons.inj h).1
    have e2 : q = b := (List.cons.inj (List.cons.inj h).2).1
    subst e1 e2
    exact ⟨t, u, rfl⟩

abbrev occ (x y : Str) : List Nat := Builtin.Str.occurrences x y 0 x.length 1
/-- the two sides of a pattern: a number's, and a number's below nought -/
inductive Sides (p : Str) (A N B : List Nat) (NP NS : Str) : Prop
  | one (h : Cut p A N B) (hs : (occ p (Str.ofString ";")).isEmpty = true) (e1 : NP = Str.empty ++ Str.ofString "-" ++ sl A) (e2 : NS = sl B)
  | two {p1 p2 : Str} {A2 N2 B2 : List Nat} (hl : p.length ≤ 1000) (hs : (occ p (Str.ofString ";")).isEmpty = false) (sp : Txt.splitMax p (Str.ofString ";") 1 = [p1, p2]) (h1 : Cut p1 A N B) (h2 : Cut p2 A2 N2 B2) (e1 : NP = sl A2) (e2 : NS = sl B2)
theorem Sides.lens {p NP NS : Str} {A N B : List Nat} (h : Sides p A N B NP NS) : (sl A).length ≤ 1000 ∧ (sl B).length ≤ 1000 ∧ NP.length ≤ 2000 ∧ NS.length ≤ 1000 := by
  cases h with
  | one h hs e1 e2 =>
    subst e1 e2
    refine ⟨h.lenA, h.lenB, ?_, h.lenB⟩
    rw [Str.length_append, Str.length_append]
    have e1 : (Str.ofString "-").length = 1 := by decide
    have e2 : Str.empty.length = 0 := rfl
    have := h.lenA
    omega
  | two hl hs sp h1 h2 e1 e2 =>
    subst e1 e2
    exact ⟨h1.lenA, h1.lenB, Nat.le_trans h2.lenA (by decide), h2.lenB⟩
def Mid1 (g : Heap) (L : Addr) (s₀ : Shared) (news : List (Addr × Obj)) (p PP NP PS NS N : Str) (s' : Shared) : Prop :=
  ∃ m' h' tk t1 t2 t3 t4 t5 t6, s' = { s₀ with heap := h', toks := tk } ∧ Fr g L h' m' ∧ m' (Str.ofString "pattern") = some (.str p t1) ∧ m' (Str.ofString "pos_prefix") = some (.str PP t2) ∧ m' (Str.ofString "neg_prefix") = some (.str NP t3) ∧
    m' (Str.ofString "pos_suffix") = some (.str PS t4) ∧ m' (Str.ofString "neg_suffix") = some (.str NS t5) ∧ m' (Str.ofString "number") = some (.str N t6) ∧ News g L h' news
abbrev okS (x : Str) : Prop := ∀ c ∈ x.cps.toList, c = 48 ∨ c = 35 ∨ c = 44
inductive Expo (N NB : Str) : Option (Bool × Str) → Prop
  | none (h : (occ N (Str.ofString "E")).isEmpty = true) (e : NB = N) : Expo N NB none
  | some {XP X0 : Str} {b : Bool} (h : (occ N (Str.ofString "E")).isEmpty = false) (sp : Txt.splitMax N (Str.ofString "E") 1 = [NB, XP]) (h1 : 0 < XP.length) (h2 : XP.length ≤ 1000) (sw : Txt.startswith XP (Str.ofString "+") = b)
      (ls : Txt.lstripChars XP (Str.ofString "+") = X0) (ok : okS (Txt.lstripChars XP (Str.ofString "+"))) : Expo N NB (some (b, X0))
inductive Frac (NB I0 F0 : Str) : Prop
  | none (h : (occ NB (Str.ofString ".")).isEmpty = true) (e1 : I0 = NB) (e2 : F0 = Str.ofString "")
  | some (h : (occ NB (Str.ofString ".")).isEmpty = false) (sp : Txt.rsplitMax NB (Str.ofString ".") 1 = [I0, F0])
structure Numb (N NB I0 F0 : Str) (X : Option (Bool × Str)) : Prop where
  expo : Expo N NB X
  noAt : (occ NB (Str.ofString "@")).isEmpty = true
  frac : Frac NB I0 F0
  okI : okS I0
  okF : okS F0
  lenN : N.length ≤ 1000
  lenB : NB.length ≤ 1000
  lenI : I0.length ≤ 1000
def tupI (x : Str) (t u : Tok) : Obj := { cls := .type "tuple", data := .seq #[.int (nz x.cps.toList) t, .int (nd x.cps.toList) u] }
def EVals (X : Option (Bool × Str)) (pv ev : Value) (nx : List (Addr × Obj)) : Prop := match X with
  | none => pv = .none ∧ ev = .none ∧ nx = []
  | some (b, X0) => pv = .bool b ∧ ∃ e t u, ev = .ref e ∧ nx = [(e, tupI X0 t u)]
def Mid4 (g : Heap) (L : Addr) (s₀ : Shared) (news : List (Addr × Obj)) (p PP NP PS NS NB I0 F0 : Str) (X : Option (Bool × Str)) (s' : Shared) : Prop :=
  ∃ m' h' tk t1 t2 t3 t4 t5 t6 t7 aI aF i1 i2 f1 f2 pv ev nx, s' = { s₀ with heap := h', toks := tk } ∧ Fr g L h' m' ∧ m' (Str.ofString "pattern") = some (.str p t1) ∧ m' (Str.ofString "pos_prefix") = some (.str PP t2) ∧ m' (Str.ofString "neg_prefix") = some (.str NP t3) ∧
    m' (Str.ofString "pos_suffix") = some (.str PS t4) ∧ m' (Str.ofString "neg_suffix") = some (.str NS t5) ∧ m' (Str.ofString "number") = some (.str NB t6) ∧ m' (Str.ofString "integer") = some (.str I0 t7) ∧
    m' (Str.ofString "int_prec") = some (.ref aI) ∧ m' (Str.ofString "frac_prec") = some (.ref aF) ∧ m' (Str.ofString "exp_plus") = some pv ∧ m' (Str.ofString "exp_prec") = some ev ∧ EVals X pv ev nx ∧ News g L h' ((aF, tupI F0 f1 f2) :: (aI, tupI I0 i1 i2) :: (nx ++ news))
abbrev Mid4of {g h : Heap} {L : Addr} {m : Str → Option Value} {news : List (Addr × Obj)} (_ : Fr g L h m) (_ : News g L h news) (s₀ : Shared) (p PP NP PS NS NB I0 F0 : Str) (X : Option (Bool × Str)) : Shared → Prop := Mid4 g L s₀ news p PP NP PS NS NB I0 F0 X
def scaleOf (J : Str) : Int := if (occ J (Str.ofString "%")).isEmpty = false then 2 else if (occ J (Str.ofString "‰")).isEmpty = false then 3 else 0
abbrev Mid1of {g h : Heap} {L : Addr} {m : Str → Option Value} {news : List (Addr × Obj)} (_ : Fr g L h m) (_ : News g L h news) (s₀ : Shared) (p PP NP PS NS N : Str) : Shared → Prop := Mid1 g L s₀ news p PP NP PS NS N
theorem pp_call {dp un : Nat} {gd : Option (List Code)} {cn : Str} {cs : Scope} {a : Addr} {ccd : Value} {cl : List (Str × Addr)} {outer : List Env} {A₀ : Around} {base h₀ : Heap} {L : Addr} {m : Str → Option Value} {s : Shared} {Q E : Value → Shared → Prop}
    {w : World} {loose : List Str} {mean : ExcName → Option Value} {mg mb : Str → Option Value} {news : List (Addr × Obj)} {p NP NS NB I0 F0 : Str} {XX : Option (Bool × Str)} {t : Tok} {A N' B' : List Nat}
    (B : Below A₀ base outer h₀) (F : Fr h₀ L s.heap m) (X : (hd.heap_39 w.params).In h₀) (N : News h₀ L s.heap news) (T : Top hd.view_39 loose mean mg mb h₀) (hk : cs.kind = .function) (hdp : dp + 10 < recursionLimit) (hun : un + 100 < cLine)
    (hS : Sides p A N' B' NP NS) (hNu : Numb (sl N') NB I0 F0 XX)
    (hret : ∀ (x dx aP aS aG aF aI : Addr) (pv ev : Value) (nx : List (Addr × Obj)) (k1 k2 k3 k4 k5 k6 k7 k8 k9 k10 t1 t2 t3 t4 t5 t6 t7 g1 g2 f1 f2 i1 i2 : Tok) (h' : Heap) (tk' : Nat), Fr h₀ L h' m → EVals XX pv ev nx →
      News h₀ L h' ((x, instObj 118 dx) :: (dx, dictOf [{ hash := PyData.keyHash w.params (Str.ofString "pattern"), key := .str (Str.ofString "pattern") k1, val := .str p t1 }, { hash := PyData.keyHash w.params (Str.ofString "prefix"), key := .str (Str.ofString "prefix") k2, val := .ref aP }, { hash := PyData.keyHash w.params (Str.ofString "suffix"), key := .str (Str.ofString "suffix") k3, val := .ref aS }, { hash := PyData.keyHash w.params (Str.ofString "number_pattern"), key := .str (Str.ofString "number_pattern") k4, val := .str NB t6 }, { hash := PyData.keyHash w.params (Str.ofString "grouping"), key := .str (Str.ofString "grouping") k5, val := .ref aG }, { hash := PyData.keyHash w.params (Str.ofString "int_prec"), key := .str (Str.ofString "int_prec") k6, val := .ref aI }, { hash := PyData.keyHash w.params (Str.ofString "frac_prec"), key := .str (Str.ofString "frac_prec") k7, val := .ref aF }, { hash := PyData.keyHash w.params (Str.ofString "exp_prec"), key := .str (Str.ofString "exp_prec") k8, val := ev }, { hash := PyData.keyHash w.params (Str.ofString "exp_plus"), key := .str (Str.ofString "exp_plus") k9, val := pv }, { hash := PyData.keyHash w.params (Str.ofString "scale"), key := .str (Str.ofString "scale") k10, val := .int (scaleOf (Txt.join (Str.ofString "") [sl A, NP, sl B', NS])) t7 }] 10) ::
        (aS, { cls := .type "tuple", data := .seq #[.str (sl B') t4, .str NS t5] }) :: (aP, { cls := .type "tuple", data := .seq #[.str (sl A) t2, .str NP t3] }) :: (aG, { cls := .type "tuple", data := .seq #[.int (grp I0).1 g1, .int (grp I0).2 g2] }) ::
        (aF, tupI F0 f1 f2) :: (aI, tupI I0 i1 i2) :: (nx ++ news)) → Q (.ref x) { s with heap := h', toks := tk' }) :
    wpAny (model PySem.Challenge.rw_ey0010_01.row.prog w) (ktrTop dp un gd cn cs L a ccd cl outer) (call (.ref 71) [.str p t]) Q E s := by
  revert X; k_fill; intro X
  refine wpAny_call ?_
  k_dflt cell_enter
  have hMk := kstMark
  k_with "formatField str" => (refine field_any ?_ (by omega); intro t9 tk9)
  k_with "call ref" => first
    | (with_unfolding_all refine' match_call ?k1 ?k2 ?k3 ?k4 ?k5 ?kK ?kd ?ku ?kc ?_; (case k1 => k_asm); (case k2 => k_asm); (case k3 => k_asm); (case k4 => k_asm); (case k5 => k_asm); (case kK => first | exact rfl | assumption); (case kd => ktr_room); (case ku => ktr_units); (case kc => assumption); intro r9 t9 u9 v9 h9 tk9 F9 N9 l9; (try dsimp only))
    | (with_unfolding_all refine' prec_call ?k1 ?k2 ?k3 ?k4 ?k5 ?kK ?kd ?ku ?kc ?_; (case k1 => k_asm); (case k2 => k_asm); (case k3 => k_asm); (case k4 => k_asm); (case k5 => k_asm); (case kK => first | exact rfl | assumption); (case kd => ktr_room); (case ku => ktr_units); (case kc => assumption); intro r9 t9 u9 h9 tk9 F9 N9 l9; (try dsimp only))
    | (with_unfolding_all refine' group_call ?k1 ?k2 ?k3 ?k4 ?k5 ?kK ?kd ?ku ?kc ?_; (case k1 => k_asm); (case k2 => k_asm); (case k3 => k_asm); (case k4 => k_asm); (case k5 => k_asm); (case kK => first | exact rfl | assumption); (case kd => ktr_room); (case ku => ktr_units); (case kc => assumption); intro r9 t9 u9 h9 tk9 F9 N9 l9; (try dsimp only))
  (with_reducible rename Fr _ _ _ _ => hF1)
  (with_reducible rename News _ _ _ _ => hN1)
  refine cut_at 3 (Mid1of hF1 hN1 s p (sl A) NP (sl B') NS (sl N')) ?head ?tail
  case head =>
    simp only [List.take_succ_cons, List.take_zero]
    cases hS with
    | one hc hs e1 e2 =>
      subst e1 e2
      have hlA := hc.lenA
      k_steps
      (with_reducible rename Fr _ _ _ _ => hF2)
      (with_reducible rename News _ _ _ _ => hN2)
      exact ⟨_, _, _, _, _, _, _, _, _, rfl, hF2, rfl, rfl, rfl, rfl, rfl, rfl, news_of hN2 (by intro q hq; repeat (first | exact hq | apply List.mem_cons_of_mem))⟩
    | two hl hs sp h1 h2 e1 e2 =>
      subst e1 e2
      k_with "call builtin:str.split" => (refine' splitN2A ?F ?N ?hy ?hk ?_ ?hsz; (case F => assumption); (case N => assumption); (case hy => decide); (case hk => decide); (case hsz => (simp only [sizeLine_eq]; omega)); intro l9 h9 tk9 e9 sa9 le9 li9 F9 N9; rw [sp] at e9; obtain ⟨t8, u8, rfl⟩ := two_of e9; clear e9 sa9 le9 li9; (try simp only [strValues, List.map_cons, List.map_nil] at N9))
      k_steps
      (with_reducible rename Fr _ _ _ _ => hF2)
      (with_reducible rename News _ _ _ _ => hN2)
      exact ⟨_, _, _, _, _, _, _, _, _, rfl, hF2, rfl, rfl, rfl, rfl, rfl, rfl, news_of hN2 (by intro q hq; repeat (first | exact hq | apply List.mem_cons_of_mem))⟩
  case tail =>
    rintro s' ⟨m1, h1, tk1, t1, t2, t3, t4, t5, t6, rfl, hF3, e1, e2, e3, e4, e5, e6, hN3⟩
    have hF4 := Fr.overs hF3 [(Str.ofString "pattern", _), (Str.ofString "pos_prefix", _), (Str.ofString "neg_prefix", _), (Str.ofString "pos_suffix", _), (Str.ofString "neg_suffix", _), (Str.ofString "number", _)] (by
      (repeat (refine List.forall_mem_cons.mpr ⟨by assumption, ?_⟩)); exact List.forall_mem_nil _)
    simp only [List.foldr_cons, List.foldr_nil] at hF4
    obtain ⟨hl1, hl2, hl3, hl4⟩ := hS.lens
    clear hF3 e1 e2 e3 e4 e5 e6 hF1 hN1 hS
    have hlN := hNu.lenN
    have hlB := hNu.lenB
    have hlI := hNu.lenI
    have hnA := hNu.noAt
    have okI := hNu.okI
    have okF := hNu.okF
    refine cut_at 6 (Mid4of hF4 hN3 s p (sl A) NP (sl B') NS NB I0 F0 XX) ?head ?tail
    case head =>
      simp only [List.take_succ_cons, List.take_zero, List.drop_succ_cons, List.drop_zero]
      cases hNu.expo with
      | none hE eE =>
        cases hNu.frac with
        | none hD e1 e2 =>
          clear hNu
          subst eE
          subst e1 e2
          k_steps
          (with_reducible rename Fr _ _ _ _ => hF6)
          (with_reducible rename News _ _ _ _ => hN6)
          refine ⟨_, _, _, _, _, _, _, _, _, _, _, _, _, _, _, _, _, _, _, rfl, hF6, rfl, rfl, rfl, rfl, rfl, rfl, rfl, rfl, rfl, rfl, rfl, ⟨rfl, rfl, rfl⟩, news_of hN6 (List.forall_mem_cons.mpr ⟨by k_mem, List.forall_mem_cons.mpr ⟨by k_mem, ?_⟩⟩)⟩
          intro q hq; repeat (first | exact hq | apply List.mem_cons_of_mem)
        | some hD sp =>
          clear hNu
          subst eE
          k_with "call builtin:str.rsplit" => (refine' rsplitN2A ?F ?N ?hy ?hk ?_ ?hsz; (case F => assumption); (case N => assumption); (case hy => decide); (case hk => decide); (case hsz => (simp only [sizeLine_eq]; omega)); intro l9 h9 tk9 e9 sa9 le9 li9 F9 N9; rw [sp] at e9; obtain ⟨t8, u8, rfl⟩ := two_of e9; clear e9 sa9 le9 li9; (try simp only [strValues, List.map_cons, List.map_nil] at N9))
          k_steps
          (with_reducible rename Fr _ _ _ _ => hF6)
          (with_reducible rename News _ _ _ _ => hN6)
          refine ⟨_, _, _, _, _, _, _, _, _, _, _, _, _, _, _, _, _, _, _, rfl, hF6, rfl, rfl, rfl, rfl, rfl, rfl, rfl, rfl, rfl, rfl, rfl, ⟨rfl, rfl, rfl⟩, news_of hN6 (List.forall_mem_cons.mpr ⟨by k_mem, List.forall_mem_cons.mpr ⟨by k_mem, ?_⟩⟩)⟩
          intro q hq; repeat (first | exact hq | apply List.mem_cons_of_mem)
      | @some XP X0 b hE spE h1 h2 sw ls ok =>
        have h1' : ((XP.length : Nat) : Int) ≠ 0 := by omega
        subst sw ls
        k_with "call builtin:str.split" => (refine' splitN2A ?F ?N ?hy ?hk ?_ ?hsz; (case F => assumption); (case N => assumption); (case hy => decide); (case hk => decide); (case hsz => (simp only [sizeLine_eq]; omega)); intro l9 h9 tk9 e9 sa9 le9 li9 F9 N9; rw [spE] at e9; obtain ⟨t8, u8, rfl⟩ := two_of e9; clear e9 sa9 le9 li9; (try simp only [strValues, List.map_cons, List.map_nil] at N9))
        cases hNu.frac with
        | none hD e1 e2 =>
          clear hNu
          subst e1 e2
          k_steps
          · (with_reducible rename Fr _ _ _ _ => hF6)
            (with_reducible rename News _ _ _ _ => hN6)
            refine ⟨_, _, _, _, _, _, _, _, _, _, _, _, _, _, _, _, _, _, _, rfl, hF6, rfl, rfl, rfl, rfl, rfl, rfl, rfl, rfl, rfl, rfl, rfl, ⟨rfl, _, _, _, rfl, rfl⟩, news_of hN6 (List.forall_mem_cons.mpr ⟨by k_mem, List.forall_mem_cons.mpr ⟨by k_mem, List.forall_mem_cons.mpr ⟨by k_mem, ?_⟩⟩⟩)⟩
            intro q hq; repeat (first | exact hq | apply List.mem_cons_of_mem)
          · exfalso; omega
        | some hD sp =>
          clear hNu
          k_with "call builtin:str.rsplit" => (refine' rsplitN2A ?F ?N ?hy ?hk ?_ ?hsz; (case F => assumption); (case N => assumption); (case hy => decide); (case hk => decide); (case hsz => (simp only [sizeLine_eq]; omega)); intro l9 h9 tk9 e9 sa9 le9 li9 F9 N9; rw [sp] at e9; obtain ⟨t8, u8, rfl⟩ := two_of e9; clear e9 sa9 le9 li9; (try simp only [strValues, List.map_cons, List.map_nil] at N9))
          k_steps
          · (with_reducible rename Fr _ _ _ _ => hF6)
            (with_reducible rename News _ _ _ _ => hN6)
            refine ⟨_, _, _, _, _, _, _, _, _, _, _, _, _, _, _, _, _, _, _, rfl, hF6, rfl, rfl, rfl, rfl, rfl, rfl, rfl, rfl, rfl, rfl, rfl, ⟨rfl, _, _, _, rfl, rfl⟩, news_of hN6 (List.forall_mem_cons.mpr ⟨by k_mem, List.forall_mem_cons.mpr ⟨by k_mem, List.forall_mem_cons.mpr ⟨by k_mem, ?_⟩⟩⟩)⟩
            intro q hq; repeat (first | exact hq | apply List.mem_cons_of_mem)
          · exfalso; omega
    case tail =>
      rintro s' ⟨m2, h2, tk2, t1, t2, t3, t4, t5, t6, t7, aI, aF, i1, i2, f1, f2, pv, ev, nx, rfl, hF7, e1, e2, e3, e4, e5, e6, e7, e8, e9, e10, e11, hEV, hN7⟩
      have hF8 := Fr.overs hF7 [(Str.ofString "pattern", _), (Str.ofString "pos_prefix", _), (Str.ofString "neg_prefix", _), (Str.ofString "pos_suffix", _), (Str.ofString "neg_suffix", _), (Str.ofString "number", _), (Str.ofString "integer", _), (Str.ofString "int_prec", _), (Str.ofString "frac_prec", _), (Str.ofString "exp_plus", _), (Str.ofString "exp_prec", _)] (by
        (repeat (refine List.forall_mem_cons.mpr ⟨by assumption, ?_⟩)); exact List.forall_mem_nil _)
      simp only [List.foldr_cons, List.foldr_nil] at hF8
      clear hF7 e1 e2 e3 e4 e5 e6 e7 e8 e9 e10 e11 hF4 hN3 okI okF hnA hNu
      k_with "call builtin:str.join" => (refine' join_tupleC ?hl ?si ?hs ?sz ?_; (case hl => exact News.isTup (by assumption) (.head _)); (case si => (repeat constructor)); (case hs => decide); (case sz => (simp only [List.map_cons, List.map_nil, List.sum_cons, List.sum_nil, List.length_cons, List.length_nil]; omega)); intro t9 tk9; (try dsimp only))
      simp only [List.drop_succ_cons, List.drop_zero]
      k_steps
      · have eS : scaleOf (Txt.join (Str.ofString "") [sl A, NP, sl B', NS]) = 0 := by unfold scaleOf; rw [if_neg (by rw [‹(occ _ (Str.ofString "%")).isEmpty = true›]; decide), if_neg (by rw [‹(occ _ (Str.ofString "‰")).isEmpty = true›]; decide)]
        rw [eS] at hret
        (with_reducible rename Fr _ _ _ _ => hF9)
        (with_reducible rename News _ _ _ _ => hN9)
        refine hret _ _ _ _ _ _ _ pv ev nx _ _ _ _ _ _ _ _ _ _ _ _ _ _ _ _ _ _ _ _ _ _ _ _ _ hF9 hEV (news_of hN9 (List.forall_mem_cons.mpr ⟨by k_mem, List.forall_mem_cons.mpr ⟨by k_mem, List.forall_mem_cons.mpr ⟨by k_mem, List.forall_mem_cons.mpr ⟨by k_mem, List.forall_mem_cons.mpr ⟨by k_mem, List.forall_mem_cons.mpr ⟨by k_mem, List.forall_mem_cons.mpr ⟨by k_mem, ?_⟩⟩⟩⟩⟩⟩⟩))
        intro q hq; repeat (first | exact hq | apply List.mem_cons_of_mem)
      · have eS : scaleOf (Txt.join (Str.ofString "") [sl A, NP, sl B', NS]) = 3 := by unfold scaleOf; rw [if_neg (by rw [‹(occ _ (Str.ofString "%")).isEmpty = true›]; decide), if_pos (by assumption)]
        rw [eS] at hret
        (with_reducible rename Fr _ _ _ _ => hF9)
        (with_reducible rename News _ _ _ _ => hN9)
        refine hret _ _ _ _ _ _ _ pv ev nx _ _ _ _ _ _ _ _ _ _ _ _ _ _ _ _ _ _ _ _ _ _ _ _ _ hF9 hEV (news_of hN9 (List.forall_mem_cons.mpr ⟨by k_mem, List.forall_mem_cons.mpr ⟨by k_mem, List.forall_mem_cons.mpr ⟨by k_mem, List.forall_mem_cons.mpr ⟨by k_mem, List.forall_mem_cons.mpr ⟨by k_mem, List.forall_mem_cons.mpr ⟨by k_mem, List.forall_mem_cons.mpr ⟨by k_mem, ?_⟩⟩⟩⟩⟩⟩⟩))
        intro q hq; repeat (first | exact hq | apply List.mem_cons_of_mem)
      · have eS : scaleOf (Txt.join (Str.ofString "") [sl A, NP, sl B', NS]) = 2 := by unfold scaleOf; rw [if_pos (by assumption)]
        rw [eS] at hret
        (with_reducible rename Fr _ _ _ _ => hF9)
        (with_reducible rename News _ _ _ _ => hN9)
        refine hret _ _ _ _ _ _ _ pv ev nx _ _ _ _ _ _ _ _ _ _ _ _ _ _ _ _ _ _ _ _ _ _ _ _ _ hF9 hEV (news_of hN9 (List.forall_mem_cons.mpr ⟨by k_mem, List.forall_mem_cons.mpr ⟨by k_mem, List.forall_mem_cons.mpr ⟨by k_mem, List.forall_mem_cons.mpr ⟨by k_mem, List.forall_mem_cons.mpr ⟨by k_mem, List.forall_mem_cons.mpr ⟨by k_mem, List.forall_mem_cons.mpr ⟨by k_mem, ?_⟩⟩⟩⟩⟩⟩⟩))
        intro q hq; repeat (first | exact hq | apply List.mem_cons_of_mem)
end Mine
end

section
open PySem PySem.W PyProof.Rows
set_option maxHeartbeats 1000000
set_option pp.deepTerms false
set_option pp.deepTerms.threshold 8
namespace Mine
local macro_rules | `(tactic| k_room) => `(tactic| ktr_room)
local macro_rules | `(tactic| walk_at "binaryOp Mult str int") => `(tactic| k_extra "binaryOp Mult str int")
local macro_rules | `(tactic| walk_at "binaryOp Add str str") => `(tactic| k_extra "binaryOp Add str str")
theorem reps_fold (c : Nat) : ∀ (k : Nat) (a : Array Nat), (List.replicate k #[c]).foldl (· ++ ·) a = a ++ (List.replicate k c).toArray
  | 0, a => by simp
  | k + 1, a => by
    rw [List.replicate_succ, List.foldl_cons, reps_fold c k]
    apply Array.toList_inj.mp
    simp [List.replicate_succ]
theorem mul_rep (c k : Nat) : Txt.mul (sl [c]) (k : Int) = sl (List.replicate k c) := by
  unfold Txt.mul
  by_cases h1 : (k : Int) < 1
  · rw [if_pos h1]
    have : k = 0 := by omega
    subst this
    rfl
  · rw [if_neg h1]
    split
    · rename_i h2
      have h3 : k = 1 := by
        rcases Bool.or_eq_true_iff.mp h2 with h | h
        · have := beq_iff_eq.mp h; omega
        · exact absurd h (by show ¬ ((1 : Nat) == 0) = true; decide)
      subst h3
      rfl
    · rw [Int.toNat_natCast]
      show Str.mk ((List.replicate k #[c]).foldl (· ++ ·) #[]) = _
      rw [reps_fold]
      simp [sl]
theorem mul_step {prog : Program} {w : World} {A : Around} {E : Value → Shared → Prop} {s : Shared} {x : Str} {t u : Tok} {Q : Value → Shared → Prop} {n : Int} {c : Nat} (j : Nat) (hx : x = sl [c]) (hj : n = (j : Int)) (h9 : j ≤ 1000)
    (h : ∀ t' k, Q (.str (sl (List.replicate j c)) t') { s with toks := k }) : wpAny (model prog w) A (binaryOp .Mult (.str x t) (.int n u)) Q E s := by
  subst hx hj
  rw [← mul_rep] at h
  exact SB.mul (mulOk_of 1 1000 (Nat.le_refl 1) (by omega) (by omega) (by decide) (by decide)) h
theorem fmod_nat (n k : Nat) : Int.fmod (n : Int) (k : Int) = ((n % k : Nat) : Int) := by
  rw [Int.fmod_eq_emod_of_nonneg _ (by omega)]; rfl
theorem fdiv_nat (n k : Nat) : Int.fdiv (n : Int) (k : Int) = ((n / k : Nat) : Int) := by
  rw [Int.fdiv_eq_ediv_of_nonneg _ (by omega)]; rfl
theorem add_step {prog : Program} {w : World} {A : Around} {E : Value → Shared → Prop} {s : Shared} {x y : Str} {t u : Tok} {Q : Value → Shared → Prop} (hl : x.length + y.length ≤ 10000)
    (h : ∀ t' k, Q (.str (x ++ y) t') { s with toks := k }) : wpAny (model prog w) A (binaryOp .Add (.str x t) (.str y u)) Q E s := by
  exact SB.add h (Nat.le_trans hl (by decide))
def partF (n k : Nat) : List Nat := List.replicate (n % (k + 1)) 48 ++ List.replicate (n / (k + 1) % 3) 35
theorem add_sl {prog : Program} {w : World} {A : Around} {E : Value → Shared → Prop} {s : Shared} {a b : List Nat} {t u : Tok} {Q : Value → Shared → Prop} (hl : a.length + b.length ≤ 10000)
    (h : ∀ t' k, Q (.str (sl (a ++ b)) t') { s with toks := k }) : wpAny (model prog w) A (binaryOp .Add (.str (sl a) t) (.str (sl b) u)) Q E s := by
  rw [← sl_append] at h
  exact add_step (by rw [sl_length, sl_length]; exact hl) h
def cellF (ns : List Int) (i : Nat) : Nat := if i < ns.length then (ns.getD i 0).natAbs else 7 * i + 3
theorem cell_call {dp un : Nat} {gd : Option (List Code)} {cn : Str} {cs : Scope} {a : Addr} {ccd : Value} {cl : List (Str × Addr)} {outer : List Env} {A₀ : Around} {base h₀ : Heap} {L : Addr} {m : Str → Option Value} {s : Shared} {Q E : Value → Shared → Prop}
    {w : World} {loose : List Str} {mean : ExcName → Option Value} {mg mb : Str → Option Value} {news : List (Addr × Obj)} {l : Addr} {vs : List Value} {ns : List Int} {i : Nat} {t : Tok}
    (B : Below A₀ base outer h₀) (F : Fr h₀ L s.heap m) (X : (hd.heap_39 w.params).In h₀) (N : News h₀ L s.heap news) (T : Top hd.view_39 loose mean mg mb h₀) (hk : cs.kind = .function) (hdp : dp + 1 < recursionLimit) (hun : un + 8 < cLine)
    (hl : base.IsList l vs.toArray) (hi : IntsAre vs ns) (hf : ns.length < 2 ^ 62) (hi9 : i ≤ 9)
    (hret : ∀ (t' : Tok) (h' : Heap) (tk' : Nat), Fr h₀ L h' m → News h₀ L h' news → Q (.int (cellF ns i : Nat) t') { s with heap := h', toks := tk' }) :
    wpAny (model PySem.Challenge.rw_ey0010_01.row.prog w) (ktrTop dp un gd cn cs L a ccd cl outer) (call (.ref 129) [.ref l, .int (i : Nat) t]) Q E s := by
  revert X; k_fill; intro X
  refine wpAny_call ?_
  k_dflt cell_enter
  k_steps
  · rename _ = _ => e9
    have e : (cellF ns i : Int) = if ns.getD (i : Int).toNat 0 < 0 then -ns.getD (i : Int).toNat 0 else ns.getD (i : Int).toNat 0 := by
      unfold cellF
      rw [if_pos (by omega), Int.toNat_natCast]
      split <;> omega
    rw [e] at hret
    exact hret _ _ _ (by assumption) (by assumption)
  · have e : (cellF ns i : Int) = 7 * (i : Int) + 3 := by
      unfold cellF
      rw [if_neg (by omega)]
      push_cast; rfl
    rw [e] at hret
    exact hret _ _ _ (by assumption) (by assumption)
theorem part_call {dp un : Nat} {gd : Option (List Code)} {cn : Str} {cs : Scope} {a : Addr} {ccd : Value} {cl : List (Str × Addr)} {outer : List Env} {A₀ : Around} {base h₀ : Heap} {L : Addr} {m : Str → Option Value} {s : Shared} {Q E : Value → Shared → Prop}
    {w : World} {loose : List Str} {mean : ExcName → Option Value} {mg mb : Str → Option Value} {news : List (Addr × Obj)} {n k : Nat} {t u : Tok}
    (B : Below A₀ base outer h₀) (F : Fr h₀ L s.heap m) (X : (hd.heap_39 w.params).In h₀) (N : News h₀ L s.heap news) (T : Top hd.view_39 loose mean mg mb h₀) (hk : cs.kind = .function) (hdp : dp + 1 < recursionLimit) (hun : un + 8 < cLine)
    (hk3 : k ≤ 3)
    (hret : ∀ (t' : Tok) (h' : Heap) (tk' : Nat), Fr h₀ L h' m → News h₀ L h' news → Q (.str (sl (partF n k)) t') { s with heap := h', toks := tk' }) :
    wpAny (model PySem.Challenge.rw_ey0010_01.row.prog w) (ktrTop dp un gd cn cs L a ccd cl outer) (call (.ref 141) [.int (n : Nat) t, .int (k : Nat) u]) Q E s := by
  revert X; k_fill; intro X
  refine wpAny_call ?_
  k_dflt cell_enter
  have hm : n % (k + 1) < k + 1 := Nat.mod_lt _ (by omega)
  have hm2 : n / (k + 1) % 3 < 3 := Nat.mod_lt _ (by omega)
  k_with "binaryOp Mult str int" => first
    | k_dflt (refine mul_step (c := 48) (n % (k + 1)) (by decide +kernel) (fmod_nat n (k + 1)) (by omega) ?_; intro t9 tk9)
    | k_dflt (refine mul_step (c := 35) (n / (k + 1) % 3) (by decide +kernel) (by rw [show ((k : Int) + 1) = ((k + 1 : Nat) : Int) from rfl, fdiv_nat]; exact fmod_nat _ 3) (Nat.le_trans (Nat.le_of_lt hm2) (by decide)) ?_; intro t9 tk9)
  k_with "binaryOp Add str str" => (refine add_sl (by simp only [List.length_replicate]; omega) ?_; intro t9 tk9)
  k_steps
  exact hret _ _ _ (by assumption) (by assumption)
end Mine
end

section
open PySem PySem.W PyProof.Rows PySem.Builtin.Str
namespace Mine
theorem slice_idx (x : Str) {l u : Option Int} {a b : Nat} (hab : a ≤ b) (hb : b ≤ x.length) (e : strSliceIndices l u 1 x.length = strSliceIndices (some (a : Int)) (some (b : Int)) 1 x.length) :
    Txt.slice x l u = sl ((x.cps.toList.drop a).take (b - a)) := by
  unfold Txt.slice
  rw [e]
  have hl : (strSliceIndices (some (a : Int)) (some (b : Int)) 1 x.length).length = b - a := by rw [StrLaws.strSliceIndices_plain hab hb]; simp
  split
  · rename_i h
    have h2 : (strSliceIndices (some (a : Int)) (some (b : Int)) 1 x.length).length = x.length := by simpa using h
    rw [hl] at h2
    have ha : a = 0 := by omega
    have hb' : b = x.length := by omega
    subst ha hb'
    refine Str.ext' ?_
    show x.cps = _
    have : x.cps.toList.length = x.length := rfl
    simp only [List.drop_zero, Nat.sub_zero, sl]
    rw [List.take_of_length_le (by rw [this]; exact Nat.le_refl _)]
  · rw [StrLaws.sliced_plain x hab hb]; rfl
theorem slice_from (l : List Nat) {i : Int} {j : Nat} (e : i = (j : Int)) (hj : j ≤ l.length) : Txt.slice (sl l) (some i) none = sl (l.drop j) := by
  subst e
  have hl : (sl l).length = l.length := sl_length l
  rw [slice_idx (sl l) (l := some (j : Int)) (u := none) (a := j) (b := (sl l).length) (by rw [hl]; exact hj) (Nat.le_refl _) (StrLaws.sliceIdx_none_hi _ _)]
  show sl ((l.drop j).take _) = _
  rw [List.take_of_length_le (by rw [List.length_drop, hl]; exact Nat.le_refl _)]
theorem slice_to (l : List Nat) {i : Int} {j : Nat} (e : i = (j : Int)) (hj : j ≤ l.length) : Txt.slice (sl l) none (some i) = sl (l.take j) := by
  subst e
  have hl : (sl l).length = l.length := sl_length l
  rw [slice_idx (sl l) (l := none) (u := some (j : Int)) (a := 0) (b := j) (Nat.zero_le _) (by rw [hl]; exact hj) (StrLaws.sliceIdx_none_lo _ _)]
  rfl
theorem slice_to_neg (l : List Nat) {i : Int} {j : Nat} (e : i + (l.length : Int) = (j : Int)) (hi : i < 0) : Txt.slice (sl l) none (some i) = sl (l.take j) := by
  have hl : (sl l).length = l.length := sl_length l
  have e2 : strSliceIndices none (some i) 1 (sl l).length = strSliceIndices none (some (j : Int)) 1 (sl l).length := by
    rw [StrLaws.sliceIdx_neg_hi none (sl l).length hi (by rw [hl]; omega), hl, e]
  have hj : j ≤ l.length := by omega
  rw [slice_idx (sl l) (l := none) (u := some i) (a := 0) (b := j) (Nat.zero_le _) (by rw [hl]; exact hj) (e2.trans (StrLaws.sliceIdx_none_lo _ _))]
  rfl
end Mine
end

section
open PySem PySem.W PyProof.Rows
set_option maxHeartbeats 4000000
set_option pp.deepTerms false
set_option pp.deepTerms.threshold 8
namespace Mine
local macro_rules | `(tactic| k_room) => `(tactic| ktr_room)
local macro_rules | `(tactic| walk_at "binaryOp Mult str int") => `(tactic| k_extra "binaryOp Mult str int")
local macro_rules | `(tactic| walk_at "binaryOp Add str str") => `(tactic| k_extra "binaryOp Add str str")
def zs (c : Nat) : List Nat := (List.range (1 + c % 4)).map fun i => 1 + c / (i + 1) % 4
def zI (c : Nat) : List Int := (zs c).map fun (n : Nat) => (n : Int)
theorem sizes_eq (c : Nat) : List.map (fun k' => 1 + ((c : Int).fdiv (k' + 1)).fmod 4) (rangeKs 0 (1 + (c : Int).fmod 4 - 0).toNat) = zI c := by
  unfold zI zs rangeKs
  rw [List.map_map, List.map_map]
  have e : (1 + (c : Int).fmod 4 - 0).toNat = 1 + c % 4 := by
    rw [show (4 : Int) = ((4 : Nat) : Int) from rfl, fmod_nat]; omega
  rw [e]
  refine List.map_congr_left fun i _ => ?_
  show 1 + ((c : Int).fdiv (0 + (i : Int) + 1)).fmod 4 = ((1 + c / (i + 1) % 4 : Nat) : Int)
  rw [show (0 + (i : Int) + 1) = ((i + 1 : Nat) : Int) by omega, fdiv_nat, show (4 : Int) = ((4 : Nat) : Int) from rfl, fmod_nat]
  omega
theorem zI_sum (c : Nat) : (zI c).sum = (((zs c).sum : Nat) : Int) := by
  unfold zI
  induction zs c with
  | nil => rfl
  | cons a l ih => rw [List.map_cons, List.sum_cons, List.sum_cons, ih]; omega
theorem zs_len (c : Nat) : (zs c).length = 1 + c % 4 := by simp [zs]
theorem zs_le (c : Nat) : ∀ z ∈ zs c, 1 ≤ z ∧ z ≤ 4 := by
  intro z hz
  obtain ⟨i, _, rfl⟩ := List.mem_map.mp hz
  omega
theorem sum_le_of (l : List Nat) (h : ∀ z ∈ l, 1 ≤ z ∧ z ≤ 4) : l.sum ≤ 4 * l.length := by
  induction l with
  | nil => simp
  | cons a l ih =>
    have := h a (.head _)
    have := ih fun z hz => h z (.tail _ hz)
    simp only [List.sum_cons, List.length_cons]; omega
theorem zs_sum (c : Nat) : (zs c).sum ≤ 16 := by
  have := sum_le_of (zs c) (zs_le c)
  have := zs_len c
  omega
def signsF (many no : Nat) : List Nat := List.replicate (many - no) 35 ++ List.replicate no 48
def stepF (st : List Nat × List Nat) (z : Int) : List Nat × List Nat := (44 :: (st.2.drop (st.2.length - z.toNat)) ++ st.1, st.2.take (st.2.length - z.toNat))
def foldF (sg : List Nat) (pre : List Int) : List Nat × List Nat := pre.foldl stepF ([], sg)
theorem foldF_snoc (sg : List Nat) (pre : List Int) (n : Int) : foldF sg (pre ++ [n]) = stepF (foldF sg pre) n := by unfold foldF; rw [List.foldl_append]; rfl
theorem fold_lens : ∀ (pre : List Int) (st : List Nat × List Nat), (∀ z ∈ pre, 0 ≤ z) → pre.sum ≤ (st.2.length : Int) →
    (((pre.foldl stepF st).2.length : Nat) : Int) = (st.2.length : Int) - pre.sum ∧ (((pre.foldl stepF st).1.length : Nat) : Int) = (st.1.length : Int) + pre.sum + (pre.length : Int) ∧ 0 ≤ pre.sum
  | [], st, _, _ => by simp
  | z :: pre, st, h, hs => by
    have hz := h z (.head _)
    have hp : 0 ≤ pre.sum := by
      have : ∀ l : List Int, (∀ z ∈ l, 0 ≤ z) → 0 ≤ l.sum := fun l hl => by
        induction l with
        | nil => simp
        | cons a l ih => have := hl a (.head _); have := ih fun z hz => hl z (.tail _ hz); simp only [List.sum_cons]; omega
      exact this pre fun z hz => h z (.tail _ hz)
    simp only [List.sum_cons] at hs
    have e2 : (stepF st z).2.length = st.2.length - z.toNat := by simp only [stepF, List.length_take]; omega
    have e1 : (stepF st z).1.length = st.1.length + z.toNat + 1 := by simp only [stepF, List.length_append, List.length_cons, List.length_drop]; omega
    obtain ⟨i1, i2, i3⟩ := fold_lens pre (stepF st z) (fun z hz => h z (.tail _ hz)) (by rw [e2]; omega)
    rw [List.foldl_cons, i1, i2, e1, e2]
    simp only [List.sum_cons, List.length_cons]
    omega
theorem zI_pos (c : Nat) : ∀ z ∈ zI c, 1 ≤ z ∧ z ≤ 4 := by
  intro z hz
  obtain ⟨n, hn, rfl⟩ := List.mem_map.mp hz
  have := zs_le c n hn
  omega
theorem sum_pos : ∀ l : List Int, (∀ z ∈ l, 1 ≤ z ∧ z ≤ 4) → (l.length : Int) ≤ l.sum
  | [], _ => by simp
  | a :: l, h => by have := h a (.head _); have := sum_pos l fun z hz => h z (.tail _ hz); simp only [List.sum_cons, List.length_cons]; omega
theorem signs_len {m no : Nat} (h : no ≤ m) : (signsF m no).length = m := by simp [signsF]; omega
theorem turn {c no : Nat} {pre post : List Int} {n : Int} (hno : no ≤ (zs c).sum) (e : List.take ((zI c).length - 1) (zI c) = pre ++ n :: post) :
    0 ≤ n ∧ n.toNat ≤ (foldF (signsF (zs c).sum no) pre).2.length ∧ (foldF (signsF (zs c).sum no) pre).1.length + (foldF (signsF (zs c).sum no) pre).2.length ≤ 100 := by
  have e2 := List.take_append_drop ((zI c).length - 1) (zI c)
  rw [e] at e2
  generalize hd : List.drop ((zI c).length - 1) (zI c) = rest at e2
  rw [List.append_assoc, List.cons_append] at e2
  have e2 := e2.symm
  have hp := zI_pos c
  have hs := zI_sum c
  have hl : (zI c).length = 1 + c % 4 := by unfold zI; rw [List.length_map, zs_len]
  rw [e2] at hp hs hl
  have h1 : ∀ z ∈ pre, 1 ≤ z ∧ z ≤ 4 := fun z hz => hp z (List.mem_append_left _ hz)
  have h2 : 1 ≤ n ∧ n ≤ 4 := hp n (by simp)
  have h3 : ∀ z ∈ post ++ rest, 1 ≤ z ∧ z ≤ 4 := fun z hz => hp z (List.mem_append_right _ (.tail _ hz))
  have s1 := sum_pos pre h1
  have s3 := sum_pos (post ++ rest) h3
  simp only [List.sum_append, List.sum_cons, List.length_append, List.length_cons] at hs hl s3
  have hm := zs_sum c
  obtain ⟨i1, i2, i3⟩ := fold_lens pre ([], signsF (zs c).sum no) (fun z hz => by have := h1 z hz; omega) (by rw [signs_len hno]; omega)
  rw [signs_len hno] at i1
  unfold foldF
  simp only [List.length_nil] at i2
  refine ⟨by omega, by omega, by omega⟩
theorem turn_end {c no : Nat} (hno : no ≤ (zs c).sum) :
    (foldF (signsF (zs c).sum no) (List.take ((zI c).length - 1) (zI c))).2.length + (foldF (signsF (zs c).sum no) (List.take ((zI c).length - 1) (zI c))).1.length ≤ 100 := by
  have e2 := List.take_append_drop ((zI c).length - 1) (zI c)
  generalize hd : List.drop ((zI c).length - 1) (zI c) = rest at e2
  generalize List.take ((zI c).length - 1) (zI c) = pre at e2
  have hp := zI_pos c
  have hs := zI_sum c
  have hl : (zI c).length = 1 + c % 4 := by unfold zI; rw [List.length_map, zs_len]
  rw [← e2] at hp hs hl
  have h1 : ∀ z ∈ pre, 1 ≤ z ∧ z ≤ 4 := fun z hz => hp z (List.mem_append_left _ hz)
  have h3 : ∀ z ∈ rest, 1 ≤ z ∧ z ≤ 4 := fun z hz => hp z (List.mem_append_right _ hz)
  have s1 := sum_pos pre h1
  have s3 := sum_pos rest h3
  simp only [List.sum_append, List.length_append] at hs hl
  have hm := zs_sum c
  obtain ⟨i1, i2, i3⟩ := fold_lens pre ([], signsF (zs c).sum no) (fun z hz => by have := h1 z hz; omega) (by rw [signs_len hno]; omega)
  rw [signs_len hno] at i1
  unfold foldF
  simp only [List.length_nil] at i2
  omega
theorem len_of {a : List Nat} {b n : Nat} (h : b + a.length ≤ n) : (sl a).length ≤ n := by rw [sl_length]; omega
theorem len_eq {a : List Nat} {b n : Nat} (_ : b + a.length ≤ n) : (sl a).length = a.length := sl_length a
theorem state_ok {sg : List Nat} {pre : List Int} {n : Int} {x y : Str} {j k : Nat} (hx : x = sl (44 :: ((foldF sg pre).2.drop j) ++ (foldF sg pre).1)) (hy : y = sl ((foldF sg pre).2.take k)) (hj : j = (foldF sg pre).2.length - n.toNat) (hk : k = (foldF sg pre).2.length - n.toNat) :
    x = sl (foldF sg (pre ++ [n])).1 ∧ y = sl (foldF sg (pre ++ [n])).2 := by
  subst hj hk
  rw [foldF_snoc]; exact ⟨hx, hy⟩
theorem add_gen {prog : Program} {w : World} {A : Around} {E : Value → Shared → Prop} {s : Shared} {x y : Str} {a b : List Nat} {t u : Tok} {Q : Value → Shared → Prop} (hx : x = sl a) (hy : y = sl b) (hl : a.length + b.length ≤ 10000)
    (h : ∀ t' k, Q (.str (sl (a ++ b)) t') { s with toks := k }) : wpAny (model prog w) A (binaryOp .Add (.str x t) (.str y u)) Q E s := by
  subst hx hy
  exact add_sl hl h
theorem len_sl {prog : Program} {w : World} {A : Around} {E : Value → Shared → Prop} {s : Shared} {l : List Nat} {t : Tok} {Q : Value → Shared → Prop} (hl : l.length ≤ 10000) (h : ∀ t' k, Q (.int (l.length : Nat) t') { s with toks := k }) :
    wpAny (model prog w) A (call (.builtin "len") [.str (sl l) t]) Q E s := by
  have e := sl_length l
  refine len_str (by rw [e]; omega) ?_
  rw [e]; exact h _ _
def wholeF (c no : Nat) : List Nat := (foldF (signsF (zs c).sum no) (List.take ((zI c).length - 1) (zI c))).2 ++ (foldF (signsF (zs c).sum no) (List.take ((zI c).length - 1) (zI c))).1
def MidW (g : Heap) (L : Addr) (s₀ : Shared) (news : List (Addr × Obj)) (c no : Nat) (s' : Shared) : Prop :=
  ∃ m' h' tk D ys t1 t2 t3, s' = { s₀ with heap := h', toks := tk } ∧ Fr g L h' m' ∧ m' (Str.ofString "sizes") = some (.ref D) ∧ m' (Str.ofString "signs") = some (.str (sl (signsF (zs c).sum no)) t1) ∧ m' (Str.ofString "text") = some (.str (Str.ofString "") t2) ∧
    m' (Str.ofString "left") = some (.str (sl (signsF (zs c).sum no)) t3) ∧ IntsAre ys (zI c) ∧ News g L h' ((D, LCg.lst ys) :: news)
abbrev MidWof {g h : Heap} {L : Addr} {m : Str → Option Value} {news : List (Addr × Obj)} {x : Addr × Obj} (_ : Fr g L h m) (_ : News g L h (x :: news)) (s₀ : Shared) (c no : Nat) : Shared → Prop := MidW g L s₀ news c no
theorem whole_call {dp un : Nat} {gd : Option (List Code)} {cn : Str} {cs : Scope} {a : Addr} {ccd : Value} {cl : List (Str × Addr)} {outer : List Env} {A₀ : Around} {base h₀ : Heap} {L : Addr} {m : Str → Option Value} {s : Shared} {Q E : Value → Shared → Prop}
    {w : World} {loose : List Str} {mean : ExcName → Option Value} {mg mb : Str → Option Value} {news : List (Addr × Obj)} {l : Addr} {vs : List Value} {ns : List Int}
    (B : Below A₀ base outer h₀) (F : Fr h₀ L s.heap m) (X : (hd.heap_39 w.params).In h₀) (N : News h₀ L s.heap news) (T : Top hd.view_39 loose mean mg mb h₀) (hk : cs.kind = .function) (hdp : dp + 10 < recursionLimit) (hun : un + 100 < cLine)
    (hl : base.IsList l vs.toArray) (hi : IntsAre vs ns) (hf : ns.length < 2 ^ 62)
    (hret : ∀ (x D : Addr) (ys : List Value) (t1 t2 : Tok) (h' : Heap) (tk' : Nat), Fr h₀ L h' m → IntsAre ys (zI (cellF ns 1)) →
      News h₀ L h' ((x, { cls := .type "tuple", data := .seq #[.str (sl (wholeF (cellF ns 1) (cellF ns 2 % ((zs (cellF ns 1)).sum + 1)))) t1, .str (sl (signsF (zs (cellF ns 1)).sum (cellF ns 2 % ((zs (cellF ns 1)).sum + 1)))) t2, .ref D] }) :: (D, LCg.lst ys) :: news) → Q (.ref x) { s with heap := h', toks := tk' }) :
    wpAny (model PySem.Challenge.rw_ey0010_01.row.prog w) (ktrTop dp un gd cn cs L a ccd cl outer) (call (.ref 134) [.ref l]) Q E s := by
  revert X; k_fill; intro X
  refine wpAny_call ?_
  k_dflt (refine' code_defC ?k1 ?k2 ?k3 ?k4 ?k5 ?kA ?kF ?kK ?k6 ?k7 ?k8 ?k9 ?kB ?kD ?_ ?c2 ?c3 ?c4; (case kA => exact rfl); (case kF => exact rfl); (case kK => first | exact rfl | assumption); (case k1 => k_asm); (case k2 => k_asm); (case k3 => k_asm); (case k4 => k_asm); (case k5 => k_asm); (case k6 => k_is); (case k7 => k_is); (case k8 => k_room); (case k9 => exact BindsTo.of_eq rfl); (case kB => exact rfl); (case kD => decide +kernel); (case c2 => exact rfl); (case c3 => exact rfl); (case c4 => exact rfl); k_whole; intro g' L' h' tk' cells' FG' F' N' Y' B' X' T' l1; (try k_lt l1); k_cells Y'; (try simp only [List.cons_append, List.nil_append] at N'); (try dsimp only); (try k_lift B'); (try k_fold))
  have hMk := kstMark
  k_with "call ref" => (with_unfolding_all refine' cell_call ?k1 ?k2 ?k3 ?k4 ?k5 ?kK ?kd ?ku ?kl ?ki ?kf ?k9 ?_; (case k1 => k_asm); (case k2 => k_asm); (case k3 => k_asm); (case k4 => k_asm); (case k5 => k_asm); (case kK => first | exact rfl | assumption); (case kd => ktr_room); (case ku => ktr_units); (case kl => k_asm); (case ki => k_asm); (case kf => omega); (case k9 => decide); intro t9 h9 tk9 F9 N9; (try dsimp only))
  have hzs := zI_sum (cellF ns 1)
  have hzm := zs_sum (cellF ns 1)
  have hzl : (zI (cellF ns 1)).length = 1 + cellF ns 1 % 4 := by unfold zI; rw [List.length_map, zs_len]
  obtain ⟨no, hno⟩ : ∃ no, no = cellF ns 2 % ((zs (cellF ns 1)).sum + 1) := ⟨_, rfl⟩
  have hnl : no ≤ (zs (cellF ns 1)).sum := by rw [hno]; exact Nat.le_of_lt_succ (Nat.mod_lt _ (Nat.succ_pos _))
  have hnI : (cellF ns 2 : Int).fmod ((zI (cellF ns 1)).sum + 1) = (no : Int) := by
    rw [hzs, show (((zs (cellF ns 1)).sum : Nat) : Int) + 1 = (((zs (cellF ns 1)).sum + 1 : Nat) : Int) from rfl, fmod_nat, hno]
  k_with "call builtin:sum" => ((rename IntsAre _ (List.map _ (rangeKs _ _)) => hz9); rw [sizes_eq] at hz9)
  k_with "binaryOp Mult str int" => first
    | k_dflt (refine mul_step (c := 35) ((zs (cellF ns 1)).sum - no) (by decide +kernel) (by rw [hnI]; omega) (by omega) ?_; intro t9 tk9)
    | k_dflt (refine mul_step (c := 48) no (by decide +kernel) hnI (by omega) ?_; intro t9 tk9)
  k_with "binaryOp Add str str" => (refine add_sl (by simp only [List.length_replicate]; omega) ?_; intro t9 tk9)
  (with_reducible rename Fr _ _ _ _ => hF1)
  (with_reducible rename News _ _ _ _ => hN1)
  refine cut_at 5 (MidWof hF1 hN1 s (cellF ns 1) no) ?head ?tail
  case head =>
    simp only [List.take_succ_cons, List.take_zero]
    k_steps
    (with_reducible rename Fr _ _ _ _ => hF6)
    (with_reducible rename News _ _ _ _ => hN6)
    exact ⟨_, _, _, _, _, _, _, _, rfl, hF6, rfl, rfl, rfl, rfl, by assumption, news_of hN6 (List.forall_mem_cons.mpr ⟨by k_mem, by intro q hq; repeat (first | exact hq | apply List.mem_cons_of_mem)⟩)⟩
  case tail =>
    rintro s' ⟨m1, h1, tk1, D, ys, t1, t2, t3, rfl, hF3, e1, e2, e3, e4, hz4, hN3⟩
    have hF4 := Fr.overs hF3 [(Str.ofString "sizes", _), (Str.ofString "signs", _), (Str.ofString "text", _), (Str.ofString "left", _)] (by
      (repeat (refine List.forall_mem_cons.mpr ⟨by assumption, ?_⟩)); exact List.forall_mem_nil _)
    simp only [List.foldr_cons, List.foldr_nil] at hF4
    clear hF3 e1 e2 e3 e4 hF1 hN1
    simp only [List.drop_succ_cons, List.drop_zero]
    k_with "binaryOp Add str str" => first
      | (refine add_gen (a := [44]) (show Str.ofString "," = sl [44] by decide +kernel) (slice_from _ (Int.toNat_of_nonneg (by omega)).symm (by omega)) (by simp only [List.length_cons, List.length_nil, List.length_drop]; omega) ?_; intro t9 tk9)
      | (refine add_sl (by simp only [List.length_append, List.length_cons, List.length_nil, List.length_drop]; omega) ?_; intro t9 tk9)
      | (refine add_sl (by omega) ?_; intro t9 tk9)
    have hze := turn_end hnl
    k_with "pyIter ref" => ((k_state (fun pre x y => x = sl (foldF (signsF (zs (cellF ns 1)).sum no) pre).1 ∧ y = sl (foldF (signsF (zs (cellF ns 1)).sum no) pre).2) "text" "left"); (all_goals ((rename _ = sl (Prod.fst _) => e1); (rename _ = sl (Prod.snd _) => e2); subst e1 e2)); (obtain ⟨hz1, hz2, hz3⟩ := turn hnl (by assumption)); (have hz6 := len_of hz3); (have hz7 := len_eq hz3))
    k_with "state" => (first | exact ⟨(show Str.ofString "" = sl [] by decide +kernel), rfl⟩ | exact state_ok rfl (slice_to _ (Int.toNat_of_nonneg (by omega)).symm (by omega)) (by omega) (by omega))
    k_with "call builtin:len" => (refine len_sl (by omega) ?_; intro t9 tk9)
    k_steps
    (with_reducible rename Fr _ _ _ _ => hF9)
    (with_reducible rename News _ _ _ _ => hN9)
    subst hno
    exact hret _ _ _ _ _ _ _ hF9 (by assumption) (news_of hN9 (List.forall_mem_cons.mpr ⟨by k_mem, List.forall_mem_cons.mpr ⟨by k_mem, by intro q hq; repeat (first | exact hq | apply List.mem_cons_of_mem)⟩⟩))
end Mine
end

section
open PySem PySem.W PyProof.Rows PySem.Builtin PySem.Builtin.Str
namespace Mine
theorem sl_cps (l : List Nat) : (sl l).cps.toList = l := by simp [sl]
theorem occ_sl (l : List Nat) (c : Nat) {y : Str} (hy : y = ⟨#[c]⟩) : (occurrences (sl l) y 0 (sl l).length 1).isEmpty = !decide (c ∈ l) := by
  subst hy
  rw [empty_one, sl_cps]
theorem occ_no {l : List Nat} {c : Nat} {y : Str} (hy : y = ⟨#[c]⟩) (h : c ∉ l) : (occurrences (sl l) y 0 (sl l).length 1).isEmpty = true := by
  rw [occ_sl l c hy, decide_eq_false h]; rfl
theorem occ_yes {l : List Nat} {c : Nat} {y : Str} (hy : y = ⟨#[c]⟩) (h : c ∈ l) : (occurrences (sl l) y 0 (sl l).length 1).isEmpty = false := by
  rw [occ_sl l c hy, decide_eq_true h]; rfl
theorem strSub_sl (l : List Nat) (i j : Nat) : strSub (sl l) i j = sl ((l.drop i).take (j - i)) := by
  refine Str.ext' (Array.toList_inj.mp ?_)
  rw [StrLaws.strSub_toList, sl_cps, sl_cps]
theorem at_sl (l : List Nat) (c i : Nat) : StrLaws.At (sl l) ⟨#[c]⟩ (sl l).length i ↔ l[i]? = some c := by
  have := StrLaws.subAt_one (sl l) c i
  rw [sl_cps] at this
  exact this
theorem mid_at (a b : List Nat) (c : Nat) : (a ++ c :: b)[a.length]? = some c := by
  rw [List.getElem?_append_right (Nat.le_refl _), Nat.sub_self]; rfl
theorem parts_sl (a b : List Nat) (c : Nat) : partsBetween (sl (a ++ c :: b)) [a.length] 1 = [sl a, sl b] := by
  rw [StrLaws.partsBetween_eq]
  show [strSub _ 0 a.length, strSub _ (a.length + 1) (sl (a ++ c :: b)).length] = _
  rw [strSub_sl, strSub_sl, sl_length]
  have e : (a ++ c :: b).drop (a.length + 1) = b := by
    rw [List.append_cons, show a.length + 1 = (a ++ [c]).length by simp, List.drop_left]
  rw [List.drop_zero, Nat.sub_zero, List.take_left, e, List.take_of_length_le (by simp only [List.length_append, List.length_cons]; omega)]
theorem occ_first_sl (a b : List Nat) (c : Nat) (ha : c ∉ a) : occurrences (sl (a ++ c :: b)) ⟨#[c]⟩ 0 (sl (a ++ c :: b)).length 1 = [a.length] := by
  rcases StrLaws.occ_head (sl (a ++ c :: b)) ⟨#[c]⟩ 1 (Nat.le_refl 1) with ⟨_, hn⟩ | ⟨i, r, h0, hi, hn⟩
  · exact absurd ((at_sl _ _ _).mpr (mid_at a b c)) (hn a.length)
  · have hl := StrLaws.occ_length_le (sl (a ++ c :: b)) ⟨#[c]⟩ 0 (sl (a ++ c :: b)).length 1
    rw [h0] at hl ⊢
    have hr : r = [] := by
      cases r with
      | nil => rfl
      | cons x r => simp only [List.length_cons] at hl; omega
    subst hr
    have h1 := (at_sl _ _ _).mp hi
    have h2 : ¬ a.length < i := fun hlt => hn _ hlt ((at_sl _ _ _).mpr (mid_at a b c))
    have h3 : ¬ i < a.length := fun hlt => by
      rw [List.getElem?_append_left hlt] at h1
      exact ha (List.mem_of_getElem? h1)
    have : i = a.length := by omega
    rw [this]
theorem kind_one (c : Nat) (hc : c < 256) (x : Str) : (decide (x.length < (⟨#[c]⟩ : Str).length) || decide (Str.strKind x < Str.strKind ⟨#[c]⟩)) = decide (x.length < 1) := by
  have e : Str.strKind ⟨#[c]⟩ = 1 := by
    unfold Str.strKind
    rw [if_pos]
    simp [hc]
  have e2 : 1 ≤ Str.strKind x := by unfold Str.strKind; (repeat' split) <;> omega
  rw [e, decide_eq_false (p := Str.strKind x < 1) (by omega), Bool.or_false]
  rfl
theorem len_pos (a b : List Nat) (c : Nat) : decide ((sl (a ++ c :: b)).length < 1) = false := by
  rw [sl_length]; simp
theorem splitMax_sl {a b : List Nat} {c : Nat} {y : Str} (hy : y = ⟨#[c]⟩) (hc : c < 256) (ha : c ∉ a) : Txt.splitMax (sl (a ++ c :: b)) y 1 = [sl a, sl b] := by
  subst hy
  unfold Txt.splitMax
  rw [show limitOf (sl (a ++ c :: b)) 1 = 1 from rfl, occ_first_sl a b c ha, kind_one c hc, len_pos]
  exact parts_sl a b c
theorem occR_stay (s sub : Str) : ∀ (l : List Nat) (st : Array Nat × Nat), (∀ k ∈ l, ¬ ((st.1.size < 1 ∧ s.length - k + sub.length ≤ st.2) ∧ subAt s sub (s.length - k) = true)) → (forIn l st (StrLaws.occRBody s sub 1)).run = st
  | [], _, _ => rfl
  | k :: l, st, h => by
    rw [List.forIn_cons]
    unfold StrLaws.occRBody
    rw [if_neg (h k (.head _))]
    exact occR_stay s sub l st fun k hk => h k (.tail _ hk)
theorem occR_yield (s sub : Str) (k : Nat) (st : Array Nat × Nat) : ∃ st', StrLaws.occRBody s sub 1 k st = pure (ForInStep.yield st') := by
  unfold StrLaws.occRBody
  split
  · exact ⟨_, rfl⟩
  · exact ⟨_, rfl⟩
theorem forIn_split (s sub : Str) (l2 : List Nat) : ∀ (l1 : List Nat) (st : Array Nat × Nat), (forIn (l1 ++ l2) st (StrLaws.occRBody s sub 1)).run = (forIn l2 (forIn l1 st (StrLaws.occRBody s sub 1)).run (StrLaws.occRBody s sub 1)).run
  | [], _ => rfl
  | a :: l1, st => by
    obtain ⟨st', e⟩ := occR_yield s sub a st
    rw [List.cons_append, List.forIn_cons, List.forIn_cons, e]
    exact forIn_split s sub l2 l1 st'
theorem occR_last_sl (a b : List Nat) (c : Nat) (hb : c ∉ b) : occurrencesFromRight (sl (a ++ c :: b)) ⟨#[c]⟩ 1 = [a.length] := by
  rw [StrLaws.occR_eq]
  have hn : (sl (a ++ c :: b)).length = a.length + b.length + 1 := by rw [sl_length]; simp; omega
  have hs : List.range' 0 ((sl (a ++ c :: b)).length + 1) = List.range' 0 (b.length + 1) ++ (b.length + 1) :: List.range' (b.length + 2) a.length := by
    rw [hn, show a.length + b.length + 1 + 1 = (b.length + 1) + (a.length + 1) by omega, ← List.range'_append, Nat.one_mul, Nat.zero_add]
    exact congrArg (List.range' 0 (b.length + 1) ++ ·) List.range'_succ
  rw [hs, forIn_split, occR_stay _ _ (List.range' 0 (b.length + 1))]
  · rw [List.forIn_cons]
    have h1 := (at_sl (a ++ c :: b) c a.length).mpr (mid_at a b c)
    have e : (sl (a ++ c :: b)).length - (b.length + 1) = a.length := by omega
    unfold StrLaws.occRBody
    rw [e]
    rw [if_pos ⟨⟨by simp, h1.1⟩, h1.2⟩]
    show (forIn (List.range' (b.length + 2) a.length) (#[a.length], a.length) (StrLaws.occRBody (sl (a ++ c :: b)) ⟨#[c]⟩ 1)).run.fst.toList.reverse = _
    rw [occR_stay]
    · rfl
    · intro k _ h
      exact absurd h.1.1 (by simp)
  · intro k hk h
    have hk := List.mem_range'_1.mp hk
    by_cases h0 : k = 0
    · subst h0
      have h2 := h.1.2
      have h3 : (sl (a ++ c :: b)).length - 0 + 1 ≤ (sl (a ++ c :: b)).length := h2
      omega
    · have h1 := (at_sl (a ++ c :: b) c ((sl (a ++ c :: b)).length - k)).mp ⟨h.1.2, h.2⟩
      rw [hn, List.getElem?_append_right (by omega)] at h1
      obtain ⟨j, hj⟩ : ∃ j, a.length + b.length + 1 - k - a.length = j + 1 := ⟨b.length - k, by omega⟩
      rw [hj, List.getElem?_cons_succ] at h1
      exact hb (List.mem_of_getElem? h1)
theorem rsplitMax_sl {a b : List Nat} {c : Nat} {y : Str} (hy : y = ⟨#[c]⟩) (hc : c < 256) (hb : c ∉ b) : Txt.rsplitMax (sl (a ++ c :: b)) y 1 = [sl a, sl b] := by
  subst hy
  unfold Txt.rsplitMax
  rw [show limitOf (sl (a ++ c :: b)) 1 = 1 from rfl, occR_last_sl a b c hb, kind_one c hc, len_pos]
  exact parts_sl a b c
theorem rfind_no {l : List Nat} {c : Nat} {y : Str} (hy : y = ⟨#[c]⟩) (h : c ∉ l) : Txt.rfind (sl l) y = -1 := by
  subst hy
  unfold Txt.rfind
  rcases StrLaws.last_spec (sl l) ⟨#[c]⟩ with ⟨h0, _⟩ | ⟨i, h0, hi, _⟩
  · rw [h0]
  · exact absurd (List.mem_of_getElem? ((at_sl _ _ _).mp hi)) h
theorem rfind_last {a b : List Nat} {c : Nat} {y : Str} (hy : y = ⟨#[c]⟩) (hb : c ∉ b) : Txt.rfind (sl (a ++ c :: b)) y = (a.length : Int) := by
  subst hy
  unfold Txt.rfind
  have hm := (at_sl (a ++ c :: b) c a.length).mpr (mid_at a b c)
  rcases StrLaws.last_spec (sl (a ++ c :: b)) ⟨#[c]⟩ with ⟨_, hn⟩ | ⟨i, h0, hi, hn⟩
  · exact absurd hm (hn _)
  · have h1 := (at_sl _ _ _).mp hi
    have h2 : ¬ i < a.length := fun hlt => hn _ hlt hm
    have h3 : ¬ a.length < i := fun hlt => by
      rw [List.getElem?_append_right (by omega)] at h1
      obtain ⟨j, hj⟩ : ∃ j, i - a.length = j + 1 := ⟨i - a.length - 1, by omega⟩
      rw [hj, List.getElem?_cons_succ] at h1
      exact hb (List.mem_of_getElem? h1)
    have : i = a.length := by omega
    rw [h0, this]
theorem startswith_sl {c : Nat} {y : Str} (hy : y = ⟨#[c]⟩) (l : List Nat) : Txt.startswith (sl l) y = decide (l[0]? = some c) := by
  subst hy
  rw [Bool.eq_iff_iff, decide_eq_true_eq, ← at_sl]
  unfold Txt.startswith
  rw [Bool.and_eq_true, decide_eq_true_eq]
  exact Iff.rfl
theorem lstrip_sl {c : Nat} {y : Str} (hy : y = ⟨#[c]⟩) (l : List Nat) : Txt.lstripChars (sl l) y = sl (l.dropWhile (· == c)) := by
  subst hy
  unfold Txt.lstripChars
  rw [PyProof.Rows.stripBy_eq]
  have hf : (#[c] : Array Nat).contains = fun k => k == c := by
    funext k; simp; by_cases h : k = c <;> simp [h]
  show strSub _ (if true = true then ((sl l).cps.toList.takeWhile (#[c] : Array Nat).contains).length else 0) (sl l).length = _
  rw [if_pos rfl, sl_cps, hf, strSub_sl, sl_length, List.take_of_length_le (by simp)]
  congr 1
  induction l with
  | nil => rfl
  | cons a r ih =>
    rw [List.takeWhile_cons, List.dropWhile_cons]
    split
    · rw [List.length_cons, List.drop_succ_cons, ih]
    · rfl
theorem okStr {l : List Nat} (h : ∀ c ∈ l, c < 10000) : PyData.strOk (sl l) = true := by
  unfold PyData.strOk
  rw [← Array.all_toList, sl_cps, List.all_eq_true]
  intro c hc
  have := h c hc
  exact decide_eq_true (by omega)
end Mine
end

section
open PySem PySem.W PyProof.Rows
set_option maxHeartbeats 4000000
namespace Mine
def aheadL : List (List Nat) := [[], [43], [36, 32], [39, 49, 35, 39, 32], [97, 37], [8240]]
def behindL : List (List Nat) := [[], [32, 37], [39, 48, 46, 39], [32, 120], [8240], [41]]
abbrev ok2 (l : List Nat) : Prop := ∀ c ∈ l, c = 48 ∨ c = 35
/-- what the law knows of a whole part, its signs and its sizes -/
structure WData (W S : List Nat) (z : List Int) : Prop where
  first : ∃ c r, W = c :: r ∧ (c = 48 ∨ c = 35)
  signs : ∀ c ∈ W, c = 48 ∨ c = 35 ∨ c = 44
  short : W.length ≤ 100
  okS : ok2 S
  shortS : S.length ≤ 100
  zeros : W.countP (· == 48) = S.countP (· == 48)
  digits : W.countP (· != 44) = S.length
  zlen : 1 ≤ z.length ∧ z.length ≤ 4
  group : grp (sl W) = if z.length = 1 then (1000, 1000) else (z.getD 0 0, if 2 < z.length then z.getD 1 0 else z.getD 0 0)
theorem comma_is : Str.ofString "," = ⟨#[44]⟩ := by decide +kernel
theorem grp_one {l : List Nat} (h : 44 ∉ l) : grp (sl l) = (1000, 1000) := by
  unfold grp; rw [if_pos (rfind_no comma_is h)]
theorem grp1_eq {u w : List Nat} (hw : 44 ∉ w) : grp1 (sl (u ++ 44 :: w)) = (w.length : Int) := by
  unfold grp1
  rw [rfind_last comma_is hw, sl_length]
  simp only [List.length_append, List.length_cons]; omega
theorem grpR2_eq {u w : List Nat} : grpR2 (sl (u ++ 44 :: w)) (w.length : Int) = Txt.rfind (sl u) (Str.ofString ",") := by
  unfold grpR2
  rw [slice_to_neg (u ++ 44 :: w) (j := u.length) (by simp only [List.length_append, List.length_cons]; omega) (by omega), List.take_left]
theorem grp_two {u w : List Nat} (hu : 44 ∉ u) (hw : 44 ∉ w) : grp (sl (u ++ 44 :: w)) = ((w.length : Int), (w.length : Int)) := by
  unfold grp
  rw [if_neg (by rw [rfind_last comma_is hw]; omega), grp1_eq hw, grpR2_eq, if_pos (rfind_no comma_is hu)]
theorem grp_three {t v w : List Nat} (hv : 44 ∉ v) (hw : 44 ∉ w) : grp (sl ((t ++ 44 :: v) ++ 44 :: w)) = ((w.length : Int), (v.length : Int)) := by
  unfold grp
  rw [if_neg (by rw [rfind_last comma_is hw]; omega), grp1_eq hw, grpR2_eq, rfind_last comma_is hv, if_neg (by omega), sl_length]
  simp only [List.length_append, List.length_cons]
  congr 1; omega
theorem no44 {l : List Nat} (h : ok2 l) : 44 ∉ l := fun hm => by rcases h 44 hm with h | h <;> exact absurd h (by decide)
theorem cp44 {l : List Nat} (h : ok2 l) : l.countP (· != 44) = l.length := by
  rw [List.countP_eq_length]
  intro c hc; rcases h c hc with rfl | rfl <;> rfl
theorem first_of {u x : List Nat} (h : ok2 u) (hl : 1 ≤ u.length) : ∃ c r, u ++ x = c :: r ∧ (c = 48 ∨ c = 35) := by
  cases u with
  | nil => exact absurd hl (by decide)
  | cons c r => exact ⟨c, r ++ x, rfl, h c (.head _)⟩
theorem cut_len {sg : List Nat} {n m : Nat} (h : sg.length = n + m) : ∃ u v, sg = u ++ v ∧ u.length = n ∧ v.length = m :=
  ⟨sg.take n, sg.drop n, (List.take_append_drop n sg).symm, by rw [List.length_take]; omega, by rw [List.length_drop]; omega⟩
theorem stepF_eq (t l r : List Nat) {n : Nat} (h : r.length = n) : stepF (t, l ++ r) (n : Int) = (44 :: (r ++ t), l) := by
  subst h
  unfold stepF
  have e : (l ++ r).length - ((r.length : Nat) : Int).toNat = l.length := by rw [Int.toNat_natCast, List.length_append]; omega
  simp only [e, List.drop_left, List.take_left, List.cons_append]
theorem ok2_left {a b : List Nat} (h : ok2 (a ++ b)) : ok2 a := fun c hc => h c (List.mem_append_left _ hc)
theorem ok2_right {a b : List Nat} (h : ok2 (a ++ b)) : ok2 b := fun c hc => h c (List.mem_append_right _ hc)
theorem signs_cons {a b : List Nat} (ha : ok2 a) (hb : ∀ c ∈ b, c = 48 ∨ c = 35 ∨ c = 44) : ∀ c ∈ a ++ 44 :: b, c = 48 ∨ c = 35 ∨ c = 44 := by
  intro c hc
  rcases List.mem_append.mp hc with h | h
  · rcases ha c h with h | h
    · exact .inl h
    · exact .inr (.inl h)
  · rcases List.mem_cons.mp h with h | h
    · exact .inr (.inr h)
    · exact hb c h
theorem signs_ok2 {a : List Nat} (ha : ok2 a) : ∀ c ∈ a, c = 48 ∨ c = 35 ∨ c = 44 := fun c hc => by
  rcases ha c hc with h | h
  · exact .inl h
  · exact .inr (.inl h)
theorem w_one {a : List Nat} (ha : ok2 a) (la : 1 ≤ a.length ∧ a.length ≤ 4) : WData a a [(a.length : Int)] where
  first := by have := first_of (x := []) ha la.1; rwa [List.append_nil] at this
  signs := signs_ok2 ha
  short := by omega
  okS := ha
  shortS := by omega
  zeros := rfl
  digits := cp44 ha
  zlen := by simp
  group := by rw [grp_one (no44 ha)]; rfl
theorem w_two {a b : List Nat} (h : ok2 (b ++ a)) (la : 1 ≤ a.length ∧ a.length ≤ 4) (lb : 1 ≤ b.length ∧ b.length ≤ 4) : WData (b ++ 44 :: a) (b ++ a) [(a.length : Int), (b.length : Int)] where
  first := first_of (ok2_left h) lb.1
  signs := signs_cons (ok2_left h) (signs_ok2 (ok2_right h))
  short := by simp only [List.length_append, List.length_cons]; omega
  okS := h
  shortS := by simp only [List.length_append]; omega
  zeros := by simp [List.countP_append]
  digits := by simp [List.countP_append, cp44 (ok2_left h), cp44 (ok2_right h)]
  zlen := by simp
  group := by rw [grp_two (no44 (ok2_left h)) (no44 (ok2_right h))]; rfl
theorem w_three {a b c : List Nat} (h : ok2 (c ++ (b ++ a))) (la : 1 ≤ a.length ∧ a.length ≤ 4) (lb : 1 ≤ b.length ∧ b.length ≤ 4) (lc : 1 ≤ c.length ∧ c.length ≤ 4) : WData (c ++ 44 :: (b ++ 44 :: a)) (c ++ (b ++ a)) [(a.length : Int), (b.length : Int), (c.length : Int)] where
  first := first_of (ok2_left h) lc.1
  signs := signs_cons (ok2_left h) (signs_cons (ok2_left (ok2_right h)) (signs_ok2 (ok2_right (ok2_right h))))
  short := by simp only [List.length_append, List.length_cons]; omega
  okS := h
  shortS := by simp only [List.length_append]; omega
  zeros := by simp [List.countP_append]
  digits := by simp [List.countP_append, cp44 (ok2_left h), cp44 (ok2_left (ok2_right h)), cp44 (ok2_right (ok2_right h))]
  zlen := by simp
  group := by
    rw [show c ++ 44 :: (b ++ 44 :: a) = (c ++ 44 :: b) ++ 44 :: a by simp, grp_three (no44 (ok2_left (ok2_right h))) (no44 (ok2_right (ok2_right h)))]; rfl
theorem w_four {a b c d : List Nat} (h : ok2 (d ++ (c ++ (b ++ a)))) (la : 1 ≤ a.length ∧ a.length ≤ 4) (lb : 1 ≤ b.length ∧ b.length ≤ 4) (lc : 1 ≤ c.length ∧ c.length ≤ 4) (ld : 1 ≤ d.length ∧ d.length ≤ 4) :
    WData (d ++ 44 :: (c ++ 44 :: (b ++ 44 :: a))) (d ++ (c ++ (b ++ a))) [(a.length : Int), (b.length : Int), (c.length : Int), (d.length : Int)] where
  first := first_of (ok2_left h) ld.1
  signs := signs_cons (ok2_left h) (signs_cons (ok2_left (ok2_right h)) (signs_cons (ok2_left (ok2_right (ok2_right h))) (signs_ok2 (ok2_right (ok2_right (ok2_right h))))))
  short := by simp only [List.length_append, List.length_cons]; omega
  okS := h
  shortS := by simp only [List.length_append]; omega
  zeros := by simp [List.countP_append]
  digits := by simp [List.countP_append, cp44 (ok2_left h), cp44 (ok2_left (ok2_right h)), cp44 (ok2_left (ok2_right (ok2_right h))), cp44 (ok2_right (ok2_right (ok2_right h)))]
  zlen := by simp
  group := by
    rw [show d ++ 44 :: (c ++ 44 :: (b ++ 44 :: a)) = ((d ++ 44 :: c) ++ 44 :: b) ++ 44 :: a by simp, grp_three (no44 (ok2_left (ok2_right (ok2_right h)))) (no44 (ok2_right (ok2_right (ok2_right h))))]; rfl
theorem whole_gen {z sg : List Nat} (hl : 1 ≤ z.length ∧ z.length ≤ 4) (hz : ∀ n ∈ z, 1 ≤ n ∧ n ≤ 4) (hs : ok2 sg) (hsum : sg.length = z.sum) {Z : List Int} (hZ : Z = z.map fun (n : Nat) => (n : Int)) :
    WData ((foldF sg (List.take (Z.length - 1) Z)).2 ++ (foldF sg (List.take (Z.length - 1) Z)).1) sg Z := by
  subst hZ
  rcases z with _ | ⟨a, _ | ⟨b, _ | ⟨c, _ | ⟨d, _ | ⟨e, r⟩⟩⟩⟩⟩
  · exact absurd hl.1 (by decide)
  · have ha : sg.length = a := by simpa using hsum
    have h1 := hz a (by simp)
    subst ha
    have e : (foldF sg (List.take ([(sg.length : Int)].length - 1) [(sg.length : Int)])) = ([], sg) := rfl
    show WData ((foldF sg (List.take ([(sg.length : Int)].length - 1) [(sg.length : Int)])).2 ++ (foldF sg (List.take ([(sg.length : Int)].length - 1) [(sg.length : Int)])).1) sg [(sg.length : Int)]
    rw [e, List.append_nil]
    exact w_one hs h1
  · obtain ⟨u, v, rfl, hu, hv⟩ := cut_len (sg := sg) (n := b) (m := a) (by simp only [List.sum_cons, List.sum_nil] at hsum; omega)
    have h1 := hz a (by simp)
    have h2 := hz b (by simp)
    have e : foldF (u ++ v) (List.take (([a, b].map fun (n : Nat) => (n : Int)).length - 1) ([a, b].map fun (n : Nat) => (n : Int))) = (44 :: (v ++ []), u) := stepF_eq [] u v hv
    rw [e, List.append_nil]
    subst hu hv
    exact w_two hs h1 h2
  · obtain ⟨u, v, rfl, hu, hv⟩ := cut_len (sg := sg) (n := c) (m := b + a) (by simp only [List.sum_cons, List.sum_nil] at hsum; omega)
    obtain ⟨v, w, rfl, hv', hw⟩ := cut_len hv; clear hv; rename v.length = _ => hv
    have h1 := hz a (by simp)
    have h2 := hz b (by simp)
    have h3 := hz c (by simp)
    have e : foldF (u ++ (v ++ w)) (List.take (([a, b, c].map fun (n : Nat) => (n : Int)).length - 1) ([a, b, c].map fun (n : Nat) => (n : Int))) = (44 :: (v ++ 44 :: (w ++ [])), u) := by
      show stepF (stepF ([], u ++ (v ++ w)) (a : Int)) (b : Int) = _
      rw [← List.append_assoc, stepF_eq [] (u ++ v) w hw, stepF_eq _ u v hv]
    rw [e, List.append_nil]
    subst hu hv hw
    exact w_three hs h1 h2 h3
  · obtain ⟨u, v, rfl, hu, hv⟩ := cut_len (sg := sg) (n := d) (m := c + (b + a)) (by simp only [List.sum_cons, List.sum_nil] at hsum; omega)
    obtain ⟨v, w, rfl, hv', hw⟩ := cut_len hv; clear hv; rename v.length = _ => hv
    obtain ⟨w, x, rfl, hw', hx⟩ := cut_len hw; clear hw; rename w.length = _ => hw
    have h1 := hz a (by simp)
    have h2 := hz b (by simp)
    have h3 := hz c (by simp)
    have h4 := hz d (by simp)
    have e : foldF (u ++ (v ++ (w ++ x))) (List.take (([a, b, c, d].map fun (n : Nat) => (n : Int)).length - 1) ([a, b, c, d].map fun (n : Nat) => (n : Int))) = (44 :: (v ++ 44 :: (w ++ 44 :: (x ++ []))), u) := by
      show stepF (stepF (stepF ([], u ++ (v ++ (w ++ x))) (a : Int)) (b : Int)) (c : Int) = _
      rw [show u ++ (v ++ (w ++ x)) = ((u ++ v) ++ w) ++ x by simp, stepF_eq [] ((u ++ v) ++ w) x hx, stepF_eq _ (u ++ v) w hw, stepF_eq _ u v hv]
    rw [e, List.append_nil]
    subst hu hv hw hx
    exact w_four hs h1 h2 h3 h4
  · exact absurd hl.2 (by simp only [List.length_cons]; omega)
theorem ok2_signs (m no : Nat) : ok2 (signsF m no) := by
  intro c hc
  rcases List.mem_append.mp hc with h | h
  · exact .inr (List.eq_of_mem_replicate h)
  · exact .inl (List.eq_of_mem_replicate h)
theorem whole_good (c k : Nat) : WData (wholeF c (k % ((zs c).sum + 1))) (signsF (zs c).sum (k % ((zs c).sum + 1))) (zI c) := by
  have h := zs_len c
  exact whole_gen (z := zs c) ⟨by omega, by omega⟩ (zs_le c) (ok2_signs _ _) (signs_len (Nat.le_of_lt_succ (Nat.mod_lt _ (Nat.succ_pos _)))) rfl
def FR (F : List Nat) : List Nat := if F = [] then [] else 46 :: F
def PL (b : Bool) : List Nat := if b then [43] else []
def EX (E : List Nat) (b : Bool) : List Nat := if E = [] then [] else 69 :: (PL b ++ E)
abbrev numT (W F : List Nat) : List Nat := W ++ FR F
abbrev txtT (A W F E Bh : List Nat) (b : Bool) : List Nat := A ++ numT W F ++ EX E b ++ Bh
/-- the parts of the exponent -/
def XO (E : List Nat) (b : Bool) : Option (Bool × Str) := if E = [] then none else some (b, sl E)
theorem chars_num {W F S : List Nat} {z : List Int} (hW : WData W S z) (okF : ok2 F) : ∀ c ∈ numT W F, c = 48 ∨ c = 35 ∨ c = 44 ∨ c = 46 := by
  intro c hc
  rcases List.mem_append.mp hc with h | h
  · rcases hW.signs c h with h | h | h <;> simp [h]
  · unfold FR at h
    split at h
    · exact absurd h (by simp)
    · rcases List.mem_cons.mp h with h | h
      · simp [h]
      · rcases okF c h with h | h <;> simp [h]
theorem chars_ex {E : List Nat} {b : Bool} (okE : ok2 E) : ∀ c ∈ EX E b, c = 48 ∨ c = 35 ∨ c = 43 ∨ c = 69 := by
  intro c hc
  unfold EX at hc
  split at hc
  · exact absurd hc (by simp)
  · rcases List.mem_cons.mp hc with h | h
    · simp [h]
    · rcases List.mem_append.mp h with h | h
      · unfold PL at h
        split at h
        · rw [List.mem_singleton.mp h]; simp
        · exact absurd h (by simp)
      · rcases okE c h with h | h <;> simp [h]
theorem len_num {W F S : List Nat} {z : List Int} (hW : WData W S z) (lF : F.length ≤ 10) : (numT W F).length ≤ 111 := by
  have := hW.short
  simp only [numT, FR, List.length_append]
  split <;> simp only [List.length_cons, List.length_nil] <;> omega
theorem len_ex {E : List Nat} {b : Bool} (lE : E.length ≤ 10) : (EX E b).length ≤ 12 := by
  unfold EX PL
  cases b <;> (repeat' split) <;> simp only [List.length_cons, List.length_nil, List.length_append] <;> omega
theorem first_num {W F S x : List Nat} {z : List Int} (hW : WData W S z) : ∃ n r, numT W F ++ x = n :: r ∧ accP n = false ∧ n ≠ 39 := by
  obtain ⟨c, r, e, hc⟩ := hW.first
  refine ⟨c, r ++ FR F ++ x, by simp [numT, e], ?_⟩
  rcases hc with rfl | rfl <;> decide
theorem pre_ahead {A : List Nat} (h : A ∈ aheadL) : Pre A := by
  simp only [aheadL, List.mem_cons, List.not_mem_nil, or_false] at h
  rcases h with rfl | rfl | rfl | rfl | rfl | rfl
  · exact .nil
  · exact .char (by decide) .nil
  · exact .char (by decide) (.char (by decide) .nil)
  · exact .quote (bd := [49, 35]) (A := [32]) (by decide) (.char (by decide) .nil)
  · exact .char (by decide) (.char (by decide) .nil)
  · exact .char (by decide) .nil
theorem len_ahead {A : List Nat} (h : A ∈ aheadL) : A.length ≤ 10 := by
  have : ∀ a ∈ aheadL, a.length ≤ 10 := by decide
  exact this A h
theorem len_behind {A : List Nat} (h : A ∈ behindL) : A.length ≤ 10 := by
  have : ∀ a ∈ behindL, a.length ≤ 10 := by decide
  exact this A h
theorem cut_gen {A N B : List Nat} (hA : A ∈ aheadL) (hB : B ∈ behindL) (hN : ∀ c ∈ N, accN c = true) (hf : ∃ n r, N = n :: r ∧ accP n = false ∧ n ≠ 39) (hl : N.length ≤ 500) : Cut (sl (A ++ N ++ B)) A N B where
  text := rfl
  pre := pre_ahead hA
  numb := hN
  first := hf
  behind := (by decide : ∀ b ∈ behindL, ∀ c ∈ b, c ≠ 10) B hB
  stop := by
    simp only [behindL, List.mem_cons, List.not_mem_nil, or_false] at hB
    intro c hc
    rcases hB with rfl | rfl | rfl | rfl | rfl | rfl <;> simp only [List.head?_cons, List.head?_nil, reduceCtorEq, Option.some.injEq] at hc <;> subst hc <;> decide
  short := by have := len_ahead hA; have := len_behind hB; omega
theorem acc_num {W F E S : List Nat} {z : List Int} {b : Bool} (hW : WData W S z) (okF : ok2 F) (okE : ok2 E) : ∀ c ∈ numT W F ++ EX E b, accN c = true := by
  intro c hc
  rcases List.mem_append.mp hc with h | h
  · rcases chars_num hW okF c h with rfl | rfl | rfl | rfl <;> decide
  · rcases chars_ex okE c h with rfl | rfl | rfl | rfl <;> decide
theorem cut_txt {A W F E Bh : List Nat} {b : Bool} (hA : A ∈ aheadL) (hB : Bh ∈ behindL) (hW : ∃ S z, WData W S z) (okF : ok2 F) (lF : F.length ≤ 10) (okE : ok2 E) (lE : E.length ≤ 10) :
    Cut (sl (txtT A W F E Bh b)) A (numT W F ++ EX E b) Bh := by
  obtain ⟨S, z, hW⟩ := hW
  have h := cut_gen hA hB (acc_num (b := b) hW okF okE) (first_num hW) (by have := len_num hW lF; have := len_ex (b := b) lE; rw [List.length_append]; omega)
  rwa [← List.append_assoc] at h
theorem no_semi {A W F E Bh : List Nat} {b : Bool} (hA : A ∈ aheadL) (hB : Bh ∈ behindL) (hW : ∃ S z, WData W S z) (okF : ok2 F) (okE : ok2 E) : 59 ∉ txtT A W F E Bh b := by
  obtain ⟨S, z, hW⟩ := hW
  intro h
  rcases List.mem_append.mp h with h | h
  · rcases List.mem_append.mp h with h | h
    · rcases List.mem_append.mp h with h | h
      · exact (by decide : ∀ a ∈ aheadL, 59 ∉ a) A hA h
      · rcases chars_num hW okF _ h with h | h | h | h <;> exact absurd h (by decide)
    · rcases chars_ex okE _ h with h | h | h | h <;> exact absurd h (by decide)
  · exact (by decide : ∀ a ∈ behindL, 59 ∉ a) Bh hB h
theorem semi_is : Str.ofString ";" = ⟨#[59]⟩ := by decide +kernel
theorem sides_one {A W F E Bh : List Nat} {b : Bool} (hA : A ∈ aheadL) (hB : Bh ∈ behindL) (hW : ∃ S z, WData W S z) (okF : ok2 F) (lF : F.length ≤ 10) (okE : ok2 E) (lE : E.length ≤ 10) :
    Sides (sl (txtT A W F E Bh b)) A (numT W F ++ EX E b) Bh (sl ([45] ++ A)) (sl Bh) := by
  refine .one (cut_txt hA hB hW okF lF okE lE) (occ_no semi_is (no_semi hA hB hW okF okE)) ?_ rfl
  rw [show Str.ofString "-" = sl [45] by decide +kernel, show Str.empty = sl [] from rfl, sl_append, sl_append]
  rfl
theorem sides_two {A W F E Bh : List Nat} {b : Bool} (hA : A ∈ aheadL) (hB : Bh ∈ behindL) (hW : ∃ S z, WData W S z) (okF : ok2 F) (lF : F.length ≤ 10) (okE : ok2 E) (lE : E.length ≤ 10) :
    Sides (sl (txtT A W F E Bh b ++ [59, 40] ++ W ++ [41, 32])) A (numT W F ++ EX E b) Bh (Str.ofString "(") (Str.ofString ") ") := by
  have e : txtT A W F E Bh b ++ [59, 40] ++ W ++ [41, 32] = txtT A W F E Bh b ++ 59 :: ([40] ++ W ++ [41, 32]) := by simp
  have hc := cut_txt (b := b) hA hB hW okF lF okE lE
  rw [e]
  refine .two (p1 := sl (txtT A W F E Bh b)) (p2 := sl ([40] ++ W ++ [41, 32])) (A2 := [40]) (N2 := W) (B2 := [41, 32]) ?_ (occ_yes semi_is (by simp)) (splitMax_sl semi_is (by decide) (no_semi hA hB hW okF okE)) hc ?_ (by decide +kernel) (by decide +kernel)
  · obtain ⟨S, z, hW⟩ := hW
    have h1 := hW.short
    have h2 := len_num hW lF
    have h3 := len_ex (b := b) lE
    have h4 := len_ahead hA
    have h5 := len_behind hB
    rw [sl_length]
    simp only [txtT, List.length_append, List.length_cons, List.length_nil] at *
    omega
  · obtain ⟨S, z, hW⟩ := hW
    refine ⟨rfl, .char (by decide) .nil, ?_, ?_, by decide, ?_, ?_⟩
    · intro c hc
      rcases hW.signs c hc with rfl | rfl | rfl <;> decide
    · obtain ⟨c, r, e, hc⟩ := hW.first
      refine ⟨c, r, e, ?_⟩
      rcases hc with rfl | rfl <;> decide
    · intro c hc
      simp only [List.head?_cons, Option.some.injEq] at hc
      subst hc; decide
    · have := hW.short
      simp only [List.length_cons, List.length_nil]; omega
theorem e_is : Str.ofString "E" = ⟨#[69]⟩ := by decide +kernel
theorem plus_is : Str.ofString "+" = ⟨#[43]⟩ := by decide +kernel
theorem at_is : Str.ofString "@" = ⟨#[64]⟩ := by decide +kernel
theorem dot_is : Str.ofString "." = ⟨#[46]⟩ := by decide +kernel
theorem nought_is : Str.ofString "0" = ⟨#[48]⟩ := by decide +kernel
theorem expo_ok {W F E : List Nat} {b : Bool} {S : List Nat} {z : List Int} (hW : WData W S z) (okF : ok2 F) (okE : ok2 E) (lE : E.length ≤ 10) :
    Expo (sl (numT W F ++ EX E b)) (sl (numT W F)) (XO E b) := by
  have h69 : 69 ∉ numT W F := fun h => by rcases chars_num hW okF _ h with h | h | h | h <;> exact absurd h (by decide)
  cases E with
  | nil =>
    rw [show XO [] b = none from if_pos rfl, show EX [] b = [] from if_pos rfl, List.append_nil]
    exact .none (occ_no e_is h69) rfl
  | cons e r =>
    rw [show XO (e :: r) b = some (b, sl (e :: r)) from if_neg (by simp), show EX (e :: r) b = 69 :: (PL b ++ e :: r) from if_neg (by simp)]
    have h0 : e ≠ 43 := by rcases okE e (.head _) with rfl | rfl <;> decide
    have hd : (PL b ++ e :: r).dropWhile (· == 43) = e :: r := by
      cases b
      · show (e :: r).dropWhile (· == 43) = e :: r
        rw [List.dropWhile_cons_of_neg (by simpa using h0)]
      · show (43 :: e :: r).dropWhile (· == 43) = e :: r
        rw [List.dropWhile_cons_of_pos (by decide), List.dropWhile_cons_of_neg (by simpa using h0)]
    have hls : Txt.lstripChars (sl (PL b ++ e :: r)) (Str.ofString "+") = sl (e :: r) := by rw [lstrip_sl plus_is, hd]
    refine .some (XP := sl (PL b ++ e :: r)) (occ_yes e_is (by simp)) (splitMax_sl e_is (by decide) h69) ?_ ?_ ?_ hls ?_
    · rw [sl_length]; simp only [List.length_append, List.length_cons]; omega
    · rw [sl_length]
      simp only [List.length_append, List.length_cons] at *
      have : (PL b).length ≤ 1 := by cases b <;> decide
      omega
    · rw [startswith_sl plus_is]
      cases b
      · exact decide_eq_false (by simpa [PL] using h0)
      · exact decide_eq_true rfl
    · rw [hls]
      intro c hc
      rw [sl_cps] at hc
      exact signs_ok2 okE c hc
theorem frac_ok {W F : List Nat} {S : List Nat} {z : List Int} (hW : WData W S z) (okF : ok2 F) : Frac (sl (numT W F)) (sl W) (sl F) := by
  have h46 : 46 ∉ W := fun h => by rcases hW.signs _ h with h | h | h <;> exact absurd h (by decide)
  cases F with
  | nil =>
    rw [show numT W [] = W from List.append_nil W]
    exact .none (occ_no dot_is h46) rfl (by decide +kernel)
  | cons f r =>
    have e : numT W (f :: r) = W ++ 46 :: (f :: r) := congrArg (W ++ ·) (if_neg (by simp))
    rw [e]
    exact .some (occ_yes dot_is (by simp)) (rsplitMax_sl dot_is (by decide) (fun h => by rcases okF _ h with h | h <;> exact absurd h (by decide)))
theorem numb_ok {W F E : List Nat} {b : Bool} (hW : ∃ S z, WData W S z) (okF : ok2 F) (lF : F.length ≤ 10) (okE : ok2 E) (lE : E.length ≤ 10) :
    Numb (sl (numT W F ++ EX E b)) (sl (numT W F)) (sl W) (sl F) (XO E b) := by
  obtain ⟨S, z, hW⟩ := hW
  have h1 := hW.short
  have h2 := len_num hW lF
  have h3 := len_ex (b := b) lE
  refine ⟨expo_ok hW okF okE lE, occ_no at_is (fun h => by rcases chars_num hW okF _ h with h | h | h | h <;> exact absurd h (by decide)), frac_ok hW okF, ?_, ?_, ?_, ?_, ?_⟩
  · intro c hc; rw [sl_cps] at hc; exact hW.signs c hc
  · intro c hc; rw [sl_cps] at hc; exact signs_ok2 okF c hc
  · rw [sl_length, List.length_append]; omega
  · rw [sl_length]; omega
  · rw [sl_length]; omega
theorem refusal_facts {A Bh : List Nat} (hA : A ∈ aheadL) (hB : Bh ∈ behindL) : ∃ NA : List Nat, Cut (sl (A ++ NA ++ Bh)) A NA Bh ∧ (occ (sl (A ++ NA ++ Bh)) (Str.ofString ";")).isEmpty = true ∧ (occ (sl NA) (Str.ofString "E")).isEmpty = true ∧
    (occ (sl NA) (Str.ofString "@")).isEmpty = false ∧ (occ (sl NA) (Str.ofString ".")).isEmpty = false ∧ (occ (sl NA) (Str.ofString "0")).isEmpty = false ∧ Str.ofString "@@0.0" = sl NA ∧ NA.length ≤ 10 := by
  refine ⟨[64, 64, 48, 46, 48], cut_gen hA hB (by decide) ⟨64, _, rfl, by decide, by decide⟩ (by decide), occ_no semi_is ?_, occ_no e_is (by decide), occ_yes at_is (by decide), occ_yes dot_is (by decide), occ_yes nought_is (by decide), by decide +kernel, by decide⟩
  intro h
  rcases List.mem_append.mp h with h | h
  · rcases List.mem_append.mp h with h | h
    · exact (by decide : ∀ a ∈ aheadL, 59 ∉ a) A hA h
    · exact absurd h (by decide)
  · exact (by decide : ∀ a ∈ behindL, 59 ∉ a) Bh hB h
end Mine
end

section
open PySem PySem.W PyProof.Rows
set_option maxHeartbeats 8000000
set_option pp.deepTerms false
set_option pp.deepTerms.threshold 8
namespace Mine
local macro_rules | `(tactic| k_room) => `(tactic| ktr_room)
local macro_rules | `(tactic| walk_at "binaryOp Add str str") => `(tactic| k_extra "binaryOp Add str str")
theorem part_call2 {dp un : Nat} {gd : Option (List Code)} {cn : Str} {cs : Scope} {a : Addr} {ccd : Value} {cl : List (Str × Addr)} {outer : List Env} {A₀ : Around} {base h₀ : Heap} {L : Addr} {m : Str → Option Value} {s : Shared} {Q E : Value → Shared → Prop}
    {w : World} {loose : List Str} {mean : ExcName → Option Value} {mg mb : Str → Option Value} {news : List (Addr × Obj)} {z : Int} {n k : Nat} {t u : Tok}
    (B : Below A₀ base outer h₀) (F : Fr h₀ L s.heap m) (X : (hd.heap_39 w.params).In h₀) (N : News h₀ L s.heap news) (T : Top hd.view_39 loose mean mg mb h₀) (hk : cs.kind = .function) (hdp : dp + 1 < recursionLimit) (hun : un + 8 < cLine)
    (hk3 : k ≤ 3) (hz : z = (n : Int))
    (hret : ∀ (t' : Tok) (h' : Heap) (tk' : Nat), Fr h₀ L h' m → News h₀ L h' news → Q (.str (sl (partF n k)) t') { s with heap := h', toks := tk' }) :
    wpAny (model PySem.Challenge.rw_ey0010_01.row.prog w) (ktrTop dp un gd cn cs L a ccd cl outer) (call (.ref 141) [.int z t, .int (k : Nat) u]) Q E s := by
  subst hz
  exact part_call B F X N T hk hdp hun hk3 hret
def MidA (g : Heap) (L : Addr) (s₀ : Shared) (l : Addr) (s' : Shared) : Prop :=
  ∃ m' h' tk D ys W S F E z A Bh t1 t2 t3 t4 t5 t6, s' = { s₀ with heap := h', toks := tk } ∧ Fr g L h' m' ∧ m' (Str.ofString "script") = some (.ref l) ∧ m' (Str.ofString "whole") = some (.str (sl W) t1) ∧ m' (Str.ofString "signs") = some (.str (sl S) t2) ∧ m' (Str.ofString "sizes") = some (.ref D) ∧
    m' (Str.ofString "fraction") = some (.str (sl F) t3) ∧ m' (Str.ofString "exponent") = some (.str (sl E) t4) ∧ m' (Str.ofString "ahead") = some (.str (sl A) t5) ∧ m' (Str.ofString "behind") = some (.str (sl Bh) t6) ∧
    WData W S z ∧ ok2 F ∧ F.length ≤ 10 ∧ ok2 E ∧ E.length ≤ 10 ∧ A ∈ aheadL ∧ Bh ∈ behindL ∧ IntsAre ys z ∧ News g L h' [(D, LCg.lst ys)]
abbrev MidAof {g h : Heap} {L : Addr} {m : Str → Option Value} {s₀ : Shared} {l : Addr} {its : Array Value} (_ : Fr g L h m) (_ : s₀.heap.IsList l its) : Shared → Prop := MidA g L s₀ l
theorem partF_ok (n k : Nat) : ok2 (partF n k) := by
  intro c hc
  rcases List.mem_append.mp hc with h | h
  · exact .inl (List.eq_of_mem_replicate h)
  · exact .inr (List.eq_of_mem_replicate h)
theorem partF_len (n k : Nat) (hk : k ≤ 3) : (partF n k).length ≤ 10 := by
  have hm : n % (k + 1) < k + 1 := Nat.mod_lt _ (by omega)
  have hm2 : n / (k + 1) % 3 < 3 := Nat.mod_lt _ (by omega)
  simp only [partF, List.length_append, List.length_replicate]; omega
theorem tab6 {x0 x1 x2 x3 x4 x5 d : Str} {a0 a1 a2 a3 a4 a5 : List Nat} {c : Nat} {i : Int} (hi : i = Int.fmod (c : Int) 6) (h0 : x0 = sl a0) (h1 : x1 = sl a1) (h2 : x2 = sl a2) (h3 : x3 = sl a3) (h4 : x4 = sl a4) (h5 : x5 = sl a5) :
    ∃ A, A ∈ [a0, a1, a2, a3, a4, a5] ∧ [x0, x1, x2, x3, x4, x5].getD i.toNat d = sl A := by
  subst hi h0 h1 h2 h3 h4 h5
  rw [show (6 : Int) = ((6 : Nat) : Int) from rfl, fmod_nat, Int.toNat_natCast]
  have hm : c % 6 < 6 := Nat.mod_lt _ (by decide)
  match h : c % 6, hm with
  | 0, _ => exact ⟨a0, by simp, rfl⟩
  | 1, _ => exact ⟨a1, by simp, rfl⟩
  | 2, _ => exact ⟨a2, by simp, rfl⟩
  | 3, _ => exact ⟨a3, by simp, rfl⟩
  | 4, _ => exact ⟨a4, by simp, rfl⟩
  | 5, _ => exact ⟨a5, by simp, rfl⟩
theorem ne_of {F : List Nat} (h : (sl F != Str.ofString "") = true) : F ≠ [] := by
  intro e; subst e
  rw [show Str.ofString "" = sl [] by decide +kernel] at h
  simp at h
theorem eq_of {F : List Nat} (h : (sl F != Str.ofString "") = false) : F = [] := by
  rw [show Str.ofString "" = sl [] by decide +kernel] at h
  have h2 : sl F = sl [] := by simpa using h
  have h3 : F.toArray = ([] : List Nat).toArray := congrArg Str.cps h2
  simpa using h3
theorem len_txt {A W F E Bh : List Nat} {b : Bool} (hA : A.length ≤ 10) (hW : W.length ≤ 100) (hF : F.length ≤ 10) (hE : E.length ≤ 10) (hB : Bh.length ≤ 10) : (txtT A W F E Bh b).length ≤ 200 := by
  simp only [txtT, numT, FR, EX, PL, List.length_append]
  cases b <;> (repeat' split) <;> simp only [List.length_cons, List.length_nil, List.length_append] <;> omega
/-- what the law's names hold -/
def LV (m' : Str → Option Value) (l D : Addr) (W S F E A Bh : List Nat) : Prop := ∃ t1 t2 t3 t4 t5 t6, m' (Str.ofString "script") = some (.ref l) ∧ m' (Str.ofString "whole") = some (.str (sl W) t1) ∧ m' (Str.ofString "signs") = some (.str (sl S) t2) ∧ m' (Str.ofString "sizes") = some (.ref D) ∧
    m' (Str.ofString "fraction") = some (.str (sl F) t3) ∧ m' (Str.ofString "exponent") = some (.str (sl E) t4) ∧ m' (Str.ofString "ahead") = some (.str (sl A) t5) ∧ m' (Str.ofString "behind") = some (.str (sl Bh) t6)
def LV2 (m' : Str → Option Value) (l D : Addr) (W S F E A Bh T : List Nat) (b : Bool) : Prop := LV m' l D W S F E A Bh ∧ ∃ t1 t2 t3, m' (Str.ofString "number") = some (.str (sl (numT W F)) t1) ∧ m' (Str.ofString "plus") = some (.str (sl (PL b)) t2) ∧ m' (Str.ofString "text") = some (.str (sl T) t3)
def MidG (g : Heap) (L : Addr) (s₀ : Shared) (news : List (Addr × Obj)) (P : (Str → Option Value) → Prop) (s' : Shared) : Prop :=
  ∃ m' h' tk, s' = { s₀ with heap := h', toks := tk } ∧ Fr g L h' m' ∧ P m' ∧ News g L h' news
abbrev MidGof {g h h2 : Heap} {L : Addr} {m : Str → Option Value} {s₀ : Shared} {l : Addr} {its : Array Value} {news : List (Addr × Obj)} (_ : Fr g L h m) (_ : s₀.heap.IsList l its) (_ : News g L h2 news) (P : Addr → (Str → Option Value) → Prop) : Shared → Prop := MidG g L s₀ news (P l)
/-- the number's pattern as the ledger bears it -/
def madeL (w : World) (x dx aP aS aG aF aI : Addr) (p PP NP PS NS NB I0 F0 : Str) (sc : Int) (pv ev : Value) (k1 k2 k3 k4 k5 k6 k7 k8 k9 k10 t1 t2 t3 t4 t5 t6 t7 g1 g2 f1 f2 i1 i2 : Tok) (rest : List (Addr × Obj)) : List (Addr × Obj) :=
  (x, instObj 118 dx) :: (dx, dictOf [{ hash := PyData.keyHash w.params (Str.ofString "pattern"), key := .str (Str.ofString "pattern") k1, val := .str p t1 }, { hash := PyData.keyHash w.params (Str.ofString "prefix"), key := .str (Str.ofString "prefix") k2, val := .ref aP }, { hash := PyData.keyHash w.params (Str.ofString "suffix"), key := .str (Str.ofString "suffix") k3, val := .ref aS }, { hash := PyData.keyHash w.params (Str.ofString "number_pattern"), key := .str (Str.ofString "number_pattern") k4, val := .str NB t6 }, { hash := PyData.keyHash w.params (Str.ofString "grouping"), key := .str (Str.ofString "grouping") k5, val := .ref aG }, { hash := PyData.keyHash w.params (Str.ofString "int_prec"), key := .str (Str.ofString "int_prec") k6, val := .ref aI }, { hash := PyData.keyHash w.params (Str.ofString "frac_prec"), key := .str (Str.ofString "frac_prec") k7, val := .ref aF }, { hash := PyData.keyHash w.params (Str.ofString "exp_prec"), key := .str (Str.ofString "exp_prec") k8, val := ev }, { hash := PyData.keyHash w.params (Str.ofString "exp_plus"), key := .str (Str.ofString "exp_plus") k9, val := pv }, { hash := PyData.keyHash w.params (Str.ofString "scale"), key := .str (Str.ofString "scale") k10, val := .int sc t7 }] 10) :: (aS, { cls := .type "tuple", data := .seq #[.str PS t4, .str NS t5] }) :: (aP, { cls := .type "tuple", data := .seq #[.str PP t2, .str NP t3] }) ::
    (aG, { cls := .type "tuple", data := .seq #[.int (grp I0).1 g1, .int (grp I0).2 g2] }) :: (aF, tupI F0 f1 f2) :: (aI, tupI I0 i1 i2) :: rest
theorem shaped4 {a b c d : Str} (h1 : PyData.strOk a = true) (h2 : PyData.strOk b = true) (h3 : PyData.strOk c = true) (h4 : PyData.strOk d = true) : SeqAt.shaped (.list [.tuple [.str a, .str b], .tuple [.str c, .str d]]) = true := by
  simp [SeqAt.shaped, PyData.canLay0, PyData.canLayAll0, PyData.depth, PyData.depthAll, h1, h2, h3, h4]
theorem ok_ahead {A : List Nat} (h : A ∈ aheadL) : ∀ c ∈ A, c < 10000 := by
  have : ∀ a ∈ aheadL, ∀ c ∈ a, c < 10000 := by decide
  exact this A h
theorem ok_behind {A : List Nat} (h : A ∈ behindL) : ∀ c ∈ A, c < 10000 := by
  have : ∀ a ∈ behindL, ∀ c ∈ a, c < 10000 := by decide
  exact this A h
def MidX (g : Heap) (L : Addr) (s₀ : Shared) (news : List (Addr × Obj)) (P : (Str → Option Value) → Prop) (gv1 gv2 : Int) (s' : Shared) : Prop :=
  ∃ m' h' tk G t u, s' = { s₀ with heap := h', toks := tk } ∧ Fr g L h' m' ∧ P m' ∧ m' (Str.ofString "group") = some (.ref G) ∧ News g L h' ((G, { cls := .type "tuple", data := .seq #[.int gv1 t, .int gv2 u] }) :: news)
abbrev MidGrp {g h h2 : Heap} {L : Addr} {m : Str → Option Value} {s₀ : Shared} {l : Addr} {its : Array Value} {news : List (Addr × Obj)} (_ : Fr g L h m) (_ : s₀.heap.IsList l its) (_ : News g L h2 news) (D : Addr) (W S F E A Bh T : List Nat) (b : Bool) (x : Addr) (gv1 gv2 : Int) : Shared → Prop :=
  MidX g L s₀ news (fun m' => LV2 m' l D W S F E A Bh T b ∧ m' (Str.ofString "made") = some (.ref x)) gv1 gv2
def MidM (g : Heap) (L : Addr) (s₀ : Shared) (w : World) (ys : List Value) (D : Addr) (W S F E A Bh T : List Nat) (b : Bool) (l : Addr) (s' : Shared) : Prop :=
  ∃ m' h' tk x dx aP aS aG aF aI NP NS pv ev nx k1 k2 k3 k4 k5 k6 k7 k8 k9 k10 t1 t2 t3 t4 t5 t6 t7 g1 g2 f1 f2 i1 i2, s' = { s₀ with heap := h', toks := tk } ∧ Fr g L h' m' ∧ LV2 m' l D W S F E A Bh T b ∧ m' (Str.ofString "made") = some (.ref x) ∧ EVals (XO E b) pv ev nx ∧ NP.length ≤ 100 ∧ NS.length ≤ 100 ∧
    News g L h' (madeL w x dx aP aS aG aF aI (sl T) (sl A) NP (sl Bh) NS (sl (numT W F)) (sl W) (sl F) (scaleOf (Txt.join (Str.ofString "") [sl A, NP, sl Bh, NS])) pv ev k1 k2 k3 k4 k5 k6 k7 k8 k9 k10 t1 t2 t3 t4 t5 t6 t7 g1 g2 f1 f2 i1 i2 ((D, LCg.lst ys) :: nx))
abbrev MidMof {K : Params → Frag} {h1 g h h2 : Heap} {w : World} {L : Addr} {m : Str → Option Value} {s₀ : Shared} {l : Addr} {its : Array Value} {ys : List Value} {D : Addr} (_ : (K w.params).In h1) (_ : Fr g L h m) (_ : s₀.heap.IsList l its) (_ : News g L h2 [(D, LCg.lst ys)]) (W S F E A Bh T : List Nat) (b : Bool) : Shared → Prop := MidM g L s₀ w ys D W S F E A Bh T b l
theorem count_sl (l : List Nat) : Txt.count (sl l) (Str.ofString "0") = nz l := by
  rw [show Str.ofString "0" = ⟨#[48]⟩ by decide +kernel, count_cnt]
  show cnt 48 (sl l).cps.toList = ((l.countP (· == 48) : Nat) : Int)
  have e : (sl l).cps.toList = l := by simp [sl]
  rw [e]; clear e
  induction l with
  | nil => rfl
  | cons c r ih => rw [cnt_cons, ih]; by_cases h : c = 48 <;> simp [h] <;> omega
theorem count_call {prog : Program} {w : World} {A : Around} {E : Value → Shared → Prop} {s : Shared} {l : List Nat} {t u : Tok} {Q : Value → Shared → Prop} (h : ∀ t' k, Q (.int (nz l) t') { s with toks := k }) :
    wpAny (model prog w) A (call (.builtin "str.count") [.str (sl l) t, .str (Str.ofString "0") u]) Q E s := by
  refine SC.count ?_
  rw [count_sl]; exact h _ _
theorem tupI_sl (l : List Nat) (t u : Tok) : tupI (sl l) t u = { cls := .type "tuple", data := .seq #[.int (nz l) t, .int (nd l) u] } := by
  have e : (sl l).cps.toList = l := by simp [sl]
  unfold tupI; rw [e]
theorem nd_ok2 {l : List Nat} (h : ok2 l) : nd l = (l.length : Nat) := by
  unfold nd
  rw [List.countP_eq_length.mpr]
  intro c hc; rcases h c hc with rfl | rfl <;> rfl
theorem ints_one {ys : List Value} {a : Int} (h : IntsAre ys [a]) : ∃ t, ys = [.int a t] := by
  cases h with | cons n t h => cases h with | nil => exact ⟨t, rfl⟩
theorem ints_two {ys : List Value} {a b : Int} (h : IntsAre ys [a, b]) : ∃ t u, ys = [.int a t, .int b u] := by
  cases h with | cons n t h => obtain ⟨u, rfl⟩ := ints_one h; exact ⟨t, u, rfl⟩
theorem ints_three {ys : List Value} {a b c : Int} (h : IntsAre ys [a, b, c]) : ∃ t u v, ys = [.int a t, .int b u, .int c v] := by
  cases h with | cons n t h => obtain ⟨u, v, rfl⟩ := ints_two h; exact ⟨t, u, v, rfl⟩
theorem ints_four {ys : List Value} {a b c d : Int} (h : IntsAre ys [a, b, c, d]) : ∃ t u v x, ys = [.int a t, .int b u, .int c v, .int d x] := by
  cases h with | cons n t h => obtain ⟨u, v, x, rfl⟩ := ints_three h; exact ⟨t, u, v, x, rfl⟩
theorem post_ok (ns : List Int) : PySem.Challenge.rw_ey0010_01.row.claim.post [ofPy (PyData.list (List.map PyData.int ns))] (ofPy (PyData.bool true)) [ofPy (PyData.list (List.map PyData.int ns))] = true := by
  refine postW_of (by wrow_shape) (by wtm_val) ?_
  str_meet
  first | done | w_fin
theorem t : PySem.Challenge.rw_ey0010_01.Holds := by
  refine hd ?_
  lgec_go0
  all_goals try k_fold
  rename List Int => ns
  have hcl := cLine_is
  k_with "table" => skip
  k_with "call ref" => first
    | (with_unfolding_all refine' whole_call ?k1 ?k2 ?k3 ?k4 ?k5 ?kK ?kd ?ku ?kl ?ki ?kf ?_; (case k1 => k_asm); (case k2 => k_asm); (case k3 => k_asm); (case k4 => k_asm); (case k5 => k_asm); (case kK => first | exact rfl | assumption); (case kd => ktr_room); (case ku => ktr_units); (case kl => k_asm); (case ki => k_asm); (case kf => omega); intro r9 D9 y9 t9 u9 h9 tk9 F9 I9 N9; (try dsimp only))
    | (with_unfolding_all refine' cell_call ?k1 ?k2 ?k3 ?k4 ?k5 ?kK ?kd ?ku ?kl ?ki ?kf ?k9 ?_; (case k1 => k_asm); (case k2 => k_asm); (case k3 => k_asm); (case k4 => k_asm); (case k5 => k_asm); (case kK => first | exact rfl | assumption); (case kd => ktr_room); (case ku => ktr_units); (case kl => k_asm); (case ki => k_asm); (case kf => omega); (case k9 => decide); intro t9 h9 tk9 F9 N9; (try dsimp only))
    | (with_unfolding_all refine' part_call2 ?k1 ?k2 ?k3 ?k4 ?k5 ?kK ?kd ?ku ?k9 ?kz ?_; (case k1 => k_asm); (case k2 => k_asm); (case k3 => k_asm); (case k4 => k_asm); (case k5 => k_asm); (case kK => first | exact rfl | assumption); (case kd => ktr_room); (case ku => ktr_units); (case kz => first | exact rfl | exact fdiv_nat _ 2); (case k9 => decide); intro t9 h9 tk9 F9 N9; (try dsimp only))
  (with_reducible rename Fr _ _ _ _ => hF1)
  rename IntsAre _ ns => hI1
  (with_reducible rename Heap.IsList _ _ _ => hL1)
  refine cut_at 4 (MidAof hF1 hL1) ?head ?tail
  case head =>
    simp only [List.take_succ_cons, List.take_zero]
    k_steps
    (with_reducible rename Fr _ _ _ _ => hF6)
    (with_reducible rename News _ _ _ _ => hN6)
    obtain ⟨A, hA, eA⟩ := tab6 (c := cellF ns 5) (d := Str.empty) rfl (show Str.ofString "" = sl [] by decide +kernel) (show Str.ofString "+" = sl [43] by decide +kernel) (show Str.ofString "$ " = sl [36, 32] by decide +kernel)
      (show Str.ofString "'1#' " = sl [39, 49, 35, 39, 32] by decide +kernel) (show Str.ofString "a%" = sl [97, 37] by decide +kernel) (show Str.ofString "‰" = sl [8240] by decide +kernel)
    obtain ⟨Bh, hB, eB⟩ := tab6 (c := cellF ns 6) (d := Str.empty) rfl (show Str.ofString "" = sl [] by decide +kernel) (show Str.ofString " %" = sl [32, 37] by decide +kernel) (show Str.ofString "'0.'" = sl [39, 48, 46, 39] by decide +kernel)
      (show Str.ofString " x" = sl [32, 120] by decide +kernel) (show Str.ofString "‰" = sl [8240] by decide +kernel) (show Str.ofString ")" = sl [41] by decide +kernel)
    exact ⟨_, _, _, _, _, _, _, _, _, _, A, Bh, _, _, _, _, _, _, rfl, hF6, rfl, rfl, rfl, rfl, rfl, rfl, congrArg (fun x => some (Value.str x _)) eA, congrArg (fun x => some (Value.str x _)) eB,
      whole_good _ _, partF_ok _ _, partF_len _ _ (by decide), partF_ok _ _, partF_len _ _ (by decide), hA, hB, by assumption, news_of hN6 (List.forall_mem_cons.mpr ⟨by k_mem, List.forall_mem_nil _⟩)⟩
  case tail =>
    rintro s' ⟨m1, h1, tk1, D, ys, W, S, F, E, z, A, Bh, t1, t2, t3, t4, t5, t6, rfl, hF3, e1, e2, e3, e4, e5, e6, e7, e8, hW, okF, lF, okE, lE, hA, hB, hIz, hN3⟩
    have hF4 := Fr.overs hF3 [(Str.ofString "script", _), (Str.ofString "whole", _), (Str.ofString "signs", _), (Str.ofString "sizes", _), (Str.ofString "fraction", _), (Str.ofString "exponent", _), (Str.ofString "ahead", _), (Str.ofString "behind", _)] (by
      (repeat (refine List.forall_mem_cons.mpr ⟨by assumption, ?_⟩)); exact List.forall_mem_nil _)
    simp only [List.foldr_cons, List.foldr_nil] at hF4
    clear hF3 e1 e2 e3 e4 e5 e6 e7 e8
    simp only [List.drop_succ_cons, List.drop_zero]
    refine cut_at 3 (MidGof hF4 hL1 hN3 (fun l m' => ∃ b, LV2 m' l D W S F E A Bh (txtT A W F E Bh b) b)) ?head ?tail
    case head =>
      simp only [List.take_succ_cons, List.take_zero]
      have lW := hW.short
      have lA := len_ahead hA
      have lB := len_behind hB
      clear hF1
      k_with "binaryOp Add str str" => first
        | (refine add_gen (a := [46]) (show Str.ofString "." = sl [46] by decide +kernel) rfl (by simp only [List.length_cons, List.length_nil]; omega) ?_; intro t9 tk9)
        | (refine add_gen (a := [69]) (show Str.ofString "E" = sl [69] by decide +kernel) (show Str.ofString "+" = sl [43] by decide +kernel) (by simp only [List.length_cons, List.length_nil]; omega) ?_; intro t9 tk9)
        | (refine add_gen (a := [69]) (show Str.ofString "E" = sl [69] by decide +kernel) (show Str.ofString "" = sl [] by decide +kernel) (by simp only [List.length_cons, List.length_nil]; omega) ?_; intro t9 tk9)
        | (refine add_gen rfl (show Str.ofString "" = sl [] by decide +kernel) (by simp only [List.length_append, List.length_cons, List.length_nil]; omega) ?_; intro t9 tk9)
        | (refine add_sl (by simp only [List.length_append, List.length_cons, List.length_nil]; omega) ?_; intro t9 tk9)
      k_steps
      all_goals (
        (with_reducible rename Fr _ _ _ _ => hF6)
        (with_reducible rename News _ _ _ _ => hN6)
        (first | (have hF := ne_of (F := F) (by assumption)) | (have hF := eq_of (F := F) (by assumption)))
        (first | (have hE := ne_of (F := E) (by assumption)) | (have hE := eq_of (F := E) (by assumption)))
        first
          | exact ⟨_, _, _, rfl, hF6, ⟨true, ⟨_, _, _, _, _, _, rfl, rfl, rfl, rfl, rfl, rfl, rfl, rfl⟩, _, _, _, congrArg (fun x => some (Value.str x _)) (show sl _ = sl (numT W F) by simp [numT, FR, hF]), congrArg (fun x => some (Value.str x _)) (show Str.ofString "+" = sl (PL true) by decide +kernel), congrArg (fun x => some (Value.str x _)) (show sl _ = sl (txtT A W F E Bh true) by simp [txtT, numT, FR, EX, PL, hF, hE])⟩, hN6⟩
          | exact ⟨_, _, _, rfl, hF6, ⟨false, ⟨_, _, _, _, _, _, rfl, rfl, rfl, rfl, rfl, rfl, rfl, rfl⟩, _, _, _, congrArg (fun x => some (Value.str x _)) (show sl _ = sl (numT W F) by simp [numT, FR, hF]), congrArg (fun x => some (Value.str x _)) (show Str.ofString "" = sl (PL false) by decide +kernel), congrArg (fun x => some (Value.str x _)) (show sl _ = sl (txtT A W F E Bh false) by simp [txtT, numT, FR, EX, PL, hF, hE])⟩, hN6⟩)
    case tail =>
      rintro s' ⟨m2, h2, tk2, rfl, hF7, ⟨b, ⟨t1, t2, t3, t4, t5, t6, e1, e2, e3, e4, e5, e6, e7, e8⟩, u1, u2, u3, e9, e10, e11⟩, hN7⟩
      have hF8 := Fr.overs hF7 [(Str.ofString "script", _), (Str.ofString "whole", _), (Str.ofString "signs", _), (Str.ofString "sizes", _), (Str.ofString "fraction", _), (Str.ofString "exponent", _), (Str.ofString "ahead", _), (Str.ofString "behind", _), (Str.ofString "number", _), (Str.ofString "plus", _), (Str.ofString "text", _)] (by
        (repeat (refine List.forall_mem_cons.mpr ⟨by assumption, ?_⟩)); exact List.forall_mem_nil _)
      simp only [List.foldr_cons, List.foldr_nil] at hF8
      clear hF7 e1 e2 e3 e4 e5 e6 e7 e8 e9 e10 e11 hF4 hF1 hN3
      simp only [List.drop_succ_cons, List.drop_zero]
      have lW := hW.short
      have lA := len_ahead hA
      have lB := len_behind hB
      have lT := len_txt (b := b) lA lW lF lE lB
      generalize hT : txtT A W F E Bh b = T0 at hF8 lT
      refine cut_at 2 (MidGof hF8 hL1 hN7 (fun l m' => ∃ T bl, LV2 m' l D W S F E A Bh T b ∧ (∃ t, m' (Str.ofString "below") = some (.int bl t)) ∧ ((bl = 1 ∧ T = T0 ++ [59, 40] ++ W ++ [41, 32]) ∨ (bl ≠ 1 ∧ T = T0)))) ?head ?tail
      case head =>
        simp only [List.take_succ_cons, List.take_zero]
        k_with "binaryOp Add str str" => first
          | (refine add_gen rfl (show Str.ofString ";(" = sl [59, 40] by decide +kernel) (by simp only [List.length_cons, List.length_nil]; omega) ?_; intro t9 tk9)
          | (refine add_gen rfl (show Str.ofString ") " = sl [41, 32] by decide +kernel) (by simp only [List.length_append, List.length_cons, List.length_nil]; omega) ?_; intro t9 tk9)
          | (refine add_sl (by simp only [List.length_append, List.length_cons, List.length_nil]; omega) ?_; intro t9 tk9)
        k_steps
        all_goals (
          (with_reducible rename Fr _ _ _ _ => hF9)
          (with_reducible rename News _ _ _ _ => hN9)
          first
            | exact ⟨_, _, _, rfl, hF9, ⟨_, _, ⟨⟨_, _, _, _, _, _, rfl, rfl, rfl, rfl, rfl, rfl, rfl, rfl⟩, _, _, _, rfl, rfl, rfl⟩, ⟨_, rfl⟩, .inl ⟨by assumption, rfl⟩⟩, hN9⟩
            | exact ⟨_, _, _, rfl, hF9, ⟨_, _, ⟨⟨_, _, _, _, _, _, rfl, rfl, rfl, rfl, rfl, rfl, rfl, rfl⟩, _, _, _, rfl, rfl, rfl⟩, ⟨_, rfl⟩, .inr ⟨by assumption, rfl⟩⟩, hN9⟩)
      case tail =>
        rintro s' ⟨m3, h3, tk3, rfl, hF10, ⟨T, bl, ⟨⟨t1, t2, t3, t4, t5, t6, e1, e2, e3, e4, e5, e6, e7, e8⟩, u1, u2, u3, e9, e10, e11⟩, ⟨u4, e12⟩, hbl⟩, hN10⟩
        have hF11 := Fr.overs hF10 [(Str.ofString "script", _), (Str.ofString "whole", _), (Str.ofString "signs", _), (Str.ofString "sizes", _), (Str.ofString "fraction", _), (Str.ofString "exponent", _), (Str.ofString "ahead", _), (Str.ofString "behind", _), (Str.ofString "number", _), (Str.ofString "plus", _), (Str.ofString "text", _), (Str.ofString "below", _)] (by
          (repeat (refine List.forall_mem_cons.mpr ⟨by assumption, ?_⟩)); exact List.forall_mem_nil _)
        simp only [List.foldr_cons, List.foldr_nil] at hF11
        clear hF10 e1 e2 e3 e4 e5 e6 e7 e8 e9 e10 e11 e12 hF8 hN7
        simp only [List.drop_succ_cons, List.drop_zero]
        refine cut_at 1 (MidGof hF11 hL1 hN10 (fun l m' => LV2 m' l D W S F E A Bh T b ∧ (∃ t, m' (Str.ofString "below") = some (.int bl t)))) ?head ?tail
        case head =>
          simp only [List.take_succ_cons, List.take_zero]
          obtain ⟨NA, hc9, ho1, ho2, ho3, ho4, ho5, hlit, lNA⟩ := refusal_facts hA hB
          have hlA := hc9.lenA
          have hlN := hc9.lenN
          have hlB := hc9.lenB
          k_with "formatField str" => (refine field_any ?_ (by omega); intro t9 tk9)
          k_with "binaryOp Add str str" => first
            | (refine add_gen rfl hlit (by omega) ?_; intro t9 tk9)
            | (refine add_sl (by simp only [List.length_append, List.length_cons, List.length_nil]; omega) ?_; intro t9 tk9)
          k_with "call ref" => (with_unfolding_all refine' match_call ?k1 ?k2 ?k3 ?k4 ?k5 ?kK ?kd ?ku ?kc ?_; (case k1 => k_asm); (case k2 => k_asm); (case k3 => k_asm); (case k4 => k_asm); (case k5 => k_asm); (case kK => first | exact rfl | assumption); (case kd => ktr_room); (case ku => ktr_units); (case kc => assumption); intro r9 t9 u9 v9 h9 tk9 F9 N9 l9; (try dsimp only))
          k_steps
          all_goals (
            (with_reducible rename Fr _ _ _ _ => hF12)
            (with_reducible rename News _ _ _ _ => hN12)
            exact ⟨_, _, _, rfl, hF12, ⟨⟨⟨_, _, _, _, _, _, rfl, rfl, rfl, rfl, rfl, rfl, rfl, rfl⟩, _, _, _, rfl, rfl, rfl⟩, ⟨_, rfl⟩⟩, news_of hN12 (by intro q hq; repeat (first | exact hq | apply List.mem_cons_of_mem))⟩)
        case tail =>
          rintro s' ⟨m4, h4, tk4, rfl, hF13, ⟨⟨⟨t1, t2, t3, t4, t5, t6, e1, e2, e3, e4, e5, e6, e7, e8⟩, u1, u2, u3, e9, e10, e11⟩, ⟨u4, e12⟩⟩, hN13⟩
          have hF14 := Fr.overs hF13 [(Str.ofString "script", _), (Str.ofString "whole", _), (Str.ofString "signs", _), (Str.ofString "sizes", _), (Str.ofString "fraction", _), (Str.ofString "exponent", _), (Str.ofString "ahead", _), (Str.ofString "behind", _), (Str.ofString "number", _), (Str.ofString "plus", _), (Str.ofString "text", _), (Str.ofString "below", _)] (by
            (repeat (refine List.forall_mem_cons.mpr ⟨by assumption, ?_⟩)); exact List.forall_mem_nil _)
          simp only [List.foldr_cons, List.foldr_nil] at hF14
          clear hF13 e1 e2 e3 e4 e5 e6 e7 e8 e9 e10 e11 e12 hF11 hN10
          simp only [List.drop_succ_cons, List.drop_zero]
          have hNumb := numb_ok (b := b) ⟨S, z, hW⟩ okF lF okE lE
          have okA := okStr (ok_ahead hA)
          have okB := okStr (ok_behind hB)
          have okA2 : PyData.strOk (sl ([45] ++ A)) = true := okStr (fun c hc => by
            rcases List.mem_append.mp hc with h | h
            · rw [List.mem_singleton.mp h]; decide
            · exact ok_ahead hA c h)
          k_with "compareOp NotEq ref ref" => ((k_dflt (refine' ne_dataH ?xa ?xb ?xc ?xd ?xe ?_; (case xa => ked_read); (case xb => ked_read); (case xc => (refine shaped4 ?_ ?_ ?_ ?_ <;> first | assumption | decide +kernel)); (case xd => (refine shaped4 ?_ ?_ ?_ ?_ <;> first | assumption | decide +kernel)); (case xe => ke_room))); ked_norm)
          (with_reducible rename Frag.In _ _ => hX14)
          refine cut_at 3 (MidMof hX14 hF14 hL1 hN13 W S F E A Bh T b) ?head ?tail
          case head =>
            simp only [List.take_succ_cons, List.take_zero]
            rcases hbl with ⟨hb1, hT1⟩ | ⟨hb1, hT1⟩
            · subst hb1 hT1 hT
              have hSides := sides_two (b := b) hA hB ⟨S, z, hW⟩ okF lF okE lE
              k_with "call ref" => (with_unfolding_all refine' pp_call ?k1 ?k2 ?k3 ?k4 ?k5 ?kK ?kd ?ku ?kS ?kN ?_; (case k1 => k_asm); (case k2 => k_asm); (case k3 => k_asm); (case k4 => k_asm); (case k5 => k_asm); (case kK => first | exact rfl | assumption); (case kd => ktr_room); (case ku => ktr_units); (case kS => exact hSides); (case kN => exact hNumb); intro x9 dx9 aP9 aS9 aG9 aF9 aI9 pv9 ev9 nx9 k1 k2 k3 k4 k5 k6 k7 k8 k9 k10 q1 q2 q3 q4 q5 q6 q7 g1 g2 f1 f2 i1 i2 h9 tk9 F9 V9 N9; (try dsimp only))
              k_steps
              (with_reducible rename Fr _ _ _ _ => hF15)
              (with_reducible rename News _ _ _ _ => hN15)
              refine ⟨_, _, _, _, _, _, _, _, _, _, _, _, _, _, _, _, _, _, _, _, _, _, _, _, _, _, _, _, _, _, _, _, _, _, _, _, _, _, rfl, hF15, ⟨⟨_, _, _, _, _, _, rfl, rfl, rfl, rfl, rfl, rfl, rfl, rfl⟩, _, _, _, rfl, rfl, rfl⟩, rfl, by assumption, ?n1, ?n2, news_of hN15 (List.forall_mem_cons.mpr ⟨by k_mem, List.forall_mem_cons.mpr ⟨by k_mem, List.forall_mem_cons.mpr ⟨by k_mem, List.forall_mem_cons.mpr ⟨by k_mem, List.forall_mem_cons.mpr ⟨by k_mem, List.forall_mem_cons.mpr ⟨by k_mem, List.forall_mem_cons.mpr ⟨by k_mem, ?_⟩⟩⟩⟩⟩⟩⟩)⟩
              case n1 => decide +kernel
              case n2 => decide +kernel
              refine List.forall_mem_cons.mpr ⟨?_, ?_⟩
              · (repeat (apply List.mem_cons_of_mem)); exact List.mem_append_right _ (List.Mem.head _)
              · intro q hq; (repeat (apply List.mem_cons_of_mem)); exact List.mem_append_left _ hq
            · subst hT1 hT
              have hb2 : (bl != 1) = true := by simp [hb1]
              have hSides := sides_one (b := b) hA hB ⟨S, z, hW⟩ okF lF okE lE
              k_with "call ref" => (with_unfolding_all refine' pp_call ?k1 ?k2 ?k3 ?k4 ?k5 ?kK ?kd ?ku ?kS ?kN ?_; (case k1 => k_asm); (case k2 => k_asm); (case k3 => k_asm); (case k4 => k_asm); (case k5 => k_asm); (case kK => first | exact rfl | assumption); (case kd => ktr_room); (case ku => ktr_units); (case kS => exact hSides); (case kN => exact hNumb); intro x9 dx9 aP9 aS9 aG9 aF9 aI9 pv9 ev9 nx9 k1 k2 k3 k4 k5 k6 k7 k8 k9 k10 q1 q2 q3 q4 q5 q6 q7 g1 g2 f1 f2 i1 i2 h9 tk9 F9 V9 N9; (try dsimp only))
              k_with "binaryOp Add str str" => (refine add_gen (a := [45]) (show Str.ofString "-" = sl [45] by decide +kernel) rfl (by simp only [List.length_cons, List.length_nil]; omega) ?_; intro t9 tk9)
              k_steps
              · (with_reducible rename Fr _ _ _ _ => hF15)
                (with_reducible rename News _ _ _ _ => hN15)
                refine ⟨_, _, _, _, _, _, _, _, _, _, _, _, _, _, _, _, _, _, _, _, _, _, _, _, _, _, _, _, _, _, _, _, _, _, _, _, _, _, rfl, hF15, ⟨⟨_, _, _, _, _, _, rfl, rfl, rfl, rfl, rfl, rfl, rfl, rfl⟩, _, _, _, rfl, rfl, rfl⟩, rfl, by assumption, ?n1, ?n2, news_of hN15 (List.forall_mem_cons.mpr ⟨by k_mem, List.forall_mem_cons.mpr ⟨by k_mem, List.forall_mem_cons.mpr ⟨by k_mem, List.forall_mem_cons.mpr ⟨by k_mem, List.forall_mem_cons.mpr ⟨by k_mem, List.forall_mem_cons.mpr ⟨by k_mem, List.forall_mem_cons.mpr ⟨by k_mem, ?_⟩⟩⟩⟩⟩⟩⟩)⟩
                case n1 => (rw [sl_length]; simp only [List.length_append, List.length_cons, List.length_nil]; omega)
                case n2 => (rw [sl_length]; omega)
                refine List.forall_mem_cons.mpr ⟨?_, ?_⟩
                · (repeat (apply List.mem_cons_of_mem)); exact List.mem_append_right _ (List.Mem.head _)
                · intro q hq; (repeat (apply List.mem_cons_of_mem)); exact List.mem_append_left _ hq
              all_goals (first | (exfalso; omega) | (exact Bool.noConfusion ((beq_self_eq_true (sl (45 :: A))).symm.trans (by assumption))) | (exfalso; simp_all; done))
          case tail =>
            rintro s' ⟨m5, h5, tk5, x, dx, aP, aS, aG, aF, aI, NP, NS, pv, ev, nx, k1, k2, k3, k4, k5, k6, k7, k8, k9, k10, q1, q2, q3, q4, q5, q6, q7, g1, g2, f1, f2, i1, i2, rfl, hF16, ⟨⟨t1, t2, t3, t4, t5, t6, e1, e2, e3, e4, e5, e6, e7, e8⟩, u1, u2, u3, e9, e10, e11⟩, e12, hEV, lNP, lNS, hN16⟩
            have hF17 := Fr.overs hF16 [(Str.ofString "script", _), (Str.ofString "whole", _), (Str.ofString "signs", _), (Str.ofString "sizes", _), (Str.ofString "fraction", _), (Str.ofString "exponent", _), (Str.ofString "ahead", _), (Str.ofString "behind", _), (Str.ofString "number", _), (Str.ofString "plus", _), (Str.ofString "text", _), (Str.ofString "made", _)] (by
              (repeat (refine List.forall_mem_cons.mpr ⟨by assumption, ?_⟩)); exact List.forall_mem_nil _)
            simp only [List.foldr_cons, List.foldr_nil] at hF17
            clear hF16 e1 e2 e3 e4 e5 e6 e7 e8 e9 e10 e11 e12 hF14 hN13 hNumb hbl hT
            simp only [madeL] at hN16
            rw [tupI_sl, tupI_sl, nd_ok2 okF, show nz W = nz S from congrArg Nat.cast hW.zeros, show nd W = (S.length : Nat) from congrArg Nat.cast hW.digits] at hN16
            simp only [List.drop_succ_cons, List.drop_zero]
            generalize hg1 : (grp (sl W)).1 = gv1 at hN16
            generalize hg2 : (grp (sl W)).2 = gv2 at hN16
            refine cut_at 1 (MidGrp hF17 hL1 hN16 D W S F E A Bh T b x gv1 gv2) ?head ?tail
            case head =>
              simp only [List.take_succ_cons, List.take_zero]
              have hz := hW.zlen
              have hgr := hW.group
              rcases z with _ | ⟨a, _ | ⟨b', _ | ⟨c, _ | ⟨d, _ | _⟩⟩⟩⟩
              · exact absurd hz.1 (by decide)
              · obtain ⟨v1, rfl⟩ := ints_one hIz
                rw [if_pos (show [a].length = 1 from rfl)] at hgr
                have e1 : gv1 = 1000 := by rw [← hg1, hgr]
                have e2 : gv2 = 1000 := by rw [← hg2, hgr]
                clear hg1 hg2 hgr
                subst e1 e2
                k_steps
                (with_reducible rename Fr _ _ _ _ => hF18)
                (with_reducible rename News _ _ _ _ => hN18)
                exact ⟨_, _, _, _, _, _, rfl, hF18, ⟨⟨⟨_, _, _, _, _, _, rfl, rfl, rfl, rfl, rfl, rfl, rfl, rfl⟩, _, _, _, rfl, rfl, rfl⟩, rfl⟩, rfl, news_of hN18 (by intro q hq; exact hq)⟩
              · obtain ⟨v1, v2, rfl⟩ := ints_two hIz
                rw [if_neg (show ¬ [a, b'].length = 1 by simp)] at hgr
                have e1 : gv1 = a := by rw [← hg1, hgr]; rfl
                have e2 : gv2 = a := by rw [← hg2, hgr]; rfl
                clear hg1 hg2 hgr
                subst e1 e2
                k_steps
                (with_reducible rename Fr _ _ _ _ => hF18)
                (with_reducible rename News _ _ _ _ => hN18)
                exact ⟨_, _, _, _, _, _, rfl, hF18, ⟨⟨⟨_, _, _, _, _, _, rfl, rfl, rfl, rfl, rfl, rfl, rfl, rfl⟩, _, _, _, rfl, rfl, rfl⟩, rfl⟩, rfl, news_of hN18 (by intro q hq; exact hq)⟩
              · obtain ⟨v1, v2, v3, rfl⟩ := ints_three hIz
                rw [if_neg (show ¬ [a, b', c].length = 1 by simp)] at hgr
                have e1 : gv1 = a := by rw [← hg1, hgr]; rfl
                have e2 : gv2 = b' := by rw [← hg2, hgr]; rfl
                clear hg1 hg2 hgr
                subst e1 e2
                k_steps
                (with_reducible rename Fr _ _ _ _ => hF18)
                (with_reducible rename News _ _ _ _ => hN18)
                exact ⟨_, _, _, _, _, _, rfl, hF18, ⟨⟨⟨_, _, _, _, _, _, rfl, rfl, rfl, rfl, rfl, rfl, rfl, rfl⟩, _, _, _, rfl, rfl, rfl⟩, rfl⟩, rfl, news_of hN18 (by intro q hq; exact hq)⟩
              · obtain ⟨v1, v2, v3, v4, rfl⟩ := ints_four hIz
                rw [if_neg (show ¬ [a, b', c, d].length = 1 by simp)] at hgr
                have e1 : gv1 = a := by rw [← hg1, hgr]; rfl
                have e2 : gv2 = b' := by rw [← hg2, hgr]; rfl
                clear hg1 hg2 hgr
                subst e1 e2
                k_steps
                (with_reducible rename Fr _ _ _ _ => hF18)
                (with_reducible rename News _ _ _ _ => hN18)
                exact ⟨_, _, _, _, _, _, rfl, hF18, ⟨⟨⟨_, _, _, _, _, _, rfl, rfl, rfl, rfl, rfl, rfl, rfl, rfl⟩, _, _, _, rfl, rfl, rfl⟩, rfl⟩, rfl, news_of hN18 (by intro q hq; exact hq)⟩
              · exact absurd hz.2 (by simp)
            case tail =>
              rintro s' ⟨m6, h6, tk6, G, v1, v2, rfl, hF19, ⟨⟨⟨t1, t2, t3, t4, t5, t6, e1, e2, e3, e4, e5, e6, e7, e8⟩, u1, u2, u3, e9, e10, e11⟩, e12⟩, e13, hN19⟩
              have hF20 := Fr.overs hF19 [(Str.ofString "script", _), (Str.ofString "whole", _), (Str.ofString "signs", _), (Str.ofString "sizes", _), (Str.ofString "fraction", _), (Str.ofString "exponent", _), (Str.ofString "ahead", _), (Str.ofString "behind", _), (Str.ofString "number", _), (Str.ofString "plus", _), (Str.ofString "text", _), (Str.ofString "made", _), (Str.ofString "group", _)] (by
                (repeat (refine List.forall_mem_cons.mpr ⟨by assumption, ?_⟩)); exact List.forall_mem_nil _)
              simp only [List.foldr_cons, List.foldr_nil] at hF20
              clear hF19 e1 e2 e3 e4 e5 e6 e7 e8 e9 e10 e11 e12 e13 hF17 hN16 hg1 hg2
              simp only [List.drop_succ_cons, List.drop_zero]
              k_with "call builtin:str.count" => (refine count_call ?_; intro t9 tk9)
              k_with "call builtin:len" => (refine len_sl (by omega) ?_; intro t9 tk9)
              k_with "compareOp NotEq ref ref" => ((k_dflt (refine' ne_dataH ?xa ?xb ?xc ?xd ?xe ?_; (case xa => ked_read); (case xb => ked_read); (case xc => first | rfl | decide); (case xd => first | rfl | decide); (case xe => ke_room))); ked_norm)
              have lS := hW.shortS
              refine cut_at 2 (MidGof hF20 hL1 hN19 (fun l m' => LV2 m' l D W S F E A Bh T b ∧ m' (Str.ofString "made") = some (.ref x))) ?head ?tail
              case head =>
                simp only [List.take_succ_cons, List.take_zero]
                have hne : (sl (numT W F) != sl (numT W F)) = false := bne_self_eq_false _
                k_steps
                all_goals first | (exact Bool.noConfusion (hne.symm.trans (by assumption))) | skip
                (with_reducible rename Fr _ _ _ _ => hF21)
                (with_reducible rename News _ _ _ _ => hN21)
                exact ⟨_, _, _, rfl, hF21, ⟨⟨⟨_, _, _, _, _, _, rfl, rfl, rfl, rfl, rfl, rfl, rfl, rfl⟩, _, _, _, rfl, rfl, rfl⟩, rfl⟩, news_of hN21 (by intro q hq; repeat (first | exact hq | apply List.mem_cons_of_mem))⟩
              case tail =>
                rintro s' ⟨m7, h7, tk7, rfl, hF22, ⟨⟨⟨t1, t2, t3, t4, t5, t6, e1, e2, e3, e4, e5, e6, e7, e8⟩, u1, u2, u3, e9, e10, e11⟩, e12⟩, hN22⟩
                have hF23 := Fr.overs hF22 [(Str.ofString "script", _), (Str.ofString "whole", _), (Str.ofString "signs", _), (Str.ofString "sizes", _), (Str.ofString "fraction", _), (Str.ofString "exponent", _), (Str.ofString "ahead", _), (Str.ofString "behind", _), (Str.ofString "number", _), (Str.ofString "plus", _), (Str.ofString "text", _), (Str.ofString "made", _)] (by
                  (repeat (refine List.forall_mem_cons.mpr ⟨by assumption, ?_⟩)); exact List.forall_mem_nil _)
                simp only [List.foldr_cons, List.foldr_nil] at hF23
                clear hF22 e1 e2 e3 e4 e5 e6 e7 e8 e9 e10 e11 e12 hF20 hN19
                simp only [List.drop_succ_cons, List.drop_zero]
                refine cut_at 2 (MidGof hF23 hL1 hN22 (fun l m' => LV2 m' l D W S F E A Bh T b ∧ m' (Str.ofString "made") = some (.ref x))) ?head ?tail
                case head =>
                  simp only [List.take_succ_cons, List.take_zero]
                  by_cases hE0 : E = []
                  · subst hE0
                    obtain ⟨rfl, rfl, rfl⟩ : pv = .none ∧ ev = .none ∧ nx = [] := by simpa [XO, EVals] using hEV
                    have hE1 : (sl [] != Str.ofString "") = false := by decide +kernel
                    k_steps
                    all_goals first | (exact Bool.noConfusion ((show (_ : Bool) = true by assumption).symm.trans (by assumption))) | skip
                    (with_reducible rename Fr _ _ _ _ => hF24)
                    (with_reducible rename News _ _ _ _ => hN24)
                    exact ⟨_, _, _, rfl, hF24, ⟨⟨⟨_, _, _, _, _, _, rfl, rfl, rfl, rfl, rfl, rfl, rfl, rfl⟩, _, _, _, rfl, rfl, rfl⟩, rfl⟩, news_of hN24 (by intro q hq; repeat (first | exact hq | apply List.mem_cons_of_mem))⟩
                  · obtain ⟨rfl, e, te, ue, rfl, rfl⟩ : pv = .bool b ∧ ∃ e t u, ev = .ref e ∧ nx = [(e, tupI (sl E) t u)] := by simpa [XO, EVals, hE0] using hEV
                    rw [tupI_sl, nd_ok2 okE] at hN22
                    have hE1 : (sl E != Str.ofString "") = true := by
                      cases hq : (sl E != Str.ofString "") with
                      | true => rfl
                      | false => exact absurd (eq_of hq) hE0
                    cases b
                    · have hb9 : (sl (PL false) == Str.ofString "+") = false := by decide +kernel
                      k_steps
                      all_goals first | (exact Bool.noConfusion ((show (_ : Bool) = true by assumption).symm.trans (by assumption))) | skip
                      (with_reducible rename Fr _ _ _ _ => hF24)
                      (with_reducible rename News _ _ _ _ => hN24)
                      exact ⟨_, _, _, rfl, hF24, ⟨⟨⟨_, _, _, _, _, _, rfl, rfl, rfl, rfl, rfl, rfl, rfl, rfl⟩, _, _, _, rfl, rfl, rfl⟩, rfl⟩, news_of hN24 (by intro q hq; rw [tupI_sl, nd_ok2 okE] at hq; repeat (first | exact hq | apply List.mem_cons_of_mem))⟩
                    · have hb9 : (sl (PL true) == Str.ofString "+") = true := by decide +kernel
                      k_steps
                      all_goals first | (exact Bool.noConfusion ((show (_ : Bool) = true by assumption).symm.trans (by assumption))) | skip
                      (with_reducible rename Fr _ _ _ _ => hF24)
                      (with_reducible rename News _ _ _ _ => hN24)
                      exact ⟨_, _, _, rfl, hF24, ⟨⟨⟨_, _, _, _, _, _, rfl, rfl, rfl, rfl, rfl, rfl, rfl, rfl⟩, _, _, _, rfl, rfl, rfl⟩, rfl⟩, news_of hN24 (by intro q hq; rw [tupI_sl, nd_ok2 okE] at hq; repeat (first | exact hq | apply List.mem_cons_of_mem))⟩
                case tail =>
                  rintro s' ⟨m8, h8, tk8, rfl, hF25, ⟨⟨⟨t1, t2, t3, t4, t5, t6, e1, e2, e3, e4, e5, e6, e7, e8⟩, u1, u2, u3, e9, e10, e11⟩, e12⟩, hN25⟩
                  have hF26 := Fr.overs hF25 [(Str.ofString "made", _)] (by
                    (repeat (refine List.forall_mem_cons.mpr ⟨by assumption, ?_⟩)); exact List.forall_mem_nil _)
                  simp only [List.foldr_cons, List.foldr_nil] at hF26
                  clear hF25 e1 e2 e3 e4 e5 e6 e7 e8 e9 e10 e11 e12 hF23 hN22
                  simp only [List.drop_succ_cons, List.drop_zero]
                  have lA2 : (sl A).length ≤ 100 := by rw [sl_length]; omega
                  have lB2 : (sl Bh).length ≤ 100 := by rw [sl_length]; omega
                  k_with "call builtin:str.join" => (refine' join_tupleC ?hl ?si ?hs ?sz ?_; (case hl => exact News.isTup (by assumption) (.head _)); (case si => (repeat constructor)); (case hs => decide); (case sz => (simp only [List.map_cons, List.map_nil, List.sum_cons, List.sum_nil, List.length_cons, List.length_nil]; omega)); intro t9 tk9; (try dsimp only))
                  generalize hJ : Txt.join (Str.ofString "") [sl A, NP, sl Bh, NS] = J at hN25
                  cases h2 : (occ J (Str.ofString "%")).isEmpty with
                  | false =>
                    rw [show scaleOf J = 2 by unfold scaleOf; rw [if_pos h2]] at hN25
                    subst hJ
                    k_steps
                    all_goals (try dsimp only)
                    exact goodWG_reads (d := ofPy (.bool true)) (as := []) (by assumption) (by assumption) (by row_bare) (raisesW_false (by wrow_none_raised)) (readsW_of_reads (.bool true)) unshared_nil (post_ok _) rfl
                  | true =>
                    cases h3 : (occ J (Str.ofString "‰")).isEmpty with
                    | false =>
                      rw [show scaleOf J = 3 by unfold scaleOf; rw [if_neg (by rw [h2]; decide), if_pos h3]] at hN25
                      subst hJ
                      k_steps
                      all_goals (try dsimp only)
                      exact goodWG_reads (d := ofPy (.bool true)) (as := []) (by assumption) (by assumption) (by row_bare) (raisesW_false (by wrow_none_raised)) (readsW_of_reads (.bool true)) unshared_nil (post_ok _) rfl
                    | true =>
                      rw [show scaleOf J = 0 by unfold scaleOf; rw [if_neg (by rw [h2]; decide), if_neg (by rw [h3]; decide)]] at hN25
                      subst hJ
                      k_steps
                      all_goals (try dsimp only)
                      exact goodWG_reads (d := ofPy (.bool true)) (as := []) (by assumption) (by assumption) (by row_bare) (raisesW_false (by wrow_none_raised)) (readsW_of_reads (.bool true)) unshared_nil (post_ok _) rfl
end Mine
end

theorem PySem.Challenge.cw_ey0010_01_holds : PySem.Challenge.rw_ey0010_01.Holds :=
  Mine.t
