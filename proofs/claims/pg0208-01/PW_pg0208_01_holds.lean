import PyProof.Rows.All
import Wide.All
import OpenK.AllK
import Wide.FinOn
import KE.BitLaws
import PySem.Challenge.RW_pg0208_01
set_option Elab.async false
section
open PySem PySem.W PyProof.Rows
set_option Elab.async false
namespace Mine
set_option maxRecDepth 100000 in
set_option maxHeartbeats 8000000 in
open_top hd for PySem.Challenge.rw_pg0208_01
end Mine
end
theorem Mine.topOff : True := by w_top off; trivial
section
open PySem PySem.W PyProof.Rows PySem.Calls
set_option Elab.async false
set_option maxRecDepth 100000
namespace Mine
structure Room (n : Nat) (A : Around) (env : Env) (outer : List Env) (L : Addr) : Prop where
  fr : A.frames = some (env :: outer)
  me : env.frame = some L
  kind : env.scope.kind = .function
  depth : A.depth + n < 1000
  units : A.units + 100 * n < 9900
  hh : A.handled = none
theorem Room.deeper {n : Nat} {A : Around} {env env' : Env} {outer : List Env} {L L' : Addr} (h : Room (n + 1) A env outer L) (hf : env'.frame = some L') (hk : env'.scope.kind = .function) :
    Room n (A.deeper env') env' (env :: outer) L' := by
  refine ⟨Around.frames_deeper h.fr, hf, hk, ?_, ?_, h.hh⟩
  · have := h.depth; show A.depth + 1 + n < 1000; omega
  · have := h.units; show A.units + 3 + 100 * n < 9900; omega
theorem Room.less {n k : Nat} {A : Around} {env : Env} {outer : List Env} {L : Addr} (h : Room n A env outer L) (hk : k ≤ n) : Room k A env outer L := by
  refine ⟨h.fr, h.me, h.kind, ?_, ?_, h.hh⟩
  · have := h.depth; omega
  · have := h.units; omega
theorem Room.in1 {n : Nat} {A : Around} {env : Env} {outer : List Env} {L : Addr} (h : Room (n + 1) A env outer L) : Room n A.in1 env outer L := by
  refine ⟨h.fr, h.me, h.kind, ?_, ?_, h.hh⟩
  · have := h.depth; show A.depth + n < 1000; omega
  · have := h.units; show A.units + 1 + 100 * n < 9900; omega
theorem Room.lim {n : Nat} {A : Around} {env : Env} {outer : List Env} {L : Addr} (h : Room n A env outer L) : A.depth < recursionLimit := by
  have := h.depth; simp only [recursionLimit]; omega
theorem Room.cl {n : Nat} {A : Around} {env : Env} {outer : List Env} {L : Addr} (h : Room n A env outer L) : A.units < cLine := by
  have := h.units; simp only [cLine]; omega
theorem fillK : (fun (_ : OpenLaw) (_ : Params → Frag) => True) PySem.Challenge.rw_pg0208_01 hd.heap_39 := by k_fill; trivial
end Mine
end
section
open PySem PySem.W PyProof.Rows PySem.Calls
set_option Elab.async false
set_option maxRecDepth 100000
set_option linter.unusedVariables false
namespace Mine
theorem fillK_F1 : (fun (_ : OpenLaw) (_ : Params → Frag) => True) PySem.Challenge.rw_pg0208_01 hd.heap_39 := by k_fill; trivial
section
variable {prog : Program} {w : World} {A₀ A : Around} {s : Shared} {base h₀ : Heap} {outer : List Env} {L : Addr} {m : Str → Option Value} {env : Env} {news : List (Addr × Obj)}
  {loose : List Str} {mean : ExcName → Option Value} {mg mb : Str → Option Value} {R : Result → Shared → Prop}

def nm (p : Nat) : Str := ⟨#[94, 64 + p]⟩
section
variable {E : Value → Shared → Prop} {Q : Value → Shared → Prop} {i : Int} {t u : Tok}
theorem my_and31 (h : Q (.int (i % 32) s.toks) { s with toks := s.toks + 1 }) : wpAny (model prog w) A (binaryOp .BitAnd (.int i t) (.int 31 u)) Q E s :=
  and_int (by rw [bitAnd_m5]; exact h)
theorem my_and127 (h0 : 0 ≤ i) (h1 : i < 32) (h : Q (.int i s.toks) { s with toks := s.toks + 1 }) : wpAny (model prog w) A (binaryOp .BitAnd (.int i t) (.int 127 u)) Q E s :=
  and_int (by rw [bitAnd_m7, show i % 128 = i by omega]; exact h)
theorem and128_small : ∀ n : Nat, n < 32 → n &&& 128 = 0 := by decide +kernel
theorem and32_small : ∀ n : Nat, n < 32 → n &&& 32 = 0 := by decide +kernel
theorem my_and128 (h0 : 0 ≤ i) (h1 : i < 32) (h : Q (.int 0 s.toks) { s with toks := s.toks + 1 }) : wpAny (model prog w) A (binaryOp .BitAnd (.int i t) (.int 128 u)) Q E s :=
  and_int (by
    have e : Builtin.bitAnd i 128 = 0 := by
      rw [bitAnd_pp h0 (by decide)]
      have := and128_small i.toNat (by omega)
      rw [show ((128 : Int).toNat) = 128 from rfl, this]; rfl
    rw [e]; exact h)
theorem my_or32 (h0 : 0 ≤ i) (h1 : i < 32) (h : Q (.int (i + 32) s.toks) { s with toks := s.toks + 1 }) : wpAny (model prog w) A (binaryOp .BitOr (.int i t) (.int 32 u)) Q E s :=
  or_int (by
    have e : Builtin.bitOr i 32 = i + 32 := by
      rw [bitOr_and, bitAnd_pp h0 (by decide)]
      have := and32_small i.toNat (by omega)
      rw [show ((32 : Int).toNat) = 32 from rfl, this]; omega
    rw [e]; exact h)
end

local macro_rules | `(tactic| walk_at "binaryOp BitAnd int int") => `(tactic| (k_here; (with_reducible show wpAny _ _ (binaryOp _ (Value.int _ _) (Value.int 31 _)) _ _ _); refine my_and31 ?_))
local macro_rules | `(tactic| walk_at "binaryOp BitAnd int int") => `(tactic| (k_here; (with_reducible show wpAny _ _ (binaryOp _ (Value.int _ _) (Value.int 127 _)) _ _ _); refine my_and127 (by omega) (by omega) ?_))
local macro_rules | `(tactic| walk_at "binaryOp BitAnd int int") => `(tactic| (k_here; (with_reducible show wpAny _ _ (binaryOp _ (Value.int _ _) (Value.int 128 _)) _ _ _); refine my_and128 (by omega) (by omega) ?_))
local macro_rules | `(tactic| walk_at "binaryOp BitOr int int") => `(tactic| (k_here; (with_reducible show wpAny _ _ (binaryOp _ (Value.int _ _) (Value.int 32 _)) _ _ _); refine my_or32 (by omega) (by omega) ?_))
local macro_rules | `(tactic| walk_at "call builtin:chr") => `(tactic| (k_here; (with_reducible show wpAny _ _ (call (Value.builtin "chr") [Value.int _ _]) _ _ _); refine chr_of_range (by omega) (by omega) ?_))

set_option maxHeartbeats 8000000 in
theorem ctoi_int {i : Int} {t : Tok}  (B : Below A₀ base outer h₀) (F : Fr h₀ L s.heap m) (X : (Mine.hd.heap_39 w.params).In h₀) (N : News h₀ L s.heap news) (T : Top hd.view_39 loose mean mg mb h₀)
   (hR : Room 2 A env outer L)
   (k : ∀ h' tk , Fr h₀ L h' m → News h₀ L h' news → R (.ok (.ret (.int i t))) {s with heap := h', toks := tk}) :
   codeAny (model prog w) A (.call (.ref 45) ⟨[.int i t], []⟩) R s := by
  refine' code_def B F X N T hR.fr hR.me hR.kind ?k6 ?k7 hR.lim ?k9 ?kB ?_ ?c2 ?c3 ?c4 ?c5
  (case k6 => k_is); (case k7 => k_is); (case k9 => first | exact BindsTo.of_eq rfl | exact binds_K (by k_in) rfl (by k_is) rfl rfl rfl); (case c5 => decide); (case kB => exact locs rfl); (case c2 => exact rfl); (case c3 => exact rfl); (case c4 => exact rfl)
  k_whole; intro g' L' h' FG' F' N' B' X' T'; (try dsimp only); (try k_lift B'); (try k_fold)
  k_steps
  exact k _ _ (by assumption) (by assumption)

set_option maxHeartbeats 8000000 in
theorem ctoi_str {c : Nat} {t : Tok}  (B : Below A₀ base outer h₀) (F : Fr h₀ L s.heap m) (X : (Mine.hd.heap_39 w.params).In h₀) (N : News h₀ L s.heap news) (T : Top hd.view_39 loose mean mg mb h₀)
   (hR : Room 2 A env outer L)
   (k : ∀ h' tk tk', Fr h₀ L h' m → News h₀ L h' news → R (.ok (.ret (.int c tk'))) {s with heap := h', toks := tk}) :
   codeAny (model prog w) A (.call (.ref 45) ⟨[.str ⟨#[c]⟩ t], []⟩) R s := by
  refine' code_def B F X N T hR.fr hR.me hR.kind ?k6 ?k7 hR.lim ?k9 ?kB ?_ ?c2 ?c3 ?c4 ?c5
  (case k6 => k_is); (case k7 => k_is); (case k9 => first | exact BindsTo.of_eq rfl | exact binds_K (by k_in) rfl (by k_is) rfl rfl rfl); (case c5 => decide); (case kB => exact locs rfl); (case c2 => exact rfl); (case c3 => exact rfl); (case c4 => exact rfl)
  k_whole; intro g' L' h' FG' F' N' B' X' T'; (try dsimp only); (try k_lift B'); (try k_fold)
  k_steps
  exact k _ _ _ (by assumption) (by assumption)
local macro_rules | `(tactic| walk_at "call ref") => `(tactic| (k_here; (with_reducible show wpAny _ _ (call (Value.ref 45) [Value.int _ _]) _ _ _); k_dflt (refine' wpAny_call (ctoi_int ?B ?F ?X ?N ?T ?R ?_); (case B => k_asm); (case F => k_asm); (case X => k_asm); (case N => k_asm); (case T => k_asm); (case R => first | exact Room.less (Room.deeper (by assumption) rfl rfl) (by decide) | exact Room.less (by assumption) (by decide))); intro h' tk' F' N'; (try dsimp only); (try k_sweep)))
local macro_rules | `(tactic| walk_at "call ref") => `(tactic| (k_here; (with_reducible show wpAny _ _ (call (Value.ref 45) [Value.str _ _]) _ _ _); k_dflt (refine' wpAny_call (ctoi_str ?B ?F ?X ?N ?T ?R ?_); (case B => k_asm); (case F => k_asm); (case X => k_asm); (case N => k_asm); (case T => k_asm); (case R => first | exact Room.less (Room.deeper (by assumption) rfl rfl) (by decide) | exact Room.less (by assumption) (by decide))); intro h' tk' tk2' F' N'; (try dsimp only); (try k_sweep)))

set_option maxHeartbeats 8000000 in
theorem isprint_int {i : Int} {t : Tok}  (B : Below A₀ base outer h₀) (F : Fr h₀ L s.heap m) (X : (Mine.hd.heap_39 w.params).In h₀) (N : News h₀ L s.heap news) (T : Top hd.view_39 loose mean mg mb h₀)
   (hR : Room 3 A env outer L)
   (k : ∀ h' tk , Fr h₀ L h' m → News h₀ L h' news → R (.ok (.ret (.bool (decide (32 ≤ i ∧ i ≤ 126))))) {s with heap := h', toks := tk}) :
   codeAny (model prog w) A (.call (.ref 52) ⟨[.int i t], []⟩) R s := by
  refine' code_def B F X N T hR.fr hR.me hR.kind ?k6 ?k7 hR.lim ?k9 ?kB ?_ ?c2 ?c3 ?c4 ?c5
  (case k6 => k_is); (case k7 => k_is); (case k9 => first | exact BindsTo.of_eq rfl | exact binds_K (by k_in) rfl (by k_is) rfl rfl rfl); (case c5 => decide); (case kB => exact locs rfl); (case c2 => exact rfl); (case c3 => exact rfl); (case c4 => exact rfl)
  k_whole; intro g' L' h' FG' F' N' B' X' T'; (try dsimp only); (try k_lift B'); (try k_fold)
  k_steps
  · rw [show decide (i ≤ 126) = decide (32 ≤ i ∧ i ≤ 126) from decide_eq_decide.mpr (by omega)]
    exact k _ _ (by assumption) (by assumption)
  · rw [show decide (32 ≤ i) = decide (32 ≤ i ∧ i ≤ 126) from decide_eq_decide.mpr (by omega)]
    exact k _ _ (by assumption) (by assumption)

set_option maxHeartbeats 8000000 in
theorem ctrl_int {i : Int} {t : Tok}  (B : Below A₀ base outer h₀) (F : Fr h₀ L s.heap m) (X : (Mine.hd.heap_39 w.params).In h₀) (N : News h₀ L s.heap news) (T : Top hd.view_39 loose mean mg mb h₀)
   (hR : Room 3 A env outer L)
   (k : ∀ h' tk tk', Fr h₀ L h' m → News h₀ L h' news → R (.ok (.ret (.int (i % 32) tk'))) {s with heap := h', toks := tk}) :
   codeAny (model prog w) A (.call (.ref 59) ⟨[.int i t], []⟩) R s := by
  refine' code_def B F X N T hR.fr hR.me hR.kind ?k6 ?k7 hR.lim ?k9 ?kB ?_ ?c2 ?c3 ?c4 ?c5
  (case k6 => k_is); (case k7 => k_is); (case k9 => first | exact BindsTo.of_eq rfl | exact binds_K (by k_in) rfl (by k_is) rfl rfl rfl); (case c5 => decide); (case kB => exact locs rfl); (case c2 => exact rfl); (case c3 => exact rfl); (case c4 => exact rfl)
  k_whole; intro g' L' h' FG' F' N' B' X' T'; (try dsimp only); (try k_lift B'); (try k_fold)
  k_steps
  exact k _ _ _ (by assumption) (by assumption)

set_option maxHeartbeats 8000000 in
theorem ctrl_str {c : Nat} {t : Tok}  (B : Below A₀ base outer h₀) (F : Fr h₀ L s.heap m) (X : (Mine.hd.heap_39 w.params).In h₀) (N : News h₀ L s.heap news) (T : Top hd.view_39 loose mean mg mb h₀)
   (hR : Room 3 A env outer L)
   (k : ∀ h' tk tk', Fr h₀ L h' m → News h₀ L h' news → R (.ok (.ret (.str ⟨#[c % 32]⟩ tk'))) {s with heap := h', toks := tk}) :
   codeAny (model prog w) A (.call (.ref 59) ⟨[.str ⟨#[c]⟩ t], []⟩) R s := by
  refine' code_def B F X N T hR.fr hR.me hR.kind ?k6 ?k7 hR.lim ?k9 ?kB ?_ ?c2 ?c3 ?c4 ?c5
  (case k6 => k_is); (case k7 => k_is); (case k9 => first | exact BindsTo.of_eq rfl | exact binds_K (by k_in) rfl (by k_is) rfl rfl rfl); (case c5 => decide); (case kB => exact locs rfl); (case c2 => exact rfl); (case c3 => exact rfl); (case c4 => exact rfl)
  k_whole; intro g' L' h' FG' F' N' B' X' T'; (try dsimp only); (try k_lift B'); (try k_fold)
  k_steps
  have e : ((c : Int) % 32).toNat = c % 32 := by omega
  rw [e]
  exact k _ _ _ (by assumption) (by assumption)
local macro_rules | `(tactic| walk_at "call ref") => `(tactic| (k_here; (with_reducible show wpAny _ _ (call (Value.ref 52) [Value.int _ _]) _ _ _); k_dflt (refine' wpAny_call (isprint_int ?B ?F ?X ?N ?T ?R ?_); (case B => k_asm); (case F => k_asm); (case X => k_asm); (case N => k_asm); (case T => k_asm); (case R => first | exact Room.less (Room.deeper (by assumption) rfl rfl) (by decide) | exact Room.less (by assumption) (by decide))); intro h' tk' F' N'; (try dsimp only); (try k_sweep)))

set_option maxHeartbeats 8000000 in
theorem unctrl_int {p : Nat} {t : Tok} (hp : p < 32) (B : Below A₀ base outer h₀) (F : Fr h₀ L s.heap m) (X : (Mine.hd.heap_39 w.params).In h₀) (N : News h₀ L s.heap news) (T : Top hd.view_39 loose mean mg mb h₀)
   (hR : Room 4 A env outer L)
   (k : ∀ h' tk tk', Fr h₀ L h' m → News h₀ L h' news → R (.ok (.ret (.str (nm p) tk'))) {s with heap := h', toks := tk}) :
   codeAny (model prog w) A (.call (.ref 66) ⟨[.int p t], []⟩) R s := by
  refine' code_def B F X N T hR.fr hR.me hR.kind ?k6 ?k7 hR.lim ?k9 ?kB ?_ ?c2 ?c3 ?c4 ?c5
  (case k6 => k_is); (case k7 => k_is); (case k9 => first | exact BindsTo.of_eq rfl | exact binds_K (by k_in) rfl (by k_is) rfl rfl rfl); (case c5 => decide); (case kB => exact locs rfl); (case c2 => exact rfl); (case c3 => exact rfl); (case c4 => exact rfl)
  k_whole; intro g' L' h' FG' F' N' B' X' T'; (try dsimp only); (try k_lift B'); (try k_fold)
  k_steps
  · exfalso; omega
  · rw [show (Str.ofString "^" ++ ⟨#[((p : Int) + 32 + 32).toNat]⟩ : Str) = nm p from by
      rw [show ((p : Int) + 32 + 32).toNat = 64 + p by omega]; rfl]
    exact k _ _ _ (by assumption) (by assumption)

end
end Mine
end
section
open PySem PySem.W PyProof.Rows PySem.Calls
set_option Elab.async false
set_option maxRecDepth 100000
set_option linter.unusedVariables false
namespace Mine
open PySem.Sre in
theorem admitted_none {m : Sre.M} (hb : ∀ p seen, p < m.lim → ∃ seen', inSet m.code (m.text.getD p 0) m.code.size 5 true seen = .ok (false, seen')) :
    ∀ fuel p seen, ∃ seen', M.admitted m fuel p seen = .ok (none, seen') := by
  intro fuel
  induction fuel with
  | zero => intro p seen; exact ⟨_, rfl⟩
  | succ n ih =>
    intro p seen
    unfold M.admitted
    split
    · exact ⟨_, rfl⟩
    · rename_i hp
      obtain ⟨s1, e⟩ := hb p seen (by omega)
      rw [e]
      exact ih _ _
def codeN : Array Nat := #[14, 10, 4, 1, 1, 22, 0, 31, 16, 127, 0, 13, 7, 22, 0, 31, 16, 127, 0, 1]
def codeV : Array Nat := #[14, 14, 4, 1, 1, 9, 4294966783, 0, 0, 2147483648, 0, 0, 0, 0, 0, 13, 11, 9, 4294966783, 0, 0, 2147483648, 0, 0, 0, 0, 0, 1]
theorem inSetN (c : Nat) (hc : 32 ≤ c) (hd : c ≠ 127) (seen : Sre.Seen) : ∃ seen', Sre.inSet codeN c codeN.size 5 true seen = .ok (false, seen') := by
  refine ⟨((seen.add 22).add 16).add 0, ?_⟩
  show (if (decide (0 ≤ c) && decide (c ≤ 31)) = true then _ else (if (c == 127) = true then _ else Except.ok (!true, ((seen.add 22).add 16).add 0))) = _
  rw [if_neg (by simp; omega), if_neg (by simpa using hd)]
  rfl
theorem bitV : ∀ c < 256, 32 ≤ c → c ≠ 127 → ((codeV.getD (5 + (1 + c / 32)) 0).testBit (c % 32)) = false := by decide +kernel
theorem inSetV (c : Nat) (hc : 32 ≤ c) (hd : c ≠ 127) (seen : Sre.Seen) : ∃ seen', Sre.inSet codeV c codeV.size 5 true seen = .ok (false, seen') := by
  refine ⟨((seen.add 9).add 0), ?_⟩
  show (if (decide (c < 256) && (codeV.getD (5 + (1 + c / 32)) 0).testBit (c % 32)) = true then _ else Except.ok (!true, ((seen.add 9).add 0))) = _
  rw [if_neg ?_]
  · rfl
  · by_cases h : c < 256
    · rw [bitV c h hc hd]; simp
    · simp [h]
open PySem.Sre in
theorem from_none {code : Array Nat} {text : Array Nat} {lim : Nat} (m : M)
    (hi : (match ops[code.getD 0 0]? with | some .INFO => true | _ => false) = true) (h4 : (code.getD 2 0 == 4) = true)
    (hb : ∀ p seen, p < lim → ∃ seen', inSet code (text.getD p 0) code.size 5 true seen = .ok (false, seen'))
    (e1 : m.code = code) (e2 : m.text = text) (e3 : m.lim = lim) (e4 : m.outcome = none) (e5 : m.frames = []) :
    ((m.attemptFrom 0 true).runFor 4).outcome = some .failed := by
  obtain ⟨s1, e⟩ := admitted_none (m := m) (fun p seen hp => by rw [e1, e2]; exact hb p seen (e3 ▸ hp)) (m.lim + 1 - 0) 0 m.seen
  have hf : m.hasFirstSet = true := by unfold M.hasFirstSet; rw [Bool.and_eq_true, e1]; exact ⟨hi, h4⟩
  have ea : m.attemptFrom 0 true = M.say { m with seen := s1 } false := by
    unfold M.attemptFrom; rw [hf, e]; rfl
  rw [ea]
  obtain ⟨a1,a2,a3,a4,a5,a6,a7,a8,a9,a10,a11,a12,a13,a14,a15,a16,a17,a18,a19,a20,a21⟩ := m
  cases e4; cases e5; rfl
open PySem.Sre in
theorem driven {code : Array Nat} {text : Array Nat} {lim : Nat}
    (hi : (match ops[code.getD 0 0]? with | some .INFO => true | _ => false) = true) (h4 : (code.getD 2 0 == 4) = true)
    (hb : ∀ p seen, p < lim → ∃ seen', inSet code (text.getD p 0) code.size 5 true seen = .ok (false, seen')) :
    ((forSearch code text 0 0 lim false).runFor 4).outcome = some .failed := by
  unfold forSearch
  simp only []
  split
  · rfl
  · refine from_none _ hi h4 hb ?_ ?_ ?_ ?_ ?_ <;> rfl
theorem plainAttrs_rePattern : PlainAttrs "re.Pattern" :=
  ⟨⟨"object.__getattribute__", by rw [typeLookup_type, builtinLookup_eq_fast]; kernel_rfl, by decide +kernel⟩, by rw [typeLookup_type, builtinLookup_eq_fast]; kernel_rfl⟩
theorem slot_rePattern_search : Slot "re.Pattern" "search" "re.Pattern.search" :=
  .of (owner := "re.Pattern") (n := "search") (by rw [typeLookup_type, builtinLookup_eq_fast]; kernel_rfl) (by decide +kernel) (by decide +kernel) (by decide +kernel)
    (by first | exact .inl (by decide +kernel) | exact .inr (by decide +kernel)) (by rw [isSubtype_type]; kernel_rfl)
theorem type_rePattern_search : typeOf (.builtin "re.Pattern.search") = pure (.type "method_descriptor") := by show builtinType _ = _; rw [builtinType_eq_fast]; kernel_rfl
theorem entry_rePattern_search : entryFor table "re.Pattern.search" = some Builtin.«re.Pattern.search» := entryFor_of_tree (by kernel_rfl)
theorem owner_rePattern : Manifest.owners.lookup (String.ofList ("re.Pattern".toList.reverse).reverse) = some Manifest.sig_re_Pattern := by kernel_rfl
theorem args_rePattern_search (a b : Value) : argsOk "re.Pattern.search" ⟨[a, b], []⟩ := by
  unfold argsOk; rw [signature?_of (id := "re.Pattern.search") (n := ['h', 'c', 'r', 'a', 'e', 's']) (o := "re.Pattern".toList.reverse) (by kernel_rfl) owner_rePattern]; kernel_rfl

section
variable {prog : Program} {w : World} {A : Around} {E : Value → Shared → Prop} {s : Shared}
theorem forIn_any {M : Model} {Q : PUnit → Shared → Prop} {s : Shared} {body : Nat → PUnit → Sem (ForInStep PUnit)} (hb : ∀ i (R : ForInStep PUnit → Shared → Prop), R (.yield ⟨⟩) s → wpAny M A (body i ⟨⟩) R E s) (h : Q ⟨⟩ s) : ∀ l : List Nat,
    wpAny M A (forIn l PUnit.unit body) Q E s := by
  intro l
  induction l with
  | nil => rw [List.forIn_nil]; exact wpAny_pure h
  | cons a l ih =>
    rw [List.forIn_cons]
    exact wpAny_bind (hb a _ ih)
open PySem.Builtin.Re in
theorem search_none {a k : Addr} {oa ok : Obj} {x : Str} {t : Tok} {fs : Array Value} {its : Array Value} {n : Nat} {code : Array Nat} {Q : Value → Shared → Prop}
    (ha : s.heap.get? a = some oa) (da : oa.cls = .type "re.Pattern") (fa : oa.data = .fields fs) (f5 : fs.getD 5 .none = .ref k) (f6 : reRawNat (fs.getD 6 .none) = 0) (f2 : reRawNat (fs.getD 2 .none) = 0)
    (hk : s.heap.get? k = some ok) (dk : ok.data = .seq its n) (hc : (its.map reRawOf).map (·.toNat) = code)
    (hi : (match Sre.ops[code.getD 0 0]? with | some .INFO => true | _ => false) = true) (h4 : (code.getD 2 0 == 4) = true) (hx : x.cps.size < 2 ^ 62)
    (hb : ∀ p seen, p < x.cps.size → ∃ seen', Sre.inSet code (x.cps.getD p 0) code.size 5 true seen = .ok (false, seen'))
    (h : Q .none s) : wpAny (model prog w) A (call (.builtin "re.Pattern.search") [.ref a, .str x t]) Q E s := by
  refine wpAny_call_entry slot_rePattern_search ⟨_, ha, da⟩ entry_rePattern_search ?_ (args_rePattern_search _ _)
  unfold Builtin.«re.Pattern.search»
  refine wpAny_bind ?_
  unfold reTarget
  dsimp only
  have en : reNamed "re.Pattern.search" "search" ["string", "pos", "endpos"] 1 [Value.str x t] [] = pure [some (.str x t), none, none] := rfl
  rw [en]
  refine wpAny_bind (wpAny_pure ?_)
  dsimp only
  refine wpAny_bind (wpAny_pure (wpAny_bind (wpAny_pure ?_)))
  have ef : wpAny (model prog w) A.in1 (fieldsOf (Value.ref a)) (fun v s' => v = fs ∧ s = s') E s := by
    unfold fieldsOf
    refine wpAny_bind (wpAny_load ha ?_)
    rw [fa]; exact wpAny_pure ⟨rfl, rfl⟩
  refine wpAny_bind (wpAny_mono ef ?_ fun _ _ x => x)
  rintro _ _ ⟨rfl, rfl⟩
  have et : wpAny (model prog w) A.in1 (reTextOf (Value.str x t)) (fun v s' => v = (x.cps, 0) ∧ s = s') E s := by
    unfold reTextOf
    refine wpAny_bind (m := asStr? (.str x t)) (wpAny_pure ?_)
    exact wpAny_pure ⟨rfl, rfl⟩
  refine wpAny_bind (wpAny_mono et ?_ fun _ _ x => x)
  rintro _ _ ⟨rfl, rfl⟩
  dsimp only
  rw [if_neg (by simp), if_neg (by rw [f6]; simp)]
  refine wpAny_bind (m := reNoCollectionInside _ 0) (wpAny_pure ?_)
  rw [f5]
  have ei : wpAny (model prog w) A.in1 (reRawItems (Value.ref k)) (fun v s' => v = its.map reRawOf ∧ s = s') E s := by
    unfold reRawItems
    unfold seqItems?
    refine wpAny_bind (wpAny_bind (wpAny_load hk ?_))
    rw [dk]
    exact wpAny_pure (wpAny_pure ⟨rfl, rfl⟩)
  refine wpAny_bind (wpAny_mono ei ?_ fun _ _ x => x)
  rintro _ _ ⟨rfl, rfl⟩
  refine wpAny_pure ?_
  dsimp only
  unfold reAnswer
  dsimp only
  rw [hc, f2]
  have e0 : min (Int.toNat 0) x.cps.size = 0 := by simp
  have e1 : min (Int.toNat (2 ^ 63 - 1)) x.cps.size = x.cps.size := by
    have : Int.toNat (2 ^ 63 - 1) = 2 ^ 63 - 1 := by decide
    rw [this]; omega
  rw [e0, e1]
  refine wpAny_bind ?_
  unfold reRunToEnd
  have dr := driven (code := code) (text := x.cps) (lim := x.cps.size) hi h4 hb
  have ed : reDrive (2 ^ 64) (Sre.forSearch code x.cps 0 0 x.cps.size false) = pure ((Sre.forSearch code x.cps 0 0 x.cps.size false).runFor 4) := by
    rw [show (2 ^ 64 : Nat) = (2 ^ 64 - 1) + 1 from rfl]
    unfold reDrive
    show (if ((Sre.forSearch code x.cps 0 0 x.cps.size false).runFor 4).outcome.isSome = true then _ else _) = _
    rw [dr]; rfl
  rw [ed]
  refine wpAny_bind (wpAny_pure ?_)
  rw [dr]
  refine wpAny_bind (forIn_any (fun i R hR => ?_) ?_ _)
  · split
    · exact wpAny_bind (wpAny_rule (wpAny_pure hR))
    · exact wpAny_pure hR
  · exact wpAny_pure (wpAny_pure ⟨_, rfl, h⟩)
end
end Mine
end
section
open PySem PySem.W PyProof.Rows PySem.Calls
set_option Elab.async false
set_option maxRecDepth 100000
set_option linter.unusedVariables false
namespace Mine
theorem fillK_F2 : (fun (_ : OpenLaw) (_ : Params → Frag) => True) PySem.Challenge.rw_pg0208_01 hd.heap_39 := by k_fill; trivial
section
variable {prog : Program} {w : World} {A₀ A : Around} {s : Shared} {base h₀ : Heap} {outer : List Env} {L : Addr} {m : Str → Option Value} {env : Env} {news : List (Addr × Obj)}
  {loose : List Str} {mean : ExcName → Option Value} {mg mb : Str → Option Value} {R : Result → Shared → Prop}

def okX (x : Str) : Prop := (0 < x.cps.size ∧ x.cps.size < 9) ∧ ∀ p, p < x.cps.size → 32 ≤ x.cps.getD p 0 ∧ x.cps.getD p 0 ≠ 127 ∧ x.cps.getD p 0 < 256
section
variable {E : Value → Shared → Prop} {K : Frag} {a : Addr} {fs its : Array Value} {osl : Array (Option Value)}
theorem my_searchM {pl : Sem Bool} {Q : Value × List Value → Shared → Prop} (F : Fr h₀ L s.heap m) (X : K.In h₀) (hl : K.lookup a = some ⟨.type "re.Pattern", none, .fields fs, osl⟩)
    (h : Q (.builtin "re.Pattern.search", [.ref a]) s) : wpAny (model prog w) A (getMethod (.ref a) "search" pl) Q E s :=
  getMethod_builtin ⟨_, (X.keeps F.keep) _ _ hl, rfl⟩ plainAttrs_rePattern slot_rePattern_search type_rePattern_search (fun b e => by cases e; exact ⟨_, (X.keeps F.keep) _ _ hl, rfl⟩) h
theorem my_searchN {x : Str} {t : Tok} {Q : Value → Shared → Prop} (F : Fr h₀ L s.heap m) (X : (Mine.hd.heap_39 w.params).In h₀) (hx : okX x) (h : Q .none s) : wpAny (model prog w) A (call (.builtin "re.Pattern.search") [.ref 71, .str x t]) Q E s :=
  search_none (k := 70) (code := codeN) ((X.keeps F.keep) 71 _ rfl) rfl rfl rfl rfl rfl ((X.keeps F.keep) 70 _ rfl) rfl (by decide +kernel) rfl rfl (by have := hx.1; omega)
    (fun p seen hp => inSetN _ (hx.2 p hp).1 (hx.2 p hp).2.1 seen) h
theorem my_searchV {x : Str} {t : Tok} {Q : Value → Shared → Prop} (F : Fr h₀ L s.heap m) (X : (Mine.hd.heap_39 w.params).In h₀) (hx : okX x) (h : Q .none s) : wpAny (model prog w) A (call (.builtin "re.Pattern.search") [.ref 76, .str x t]) Q E s :=
  search_none (k := 75) (code := codeV) ((X.keeps F.keep) 76 _ rfl) rfl rfl rfl rfl rfl ((X.keeps F.keep) 75 _ rfl) rfl (by decide +kernel) rfl rfl (by have := hx.1; omega)
    (fun p seen hp => inSetV _ (hx.2 p hp).1 (hx.2 p hp).2.1 seen) h
end
local macro_rules | `(tactic| walk_at "getMethod ref") => `(tactic| (k_here; (with_reducible show wpAny _ _ (getMethod (Value.ref _) (PySem.Str.ofString "search") _) _ _ _); k_dflt (refine' my_searchM ?F ?X ?m ?_; (case F => k_asm); (case X => k_asm); (case m => k_is))))
local macro_rules | `(tactic| walk_at "call builtin:re.Pattern.search") => `(tactic| (k_here; (with_reducible show wpAny _ _ (call (Value.builtin _) [Value.ref 71, Value.str _ _]) _ _ _); k_dflt (refine' my_searchN ?F ?X (by assumption) ?_; (case F => k_asm); (case X => k_asm))))
local macro_rules | `(tactic| walk_at "call builtin:re.Pattern.search") => `(tactic| (k_here; (with_reducible show wpAny _ _ (call (Value.builtin _) [Value.ref 76, Value.str _ _]) _ _ _); k_dflt (refine' my_searchV ?F ?X (by assumption) ?_; (case F => k_asm); (case X => k_asm))))

set_option maxHeartbeats 8000000 in
theorem conv_name {x : Str} {t : Tok} {v : Value} (hx : okX x) (B : Below A₀ base outer h₀) (F : Fr h₀ L s.heap m) (X : (Mine.hd.heap_39 w.params).In h₀) (N : News h₀ L s.heap news) (T : Top hd.view_39 loose mean mg mb h₀)
   (hR : Room 2 A env outer L)
   (k : ∀ h' tk , Fr h₀ L h' m → News h₀ L h' news → R (.ok (.ret (.str x t))) {s with heap := h', toks := tk}) :
   codeAny (model prog w) A (.call (.ref 98) ⟨[v, .str x t], [("name", .bool true)]⟩) R s := by
  refine' code_def B F X N T hR.fr hR.me hR.kind ?k6 ?k7 hR.lim ?k9 ?kB ?_ ?c2 ?c3 ?c4 ?c5
  (case k6 => k_is); (case k7 => k_is); (case k9 => first | exact BindsTo.of_eq rfl | exact binds_K (by k_in) rfl (by k_is) rfl rfl rfl); (case c5 => decide); (case kB => exact locs rfl); (case c2 => exact rfl); (case c3 => exact rfl); (case c4 => exact rfl)
  k_whole; intro g' L' h' FG' F' N' B' X' T'; (try dsimp only); (try k_lift B'); (try k_fold)
  k_steps
  exact k _ _ (by assumption) (by assumption)

set_option maxHeartbeats 8000000 in
theorem conv_val {x : Str} {t : Tok} {v : Value} (hx : okX x) (B : Below A₀ base outer h₀) (F : Fr h₀ L s.heap m) (X : (Mine.hd.heap_39 w.params).In h₀) (N : News h₀ L s.heap news) (T : Top hd.view_39 loose mean mg mb h₀)
   (hR : Room 2 A env outer L)
   (k : ∀ h' tk , Fr h₀ L h' m → News h₀ L h' news → R (.ok (.ret (.str x t))) {s with heap := h', toks := tk}) :
   codeAny (model prog w) A (.call (.ref 98) ⟨[v, .str x t], [("name", .bool false)]⟩) R s := by
  refine' code_def B F X N T hR.fr hR.me hR.kind ?k6 ?k7 hR.lim ?k9 ?kB ?_ ?c2 ?c3 ?c4 ?c5
  (case k6 => k_is); (case k7 => k_is); (case k9 => first | exact BindsTo.of_eq rfl | exact binds_K (by k_in) rfl (by k_is) rfl rfl rfl); (case c5 => decide); (case kB => exact locs rfl); (case c2 => exact rfl); (case c3 => exact rfl); (case c4 => exact rfl)
  k_whole; intro g' L' h' FG' F' N' B' X' T'; (try dsimp only); (try k_lift B'); (try k_fold)
  k_steps
  exact k _ _ (by assumption) (by assumption)

end
end Mine
end
section
open PySem PySem.W PyProof.Rows PySem.Calls
set_option Elab.async false
set_option linter.unusedVariables false
set_option maxRecDepth 100000
namespace Mine
theorem memOf {α : Type} {a : α} {l : List α} (h : a ∈ l) : List.Mem a l := h
def lwC (p : Nat) : Nat := if 1 ≤ p ∧ p ≤ 26 then 96 + p else 64 + p
def lwS (p : Nat) : Str := ⟨#[94, lwC p]⟩
theorem lower_nm : ∀ p < 32, Txt.lower (nm p) = lwS p := by decide +kernel
theorem lower_lwS : ∀ p < 32, Txt.lower (lwS p) = lwS p := by decide +kernel
theorem lwS_inj : ∀ p < 32, ∀ q < 32, lwS q = lwS p → q = p := by decide +kernel
theorem okX_nm {p : Nat} (hp : p < 32) : okX (nm p) := by
  refine ⟨⟨by show 0 < 2; decide, by show 2 < 9; decide⟩, fun i hi => ?_⟩
  have hi2 : i < 2 := hi
  rcases (by omega : i = 0 ∨ i = 1) with rfl | rfl
  · exact ⟨by show 32 ≤ 94; decide, by show 94 ≠ 127; decide, by show 94 < 256; decide⟩
  · exact ⟨by show 32 ≤ 64 + p; omega, by show 64 + p ≠ 127; omega, by show 64 + p < 256; omega⟩
theorem okX_lwS {p : Nat} (hp : p < 32) : okX (lwS p) := by
  refine ⟨⟨by show 0 < 2; decide, by show 2 < 9; decide⟩, fun i hi => ?_⟩
  have hi2 : i < 2 := hi
  rcases (by omega : i = 0 ∨ i = 1) with rfl | rfl
  · exact ⟨by show 32 ≤ 94; decide, by show 94 ≠ 127; decide, by show 94 < 256; decide⟩
  · have h1 : 64 ≤ lwC p ∧ lwC p ≤ 122 := by unfold lwC; split <;> omega
    exact ⟨by show 32 ≤ lwC p; omega, by show lwC p ≠ 127; omega, by show lwC p < 256; omega⟩
theorem nm_inj {p q : Nat} (h : nm p = nm q) : p = q := by
  have : (64 + p : Nat) = 64 + q := by
    have := congrArg (fun x : Str => x.cps.getD 1 0) h
    exact this
  omega
/-- what name get, del are asked by: it lowers to the place's name -/
structure Nick (x : Str) (p : Nat) : Prop where
  low : Txt.lower x = lwS p
  lt : p < 32
theorem Nick.nm {p : Nat} (h : p < 32) : Nick (nm p) p := ⟨lower_nm p h, h⟩
theorem Nick.lw {p : Nat} (h : p < 32) : Nick (lwS p) p := ⟨lower_lwS p h, h⟩

def tupOf (e : Nat × Str) (t u : Tok) (k : Nat) : Obj := { cls := .type "tuple", data := .seq #[.str (nm e.1) t, .str e.2 u] k }
def EntIn (news : List (Addr × Obj)) (v : Value) (e : Nat × Str) : Prop := e.1 < 32 ∧ ∃ a t u k, v = .ref a ∧ (a, tupOf e t u k) ∈ news
inductive Ents (news : List (Addr × Obj)) : List Value → List (Nat × Str) → Prop
  | nil : Ents news [] []
  | cons {v vs e es} : EntIn news v e → Ents news vs es → Ents news (v :: vs) (e :: es)
theorem EntIn.mono {news news' : List (Addr × Obj)} {v e} (h : EntIn news v e) (hs : ∀ p ∈ news, p ∈ news') : EntIn news' v e :=
  ⟨h.1, let ⟨a, t, u, k, e, hm⟩ := h.2; ⟨a, t, u, k, e, hs _ hm⟩⟩
theorem Ents.mono {news news' : List (Addr × Obj)} {vs es} (h : Ents news vs es) (hs : ∀ p ∈ news, p ∈ news') : Ents news' vs es := by
  induction h with
  | nil => exact .nil
  | cons h _ ih => exact .cons (h.mono hs) ih
theorem Ents.len {news : List (Addr × Obj)} {vs es} (h : Ents news vs es) : vs.length = es.length := by
  induction h with
  | nil => rfl
  | cons _ _ ih => simp [ih]
theorem Ents.get {news : List (Addr × Obj)} {vs es} (h : Ents news vs es) : ∀ {i : Nat} {v : Value}, vs[i]? = some v → ∃ e, es[i]? = some e ∧ EntIn news v e := by
  induction h with
  | nil => intro i v h; simp at h
  | cons h _ ih =>
    intro i v hv
    cases i with
    | zero => simp at hv; subst hv; exact ⟨_, by simp, h⟩
    | succ i => simp at hv; obtain ⟨e, h1, h2⟩ := ih hv; exact ⟨e, by simpa using h1, h2⟩
theorem Ents.append {news : List (Addr × Obj)} {vs es ws fs} (h : Ents news vs es) (h' : Ents news ws fs) : Ents news (vs ++ ws) (es ++ fs) := by
  induction h with
  | nil => exact h'
  | cons h _ ih => exact .cons h ih
def look (es : List (Nat × Str)) (p : Nat) : Option Str := (es.find? fun e => e.1 == p).map (·.2)
theorem look_none {es : List (Nat × Str)} {p : Nat} (h : ∀ (j : Nat) (e : Nat × Str), es[j]? = some e → e.1 ≠ p) : look es p = none := by
  unfold look
  rw [List.find?_eq_none.mpr]
  · rfl
  · intro e he
    obtain ⟨j, hj⟩ := List.getElem?_of_mem he
    simpa using h j e hj
theorem look_some {es : List (Nat × Str)} {p i : Nat} {e : Nat × Str} (h : ∀ j < i, ∀ e : Nat × Str, es[j]? = some e → e.1 ≠ p) (hi : es[i]? = some e) (he : e.1 = p) : look es p = some e.2 := by
  unfold look
  have : es.find? (fun e => e.1 == p) = some e := by
    obtain ⟨hl, hx⟩ := List.getElem?_eq_some_iff.mp hi
    rw [List.find?_eq_some_iff_getElem]
    refine ⟨by simpa using he, i, hl, hx, fun j hj => ?_⟩
    have := h j hj es[j] (by simp [Nat.lt_trans hj hl])
    simpa using this
  rw [this]; rfl

/-- a table among the ledger: the thing T₁, its dict D, its list H, the tuples somewhere in the rest -/
structure Tb (T₁ D H : Nat) (rest : List (Addr × Obj)) (vs : List Value) (es : List (Nat × Str)) : Prop where
  dt : D ≠ T₁
  ht : H ≠ T₁
  hd : H ≠ D
  rt : ∀ p ∈ rest, p.1 ≠ T₁
  rd : ∀ p ∈ rest, p.1 ≠ D
  rh : ∀ p ∈ rest, p.1 ≠ H
  ents : Ents rest vs es
  few : es.length ≤ 32
  vals : ∀ e ∈ es, okX e.2
theorem Tb.fit {T₁ D H : Nat} {rest vs es} (h : Tb T₁ D H rest vs es) : vs.toArray.size ≤ sizeLine := by
  have h1 := h.ents.len
  have h2 := h.few
  rw [sizeLine_eq]; simp only [List.size_toArray]; omega
theorem Tb.add {T₁ D H a : Nat} {rest vs es} {p : Nat} {x : Str} {t u : Tok} (h : Tb T₁ D H rest vs es) (hp : p < 32) (hx : okX x) (hH : a ≠ H) (hT : a ≠ T₁) (hD : a ≠ D) (hf : es.length < 32) :
    Tb T₁ D H ((a, tupOf (p, x) t u 0) :: rest) (vs ++ [.ref a]) (es ++ [(p, x)]) where
  dt := h.dt
  ht := h.ht
  hd := h.hd
  rt := fun q hq => by rcases List.mem_cons.mp hq with rfl | hq; exact hT; exact h.rt q hq
  rd := fun q hq => by rcases List.mem_cons.mp hq with rfl | hq; exact hD; exact h.rd q hq
  rh := fun q hq => by rcases List.mem_cons.mp hq with rfl | hq; exact hH; exact h.rh q hq
  ents := (h.ents.mono fun q hq => .tail _ hq).append (.cons ⟨hp, _, _, _, _, rfl, .head _⟩ .nil)
  few := by rw [List.length_append]; show es.length + 1 ≤ 32; omega
  vals := fun e he => by
    rcases List.mem_append.mp he with he | he
    · exact h.vals e he
    · rw [List.mem_singleton.mp he]; exact hx
theorem Tb.more {T₁ D H : Nat} {rest own vs es} (h : Tb T₁ D H rest vs es) (ho : ∀ p ∈ own, p.1 ≠ T₁ ∧ p.1 ≠ D ∧ p.1 ≠ H) : Tb T₁ D H (rest ++ own) vs es where
  dt := h.dt
  ht := h.ht
  hd := h.hd
  rt := fun q hq => (List.mem_append.mp hq).elim (h.rt q) fun hq => (ho q hq).1
  rd := fun q hq => (List.mem_append.mp hq).elim (h.rd q) fun hq => (ho q hq).2.1
  rh := fun q hq => (List.mem_append.mp hq).elim (h.rh q) fun hq => (ho q hq).2.2
  ents := h.ents.mono fun q hq => List.mem_append_left _ hq
  few := h.few
  vals := h.vals
theorem off_own {T₁ D H I : Addr} {x y z : Obj} {rest own : List (Addr × Obj)} (hown : ∀ p ∈ own, p.1 = I ∧ p.2.cls ≠ .type "tuple") (hoff : ∀ p ∈ (H, x) :: (T₁, y) :: (D, z) :: rest, ¬ p.1 ∈ [I]) : ∀ p ∈ own, p.1 ≠ T₁ ∧ p.1 ≠ D ∧ p.1 ≠ H := by
  intro p hp
  have e := (hown p hp).1
  have h1 := hoff (H, x) (.head _)
  have h2 := hoff (T₁, y) (.tail _ (.head _))
  have h3 := hoff (D, z) (.tail _ (.tail _ (.head _)))
  rw [e]
  exact ⟨fun q => h2 (by rw [q]; exact .head _), fun q => h3 (by rw [q]; exact .head _), fun q => h1 (by rw [q]; exact .head _)⟩
def hdrs (P : Params) (tk : Tok) (H : Addr) : Obj := dictOf [{ hash := PyData.keyHash P (Str.ofString "_headers"), key := .str (Str.ofString "_headers") tk, val := .ref H }] 1

section
variable {prog : Program} {w : World} {A : Around} {s : Shared} {E : Value → Shared → Prop}
theorem my_lower {x : Str} {t : Tok} {p : Nat} {Q : Value → Shared → Prop} (hn : Nick x p) (h : Q (.str (lwS p) s.toks) { s with toks := s.toks + 1 }) : wpAny (model prog w) A (call (.builtin "str.lower") [.str x t]) Q E s := by
  have e := hn.low
  refine PySem.SC.lower ?_ ?_
  · rw [e]; rfl
  · rw [e]; exact h
end
theorem lt_ofAll {d : Addr} : ∀ {l : List (Addr × Obj)}, AllLt d l → ∀ p ∈ l, @LT.lt Nat _ p.1 d
  | [], _, _, h => nomatch h
  | q :: r, h, p, hp => by
    rcases List.mem_cons.mp hp with rfl | hp
    · exact h.1
    · exact lt_ofAll h.2 p hp
def optS (o : Option Str) (t : Tok) : Value := match o with | some x => .str x t | none => .none
theorem frame2U {f m : Str → Option Value} {a b : Str} (h : ∀ y, y ≠ a → y ≠ b → f y = m y) : f = fun y => if y = a then f y else if y = b then f y else m y := by
  funext y
  by_cases h1 : y = a
  · simp [h1]
  · by_cases h2 : y = b
    · simp [h2]
    · simp only [h1, h2, if_false]; exact h y h1 h2
theorem newsSub {h₀ h : Heap} {L : Addr} {news news' : List (Addr × Obj)} (N : News h₀ L h news) (hs : ∀ p ∈ news', p ∈ news) : News h₀ L h news' := fun p hp => N p (hs p hp)
theorem sub3r {α : Type} {x y z : α} {l r : List α} : ∀ p ∈ x :: y :: z :: l, p ∈ x :: y :: z :: (l ++ r) := by
  intro p hp
  simp only [List.mem_cons, List.mem_append] at hp ⊢
  rcases hp with h | h | h | h <;> simp [h]
theorem sub3o {α : Type} {x y z : α} {l r : List α} : ∀ p ∈ r, p ∈ x :: y :: z :: (l ++ r) := by
  intro p hp
  simp [hp]
theorem sub4r {α : Type} {x y z v : α} {l r : List α} : ∀ p ∈ x :: y :: z :: v :: l, p ∈ x :: y :: z :: v :: (l ++ r) := by
  intro p hp
  simp only [List.mem_cons, List.mem_append] at hp ⊢
  rcases hp with h | h | h | h | h <;> simp [h]
theorem sub4o {α : Type} {x y z v : α} {l r : List α} : ∀ p ∈ r, p ∈ x :: y :: z :: v :: (l ++ r) := by
  intro p hp
  simp [hp]
theorem off_new {I a : Addr} {x y z o : Obj} {H T₁ D : Addr} {x' : Obj} {rest : List (Addr × Obj)} (hoff : ∀ p ∈ (H, x) :: (T₁, y) :: (D, z) :: rest, ¬ p.1 ∈ [I]) (ha : a ≠ I) : ∀ p ∈ (H, x') :: (T₁, y) :: (D, z) :: (a, o) :: rest, ¬ p.1 ∈ [I] := by
  intro p hp
  simp only [List.mem_cons] at hp
  rcases hp with rfl | rfl | rfl | rfl | hp
  · exact hoff (H, x) (.head _)
  · exact hoff _ (.tail _ (.head _))
  · exact hoff _ (.tail _ (.tail _ (.head _)))
  · simpa using ha
  · exact hoff _ (.tail _ (.tail _ (.tail _ hp)))
theorem off_upd {I : Addr} {x y z : Obj} {H T₁ D : Addr} {x' : Obj} {rest : List (Addr × Obj)} (hoff : ∀ p ∈ (H, x) :: (T₁, y) :: (D, z) :: rest, ¬ p.1 ∈ [I]) : ∀ p ∈ (H, x') :: (T₁, y) :: (D, z) :: rest, ¬ p.1 ∈ [I] := by
  intro p hp
  simp only [List.mem_cons] at hp
  rcases hp with rfl | rfl | rfl | hp
  · exact hoff (H, x) (.head _)
  · exact hoff _ (.tail _ (.head _))
  · exact hoff _ (.tail _ (.tail _ (.head _)))
  · exact hoff _ (.tail _ (.tail _ (.tail _ hp)))
theorem ne_of_news {h₀ h : Heap} {L a I : Addr} {big : List (Addr × Obj)} {t o : Obj} (N : News h₀ L h big) (h1 : (a, t) ∈ big) (ht : t.cls = .type "tuple") (h2 : (I, o) ∈ big) (ho : o.cls ≠ .type "tuple") : a ≠ I := by
  intro e
  have g1 := (N _ h1).1
  have g2 := (N _ h2).1
  simp only [e] at g1
  rw [g1] at g2
  have e2 : t = o := Option.some.inj g2
  exact ho (e2 ▸ ht)
theorem frame2 (m : Str → Option Value) (a b : Str) : m = fun y => if y = a then m y else if y = b then m y else m y := by
  funext y; split <;> (try split) <;> rfl
section
variable {prog : Program} {w : World} {A : Around} {s : Shared} {E : Value → Shared → Prop} {h₀ : Heap} {L : Addr} {news : List (Addr × Obj)}
theorem my_item0 {value slice : PySem.Expr} {a : Addr} {v0 v1 : Value} {k : Nat} {u : Tok} {Q : Value → Shared → Prop} (N : News h₀ L s.heap news) (hm : (a, ({ cls := .type "tuple", data := .seq #[v0, v1] k } : Obj)) ∈ news) (h : Q v0 s)
    (hs : subscripted slice false (.ref a) (.int 0 u) = operate [.ref a, .int 0 u] (getItem (.ref a) (.int 0 u)) := by with_unfolding_all rfl) :
    wpAny (model prog w) A (subscriptTail value slice (.ref a) (.int 0 u)) Q E s :=
  item_tupleT (l := [v0, v1]) (j := 0) ⟨_, N.get hm, rfl, _, rfl⟩ (by decide) (by decide) rfl rfl h hs
end
section
variable {M : Model} {A : Around} {E : Value → Shared → Prop} {s : Shared} {K : Frag} {x C L f : Addr} {h₀ : Heap} {m : Str → Option Value} {ox : Obj} {od : Option Obj} {i : Value}
/-- an own object without a sequence's base hands its key on as it is -/
theorem key_own {name : Str} (X : K.In s.heap) (I : InstAt s.heap x ox C od) (hq : noSeq K C = true) : Looks M s.heap (sequenceKey (.ref x) i name) i := by
  unfold sequenceKey
  exact I.type.andThen ((anyM_none X hq).andThen .now)
theorem my_delItem {Q : Unit → Shared → Prop} (F : Fr h₀ L s.heap m) (X₀ : K.In h₀) (I : InstAt s.heap x ox C od) (hq : noSeq K C = true) (hs : findIn K (.ref C) "__delitem__" = some (some (.ref f))) (hf : isFn K (.ref f) = true)
    (h : wpAny M A (call (.ref f) [.ref x, i]) (fun _ => Q ()) E s) : wpAny M A (delItem (.ref x) i) Q E s := by
  have found := special_fn (args := [i]) (Q := fun r s' => r.isSome = true ∧ Q () s') (X₀.keeps F.keep) I hs (beq_iff_eq.mp hf) (wpAny_mono h (fun _ _ q => ⟨rfl, q⟩) fun _ _ q => q)
  unfold delItem
  refine wpAny_holding (wpAny_bind ((key_own (X₀.keeps F.keep) I hq).here (wpAny_bind (wpAny_mono found (fun r s' q => ?_) fun _ _ q => q))))
  cases r with
  | none => cases q.1
  | some _ => exact wpAny_pure q.2
end
theorem swap4 {α : Type} {a b c d : α} {l : List α} : ∀ p ∈ b :: c :: d :: a :: l, p ∈ a :: b :: c :: d :: l := by
  intro p hp
  simp only [List.mem_cons] at hp ⊢
  rcases hp with h | h | h | h | h <;> simp [h]
section
variable {prog : Program} {w : World} {A : Around} {s : Shared} {E : Value → Shared → Prop}
theorem my_str0 {value slice : PySem.Expr} {x : Str} {c : Nat} {t u : Tok} {ops : List Value} {Q : Value → Shared → Prop} (hc : x.cps[0]? = some c) (h : Q (.str ⟨#[c]⟩ s.toks) { s with toks := s.toks + 1 })
    (hs : subscripted slice false (.str x t) (.int 0 u) = operate ops (getItem (.str x t) (.int 0 u))) : wpAny (model prog w) A (subscriptTail value slice (.str x t) (.int 0 u)) Q E s := by
  refine tail_any (typeIs_str s x t) PySem.F.slot_str_getitem.lookup (PySem.P.getItem_str (c := c) (by decide) ?_ h) hs
  have hlt : 0 < x.length := by
    obtain ⟨hl, _⟩ := Array.getElem?_eq_some_iff.mp hc
    exact hl
  have : seqIndex? 0 x.length = some 0 := by
    unfold seqIndex?
    simp
    omega
  rw [this]; exact hc
end
theorem frame_at {f m : Str → Option Value} {a b : Str} {v : Value} (hb : f b = some v) (h : ∀ y, y ≠ a → y ≠ b → f y = m y) : f = fun y => if y = a then f y else if y = b then some v else m y := by
  funext y
  by_cases h1 : y = a
  · simp [h1]
  · by_cases h2 : y = b
    · subst h2; simp only [h1, if_false, if_true]; exact hb
    · simp only [h1, h2, if_false]; exact h y h1 h2
theorem look_mem {es : List (Nat × Str)} {p : Nat} {x : Str} (h : look es p = some x) : (p, x) ∈ es := by
  unfold look at h
  obtain ⟨e, he, hx⟩ := Option.map_eq_some_iff.mp h
  have h1 := List.mem_of_find?_eq_some he
  have h2 := List.find?_some he
  have h3 : e.1 = p := by simpa using h2
  rw [← h3, ← hx]; exact h1
theorem okX.first {x : Str} (h : okX x) : x.cps[0]? = some (x.cps.getD 0 0) := by
  have := h.1.1
  simp [Array.getD, this]
theorem frame_at2 {f m : Str → Option Value} {a a' b b' : Str} {v v' : Value} (hb : f b = some v) (hb' : f b' = some v') (h : ∀ y, y ≠ a → y ≠ a' → y ≠ b → y ≠ b' → f y = m y) : f = fun y => if y = a then f y else if y = a' then f y else if y = b then some v else if y = b' then some v' else m y := by
  funext y
  by_cases h1 : y = a
  · simp [h1]
  · by_cases h2 : y = a'
    · simp [h2]
    · by_cases h3 : y = b
      · subst h3; simp only [h1, h2, if_false, if_true]; exact hb
      · by_cases h4 : y = b'
        · subst h4; simp only [h1, h2, h3, if_false, if_true]; exact hb'
        · simp only [h1, h2, h3, h4, if_false]; exact h y h1 h2 h3 h4
theorem len_step {es : List (Nat × Str)} {a q : Nat} {x y : Str} (h : look es q = some y) : (((es.filter fun e => e.1 != a) ++ [(a, x)]).filter fun e => e.1 != q).length ≤ es.length := by
  rw [List.filter_append, List.length_append]
  by_cases e : a = q
  · subst e
    rw [List.filter_cons_of_neg (by simp), List.filter_nil, List.length_nil]
    have h1 := List.length_filter_le (fun e : Nat × Str => e.1 != a) (es.filter fun e => e.1 != a)
    have h2 := List.length_filter_le (fun e : Nat × Str => e.1 != a) es
    omega
  · have hm : (q, y) ∈ es.filter fun e => e.1 != a := List.mem_filter.mpr ⟨look_mem h, by simpa using fun q' => e q'.symm⟩
    have h1 : ((es.filter fun e => e.1 != a).filter fun e => e.1 != q).length < (es.filter fun e => e.1 != a).length := by
      refine List.length_filter_lt_length_iff_exists.mpr ⟨_, hm, by simp⟩
    have h2 := List.length_filter_le (fun e : Nat × Str => e.1 != a) es
    have h3 : ([(a, x)].filter fun e : Nat × Str => e.1 != q).length ≤ 1 := List.length_filter_le _ _
    omega
theorem Ents.sub {l l' : List (Addr × Obj)} {vs es} (h : Ents l vs es) (hs : ∀ p ∈ l, p.2.cls = .type "tuple" → p ∈ l') : Ents l' vs es := by
  induction h with
  | nil => exact .nil
  | cons h _ ih => exact .cons ⟨h.1, let ⟨a, t, u, k, e, hm⟩ := h.2; ⟨a, t, u, k, e, hs _ hm rfl⟩⟩ ih
theorem Tb.less {T₁ D H : Nat} {x : Addr × Obj} {rest own vs es} {I : Addr} (h : Tb T₁ D H (x :: (rest ++ own)) vs es) (ho : ∀ p ∈ own, p.1 = I ∧ p.2.cls ≠ .type "tuple") : Tb T₁ D H (x :: rest) vs es where
  dt := h.dt
  ht := h.ht
  hd := h.hd
  rt := fun q hq => h.rt q (by rcases List.mem_cons.mp hq with rfl | hq; exact .head _; exact .tail _ (List.mem_append_left _ hq))
  rd := fun q hq => h.rd q (by rcases List.mem_cons.mp hq with rfl | hq; exact .head _; exact .tail _ (List.mem_append_left _ hq))
  rh := fun q hq => h.rh q (by rcases List.mem_cons.mp hq with rfl | hq; exact .head _; exact .tail _ (List.mem_append_left _ hq))
  ents := h.ents.sub fun p hp hc => by
    rcases List.mem_cons.mp hp with rfl | hp
    · exact .head _
    · rcases List.mem_append.mp hp with hp | hp
      · exact .tail _ hp
      · exact absurd hc (ho p hp).2
  few := h.few
  vals := h.vals
end Mine
end
section
open PySem PySem.W PyProof.Rows PySem.Calls
set_option Elab.async false
set_option maxRecDepth 100000
set_option linter.unusedVariables false
namespace Mine
/-- a turn's end, by the library's word, its two other ways out told by one post -/
def TurnM (h₀ : Heap) (L : Addr) (wr : List Addr) (own : List (Addr × Obj)) (J : (Str → Option Value) → List (Addr × Obj) → Prop) (s₁ : Shared) (Q : Flow → Shared → Prop) : Flow → Shared → Prop :=
  LoopStepV h₀ L wr own J s₁ (fun v => Q (.ret v)) (Q .next)
theorem TurnM.next {h₀ : Heap} {L : Addr} {wr : List Addr} {own news' big : List (Addr × Obj)} {J : (Str → Option Value) → List (Addr × Obj) → Prop} {s₁ : Shared} {Q : Flow → Shared → Prop} {h' : Heap} {tk : Nat} {m' : Str → Option Value}
    (F : Fr h₀ L h' m') (N : News h₀ L h' big) (h1 : ∀ p ∈ news', p ∈ big) (h2 : ∀ p ∈ own, p ∈ big) (h3 : ∀ p ∈ news', p.1 ∉ wr) (hJ : J m' news') : TurnM h₀ L wr own J s₁ Q .next { s₁ with heap := h', toks := tk } :=
  LoopStepV.next (LoopStepU.intro F (fun p hp => N p ((List.mem_append.mp hp).elim (h2 p) (h1 p))) h3 hJ)
/-- what stands behind the iterator's making: the library's word, kept shut, so that the walk takes none of its own lines there -/
def LoopAtM (prog : Program) (w : World) (A : Around) (h₀ : Heap) (env : Env) (target : PySem.Expr) (body : List Stmt) (Q : Flow → Shared → Prop) (E : Value → Shared → Prop) (it : Value) (s₂ : Shared) : Prop :=
  TurnsAt prog w A h₀ env target body Q E it s₂
section
variable {prog : Program} {w : World} {A : Around} {s : Shared} {env : Env} {h₀ : Heap}
theorem forM {E : Value → Shared → Prop} {Q : Flow → Shared → Prop} {target iter : PySem.Expr} {pos : Pos} {body : List Stmt} {m : Str → Option Value} (F : Fr h₀ env.locals s.heap m)
    (h : wpAny (model prog w) A (eval iter env) (fun xv s₁ => wpAny (model prog w) A (pyIter xv) (LoopAtM prog w A h₀ env target body Q E) E s₁) E s)
    (hs : ∀ x, foldedSetIterable iter env x = pure x) (hE : PassesOwn (model prog w) A env E := by passes_own) :
    wpAny (model prog w) A (exec (.For target iter body [] pos) env) Q E s := For_turns F h hs hE

/-- the sides of the ledger changed about -/
theorem news_comm {L : Addr} {h : Heap} {a b : List (Addr × Obj)} (N : News h₀ L h (a ++ b)) : News h₀ L h (b ++ a) := fun p hp => N p (List.mem_append.mpr (List.mem_append.mp hp).symm)
theorem new_off {L : Addr} {h : Heap} {news : List (Addr × Obj)} (N : News h₀ L h news) : ∀ p ∈ news, p.1 ∉ [h.objs.size] := fun p hp q => by
  have := Heap.lt_size (N p hp).1
  rw [List.mem_singleton] at q
  exact Nat.ne_of_lt this q
theorem new_free {L : Addr} {h : Heap} {m : Str → Option Value} (F : Fr h₀ L h m) : ∀ b ∈ [h.objs.size], h₀.get? b = none := by
  simpa using next_is_new F
theorem news_push {L : Addr} {h : Heap} {news : List (Addr × Obj)} (N : News h₀ L h news) (o : Obj) : News h₀ L (h.push o) news := fun p hp => ⟨Heap.get?_push_of_some o (N p hp).1, (N p hp).2⟩
/-- an object of the cells spoken of has the class that its cell tells -/
theorem own_cls {L b : Addr} {h : Heap} {l l' : List (Addr × Obj)} {o : Obj} {T : Value} {p : Addr × Obj} (N : News h₀ L h (l ++ l')) (hp : p ∈ l') (e : p.1 = b) (ho : h.get? b = some o) (hc : o.cls = T) : p.2.cls = T := by
  have g := (N p (List.mem_append_right _ hp)).1
  rw [e, ho] at g
  rw [← Option.some.inj g, hc]

section
variable {E : Value → Shared → Prop} {Q : Flow → Shared → Prop} {target : PySem.Expr} {body : List Stmt} {m : Str → Option Value} {news : List (Addr × Obj)}
/-- a list of the ledger -/
theorem iterM_list {l : Addr} {vs : Array Value} {k : Nat} (J : Nat → (Str → Option Value) → List (Addr × Obj) → Prop) (hh : A.handled = none) (F : Fr h₀ env.locals s.heap m) (N : News h₀ env.locals s.heap news)
    (hl : (l, listOf vs k) ∈ news) (h0 : J 0 m news)
    (step : ∀ i v m₁ news₁ h tk own, vs[i]? = some v → J i m₁ news₁ → (∀ p ∈ news₁, p.1 ∉ [s.heap.objs.size]) → (∀ p ∈ own, (p.1 = s.heap.objs.size ∨ p.1 = l) ∧ p.2.cls ≠ .type "tuple") → Fr h₀ env.locals h m₁ → News h₀ env.locals h (news₁ ++ own) →
      wpAny (model prog w) A (assign target env v) (fun _ s₃ => wpAny (model prog w) A (execs body env) (TurnM h₀ env.locals [s.heap.objs.size] own (J (i + 1)) { s with heap := h, toks := tk } Q) E s₃) E { s with heap := h, toks := tk })
    (done : ∀ h' tk m' news', Fr h₀ env.locals h' m' → News h₀ env.locals h' news' → J vs.size m' news' → Q .next { s with heap := h', toks := tk }) :
    wpAny (model prog w) A (pyIter (.ref l)) (LoopAtM prog w A h₀ env target body Q E) E s := by
  have isl : s.heap.IsList l vs := ⟨_, N.get hl, rfl, _, rfl⟩
  have old : l < s.heap.objs.size := Heap.lt_size (N.get hl)
  have W := KTurns.ofWalks (target := target) (Walks.list (prog := prog) (w := w) hh s.heap.objs.size l (Nat.ne_of_lt old) vs) fun _ _ _ _ _ st q => letGo_listiter st.1 q
  refine wpAny_pyIter_list isl ⟨_, _, _, _, _, _, _, m, news, J, rfl, W, ?_, new_free F, new_off N, ⟨⟨_, Heap.get?_push_size _ rfl, rfl, rfl⟩, isl.at fun _ => Heap.get?_push_of_some _⟩, F.push _, news_push N _, h0, ?_, fun h' tk m' news' F' N' _ => done h' tk m' news' F' N'⟩
  · have a := F.ns.lt
    have b := (N _ hl).2.1
    simp only [List.mem_cons, List.not_mem_nil, or_false, not_or]
    exact ⟨Nat.ne_of_lt a, Ne.symm b⟩
  · intro i v m₁ news₁ h tk own _ hv hJ off sub _ _ st F₁ N₁
    have N₂ := news_comm N₁
    obtain ⟨⟨oI, gI, cI, _⟩, oL, gL, cL, _⟩ := st
    refine step i v m₁ news₁ h tk own hv hJ off (fun p hp => ?_) F₁ N₂
    have e : p.1 = s.heap.objs.size ∨ p.1 = l := by simpa using sub p hp
    refine ⟨e, ?_⟩
    rcases e with e | e
    · rw [own_cls N₂ hp e gI cI]; simp
    · rw [own_cls N₂ hp e gL cL]; simp

/-- a range of the nought -/
theorem iterM_range {r : Addr} {t₀ u₀ v₀ : Tok} {n : Nat} {x : Str} {px : Pos} (J : Nat → (Str → Option Value) → List (Addr × Obj) → Prop)
    (hh : A.handled = none) (hr : IsRange s.heap r 0 n 1 t₀ u₀ v₀) (hsmall : Builtin.Range.small 0 n 1 = true) (hn : Builtin.Range.rangeSize 0 n 1 = (n : Int)) (F : Fr h₀ env.locals s.heap m) (N : News h₀ env.locals s.heap news) (h0 : J 0 m news)
    (step : ∀ (i : Nat) t m₁ news₁ h tk own, i < n → J i m₁ news₁ → (∀ p ∈ news₁, p.1 ∉ [s.heap.objs.size]) → (∀ p ∈ own, p.1 = s.heap.objs.size ∧ p.2.cls ≠ .type "tuple") → (∃ o, (s.heap.objs.size, o) ∈ own) → Fr h₀ env.locals h (fun y => if y = x then some (.int (i : Int) t) else m₁ y) → News h₀ env.locals h (news₁ ++ own) →
      wpAny (model prog w) A (execs body env) (TurnM h₀ env.locals [s.heap.objs.size] own (J (i + 1)) { s with heap := h, toks := tk } Q) E { s with heap := h, toks := tk })
    (done : ∀ h' tk m' news', Fr h₀ env.locals h' m' → News h₀ env.locals h' news' → J n m' news' → Q .next { s with heap := h', toks := tk })
    (hx : env.kindOf x = some .local) (hp : (env.scope.kind == .class || (env.scope.kind == .module && env.locals != env.globals)) = false) :
    wpAny (model prog w) A (pyIter (.ref r)) (LoopAtM prog w A h₀ env (.Name x px) body Q E) E s := by
  have W := KTurns.ofWalks (target := .Name x px) (Walks.range (prog := prog) (w := w) hh s.heap.objs.size 0 1 n) fun _ _ _ _ _ _ q => wpAny_pure q
  have st0 : IsRangeIter (s.heap.push { cls := .type "range_iterator", data := Data.fields #[.int 0 0, .int (Builtin.Range.rangeSize 0 n 1) 0, .int 1 0] }) s.heap.objs.size (0 + ((0 : Nat) : Int) * 1) ((n : Int) - ((0 : Nat) : Int)) 1 := by
    show Heap.get? _ _ = _
    rw [hn]; simpa [rawInt] using Heap.get?_push_size _ rfl
  refine wpAny_pyIter_range hr hsmall ⟨_, _, _, _, _, _, _, m, news, J, rfl, W, ?_, new_free F, new_off N, st0, F.push _, news_push N _, h0, ?_, fun h' tk m' news' F' N' _ => done h' tk m' news' F' N'⟩
  · rw [List.mem_singleton]; exact Nat.ne_of_lt F.ns.lt
  · rintro i v m₁ news₁ h tk own lt ⟨t, rfl⟩ hJ off sub _ all st F₁ N₁
    have N₂ := news_comm N₁
    have e : (0 : Int) + (i : Int) * 1 = i := by omega
    rw [e]
    have at_ : ∀ p ∈ own, p.1 = s.heap.objs.size := fun p hp => List.mem_singleton.mp (sub p hp)
    refine wpAny_assign_Name (wpAny_storeName_local hx F₁.ns (fun h₂ ns₂ but => ?_) hp)
    exact step i t m₁ news₁ h₂ _ own lt hJ off (fun p hp => ⟨at_ p hp, by rw [own_cls N₂ hp (at_ p hp) st rfl]; simp⟩) ⟨_, all _ (List.mem_singleton.mpr rfl) (next_is_new F) _ st⟩ (F₁.set ns₂ but) (N₂.set but)

/-- two names out of a pair -/
theorem assign_tup {E : Value → Shared → Prop} {Q : Unit → Shared → Prop} {xi xc : Str} {pk pv pt : Pos} {x1 : Nat} {a : Addr} {v0 v1 : Value} (hh : A.handled = none) (F : Fr h₀ env.locals s.heap m) (N : News h₀ env.locals s.heap news)
    (ht : s.heap.IsTuple a #[v0, v1])
    (h : ∀ h' tk, Fr h₀ env.locals h' (fun y => if y = xc then some v1 else if y = xi then some v0 else m y) → News h₀ env.locals h' news → Q () { s with heap := h', toks := tk })
    (hxi : env.kindOf xi = some .local) (hxc : env.kindOf xc = some .local)
    (hp : (env.scope.kind == .class || (env.scope.kind == .module && env.locals != env.globals)) = false) :
    wpAny (model prog w) A (assign (.Tuple [.Name xi pk, .Name xc pv] x1 pt) env (.ref a)) Q E s := by
  refine unpackN_ F N ht hh rfl rfl fun h₁ F₁ N₁ => assignInOrder_cons ?_
  show wpAny _ _ (assign (.Name xi pk) env v0) _ _ _
  refine wpAny_assign_Name (wpAny_storeName_local hxi F₁.ns (fun h₂ n₂ b₂ => assignInOrder_cons ?_) hp)
  have F₂ := F₁.set n₂ b₂
  show wpAny _ _ (assign (.Name xc pv) env v1) _ _ _
  refine wpAny_assign_Name (wpAny_storeName_local hxc F₂.ns (fun h₃ n₃ b₃ => assignInOrder_nil ?_) hp)
  exact h _ _ (F₂.set n₃ b₃) ((N₁.set b₂).set b₃)
theorem assign_pair {E : Value → Shared → Prop} {Q : Unit → Shared → Prop} {xi xc : Str} {pk pv pt : Pos} {x1 : Nat} {a : Addr} {o : Obj} {v0 v1 : Value} {k : Nat} (hh : A.handled = none) (F : Fr h₀ env.locals s.heap m) (N : News h₀ env.locals s.heap news)
    (ha : (a, o) ∈ news) (hc : o.cls = .type "tuple") (hd : o.data = .seq #[v0, v1] k)
    (h : ∀ h' tk, Fr h₀ env.locals h' (fun y => if y = xc then some v1 else if y = xi then some v0 else m y) → News h₀ env.locals h' news → Q () { s with heap := h', toks := tk })
    (hxi : env.kindOf xi = some .local) (hxc : env.kindOf xc = some .local)
    (hp : (env.scope.kind == .class || (env.scope.kind == .module && env.locals != env.globals)) = false) :
    wpAny (model prog w) A (assign (.Tuple [.Name xi pk, .Name xc pv] x1 pt) env (.ref a)) Q E s :=
  assign_tup hh F N ⟨o, N.get ha, hc, k, hd⟩ h hxi hxc hp

theorem iterM_nil {E : Value → Shared → Prop} {Q : Flow → Shared → Prop} {target : PySem.Expr} {body : List Stmt} {l : Addr} {k : Nat} (hh : A.handled = none) (F : Fr h₀ env.locals s.heap m) (N : News h₀ env.locals s.heap news)
    (hl : (l, listOf #[] k) ∈ news) (done : ∀ h' tk, Fr h₀ env.locals h' m → News h₀ env.locals h' news → Q .next { s with heap := h', toks := tk }) :
    wpAny (model prog w) A (pyIter (.ref l)) (LoopAtM prog w A h₀ env target body Q E) E s :=
  iterM_list (fun _ m' news' => m' = m ∧ news' = news) hh F N hl ⟨rfl, rfl⟩ (fun i v m₁ news₁ h tk own hv => by simp at hv) fun h' tk m' news' F' N' ⟨e1, e2⟩ => by subst e1; subst e2; exact done h' tk F' N'

/-- a loop over a list of the ledger, its word spoken of the frame and the ledger at its start -/
theorem iterM_listJ {E : Value → Shared → Prop} {Q : Flow → Shared → Prop} {target : PySem.Expr} {body : List Stmt} {l : Addr} {vs : Array Value} {k : Nat} (J : (Str → Option Value) → List (Addr × Obj) → Nat → (Str → Option Value) → List (Addr × Obj) → Prop) (hh : A.handled = none) (F : Fr h₀ env.locals s.heap m) (N : News h₀ env.locals s.heap news)
    (hl : (l, listOf vs k) ∈ news) (h0 : J m news 0 m news)
    (step : ∀ i v m₁ news₁ h tk own, vs[i]? = some v → J m news i m₁ news₁ → (∀ p ∈ news₁, p.1 ∉ [s.heap.objs.size]) → (∀ p ∈ own, (p.1 = s.heap.objs.size ∨ p.1 = l) ∧ p.2.cls ≠ .type "tuple") → Fr h₀ env.locals h m₁ → News h₀ env.locals h (news₁ ++ own) →
      wpAny (model prog w) A (assign target env v) (fun _ s₃ => wpAny (model prog w) A (execs body env) (TurnM h₀ env.locals [s.heap.objs.size] own (J m news (i + 1)) { s with heap := h, toks := tk } Q) E s₃) E { s with heap := h, toks := tk })
    (done : ∀ h' tk m' news', Fr h₀ env.locals h' m' → News h₀ env.locals h' news' → J m news vs.size m' news' → Q .next { s with heap := h', toks := tk }) :
    wpAny (model prog w) A (pyIter (.ref l)) (fun it s₂ => LoopAtM prog w A h₀ env target body Q E it s₂) E s :=
  iterM_list (J m news) hh F N hl h0 step done
theorem iterM_rangeJ {E : Value → Shared → Prop} {Q : Flow → Shared → Prop} {body : List Stmt} {r : Addr} {t₀ u₀ v₀ : Tok} {n : Nat} {x : Str} {px : Pos} (J : (Str → Option Value) → List (Addr × Obj) → Nat → (Str → Option Value) → List (Addr × Obj) → Prop)
    (hh : A.handled = none) (hr : IsRange s.heap r 0 n 1 t₀ u₀ v₀) (hsmall : Builtin.Range.small 0 n 1 = true) (hn : Builtin.Range.rangeSize 0 n 1 = (n : Int)) (F : Fr h₀ env.locals s.heap m) (N : News h₀ env.locals s.heap news) (h0 : J m news 0 m news)
    (step : ∀ (i : Nat) t m₁ news₁ h tk own, i < n → J m news i m₁ news₁ → (∀ p ∈ news₁, p.1 ∉ [s.heap.objs.size]) → (∀ p ∈ own, p.1 = s.heap.objs.size ∧ p.2.cls ≠ .type "tuple") → (∃ o, (s.heap.objs.size, o) ∈ own) → Fr h₀ env.locals h (fun y => if y = x then some (.int (i : Int) t) else m₁ y) → News h₀ env.locals h (news₁ ++ own) →
      wpAny (model prog w) A (execs body env) (TurnM h₀ env.locals [s.heap.objs.size] own (J m news (i + 1)) { s with heap := h, toks := tk } Q) E { s with heap := h, toks := tk })
    (done : ∀ h' tk m' news', Fr h₀ env.locals h' m' → News h₀ env.locals h' news' → J m news n m' news' → Q .next { s with heap := h', toks := tk })
    (hx : env.kindOf x = some .local) (hp : (env.scope.kind == .class || (env.scope.kind == .module && env.locals != env.globals)) = false) :
    wpAny (model prog w) A (pyIter (.ref r)) (fun it s₂ => LoopAtM prog w A h₀ env (.Name x px) body Q E it s₂) E s :=
  iterM_range (J m news) hh hr hsmall hn F N h0 step done hx hp
/-- as iterM_rangeJ, a break and the range's end told by one word -/
theorem iterM_rangeB {E : Value → Shared → Prop} {Q : Flow → Shared → Prop} {body : List Stmt} {r : Addr} {t₀ u₀ v₀ : Tok} {n : Nat} {x : Str} {px : Pos} (J : (Str → Option Value) → List (Addr × Obj) → Nat → (Str → Option Value) → List (Addr × Obj) → Prop)
    (Jd : (Str → Option Value) → List (Addr × Obj) → (Str → Option Value) → List (Addr × Obj) → Prop)
    (hh : A.handled = none) (hr : IsRange s.heap r 0 n 1 t₀ u₀ v₀) (hsmall : Builtin.Range.small 0 n 1 = true) (hn : Builtin.Range.rangeSize 0 n 1 = (n : Int)) (F : Fr h₀ env.locals s.heap m) (N : News h₀ env.locals s.heap news) (h0 : J m news 0 m news)
    (step : ∀ (i : Nat) t m₁ news₁ h tk own, i < n → J m news i m₁ news₁ → (∀ p ∈ news₁, p.1 ∉ [s.heap.objs.size]) → (∀ p ∈ own, p.1 = s.heap.objs.size ∧ p.2.cls ≠ .type "tuple") → (∃ o, (s.heap.objs.size, o) ∈ own) → Fr h₀ env.locals h (fun y => if y = x then some (.int (i : Int) t) else m₁ y) → News h₀ env.locals h (news₁ ++ own) →
      wpAny (model prog w) A (execs body env) (TurnM h₀ env.locals [s.heap.objs.size] own (J m news (i + 1)) { s with heap := h, toks := tk } (fun f s' => match f with
        | .next => ∃ h' tk' m' news', s' = { s with heap := h', toks := tk' } ∧ Fr h₀ env.locals h' m' ∧ News h₀ env.locals h' news' ∧ Jd m news m' news'
        | f => Q f s')) E { s with heap := h, toks := tk })
    (last : ∀ m' news', J m news n m' news' → Jd m news m' news')
    (done : ∀ h' tk m' news', Fr h₀ env.locals h' m' → News h₀ env.locals h' news' → Jd m news m' news' → Q .next { s with heap := h', toks := tk })
    (hx : env.kindOf x = some .local) (hp : (env.scope.kind == .class || (env.scope.kind == .module && env.locals != env.globals)) = false) :
    wpAny (model prog w) A (pyIter (.ref r)) (fun it s₂ => LoopAtM prog w A h₀ env (.Name x px) body Q E it s₂) E s :=
  iterM_range (J m news) hh hr hsmall hn F N h0 (fun i t m₁ news₁ h tk own a b c d e f g => wpAny_mono (step i t m₁ news₁ h tk own a b c d e f g) (fun fl s' hs => by
    cases fl with
    | ret v => exact hs
    | brk => obtain ⟨h', tk', m', news', rfl, F', N', hj⟩ := hs; exact done h' tk' m' news' F' N' hj
    | next => exact hs
    | cont => exact hs) fun _ _ e => e) (fun h' tk m' news' F' N' hj => done h' tk m' news' F' N' (last m' news' hj)) hx hp
end
end
end Mine
end
section
open PySem PySem.W PyProof.Rows PySem.Calls
open PyProof.Rows.LCg PyProof.Rows.LCt
set_option Elab.async false
set_option linter.unusedVariables false
namespace Mine
section
variable {prog : Program} {w : World} {A : Around} {s : Shared} {h₀ : Heap} {L : Addr} {m : Str → Option Value} {env : Env}
theorem compEnd_mono {s₁ : Shared} {I : Addr} {oI : Obj} {C : Addr} {oC : Obj} {D : Addr} {oD : Obj} {S : List (Addr × Obj) → Prop} {r r' : Value → List (Addr × Obj) → Prop} {y : Value} {s₂ : Shared}
    (h : CompEnd h₀ L m s₁ I oI C oC D oD S r y s₂) (hr : ∀ n, r y n → r' y n) : CompEnd h₀ L m s₁ I oI C oC D oD S r' y s₂ :=
  let ⟨h', tk, n, e, F, N, o, hs, x⟩ := h; ⟨h', tk, n, e, F, N, o, hs, hr n x⟩
/-- a comprehension with a test, its turns by a word spoken of the turn's number, what is kept, the ledger -/
theorem compRestT_ind {ct elt : PySem.Expr} {x : Str} {scope : Scope} {cl : List (Str × Addr)} {S : List (Addr × Obj) → Prop} {P : Nat → Value → Prop} {Fin : List Value → List (Addr × Obj) → Prop} {n : Nat}
    (Inv : Nat → List Value → List (Addr × Obj) → Prop)
    (turn : ∀ i ys news, i < n → Inv i ys news → ∀ v I oI C oC D m₂ h tk (E' : Value → Shared → Prop), P i v → NsObj oC m₂ → m₂ x = some v → Fr h₀ L h m → News h₀ L h ((I, oI) :: (C, oC) :: (D, lst ys) :: news) → Off3 I C D news → ((@Ne Nat I C) ∧ (@Ne Nat I D) ∧ (@Ne Nat C D)) →
      wpAny (model prog w) A (isTrue ct (compEnvC scope cl C env) (eval ct (compEnvC scope cl C env))) (fun ok s' => if ok = true then
        wpAny (model prog w) A (eval elt (compEnvC scope cl C env)) (CompEnd h₀ L m { s with heap := h, toks := tk } I oI C oC D (lst ys) S (fun y news' => Inv (i + 1) (ys ++ [y]) news')) E' s'
        else CompEnd h₀ L m { s with heap := h, toks := tk } I oI C oC D (lst ys) S (fun _ news' => Inv (i + 1) ys news') Value.none s') E' { s with heap := h, toks := tk })
    (fin : ∀ ys news, Inv n ys news → Fin ys news) : ∀ k i ys news, i + k = n → Inv i ys news → CompRestT prog w A h₀ L m env ct elt x scope cl s S P Fin k i ys news := by
  intro k
  induction k with
  | zero => intro i ys news e hI; exact .zero (fin ys news (by rw [← e]; exact hI))
  | succ k ih =>
    intro i ys news e hI
    refine .succ fun v I oI C oC D m₂ h tk E' hP hC hx F N o ne => ?_
    refine wpAny_mono (turn i ys news (by omega) hI v I oI C oC D m₂ h tk E' hP hC hx F N o ne) (fun ok s' hs => ?_) fun _ _ e => e
    cases ok with
    | true =>
      simp only [if_true] at hs ⊢
      exact wpAny_mono hs (fun y s₂ h₂ => compEnd_mono h₂ fun n' hn => ih (i + 1) _ n' (by omega) hn) fun _ _ e => e
    | false =>
      simp only [Bool.false_eq_true, if_false] at hs ⊢
      exact compEnd_mono hs fun n' hn => ih (i + 1) _ n' (by omega) hn
theorem compRest_ind {elt : PySem.Expr} {x : Str} {scope : Scope} {cl : List (Str × Addr)} {S : List (Addr × Obj) → Prop} {P : Nat → Value → Prop} {Fin : List Value → List (Addr × Obj) → Prop} {n : Nat}
    (Inv : Nat → List Value → List (Addr × Obj) → Prop)
    (turn : ∀ i ys news, i < n → Inv i ys news → ∀ v I oI C oC D m₂ h tk (E' : Value → Shared → Prop), P i v → NsObj oC m₂ → m₂ x = some v → Fr h₀ L h m → News h₀ L h ((I, oI) :: (C, oC) :: (D, lst ys) :: news) → Off3 I C D news → ((@Ne Nat I C) ∧ (@Ne Nat I D) ∧ (@Ne Nat C D)) →
      wpAny (model prog w) A (eval elt (compEnvC scope cl C env)) (CompEnd h₀ L m { s with heap := h, toks := tk } I oI C oC D (lst ys) S (fun y news' => Inv (i + 1) (ys ++ [y]) news')) E' { s with heap := h, toks := tk })
    (fin : ∀ ys news, Inv n ys news → Fin ys news) : ∀ k i ys news, i + k = n → Inv i ys news → CompRest prog w A h₀ L m env elt x scope cl s S P Fin k i ys news := by
  intro k
  induction k with
  | zero => intro i ys news e hI; exact .zero (fin ys news (by rw [← e]; exact hI))
  | succ k ih =>
    intro i ys news e hI
    refine .succ fun v I oI C oC D m₂ h tk E' hP hC hx F N o ne => ?_
    exact wpAny_mono (turn i ys news (by omega) hI v I oI C oC D m₂ h tk E' hP hC hx F N o ne) (fun y s₂ h₂ => compEnd_mono h₂ fun n' hn => ih (i + 1) _ n' (by omega) hn) fun _ _ e => e

theorem srcT_list {ct elt : PySem.Expr} {x : Str} {scope : Scope} {cl : List (Str × Addr)} {Fin : Shared → List Value → List (Addr × Obj) → Prop} {ax : Addr} {its : Array Value} {k : Nat} {news : List (Addr × Obj)}
    (Inv : List (Addr × Obj) → Nat → List Value → List (Addr × Obj) → Prop)
    (hh : A.handled = none) (F : Fr h₀ L s.heap m) (N : News h₀ L s.heap news) (hm : (ax, listOf its k) ∈ news) (hsz : its.size ≤ sizeLine) (h0 : Inv news 0 [] news)
    (turn : ∀ i ys news₁, Inv news i ys news₁ → ∀ v I oI C oC D m₂ h tk (E' : Value → Shared → Prop), its[i]? = some v → NsObj oC m₂ → m₂ x = some v → Fr h₀ L h m → News h₀ L h ((I, oI) :: (C, oC) :: (D, lst ys) :: news₁) → Off3 I C D news₁ → ((@Ne Nat I C) ∧ (@Ne Nat I D) ∧ (@Ne Nat C D)) →
      wpAny (model prog w) A (isTrue ct (compEnvC scope cl C env) (eval ct (compEnvC scope cl C env))) (fun ok s' => if ok = true then
        wpAny (model prog w) A (eval elt (compEnvC scope cl C env)) (CompEnd h₀ L m { s with heap := h, toks := tk } I oI C oC D (lst ys) (SrcAt h₀ ax its) (fun y news' => Inv news (i + 1) (ys ++ [y]) news')) E' s'
        else CompEnd h₀ L m { s with heap := h, toks := tk } I oI C oC D (lst ys) (SrcAt h₀ ax its) (fun _ news' => Inv news (i + 1) ys news') Value.none s') E' { s with heap := h, toks := tk })
    (fin : ∀ g ys news₁, Inv news its.size ys news₁ → Fin { s with heap := g } ys news₁) : CompSrcT prog w A h₀ L m env ct elt x scope cl Fin (.ref ax) s :=
  .ledger hh F N hm hsz fun g => compRestT_ind (s := { s with heap := g }) (Inv news) (fun i ys news₁ _ hI v I oI C oC D m₂ h tk E' => turn i ys news₁ hI v I oI C oC D m₂ h tk E') (fin g) its.size 0 [] news (by omega) h0
theorem srcT_range {ct elt : PySem.Expr} {x : Str} {scope : Scope} {cl : List (Str × Addr)} {Fin : Shared → List Value → List (Addr × Obj) → Prop} {r : Addr} {b : Int} {t u v : Tok} {n : Nat} {news : List (Addr × Obj)}
    (Inv : List (Addr × Obj) → Nat → List Value → List (Addr × Obj) → Prop)
    (hh : A.handled = none) (F : Fr h₀ L s.heap m) (N : News h₀ L s.heap news) (hr : IsRange s.heap r 0 b 1 t u v) (hsm : Builtin.Range.small 0 b 1 = true) (hn : Builtin.Range.rangeSize 0 b 1 = ((n : Nat) : Int)) (hsz : n ≤ sizeLine) (h0 : Inv news 0 [] news)
    (turn : ∀ (i : Nat) ys news₁, i < n → Inv news i ys news₁ → ∀ t I oI C oC D m₂ h tk (E' : Value → Shared → Prop), NsObj oC m₂ → m₂ x = some (.int (0 + (i : Int)) t) → Fr h₀ L h m → News h₀ L h ((I, oI) :: (C, oC) :: (D, lst ys) :: news₁) → Off3 I C D news₁ → ((@Ne Nat I C) ∧ (@Ne Nat I D) ∧ (@Ne Nat C D)) →
      wpAny (model prog w) A (isTrue ct (compEnvC scope cl C env) (eval ct (compEnvC scope cl C env))) (fun ok s' => if ok = true then
        wpAny (model prog w) A (eval elt (compEnvC scope cl C env)) (CompEnd h₀ L m { s with heap := h, toks := tk } I oI C oC D (lst ys) (fun _ => True) (fun y news' => Inv news (i + 1) (ys ++ [y]) news')) E' s'
        else CompEnd h₀ L m { s with heap := h, toks := tk } I oI C oC D (lst ys) (fun _ => True) (fun _ news' => Inv news (i + 1) ys news') Value.none s') E' { s with heap := h, toks := tk })
    (fin : ∀ g ys news₁, Inv news n ys news₁ → Fin { s with heap := g } ys news₁) : CompSrcT prog w A h₀ L m env ct elt x scope cl Fin (.ref r) s :=
  .range hh F N hr hsm hn hsz fun g => compRestT_ind (s := { s with heap := g }) (Inv news) (fun i ys news₁ hi hI v I oI C oC D m₂ h tk E' => fun ⟨t, e⟩ => e ▸ turn i ys news₁ hi hI t I oI C oC D m₂ h tk E') (fin g) n 0 [] news (by omega) h0

theorem srcU_list {elt : PySem.Expr} {x : Str} {scope : Scope} {cl : List (Str × Addr)} {Fin : Shared → List Value → List (Addr × Obj) → Prop} {ax : Addr} {its : Array Value} {k : Nat} {news : List (Addr × Obj)}
    (Inv : List (Addr × Obj) → Nat → List Value → List (Addr × Obj) → Prop)
    (hh : A.handled = none) (F : Fr h₀ L s.heap m) (N : News h₀ L s.heap news) (hm : (ax, listOf its k) ∈ news) (hsz : its.size ≤ sizeLine) (h0 : Inv news 0 [] news)
    (turn : ∀ i ys news₁, Inv news i ys news₁ → ∀ v I oI C oC D m₂ h tk (E' : Value → Shared → Prop), its[i]? = some v → NsObj oC m₂ → m₂ x = some v → Fr h₀ L h m → News h₀ L h ((I, oI) :: (C, oC) :: (D, lst ys) :: news₁) → Off3 I C D news₁ → ((@Ne Nat I C) ∧ (@Ne Nat I D) ∧ (@Ne Nat C D)) →
      wpAny (model prog w) A (eval elt (compEnvC scope cl C env)) (CompEnd h₀ L m { s with heap := h, toks := tk } I oI C oC D (lst ys) (SrcAt h₀ ax its) (fun y news' => Inv news (i + 1) (ys ++ [y]) news')) E' { s with heap := h, toks := tk })
    (fin : ∀ g ys news₁, Inv news its.size ys news₁ → Fin { s with heap := g } ys news₁) : CompSrc prog w A h₀ L m env elt x scope cl Fin (.ref ax) s :=
  .ledger hh F N hm hsz fun g => compRest_ind (s := { s with heap := g }) (Inv news) (fun i ys news₁ _ hI v I oI C oC D m₂ h tk E' => turn i ys news₁ hI v I oI C oC D m₂ h tk E') (fin g) its.size 0 [] news (by omega) h0
end
end Mine
end
section
open PySem PySem.W PyProof.Rows PySem.Calls
set_option Elab.async false
set_option linter.unusedVariables false
set_option maxRecDepth 100000
namespace Mine
section
variable {prog : Program} {w : World} {A : Around} {E : Value → Shared → Prop} {s : Shared} {h₀ h : Heap} {L : Addr} {m : Str → Option Value} {news : List (Addr × Obj)}
theorem put_slice {l sl b : Addr} {its ys : Array Value} {n k : Nat} {Q : Unit → Shared → Prop} (ho : s.heap.get? l = some (listOf its n)) (hsl : s.heap.IsSliceOf sl .none .none .none) (hb : s.heap.get? b = some (listOf ys k)) (hne : l ≠ b)
    (hsz : its.size + ys.size ≤ sizeLine)
    (hQ : Q () { s with heap := s.heap.update l (Obj.mapSeq fun xs => xs.extract 0 0 ++ ys ++ xs.extract its.size xs.size) }) : wpAny (model prog w) A (setItem (.ref l) (.ref sl) (.ref b)) Q E s := by
  have hl : s.heap.IsList l its := PySem.IsL.isList (n := n) ho
  obtain ⟨os, hos, hcs, hds⟩ := id hsl
  have hTs : s.TypeIs (.ref sl) "slice" := ⟨os, hos, hcs⟩
  have hTb : s.TypeIs (.ref b) "list" := ⟨_, hb, rfl⟩
  unfold setItem
  try with_reducible refine wpAny_holding ?_
  first | refine wpAny_bind (wpAny_pure ?_) | skip
  refine wpAny_bind (wpAny_sequenceKey hl.typeIs (by decide) ?_)
  refine wpAny_bind (wpAny_callSpecial?_slot (name := Str.ofString "__setitem__") hl.typeIs slot_list_setitem
    (wpAny_call_entry slot_list_setitem hl.typeIs entry_list_setitem ?_ (args_list_setitem _ _ _)))
  show wpAny _ _ (Builtin.List.listSubscript? (.ref sl) >>= _) _ _ s
  refine wpAny_bind ?_
  unfold Builtin.List.listSubscript?
  refine wpAny_bind (wpAny_specialOf hTs slice_no_index ?_)
  simp only [Option.isNone_none, if_true]
  refine wpAny_pure ?_
  show wpAny _ _ (typeOf (.ref sl) >>= _) _ _ s
  refine wpAny_bind (wpAny_typeOf hTs ?_)
  rw [if_neg (by decide)]
  refine wpAny_bind ?_
  rw [listSliceParts_eq]
  have hstep : ¬ ((rawPart none == rawInt 0) = true) := Bool.false_ne_true
  refine wpAny_bind (wpAny_field hos hds (x := Value.none) rfl (wpAny_bind (wpAny_listPart .none ?_)))
  rw [if_neg hstep]
  refine wpAny_bind (wpAny_field hos hds (x := Value.none) rfl (wpAny_bind (wpAny_listPart .none ?_)))
  refine wpAny_bind (wpAny_field hos hds (x := Value.none) rfl (wpAny_bind (wpAny_listPart .none (wpAny_pure ?_))))
  have hsame : Builtin.List.listSameRef (.ref l) (.ref b) = false := by show (l == b) = false; exact beq_false_of_ne hne
  dsimp only
  rw [hsame]
  simp only [Bool.false_eq_true, if_false]
  refine wpAny_bind ?_
  unfold Builtin.List.listAllItems
  refine wpAny_bind (wpAny_typeOf hTb ?_)
  rw [if_pos (by decide)]
  refine listItems_at hb rfl ?_
  refine wpAny_bind (listItems_at ho rfl ?_)
  refine wpAny_bind (wpAny_of_eq (sliceIndices_raw none none none its.size (by simp)) ?_)
  have hb0 : sliceBounds none none none its.size = (0, (its.size : Int), 1) := rfl
  rw [hb0]
  dsimp only
  rw [if_pos (by decide)]
  refine wpAny_bind (wpAny_rule ?_)
  have htl : Builtin.List.listTooLong (its.size + ys.size) = false := by unfold Builtin.List.listTooLong; exact decide_eq_false (by omega)
  rw [htl]
  simp only [Bool.false_eq_true, if_false]
  have e1 : (max 0 (its.size : Int)).toNat = its.size := by omega
  have e0 : (0 : Int).toNat = 0 := rfl
  rw [e1, e0]
  refine wpAny_bind (listUpdate_at ho rfl ?_ (by omega) ?_)
  · refine wpAny_bind (wpAny_letGo ?_)
    exact wpAny_pure ⟨.none, rfl, wpAny_pure hQ⟩
  · have : (its.extract 0 0 ++ ys ++ its.extract its.size its.size).size = ys.size := by simp
    rw [this]; omega
theorem set_slice {l sl b : Addr} {its ys : Array Value} {n k : Nat} {g : Obj → List (Addr × Obj)} {Q : Unit → Shared → Prop} (F : Fr h₀ L h m) (N : News h₀ L h news) (U : UpdF l (listOf its n) news g) (hb : (b, listOf ys k) ∈ news)
    (hne : @Ne Nat l b) (hsz : its.size + ys.size ≤ sizeLine)
    (hQ : ∀ h' n', Fr h₀ L h' m → News h₀ L h' (g (listOf ys n')) → Q () { s with heap := h' })
    (hs : s.heap = h.push { cls := .type "slice", data := .fields #[.none, .none, .none] } := by rfl) (hsl : sl = h.objs.size := by rfl) : wpAny (model prog w) A (setItem (.ref l) (.ref sl) (.ref b)) Q E s := by
  subst hsl
  obtain ⟨pre, post, rfl, hg, a1, a2⟩ := U.split
  have F1 : Fr h₀ L s.heap m := hs ▸ F.push _
  have N1 : News h₀ L s.heap (pre ++ (l, listOf its n) :: post) := fun p hp => ⟨by rw [hs]; exact Heap.get?_push_of_some _ (N p hp).1, (N p hp).2⟩
  have hml : (l, listOf its n) ∈ pre ++ (l, listOf its n) :: post := List.mem_append_right _ (.head _)
  refine put_slice (N1.get hml) (by rw [hs]; exact Heap.IsSliceOf.new ..) (N1.get hb) hne hsz ?_
  refine hQ _ (if ys.size == its.size then n else n + 1) (F1.change (Heap.SameBut.update ..) (N1 _ hml).2.1 (N1 _ hml).2.2) ?_
  rw [hg]
  exact ki_turn _ N1 a1 a2 (by simp) rfl

theorem get_slice {value slice : PySem.Expr} {l sl : Addr} {its : Array Value} {n : Nat} {Q : Value → Shared → Prop} (F : Fr h₀ L h m) (N : News h₀ L h news) (hl : (l, listOf its n) ∈ news) (hsz : its.size ≤ sizeLine)
    (hQ : ∀ h' r, (∀ p ∈ news, @Ne Nat p.1 r) → Fr h₀ L h' m → News h₀ L h' ((r, listOf its 0) :: news) → Q (.ref r) { s with heap := h' })
    {ops : List Value} (hsub : subscripted slice false (.ref l) (.ref sl) = operate ops (getItem (.ref l) (.ref sl)))
    (hs : s.heap = h.push { cls := .type "slice", data := .fields #[.none, .none, .none] } := by rfl) (hsl : sl = h.objs.size := by rfl) : wpAny (model prog w) A (subscriptTail value slice (.ref l) (.ref sl)) Q E s := by
  subst hsl
  have F1 : Fr h₀ L s.heap m := hs ▸ F.push _
  have N1 : News h₀ L s.heap news := fun p hp => ⟨by rw [hs]; exact Heap.get?_push_of_some _ (N p hp).1, (N p hp).2⟩
  have hil : s.heap.IsList l its := PySem.IsL.isList (n := n) (N1.get hl)
  refine tail_any hil.typeIs slot_list_getitem.lookup (wpAny_getItem_list_slice hil (by rw [hs]; exact Heap.IsSliceOf.new ..) .none .none .none (by simp) ?_ hsz) hsub
  refine hQ _ _ (fun p hp => Nat.ne_of_lt (Heap.lt_size (N1 p hp).1)) (F1.push _) ?_
  rw [slicePick_all]
  exact N1.push F1 _
end
end Mine
end
section
open PySem PySem.W PyProof.Rows PySem.Calls
set_option Elab.async false
set_option linter.unusedVariables false
set_option maxRecDepth 100000
namespace Mine
inductive Strs : List Value → List Str → Prop
  | nil : Strs [] []
  | cons {x t vs xs} : Strs vs xs → Strs (.str x t :: vs) (x :: xs)
theorem Strs.len {vs xs} (h : Strs vs xs) : vs.length = xs.length := by
  induction h with
  | nil => rfl
  | cons _ ih => simp [ih]
theorem Strs.get {vs xs} (h : Strs vs xs) : ∀ {i : Nat} {v : Value}, vs[i]? = some v → ∃ x t, xs[i]? = some x ∧ v = .str x t := by
  induction h with
  | nil => intro i v h; simp at h
  | cons _ ih =>
    intro i v hv
    cases i with
    | zero => simp at hv; exact ⟨_, _, rfl, hv.symm⟩
    | succ i => simp at hv; obtain ⟨x, t, h1, h2⟩ := ih hv; exact ⟨x, t, by simpa using h1, h2⟩
theorem Strs.set {vs xs} (h : Strs vs xs) (x : Str) (t : Tok) : ∀ i : Nat, Strs (vs.set i (.str x t)) (xs.set i x) := by
  induction h with
  | nil => intro i; exact .nil
  | cons h ih =>
    intro i
    cases i with
    | zero => exact .cons h
    | succ i => exact .cons (ih i)
theorem Strs.rep (x : Str) (t : Tok) : ∀ n : Nat, Strs (List.replicate n (.str x t)) (List.replicate n x)
  | 0 => .nil
  | n + 1 => .cons (Strs.rep x t n)
theorem Strs.append {vs xs ws ys} (h : Strs vs xs) (h' : Strs ws ys) : Strs (vs ++ ws) (xs ++ ys) := by
  induction h with
  | nil => exact h'
  | cons _ ih => exact .cons ih
section
variable {prog : Program} {w : World} {A : Around} {s : Shared} {E : Value → Shared → Prop} {h₀ : Heap} {L : Addr} {m : Str → Option Value} {news : List (Addr × Obj)}
theorem rep_fold (v : Value) : ∀ (n : Nat) (acc : Array Value), List.foldl (fun x1 x2 => x1 ++ x2) acc (List.replicate n #[v]) = acc ++ (List.replicate n v).toArray
  | 0, acc => by simp
  | n + 1, acc => by
    rw [List.replicate_succ, List.foldl_cons, rep_fold v n, List.replicate_succ, Array.append_assoc]
    congr 1
    simp
theorem mul32 {l : Addr} {v : Value} {k : Nat} {u : Tok} {Q : Value → Shared → Prop} (F : Fr h₀ L s.heap m) (N : News h₀ L s.heap news) (hl : (l, listOf #[v] k) ∈ news)
    (h : ∀ r h', (∀ p ∈ news, @LT.lt Nat _ p.1 r) → Fr h₀ L h' m → News h₀ L h' ((r, listOf (List.replicate 32 v).toArray 0) :: news) → Q (.ref r) { s with heap := h' }) :
    wpAny (model prog w) A (binaryOp .Mult (.ref l) (.int 32 u)) Q E s :=
  mul_list F N (N.get hl) (by decide) (by decide) (by show 1 * 32 ≤ 2 ^ 24; decide) fun h' F' N' => h _ h' (fun p hp => Heap.lt_size (N p hp).1) F' (by
    have e : List.foldl (fun x1 x2 => x1 ++ x2) #[] (List.replicate (if (#[v] : Array Value).isEmpty = true then 0 else (32 : Int).toNat) #[v]) = (List.replicate 32 v).toArray := by
      rw [show (if (#[v] : Array Value).isEmpty = true then 0 else (32 : Int).toNat) = 32 from rfl, rep_fold]; simp
    rw [e] at N'; exact N')
theorem str_item {value slice : PySem.Expr} {l : Addr} {vs : List Value} {xs : List Str} {n : Nat} {p : Nat} {u : Tok} {ops : List Value} {Q : Value → Shared → Prop} (N : News h₀ L s.heap news) (hm : (l, listOf vs.toArray n) ∈ news) (hs : Strs vs xs) (hp : p < xs.length) (hf : p < 2 ^ 40)
    (h : ∀ t, Q (.str (xs.getD p Str.empty) t) s) (hsub : subscripted slice false (.ref l) (.int (p : Int) u) = operate ops (getItem (.ref l) (.int (p : Int) u))) :
    wpAny (model prog w) A (subscriptTail value slice (.ref l) (.int (p : Int) u)) Q E s := by
  have hl : s.heap.IsList l vs.toArray := PySem.IsL.isList (n := n) (N.get hm)
  have hv : p < vs.length := by rw [hs.len]; exact hp
  obtain ⟨x, t, h1, h2⟩ := hs.get (i := p) (v := vs[p]) (by simp [hv])
  have hx : xs.getD p Str.empty = x := by rw [List.getD_eq_getElem?_getD, h1]; rfl
  refine tail_any hl.typeIs slot_list_getitem.lookup (wpAny_getItem_list (x := .str x t) hl (by omega) (by omega) ?_ (hx ▸ h t)) hsub
  simp only [Int.toNat_natCast, List.getElem?_toArray]
  rw [← h2]; simp [hv]
theorem str_put {l : Addr} {vs : List Value} {n p : Nat} {u : Tok} {v : Value} {g : Obj → List (Addr × Obj)} {Q : Unit → Shared → Prop} (F : Fr h₀ L s.heap m) (N : News h₀ L s.heap news) (U : UpdF l (listOf vs.toArray n) news g) (hp : p < vs.length) (hf : p < 2 ^ 40)
    (h : ∀ h', Fr h₀ L h' m → News h₀ L h' (g (listOf (vs.set p v).toArray n)) → Q () { s with heap := h' }) : wpAny (model prog w) A (setItem (.ref l) (.int (p : Int) u) v) Q E s := by
  obtain ⟨pre, post, rfl, hg, a1, a2⟩ := U.split
  have hml : (l, listOf vs.toArray n) ∈ pre ++ (l, listOf vs.toArray n) :: post := List.mem_append_right _ (.head _)
  refine ki_setAt (N.get hml) (by omega) (by omega) (by simp; omega) ?_
  refine h _ (F.change (Heap.SameBut.update ..) (N _ hml).2.1 (N _ hml).2.2) ?_
  rw [hg]
  exact ki_turn _ N a1 a2 (by simp) (by simp)
theorem assign_name {env : Env} {Q : Unit → Shared → Prop} {x : Str} {px : Pos} {v : Value} (F : Fr h₀ env.locals s.heap m) (N : News h₀ env.locals s.heap news)
    (h : ∀ h' tk, Fr h₀ env.locals h' (fun y => if y = x then some v else m y) → News h₀ env.locals h' news → Q () { s with heap := h', toks := tk })
    (hx : env.kindOf x = some .local) (hp : (env.scope.kind == .class || (env.scope.kind == .module && env.locals != env.globals)) = false) :
    wpAny (model prog w) A (assign (.Name x px) env v) Q E s := by
  refine wpAny_assign_Name (wpAny_storeName_local hx F.ns (fun h₂ hn₂ hs₂ => ?_) hp)
  exact h h₂ _ (F.set hn₂ hs₂) (N.set hs₂)
end
def probeP (rs : List Str) : Nat → Nat → Nat
  | 0, p => p
  | f + 1, p => if rs.getD p Str.empty = Str.empty then p else probeP rs f ((p + 1) % 32)
def putP (rs : List Str) (x : Str) : List Str := rs.set (probeP rs 32 (x.cps.getD 0 0 % 32)) x
def ringP (xs : List Str) : List Str := xs.foldl putP (List.replicate 32 Str.empty)
def ringEnts (rs : List Str) : List (Nat × Str) := ((List.range 32).filter fun p => decide (rs.getD p Str.empty ≠ Str.empty)).map fun p => (p, rs.getD p Str.empty)
theorem putP_len (rs : List Str) (x : Str) : (putP rs x).length = rs.length := List.length_set ..
theorem fold_len (xs : List Str) : ∀ rs : List Str, (xs.foldl putP rs).length = rs.length := by
  induction xs with
  | nil => intro rs; rfl
  | cons x xs ih => intro rs; rw [List.foldl_cons, ih, putP_len]
theorem ringP_len (xs : List Str) : (ringP xs).length = 32 := by unfold ringP; rw [fold_len, List.length_replicate]
def fullN (rs : List Str) : Nat := rs.countP fun x => decide (x ≠ Str.empty)
theorem fullN_set (x : Str) : ∀ (rs : List Str) (i : Nat), fullN (rs.set i x) ≤ fullN rs + 1
  | [], i => by simp [fullN]
  | a :: rs, 0 => by
    simp only [fullN, List.set_cons_zero, List.countP_cons]
    split <;> split <;> omega
  | a :: rs, i + 1 => by
    have := fullN_set x rs i
    simp only [fullN, List.set_cons_succ, List.countP_cons] at this ⊢
    omega
theorem fullN_fold (xs : List Str) : ∀ rs : List Str, fullN (xs.foldl putP rs) ≤ fullN rs + xs.length := by
  induction xs with
  | nil => intro rs; simp
  | cons x xs ih =>
    intro rs
    have h1 := ih (putP rs x)
    have h2 : fullN (putP rs x) ≤ fullN rs + 1 := fullN_set x rs _
    rw [List.foldl_cons, List.length_cons]; omega
theorem fullN_free : ∀ rs : List Str, fullN rs < rs.length → ∃ p, p < rs.length ∧ rs.getD p Str.empty = Str.empty
  | [], h => absurd h (Nat.not_lt_zero _)
  | a :: rs, h => by
    by_cases e : a = Str.empty
    · exact ⟨0, by simp, by simpa using e⟩
    · have h' : fullN rs < rs.length := by
        simp only [fullN, List.countP_cons, List.length_cons, ne_eq, e, not_false_eq_true, decide_true, if_true] at h ⊢
        omega
      obtain ⟨p, hp, hq⟩ := fullN_free rs h'
      exact ⟨p + 1, by simpa using hp, by simpa using hq⟩
theorem ring_free {xs : List Str} (h : xs.length < 32) : ∃ p, p < 32 ∧ (ringP xs).getD p Str.empty = Str.empty := by
  have h1 := fullN_fold xs (List.replicate 32 Str.empty)
  have h2 : fullN (List.replicate 32 Str.empty) = 0 := by decide
  obtain ⟨p, hp, hq⟩ := fullN_free (ringP xs) (by rw [ringP_len]; unfold ringP; omega)
  exact ⟨p, by rw [ringP_len] at hp; exact hp, hq⟩
def Hold (P : Prop) : Prop := P
theorem holdOf {P : Prop} (h : Hold P) : P := h
theorem fm32 (c : Nat) : (c : Int).fmod 32 = ((c % 32 : Nat) : Int) := by rw [Int.fmod_eq_emod_of_nonneg _ (by decide)]; omega
theorem fm32s (c : Nat) : ((c : Int) + 1).fmod 32 = (((c + 1) % 32 : Nat) : Int) := by rw [Int.fmod_eq_emod_of_nonneg _ (by decide)]; omega
theorem probe_step {rs : List Str} {f p tgt : Nat} (hp : p < 32) (h : probeP rs f p = tgt) (hd : ∃ d, d < f ∧ rs.getD ((p + d) % 32) Str.empty = Str.empty) :
    (rs.getD p Str.empty = Str.empty → p = tgt) ∧ (¬ rs.getD p Str.empty = Str.empty → f - 1 < f ∧ probeP rs (f - 1) ((p + 1) % 32) = tgt ∧ ∃ d, d < f - 1 ∧ rs.getD (((p + 1) % 32 + d) % 32) Str.empty = Str.empty) := by
  obtain ⟨d, hd, he⟩ := hd
  obtain ⟨g, rfl⟩ : ∃ g, f = g + 1 := ⟨f - 1, by omega⟩
  rw [probeP] at h
  constructor
  · intro q; rw [if_pos q] at h; exact h
  · intro q
    rw [if_neg q] at h
    refine ⟨by omega, by simpa using h, ?_⟩
    cases d with
    | zero => exact absurd (by rw [Nat.add_zero, Nat.mod_eq_of_lt hp] at he; exact he) q
    | succ d => exact ⟨d, by omega, by rw [← he]; congr 1; omega⟩
theorem frame_one {f : Str → Option Value} {b : Str} {v : Value} (hb : f b = some v) : f = fun y => if y = b then some v else f y := by
  funext y
  by_cases h : y = b
  · subst h; simp [hb]
  · simp [h]
section
variable {prog : Program} {w : World} {A : Around} {E : Value → Shared → Prop} {Q : Flow → Shared → Prop} {s : Shared} {env : Env} {h₀ : Heap} {L : Addr}
theorem whileJ {test : PySem.Expr} {body : List Stmt} {pos : Pos} {m : Str → Option Value} {news : List (Addr × Obj)} (J : (Str → Option Value) → List (Addr × Obj) → Nat → (Str → Option Value) → List (Addr × Obj) → Prop) {n₀ : Nat}
    (F : Fr h₀ L s.heap m) (N : News h₀ L s.heap news) (hJ : J m news n₀ m news)
    (turn : ∀ n m₁ news₁ h₁ tk₁, Fr h₀ L h₁ m₁ → News h₀ L h₁ news₁ → J m news n m₁ news₁ →
      wpAny (model prog w) A (isTrue test env (eval test env)) (fun b s₂ =>
        if b = true then wpAny (model prog w) A (execs body env) (WhileStep2 h₀ L s (J m news) Q n) E s₂ else Q .next s₂) E { s with heap := h₁, toks := tk₁ })
    (hE : PassesOwn (model prog w) A env E := by passes_own) :
    wpAny (model prog w) A (exec (.While test body [] pos) env) Q E s := While_inv2 (J m news) F N hJ turn hE
end
theorem ring_all {P : Str → Prop} (h0 : P Str.empty) : ∀ (xs rs : List Str), (∀ x ∈ xs, P x) → (∀ x ∈ rs, P x) → ∀ p, P ((xs.foldl putP rs).getD p Str.empty)
  | [], rs, _, hr, p => by
    rw [List.foldl_nil, List.getD_eq_getElem?_getD]
    cases h : rs[p]? with
    | none => exact h0
    | some x => exact hr x (List.mem_of_getElem? h)
  | x :: xs, rs, hx, hr, p => by
    rw [List.foldl_cons]
    refine ring_all h0 xs _ (fun y hy => hx y (.tail _ hy)) (fun y hy => ?_) p
    rcases List.mem_or_eq_of_mem_set hy with h | h
    · exact hr y h
    · rw [h]; exact hx x (.head _)
theorem ringP_all {P : Str → Prop} (h0 : P Str.empty) {xs : List Str} (hx : ∀ x ∈ xs, P x) (p : Nat) : P ((ringP xs).getD p Str.empty) :=
  ring_all h0 xs _ hx (fun x hx => by rw [List.eq_of_mem_replicate hx]; exact h0) p
section
variable {prog : Program} {w : World} {A : Around} {E : Value → Shared → Prop} {s : Shared}
theorem my_truthyS {x : Str} {t : Tok} {Q : Bool → Shared → Prop} (hl : x.length < 2 ^ 40) (h0 : x = Str.empty → Q false { s with toks := s.toks + 1 + 1 }) (h1 : ¬ x = Str.empty → Q true { s with toks := s.toks + 1 + 1 }) :
    wpAny (model prog w) A (truthy (.str x t)) Q E s := by
  refine PySem.P.truthy_str (by omega) ?_
  by_cases e : x = Str.empty
  · rw [e]; exact h0 e
  · have hn : ¬ x.length = 0 := fun q => e (by
      obtain ⟨c⟩ := x
      have : c.size = 0 := q
      have : c = #[] := Array.eq_empty_of_size_eq_zero this
      rw [this]; rfl)
    have : ((x.length : Int) != 0) = true := by simp; exact hn
    rw [this]; exact h1 e
end
theorem frame_upd {f m : Str → Option Value} {b : Str} {v : Value} (hb : f b = some v) (h : ∀ y, y ≠ b → f y = m y) : f = fun y => if y = b then some v else m y := by
  funext y
  by_cases e : y = b
  · subst e; simp [hb]
  · simp only [e, if_false]; exact h y e
theorem ringP_snoc {xs : List Str} {i : Nat} {x : Str} (h : xs[i]? = some x) : ringP (xs.take (i + 1)) = putP (ringP (xs.take i)) x := by
  unfold ringP
  rw [List.take_add_one, h, Option.toList_some, List.foldl_append]; rfl
theorem news_box {h₀ h : Heap} {L r c : Addr} {x a : Obj} {b : Addr × Obj} {news : List (Addr × Obj)} {G : Prop} (N : News h₀ L h ((r, x) :: b :: (c, a) :: news))
    (k : ∀ bg, News h₀ L h bg → (r, x) ∈ bg → (c, a) ∈ bg → (∀ p ∈ news, p ∈ bg) → G) : G :=
  k _ N (.head _) (.tail _ (.tail _ (.head _))) fun p hp => .tail _ (.tail _ (.tail _ hp))
theorem off1_mem {D : Addr} : ∀ {l : List (Addr × Obj)}, PyProof.Rows.LCg.Off1 D l → ∀ p ∈ l, @Ne Nat p.1 D
  | [], _, _, h => nomatch h
  | _ :: _, x, p, h => by
    rcases List.mem_cons.mp h with rfl | h
    · exact x.1
    · exact off1_mem x.2 p h
theorem app_sub {α : Type} {a b c : List α} (h : ∀ p ∈ b, p ∈ c) : ∀ p ∈ a ++ b, p ∈ a ++ c := fun p hp => (List.mem_append.mp hp).elim (List.mem_append_left _) fun hp => List.mem_append_right _ (h p hp)
theorem cons_sub {α : Type} {x : α} {b c : List α} (h : ∀ p ∈ b, p ∈ c) : ∀ p ∈ x :: b, p ∈ x :: c := fun p hp => by
  rcases List.mem_cons.mp hp with rfl | hp
  · exact .head _
  · exact .tail _ (h p hp)
end Mine
end
section
open PySem PySem.W PyProof.Rows PySem.Calls
set_option Elab.async false
set_option maxRecDepth 100000
set_option linter.unusedVariables false
namespace Mine
theorem fillK_F3 : (fun (_ : OpenLaw) (_ : Params → Frag) => True) PySem.Challenge.rw_pg0208_01 hd.heap_39 := by k_fill; trivial
section
variable {prog : Program} {w : World} {A₀ A : Around} {s : Shared} {base h₀ : Heap} {outer : List Env} {L : Addr} {m : Str → Option Value} {env : Env} {news : List (Addr × Obj)}
  {loose : List Str} {mean : ExcName → Option Value} {mg mb : Str → Option Value} {R : Result → Shared → Prop}
local macro_rules | `(tactic| k_all) => `(tactic| with_reducible assumption)
local macro_rules | `(tactic| walk_at "call builtin:str.lower") => `(tactic| (k_here; (with_reducible show wpAny _ _ (call (Value.builtin _) [Value.str _ _]) _ _ _); k_dflt (refine' my_lower (by with_reducible assumption) ?_)))
local macro_rules | `(tactic| walk_at "call ref") => `(tactic| (k_here; (with_reducible show wpAny _ _ (call (Value.ref 98) [_, Value.str _ _] _) _ _ _); k_dflt (first | (refine' wpAny_call (conv_name (by with_reducible assumption) ?B ?F ?X ?N ?T ?R ?_)) | (refine' wpAny_call (conv_val (by with_reducible assumption) ?B ?F ?X ?N ?T ?R ?_))); (case B => k_asm); (case F => k_asm); (case X => k_asm); (case N => k_asm); (case T => k_asm); (case R => first | exact Room.less (Room.deeper (by assumption) rfl rfl) (by decide) | exact Room.less (by assumption) (by decide)); intro h' tk' F' N'; (try dsimp only); (try k_sweep)))

set_option maxHeartbeats 8000000 in
theorem init_hdr {T₁ D : Addr} {rest : List (Addr × Obj)} (B : Below A₀ base outer h₀) (F : Fr h₀ L s.heap m) (X : (Mine.hd.heap_39 w.params).In h₀) (N : News h₀ L s.heap ((T₁, instObj 199 D) :: (D, dictOf [] 0) :: rest)) (T : Top hd.view_39 loose mean mg mb h₀)
   (hR : Room 3 A env outer L) (hTD : @LT.lt Nat _ D T₁) (hrD : ∀ p ∈ rest, p.1 ≠ D) (hrT : ∀ p ∈ rest, p.1 ≠ T₁)
   (k : ∀ h' tk H tk0, Tb T₁ D H rest [] [] → Fr h₀ L h' m → News h₀ L h' ((H, listOf #[] 0) :: (T₁, instObj 199 D) :: (D, hdrs w.params tk0 H) :: rest) → R (.ok (.ret .none)) {s with heap := h', toks := tk}) :
   codeAny (model prog w) A (.call (.ref 91) ⟨[.ref T₁], []⟩) R s := by
  refine' code_def B F X N T hR.fr hR.me hR.kind ?k6 ?k7 hR.lim ?k9 ?kB ?_ ?c2 ?c3 ?c4 ?c5
  (case k6 => k_is); (case k7 => k_is); (case k9 => first | exact BindsTo.of_eq rfl | exact binds_K (by k_in) rfl (by k_is) rfl rfl rfl); (case c5 => decide); (case kB => exact locs rfl); (case c2 => exact rfl); (case c3 => exact rfl); (case c4 => exact rfl)
  k_whole; intro g' L' h' FG' F' N' B' X' T'; (try dsimp only); (try k_lift B'); (try k_fold)
  k_steps
  refine forM (by k_asm) ?_ (fun _ => rfl)
  k_steps
  refine iterM_nil hR.hh (by assumption) (by assumption) (by k_mem) ?_
  intro h9 tk9 F9 N9
  k_steps
  rename _ ∧ _ ∧ AllLt _ _ => l1
  exact k _ _ _ _ ⟨Nat.ne_of_lt hTD, Nat.ne_of_gt l1.1, Nat.ne_of_gt l1.2.1, hrT, hrD, fun p hp => Nat.ne_of_lt (lt_ofAll l1.2.2 p hp), .nil, by decide, by simp⟩ (by assumption) (by assumption)

set_option maxHeartbeats 8000000 in
theorem get_hdr {T₁ D H : Addr} {rest : List (Addr × Obj)} {vs : List Value} {es : List (Nat × Str)} {n : Nat} {tk0 : Tok} {x : Str} {t : Tok} {p : Nat} (hN : Nick x p) (hT : Tb T₁ D H rest vs es)
   (B : Below A₀ base outer h₀) (F : Fr h₀ L s.heap m) (X : (Mine.hd.heap_39 w.params).In h₀) (N : News h₀ L s.heap ((H, listOf vs.toArray n) :: (T₁, instObj 199 D) :: (D, hdrs w.params tk0 H) :: rest)) (T : Top hd.view_39 loose mean mg mb h₀)
   (hR : Room 4 A env outer L)
   (k : ∀ h' tk tk', Fr h₀ L h' m → News h₀ L h' ((H, listOf vs.toArray n) :: (T₁, instObj 199 D) :: (D, hdrs w.params tk0 H) :: rest) → R (.ok (.ret (optS (look es p) tk'))) {s with heap := h', toks := tk}) :
   codeAny (model prog w) A (.call (.ref 146) ⟨[.ref T₁, .str x t], []⟩) R s := by
  obtain ⟨tdt, tht, thd, trt, trd, trh, tent, tfew, tval⟩ := id hT
  unfold hdrs at N
  refine' code_def B F X N T hR.fr hR.me hR.kind ?k6 ?k7 hR.lim ?k9 ?kB ?_ ?c2 ?c3 ?c4 ?c5
  (case k6 => k_is); (case k7 => k_is); (case k9 => first | exact BindsTo.of_eq rfl | exact binds_K (by k_in) rfl (by k_is) rfl rfl rfl); (case c5 => decide); (case kB => exact locs rfl); (case c2 => exact rfl); (case c3 => exact rfl); (case c4 => exact rfl)
  k_whole; intro g' L' h' FG' F' N' B' X' T'; (try dsimp only); (try k_lift B'); (try k_fold)
  have ok1 := okX_lwS hN.lt
  k_steps
  refine forM (by k_asm) ?_ (fun _ => rfl)
  k_steps
  refine iterM_listJ (fun m₀ news₀ i m' news' => (∃ u : Str → Option Value, m' = fun y => if y = Str.ofString "v" then u y else if y = Str.ofString "k" then u y else m₀ y) ∧ news' = news₀ ∧ ∀ j < i, ∀ e : Nat × Str, es[j]? = some e → e.1 ≠ p) hR.hh (by assumption) (by assumption) (by k_mem) ⟨⟨_, frame2 _ _ _⟩, rfl, fun j hj => by omega⟩ ?_ ?_
  · rintro i v m₁ news₁ h9 tk9 own hi ⟨⟨u, rfl⟩, rfl, hpre⟩ hoff hown F9 N9
    obtain ⟨e, he, he32, a, ta, ua, ka, rfl, hmem⟩ := tent.get (by simpa using hi)
    simp only [List.cons_append] at N9
    refine assign_pair hR.hh F9 N9 (List.mem_cons_of_mem _ (List.mem_cons_of_mem _ (List.mem_cons_of_mem _ (List.mem_append_left _ hmem)))) rfl rfl ?_ rfl rfl rfl
    intro h8 tk8 F8 N8
    have hq := Nick.nm he32
    clear F9
    k_steps
    · dsimp only [TurnM, LoopStepV]
      k_steps
      rw [look_some hpre he (lwS_inj p hN.lt e.1 he32 (by simpa using (by assumption : (lwS e.fst == lwS p) = true)))] at k
      exact k _ _ ua (by assumption) (newsSub (by assumption) sub3r)
    · refine TurnM.next F8 N8 sub3r sub3o hoff ⟨⟨_, frame2U (by intro y h1 h2; simp only [h1, h2, if_false])⟩, rfl, fun j hj e' he' => ?_⟩
      rcases Nat.lt_succ_iff_lt_or_eq.mp hj with h | rfl
      · exact hpre j h e' he'
      · rw [he] at he'; cases he'
        intro q; subst q
        rename (lwS _ == lwS _) = false => hne
        simp at hne
  · rintro h9 tk9 m₁ news₁ F9 N9 ⟨⟨u, rfl⟩, rfl, hpre⟩
    k_steps
    rw [look_none fun j e he => hpre j (by have := tent.len; have h2 := (List.getElem?_eq_some_iff.mp he).1; simp; omega) e he] at k
    exact k _ _ 0 (by assumption) (by assumption)

end
end Mine
end
section
open PySem PySem.W PyProof.Rows PySem.Calls
set_option Elab.async false
set_option maxRecDepth 100000
set_option linter.unusedVariables false
namespace Mine
theorem fillK_F4 : (fun (_ : OpenLaw) (_ : Params → Frag) => True) PySem.Challenge.rw_pg0208_01 hd.heap_39 := by k_fill; trivial
section
variable {prog : Program} {w : World} {A₀ A : Around} {s : Shared} {base h₀ : Heap} {outer : List Env} {L : Addr} {m : Str → Option Value} {env : Env} {news : List (Addr × Obj)}
  {loose : List Str} {mean : ExcName → Option Value} {mg mb : Str → Option Value} {R : Result → Shared → Prop}
local macro_rules | `(tactic| k_all) => `(tactic| with_reducible assumption)
local macro_rules | `(tactic| walk_at "call builtin:str.lower") => `(tactic| (k_here; (with_reducible show wpAny _ _ (call (Value.builtin _) [Value.str _ _]) _ _ _); k_dflt (refine' my_lower (by with_reducible assumption) ?_)))
local macro_rules | `(tactic| k_mem) => `(tactic| (refine memOf ?_; with_reducible assumption))
local macro_rules | `(tactic| walk_at "subscriptTail") => `(tactic| (k_here; (with_reducible show wpAny _ _ (subscriptTail _ _ (Value.ref _) (Value.int 0 _)) _ _ _); k_dflt (refine' my_item0 ?N ?m ?_ ?s; (case N => k_asm); (case m => k_mem); (case s => with_unfolding_all rfl); k_whole)))
local macro_rules | `(tactic| walk_at "call ref") => `(tactic| (k_here; (with_reducible show wpAny _ _ (call (Value.ref 98) [_, Value.str _ _] _) _ _ _); k_dflt (first | (refine' wpAny_call (conv_name (by with_reducible assumption) ?B ?F ?X ?N ?T ?R ?_)) | (refine' wpAny_call (conv_val (by with_reducible assumption) ?B ?F ?X ?N ?T ?R ?_))); (case B => k_asm); (case F => k_asm); (case X => k_asm); (case N => k_asm); (case T => k_asm); (case R => first | exact Room.less (Room.deeper (by assumption) rfl rfl) (by decide) | exact Room.less (by assumption) (by decide)); intro h' tk' F' N'; (try dsimp only); (try k_sweep)))

set_option maxHeartbeats 8000000 in
theorem del_hdr {T₁ D H : Addr} {rest : List (Addr × Obj)} {vs : List Value} {es : List (Nat × Str)} {n : Nat} {tk0 : Tok} {x : Str} {t : Tok} {p : Nat} (hN : Nick x p) (hT : Tb T₁ D H rest vs es)
   (B : Below A₀ base outer h₀) (F : Fr h₀ L s.heap m) (X : (Mine.hd.heap_39 w.params).In h₀) (N : News h₀ L s.heap ((H, listOf vs.toArray n) :: (T₁, instObj 199 D) :: (D, hdrs w.params tk0 H) :: rest)) (T : Top hd.view_39 loose mean mg mb h₀)
   (hR : Room 4 A env outer L)
   (k : ∀ h' tk n' vs', Fr h₀ L h' m → News h₀ L h' ((H, listOf vs'.toArray n') :: (T₁, instObj 199 D) :: (D, hdrs w.params tk0 H) :: rest) → Tb T₁ D H rest vs' (es.filter fun e => e.1 != p) → R (.ok (.ret .none)) {s with heap := h', toks := tk}) :
   codeAny (model prog w) A (.call (.ref 117) ⟨[.ref T₁, .str x t], []⟩) R s := by
  obtain ⟨tdt, tht, thd, trt, trd, trh, tent, tfew, tval⟩ := id hT
  unfold hdrs at N
  refine' code_defC B F X N T hR.fr hR.me hR.kind ?k6 ?k7 hR.lim ?k9 ?kB ?kD ?_ ?c2 ?c3 ?c4
  (case k6 => k_is); (case k7 => k_is); (case k9 => first | exact BindsTo.of_eq rfl | exact binds_K (by k_in) rfl (by k_is) rfl rfl rfl); (case kB => exact rfl); (case kD => decide +kernel); (case c2 => exact rfl); (case c3 => exact rfl); (case c4 => exact rfl)
  k_whole; intro g' L' h' tk' cells' FG' F' N' Y' B' X' T' l1; (try k_lt l1); k_cells Y'; (try simp only [List.cons_append, List.nil_append] at N'); (try dsimp only); (try k_lift B'); (try k_fold)
  have ok1 := okX_lwS hN.lt
  have rC : ∀ p ∈ rest, p.1 ≠ L' + 1 := fun p hp => Nat.ne_of_lt (Nat.lt_succ_of_lt (lt_ofAll l1.2.2.2 p hp))
  k_steps
  k_dflt (refine LCt.ListComp_T (F₀ := by k_asm) (by with_unfolding_all rfl) (by decide) (by rfl) (by decide) (by rfl) ?_)
  k_steps
  refine srcT_list (fun news₀ i ys news' => news' = news₀ ∧ Ents rest ys ((es.take i).filter fun e => e.1 != p)) hR.hh (by k_asm) (by k_asm) (by k_mem) (by have := tent.len; rw [sizeLine_eq]; simp; omega) ⟨rfl, by simpa using Ents.nil⟩ ?_ ?_
  · rintro i ys news₁ ⟨rfl, hI⟩ v I oI C oC D₂ m₂ h9 tk9 E' hi hC hx F9 N9 off ne
    obtain ⟨e, he, he32, a, ta, ua, ka, rfl, hmem⟩ := tent.get (by simpa using hi)
    unfold tupOf at hmem
    have hq := Nick.nm he32
    k_steps
    · refine LCg.CompEnd.intro F9 N9 _ (fun p hp => hp) off (.inr ⟨_, List.mem_cons_of_mem _ (List.mem_cons_self ..), rfl, _, rfl⟩) ⟨rfl, ?_⟩
      rename (lwS _ != lwS _) = true => hne
      have hnp : (e.1 != p) = true := by
        rw [bne_iff_ne] at hne ⊢
        intro q; exact hne (by rw [q])
      rw [List.take_add_one, he, Option.toList_some, List.filter_append, List.filter_cons_of_pos (p := fun e : Nat × Str => e.1 != p) hnp, List.filter_nil]
      exact hI.append (.cons ⟨he32, _, _, _, _, rfl, hmem⟩ .nil)
    · refine LCg.CompEnd.intro F9 N9 _ (fun p hp => hp) off (.inr ⟨_, List.mem_cons_of_mem _ (List.mem_cons_self ..), rfl, _, rfl⟩) ⟨rfl, ?_⟩
      rename (lwS _ != lwS _) = false => hne
      have hnp : ¬ (e.1 != p) = true := by
        rw [bne_eq_false_iff_eq] at hne
        have := lwS_inj p hN.lt e.1 he32 hne
        simp [this]
      rw [List.take_add_one, he, Option.toList_some, List.filter_append, List.filter_cons_of_neg (p := fun e : Nat × Str => e.1 != p) hnp, List.filter_nil, List.append_nil]
      exact hI
  · rintro g9 ys news₁ ⟨rfl, hI⟩ D₂ h9 tk9 F9 N9 off
    k_steps
    have hlen := tent.len
    rw [show vs.toArray.size = es.length by simp [hlen], List.take_length] at hI
    simp only [LCg.Off1] at off
    refine' set_slice F9 N9 ?U (List.mem_cons_self ..) off.2.1 ?z ?_
    case U => k_dflt k_updF
    case z =>
      have h1 := hI.len
      have h2 := List.length_filter_le (fun e : Nat × Str => e.1 != p) es
      rw [sizeLine_eq]; simp only [List.size_toArray]; omega
    intro h8 n8 F8 N8
    k_steps
    exact k _ _ _ ys (by assumption) (newsSub (by assumption) (fun p hp => .tail _ (.tail _ hp))) ⟨tdt, tht, thd, trt, trd, trh, hI, Nat.le_trans (List.length_filter_le ..) tfew, fun e he => tval e ((List.mem_filter.mp he).1)⟩

end
end Mine
end
section
open PySem PySem.W PyProof.Rows PySem.Calls
set_option Elab.async false
set_option maxRecDepth 100000
set_option linter.unusedVariables false
namespace Mine
theorem fillK_F5 : (fun (_ : OpenLaw) (_ : Params → Frag) => True) PySem.Challenge.rw_pg0208_01 hd.heap_39 := by k_fill; trivial
section
variable {prog : Program} {w : World} {A₀ A : Around} {s : Shared} {base h₀ : Heap} {outer : List Env} {L : Addr} {m : Str → Option Value} {env : Env} {news : List (Addr × Obj)}
  {loose : List Str} {mean : ExcName → Option Value} {mg mb : Str → Option Value} {R : Result → Shared → Prop}
local macro_rules | `(tactic| k_all) => `(tactic| with_reducible assumption)
local macro_rules | `(tactic| walk_at "call builtin:str.lower") => `(tactic| (k_here; (with_reducible show wpAny _ _ (call (Value.builtin _) [Value.str _ _]) _ _ _); k_dflt (refine' my_lower (by with_reducible assumption) ?_)))
local macro_rules | `(tactic| k_mem) => `(tactic| (refine memOf ?_; with_reducible assumption))
local macro_rules | `(tactic| walk_at "subscriptTail") => `(tactic| (k_here; (with_reducible show wpAny _ _ (subscriptTail _ _ (Value.ref _) (Value.int 0 _)) _ _ _); k_dflt (refine' my_item0 ?N ?m ?_ ?s; (case N => k_asm); (case m => k_mem); (case s => with_unfolding_all rfl); k_whole)))
local macro_rules | `(tactic| walk_at "call ref") => `(tactic| (k_here; (with_reducible show wpAny _ _ (call (Value.ref 98) [_, Value.str _ _] _) _ _ _); k_dflt (first | (refine' wpAny_call (conv_name (by with_reducible assumption) ?B ?F ?X ?N ?T ?R ?_)) | (refine' wpAny_call (conv_val (by with_reducible assumption) ?B ?F ?X ?N ?T ?R ?_))); (case B => k_asm); (case F => k_asm); (case X => k_asm); (case N => k_asm); (case T => k_asm); (case R => first | exact Room.less (Room.deeper (by assumption) rfl rfl) (by decide) | exact Room.less (by assumption) (by decide)); intro h' tk' F' N'; (try dsimp only); (try k_sweep)))
local macro_rules | `(tactic| walk_at "delItem ref") => `(tactic| (k_here; k_dflt (refine' my_delItem ?F ?X ?I ?hQ ?hS ?hF ?_; (case F => k_asm); (case X => k_asm); (case I => k_inst); (case hS => k_is); (case hF => k_is); (case hQ => k_is); k_whole)))
local macro_rules | `(tactic| walk_at "call ref") => `(tactic| (k_here; (with_reducible show wpAny _ _ (call (Value.ref 117) [Value.ref _, Value.str _ _]) _ _ _); k_dflt (refine' wpAny_call (del_hdr (by with_reducible assumption) ?hT ?B ?F ?X ?N ?T ?R ?_)); (case hT => k_asm); (case B => k_asm); (case F => k_asm); (case X => k_asm); (case N => k_asm); (case T => k_asm); (case R => first | exact Room.less (Room.deeper (by assumption) rfl rfl) (by decide) | exact Room.less (by assumption) (by decide)); intro h' tk' n' vs' F' N' hT'; (try unfold hdrs at *); (try dsimp only); (try k_sweep)))
local macro_rules | `(tactic| walk_at "call builtin:list.append") => `(tactic| (k_here; (with_reducible show wpAny _ _ (call (Value.builtin _) [Value.ref _, _]) _ _ _); k_dflt (refine' append_K ?k1 ?k2 ?k3 ?_ ?z; (case k1 => k_asm); (case k2 => k_asm); (case k3 => k_upd); (case z => exact Tb.fit (by with_reducible assumption)); k_whole); intro h' F' N'; (try k_sweep)))

set_option maxHeartbeats 8000000 in
theorem items_hdr {T₁ D H : Addr} {rest : List (Addr × Obj)} {vs : List Value} {es : List (Nat × Str)} {n : Nat} {tk0 : Tok}   (hT : Tb T₁ D H rest vs es)
   (B : Below A₀ base outer h₀) (F : Fr h₀ L s.heap m) (X : (Mine.hd.heap_39 w.params).In h₀) (N : News h₀ L s.heap ((H, listOf vs.toArray n) :: (T₁, instObj 199 D) :: (D, hdrs w.params tk0 H) :: rest)) (T : Top hd.view_39 loose mean mg mb h₀)
   (hR : Room 4 A env outer L)
   (k : ∀ h' tk l' n', @Ne Nat l' H → (∀ p ∈ rest, p.1 ≠ l') → Fr h₀ L h' m → News h₀ L h' ((l', listOf vs.toArray n') :: (H, listOf vs.toArray n) :: (T₁, instObj 199 D) :: (D, hdrs w.params tk0 H) :: rest) → R (.ok (.ret (.ref l'))) {s with heap := h', toks := tk}) :
   codeAny (model prog w) A (.call (.ref 163) ⟨[.ref T₁], []⟩) R s := by
  obtain ⟨tdt, tht, thd, trt, trd, trh, tent, tfew, tval⟩ := id hT
  unfold hdrs at N
  refine' code_def B F X N T hR.fr hR.me hR.kind ?k6 ?k7 hR.lim ?k9 ?kB ?_ ?c2 ?c3 ?c4 ?c5
  (case k6 => k_is); (case k7 => k_is); (case k9 => first | exact BindsTo.of_eq rfl | exact binds_K (by k_in) rfl (by k_is) rfl rfl rfl); (case c5 => decide); (case kB => exact locs rfl); (case c2 => exact rfl); (case c3 => exact rfl); (case c4 => exact rfl)
  k_whole; intro g' L' h' FG' F' N' B' X' T'; (try dsimp only); (try k_lift B'); (try k_fold)
  k_steps
  refine' get_slice (by assumption) (by assumption) (List.mem_cons_self ..) ?z ?_ (by with_unfolding_all rfl)
  case z => have := tent.len; rw [sizeLine_eq]; simp; omega
  intro h9 l9 hne F9 N9
  k_steps
  exact k _ _ _ _ (fun e => hne _ (List.mem_cons_self ..) e.symm) (fun p hp => hne p (.tail _ (.tail _ (.tail _ hp)))) (by assumption) (by assumption)

set_option maxHeartbeats 8000000 in
theorem set_hdr {T₁ D H : Addr} {rest : List (Addr × Obj)} {vs : List Value} {es : List (Nat × Str)} {n : Nat} {tk0 : Tok} {p : Nat} {x : Str} {t u : Tok} (hp : p < 32) (hx : okX x) (hf : es.length < 32) (hT : Tb T₁ D H rest vs es)
   (B : Below A₀ base outer h₀) (F : Fr h₀ L s.heap m) (X : (Mine.hd.heap_39 w.params).In h₀) (N : News h₀ L s.heap ((H, listOf vs.toArray n) :: (T₁, instObj 199 D) :: (D, hdrs w.params tk0 H) :: rest)) (T : Top hd.view_39 loose mean mg mb h₀)
   (hR : Room 6 A env outer L)
   (k : ∀ h' tk a n' vs', Fr h₀ L h' m → News h₀ L h' ((H, listOf vs'.toArray n') :: (T₁, instObj 199 D) :: (D, hdrs w.params tk0 H) :: (a, tupOf (p, x) t u 0) :: rest) → Tb T₁ D H ((a, tupOf (p, x) t u 0) :: rest) vs' ((es.filter fun e => e.1 != p) ++ [(p, x)]) → R (.ok (.ret .none)) {s with heap := h', toks := tk}) :
   codeAny (model prog w) A (.call (.ref 112) ⟨[.ref T₁, .str (nm p) t, .str x u], []⟩) R s := by
  obtain ⟨tdt, tht, thd, trt, trd, trh, tent, tfew, tval⟩ := id hT
  unfold hdrs at N
  refine' code_def B F X N T hR.fr hR.me hR.kind ?k6 ?k7 hR.lim ?k9 ?kB ?_ ?c2 ?c3 ?c4 ?c5
  (case k6 => k_is); (case k7 => k_is); (case k9 => first | exact BindsTo.of_eq rfl | exact binds_K (by k_in) rfl (by k_is) rfl rfl rfl); (case c5 => decide); (case kB => exact locs rfl); (case c2 => exact rfl); (case c3 => exact rfl); (case c4 => exact rfl)
  k_whole; intro g' L' h' FG' F' N' B' X' T'; (try dsimp only); (try k_lift B'); (try k_fold)
  have ok1 := okX_nm hp
  have hN := Nick.nm hp
  k_steps
  (rename _ ∧ _ ∧ _ ∧ AllLt _ _ => l1)
  rename Tb _ _ _ _ _ (List.filter _ _) => hT2
  rename News h₀ _ _ _ => N5
  rw [List.push_toArray] at N5
  exact k _ _ _ _ _ (by assumption) (newsSub N5 swap4) (hT2.add (t := t) (u := u) hp hx (Nat.ne_of_gt l1.1) (Nat.ne_of_gt l1.2.1) (Nat.ne_of_gt l1.2.2.1) (Nat.lt_of_le_of_lt (List.length_filter_le ..) hf))

end
end Mine
end
section
open PySem PySem.W PyProof.Rows PySem.Calls
set_option Elab.async false
set_option maxRecDepth 100000
set_option linter.unusedVariables false
namespace Mine
theorem fillK_F6 : (fun (_ : OpenLaw) (_ : Params → Frag) => True) PySem.Challenge.rw_pg0208_01 hd.heap_39 := by k_fill; trivial
section
variable {prog : Program} {w : World} {A₀ A : Around} {s : Shared} {base h₀ : Heap} {outer : List Env} {L : Addr} {m : Str → Option Value} {env : Env} {news : List (Addr × Obj)}
  {loose : List Str} {mean : ExcName → Option Value} {mg mb : Str → Option Value} {R : Result → Shared → Prop}
theorem get_some {T₁ D H : Addr} {rest : List (Addr × Obj)} {vs : List Value} {es : List (Nat × Str)} {n : Nat} {tk0 : Tok} {x y : Str} {t : Tok} {p : Nat} (hN : Nick x p) (hl : look es p = some y) (hT : Tb T₁ D H rest vs es)
   (B : Below A₀ base outer h₀) (F : Fr h₀ L s.heap m) (X : (Mine.hd.heap_39 w.params).In h₀) (N : News h₀ L s.heap ((H, listOf vs.toArray n) :: (T₁, instObj 199 D) :: (D, hdrs w.params tk0 H) :: rest)) (T : Top hd.view_39 loose mean mg mb h₀)
   (hR : Room 4 A env outer L)
   (k : ∀ h' tk tk', Fr h₀ L h' m → News h₀ L h' ((H, listOf vs.toArray n) :: (T₁, instObj 199 D) :: (D, hdrs w.params tk0 H) :: rest) → R (.ok (.ret (.str y tk'))) {s with heap := h', toks := tk}) :
   codeAny (model prog w) A (.call (.ref 146) ⟨[.ref T₁, .str x t], []⟩) R s :=
  get_hdr hN hT B F X N T hR (by rw [hl]; exact k)
theorem get_none {T₁ D H : Addr} {rest : List (Addr × Obj)} {vs : List Value} {es : List (Nat × Str)} {n : Nat} {tk0 : Tok} {x : Str} {t : Tok} {p : Nat} (hN : Nick x p) (hl : look es p = none) (hT : Tb T₁ D H rest vs es)
   (B : Below A₀ base outer h₀) (F : Fr h₀ L s.heap m) (X : (Mine.hd.heap_39 w.params).In h₀) (N : News h₀ L s.heap ((H, listOf vs.toArray n) :: (T₁, instObj 199 D) :: (D, hdrs w.params tk0 H) :: rest)) (T : Top hd.view_39 loose mean mg mb h₀)
   (hR : Room 4 A env outer L)
   (k : ∀ h' tk, Fr h₀ L h' m → News h₀ L h' ((H, listOf vs.toArray n) :: (T₁, instObj 199 D) :: (D, hdrs w.params tk0 H) :: rest) → R (.ok (.ret .none)) {s with heap := h', toks := tk}) :
   codeAny (model prog w) A (.call (.ref 146) ⟨[.ref T₁, .str x t], []⟩) R s :=
  get_hdr hN hT B F X N T hR (by rw [hl]; exact fun h' tk _ => k h' tk)
local macro_rules | `(tactic| k_all) => `(tactic| with_reducible assumption)
local macro_rules | `(tactic| walk_at "call builtin:str.lower") => `(tactic| (k_here; (with_reducible show wpAny _ _ (call (Value.builtin _) [Value.str _ _]) _ _ _); k_dflt (refine' my_lower (by with_reducible assumption) ?_)))
local macro_rules | `(tactic| k_mem) => `(tactic| (refine memOf ?_; with_reducible assumption))
local macro_rules | `(tactic| walk_at "subscriptTail") => `(tactic| (k_here; (with_reducible show wpAny _ _ (subscriptTail _ _ (Value.ref _) (Value.int 0 _)) _ _ _); k_dflt (refine' my_item0 ?N ?m ?_ ?s; (case N => k_asm); (case m => k_mem); (case s => with_unfolding_all rfl); k_whole)))
local macro_rules | `(tactic| walk_at "call ref") => `(tactic| (k_here; (with_reducible show wpAny _ _ (call (Value.ref 98) [_, Value.str _ _] _) _ _ _); k_dflt (first | (refine' wpAny_call (conv_name (by with_reducible assumption) ?B ?F ?X ?N ?T ?R ?_)) | (refine' wpAny_call (conv_val (by with_reducible assumption) ?B ?F ?X ?N ?T ?R ?_))); (case B => k_asm); (case F => k_asm); (case X => k_asm); (case N => k_asm); (case T => k_asm); (case R => first | exact Room.less (Room.deeper (by assumption) rfl rfl) (by decide) | exact Room.less (by assumption) (by decide)); intro h' tk' F' N'; (try dsimp only); (try k_sweep)))
local macro_rules | `(tactic| walk_at "delItem ref") => `(tactic| (k_here; k_dflt (refine' my_delItem ?F ?X ?I ?hQ ?hS ?hF ?_; (case F => k_asm); (case X => k_asm); (case I => k_inst); (case hS => k_is); (case hF => k_is); (case hQ => k_is); k_whole)))
local macro_rules | `(tactic| walk_at "call ref") => `(tactic| (k_here; (with_reducible show wpAny _ _ (call (Value.ref 117) [Value.ref _, Value.str _ _]) _ _ _); k_dflt (refine' wpAny_call (del_hdr (by with_reducible assumption) ?hT ?B ?F ?X ?N ?T ?R ?_)); (case hT => k_asm); (case B => k_asm); (case F => k_asm); (case X => k_asm); (case N => k_asm); (case T => k_asm); (case R => first | exact Room.less (Room.deeper (by assumption) rfl rfl) (by decide) | exact Room.less (by assumption) (by decide)); intro h' tk' n' vs' F' N' hT'; (try unfold hdrs at *); (try dsimp only); (try k_sweep)))
local macro_rules | `(tactic| walk_at "call builtin:list.append") => `(tactic| (k_here; (with_reducible show wpAny _ _ (call (Value.builtin _) [Value.ref _, _]) _ _ _); k_dflt (refine' append_K ?k1 ?k2 ?k3 ?_ ?z; (case k1 => k_asm); (case k2 => k_asm); (case k3 => k_upd); (case z => exact Tb.fit (by with_reducible assumption)); k_whole); intro h' F' N'; (try k_sweep)))
local macro_rules | `(tactic| walk_at "call ref") => `(tactic| (k_here; (with_reducible show wpAny _ _ (call (Value.ref 146) [Value.ref _, Value.str _ _]) _ _ _); k_dflt (refine' wpAny_call (get_some (by with_reducible assumption) (by with_reducible assumption) ?hT ?B ?F ?X ?N ?T ?R ?_)); (case hT => k_asm); (case B => k_asm); (case F => k_asm); (case X => k_asm); (case N => k_asm); (case T => k_asm); (case R => first | exact Room.less (Room.deeper (by assumption) rfl rfl) (by decide) | exact Room.less (by assumption) (by decide)); intro h' tk' tk2' F' N'; (try unfold hdrs at *); (try dsimp only); (try k_sweep)))
local macro_rules | `(tactic| walk_at "call ref") => `(tactic| (k_here; (with_reducible show wpAny _ _ (call (Value.ref 146) [Value.ref _, Value.str _ _]) _ _ _); k_dflt (refine' wpAny_call (get_none (by with_reducible assumption) (by with_reducible assumption) ?hT ?B ?F ?X ?N ?T ?R ?_)); (case hT => k_asm); (case B => k_asm); (case F => k_asm); (case X => k_asm); (case N => k_asm); (case T => k_asm); (case R => first | exact Room.less (Room.deeper (by assumption) rfl rfl) (by decide) | exact Room.less (by assumption) (by decide)); intro h' tk' F' N'; (try unfold hdrs at *); (try dsimp only); (try k_sweep)))

set_option maxHeartbeats 8000000 in
theorem sd_some {T₁ D H : Addr} {rest : List (Addr × Obj)} {vs : List Value} {es : List (Nat × Str)} {n : Nat} {tk0 : Tok} {p : Nat} {x y : Str} {t u : Tok} (hp : p < 32) (hl : look es p = some y) (hT : Tb T₁ D H rest vs es)
   (B : Below A₀ base outer h₀) (F : Fr h₀ L s.heap m) (X : (Mine.hd.heap_39 w.params).In h₀) (N : News h₀ L s.heap ((H, listOf vs.toArray n) :: (T₁, instObj 199 D) :: (D, hdrs w.params tk0 H) :: rest)) (T : Top hd.view_39 loose mean mg mb h₀)
   (hR : Room 6 A env outer L)
   (k : ∀ h' tk tk', Fr h₀ L h' m → News h₀ L h' ((H, listOf vs.toArray n) :: (T₁, instObj 199 D) :: (D, hdrs w.params tk0 H) :: rest) → R (.ok (.ret (.str y tk'))) {s with heap := h', toks := tk}) :
   codeAny (model prog w) A (.call (.ref 189) ⟨[.ref T₁, .str (nm p) t, .str x u], []⟩) R s := by
  obtain ⟨tdt, tht, thd, trt, trd, trh, tent, tfew, tval⟩ := id hT
  unfold hdrs at N
  refine' code_def B F X N T hR.fr hR.me hR.kind ?k6 ?k7 hR.lim ?k9 ?kB ?_ ?c2 ?c3 ?c4 ?c5
  (case k6 => k_is); (case k7 => k_is); (case k9 => first | exact BindsTo.of_eq rfl | exact binds_K (by k_in) rfl (by k_is) rfl rfl rfl); (case c5 => decide); (case kB => exact locs rfl); (case c2 => exact rfl); (case c3 => exact rfl); (case c4 => exact rfl)
  k_whole; intro g' L' h' FG' F' N' B' X' T'; (try dsimp only); (try k_lift B'); (try k_fold)
  have ok1 := okX_nm hp
  have hN := Nick.nm hp
  k_steps
  exact k _ _ _ (by assumption) (by assumption)

set_option maxHeartbeats 8000000 in
theorem sd_none {T₁ D H : Addr} {rest : List (Addr × Obj)} {vs : List Value} {es : List (Nat × Str)} {n : Nat} {tk0 : Tok} {p : Nat} {x : Str} {t u : Tok} (hp : p < 32) (hx : okX x) (hf : es.length < 32) (hl : look es p = none) (hT : Tb T₁ D H rest vs es)
   (B : Below A₀ base outer h₀) (F : Fr h₀ L s.heap m) (X : (Mine.hd.heap_39 w.params).In h₀) (N : News h₀ L s.heap ((H, listOf vs.toArray n) :: (T₁, instObj 199 D) :: (D, hdrs w.params tk0 H) :: rest)) (T : Top hd.view_39 loose mean mg mb h₀)
   (hR : Room 6 A env outer L)
   (k : ∀ h' tk a n' vs', Fr h₀ L h' m → News h₀ L h' ((H, listOf vs'.toArray n') :: (T₁, instObj 199 D) :: (D, hdrs w.params tk0 H) :: (a, tupOf (p, x) t u 0) :: rest) → Tb T₁ D H ((a, tupOf (p, x) t u 0) :: rest) vs' (es ++ [(p, x)]) → R (.ok (.ret (.str x u))) {s with heap := h', toks := tk}) :
   codeAny (model prog w) A (.call (.ref 189) ⟨[.ref T₁, .str (nm p) t, .str x u], []⟩) R s := by
  obtain ⟨tdt, tht, thd, trt, trd, trh, tent, tfew, tval⟩ := id hT
  unfold hdrs at N
  refine' code_def B F X N T hR.fr hR.me hR.kind ?k6 ?k7 hR.lim ?k9 ?kB ?_ ?c2 ?c3 ?c4 ?c5
  (case k6 => k_is); (case k7 => k_is); (case k9 => first | exact BindsTo.of_eq rfl | exact binds_K (by k_in) rfl (by k_is) rfl rfl rfl); (case c5 => decide); (case kB => exact locs rfl); (case c2 => exact rfl); (case c3 => exact rfl); (case c4 => exact rfl)
  k_whole; intro g' L' h' FG' F' N' B' X' T'; (try dsimp only); (try k_lift B'); (try k_fold)
  have ok1 := okX_nm hp
  have hN := Nick.nm hp
  k_steps
  (rename _ ∧ _ ∧ _ ∧ AllLt _ _ => l1)
  rename News h₀ _ _ _ => N5
  rw [List.push_toArray] at N5
  exact k _ _ _ _ _ (by assumption) (newsSub N5 swap4) (hT.add (t := t) (u := u) hp hx (Nat.ne_of_gt l1.1) (Nat.ne_of_gt l1.2.1) (Nat.ne_of_gt l1.2.2.1) hf)

end
end Mine
end
section
open PySem PySem.W PyProof.Rows PySem.Calls
set_option Elab.async false
set_option maxRecDepth 100000
set_option linter.unusedVariables false
namespace Mine
theorem fillK_F7 : (fun (_ : OpenLaw) (_ : Params → Frag) => True) PySem.Challenge.rw_pg0208_01 hd.heap_39 := by k_fill; trivial
section
variable {prog : Program} {w : World} {A₀ A : Around} {s : Shared} {base h₀ : Heap} {outer : List Env} {L : Addr} {m : Str → Option Value} {env : Env} {news : List (Addr × Obj)}
  {loose : List Str} {mean : ExcName → Option Value} {mg mb : Str → Option Value} {R : Result → Shared → Prop}
local macro_rules | `(tactic| walk_at "no such step") => `(tactic| fail)
local macro_rules | `(tactic| k_all) => `(tactic| with_reducible assumption)
local macro_rules | `(tactic| walk_at "call builtin:str.lower") => `(tactic| (k_here; (with_reducible show wpAny _ _ (call (Value.builtin _) [Value.str _ _]) _ _ _); k_dflt (refine' my_lower (by with_reducible assumption) ?_)))
local macro_rules | `(tactic| k_mem) => `(tactic| (refine memOf ?_; with_reducible assumption))
local macro_rules | `(tactic| walk_at "subscriptTail") => `(tactic| (k_here; (with_reducible show wpAny _ _ (subscriptTail _ _ (Value.str _ _) (Value.int 0 _)) _ _ _); k_dflt (refine' my_str0 ?c ?_ ?s; (case c => with_reducible assumption); (case s => with_unfolding_all rfl); k_whole)))
local macro_rules | `(tactic| walk_at "exec For Name Call cons nil") => `(tactic| (k_here; k_dflt (refine forM (by k_asm) ?_ (by intro _; rfl))))
local macro_rules | `(tactic| walk_at "call ref") => `(tactic| (k_here; (with_reducible show wpAny _ _ (call (Value.ref 59) [Value.int _ _]) _ _ _); k_dflt (refine' wpAny_call (ctrl_int ?B ?F ?X ?N ?T ?R ?_); (case B => k_asm); (case F => k_asm); (case X => k_asm); (case N => k_asm); (case T => k_asm); (case R => first | exact Room.less (Room.deeper (by assumption) rfl rfl) (by decide) | exact Room.less (by assumption) (by decide))); intro h' tk' tk2' F' N'; (try dsimp only); (try k_sweep)))
local macro_rules | `(tactic| walk_at "call ref") => `(tactic| (k_here; (with_reducible show wpAny _ _ (call (Value.ref 59) [Value.str _ _]) _ _ _); k_dflt (refine' wpAny_call (ctrl_str ?B ?F ?X ?N ?T ?R ?_); (case B => k_asm); (case F => k_asm); (case X => k_asm); (case N => k_asm); (case T => k_asm); (case R => first | exact Room.less (Room.deeper (by assumption) rfl rfl) (by decide) | exact Room.less (by assumption) (by decide))); intro h' tk' tk2' F' N'; (try dsimp only); (try k_sweep)))
local macro_rules | `(tactic| walk_at "call ref") => `(tactic| (k_here; (with_reducible show wpAny _ _ (call (Value.ref 66) [Value.int _ _]) _ _ _); k_dflt (refine' wpAny_call (unctrl_int (by with_reducible assumption) ?B ?F ?X ?N ?T ?R ?_); (case B => k_asm); (case F => k_asm); (case X => k_asm); (case N => k_asm); (case T => k_asm); (case R => first | exact Room.less (Room.deeper (by assumption) rfl rfl) (by decide) | exact Room.less (by assumption) (by decide))); intro h' tk' tk2' F' N'; (try dsimp only); (try k_sweep)))
local macro_rules | `(tactic| walk_at "call ref") => `(tactic| (k_here; (with_reducible show wpAny _ _ (call (Value.ref 189) [Value.ref _, Value.str _ _, Value.str _ _]) _ _ _); k_dflt (refine' wpAny_call (sd_some (by with_reducible assumption) (by with_reducible assumption) ?hT ?B ?F ?X ?N ?T ?R ?_)); (case hT => k_asm); (case B => k_asm); (case F => k_asm); (case X => k_asm); (case N => k_asm); (case T => k_asm); (case R => first | exact Room.less (Room.deeper (by assumption) rfl rfl) (by decide) | exact Room.less (by assumption) (by decide)); intro h' tk' tk2' F' N'; (try unfold hdrs at *); (try dsimp only); (try k_sweep)))
local macro_rules | `(tactic| walk_at "call ref") => `(tactic| (k_here; (with_reducible show wpAny _ _ (call (Value.ref 189) [Value.ref _, Value.str _ _, Value.str _ _]) _ _ _); k_dflt (refine' wpAny_call (sd_none (by with_reducible assumption) (by with_reducible assumption) (by with_reducible assumption) (by with_reducible assumption) ?hT ?B ?F ?X ?N ?T ?R ?_)); (case hT => k_asm); (case B => k_asm); (case F => k_asm); (case X => k_asm); (case N => k_asm); (case T => k_asm); (case R => first | exact Room.less (Room.deeper (by assumption) rfl rfl) (by decide) | exact Room.less (by assumption) (by decide)); intro h' tk' a' n' vs' F' N' hT'; (try unfold hdrs at *); (try dsimp only); (try k_sweep)))

def bringP (es : List (Nat × Str)) (x : Str) : Nat → Nat → List (Nat × Str)
  | 0, _ => es
  | f + 1, p => match look es p with
    | none => es ++ [(p, x)]
    | some y => if y = x then es else bringP es x f ((p + 1) % 32)

set_option maxHeartbeats 8000000 in
theorem bring {T₁ D H : Addr} {rest : List (Addr × Obj)} {vs : List Value} {es : List (Nat × Str)} {n : Nat} {tk0 : Tok} {x : Str} {t : Tok} {c : Nat} (hx : okX x) (hf : es.length < 32) (hc : x.cps[0]? = some c) (hT : Tb T₁ D H rest vs es)
   (B : Below A₀ base outer h₀) (F : Fr h₀ L s.heap m) (X : (Mine.hd.heap_39 w.params).In h₀) (N : News h₀ L s.heap ((H, listOf vs.toArray n) :: (T₁, instObj 199 D) :: (D, hdrs w.params tk0 H) :: rest)) (T : Top hd.view_39 loose mean mg mb h₀)
   (hR : Room 8 A env outer L)
   (k : ∀ h' tk n' vs' rest', Fr h₀ L h' m → News h₀ L h' ((H, listOf vs'.toArray n') :: (T₁, instObj 199 D) :: (D, hdrs w.params tk0 H) :: rest') → Tb T₁ D H rest' vs' (bringP es x 32 (c % 32)) → (∀ p ∈ rest, p ∈ rest') → R (.ok (.ret .none)) {s with heap := h', toks := tk}) :
   codeAny (model prog w) A (.call (.ref 210) ⟨[.ref T₁, .str x t], []⟩) R s := by
  obtain ⟨tdt, tht, thd, trt, trd, trh, tent, tfew, tval⟩ := id hT
  unfold hdrs at N
  refine' code_def B F X N T hR.fr hR.me hR.kind ?k6 ?k7 hR.lim ?k9 ?kB ?_ ?c2 ?c3 ?c4 ?c5
  (case k6 => k_is); (case k7 => k_is); (case k9 => first | exact BindsTo.of_eq rfl | exact binds_K (by k_in) rfl (by k_is) rfl rfl rfl); (case c5 => decide); (case kB => exact locs rfl); (case c2 => exact rfl); (case c3 => exact rfl); (case c4 => exact rfl)
  k_whole; intro g' L' h' FG' F' N' B' X' T'; (try dsimp only); (try k_lift B'); (try k_fold)
  k_steps
  refine iterM_rangeJ (n := 32) (fun m₀ news₀ i m' news' => (∃ (pl : Nat) (tk : Tok) (u : Str → Option Value), pl < 32 ∧ m' = (fun y => if y = Str.ofString "turn" then u y else if y = Str.ofString "place" then some (.int (pl : Int) tk) else m₀ y) ∧ bringP es x (32 - i) pl = bringP es x 32 (c % 32)) ∧ news' = news₀)
    hR.hh (by assumption) (by decide) (by rfl) (by assumption) (by assumption) ⟨⟨c % 32, _, _, by omega, frame_at rfl (fun _ _ _ => rfl), rfl⟩, rfl⟩ ?_ ?_ rfl rfl
  · rintro i ti m₁ news₁ h9 tk9 own hi ⟨⟨pl, tp, u, hpl, rfl, hbr⟩, rfl⟩ hoff hown hio F9 N9
    simp only [List.cons_append] at N9
    have hT' := hT.more (off_own hown hoff)
    cases hl : look es pl with
    | none =>
      have hstep : bringP es x (32 - i) pl = es ++ [(pl, x)] := by
        rw [show 32 - i = (31 - i) + 1 by omega]
        show (match look es pl with | none => es ++ [(pl, x)] | some y => if y = x then es else bringP es x (31 - i) ((pl + 1) % 32)) = _
        rw [hl]
      k_steps
      · dsimp only [TurnM, LoopStepV]
        k_steps
        rename Tb _ _ _ _ _ (_ ++ [_]) => hT2
        rw [← hbr, hstep] at k
        exact k _ _ _ _ _ (by assumption) (by assumption) hT2 (fun p hp => .tail _ (List.mem_append_left _ hp))
      · exfalso
        rename (x == x) = false => hq
        simp at hq
    | some y =>
      have hstep : bringP es x (32 - i) pl = if y = x then es else bringP es x (31 - i) ((pl + 1) % 32) := by
        rw [show 32 - i = (31 - i) + 1 by omega]
        show (match look es pl with | none => es ++ [(pl, x)] | some y => if y = x then es else bringP es x (31 - i) ((pl + 1) % 32)) = _
        rw [hl]
      k_steps
      · dsimp only [TurnM, LoopStepV]
        k_steps
        rename (y == x) = true => hq
        rw [← hbr, hstep, if_pos (by simpa using hq)] at k
        exact k _ _ _ _ _ (by assumption) (by assumption) hT' (fun p hp => List.mem_append_left _ hp)
      · rename (y == x) = false => hq
        have epl : ((pl : Int) + 1) % 32 = (((pl + 1) % 32 : Nat) : Int) := by omega
        rename Fr _ (Env.locals _) _ _ => F8
        refine TurnM.next (by assumption) (by assumption) sub3r sub3o hoff ⟨⟨(pl + 1) % 32, _, _, by omega, frame_at (by rw [← epl]; rfl) (by intro z h1 h2; simp only [h1, h2, if_false]), ?_⟩, rfl⟩
        rw [← hbr, hstep, if_neg (by simpa using hq)]
        congr 1
        omega
  · rintro h9 tk9 m₁ news₁ F9 N9 ⟨⟨pl, tp, u, hpl, rfl, hbr⟩, rfl⟩
    k_steps
    have hb : bringP es x 32 (c % 32) = es := hbr.symm
    rw [hb] at k
    exact k _ _ _ _ _ (by assumption) (by assumption) hT (fun p hp => hp)

end
end Mine
end
section
open PySem PySem.W PyProof.Rows PySem.Calls
set_option Elab.async false
set_option maxRecDepth 100000
set_option linter.unusedVariables false
namespace Mine
theorem fillK_F8 : (fun (_ : OpenLaw) (_ : Params → Frag) => True) PySem.Challenge.rw_pg0208_01 hd.heap_39 := by k_fill; trivial
section
variable {prog : Program} {w : World} {A₀ A : Around} {s : Shared} {base h₀ : Heap} {outer : List Env} {L : Addr} {m : Str → Option Value} {env : Env} {news : List (Addr × Obj)}
  {loose : List Str} {mean : ExcName → Option Value} {mg mb : Str → Option Value} {R : Result → Shared → Prop}
theorem ctrl_next {pl : Nat} {t : Tok} (B : Below A₀ base outer h₀) (F : Fr h₀ L s.heap m) (X : (Mine.hd.heap_39 w.params).In h₀) (N : News h₀ L s.heap news) (T : Top hd.view_39 loose mean mg mb h₀)
   (hR : Room 3 A env outer L)
   (k : ∀ h' tk tk', Fr h₀ L h' m → News h₀ L h' news → R (.ok (.ret (.int (((pl + 1) % 32 : Nat) : Int) tk'))) {s with heap := h', toks := tk}) :
   codeAny (model prog w) A (.call (.ref 59) ⟨[.int ((pl : Int) + 1) t], []⟩) R s :=
  ctrl_int B F X N T hR (by rw [show ((pl : Int) + 1) % 32 = (((pl + 1) % 32 : Nat) : Int) by omega]; exact k)
local macro_rules | `(tactic| k_all) => `(tactic| with_reducible assumption)
local macro_rules | `(tactic| walk_at "call builtin:str.lower") => `(tactic| (k_here; (with_reducible show wpAny _ _ (call (Value.builtin _) [Value.str _ _]) _ _ _); k_dflt (refine' my_lower (by with_reducible assumption) ?_)))
local macro_rules | `(tactic| k_mem) => `(tactic| (refine memOf ?_; with_reducible assumption))
local macro_rules | `(tactic| walk_at "subscriptTail") => `(tactic| (k_here; (with_reducible show wpAny _ _ (subscriptTail _ _ (Value.str _ _) (Value.int 0 _)) _ _ _); k_dflt (refine' my_str0 ?c ?_ ?s; (case c => with_reducible assumption); (case s => with_unfolding_all rfl); k_whole)))
local macro_rules | `(tactic| walk_at "exec For Name Call cons nil") => `(tactic| (k_here; k_dflt (refine forM (by k_asm) ?_ (by intro _; rfl))))
local macro_rules | `(tactic| walk_at "call ref") => `(tactic| (k_here; (with_reducible show wpAny _ _ (call (Value.ref 59) [Value.int _ _]) _ _ _); k_dflt (refine' wpAny_call (ctrl_int ?B ?F ?X ?N ?T ?R ?_); (case B => k_asm); (case F => k_asm); (case X => k_asm); (case N => k_asm); (case T => k_asm); (case R => first | exact Room.less (Room.deeper (by assumption) rfl rfl) (by decide) | exact Room.less (by assumption) (by decide))); intro h' tk' tk2' F' N'; (try dsimp only); (try k_sweep)))
local macro_rules | `(tactic| walk_at "call ref") => `(tactic| (k_here; (with_reducible show wpAny _ _ (call (Value.ref 59) [Value.int ((_ : Int) + 1) _]) _ _ _); k_dflt (refine' wpAny_call (ctrl_next ?B ?F ?X ?N ?T ?R ?_); (case B => k_asm); (case F => k_asm); (case X => k_asm); (case N => k_asm); (case T => k_asm); (case R => first | exact Room.less (Room.deeper (by assumption) rfl rfl) (by decide) | exact Room.less (by assumption) (by decide))); intro h' tk' tk2' F' N'; (try dsimp only); (try k_sweep)))
local macro_rules | `(tactic| walk_at "call ref") => `(tactic| (k_here; (with_reducible show wpAny _ _ (call (Value.ref 59) [Value.str _ _]) _ _ _); k_dflt (refine' wpAny_call (ctrl_str ?B ?F ?X ?N ?T ?R ?_); (case B => k_asm); (case F => k_asm); (case X => k_asm); (case N => k_asm); (case T => k_asm); (case R => first | exact Room.less (Room.deeper (by assumption) rfl rfl) (by decide) | exact Room.less (by assumption) (by decide))); intro h' tk' tk2' F' N'; (try dsimp only); (try k_sweep)))
local macro_rules | `(tactic| walk_at "call ref") => `(tactic| (k_here; (with_reducible show wpAny _ _ (call (Value.ref 66) [Value.int _ _]) _ _ _); k_dflt (refine' wpAny_call (unctrl_int (by with_reducible assumption) ?B ?F ?X ?N ?T ?R ?_); (case B => k_asm); (case F => k_asm); (case X => k_asm); (case N => k_asm); (case T => k_asm); (case R => first | exact Room.less (Room.deeper (by assumption) rfl rfl) (by decide) | exact Room.less (by assumption) (by decide))); intro h' tk' tk2' F' N'; (try dsimp only); (try k_sweep)))
local macro_rules | `(tactic| walk_at "delItem ref") => `(tactic| (k_here; k_dflt (refine' my_delItem ?F ?X ?I ?hQ ?hS ?hF ?_; (case F => k_asm); (case X => k_asm); (case I => k_inst); (case hS => k_is); (case hF => k_is); (case hQ => k_is); k_whole)))
local macro_rules | `(tactic| walk_at "call ref") => `(tactic| (k_here; (with_reducible show wpAny _ _ (call (Value.ref 117) [Value.ref _, Value.str _ _]) _ _ _); k_dflt (refine' wpAny_call (del_hdr (by with_reducible assumption) ?hT ?B ?F ?X ?N ?T ?R ?_)); (case hT => k_asm); (case B => k_asm); (case F => k_asm); (case X => k_asm); (case N => k_asm); (case T => k_asm); (case R => first | exact Room.less (Room.deeper (by assumption) rfl rfl) (by decide) | exact Room.less (by assumption) (by decide)); intro h' tk' n' vs' F' N' hT'; (try unfold hdrs at *); (try dsimp only); (try k_sweep)))
local macro_rules | `(tactic| walk_at "call ref") => `(tactic| (k_here; (with_reducible show wpAny _ _ (call (Value.ref 112) [Value.ref _, Value.str _ _, Value.str _ _]) _ _ _); k_dflt (refine' wpAny_call (set_hdr (by with_reducible assumption) (by with_reducible assumption) (by with_reducible assumption) ?hT ?B ?F ?X ?N ?T ?R ?_)); (case hT => k_asm); (case B => k_asm); (case F => k_asm); (case X => k_asm); (case N => k_asm); (case T => k_asm); (case R => first | exact Room.less (Room.deeper (by assumption) rfl rfl) (by decide) | exact Room.less (by assumption) (by decide)); intro h' tk' a' n' vs' F' N' hT'; (try unfold hdrs at *); (try dsimp only); (try k_sweep)))
local macro_rules | `(tactic| walk_at "call ref") => `(tactic| (k_here; (with_reducible show wpAny _ _ (call (Value.ref 146) [Value.ref _, Value.str _ _]) _ _ _); k_dflt (refine' wpAny_call (get_some (by with_reducible assumption) (by with_reducible assumption) ?hT ?B ?F ?X ?N ?T ?R ?_)); (case hT => k_asm); (case B => k_asm); (case F => k_asm); (case X => k_asm); (case N => k_asm); (case T => k_asm); (case R => first | exact Room.less (Room.deeper (by assumption) rfl rfl) (by decide) | exact Room.less (by assumption) (by decide)); intro h' tk' tk2' F' N'; (try unfold hdrs at *); (try dsimp only); (try k_sweep)))
local macro_rules | `(tactic| walk_at "call ref") => `(tactic| (k_here; (with_reducible show wpAny _ _ (call (Value.ref 146) [Value.ref _, Value.str _ _]) _ _ _); k_dflt (refine' wpAny_call (get_none (by with_reducible assumption) (by with_reducible assumption) ?hT ?B ?F ?X ?N ?T ?R ?_)); (case hT => k_asm); (case B => k_asm); (case F => k_asm); (case X => k_asm); (case N => k_asm); (case T => k_asm); (case R => first | exact Room.less (Room.deeper (by assumption) rfl rfl) (by decide) | exact Room.less (by assumption) (by decide)); intro h' tk' F' N'; (try unfold hdrs at *); (try dsimp only); (try k_sweep)))

def findP (es : List (Nat × Str)) (x : Str) : Nat → Nat → Nat
  | 0, h => h
  | f + 1, h => if look es h = some x then h else findP es x f ((h + 1) % 32)
def shiftP : Nat → List (Nat × Str) → Nat → Nat → List (Nat × Str)
  | 0, es, _, _ => es
  | f + 1, es, hole, place => match look es ((place + 1) % 32) with
    | none => es
    | some y => if ((((place + 1) % 32 : Nat) : Int) - ((y.cps.getD 0 0 % 32 : Nat) : Int)) % 32 ≥ ((((place + 1) % 32 : Nat) : Int) - (hole : Int)) % 32
        then shiftP f (((es.filter fun e => e.1 != hole) ++ [(hole, y)]).filter fun e => e.1 != (place + 1) % 32) ((place + 1) % 32) ((place + 1) % 32)
        else shiftP f es hole ((place + 1) % 32)
def takeP (es : List (Nat × Str)) (x : Str) : List (Nat × Str) :=
  let h := findP es x 32 (x.cps.getD 0 0 % 32)
  shiftP 32 (es.filter fun e => e.1 != h) h h
theorem findP_lt {es : List (Nat × Str)} {x : Str} : ∀ (f h : Nat), h < 32 → findP es x f h < 32
  | 0, h, hh => hh
  | f + 1, h, hh => by
    unfold findP
    split
    · exact hh
    · exact findP_lt f _ (by omega)

set_option maxHeartbeats 8000000 in
theorem take {T₁ D H : Addr} {rest : List (Addr × Obj)} {vs : List Value} {es : List (Nat × Str)} {n : Nat} {tk0 : Tok} {x : Str} {t : Tok} (hx : okX x) (hf : es.length < 32) (hT : Tb T₁ D H rest vs es)
   (B : Below A₀ base outer h₀) (F : Fr h₀ L s.heap m) (X : (Mine.hd.heap_39 w.params).In h₀) (N : News h₀ L s.heap ((H, listOf vs.toArray n) :: (T₁, instObj 199 D) :: (D, hdrs w.params tk0 H) :: rest)) (T : Top hd.view_39 loose mean mg mb h₀)
   (hR : Room 9 A env outer L)
   (k : ∀ h' tk n' vs' rest', Fr h₀ L h' m → News h₀ L h' ((H, listOf vs'.toArray n') :: (T₁, instObj 199 D) :: (D, hdrs w.params tk0 H) :: rest') → Tb T₁ D H rest' vs' (takeP es x) → (∀ p ∈ rest, p ∈ rest') → R (.ok (.ret .none)) {s with heap := h', toks := tk}) :
   codeAny (model prog w) A (.call (.ref 217) ⟨[.ref T₁, .str x t], []⟩) R s := by
  obtain ⟨tdt, tht, thd, trt, trd, trh, tent, tfew, tval⟩ := id hT
  unfold hdrs at N
  refine' code_def B F X N T hR.fr hR.me hR.kind ?k6 ?k7 hR.lim ?k9 ?kB ?_ ?c2 ?c3 ?c4 ?c5
  (case k6 => k_is); (case k7 => k_is); (case k9 => first | exact BindsTo.of_eq rfl | exact binds_K (by k_in) rfl (by k_is) rfl rfl rfl); (case c5 => decide); (case kB => exact locs rfl); (case c2 => exact rfl); (case c3 => exact rfl); (case c4 => exact rfl)
  k_whole; intro g' L' h' FG' F' N' B' X' T'; (try dsimp only); (try k_lift B'); (try k_fold)
  have hc := hx.first
  k_steps
  refine iterM_rangeB (n := 32) (fun m₀ news₀ i m' news' => (∃ (hl : Nat) (tk : Tok) (u : Str → Option Value), hl < 32 ∧ m' = (fun y => if y = Str.ofString "turn" then u y else if y = Str.ofString "hole" then some (.int (hl : Int) tk) else m₀ y) ∧ findP es x (32 - i) hl = findP es x 32 (x.cps.getD 0 0 % 32)) ∧ news' = news₀)
    (fun m₀ news₀ m' news' => ∃ (tk : Tok) (u : Str → Option Value) (rest' : List (Addr × Obj)), m' = (fun y => if y = Str.ofString "turn" then u y else if y = Str.ofString "hole" then some (.int (findP es x 32 (x.cps.getD 0 0 % 32) : Nat) tk) else m₀ y) ∧ news' = (H, listOf vs.toArray n) :: (T₁, instObj 199 D) :: (D, hdrs w.params tk0 H) :: rest' ∧ Tb T₁ D H rest' vs es ∧ ∀ p ∈ rest, p ∈ rest')
    hR.hh (by assumption) (by decide) (by rfl) (by assumption) (by assumption) ⟨⟨x.cps.getD 0 0 % 32, _, _, by omega, frame_at rfl (fun _ _ _ => rfl), rfl⟩, rfl⟩ ?_ ?_ ?_ rfl rfl
  · rintro i ti m₁ news₁ h9 tk9 own hi ⟨⟨pl, tp, u, hpl, rfl, hbr⟩, rfl⟩ hoff hown hio F9 N9
    simp only [List.cons_append] at N9
    have hT' := hT.more (off_own hown hoff)
    have nk1 := Nick.nm hpl
    have nk2 := Nick.lw hpl
    have hstep : findP es x (32 - i) pl = if look es pl = some x then pl else findP es x (31 - i) ((pl + 1) % 32) := by
      rw [show 32 - i = (31 - i) + 1 by omega]; rfl
    cases hl : look es pl with
    | none =>
      k_steps
      refine TurnM.next (by assumption) (by assumption) sub3r sub3o hoff ⟨⟨(pl + 1) % 32, _, _, by omega, frame_at rfl (by intro z h1 h2; simp only [h1, h2, if_false]), ?_⟩, rfl⟩
      rw [← hbr, hstep, hl, if_neg (by simp)]
      congr 1; omega
    | some y =>
      k_steps
      · rename (y == x) = true => hq
        have hq' : look es pl = some x := by rw [hl]; congr 1; simpa using hq
        have epl : findP es x 32 (x.cps.getD 0 0 % 32) = pl := by rw [← hbr, hstep, if_pos hq']
        exact ⟨_, _, _, _, rfl, by assumption, by assumption, tp, _, rest ++ own, frame_at (by rw [epl]; rfl) (by intro z h1 h2; simp only [h1, h2, if_false]), rfl, hT', fun p hp => List.mem_append_left _ hp⟩
      · rename (y == x) = false => hq
        refine TurnM.next (by assumption) (by assumption) sub3r sub3o hoff ⟨⟨(pl + 1) % 32, _, _, by omega, frame_at rfl (by intro z h1 h2; simp only [h1, h2, if_false]), ?_⟩, rfl⟩
        rw [← hbr, hstep, hl, if_neg (by intro q; cases q; simp at hq)]
        congr 1; omega
  · rintro m' news' ⟨⟨pl, tp, u, hpl, rfl, hbr⟩, rfl⟩
    exact ⟨tp, u, _, by rw [← hbr]; rfl, rfl, hT, fun p hp => hp⟩
  · rintro h9 tk9 m₁ news₁ F9 N9 ⟨tp, u, rest', rfl, rfl, hT', hsub⟩
    have hk : takeP es x = shiftP 32 (es.filter fun e => e.1 != findP es x 32 (x.cps.getD 0 0 % 32)) (findP es x 32 (x.cps.getD 0 0 % 32)) (findP es x 32 (x.cps.getD 0 0 % 32)) := rfl
    have hg0 : findP es x 32 (x.cps.getD 0 0 % 32) < 32 := findP_lt _ _ (by omega)
    rw [hk] at k
    generalize findP es x 32 (x.cps.getD 0 0 % 32) = g0 at *
    unfold hdrs at N9
    have nk1 := Nick.nm hg0
    have nk2 := Nick.lw hg0
    k_steps
    rename Tb _ _ _ _ _ (List.filter _ _) => hT2
    refine iterM_rangeJ (n := 32) (fun m₀ news₀ i m' news' => ∃ (pl gl : Nat) (tp th : Tok) (u : Str → Option Value) (es2 : List (Nat × Str)) (vs2 : List Value) (n2 : Nat) (rest2 : List (Addr × Obj)), pl < 32 ∧ gl < 32 ∧
        m' = (fun y => if y = Str.ofString "turn" then u y else if y = Str.ofString "held" then u y else if y = Str.ofString "place" then some (.int (pl : Int) tp) else if y = Str.ofString "hole" then some (.int (gl : Int) th) else m₀ y) ∧
        news' = (H, listOf vs2.toArray n2) :: (T₁, instObj 199 D) :: (D, hdrs w.params tk0 H) :: rest2 ∧ Tb T₁ D H rest2 vs2 es2 ∧ es2.length < 32 ∧ (∀ p ∈ rest, p ∈ rest2) ∧
        shiftP (32 - i) es2 gl pl = shiftP 32 (es.filter fun e => e.1 != g0) g0 g0)
      hR.hh (by assumption) (by decide) (by rfl) (by assumption) (by assumption) ⟨g0, g0, _, _, _, _, _, _, _, hg0, hg0, frame_at2 rfl rfl (fun _ _ _ _ _ => rfl), rfl, hT2, Nat.lt_of_le_of_lt (List.length_filter_le ..) hf, hsub, rfl⟩ ?_ ?_ rfl rfl
    · rintro i ti m₁ news₁ h9 tk9 own hi ⟨pl, gl, tp, th, u, es2, vs2, n2, rest2, hpl, hgl, rfl, rfl, hT3, hlen, hsub2, hbr⟩ hoff hown hio F9 N9
      simp only [List.cons_append] at N9
      have hT' := hT3.more (off_own hown hoff)
      have hq : (pl + 1) % 32 < 32 := by omega
      have nk3 := Nick.nm hq
      have nk4 := Nick.lw hq
      have nk5 := Nick.nm hgl
      unfold hdrs at N9
      have hstep : shiftP (32 - i) es2 gl pl = shiftP ((31 - i) + 1) es2 gl pl := by rw [show 32 - i = (31 - i) + 1 by omega]
      rw [shiftP] at hstep
      cases hl : look es2 ((pl + 1) % 32) with
      | none =>
        k_steps
        dsimp only [TurnM, LoopStepV]
        k_steps
        rw [← hbr, hstep, hl] at k
        exact k _ _ _ _ _ (by assumption) (by assumption) hT' (fun p hp => List.mem_append_left _ (hsub2 p hp))
      | some y =>
        have hy := hT3.vals _ (look_mem hl)
        have hc2 := okX.first hy
        rw [hl] at hstep
        dsimp only at hstep
        k_steps
        · rename _ ≤ _ => hcd
          rw [if_pos hcd] at hstep
          obtain ⟨oi, hoi⟩ := hio
          rename Tb _ _ _ _ _ (List.filter _ (_ ++ [_])) => hT4
          rename News g' _ _ (_ :: _ :: _ :: (_, tupOf _ _ _ _) :: _) => N8
          have hne := ne_of_news N8 (.tail _ (.tail _ (.tail _ (.head _)))) rfl (sub4o _ hoi) (hown _ hoi).2
          exact TurnM.next (by assumption) N8 sub4r sub4o (off_new hoff hne) ⟨(pl + 1) % 32, (pl + 1) % 32, _, _, _, _, _, _, _, hq, hq, frame_at2 rfl rfl (by intro z h1 h2 h3 h4; simp only [h1, h2, h3, h4, if_false]), rfl, hT4.less hown, Nat.lt_of_le_of_lt (len_step hl) hlen, (fun p hp => .tail _ (hsub2 p hp)), by rw [← hbr, hstep]; congr 1; omega⟩
        · rename ¬ _ ≤ _ => hcd
          rw [if_neg hcd] at hstep
          exact TurnM.next (by assumption) (by assumption) sub3r sub3o hoff ⟨(pl + 1) % 32, gl, _, _, _, _, _, _, _, hq, hgl, frame_at2 rfl rfl (by intro z h1 h2 h3 h4; simp only [h1, h2, h3, h4, if_false]), rfl, hT3, hlen, hsub2, by rw [← hbr, hstep]; congr 1; omega⟩
    · rintro h8 tk8 m₁ news₁ F8 N8 ⟨pl, gl, tp, th, u, es2, vs2, n2, rest2, hpl, hgl, rfl, rfl, hT3, hlen, hsub2, hbr⟩
      k_steps
      rw [← hbr] at k
      exact k _ _ _ _ _ (by assumption) (by assumption) hT3 hsub2


end
end Mine
end
section
open PySem PySem.W PyProof.Rows PySem.Calls
set_option Elab.async false
set_option maxRecDepth 100000
set_option linter.unusedVariables false
namespace Mine
theorem fillK_F9 : (fun (_ : OpenLaw) (_ : Params → Frag) => True) PySem.Challenge.rw_pg0208_01 hd.heap_39 := by k_fill; trivial
section
variable {prog : Program} {w : World} {A₀ A : Around} {s : Shared} {base h₀ : Heap} {outer : List Env} {L : Addr} {m : Str → Option Value} {env : Env} {news : List (Addr × Obj)}
  {loose : List Str} {mean : ExcName → Option Value} {mg mb : Str → Option Value} {R : Result → Shared → Prop}
local macro_rules | `(tactic| k_all) => `(tactic| with_reducible assumption)
local macro_rules | `(tactic| walk_at "call builtin:str.lower") => `(tactic| (k_here; (with_reducible show wpAny _ _ (call (Value.builtin _) [Value.str _ _]) _ _ _); k_dflt (refine' my_lower (by with_reducible assumption) ?_)))
local macro_rules | `(tactic| k_mem) => `(tactic| (refine memOf ?_; with_reducible assumption))
local macro_rules | `(tactic| walk_at "subscriptTail") => `(tactic| (k_here; (with_reducible show wpAny _ _ (subscriptTail _ _ (Value.str _ _) (Value.int 0 _)) _ _ _); k_dflt (refine' my_str0 ?c ?_ ?s; (case c => with_reducible assumption); (case s => with_unfolding_all rfl); k_whole)))
local macro_rules | `(tactic| walk_at "exec") => `(tactic| (k_here; (with_reducible show wpAny _ _ (exec (Stmt.While _ _ [] _) _) _ _ _); refine holdOf ?_))
local macro_rules | `(tactic| walk_at "subscriptTail") => `(tactic| (k_here; (with_reducible show wpAny _ _ (subscriptTail _ _ (Value.ref _) (Value.int (Nat.cast _) _)) _ _ _); k_dflt (refine' str_item ?N ?m ?s ?p ?f ?_ ?q; (case N => k_asm); (case m => k_mem); (case s => with_reducible assumption); (case p => assumption); (case f => omega); (case q => with_unfolding_all rfl)); intro t9'))
local macro_rules | `(tactic| walk_at "truthy str") => `(tactic| (k_here; (with_reducible show wpAny _ _ (truthy (Value.str _ _)) _ _ _); k_dflt (refine my_truthyS (by assumption) (fun e9' => ?_) (fun e9' => ?_))))

set_option maxHeartbeats 8000000 in
theorem ring {LT : Addr} {tvs : List Value} {nt : Nat} {xs : List Str} (hm : (LT, listOf tvs.toArray nt) ∈ news) (hs : Strs tvs xs) (hx : ∀ x ∈ xs, okX x) (hlen : xs.length < 32)
   (B : Below A₀ base outer h₀) (F : Fr h₀ L s.heap m) (X : (Mine.hd.heap_39 w.params).In h₀) (N : News h₀ L s.heap news) (T : Top hd.view_39 loose mean mg mb h₀)
   (hR : Room 6 A env outer L)
   (k : ∀ h' tk l ys n' new, Fr h₀ L h' m → News h₀ L h' ((l, listOf ys.toArray n') :: (new ++ news)) → Ents new ys (ringEnts (ringP xs)) → (∀ p ∈ new ++ news, @Ne Nat p.1 l) → R (.ok (.ret (.ref l))) {s with heap := h', toks := tk}) :
   codeAny (model prog w) A (.call (.ref 222) ⟨[.ref LT], []⟩) R s := by
  refine' code_defC B F X N T hR.fr hR.me hR.kind ?k6 ?k7 hR.lim ?k9 ?kB ?kD ?_ ?c2 ?c3 ?c4
  (case k6 => k_is); (case k7 => k_is); (case k9 => first | exact BindsTo.of_eq rfl | exact binds_K (by k_in) rfl (by k_is) rfl rfl rfl); (case kB => exact rfl); (case kD => decide +kernel); (case c2 => exact rfl); (case c3 => exact rfl); (case c4 => exact rfl)
  k_whole; intro g' L' h' tk' cells' FG' F' N' Y' B' X' T' l1; (try k_lt l1); k_cells Y'; (try simp only [List.cons_append, List.nil_append] at N'); (try dsimp only); (try k_lift B'); (try k_fold)
  have rC : ∀ p ∈ news, p.1 ≠ L' + 1 := fun p hp => Nat.ne_of_lt (Nat.lt_succ_of_lt (l1 p hp))
  k_steps
  refine mul32 (by k_asm) (by k_asm) (.head _) ?_
  intro r h9 hr F9 N9
  rename _ ∧ AllLt _ _ => l2
  have r1 := hr _ (.head _)
  have r2 := hr _ (.tail _ (.head _))
  have r3 : ∀ p ∈ news, @Ne Nat p.1 r := fun p hp => Nat.ne_of_lt (hr p (.tail _ (.tail _ hp)))
  dsimp only at r1 r2
  k_steps
  refine forM (by k_asm) ?_ (fun _ => rfl)
  k_steps
  refine iterM_listJ (fun m₀ news₀ i m' news' => ∃ (u : Str → Option Value) (rvs : List Value) (nr : Nat), m' = (fun y => if y = Str.ofString "thing" then u y else if y = Str.ofString "place" then u y else m₀ y) ∧
      news' = (r, listOf rvs.toArray nr) :: news₀.tail ∧ Strs rvs (ringP (xs.take i))) hR.hh (by assumption) (by assumption) (.tail _ (.tail _ (.tail _ hm))) ⟨_, _, _, frame2 _ _ _, rfl, Strs.rep _ _ 32⟩ ?_ ?_
  · rintro i v m₁ news₁ h8 tk8 own hi ⟨u, rvs, nr, rfl, rfl, hS⟩ hoff hown F8 N8
    simp only [List.tail_cons, List.cons_append] at N8
    obtain ⟨x, tx, hxi, rfl⟩ := hs.get (by simpa using hi)
    refine assign_name F8 N8 ?_ rfl rfl
    intro h7 tk7 F7 N7
    have hc := okX.first (hx x (List.mem_of_getElem? hxi))
    clear F8 N8
    have hlt : i < xs.length := (List.getElem?_eq_some_iff.mp hxi).1
    have hlen32 := ringP_len (xs.take i)
    obtain ⟨q0, hq0, hqe⟩ := ring_free (xs := xs.take i) (by rw [List.length_take]; omega)
    k_steps
    show wpAny _ _ _ _ _ _
    rename Fr g' _ _ _ => F6
    rename News g' _ _ _ => N6
    refine whileJ (fun m₀ news₀ n m' news' => ∃ (pl : Nat) (tp : Tok), pl < 32 ∧ m' = (fun y => if y = Str.ofString "place" then some (.int (pl : Int) tp) else m₀ y) ∧
        news' = news₀ ∧ probeP (ringP (xs.take i)) n pl = probeP (ringP (xs.take i)) 32 (x.cps.getD 0 0 % 32) ∧ ∃ d, d < n ∧ (ringP (xs.take i)).getD ((pl + d) % 32) Str.empty = Str.empty) (n₀ := 32) F6 N6 ⟨x.cps.getD 0 0 % 32, _, by omega, frame_one (by rw [← fm32]; rfl), rfl, rfl, (q0 + 32 - x.cps.getD 0 0 % 32) % 32, by omega, by rw [← hqe]; congr 1; omega⟩ ?_
    rintro n5 m5 news5 h5 tk5 F5 N5 ⟨pl, tp, hpl, rfl, rfl, hpr, hd⟩
    have hps := probe_step hpl hpr hd
    have hplt : pl < (ringP (xs.take i)).length := by rw [hlen32]; exact hpl
    have hsm := ringP_all (P := fun x => x.length < 2 ^ 40) (by decide) (xs := xs.take i) (fun y hy => by have := (hx y (List.mem_of_mem_take hy)).1.2; show y.cps.size < _; omega) pl
    clear F6 N6
    k_steps
    · have hU : ∀ p ∈ news ++ own, p.1 ≠ r := fun p hp => by
        rcases List.mem_append.mp hp with hp | hp
        · exact r3 p hp
        · rcases (hown p hp).1 with e | e
          · intro q; exact hoff _ (.head _) (by rw [← q, e]; exact .head _)
          · rw [e]; exact r3 _ hm
      refine' str_put (by assumption) (by assumption) (.head ?u) (by rw [hS.len]; exact hplt) (by omega) ?_
      case u =>
        intro p hp
        rcases List.mem_cons.mp hp with rfl | hp
        · exact Nat.ne_of_lt r1
        · rcases List.mem_cons.mp hp with rfl | hp
          · exact Nat.ne_of_lt r2
          · exact hU p hp
      intro h4 F4 N4
      k_steps
      have epl := hps.1 (by assumption)
      exact TurnM.next F4 N4 sub3r sub3o (by
        intro p hp
        rcases List.mem_cons.mp hp with rfl | hp
        · exact hoff (r, listOf rvs.toArray nr) (.head _)
        · exact hoff _ (.tail _ hp)) ⟨_, _, _, frame2U (by intro y h1 h2; simp only [h1, h2, if_false]), rfl, by rw [ringP_snoc hxi]; unfold putP; rw [← epl]; exact hS.set x tx pl⟩
    · have hps2 := hps.2 (by assumption)
      exact ⟨_, _, _, _, n5 - 1, rfl, by assumption, by assumption, hps2.1, (pl + 1) % 32, _, by omega, frame_upd (by rw [← fm32s]; rfl) (by intro y h1; simp only [h1, if_false]), rfl, hps2.2⟩
  · rintro h8 tk8 m₁ news₁ F8 N8 ⟨u, rvs, nr, rfl, rfl, hS⟩
    simp only [List.tail_cons] at N8
    rw [show tvs.toArray.size = xs.length by simp [hs.len], List.take_length] at hS
    refine news_box N8 fun bg N7 hmr hmc hsub => ?_
    clear N8
    k_steps
    have hlen32 := ringP_len xs
    k_dflt (refine LCt.ListComp_T (F₀ := by k_asm) (by with_unfolding_all rfl) (by decide) (by rfl) (by decide) (by rfl) ?_)
    k_steps
    refine srcT_range (n := 32) (fun news₀ i ys news' => ∃ new, news' = new ++ news₀ ∧ Ents new ys (((List.range i).filter fun p => decide ((ringP xs).getD p Str.empty ≠ Str.empty)).map fun p => (p, (ringP xs).getD p Str.empty)))
      hR.hh (by k_asm) (by k_asm) (by assumption) (by decide) (by rfl) (by rw [sizeLine_eq]; omega) ⟨[], rfl, .nil⟩ ?_ ?_
    · rintro i ys news₁ hi ⟨new, rfl, hE⟩ ti I oI C oC D₂ m₂ h9 tk9 E' hC hxx F9 N9 off ne
      rw [Int.zero_add] at hxx
      have hilt : i < (ringP xs).length := by rw [hlen32]; exact hi
      have hsm := ringP_all (P := fun x => x.length < 2 ^ 40) (by decide) (xs := xs) (fun y hy => by have := (hx y hy).1.2; show y.cps.size < _; omega) i
      have hmr2 := List.mem_append_right new hmr
      have hmc2 := List.mem_append_right new hmc
      obtain ⟨bg2, hbg⟩ : ∃ b, b = new ++ bg := ⟨_, rfl⟩
      rw [← hbg] at N9 off hmr2 hmc2
      k_steps
      · refine LCg.CompEnd.intro F9 N9 bg2 (fun p hp => hp) off trivial ⟨new, hbg, ?_⟩
        rw [List.range_succ, List.filter_append, List.filter_cons_of_neg (by simpa using (by assumption : (ringP xs).getD i Str.empty = Str.empty)), List.filter_nil, List.append_nil]
        exact hE
      · have e : (Str.ofString "^" ++ (⟨#[((64 : Int) + (i : Int)).toNat]⟩ : Str)) = nm i := by rw [show ((64 : Int) + (i : Int)).toNat = 64 + i by omega]; rfl
        rename News g' _ _ (_ :: (I, oI) :: _) => N8
        rw [e] at N8
        rename _ ∧ _ ∧ _ ∧ AllLt _ _ => l9
        have hne : ¬ (ringP xs).getD i Str.empty = Str.empty := by assumption
        refine LCg.CompEnd.intro (by assumption) N8 (_ :: bg2) swap4 ⟨⟨Nat.ne_of_gt l9.1, Nat.ne_of_gt l9.2.1, Nat.ne_of_gt l9.2.2.1⟩, off⟩ trivial ⟨_ :: new, by rw [hbg]; rfl, ?_⟩
        rw [List.range_succ, List.filter_append, List.filter_cons_of_pos (by simpa using hne), List.filter_nil, List.map_append]
        exact (hE.mono fun q hq => .tail _ hq).append (.cons ⟨hi, _, _, _, _, rfl, .head _⟩ .nil)
    · rintro g9 ys news₁ ⟨new, rfl, hE⟩ D₂ h9 tk9 F9 N9 off
      k_steps
      exact k _ _ _ _ _ _ (by assumption) (newsSub (by assumption) (cons_sub (app_sub hsub))) hE (fun p hp => off1_mem off p (app_sub hsub p hp))

end
end Mine
end
section
open PySem PySem.W PyProof.Rows PySem.Calls
set_option Elab.async false
set_option linter.unusedVariables false
set_option maxRecDepth 100000
namespace Mine
def runT {α : Type} (lt : Nat → Nat → Bool) : KasT α → α
  | .ret a => a
  | .ask i j k => runT lt (k (lt i j))
def inT {α : Type} (lt : Nat → Nat → Bool) (n : Nat) : KasT α → Prop
  | .ret _ => True
  | .ask i j k => i < n ∧ j < n ∧ inT lt n (k (lt i j))
theorem runT_bind {α β : Type} (lt : Nat → Nat → Bool) (f : α → KasT β) : ∀ t : KasT α, runT lt (t.bind f) = runT lt (f (runT lt t))
  | .ret a => rfl
  | .ask i j k => by show runT lt ((k (lt i j)).bind f) = _; exact runT_bind lt f _
theorem inT_bind {α β : Type} (lt : Nat → Nat → Bool) (n : Nat) (f : α → KasT β) : ∀ t : KasT α, inT lt n t → inT lt n (f (runT lt t)) → inT lt n (t.bind f)
  | .ret a, _, h => h
  | .ask i j k, ⟨h1, h2, h3⟩, h => ⟨h1, h2, inT_bind lt n f _ h3 h⟩
theorem runT_wp {α : Type} {lt : Nat → Nat → Bool} {n : Nat} {cmp : Nat → Nat → (Bool → Shared → Prop) → Shared → Prop} {P : Shared → Prop} (hc : ∀ i j C s, i < n → j < n → P s → (∀ s', P s' → C (lt i j) s') → cmp i j C s) :
    ∀ (t : KasT α) (Q : α → Shared → Prop) (s : Shared), inT lt n t → P s → (∀ s', P s' → Q (runT lt t) s') → t.kasWp cmp Q s
  | .ret a, Q, s, _, hp, h => h s hp
  | .ask i j k, Q, s, ⟨h1, h2, h3⟩, hp, h => hc i j _ s h1 h2 hp fun s' hp' => runT_wp hc (k (lt i j)) Q s' h3 hp' h
section
variable {κ : Nat → Nat} {n : Nat}
def KA (κ : Nat → Nat) (p : Array Nat) (i : Nat) : Nat := κ (p.getD i 0)
def ltA (κ : Nat → Nat) (i j : Nat) : Bool := decide (κ i < κ j)
structure PA (κ : Nat → Nat) (n : Nat) (p : Array Nat) : Prop where
  perm : p.Perm (List.range n).toArray
  inj : ∀ i j, i < n → j < n → κ i = κ j → i = j
theorem PA.size {p : Array Nat} (h : PA κ n p) : p.size = n := by
  have := h.perm.size_eq; simpa using this
theorem PA.lt {p : Array Nat} (h : PA κ n p) {i : Nat} (hi : i < n) : p.getD i 0 < n := by
  have hs := h.size
  have hi' : i < p.size := by omega
  have hm : p[i] ∈ (List.range n) := by
    have := (Array.perm_iff_toList_perm.mp h.perm).mem_iff (a := p[i])
    exact this.mp (by simp)
  have : p.getD i 0 = p[i] := by simp [Array.getD, hi']
  rw [this]; exact List.mem_range.mp hm
theorem PA.nodup {p : Array Nat} (h : PA κ n p) : p.toList.Nodup :=
  (Array.perm_iff_toList_perm.mp h.perm).nodup_iff.mpr List.nodup_range
theorem PA.ne {p : Array Nat} (h : PA κ n p) {i j : Nat} (hi : i < n) (hj : j < n) (hij : i ≠ j) : KA κ p i ≠ KA κ p j := by
  intro e
  have e2 := h.inj _ _ (h.lt hi) (h.lt hj) e
  have hs := h.size
  have h1 : i < p.toList.length := by simp; omega
  have h2 : j < p.toList.length := by simp; omega
  have e3 : p.toList[i] = p.toList[j] := by
    have a1 : p.getD i 0 = p.toList[i] := by simp [Array.getD, show i < p.size by omega]
    have a2 : p.getD j 0 = p.toList[j] := by simp [Array.getD, show j < p.size by omega]
    rw [← a1, ← a2]; exact e2
  have hn := List.pairwise_iff_getElem.mp h.nodup
  rcases Nat.lt_or_gt_of_ne hij with q | q
  · exact hn i j h1 h2 q e3
  · exact hn j i h2 h1 q e3.symm
def AscA (κ : Nat → Nat) (p : Array Nat) (m : Nat) : Prop := ∀ i j, i < j → j < m → KA κ p i < KA κ p j
def DescA (κ : Nat → Nat) (p : Array Nat) (m : Nat) : Prop := ∀ i j, i < j → j < m → KA κ p j < KA κ p i
theorem AscA.succ {p : Array Nat} {m : Nat} (h : AscA κ p m) (hm : 1 ≤ m) (hl : KA κ p (m - 1) < KA κ p m) : AscA κ p (m + 1) := by
  intro i j hij hj
  by_cases e : j = m
  · subst e
    by_cases e2 : i = j - 1
    · rw [e2]; exact hl
    · exact Nat.lt_trans (h i (j - 1) (by omega) (by omega)) hl
  · exact h i j hij (by omega)
theorem DescA.succ {p : Array Nat} {m : Nat} (h : DescA κ p m) (hm : 1 ≤ m) (hl : KA κ p m < KA κ p (m - 1)) : DescA κ p (m + 1) := by
  intro i j hij hj
  by_cases e : j = m
  · subst e
    by_cases e2 : i = j - 1
    · rw [e2]; exact hl
    · exact Nat.lt_trans hl (h i (j - 1) (by omega) (by omega))
  · exact h i j hij (by omega)
theorem asc_run {p : Array Nat} (hp : PA κ n p) : ∀ (f m : Nat), 1 ≤ m → m + f ≤ n → AscA κ p m →
    inT (ltA κ) n (kas_asc p f m) ∧ m ≤ runT (ltA κ) (kas_asc p f m) ∧ runT (ltA κ) (kas_asc p f m) ≤ m + f ∧ AscA κ p (runT (ltA κ) (kas_asc p f m))
  | 0, m, _, _, ha => ⟨trivial, Nat.le_refl _, Nat.le_refl _, ha⟩
  | f + 1, m, h1, hf, ha => by
    have i1 := hp.lt (i := m) (by omega)
    have i2 := hp.lt (i := m - 1) (by omega)
    unfold kas_asc
    cases hc : ltA κ (p.getD m 0) (p.getD (m - 1) 0) with
    | true =>
      refine ⟨⟨i1, i2, ?_⟩, ?_⟩
      · rw [hc]; trivial
      · simp only [runT, hc, if_true]; exact ⟨Nat.le_refl _, by omega, ha⟩
    | false =>
      have hn : ¬ KA κ p m < KA κ p (m - 1) := of_decide_eq_false hc
      have hne := hp.ne (i := m) (j := m - 1) (by omega) (by omega) (by omega)
      obtain ⟨a, b, c, d⟩ := asc_run hp f (m + 1) (by omega) (by omega) (ha.succ h1 (by omega))
      refine ⟨⟨i1, i2, ?_⟩, ?_⟩
      · rw [hc]; simpa using a
      · simp only [runT, hc, Bool.false_eq_true, if_false]; exact ⟨by omega, by omega, d⟩
theorem desc_run {p : Array Nat} (hp : PA κ n p) : ∀ (f m : Nat), 1 ≤ m → m + f ≤ n → DescA κ p m →
    inT (ltA κ) n (kas_desc f p m 0) ∧ ∃ m', runT (ltA κ) (kas_desc f p m 0) = (p, m', 0) ∧ m ≤ m' ∧ m' ≤ m + f ∧ DescA κ p m'
  | 0, m, _, _, ha => ⟨trivial, m, rfl, Nat.le_refl _, Nat.le_refl _, ha⟩
  | f + 1, m, h1, hf, ha => by
    have i1 := hp.lt (i := m) (by omega)
    have i2 := hp.lt (i := m - 1) (by omega)
    have hne := hp.ne (i := m) (j := m - 1) (by omega) (by omega) (by omega)
    unfold kas_desc
    cases hc : ltA κ (p.getD m 0) (p.getD (m - 1) 0) with
    | true =>
      have hn : KA κ p m < KA κ p (m - 1) := of_decide_eq_true hc
      obtain ⟨a, m', b, c, d, e⟩ := desc_run hp f (m + 1) (by omega) (by omega) (ha.succ h1 hn)
      refine ⟨⟨i1, i2, ?_⟩, m', ?_, by omega, by omega, e⟩
      · rw [hc]; simpa using a
      · simp only [runT, hc, if_true]; simpa using b
    | false =>
      have hn : ¬ KA κ p m < KA κ p (m - 1) := of_decide_eq_false hc
      have hd : ltA κ (p.getD (m - 1) 0) (p.getD m 0) = true := decide_eq_true (by show KA κ p (m - 1) < KA κ p m; omega)
      refine ⟨⟨i1, i2, ?_⟩, m, ?_, Nat.le_refl _, by omega, ha⟩
      · rw [hc]; simp only [Bool.false_eq_true, if_false]; refine ⟨i2, i1, ?_⟩; rw [hd]; trivial
      · simp only [runT, hc, Bool.false_eq_true, if_false, hd, if_true]
theorem PA.rev {p : Array Nat} (hp : PA κ n p) (i j : Nat) : PA κ n (kas_rev p i j) := ⟨(mirror_perm _ _ _ _).trans hp.perm, hp.inj⟩
theorem PA.bub {p : Array Nat} (hp : PA κ n p) (i j : Nat) : PA κ n (bubble p i j) := ⟨(bubble_perm _ _ _).trans hp.perm, hp.inj⟩
theorem KA_congr {p q : Array Nat} {i j : Nat} (h : p[i]? = q[j]?) : KA κ p i = KA κ q j := by
  unfold KA
  rw [Array.getD_eq_getD_getElem?, Array.getD_eq_getD_getElem?, h]
theorem rev_asc {p : Array Nat} (hp : PA κ n p) {m : Nat} (hm : m ≤ n) (h : DescA κ p m) : AscA κ (kas_rev p 0 m) m := by
  have hs := hp.size
  have e : ∀ k, k < m → KA κ (kas_rev p 0 m) k = KA κ p (m - 1 - k) := fun k hk => by
    have e1 := getElem?_mirror_all (xs := p) (i := 0) (j := m) (by omega) k
    rw [if_pos ⟨Nat.zero_le _, hk⟩, Nat.zero_add] at e1
    exact KA_congr e1
  intro i j hij hj
  rw [e i (by omega), e j hj]
  exact h _ _ (by omega) (by omega)
theorem tail_run {p : Array Nat} (hp : PA κ n p) {m : Nat} (h1 : 1 ≤ m) (hm : m ≤ n) (h : DescA κ p m) :
    inT (ltA κ) n (kas_tail3 m n p) ∧ ∃ m' p', runT (ltA κ) (kas_tail3 m n p) = (m', p') ∧ PA κ n p' ∧ 1 ≤ m' ∧ m' ≤ n ∧ AscA κ p' m' := by
  obtain ⟨a, b, c, d⟩ := asc_run (hp.rev 0 m) (n - m) m h1 (by omega) (rev_asc hp hm h)
  unfold kas_tail3
  refine ⟨inT_bind _ _ _ _ a trivial, _, _, by rw [runT_bind]; rfl, hp.rev 0 m, by omega, by omega, d⟩
theorem count_run (h1 : 1 ≤ n) {p : Array Nat} (hp : PA κ n p) :
    inT (ltA κ) n (kas_count n p) ∧ ∃ m' p', runT (ltA κ) (kas_count n p) = (m', p') ∧ PA κ n p' ∧ 1 ≤ m' ∧ m' ≤ n ∧ AscA κ p' m' := by
  obtain ⟨a, b, c, d⟩ := asc_run hp (n - 1) 1 (Nat.le_refl _) (by omega) (fun i j _ _ => by omega)
  unfold kas_count
  obtain ⟨m, hm⟩ : ∃ m, runT (ltA κ) (kas_asc p (n - 1) 1) = m := ⟨_, rfl⟩
  rw [hm] at b c d
  rw [runT_bind, hm]
  by_cases e : m = n
  · have e' : (m == n) = true := by simpa using e
    rw [if_pos e']
    exact ⟨inT_bind _ _ _ _ a (by rw [hm, if_pos e']; trivial), m, p, rfl, hp, b, by omega, d⟩
  · have e' : ¬ (m == n) = true := by simpa using e
    rw [if_neg e']
    by_cases e2 : m > 1
    · have i1 := hp.lt (i := 0) (by omega)
      have i2 := hp.lt (i := m - 1) (by omega)
      have hc : ltA κ (p.getD 0 0) (p.getD (m - 1) 0) = true := decide_eq_true (d 0 (m - 1) (by omega) (by omega))
      rw [if_pos e2]
      refine ⟨inT_bind _ _ _ _ a (by rw [hm, if_neg e', if_pos e2]; exact ⟨i1, i2, by rw [hc]; trivial⟩), m, p, ?_, hp, b, by omega, d⟩
      simp only [runT, hc, if_true]
    · have e3 : m = 1 := by omega
      subst e3
      rw [if_neg e2]
      have key : inT (ltA κ) n (kas_descPart 1 n p) ∧ ∃ m' p', runT (ltA κ) (kas_descPart 1 n p) = (m', p') ∧ PA κ n p' ∧ 1 ≤ m' ∧ m' ≤ n ∧ AscA κ p' m' := by
        have hlt : KA κ p 1 < KA κ p 0 := by
          have hne := hp.ne (i := 0) (j := 1) (by omega) (by omega) (by omega)
          -- the run ended at 1: the second is the smaller
          obtain ⟨f, hf⟩ : ∃ f, n - 1 = f + 1 := ⟨n - 2, by omega⟩
          rw [hf] at hm
          unfold kas_asc at hm
          cases hc : ltA κ (p.getD 1 0) (p.getD (1 - 1) 0) with
          | true => exact of_decide_eq_true hc
          | false =>
            simp only [runT, hc, Bool.false_eq_true, if_false] at hm
            have hn : ¬ KA κ p 1 < KA κ p 0 := of_decide_eq_false hc
            have := (asc_run hp f (1 + 1) (by omega) (by omega) (AscA.succ (m := 1) (fun i j _ _ => by omega) (Nat.le_refl _) (by show KA κ p 0 < KA κ p 1; omega))).2.1
            omega
        obtain ⟨a2, m2, b2, c2, d2, e2⟩ := desc_run hp (n - (1 + 1)) (1 + 1) (by omega) (by omega) (DescA.succ (m := 1) (fun i j _ _ => by omega) (Nat.le_refl _) hlt)
        obtain ⟨a3, m3, p3, b3, c3⟩ := tail_run hp (m := m2) (by omega) (by omega) e2
        unfold kas_descPart
        refine ⟨inT_bind _ _ _ _ a2 (by rw [b2]; exact a3), m3, p3, ?_, c3⟩
        rw [runT_bind, b2]; exact b3
      exact ⟨inT_bind _ _ _ _ a (by rw [hm, if_neg e', if_neg e2]; exact key.1), key.2⟩
theorem place_run {p : Array Nat} (hp : PA κ n p) {k : Nat} (hk : k < n) (ha : AscA κ p k) : ∀ (f l r : Nat), l ≤ r → r ≤ k → r - l ≤ f → (∀ i, i < l → KA κ p i < KA κ p k) → (∀ i, r ≤ i → i < k → KA κ p k < KA κ p i) →
    inT (ltA κ) n (kas_place p k f l r) ∧ runT (ltA κ) (kas_place p k f l r) ≤ k ∧ (∀ i, i < runT (ltA κ) (kas_place p k f l r) → KA κ p i < KA κ p k) ∧ (∀ i, runT (ltA κ) (kas_place p k f l r) ≤ i → i < k → KA κ p k < KA κ p i)
  | 0, l, r, hlr, hrk, hf, h1, h2 => ⟨trivial, by show l ≤ k; omega, h1, fun i hi hik => h2 i (by have : l ≤ i := hi; omega) hik⟩
  | f + 1, l, r, hlr, hrk, hf, h1, h2 => by
    unfold kas_place
    by_cases e : l ≥ r
    · rw [if_pos e]
      exact ⟨trivial, by show l ≤ k; omega, h1, fun i hi hik => h2 i (by have : l ≤ i := hi; omega) hik⟩
    · rw [if_neg e]
      have hmid : (l + r) / 2 < r ∧ l ≤ (l + r) / 2 := by omega
      generalize (l + r) / 2 = md at *
      have i1 := hp.lt (i := k) hk
      have i2 := hp.lt (i := md) (by omega)
      have hne := hp.ne (i := k) (j := md) hk (by omega) (by omega)
      cases hc : ltA κ (p.getD k 0) (p.getD md 0) with
      | true =>
        have hn : KA κ p k < KA κ p md := of_decide_eq_true hc
        obtain ⟨a, b⟩ := place_run hp hk ha f l md hmid.2 (by omega) (by omega) h1 (fun i hi hik => by
          by_cases e2 : i = md
          · rw [e2]; exact hn
          · exact Nat.lt_trans hn (ha md i (by omega) hik))
        refine ⟨⟨i1, i2, by rw [hc]; simpa using a⟩, ?_⟩
        simp only [runT, hc, if_true]; exact b
      | false =>
        have hn : ¬ KA κ p k < KA κ p md := of_decide_eq_false hc
        have hn2 : KA κ p md < KA κ p k := by omega
        obtain ⟨a, b⟩ := place_run hp hk ha f (md + 1) r (by omega) hrk (by omega) (fun i hi => by
          by_cases e2 : i = md
          · rw [e2]; exact hn2
          · exact Nat.lt_trans (ha i md (by omega) (by omega)) hn2) h2
        refine ⟨⟨i1, i2, by rw [hc]; simpa using a⟩, ?_⟩
        simp only [runT, hc, Bool.false_eq_true, if_false]; exact b
theorem bub_asc {p : Array Nat} (hp : PA κ n p) {k l : Nat} (hk : k < n) (hl : l ≤ k) (ha : AscA κ p k) (h1 : ∀ i, i < l → KA κ p i < KA κ p k) (h2 : ∀ i, l ≤ i → i < k → KA κ p k < KA κ p i) : AscA κ (bubble p k (k - l)) (k + 1) := by
  have hs := hp.size
  have e : ∀ i, KA κ (bubble p k (k - l)) i = if i = l then KA κ p k else if l < i ∧ i ≤ k then KA κ p (i - 1) else KA κ p i := fun i => by
    have e1 := getElem?_bubble (xs := p) (src := k) (by omega) (k - l) (by omega) i
    rw [show k - (k - l) = l by omega] at e1
    by_cases q1 : i = l
    · rw [if_pos q1] at e1 ⊢; exact KA_congr e1
    · rw [if_neg q1] at e1 ⊢
      by_cases q2 : l < i ∧ i ≤ k
      · rw [if_pos q2] at e1 ⊢; exact KA_congr e1
      · rw [if_neg q2] at e1 ⊢; exact KA_congr e1
  intro i j hij hj
  rw [e i, e j]
  by_cases a1 : i = l
  · rw [if_pos a1, if_neg (by omega), if_pos ⟨by omega, by omega⟩]
    exact h2 _ (by omega) (by omega)
  · rw [if_neg a1]
    by_cases a2 : l < i ∧ i ≤ k
    · rw [if_pos a2, if_neg (by omega), if_pos ⟨by omega, by omega⟩]
      exact ha _ _ (by omega) (by omega)
    · rw [if_neg a2]
      by_cases b1 : j = l
      · rw [if_pos b1]; exact h1 i (by omega)
      · rw [if_neg b1]
        by_cases b2 : l < j ∧ j ≤ k
        · rw [if_pos b2]
          by_cases c : i = j - 1
          · omega
          · exact ha _ _ (by omega) (by omega)
        · rw [if_neg b2]; exact ha _ _ hij (by omega)
theorem bin_run : ∀ (f : Nat) {p : Array Nat} (hp : PA κ n p) (k : Nat), k + f = n → AscA κ p k →
    inT (ltA κ) n (kas_bin f p k) ∧ PA κ n (runT (ltA κ) (kas_bin f p k)) ∧ AscA κ (runT (ltA κ) (kas_bin f p k)) n
  | 0, p, hp, k, hk, ha => ⟨trivial, hp, by rw [show n = k by omega]; exact ha⟩
  | f + 1, p, hp, k, hk, ha => by
    obtain ⟨a, b, c, d⟩ := place_run hp (k := k) (by omega) ha k 0 k (Nat.zero_le _) (Nat.le_refl _) (by omega) (fun i hi => by omega) (fun i h1 h2 => by omega)
    obtain ⟨a', b', c'⟩ := bin_run f (hp.bub k (k - runT (ltA κ) (kas_place p k k 0 k))) (k + 1) (by omega) (bub_asc hp (by omega) b ha c d)
    unfold kas_bin
    rw [runT_bind]
    exact ⟨inT_bind _ _ _ _ a a', b', c'⟩
theorem sort_run (h1 : 1 ≤ n) (inj : ∀ i j, i < n → j < n → κ i = κ j → i = j) :
    inT (ltA κ) n (kas_sort n) ∧ PA κ n (runT (ltA κ) (kas_sort n)) ∧ AscA κ (runT (ltA κ) (kas_sort n)) n := by
  have hp : PA κ n (List.toArray (List.range n)) := ⟨.refl _, inj⟩
  obtain ⟨a, m, p, b, c, d, e, g⟩ := count_run h1 hp
  unfold kas_sort
  rw [runT_bind, b]
  dsimp only
  by_cases q : m < n
  · obtain ⟨a', b', c'⟩ := bin_run (n - max m 1) c (max m 1) (by omega) (by rw [show max m 1 = m by omega]; exact g)
    rw [if_pos q]
    exact ⟨inT_bind _ _ _ _ a (by rw [b]; dsimp only; rw [if_pos q]; exact a'), b', c'⟩
  · rw [if_neg q]
    exact ⟨inT_bind _ _ _ _ a (by rw [b]; dsimp only; rw [if_neg q]; trivial), c, by rw [show n = m by omega]; exact g⟩
end
end Mine
end
section
open PySem PySem.W PyProof.Rows PySem.Calls
set_option Elab.async false
set_option linter.unusedVariables false
set_option maxRecDepth 100000
namespace Mine
theorem nm_lt (p q : Nat) : decide ((nm p).cps.toList < (nm q).cps.toList) = decide (p < q) := by
  have : ([94, 64 + p] < [94, 64 + q]) ↔ p < q := by
    constructor
    · intro h
      rw [List.cons_lt_cons_iff] at h
      rcases h with h | ⟨_, h⟩
      · omega
      · rw [List.cons_lt_cons_iff] at h
        rcases h with h | ⟨_, h⟩
        · omega
        · exact absurd h (List.not_lt_nil _)
    · intro h
      rw [List.cons_lt_cons_iff]
      refine .inr ⟨rfl, ?_⟩
      rw [List.cons_lt_cons_iff]
      exact .inl (by omega)
  exact decide_eq_decide.mpr this
def keyE (es : List (Nat × Str)) (i : Nat) : Nat := (es.map (·.1)).getD i 0
theorem keyE_get {es : List (Nat × Str)} {i : Nat} {e : Nat × Str} (h : es[i]? = some e) : keyE es i = e.1 := by
  unfold keyE; rw [List.getD_eq_getElem?_getD, List.getElem?_map, h]; rfl
theorem keyE_inj {es : List (Nat × Str)} (hn : (es.map (·.1)).Nodup) : ∀ i j, i < es.length → j < es.length → keyE es i = keyE es j → i = j := by
  intro i j hi hj e
  have hp := List.pairwise_iff_getElem.mp hn
  have h1 : i < (es.map (·.1)).length := by simpa using hi
  have h2 : j < (es.map (·.1)).length := by simpa using hj
  have e' : (es.map (·.1))[i] = (es.map (·.1))[j] := by
    have a1 : keyE es i = (es.map (·.1))[i] := by unfold keyE; simp [hi]
    have a2 : keyE es j = (es.map (·.1))[j] := by unfold keyE; simp [hj]
    rw [← a1, ← a2]; exact e
  rcases Nat.lt_trichotomy i j with q | q | q
  · exact absurd e' (hp i j h1 h2 q)
  · exact q
  · exact absurd e'.symm (hp j i h2 h1 q)
section
variable {prog : Program} {w : World} {A : Around} {s : Shared} {E : Value → Shared → Prop} {h₀ : Heap} {L : Addr} {m : Str → Option Value} {news : List (Addr × Obj)} {vs : List Value} {es : List (Nat × Str)}
theorem ents_tups {h : Heap} (hk : ∀ p ∈ news, h.get? p.1 = some p.2) (hE : Ents news vs es) : ∃ fs, KatTups h vs fs ∧ (∀ v ∈ fs, ∃ x t, v = Value.str x t) ∧ fs.length = vs.length := by
  induction hE with
  | nil => exact ⟨[], .nil, by simp, rfl⟩
  | cons he _ ih =>
    obtain ⟨fs, h1, h2, h3⟩ := ih
    obtain ⟨_, a, t, u, k, rfl, hm⟩ := he
    refine ⟨.str (nm _) t :: fs, .cons (hk _ hm) rfl rfl rfl h1, ?_, by simp [h3]⟩
    intro v hv
    rcases List.mem_cons.mp hv with rfl | hv
    · exact ⟨_, _, rfl⟩
    · exact h2 v hv
theorem ents_ask {i j : Nat} {C : Bool → Shared → Prop} (hk : ∀ p ∈ news, s.heap.get? p.1 = some p.2) (hE : Ents news vs es) (hn : (es.map (·.1)).Nodup) (hi : i < es.length) (hj : j < es.length)
    (h : C (ltA (keyE es) i j) s) : kas_ask prog w A (tuples' true) vs i j C s := by
  have hl := hE.len
  obtain ⟨e1, h1, _, a1, t1, u1, k1, v1, m1⟩ := hE.get (i := i) (v := vs[i]) (by simp [show i < vs.length by omega])
  obtain ⟨e2, h2, _, a2, t2, u2, k2, v2, m2⟩ := hE.get (i := j) (v := vs[j]) (by simp [show j < vs.length by omega])
  have g1 : vs.getD i Value.none = .ref a1 := by rw [← v1]; simp [show i < vs.length by omega]
  have g2 : vs.getD j Value.none = .ref a2 := by rw [← v2]; simp [show j < vs.length by omega]
  unfold kas_ask
  rw [g1, g2]
  refine kat_lt (hk _ m1) rfl (hk _ m2) rfl ?_
  show KatLex prog w A true (decide (2 < 2)) C [(.str (nm e1.1) t1, .str (nm e2.1) t2), (.str e1.2 u1, .str e2.2 u2)] 0 s
  have hlt : ltA (keyE es) i j = decide (e1.1 < e2.1) := by unfold ltA; rw [keyE_get h1, keyE_get h2]
  refine kat_cons (wpAny_eqBool_str ?_)
  by_cases q : nm e1.1 = nm e2.1
  · rw [decide_eq_true q]
    have e12 := nm_inj q
    have hij : i = j := keyE_inj hn i j hi hj (by rw [keyE_get h1, keyE_get h2]; exact e12)
    subst hij
    rw [h1] at h2
    have he : e1 = e2 := Option.some.inj h2
    subst he
    refine kat_yes (kat_cons (wpAny_eqBool_str ?_))
    rw [decide_eq_true rfl]
    refine kat_yes (kat_nil ?_)
    rw [hlt] at h
    simpa using h
  · rw [decide_eq_false q]
    refine kat_no (oneLt_str ?_)
    rw [nm_lt, ← hlt]; exact h
theorem ents_pick (hE : Ents news vs es) : ∀ l : List Nat, (∀ i ∈ l, i < es.length) → Ents news (l.map fun i => vs.getD i Value.none) (l.map fun i => es.getD i (0, Str.empty))
  | [], _ => .nil
  | i :: l, h => by
    have hi := h i (.head _)
    have hl := hE.len
    obtain ⟨e, h1, h2⟩ := hE.get (i := i) (v := vs[i]) (by simp [show i < vs.length by omega])
    have g1 : vs.getD i Value.none = vs[i] := by simp [show i < vs.length by omega]
    have g2 : es.getD i (0, Str.empty) = e := by rw [List.getD_eq_getElem?_getD, h1]; rfl
    rw [List.map_cons, List.map_cons, g1, g2]
    exact .cons h2 (ents_pick hE l fun j hj => h j (.tail _ hj))
theorem range_pick (es : List (Nat × Str)) : ((List.range es.length).map fun i => es.getD i (0, Str.empty)) = es := by
  apply List.ext_getElem?
  intro i
  rw [List.getElem?_map]
  by_cases h : i < es.length
  · rw [List.getElem?_range h]; simp [h]
  · simp [h]
theorem asc_pick {p : Array Nat} {n : Nat} (hp : PA (keyE es) n p) (hn : n = es.length) (ha : AscA (keyE es) p n) : (p.toList.map fun i => es.getD i (0, Str.empty)).Pairwise fun a b => a.1 < b.1 := by
  rw [List.pairwise_map, List.pairwise_iff_getElem]
  intro i j hi hj hij
  have hs := hp.size
  have h1 := ha i j hij (by simpa [hs] using hj)
  have k : ∀ i (hi : i < p.toList.length), KA (keyE es) p i = (es.getD p.toList[i] (0, Str.empty)).1 := fun i hi => by
    have hi' : i < p.size := by simpa using hi
    have e1 : p.getD i 0 = p.toList[i] := by simp [Array.getD, hi']
    unfold KA
    rw [e1]
    have hlt : p.toList[i] < es.length := by rw [← e1, ← hn]; exact hp.lt (by omega)
    generalize p.toList[i] = q at hlt
    rw [keyE_get (e := es[q]) (by simp [hlt])]
    simp [hlt]
  rw [k i hi, k j hj] at h1
  exact h1
theorem sorted_two {l : Addr} {n : Nat} {Q : Value → Shared → Prop} (F : Fr h₀ L s.heap m) (N : News h₀ L s.heap news) (hl : (l, listOf vs.toArray n) ∈ news) (hE : Ents news vs es) (hn : (es.map (·.1)).Nodup) (h2 : 2 ≤ es.length) (h32 : es.length ≤ 32)
    (h : ∀ D c h' vs' es', Fr h₀ L h' m → News h₀ L h' ((D, listOf (List.toArray vs') c) :: news) → (∀ q ∈ news, @Ne Nat q.1 D) → Ents news vs' es' → es'.Perm es → es'.Pairwise (fun a b => a.1 < b.1) → Q (.ref D) { s with heap := h' }) :
    wpAny (model prog w) A (call (.builtin "sorted") [.ref l]) Q E s := by
  have hlen := hE.len
  refine kat_sorted F N (PySem.IsL.isList (n := n) (N.get hl)) (by omega) (by omega) fun D e1 h' F' N' hlt => ?_
  have hk : ∀ p ∈ news, h'.get? p.1 = some p.2 := fun p hp => (N' p (.tail _ hp)).1
  obtain ⟨fs, t1, t2, t3⟩ := ents_tups hk hE
  refine kat_kind (T := .type "str") t1 (by omega) (fun v hv => by obtain ⟨x, t, rfl⟩ := t2 v hv; exact Looks.of_pure rfl) rfl ?_
  show (kas_sort vs.length).kasWp (kas_ask prog w A.in1.in1 (tuples' true) vs) _ _
  obtain ⟨r1, r2, r3⟩ := sort_run (κ := keyE es) (n := es.length) (by omega) (keyE_inj hn)
  rw [hlen]
  refine runT_wp (lt := ltA (keyE es)) (n := es.length) (P := fun s' => s' = { s with heap := h' }) (fun i j C s' hi hj hs hc => ?_) _ _ _ r1 rfl (fun s' hs => ?_)
  · subst hs
    exact ents_ask hk hE hn hi hj (hc _ rfl)
  · subst hs
    generalize runT (ltA (keyE es)) (kas_sort es.length) = p at *
    have hperm : p.toList.Perm (List.range es.length) := by simpa using Array.perm_iff_toList_perm.mp r2.perm
    refine KasFin.intro F' N' (.head fun q hq => Nat.ne_of_lt (hlt q hq)) fun h'' c F'' N'' => ?_
    refine h D c h'' _ (p.toList.map fun i => es.getD i (0, Str.empty)) F'' N'' (fun q hq => Nat.ne_of_lt (hlt q hq)) (ents_pick hE _ fun i hi => List.mem_range.mp (hperm.mem_iff.mp hi)) ?_ (asc_pick r2 rfl r3)
    have := hperm.map fun i => es.getD i (0, Str.empty)
    rw [range_pick] at this
    exact this
theorem sorted_none {l : Addr} {n : Nat} {Q : Value → Shared → Prop} (F : Fr h₀ L s.heap m) (N : News h₀ L s.heap news) (hl : (l, listOf #[] n) ∈ news)
    (h : ∀ D c h', Fr h₀ L h' m → News h₀ L h' ((D, listOf #[] c) :: news) → (∀ q ∈ news, @Ne Nat q.1 D) → Q (.ref D) { s with heap := h' }) :
    wpAny (model prog w) A (call (.builtin "sorted") [.ref l]) Q E s :=
  kso_sorted (vs := []) (ns := []) F N (PySem.IsL.isList (n := n) (N.get hl)) .nil (by decide) fun D vs' ns' c h' F' N' hlt hi hlen _ _ _ => by
    have h1 : ns' = [] := List.eq_nil_of_length_eq_zero hlen
    subst h1
    cases hi
    exact h D c h' F' N' fun q hq => Nat.ne_of_lt (hlt q hq)
/-- the sort of one thing asks nothing -/
theorem one_sort {a : Addr} {v : Value} {n : Nat} {P : PySem.Fin → Shared → Prop} (ho : s.heap.get? a = some (seqObj "list" (List.toArray [v]) n)) (h : P (.done (.ret .none)) { s with heap := sortedHeap s.heap a [v] #[v] }) :
    wpAny (model prog w) A (Builtin.«list.sort» ⟨[.ref a], []⟩) P E s := by
  have bare := get?_update_seq ho fun _ => (#[] : Array Value)
  have last := fun o o' => Heap.get?_push_of_some o' (Heap.get?_push_of_some o bare)
  have few : (1 : Nat) ≤ sizeLine := by rw [sizeLine_eq]; decide
  have out : #[v] = (arrOf (SortSt.mk' general' ((List.toArray [v]).zip (List.toArray [v])) #[] 7 none)).map (·.2) := by
    show _ = ((List.toArray [v]).zip (List.toArray [v])).map (·.2)
    simp
  rw [out] at h
  rw [list_sort_plain]
  refine wpAny_bind (listItems_at ho rfl (wpAny_bind (listUpdate_at ho rfl (wpAny_bind (seqEpoch_at bare rfl (wpAny_bind (wpAny_newTuple (wpAny_bind (wpAny_newList (wpAny_holding ?_) (Nat.zero_le _))) few)))) few (Nat.zero_le _))))
  refine wpAny_bind (wpAny_pure (wpAny_bind (wpAny_pure (wpAny_bind (seqEpoch_at (last _ _) rfl (wpAny_bind (listUpdate_at (last _ _) rfl ?_ (Nat.zero_le _) (Nat.le_succ_of_le (by simpa [arrOf, SortSt.mk'] using few)))))))))
  show wpAny _ _ (if (_ != _) = true then _ else ret .none) _ _ _
  rw [if_neg (by simp)]
  exact wpAny_pure h
theorem sorted_one {l : Addr} {v : Value} {n : Nat} {Q : Value → Shared → Prop} (F : Fr h₀ L s.heap m) (N : News h₀ L s.heap news) (hl : (l, listOf (List.toArray [v]) n) ∈ news)
    (h : ∀ D c h', Fr h₀ L h' m → News h₀ L h' ((D, listOf (List.toArray [v]) c) :: news) → (∀ q ∈ news, @Ne Nat q.1 D) → Q (.ref D) { s with heap := h' }) :
    wpAny (model prog w) A (call (.builtin "sorted") [.ref l]) Q E s := by
  obtain ⟨c, cell⟩ := sortedAll_at s.heap [v] #[v]
  have few : (1 : Nat) ≤ sizeLine := by rw [sizeLine_eq]; decide
  have answer := h _ c _ (F.kept fun _ _ => sortedAll_old (vs := [v]) (out := #[v])) (N.kept_cons F (fun _ _ => sortedAll_old) (Nat.le_succ _) cell) fun q hq => Nat.ne_of_lt (Nat.lt_succ_of_lt (Heap.lt_size (N q hq).1))
  have grown : ((s.heap.push (seqObj "list" #[] 0)).update s.heap.objs.size (Obj.mapSeq (· ++ List.toArray [v]))).objs.size = s.heap.objs.size + 1 := (Heap.size_update ..).trans (size_push' ..)
  have made := Heap.get?_push_size ((s.heap.push (seqObj "list" #[] 0)).update s.heap.objs.size (Obj.mapSeq (· ++ List.toArray [v]))) (o := seqObj "list" (List.toArray [v]) 0) rfl
  rw [grown] at made
  refine Calls.call_function_entry kind_sorted plain_sorted entry_sorted (args_sorted1 _) ?_
  refine wpAny_bind (m := checkCount "sorted" 1 1 _) (wpAny_pure (wpAny_bind (collect_list (PySem.IsL.isList (n := n) (N.get hl)) (wpAny_bind (wpAny_newList ?_ few)) few)))
  dsimp only
  rw [grown]
  exact wpAny_bind (wpAny_holding (wpAny_call_entry slot_list_sort ⟨_, made, rfl⟩ entry_list_sort (one_sort made ⟨_, rfl, wpAny_pure ⟨_, rfl, answer⟩⟩) (args_list_sort _)))
theorem sorted_tab {l : Addr} {n : Nat} {Q : Value → Shared → Prop} (F : Fr h₀ L s.heap m) (N : News h₀ L s.heap news) (hl : (l, listOf vs.toArray n) ∈ news) (hE : Ents news vs es) (hn : (es.map (·.1)).Nodup) (h32 : es.length ≤ 32)
    (h : ∀ D c h' vs' es', Fr h₀ L h' m → News h₀ L h' ((D, listOf (List.toArray vs') c) :: news) → (∀ q ∈ news, @Ne Nat q.1 D) → Ents news vs' es' → es'.Perm es → es'.Pairwise (fun a b => a.1 < b.1) → Q (.ref D) { s with heap := h' }) :
    wpAny (model prog w) A (call (.builtin "sorted") [.ref l]) Q E s := by
  cases hE with
  | nil => exact sorted_none F N hl fun D c h' F' N' hq => h D c h' [] [] F' N' hq .nil (.refl _) .nil
  | @cons v vs e es he hE =>
    cases hE with
    | nil => exact sorted_one F N hl fun D c h' F' N' hq => h D c h' [v] [e] F' N' hq (.cons he .nil) (.refl _) (List.pairwise_singleton _ _)
    | @cons v2 vs e2 es he2 hE => exact sorted_two F N hl (.cons he (.cons he2 hE)) hn (by simp) h32 h
end
end Mine
end
section
open PySem PySem.W PyProof.Rows PySem.Calls
set_option Elab.async false
set_option linter.unusedVariables false
set_option maxRecDepth 100000
namespace Mine
def datE (e : Nat × Str) : Dat := .tuple [.str (nm e.1), .str e.2]
theorem ents_dat {news : List (Addr × Obj)} {vs es} (h : Ents news vs es) : DatAll news vs (es.map datE) := by
  induction h with
  | nil => exact .nil
  | cons he _ ih =>
    obtain ⟨_, a, t, u, k, rfl, hm⟩ := he
    exact .cons (.tuple (vs := [.str (nm _) t, .str _ u]) hm (.cons (.str _ _) (.cons (.str _ _) .nil))) ih
section
variable {prog : Program} {w : World} {A : Around} {s : Shared} {E : Value → Shared → Prop} {h₀ : Heap} {L : Addr} {news : List (Addr × Obj)}
theorem ne_same {a b : Addr} {xs ys : List Value} {ka kb : Nat} {es : List (Nat × Str)} {Q : Value → Shared → Prop} (N : News h₀ L s.heap news) (ma : (a, listOf (List.toArray xs) ka) ∈ news) (mb : (b, listOf (List.toArray ys) kb) ∈ news)
    (Ea : Ents news xs es) (Eb : Ents news ys es) (hv : ∀ e ∈ es, e.1 < 32 ∧ okX e.2) (hu : A.units + 64 < cLine) (h : Q (.bool false) s) : wpAny (model prog w) A (compareOp .NotEq (.ref a) (.ref b)) Q E s := by
  have ok : ∀ d ∈ es.map datE, kqdOk 8 d = true := fun d hd => by
    obtain ⟨e, he, rfl⟩ := List.mem_map.mp hd
    obtain ⟨h1, h2⟩ := hv e he
    have k1 := (okX_nm h1).2
    have st : ∀ x : Str, (∀ p, p < x.cps.size → 32 ≤ x.cps.getD p 0 ∧ x.cps.getD p 0 ≠ 127 ∧ x.cps.getD p 0 < 256) → PyData.strOk x = true := fun x hx => by
      unfold PyData.strOk
      rw [Array.all_eq_true]
      intro i hi
      have := (hx i hi).2.2
      simp only [Array.getD, hi, dite_true] at this
      simpa using Nat.lt_trans this (by decide)
    show (kqdOk 7 (.str (nm e.1)) && (kqdOk 7 (.str e.2) && true)) = true
    show (PyData.strOk (nm e.1) && (PyData.strOk e.2 && true)) = true
    rw [st _ k1, st _ h2.2]; rfl
  refine kqd_ne N ma rfl rfl (ents_dat Ea) (fun _ h => h) mb rfl rfl (ents_dat Eb) (fun _ h => h) ok ok hu ?_
  simpa using h
end
end Mine
end
section
open PySem PySem.W PyProof.Rows PySem.Calls
set_option Elab.async false
set_option linter.unusedVariables false
set_option maxRecDepth 100000
namespace Mine
section
variable {prog : Program} {w : World} {A : Around} {s : Shared} {env : Env} {h₀ : Heap}
/-- for i, x in enumerate(l): the call's own step and the loop, told together -/
theorem enumM {E : Value → Shared → Prop} {Q : Flow → Shared → Prop} {body : List Stmt} {m : Str → Option Value} {news : List (Addr × Obj)} {l : Addr} {vs : Array Value} {k : Nat} {xi xc : Str} {pk pv pt : Pos} {x1 : Nat}
    (J : (Str → Option Value) → List (Addr × Obj) → Nat → (Str → Option Value) → List (Addr × Obj) → Prop) (hh : A.handled = none) (F : Fr h₀ env.locals s.heap m) (N : News h₀ env.locals s.heap news)
    (hl : (l, listOf vs k) ∈ news) (h0 : J m news 0 m news)
    (step : ∀ (i : Nat) v ti m₁ news₁ h tk own, vs[i]? = some v → J m news i m₁ news₁ → (∀ p ∈ news₁, p.1 ∉ [s.heap.objs.size + 1, s.heap.objs.size]) → (∀ p ∈ own, (p.1 = s.heap.objs.size + 1 ∨ p.1 = s.heap.objs.size ∨ p = (l, listOf vs k)) ∧ p.2.cls ≠ .type "tuple") → (∃ o, (s.heap.objs.size + 1, o) ∈ own) → (∃ o, (s.heap.objs.size, o) ∈ own) →
      Fr h₀ env.locals h (fun y => if y = xc then some v else if y = xi then some (.int (i : Int) ti) else m₁ y) → News h₀ env.locals h (news₁ ++ own) →
      wpAny (model prog w) A (execs body env) (TurnM h₀ env.locals [s.heap.objs.size + 1, s.heap.objs.size] own (J m news (i + 1)) { s with heap := h, toks := tk } Q) E { s with heap := h, toks := tk })
    (done : ∀ h' tk m' news', Fr h₀ env.locals h' m' → News h₀ env.locals h' news' → J m news vs.size m' news' → Q .next { s with heap := h', toks := tk })
    (keepL : ∀ i m₁ news₁, J m news i m₁ news₁ → (l, listOf vs k) ∈ news₁)
    (hxi : env.kindOf xi = some .local) (hxc : env.kindOf xc = some .local)
    (hp : (env.scope.kind == .class || (env.scope.kind == .module && env.locals != env.globals)) = false) :
    wpAny (model prog w) A (call (.type "enumerate") [.ref l]) (fun xv s₁ => wpAny (model prog w) A (pyIter xv) (fun it s₂ => LoopAtM prog w A h₀ env (.Tuple [.Name xi pk, .Name xc pv] x1 pt) body Q E it s₂) E s₁) E s := by
  have hls : s.heap.IsList l vs := ⟨_, N.get hl, rfl, _, rfl⟩
  have hlt : l < s.heap.objs.size := Heap.lt_size (N.get hl)
  have hLlt : env.locals < s.heap.objs.size := F.ns.lt
  refine call_enumerate_list hls fun h' he hit hsz hk => wpAny_pyIter_enum he ?_
  have F' : Fr h₀ env.locals h' m := ⟨F.ns.keeps hk, fun b o e => hk b o (F.keep b o e), F.above⟩
  have N' : News h₀ env.locals h' news := fun p hp => ⟨hk _ _ (N p hp).1, (N p hp).2⟩
  have hne : l ≠ s.heap.objs.size := Nat.ne_of_lt hlt
  have n1 : h₀.get? s.heap.objs.size = none := next_is_new F
  have n2 : h₀.get? (s.heap.objs.size + 1) = none := Heap.get?_none_of_le (Nat.le_trans F.above (Nat.le_succ_of_le (Nat.le_of_lt hLlt)))
  have W := WalksT.enumerateD (Draws.list (prog := prog) (w := w) (A := A.in1) hh s.heap.objs.size l hne vs) (s.heap.objs.size + 1) (Nat.succ_ne_self _) (by
    intro hm
    rcases List.mem_cons.mp hm with e | hm
    · exact Nat.succ_ne_self _ e
    · exact Nat.ne_of_gt (Nat.lt_succ_of_lt hlt) (List.mem_singleton.mp hm)) (by simp)
  refine ⟨_, _, _, vs.size, _, _, _, m, news, J m news, rfl, KTurns.ofWalksU (elts := [.Name xi pk, .Name xc pv]) (k := x1) (pos := pt) W.toU, ?_, ?_, ?_, ⟨⟨_, by simpa using he⟩, hit, hls.at fun o e => hk l o e⟩, F', N', h0, ?_, fun h' tk m' news' F' N' _ => done h' tk m' news' F' N'⟩
  · simp only [List.mem_cons, List.not_mem_nil, or_false, not_or]
    exact ⟨Nat.ne_of_lt (Nat.lt_succ_of_lt hLlt), Nat.ne_of_lt hLlt, Ne.symm (N _ hl).2.1⟩
  · simpa using ⟨n2, n1⟩
  · intro p hp
    have q := Heap.lt_size (N p hp).1
    simp only [List.mem_cons, List.not_mem_nil, or_false, not_or]
    exact ⟨Nat.ne_of_lt (Nat.lt_succ_of_lt q), Nat.ne_of_lt q⟩
  · rintro i v m₁ news₁ h tk own hi ⟨T, vals, rfl, ⟨t, x, hx, rfl⟩, hT⟩ hJ hoff hown _ hall ⟨⟨old, hst1⟩, hst2, hst3⟩ F₁ N₁
    have N₂ := news_comm N₁
    obtain ⟨o2, ho2, hc2, _⟩ := id hst2
    obtain ⟨o3, ho3, hc3, _⟩ := id hst3
    refine assign_tup hh F₁ N₂ hT (fun h₂ tk₂ F₂ N₃ => ?_) hxi hxc hp
    refine step i x t m₁ news₁ h₂ tk₂ own hx hJ hoff (fun p hp => ?_) ⟨_, hall _ (by simp) n2 _ hst1⟩ ⟨_, hall _ (by simp) n1 _ ho2⟩ F₂ N₃
    have e : p.1 = s.heap.objs.size + 1 ∨ p.1 = s.heap.objs.size ∨ p.1 = l := by simpa using hown p hp
    rcases e with e | e | e
    · exact ⟨.inl e, by rw [own_cls N₂ hp e hst1 rfl]; simp⟩
    · exact ⟨.inr (.inl e), by rw [own_cls N₂ hp e ho2 hc2]; simp⟩
    · refine ⟨.inr (.inr ?_), by rw [own_cls N₂ hp e ho3 hc3]; simp⟩
      have q := (N₂ _ (List.mem_append_left _ (keepL i m₁ news₁ hJ))).1
      have g := (N₂ p (List.mem_append_right _ hp)).1
      rw [e] at g
      exact Prod.ext e (Option.some.inj (g.symm.trans q))
end
end Mine
end
section
open PySem PySem.W PyProof.Rows PySem.Calls
set_option Elab.async false
set_option linter.unusedVariables false
set_option maxRecDepth 100000
namespace Mine
theorem fmN (a b : Nat) (hb : 0 < b) : (a : Int).fmod (b : Int) = ((a % b : Nat) : Int) := by rw [Int.fmod_eq_emod_of_nonneg _ (by omega)]; exact (Int.natCast_emod a b).symm
theorem fdN (a b : Nat) : (a : Int).fdiv (b : Int) = ((a / b : Nat) : Int) := by rw [Int.fdiv_eq_ediv_of_nonneg _ (by omega)]; exact (Int.natCast_ediv a b).symm
section
variable {prog : Program} {w : World} {A : Around} {E : Value → Shared → Prop} {s : Shared} {h₀ : Heap} {L : Addr} {m : Str → Option Value} {news : List (Addr × Obj)}
theorem div3N {a : Nat} {t u : Tok} {Q : Value → Shared → Prop} (h : Q (.int ((a / 3 : Nat) : Int) s.toks) { s with toks := s.toks + 1 }) : wpAny (model prog w) A (binaryOp .FloorDiv (.int (a : Int) t) (.int 3 u)) Q E s :=
  floordiv_int (by decide) (by rw [show (3 : Int) = ((3 : Nat) : Int) from rfl, fdN]; exact h)
theorem mod3N {a : Nat} {t u : Tok} {Q : Value → Shared → Prop} (h : Q (.int ((a % 3 : Nat) : Int) s.toks) { s with toks := s.toks + 1 }) : wpAny (model prog w) A (binaryOp .Mod (.int (a : Int) t) (.int 3 u)) Q E s :=
  mod_int' (by decide) (by rw [show (3 : Int) = ((3 : Nat) : Int) from rfl, fmN a 3 (by decide)]; exact h)
theorem mod4N {a : Nat} {t u : Tok} {Q : Value → Shared → Prop} (h : Q (.int ((a % 4 : Nat) : Int) s.toks) { s with toks := s.toks + 1 }) : wpAny (model prog w) A (binaryOp .Mod (.int (a : Int) t) (.int 4 u)) Q E s :=
  mod_int' (by decide) (by rw [show (4 : Int) = ((4 : Nat) : Int) from rfl, fmN a 4 (by decide)]; exact h)
theorem mod32N {a : Nat} {t u : Tok} {Q : Value → Shared → Prop} (h : Q (.int ((a % 32 : Nat) : Int) s.toks) { s with toks := s.toks + 1 }) : wpAny (model prog w) A (binaryOp .Mod (.int (a : Int) t) (.int 32 u)) Q E s :=
  mod_int' (by decide) (by rw [show (32 : Int) = ((32 : Nat) : Int) from rfl, fmN a 32 (by decide)]; exact h)
theorem modN {a b : Nat} {t u : Tok} {Q : Value → Shared → Prop} (hb : 0 < b) (h : Q (.int ((a % b : Nat) : Int) s.toks) { s with toks := s.toks + 1 }) : wpAny (model prog w) A (binaryOp .Mod (.int (a : Int) t) (.int (b : Int) u)) Q E s :=
  mod_int' (by omega) (by rw [fmN a b hb]; exact h)
theorem addN {a b : Nat} {t u : Tok} {Q : Value → Shared → Prop} (h : Q (.int ((a + b : Nat) : Int) s.toks) { s with toks := s.toks + 1 }) : wpAny (model prog w) A (binaryOp .Add (.int (a : Int) t) (.int (b : Int) u)) Q E s :=
  add_int (by rw [← Int.natCast_add]; exact h)
theorem chrN {a : Nat} {t : Tok} {Q : Value → Shared → Prop} (ha : a < 1000) (h : Q (.str ⟨#[a]⟩ s.toks) { s with toks := s.toks + 1 }) : wpAny (model prog w) A (call (.builtin "chr") [.int (a : Int) t]) Q E s :=
  chr_of_range (by omega) (by omega) (by rw [Int.toNat_natCast]; exact h)
theorem lenN {l : Addr} {vs : List Value} {n : Nat} {Q : Value → Shared → Prop} (N : News h₀ L s.heap news) (hm : (l, listOf vs.toArray n) ∈ news) (hl : vs.length < 1000) (h : ∀ t tk, Q (.int ((vs.length : Nat) : Int) t) { s with toks := tk }) :
    wpAny (model prog w) A (call (.builtin "len") [.ref l]) Q E s :=
  call_len_list (PySem.IsL.isList (n := n) (N.get hm)) (by simp; omega) (by simpa using h _ _)
theorem truthN {l : Addr} {vs : List Value} {n : Nat} {Q : Bool → Shared → Prop} (N : News h₀ L s.heap news) (hm : (l, listOf vs.toArray n) ∈ news) (hl : vs.length < 1000) (h0 : vs = [] → ∀ tk, Q false { s with toks := tk }) (h1 : ¬ vs = [] → ∀ tk, Q true { s with toks := tk }) :
    wpAny (model prog w) A (truthy (.ref l)) Q E s := by
  refine wpAny_truthy_list (PySem.IsL.isList (n := n) (N.get hm)) (by simp; omega) ?_
  cases vs with
  | nil => exact h0 rfl _
  | cons v vs =>
    have : (!(v :: vs).toArray.isEmpty) = true := by simp
    rw [this]; exact h1 (by simp) _
def colN (p : Nat) : Nat := [32, 64, 160].getD p 0
theorem colItem {value slice : PySem.Expr} {a : Addr} {t1 t2 t3 u : Tok} {k p : Nat} {ops : List Value} {Q : Value → Shared → Prop} (N : News h₀ L s.heap news) (hm : (a, ({ cls := .type "tuple", data := .seq #[.int 32 t1, .int 64 t2, .int 160 t3] k } : Obj)) ∈ news) (hp : p < 3)
    (h : ∀ t, Q (.int ((colN p : Nat) : Int) t) s)
    (hs : subscripted slice false (.ref a) (.int (p : Int) u) = operate ops (getItem (.ref a) (.int (p : Int) u))) :
    wpAny (model prog w) A (subscriptTail value slice (.ref a) (.int (p : Int) u)) Q E s := by
  have ht : IsTup s.heap a #[.int 32 t1, .int 64 t2, .int 160 t3] := ⟨_, N.get hm, rfl, _, rfl⟩
  rcases (by omega : p = 0 ∨ p = 1 ∨ p = 2) with rfl | rfl | rfl
  · exact tail_any ht.typeIs slot_tuple_getitem.lookup (getItem_tuple (j := 0) (x := .int 32 t1) ht (by decide) (by decide) rfl rfl (h t1)) hs
  · exact tail_any ht.typeIs slot_tuple_getitem.lookup (getItem_tuple (j := 1) (x := .int 64 t2) ht (by decide) (by decide) rfl rfl (h t2)) hs
  · exact tail_any ht.typeIs slot_tuple_getitem.lookup (getItem_tuple (j := 2) (x := .int 160 t3) ht (by decide) (by decide) rfl rfl (h t3)) hs
theorem addLists {l b : Addr} {vs ws : List Value} {n k : Nat} {Q : Value → Shared → Prop} (F : Fr h₀ L s.heap m) (N : News h₀ L s.heap news) (hl : (l, listOf vs.toArray n) ∈ news) (hb : (b, listOf ws.toArray k) ∈ news) (hsz : vs.length + ws.length < 1000)
    (h : ∀ r h', (∀ p ∈ news, @LT.lt Nat _ p.1 r) → Fr h₀ L h' m → News h₀ L h' ((r, listOf (vs ++ ws).toArray 0) :: news) → Q (.ref r) { s with heap := h' }) : wpAny (model prog w) A (binaryOp .Add (.ref l) (.ref b)) Q E s :=
  add_lists F N (PySem.IsL.isList (n := n) (N.get hl)) (PySem.IsL.isList (n := k) (N.get hb)) (fun h' F' N' => h _ h' (fun p hp => Heap.lt_size (N p hp).1) F' N') (by rw [sizeLine_eq]; omega)
end
theorem idx_lt {vs : List Value} {xs : List Str} {a : Nat} (hs : Strs vs xs) (h : ¬ vs = []) : a % vs.length < xs.length := by
  rw [← hs.len]; exact Nat.mod_lt _ (List.length_pos_iff.mpr h)
theorem frame_s3 {m : Str → Option Value} {a b c d : Str} {v : Value} (h : m d = some v) : m = fun y => if y = a then m y else if y = b then m y else if y = c then m y else if y = d then some v else m y := by
  funext y
  by_cases h1 : y = a
  · simp [h1]
  · by_cases h2 : y = b
    · simp [h2]
    · by_cases h3 : y = c
      · simp [h3]
      · by_cases h4 : y = d
        · subst h4; simp only [h1, h2, h3, if_false, if_true]; exact h
        · simp only [h1, h2, h3, h4, if_false]
theorem frame_n3 {f m : Str → Option Value} {a b c d : Str} {v : Value} (h : f d = some v) (hm : ∀ y, y ≠ a → y ≠ b → y ≠ c → y ≠ d → f y = m y) : f = fun y => if y = a then f y else if y = b then f y else if y = c then f y else if y = d then some v else m y := by
  funext y
  by_cases h1 : y = a
  · simp [h1]
  · by_cases h2 : y = b
    · simp [h2]
    · by_cases h3 : y = c
      · simp [h3]
      · by_cases h4 : y = d
        · subst h4; simp only [h1, h2, h3, if_false, if_true]; exact h
        · simp only [h1, h2, h3, h4, if_false]; exact hm y h1 h2 h3 h4
section
variable {prog : Program} {w : World} {A : Around} {E : Value → Shared → Prop} {s : Shared} {h₀ : Heap} {L : Addr} {news : List (Addr × Obj)}
theorem str_itemL {value slice : PySem.Expr} {l : Addr} {vs : List Value} {xs : List Str} {n : Nat} {a : Nat} {u : Tok} {ops : List Value} {Q : Value → Shared → Prop} (N : News h₀ L s.heap news) (hm : (l, listOf vs.toArray n) ∈ news) (hs : Strs vs xs) (hne : ¬ vs = []) (hf : xs.length < 2 ^ 40)
    (h : ∀ t, Q (.str (xs.getD (a % vs.length) Str.empty) t) s) (hsub : subscripted slice false (.ref l) (.int ((a % vs.length : Nat) : Int) u) = operate ops (getItem (.ref l) (.int ((a % vs.length : Nat) : Int) u))) :
    wpAny (model prog w) A (subscriptTail value slice (.ref l) (.int ((a % vs.length : Nat) : Int) u)) Q E s :=
  str_item N hm hs (idx_lt hs hne) (Nat.lt_trans (idx_lt hs hne) hf) h hsub
theorem modL {a : Nat} {vs : List Value} {t u : Tok} {Q : Value → Shared → Prop} (hb : ¬ vs = []) (h : Q (.int ((a % vs.length : Nat) : Int) s.toks) { s with toks := s.toks + 1 }) : wpAny (model prog w) A (binaryOp .Mod (.int (a : Int) t) (.int ((vs.length : Nat) : Int) u)) Q E s :=
  modN (List.length_pos_iff.mpr hb) h
end
end Mine
end
section
open PySem PySem.W PyProof.Rows PySem.Calls
set_option Elab.async false
set_option linter.unusedVariables false
set_option maxRecDepth 100000
namespace Mine
theorem ents_filt {l l' : List (Addr × Obj)} {vs es} (h : Ents l vs es) (hs : ∀ a e t u k, (a, tupOf e t u k) ∈ l → (a, tupOf e t u k) ∈ l') : Ents l' vs es := by
  induction h with
  | nil => exact .nil
  | cons he _ ih =>
    obtain ⟨h1, a, t, u, k, rfl, hm⟩ := he
    exact .cons ⟨h1, a, t, u, k, rfl, hs _ _ _ _ _ hm⟩ ih
theorem news_one {h₀ h : Heap} {L : Addr} {big : List (Addr × Obj)} (N : News h₀ L h big) {a : Addr} {o o' : Obj} (h1 : (a, o) ∈ big) (h2 : (a, o') ∈ big) : o = o' :=
  Option.some.inj ((N _ h1).1.symm.trans (N _ h2).1)
/-- from a ledger with iterators and a cell among it, the table and what is wanted, without them -/
theorem shrink {T₁ D H C : Nat} {h₀ h : Heap} {L : Addr} {big restB : List (Addr × Obj)} {vs es} {oc : Obj} {v : Option Value} {wr : List Addr} (N : News h₀ L h big) (hT : Tb T₁ D H restB vs es) (hin : ∀ p ∈ restB, p ∈ big)
    (hc : (C, oc) ∈ big) (hcv : oc.data = .cell v) (how : ∀ a ∈ wr, ∃ o, (a, o) ∈ big ∧ o.cls ≠ .type "tuple") :
    ∃ rest'', (∀ p ∈ rest'', p ∈ restB) ∧ (∀ p ∈ rest'', p.1 ∉ wr) ∧ (∀ p ∈ rest'', p.1 ≠ C) ∧ Tb T₁ D H rest'' vs es ∧ ∀ q ∈ restB, q.1 ∉ wr → q.1 ≠ C → q ∈ rest'' := by
  have hmem : ∀ q, q ∈ restB.filter (fun p => decide (p.1 ∉ wr ∧ p.1 ≠ C)) ↔ q ∈ restB ∧ (q.1 ∉ wr ∧ q.1 ≠ C) := fun q => by rw [List.mem_filter]; simp only [decide_eq_true_eq]
  refine ⟨restB.filter (fun p => decide (p.1 ∉ wr ∧ p.1 ≠ C)), fun p hp => ((hmem p).mp hp).1, fun p hp => ((hmem p).mp hp).2.1, fun p hp => ((hmem p).mp hp).2.2, ?_, fun q h1 h2 h3 => (hmem q).mpr ⟨h1, h2, h3⟩⟩
  refine ⟨hT.dt, hT.ht, hT.hd, fun p hp => hT.rt p ((hmem p).mp hp).1, fun p hp => hT.rd p ((hmem p).mp hp).1, fun p hp => hT.rh p ((hmem p).mp hp).1, ents_filt hT.ents fun a e t u k hm => ?_, hT.few, hT.vals⟩
  refine ((hmem _).mpr ⟨hm, fun ha => ?_, fun ha => ?_⟩)
  · obtain ⟨o, ho, hcl⟩ := how a ha
    exact hcl (by rw [news_one N ho (hin _ hm)]; rfl)
  · have e := news_one N hc (by have := hin _ hm; rw [show a = C from ha] at this; exact this)
    rw [e] at hcv
    exact absurd hcv (by unfold tupOf; simp)
theorem list_off {h₀ h : Heap} {L C : Addr} {big : List (Addr × Obj)} (N : News h₀ L h big) {oc : Obj} {v : Option Value} {a : Addr} {xs : Array Value} {k : Nat} (hc : (C, oc) ∈ big) (hcv : oc.data = .cell v) (hm : (a, W.listOf xs k) ∈ big) : a ≠ C := fun ha => by
  have e := news_one N hc (by rw [ha] at hm; exact hm)
  rw [e] at hcv
  exact absurd hcv (by unfold W.listOf; simp)
theorem Tb.cons2 {T₁ D H : Nat} {rest : List (Addr × Obj)} {vs es} {p q : Addr × Obj} (h : Tb T₁ D H rest vs es) (p1 : p.1 ≠ T₁) (p2 : p.1 ≠ D) (p3 : p.1 ≠ H) (q1 : q.1 ≠ T₁) (q2 : q.1 ≠ D) (q3 : q.1 ≠ H) : Tb T₁ D H (p :: q :: rest) vs es := by
  have key : ∀ (R : Nat → Prop), R p.1 → R q.1 → (∀ x ∈ rest, R x.1) → ∀ x ∈ p :: q :: rest, R x.1 := fun R h1 h2 h3 x hx => by
    rcases List.mem_cons.mp hx with rfl | hx
    · exact h1
    · rcases List.mem_cons.mp hx with rfl | hx
      · exact h2
      · exact h3 x hx
  exact ⟨h.dt, h.ht, h.hd, key (· ≠ T₁) p1 q1 h.rt, key (· ≠ D) p2 q2 h.rd, key (· ≠ H) p3 q3 h.rh, h.ents.mono fun x hx => .tail _ (.tail _ hx), h.few, h.vals⟩
theorem Tb.cons1 {T₁ D H : Nat} {rest : List (Addr × Obj)} {vs es} {p : Addr × Obj} (h : Tb T₁ D H rest vs es) (p1 : p.1 ≠ T₁) (p2 : p.1 ≠ D) (p3 : p.1 ≠ H) : Tb T₁ D H (p :: rest) vs es := by
  have key : ∀ (R : Nat → Prop), R p.1 → (∀ x ∈ rest, R x.1) → ∀ x ∈ p :: rest, R x.1 := fun R h1 h3 x hx => by
    rcases List.mem_cons.mp hx with rfl | hx
    · exact h1
    · exact h3 x hx
  exact ⟨h.dt, h.ht, h.hd, key (· ≠ T₁) p1 h.rt, key (· ≠ D) p2 h.rd, key (· ≠ H) p3 h.rh, h.ents.mono fun x hx => .tail _ hx, h.few, h.vals⟩
theorem perm6 {α : Type} {a b c d e f : α} {l : List α} : ∀ p ∈ c :: d :: e :: a :: b :: f :: l, p ∈ a :: b :: c :: d :: e :: f :: l := by
  intro p hp
  simp only [List.mem_cons] at hp ⊢
  rcases hp with h | h | h | h | h | h | h <;> simp [h]
theorem off4 {wr : List Nat} {H T₁ D C : Nat} {oH oT oD oC : Obj} {rest'' : List (Addr × Obj)} (h1 : H ∉ wr) (h2 : T₁ ∉ wr) (h3 : D ∉ wr) (h4 : C ∉ wr) (k : ∀ p ∈ rest'', p.1 ∉ wr) : ∀ p ∈ (H, oH) :: (T₁, oT) :: (D, oD) :: (C, oC) :: rest'', p.1 ∉ wr := by
  intro p hp
  simp only [List.mem_cons] at hp
  rcases hp with rfl | rfl | rfl | rfl | h
  · exact h1
  · exact h2
  · exact h3
  · exact h4
  · exact k p h
theorem news5 {α : Type} {a b c d : α} {l l' : List α} (h : d ∈ l') (k : ∀ p ∈ l, p ∈ l') : ∀ p ∈ a :: b :: c :: d :: l, p ∈ a :: b :: c :: l' := by
  intro p hp
  simp only [List.mem_cons] at hp ⊢
  rcases hp with h1 | h1 | h1 | h1 | h1
  · simp [h1]
  · simp [h1]
  · simp [h1]
  · subst h1; simp [h]
  · simp [k p h1]
theorem up6 {α : Type} {a b c d e f x : α} {l : List α} (h : x ∈ l) : x ∈ a :: b :: c :: d :: e :: f :: l := List.mem_append_right [a, b, c, d, e, f] h
theorem up4 {α : Type} {a b c d x : α} {l : List α} (h : x ∈ l) : x ∈ a :: b :: c :: d :: l := List.mem_append_right [a, b, c, d] h
theorem sub_c {α : Type} {a b c d : α} {l : List α} (h : d ∈ l) : ∀ p ∈ a :: b :: c :: d :: l, p ∈ a :: b :: c :: l := by
  intro p hp
  simp only [List.mem_cons] at hp ⊢
  rcases hp with h1 | h1 | h1 | h1 | h1
  · simp [h1]
  · simp [h1]
  · simp [h1]
  · subst h1; simp [h]
  · simp [h1]
theorem frame_t2 {m : Str → Option Value} {a b : Str} {v v' : Value} (h1 : m a = some v) (h2 : m b = some v') : m = fun y => if y = a then some v else if y = b then some v' else m y := by
  funext y
  by_cases e : y = a
  · subst e; simp [h1]
  · by_cases e2 : y = b
    · subst e2; simp [e, h2]
    · simp [e, e2]
end Mine
end
section
open PySem PySem.W PyProof.Rows PySem.Calls
set_option Elab.async false
set_option maxRecDepth 100000
set_option linter.unusedVariables false
namespace Mine
theorem fillK_Chk : (fun (_ : OpenLaw) (_ : Params → Frag) => True) PySem.Challenge.rw_pg0208_01 hd.heap_39 := by k_fill; trivial
section
variable {prog : Program} {w : World} {A₀ A : Around} {s : Shared} {base h₀ : Heap} {outer : List Env} {L : Addr} {m : Str → Option Value} {env : Env} {news : List (Addr × Obj)}
  {loose : List Str} {mean : ExcName → Option Value} {mg mb : Str → Option Value} {R : Result → Shared → Prop}

def lawFn : Stmt := PySem.Challenge.pw_pg0208_01.main.body.getD 15 (.Pass default)
def lawFor : Stmt := match lawFn with
  | .FunctionDef _ _ body _ _ _ _ _ _ _ => body.getD 3 (.Pass default)
  | s => s
def lawScope : Scope := match lawFn with
  | .FunctionDef _ _ _ _ _ _ scope _ _ _ => scope
  | _ => default

theorem ents_lt {news : List (Addr × Obj)} {vs es} (h : Ents news vs es) : ∀ e ∈ es, e.1 < 32 := by
  induction h with
  | nil => intro e he; simp at he
  | cons he _ ih =>
    intro e hm
    rcases List.mem_cons.mp hm with rfl | hm
    · exact he.1
    · exact ih e hm
theorem up5 {α : Type} {a b c d e x : α} {l : List α} (h : x ∈ l) : x ∈ a :: b :: c :: d :: e :: l := .tail _ (.tail _ (.tail _ (.tail _ (.tail _ h))))
theorem up_in {α : Type} {a d x : α} {l k : List α} (h : x ∈ l) : x ∈ a :: (k ++ d :: l) := .tail _ (List.mem_append_right _ (.tail _ h))
theorem up_at {α : Type} {a d : α} {l k : List α} : d ∈ a :: (k ++ d :: l) := .tail _ (List.mem_append_right _ (.head _))
theorem up_new {α : Type} {a x : α} {l k : List α} (h : x ∈ k) : x ∈ a :: (k ++ l) := .tail _ (List.mem_append_left _ h)
def lawBody : List Stmt := match lawFor with
  | .For _ _ body _ _ => body
  | _ => []
def lawIf : Stmt := lawBody.getD 2 (.Pass default)
local macro_rules | `(tactic| k_all) => `(tactic| with_reducible assumption)
local macro_rules | `(tactic| walk_at "call builtin:str.lower") => `(tactic| (k_here; (with_reducible show wpAny _ _ (call (Value.builtin _) [Value.str _ _]) _ _ _); k_dflt (refine' my_lower (by with_reducible assumption) ?_)))
local macro_rules | `(tactic| k_mem) => `(tactic| (refine memOf ?_; with_reducible assumption))
local macro_rules | `(tactic| walk_at "eval ListComp") => `(tactic| (k_here; (with_reducible show wpAny _ _ (eval (Expr.ListComp _ _ _ _) _) _ _ _); refine holdOf ?_))
local macro_rules | `(tactic| walk_at "exec Assign cons ListComp") => `(tactic| (k_here; (with_reducible show wpAny _ _ (exec (Stmt.Assign _ (Expr.ListComp _ _ _ _) _) _) _ _ _); refine holdOf ?_))
local macro_rules | `(tactic| walk_at "call type:enumerate") => `(tactic| (k_here; (with_reducible show wpAny _ _ (call _ _) _ _ _); refine holdOf ?_))
local macro_rules | `(tactic| walk_at "call builtin:sorted") => `(tactic| (k_here; (with_reducible show wpAny _ _ (call _ _) _ _ _); refine holdOf ?_))
local macro_rules | `(tactic| walk_at "compareOp NotEq ref ref") => `(tactic| (k_here; (with_reducible show wpAny _ _ (compareOp _ _ _) _ _ _); refine holdOf ?_))
local macro_rules | `(tactic| walk_at "binaryOp Add ref ref") => `(tactic| (k_here; (with_reducible show wpAny _ _ (binaryOp _ _ _) _ _ _); refine holdOf ?_))
local macro_rules | `(tactic| walk_at "call ref") => `(tactic| (k_here; (with_reducible show wpAny _ _ (call (Value.ref 163) [Value.ref _]) _ _ _); k_dflt (refine' wpAny_call (items_hdr ?hT ?B ?F ?X ?N ?T ?R ?_)); (case hT => k_asm); (case B => k_asm); (case F => k_asm); (case X => k_asm); (case N => k_asm); (case T => k_asm); (case R => first | exact Room.less (Room.deeper (by assumption) rfl rfl) (by decide) | exact Room.less (by assumption) (by decide)); intro h' tk' l' n' hne' hr' F' N'; (try unfold hdrs at *); (try dsimp only); (try k_sweep)))
local macro_rules | `(tactic| walk_at "call ref") => `(tactic| (k_here; (with_reducible show wpAny _ _ (call (Value.ref 210) [Value.ref _, Value.str _ _]) _ _ _); refine holdOf ?_))
local macro_rules | `(tactic| walk_at "call ref") => `(tactic| (k_here; (with_reducible show wpAny _ _ (call (Value.ref 217) [Value.ref _, Value.str _ _]) _ _ _); refine holdOf ?_))
local macro_rules | `(tactic| walk_at "call ref") => `(tactic| (k_here; (with_reducible show wpAny _ _ (call (Value.ref 222) [Value.ref _]) _ _ _); refine holdOf ?_))

set_option maxHeartbeats 3000000 in
theorem law_check {T₁ D H LT fa : Addr} {ccd : Value} {rest : List (Addr × Obj)} {tvs vs : List Value} {nt nv : Nat} {tk0 : Tok} {xs : List Str} {es : List (Nat × Str)} {Q : Flow → Shared → Prop} {E : Value → Shared → Prop}
  (hnd : (es.map (·.1)).Nodup) (hxl : xs.length < 32) (hok : ∀ x ∈ xs, okX x) (hsame : ∀ es', es'.Perm es → es'.Pairwise (fun a b => a.1 < b.1) → es' = ringEnts (ringP xs))
  (B : Below A₀ base outer h₀) (F : Fr h₀ L s.heap (fun y => if y = Str.ofString "things" then some (.ref LT) else if y = Str.ofString "table" then some (.ref T₁) else m y))
  (X : (Mine.hd.heap_39 w.params).In h₀) (N : News h₀ L s.heap ((H, listOf vs.toArray nv) :: (T₁, instObj 199 D) :: (D, hdrs w.params tk0 H) :: rest)) (T : Top hd.view_39 loose mean mg mb h₀)
  (hR : Room 20 A (envOfC (Str.ofString "law") lawScope L fa ccd) outer L)
  (hT : Tb T₁ D H rest vs es) (hLT : (LT, listOf tvs.toArray nt) ∈ rest) (hS : Strs tvs xs)
  (hE : PassesOwn (model prog w) A (envOfC (Str.ofString "law") lawScope L fa ccd) E)
  (k : ∀ h' tk, Fr h₀ L h' (fun y => if y = Str.ofString "things" then some (.ref LT) else if y = Str.ofString "table" then some (.ref T₁) else m y) → News h₀ L h' ((H, listOf vs.toArray nv) :: (T₁, instObj 199 D) :: (D, hdrs w.params tk0 H) :: rest) → Q .next { s with heap := h', toks := tk }) :
  wpAny (model prog w) A (exec lawIf (envOfC (Str.ofString "law") lawScope L fa ccd)) Q E s := by
  have htl : tvs.length < 1000 := by have := hS.len; omega
  have hv : ∀ e ∈ es, e.1 < 32 ∧ okX e.2 := fun e he => ⟨ents_lt hT.ents e he, hT.vals e he⟩
  unfold hdrs at N
  show wpAny _ _ (exec (Stmt.If _ _ _ _) (envOfC _ ⟨_, _, _, _, _⟩ _ _ _)) _ _ _
  k_steps
  show wpAny _ _ (call (.ref 163) [.ref T₁]) _ _ _
  refine' wpAny_call (items_hdr hT ?B ?F ?X ?N ?T ?R ?_)
  (case B => k_asm); (case F => k_asm); (case X => k_asm); (case N => k_asm); (case T => k_asm); (case R => first | exact Room.less (Room.deeper (by assumption) rfl rfl) (by decide) | exact Room.less (by assumption) (by decide))
  intro h1 tk1 l1 n1 hne1 hr1 F1 N1
  k_steps
  show wpAny _ _ (call _ _) _ _ _
  refine sorted_tab (by k_asm) (by k_asm) (.head _) (hT.ents.mono fun p hp => .tail _ (.tail _ (.tail _ (.tail _ hp)))) hnd hT.few ?_
  intro Ds cs h2 vs2 es2 F2 N2 hq2 E2 hp2 hs2
  have he2 : es2 = ringEnts (ringP xs) := hsame es2 hp2 hs2
  k_steps
  show wpAny _ _ (call _ _) _ _ _
  refine' wpAny_call (ring (LT := LT) (up5 hLT) hS hok hxl ?B ?F ?X ?N ?T ?R ?_)
  (case B => k_asm); (case F => k_asm); (case X => k_asm); (case N => k_asm); (case T => k_asm); (case R => first | exact Room.less (Room.deeper (by assumption) rfl rfl) (by decide) | exact Room.less (by assumption) (by decide))
  intro h3 tk3 l3 ys3 n3 new3 F3 N3 E3 hq3
  have hv2 : ∀ e ∈ ringEnts (ringP xs), e.1 < 32 ∧ okX e.2 := fun e he => hv e (hp2.mem_iff.mp (he2 ▸ he))
  k_steps
  show wpAny _ _ (compareOp _ _ _) _ _ _
  refine ne_same N3 up_at (.head _) (he2 ▸ E2.mono fun p hp => up_in hp) (E3.mono fun p hp => up_new hp) hv2 ?_ ?_
  · have := hR.units
    show _ < 9900
    omega
  k_steps
  exact k h3 tk3 F3 fun p hp => N3 p (up_in (.tail _ hp))

theorem law_check2 {T₁ D H LT fa : Addr} {ccd : Value} {rest : List (Addr × Obj)} {tvs vs : List Value} {nt nv : Nat} {tk0 : Tok} {xs : List Str} {es : List (Nat × Str)} {Q : Flow → Shared → Prop} {E : Value → Shared → Prop}
  (hnd : (es.map (·.1)).Nodup) (hxl : xs.length < 32) (hok : ∀ x ∈ xs, okX x) (hsame : ∀ es', es'.Perm es → es'.Pairwise (fun a b => a.1 < b.1) → es' = ringEnts (ringP xs))
  (B : Below A₀ base outer h₀) (F : Fr h₀ L s.heap m) (hm1 : m (Str.ofString "things") = some (.ref LT)) (hm2 : m (Str.ofString "table") = some (.ref T₁))
  (X : (Mine.hd.heap_39 w.params).In h₀) (N : News h₀ L s.heap ((H, listOf vs.toArray nv) :: (T₁, instObj 199 D) :: (D, hdrs w.params tk0 H) :: rest)) (T : Top hd.view_39 loose mean mg mb h₀)
  (hR : Room 20 A (envOfC (Str.ofString "law") lawScope L fa ccd) outer L)
  (hT : Tb T₁ D H rest vs es) (hLT : (LT, listOf tvs.toArray nt) ∈ rest) (hS : Strs tvs xs)
  (hE : PassesOwn (model prog w) A (envOfC (Str.ofString "law") lawScope L fa ccd) E)
  (k : ∀ h' tk, Fr h₀ L h' m → News h₀ L h' ((H, listOf vs.toArray nv) :: (T₁, instObj 199 D) :: (D, hdrs w.params tk0 H) :: rest) → Q .next { s with heap := h', toks := tk }) :
  wpAny (model prog w) A (exec lawIf (envOfC (Str.ofString "law") lawScope L fa ccd)) Q E s :=
  law_check hnd hxl hok hsame B ((congrArg (Fr h₀ L s.heap) (frame_t2 hm1 hm2)).mp F) X N T hR hT hLT hS hE fun h' tk F' N' => k h' tk ((congrArg (Fr h₀ L h') (frame_t2 hm1 hm2)).mpr F') N'
end
end Mine
end
section
open PySem PySem.W PyProof.Rows PySem.Calls
set_option Elab.async false
set_option maxRecDepth 100000
set_option linter.unusedVariables false
namespace Mine
theorem fillK_G11 : (fun (_ : OpenLaw) (_ : Params → Frag) => True) PySem.Challenge.rw_pg0208_01 hd.heap_39 := by k_fill; trivial
section
variable {prog : Program} {w : World} {A₀ A : Around} {s : Shared} {base h₀ : Heap} {outer : List Env} {L : Addr} {m : Str → Option Value} {env : Env} {news : List (Addr × Obj)}
  {loose : List Str} {mean : ExcName → Option Value} {mg mb : Str → Option Value} {R : Result → Shared → Prop}

def thingP (b k i : Nat) : Str := ⟨#[colN (k / 3 % 3) + (b + k / 3 / 3 % 4) % 32]⟩ ++ Str.ofString (toString ((i : Nat) : Int))
structure GoodLaw (b : Nat) (Good : Nat → List (Nat × Str) → List Str → Prop) : Prop where
  start : Good 0 [] []
  nodup : ∀ i es xs, Good i es xs → (es.map (·.1)).Nodup
  len : ∀ i es xs, Good i es xs → es.length ≤ i ∧ xs.length ≤ i
  ok : ∀ i es xs, Good i es xs → ∀ x ∈ xs, okX x
  same : ∀ i es xs, Good i es xs → ∀ es', es'.Perm es → es'.Pairwise (fun a b => a.1 < b.1) → es' = ringEnts (ringP xs)
  bring : ∀ i es xs k, Good i es xs → i < 14 → Good (i + 1) (bringP es (thingP b k i) 32 ((colN (k / 3 % 3) + (b + k / 3 / 3 % 4) % 32) % 32)) (xs ++ [thingP b k i])
  take : ∀ i es xs x, Good i es xs → i < 14 → x ∈ xs → Good (i + 1) (takeP es x) (xs.filter fun y => y != x)
local macro_rules | `(tactic| k_all) => `(tactic| with_reducible assumption)
local macro_rules | `(tactic| walk_at "call builtin:str.lower") => `(tactic| (k_here; (with_reducible show wpAny _ _ (call (Value.builtin _) [Value.str _ _]) _ _ _); k_dflt (refine' my_lower (by with_reducible assumption) ?_)))
local macro_rules | `(tactic| k_mem) => `(tactic| (refine memOf ?_; with_reducible assumption))
local macro_rules | `(tactic| walk_at "binaryOp FloorDiv int int") => `(tactic| (k_here; (with_reducible show wpAny _ _ (binaryOp _ (Value.int (Nat.cast _) _) (Value.int 3 _)) _ _ _); k_dflt (refine' div3N ?_; skip)))
local macro_rules | `(tactic| walk_at "binaryOp Add int int") => `(tactic| (k_here; (with_reducible show wpAny _ _ (binaryOp _ (Value.int (Nat.cast _) _) (Value.int (Nat.cast _) _)) _ _ _); k_dflt (refine' addN ?_; skip)))
local macro_rules | `(tactic| walk_at "binaryOp Mod int int") => `(tactic| (k_here; (with_reducible show wpAny _ _ (binaryOp _ (Value.int (Nat.cast _) _) (Value.int (Nat.cast (List.length _)) _)) _ _ _); k_dflt (refine' modL ?h ?_; (case h => assumption))))
local macro_rules | `(tactic| walk_at "binaryOp Mod int int") => `(tactic| (k_here; (with_reducible show wpAny _ _ (binaryOp _ (Value.int (Nat.cast _) _) (Value.int 32 _)) _ _ _); k_dflt (refine' mod32N ?_; skip)))
local macro_rules | `(tactic| walk_at "binaryOp Mod int int") => `(tactic| (k_here; (with_reducible show wpAny _ _ (binaryOp _ (Value.int (Nat.cast _) _) (Value.int 4 _)) _ _ _); k_dflt (refine' mod4N ?_; skip)))
local macro_rules | `(tactic| walk_at "binaryOp Mod int int") => `(tactic| (k_here; (with_reducible show wpAny _ _ (binaryOp _ (Value.int (Nat.cast _) _) (Value.int 3 _)) _ _ _); k_dflt (refine' mod3N ?_; skip)))
local macro_rules | `(tactic| walk_at "call builtin:chr") => `(tactic| (k_here; (with_reducible show wpAny _ _ (call (Value.builtin "chr") [Value.int (Nat.cast _) _]) _ _ _); k_dflt (refine' chrN ?h ?_; (case h => assumption))))
local macro_rules | `(tactic| walk_at "call builtin:len") => `(tactic| (k_here; (with_reducible show wpAny _ _ (call (Value.builtin "len") [Value.ref _]) _ _ _); k_dflt (refine' lenN ?N ?m ?h ?_; (case N => k_asm); (case m => k_mem); (case h => assumption)); intro t9' tk9'))
local macro_rules | `(tactic| walk_at "truthy ref") => `(tactic| (k_here; (with_reducible show wpAny _ _ (truthy (Value.ref _)) _ _ _); k_dflt (refine' truthN ?N ?m ?h (fun e9' tk9' => ?_) (fun e9' tk9' => ?_); (case N => k_asm); (case m => k_mem); (case h => assumption))))
local macro_rules | `(tactic| walk_at "subscriptTail") => `(tactic| (k_here; (with_reducible show wpAny _ _ (subscriptTail _ _ (Value.ref _) (Value.int (Nat.cast _) _)) _ _ _); k_dflt (refine' str_itemL ?N ?m ?s ?p ?f ?_ ?q; (case N => k_asm); (case m => k_mem); (case s => with_reducible assumption); (case p => assumption); (case f => assumption); (case q => with_unfolding_all rfl)); intro t9'))
local macro_rules | `(tactic| walk_at "subscriptTail") => `(tactic| (k_here; (with_reducible show wpAny _ _ (subscriptTail _ _ (Value.ref _) (Value.int (Nat.cast _) _)) _ _ _); k_dflt (refine' colItem ?N ?m ?p ?_ ?q; (case N => k_asm); (case m => k_mem); (case p => omega); (case q => with_unfolding_all rfl)); intro t9'))
local macro_rules | `(tactic| walk_at "eval ListComp") => `(tactic| (k_here; (with_reducible show wpAny _ _ (eval (Expr.ListComp _ _ _ _) _) _ _ _); refine holdOf ?_))
local macro_rules | `(tactic| walk_at "exec Assign cons ListComp") => `(tactic| (k_here; (with_reducible show wpAny _ _ (exec (Stmt.Assign _ (Expr.ListComp _ _ _ _) _) _) _ _ _); refine holdOf ?_))
local macro_rules | `(tactic| walk_at "call type:enumerate") => `(tactic| (k_here; (with_reducible show wpAny _ _ (call _ _) _ _ _); refine holdOf ?_))
local macro_rules | `(tactic| walk_at "call builtin:sorted") => `(tactic| (k_here; (with_reducible show wpAny _ _ (call _ _) _ _ _); refine holdOf ?_))
local macro_rules | `(tactic| walk_at "compareOp NotEq ref ref") => `(tactic| (k_here; (with_reducible show wpAny _ _ (compareOp _ _ _) _ _ _); refine holdOf ?_))
local macro_rules | `(tactic| walk_at "binaryOp Add ref ref") => `(tactic| (k_here; (with_reducible show wpAny _ _ (binaryOp _ _ _) _ _ _); refine holdOf ?_))
local macro_rules | `(tactic| walk_at "exec If") => `(tactic| (k_here; (with_reducible show wpAny _ _ (exec (Stmt.If (Expr.Compare _ _ _ _) _ _ _) _) _ _ _); refine holdOf ?_))
local macro_rules | `(tactic| walk_at "call ref") => `(tactic| (k_here; (with_reducible show wpAny _ _ (call (Value.ref 163) [Value.ref _]) _ _ _); k_dflt (refine' wpAny_call (items_hdr ?hT ?B ?F ?X ?N ?T ?R ?_)); (case hT => k_asm); (case B => k_asm); (case F => k_asm); (case X => k_asm); (case N => k_asm); (case T => k_asm); (case R => first | exact Room.less (Room.deeper (by assumption) rfl rfl) (by decide) | exact Room.less (by assumption) (by decide)); intro h' tk' l' n' hne' hr' F' N'; (try unfold hdrs at *); (try dsimp only); (try k_sweep)))
local macro_rules | `(tactic| walk_at "call ref") => `(tactic| (k_here; (with_reducible show wpAny _ _ (call (Value.ref 210) [Value.ref _, Value.str _ _]) _ _ _); refine holdOf ?_))
local macro_rules | `(tactic| walk_at "call ref") => `(tactic| (k_here; (with_reducible show wpAny _ _ (call (Value.ref 217) [Value.ref _, Value.str _ _]) _ _ _); refine holdOf ?_))
local macro_rules | `(tactic| walk_at "call ref") => `(tactic| (k_here; (with_reducible show wpAny _ _ (call (Value.ref 222) [Value.ref _]) _ _ _); refine holdOf ?_))

set_option maxHeartbeats 3000000 in
theorem thingP_first (b k i : Nat) : (thingP b k i).cps[0]? = some (colN (k / 3 % 3) + (b + k / 3 / 3 % 4) % 32) := by
  show (#[colN (k / 3 % 3) + (b + k / 3 / 3 % 4) % 32] ++ (Str.ofString (toString ((i : Nat) : Int))).cps)[0]? = _
  rw [Array.getElem?_append_left (by simp)]
  rfl
set_option maxHeartbeats 3000000 in
theorem law_loop {T₁ D H LN LT fa : Addr} {ccd : Value} {rest : List (Addr × Obj)} {nvs : List Value} {nn nt : Nat} {ks : List Nat} {bN : Nat} {tb tk0 : Tok} {oc : Obj} {Q : Flow → Shared → Prop} {E : Value → Shared → Prop} {Good : Nat → List (Nat × Str) → List Str → Prop}
  (G : GoodLaw bN Good)
  (B : Below A₀ base outer h₀) (F : Fr h₀ L s.heap (fun y => if y = Str.ofString "numbers" then some (.ref LN) else if y = Str.ofString "base" then some (.int (bN : Int) tb) else if y = Str.ofString "table" then some (.ref T₁) else if y = Str.ofString "things" then some (.ref LT) else m y))
  (X : (Mine.hd.heap_39 w.params).In h₀) (N : News h₀ L s.heap ((H, listOf #[] 0) :: (T₁, instObj 199 D) :: (D, hdrs w.params tk0 H) :: (L + 1, oc) :: rest)) (T : Top hd.view_39 loose mean mg mb h₀)
  (hR : Room 20 A (envOfC (Str.ofString "law") lawScope L fa ccd) outer L)
  (hT : Tb T₁ D H rest [] []) (n1 : @Ne Nat H (L + 1)) (n2 : @Ne Nat T₁ (L + 1)) (n3 : @Ne Nat D (L + 1)) (hoc : oc.data = .cell none) (hcr : ∀ p ∈ rest, p.1 ≠ L + 1) (hLT : (LT, listOf #[] nt) ∈ rest) (hLN : (LN, listOf nvs.toArray nn) ∈ rest) (hnv : IntsAre nvs (ks.map Int.ofNat)) (hks : ks.length ≤ 14)
  (hE : PassesOwn (model prog w) A (envOfC (Str.ofString "law") lawScope L fa ccd) E)
  (k : ∀ h' tk m', Fr h₀ L h' m' → Q .next { s with heap := h', toks := tk }) : wpAny (model prog w) A (exec lawFor (envOfC (Str.ofString "law") lawScope L fa ccd)) Q E s := by
  show wpAny _ _ (exec (Stmt.For _ _ _ _ _) (envOfC _ ⟨_, _, _, _, _⟩ _ _ _)) _ _ _
  refine forM F ?_ (by intro _; rfl) hE
  k_steps
  show wpAny _ _ (call _ _) _ _ _
  unfold hdrs at N
  refine enumM (fun m₀ news₀ i m' news' => ∃ (u : Str → Option Value) (LT : Addr) (tvs : List Value) (nt : Nat) (xs : List Str) (es : List (Nat × Str)) (vs' : List Value) (n' : Nat) (oc : Obj) (rest' : List (Addr × Obj)),
      m' = (fun y => if y = Str.ofString "step" then u y else if y = Str.ofString "number" then u y else if y = Str.ofString "figure" then u y else if y = Str.ofString "things" then some (.ref LT) else m₀ y) ∧
      news' = (H, listOf vs'.toArray n') :: (T₁, instObj 199 D) :: (D, hdrs w.params tk0 H) :: (L + 1, oc) :: rest' ∧ Tb T₁ D H rest' vs' es ∧ (∃ v, oc.data = .cell v) ∧ (∀ p ∈ rest', p.1 ≠ L + 1) ∧
      (LT, listOf tvs.toArray nt) ∈ rest' ∧ Strs tvs xs ∧ (LN, listOf nvs.toArray nn) ∈ rest' ∧ Good i es xs) hR.hh F N (.tail _ (.tail _ (.tail _ (.tail _ hLN)))) ⟨_, LT, [], nt, [], [], [], 0, oc, rest, frame_s3 rfl, rfl, hT, ⟨_, hoc⟩, hcr, hLT, .nil, hLN, G.start⟩ ?_ ?_ ?_ rfl rfl rfl
  · rintro i v ti m₁ news₁ h9 tk9 own hv ⟨u, LT, tvs, nt, xs, es, vs', n', oc, rest', rfl, rfl, hT1, ⟨ov, hov⟩, hcr1, hLT1, hS, hLN1, hG⟩ hoff hown hio1 hio2 F9 N9
    simp only [List.cons_append] at N9
    unfold hdrs at N9
    obtain ⟨kN, hkN, tv, rfl⟩ : ∃ kN : Nat, ks[i]? = some kN ∧ ∃ t, v = .int (kN : Int) t := by
      have hlen := IntsAre.length hnv
      have hi : i < nvs.length := by
        have := (Array.getElem?_eq_some_iff.mp hv).1
        simpa using this
      have hi2 : i < ks.length := by rw [List.length_map] at hlen; omega
      obtain ⟨t, ht⟩ := hnv.get i (ks[i] : Int) (by simp [hi2])
      refine ⟨ks[i], by simp [hi2], t, ?_⟩
      have hv' : nvs[i]? = some v := by simpa using hv
      rw [ht] at hv'
      exact (Option.some.inj hv').symm
    have hi14 : i < 14 := Nat.lt_of_lt_of_le (List.getElem?_eq_some_iff.mp hkN).1 hks
    have hGl := G.len i es xs hG
    have hGo := G.ok i es xs hG
    have hSl := hS.len
    have hxl : xs.length < 2 ^ 40 := by omega
    have htl : tvs.length < 1000 := by omega
    have ho1 : ∀ p ∈ own, p.1 ≠ T₁ ∧ p.1 ≠ D ∧ p.1 ≠ H := fun p hp => by
      have e1 : T₁ ∉ [s.heap.objs.size + 1, s.heap.objs.size] := hoff (T₁, instObj 199 D) (.tail _ (.head _))
      have e2 : D ∉ [s.heap.objs.size + 1, s.heap.objs.size] := hoff (D, hdrs w.params tk0 H) (.tail _ (.tail _ (.head _)))
      have e3 : H ∉ [s.heap.objs.size + 1, s.heap.objs.size] := hoff _ (.head _)
      simp only [List.mem_cons, List.not_mem_nil, or_false, not_or] at e1 e2 e3
      rcases (hown p hp).1 with e | e | e
      · exact ⟨fun q => e1.1 (q.symm.trans e), fun q => e2.1 (q.symm.trans e), fun q => e3.1 (q.symm.trans e)⟩
      · exact ⟨fun q => e1.2 (q.symm.trans e), fun q => e2.2 (q.symm.trans e), fun q => e3.2 (q.symm.trans e)⟩
      · exact e ▸ ⟨hT1.rt _ hLN1, hT1.rd _ hLN1, hT1.rh _ hLN1⟩
    have ho2 : ∀ p ∈ own, p.1 ≠ L + 1 := fun p hp => by
      have e1 : L + 1 ∉ [s.heap.objs.size + 1, s.heap.objs.size] := hoff (L + 1, oc) (.tail _ (.tail _ (.tail _ (.head _))))
      simp only [List.mem_cons, List.not_mem_nil, or_false, not_or] at e1
      rcases (hown p hp).1 with e | e | e
      · exact fun q => e1.1 (q.symm.trans e)
      · exact fun q => e1.2 (q.symm.trans e)
      · exact e ▸ hcr1 _ hLN1
    have hT2 : Tb T₁ D H (rest' ++ own) vs' es := hT1.more ho1
    have hc9 : ∀ p ∈ rest' ++ own, p.1 ≠ L + 1 := fun p hp => (List.mem_append.mp hp).elim (hcr1 p) (ho2 p)
    have hLT2 : (LT, listOf tvs.toArray nt) ∈ rest' ++ own := List.mem_append_left _ hLT1
    have hLN2 : (LN, listOf nvs.toArray nn) ∈ rest' ++ own := List.mem_append_left _ hLN1
    obtain ⟨rest9, hr9⟩ : ∃ r, r = rest' ++ own := ⟨_, rfl⟩
    rw [← hr9] at hT2 hc9 hLT2 hLN2 N9
    have hcol : ∀ p, p < 3 → colN p ≤ 160 := by intro p hp; rcases (by omega : p = 0 ∨ p = 1 ∨ p = 2) with rfl | rfl | rfl <;> decide
    have hchr : colN (kN / 3 % 3) + (bN + kN / 3 / 3 % 4) % 32 < 1000 := by
      have h1 := hcol (kN / 3 % 3) (Nat.mod_lt _ (by decide))
      have h2 := Nat.mod_lt (bN + kN / 3 / 3 % 4) (show 0 < 32 by decide)
      omega
    clear F N
    have hgb := G.bring i es xs kN hG hi14
    have hbx : okX (thingP bN kN i) := G.ok _ _ _ hgb _ (by simp)
    have hb0 := thingP_first bN kN i
    k_steps
    · show wpAny _ _ (call _ _) _ _ _
      rename _ < _ ∧ _ < _ ∧ _ < _ ∧ _ < _ ∧ AllLt _ _ => l2
      rename _ = Data.cell (some _) => d9
      refine' wpAny_call (bring (x := thingP bN kN i) hbx ?f hb0 ?hT ?B ?F ?X (newsSub ?N swap4) ?T ?R ?_)
      (case N => k_asm); (case hT => exact hT2.cons2 (Ne.symm (Nat.ne_of_lt l2.2.1)) (Ne.symm (Nat.ne_of_lt l2.2.2.1)) (Ne.symm (Nat.ne_of_lt l2.1)) (Ne.symm n2) (Ne.symm n3) (Ne.symm n1)); (case B => k_asm); (case F => k_asm); (case X => k_asm); (case T => k_asm); (case R => first | exact Room.less (Room.deeper (by assumption) rfl rfl) (by decide) | exact Room.less (by assumption) (by decide))
      (case f => omega)
      intro h5 tk5 n5 vs5 rest5 F5 N5 hT5 hsub5
      have hLT5 := hsub5 _ (.tail _ (.tail _ hLT2))
      have hLN5 := hsub5 _ (.tail _ (.tail _ hLN2))
      have hC5 := hsub5 _ (.tail _ (.head _))
      have hown5 : ∀ p ∈ own, p ∈ rest5 := fun p hp => hsub5 _ (.tail _ (.tail _ (hr9 ▸ List.mem_append_right _ hp)))
      have N5' := newsSub N5 (sub_c hC5)
      unfold hdrs at N5'
      clear N5
      k_steps
      show wpAny _ _ (binaryOp _ _ _) _ _ _
      rename _ < _ ∧ _ < _ ∧ _ < _ ∧ _ < _ ∧ AllLt _ rest5 => l3
      refine addLists (ws := [_]) (by k_asm) (by k_asm) (.tail _ (.tail _ (.tail _ (.tail _ (.tail _ hLT5))))) (.head _) (by simp; omega) ?_
      intro r6 h6 hr6 F6 N6
      have N6' := newsSub N6 perm6
      clear N6
      k_steps
      show wpAny _ _ (exec lawIf (envOfC (Str.ofString "law") lawScope _ _ _)) _ _ _
      have hxe : (xs ++ [thingP bN kN i]).length < 32 := by simp; omega
      have hgl := G.len _ _ _ hgb
      refine law_check2 (rest := (r6, _) :: (_, _) :: (L + 1, _) :: rest5) (G.nodup _ _ _ hgb) hxe (G.ok _ _ _ hgb) (G.same _ _ _ hgb) (by k_asm) (by k_asm) rfl rfl (by k_asm) (by k_asm) (by k_asm) hR ?hT (.head _) (hS.append (.cons .nil)) hE ?_
      (case hT => exact (hT5.cons1 (p := (L + 1, _)) (Ne.symm n2) (Ne.symm n3) (Ne.symm n1)).cons2 (Ne.symm (Nat.ne_of_lt (hr6 _ (.tail _ (.tail _ (.head _)))))) (Ne.symm (Nat.ne_of_lt (hr6 _ (.tail _ (.tail _ (.tail _ (.head _))))))) (Ne.symm (Nat.ne_of_lt (hr6 _ (.tail _ (.head _))))) (Ne.symm (Nat.ne_of_lt l3.2.1)) (Ne.symm (Nat.ne_of_lt l3.2.2.1)) (Ne.symm (Nat.ne_of_lt l3.1)))
      intro h7 tk7 F7 N7
      obtain ⟨rest7, k1, k2, k3, k4, k5⟩ := shrink (wr := [s.heap.objs.size + 1, s.heap.objs.size]) N7 hT5 (fun p hp => up6 hp) (up6 hC5) d9 fun a ha => by
        have : ∃ o, (a, o) ∈ own := by
          simp only [List.mem_cons, List.not_mem_nil, or_false] at ha
          rcases ha with rfl | rfl
          · exact hio1
          · exact hio2
        exact ⟨this.choose, up6 (hown5 _ this.choose_spec), (hown _ this.choose_spec).2⟩
      have w1 : H ∉ [s.heap.objs.size + 1, s.heap.objs.size] := hoff _ (.head _)
      have w2 : T₁ ∉ [s.heap.objs.size + 1, s.heap.objs.size] := hoff _ (.tail _ (.head _))
      have w3 : D ∉ [s.heap.objs.size + 1, s.heap.objs.size] := hoff _ (.tail _ (.tail _ (.head _)))
      have w4 : L + 1 ∉ [s.heap.objs.size + 1, s.heap.objs.size] := hoff _ (.tail _ (.tail _ (.tail _ (.head _))))
      have w5 : LN ∉ [s.heap.objs.size + 1, s.heap.objs.size] := hoff _ (.tail _ (.tail _ (.tail _ (.tail _ hLN1))))
      have hr6L : r6 ≠ L + 1 := Ne.symm (Nat.ne_of_lt (hr6 (L + 1, _) (up4 (.head _))))
      have w6 : r6 ∉ [s.heap.objs.size + 1, s.heap.objs.size] := fun ha => by
        have : ∃ o, (r6, o) ∈ own := by
          simp only [List.mem_cons, List.not_mem_nil, or_false] at ha
          rcases ha with ha | ha
          · exact ha ▸ hio1
          · exact ha ▸ hio2
        exact Nat.lt_irrefl _ (hr6 _ (up5 (hown5 _ this.choose_spec)))
      dsimp only
      refine wpAny_execs_nil ?_
      refine' TurnM.next (news' := _ :: _ :: _ :: (L + 1, _) :: (r6, _) :: rest7) F7 N7 (news5 ?m1 ?m2) ?m3 (off4 w1 w2 w3 w4 ?m4) ?hJ
      case' hJ => refine' ⟨_, r6, _, _, xs ++ [thingP bN kN i], _, _, _, _, (r6, _) :: rest7, frame_n3 rfl ?m5, rfl, ?m6, ⟨_, d9⟩, ?m7, .head _, hS.append (.cons .nil), .tail _ (k5 _ hLN5 w5 (hcr1 _ hLN1)), hgb⟩
      (case m1 => exact .tail _ (.tail _ (.head _)))
      (case m2 => intro p hp; rcases List.mem_cons.mp hp with hp | hp; (rw [hp]; exact .head _); exact .tail _ (.tail _ (.tail _ (k1 p hp))))
      (case m3 => exact fun p hp => up6 (hown5 p hp))
      (case m4 => exact fun p hp => (List.mem_cons.mp hp).elim (fun e => e ▸ w6) fun hp => k2 p hp)
      (case m5 => intro y y1 y2 y3 y4; simp [y1, y2, y3, y4])
      (case m6 => exact k4.cons1 (Ne.symm (Nat.ne_of_lt (hr6 _ (.tail _ (.tail _ (.head _)))))) (Ne.symm (Nat.ne_of_lt (hr6 _ (.tail _ (.tail _ (.tail _ (.head _))))))) (Ne.symm (Nat.ne_of_lt (hr6 _ (.tail _ (.head _))))))
      (case m7 => exact fun p hp => (List.mem_cons.mp hp).elim (fun e => e ▸ hr6L) fun hp => k3 p hp)
    · show wpAny _ _ (call _ _) _ _ _
      rename _ = Data.cell (some _) => d9
      rename ¬ tvs = [] => hne
      have hxm : xs.getD (kN / 3 % tvs.length) Str.empty ∈ xs := by
        have := idx_lt (a := kN / 3) hS hne
        rw [List.getD_eq_getElem?_getD, List.getElem?_eq_getElem this]
        exact List.getElem_mem this
      have hgt := G.take i es xs _ hG hi14 hxm
      refine' wpAny_call (take (hGo _ hxm) ?f ?hT ?B ?F ?X ?N ?T ?R ?_)
      (case N => k_asm); (case hT => exact hT2.cons1 (Ne.symm n2) (Ne.symm n3) (Ne.symm n1)); (case B => k_asm); (case F => k_asm); (case X => k_asm); (case T => k_asm); (case R => first | exact Room.less (Room.deeper (by assumption) rfl rfl) (by decide) | exact Room.less (by assumption) (by decide))
      (case f => omega)
      intro h5 tk5 n5 vs5 rest5 F5 N5 hT5 hsub5
      have hLT5 := hsub5 _ (.tail _ hLT2)
      have hLN5 := hsub5 _ (.tail _ hLN2)
      have hC5 := hsub5 _ (.head _)
      have hown5 : ∀ p ∈ own, p ∈ rest5 := fun p hp => hsub5 _ (.tail _ (hr9 ▸ List.mem_append_right _ hp))
      have N5' := newsSub N5 (sub_c hC5)
      unfold hdrs at N5'
      clear N5
      k_steps
      show wpAny _ _ (exec (Stmt.Assign _ _ _) _) _ _ _
      refine LCt.Assign_ListComp_T (F₀ := by k_asm) (by rfl) (by with_unfolding_all rfl) (by with_unfolding_all rfl) (by decide) (by rfl) (by decide) (by rfl) (by rfl) (by rfl) ?_
      k_steps
      refine srcT_list (fun news₀ i ys news' => news' = news₀ ∧ Strs ys ((xs.take i).filter fun y => y != xs.getD (kN / 3 % tvs.length) Str.empty)) hR.hh (by k_asm) (by k_asm) (.tail _ (.tail _ (.tail _ (.tail _ hLT5)))) (by rw [sizeLine_eq]; simp; omega) ⟨rfl, .nil⟩ ?_ ?_
      · rintro j ys news₁ ⟨rfl, hY⟩ v I oI C oC D₂ m₂ h8 tk8 E' hv hC hxx F8 N8 off ne
        obtain ⟨y, t8, hy8, rfl⟩ := hS.get (i := j) (v := v) (by simpa using hv)
        k_steps
        · refine LCg.CompEnd.intro (by k_asm) (by k_asm) _ (fun p hp => hp) off (.inr ⟨_, (.tail _ (.tail _ (.tail _ (.tail _ hLT5)))), rfl, _, rfl⟩) ⟨rfl, ?_⟩
          rename (_ != _) = true => e8
          rw [List.take_succ, hy8, List.filter_append]
          simp only [Option.toList, List.filter_cons, e8, if_true, List.filter_nil]
          exact hY.append (.cons .nil)
        · refine LCg.CompEnd.intro (by k_asm) (by k_asm) _ (fun p hp => hp) off (.inr ⟨_, (.tail _ (.tail _ (.tail _ (.tail _ hLT5)))), rfl, _, rfl⟩) ⟨rfl, ?_⟩
          rename (_ != _) = false => e8
          rw [List.take_succ, hy8, List.filter_append]
          simp only [Option.toList, List.filter_cons, e8, Bool.false_eq_true, if_false, List.filter_nil, List.append_nil]
          exact hY
      rintro g9 ys news₁ ⟨rfl, hY⟩ r6 h6 tk6 F6 N6 off6
      have hr6 := fun p hp => off1_mem off6 p hp
      have hYx : Strs ys (xs.filter fun y => y != xs.getD (kN / 3 % tvs.length) Str.empty) := by
        have e7 : List.take tvs.toArray.size xs = xs := List.take_of_length_le (by simp; omega)
        rw [e7] at hY
        exact hY
      have N6' := newsSub N6 swap4
      clear N6
      k_steps
      show wpAny _ _ (exec lawIf (envOfC (Str.ofString "law") lawScope _ _ _)) _ _ _
      have hgl := G.len _ _ _ hgt
      have hxe : (xs.filter fun y => y != xs.getD (kN / 3 % tvs.length) Str.empty).length < 32 := by omega
      refine law_check2 (rest := (r6, _) :: (L + 1, _) :: rest5) (G.nodup _ _ _ hgt) hxe (G.ok _ _ _ hgt) (G.same _ _ _ hgt) (by k_asm) (by k_asm) rfl rfl (by k_asm) (by k_asm) (by k_asm) hR ?hT (.head _) hYx hE ?_
      (case hT => exact (hT5.cons1 (p := (L + 1, _)) (Ne.symm n2) (Ne.symm n3) (Ne.symm n1)).cons1 (Ne.symm (hr6 _ (.tail _ (.head _)))) (Ne.symm (hr6 _ (.tail _ (.tail _ (.head _))))) (Ne.symm (hr6 _ (.head _))))
      intro h7 tk7 F7 N7
      obtain ⟨rest7, k1, k2, k3, k4, k5⟩ := shrink (wr := [s.heap.objs.size + 1, s.heap.objs.size]) N7 hT5 (fun p hp => up5 hp) (up5 hC5) d9 fun a ha => by
        have : ∃ o, (a, o) ∈ own := by
          simp only [List.mem_cons, List.not_mem_nil, or_false] at ha
          rcases ha with rfl | rfl
          · exact hio1
          · exact hio2
        exact ⟨this.choose, up5 (hown5 _ this.choose_spec), (hown _ this.choose_spec).2⟩
      have w1 : H ∉ [s.heap.objs.size + 1, s.heap.objs.size] := hoff _ (.head _)
      have w2 : T₁ ∉ [s.heap.objs.size + 1, s.heap.objs.size] := hoff _ (.tail _ (.head _))
      have w3 : D ∉ [s.heap.objs.size + 1, s.heap.objs.size] := hoff _ (.tail _ (.tail _ (.head _)))
      have w4 : L + 1 ∉ [s.heap.objs.size + 1, s.heap.objs.size] := hoff _ (.tail _ (.tail _ (.tail _ (.head _))))
      have w5 : LN ∉ [s.heap.objs.size + 1, s.heap.objs.size] := hoff _ (.tail _ (.tail _ (.tail _ (.tail _ hLN1))))
      have hr6L : r6 ≠ L + 1 := Ne.symm (hr6 (L + 1, _) (.tail _ (.tail _ (.tail _ (.head _)))))
      have w6 : r6 ∉ [s.heap.objs.size + 1, s.heap.objs.size] := fun ha => by
        have : ∃ o, (r6, o) ∈ own := by
          simp only [List.mem_cons, List.not_mem_nil, or_false] at ha
          rcases ha with ha | ha
          · exact ha ▸ hio1
          · exact ha ▸ hio2
        exact hr6 _ (up4 (hown5 _ this.choose_spec)) rfl
      dsimp only
      refine wpAny_execs_nil ?_
      refine' TurnM.next (news' := _ :: _ :: _ :: (L + 1, _) :: (r6, _) :: rest7) F7 N7 (news5 ?t1 ?t2) ?t3 (off4 w1 w2 w3 w4 ?t4) ?tJ
      case' tJ => refine' ⟨_, r6, _, _, (xs.filter fun y => y != xs.getD (kN / 3 % tvs.length) Str.empty), _, _, _, _, (r6, _) :: rest7, frame_n3 rfl ?t5, rfl, ?t6, ⟨_, d9⟩, ?t7, .head _, hYx, .tail _ (k5 _ hLN5 w5 (hcr1 _ hLN1)), hgt⟩
      (case t1 => exact .tail _ (.head _))
      (case t2 => intro p hp; rcases List.mem_cons.mp hp with hp | hp; (rw [hp]; exact .head _); exact .tail _ (.tail _ (k1 p hp)))
      (case t3 => exact fun p hp => up5 (hown5 p hp))
      (case t4 => exact fun p hp => (List.mem_cons.mp hp).elim (fun e => e ▸ w6) fun hp => k2 p hp)
      (case t5 => intro y y1 y2 y3 y4; simp [y1, y2, y3, y4])
      (case t6 => exact k4.cons1 (Ne.symm (hr6 _ (.tail _ (.head _)))) (Ne.symm (hr6 _ (.tail _ (.tail _ (.head _))))) (Ne.symm (hr6 _ (.head _))))
      (case t7 => exact fun p hp => (List.mem_cons.mp hp).elim (fun e => e ▸ hr6L) fun hp => k3 p hp)
    · show wpAny _ _ (call _ _) _ _ _
      rename _ < _ ∧ _ < _ ∧ _ < _ ∧ _ < _ ∧ AllLt _ _ => l2
      rename _ = Data.cell (some _) => d9
      refine' wpAny_call (bring (x := thingP bN kN i) hbx ?fb hb0 ?hTb ?B ?F ?X (newsSub ?N swap4) ?T ?R ?_)
      (case N => k_asm); (case hTb => exact hT2.cons2 (Ne.symm (Nat.ne_of_lt l2.2.1)) (Ne.symm (Nat.ne_of_lt l2.2.2.1)) (Ne.symm (Nat.ne_of_lt l2.1)) (Ne.symm n2) (Ne.symm n3) (Ne.symm n1)); (case B => k_asm); (case F => k_asm); (case X => k_asm); (case T => k_asm); (case R => first | exact Room.less (Room.deeper (by assumption) rfl rfl) (by decide) | exact Room.less (by assumption) (by decide))
      (case fb => omega)
      intro h5 tk5 n5 vs5 rest5 F5 N5 hT5 hsub5
      have hLT5 := hsub5 _ (.tail _ (.tail _ hLT2))
      have hLN5 := hsub5 _ (.tail _ (.tail _ hLN2))
      have hC5 := hsub5 _ (.tail _ (.head _))
      have hown5 : ∀ p ∈ own, p ∈ rest5 := fun p hp => hsub5 _ (.tail _ (.tail _ (hr9 ▸ List.mem_append_right _ hp)))
      have N5' := newsSub N5 (sub_c hC5)
      unfold hdrs at N5'
      clear N5
      k_steps
      show wpAny _ _ (binaryOp _ _ _) _ _ _
      rename _ < _ ∧ _ < _ ∧ _ < _ ∧ _ < _ ∧ AllLt _ rest5 => l3
      refine addLists (ws := [_]) (by k_asm) (by k_asm) (.tail _ (.tail _ (.tail _ (.tail _ (.tail _ hLT5))))) (.head _) (by simp; omega) ?_
      intro r6 h6 hr6 F6 N6
      have N6' := newsSub N6 perm6
      clear N6
      k_steps
      show wpAny _ _ (exec lawIf (envOfC (Str.ofString "law") lawScope _ _ _)) _ _ _
      have hxe : (xs ++ [thingP bN kN i]).length < 32 := by simp; omega
      have hgl := G.len _ _ _ hgb
      refine law_check2 (rest := (r6, _) :: (_, _) :: (L + 1, _) :: rest5) (G.nodup _ _ _ hgb) hxe (G.ok _ _ _ hgb) (G.same _ _ _ hgb) (by k_asm) (by k_asm) rfl rfl (by k_asm) (by k_asm) (by k_asm) hR ?hTb (.head _) (hS.append (.cons .nil)) hE ?_
      (case hTb => exact (hT5.cons1 (p := (L + 1, _)) (Ne.symm n2) (Ne.symm n3) (Ne.symm n1)).cons2 (Ne.symm (Nat.ne_of_lt (hr6 _ (.tail _ (.tail _ (.head _)))))) (Ne.symm (Nat.ne_of_lt (hr6 _ (.tail _ (.tail _ (.tail _ (.head _))))))) (Ne.symm (Nat.ne_of_lt (hr6 _ (.tail _ (.head _))))) (Ne.symm (Nat.ne_of_lt l3.2.1)) (Ne.symm (Nat.ne_of_lt l3.2.2.1)) (Ne.symm (Nat.ne_of_lt l3.1)))
      intro h7 tk7 F7 N7
      obtain ⟨rest7, k1, k2, k3, k4, k5⟩ := shrink (wr := [s.heap.objs.size + 1, s.heap.objs.size]) N7 hT5 (fun p hp => up6 hp) (up6 hC5) d9 fun a ha => by
        have : ∃ o, (a, o) ∈ own := by
          simp only [List.mem_cons, List.not_mem_nil, or_false] at ha
          rcases ha with rfl | rfl
          · exact hio1
          · exact hio2
        exact ⟨this.choose, up6 (hown5 _ this.choose_spec), (hown _ this.choose_spec).2⟩
      have w1 : H ∉ [s.heap.objs.size + 1, s.heap.objs.size] := hoff _ (.head _)
      have w2 : T₁ ∉ [s.heap.objs.size + 1, s.heap.objs.size] := hoff _ (.tail _ (.head _))
      have w3 : D ∉ [s.heap.objs.size + 1, s.heap.objs.size] := hoff _ (.tail _ (.tail _ (.head _)))
      have w4 : L + 1 ∉ [s.heap.objs.size + 1, s.heap.objs.size] := hoff _ (.tail _ (.tail _ (.tail _ (.head _))))
      have w5 : LN ∉ [s.heap.objs.size + 1, s.heap.objs.size] := hoff _ (.tail _ (.tail _ (.tail _ (.tail _ hLN1))))
      have hr6L : r6 ≠ L + 1 := Ne.symm (Nat.ne_of_lt (hr6 (L + 1, _) (up4 (.head _))))
      have w6 : r6 ∉ [s.heap.objs.size + 1, s.heap.objs.size] := fun ha => by
        have : ∃ o, (r6, o) ∈ own := by
          simp only [List.mem_cons, List.not_mem_nil, or_false] at ha
          rcases ha with ha | ha
          · exact ha ▸ hio1
          · exact ha ▸ hio2
        exact Nat.lt_irrefl _ (hr6 _ (up5 (hown5 _ this.choose_spec)))
      dsimp only
      refine wpAny_execs_nil ?_
      refine' TurnM.next (news' := _ :: _ :: _ :: (L + 1, _) :: (r6, _) :: rest7) F7 N7 (news5 ?m1b ?m2b) ?m3b (off4 w1 w2 w3 w4 ?m4b) ?hJb
      case' hJb => refine' ⟨_, r6, _, _, xs ++ [thingP bN kN i], _, _, _, _, (r6, _) :: rest7, frame_n3 rfl ?m5b, rfl, ?m6b, ⟨_, d9⟩, ?m7b, .head _, hS.append (.cons .nil), .tail _ (k5 _ hLN5 w5 (hcr1 _ hLN1)), hgb⟩
      (case m1b => exact .tail _ (.tail _ (.head _)))
      (case m2b => intro p hp; rcases List.mem_cons.mp hp with hp | hp; (rw [hp]; exact .head _); exact .tail _ (.tail _ (.tail _ (k1 p hp))))
      (case m3b => exact fun p hp => up6 (hown5 p hp))
      (case m4b => exact fun p hp => (List.mem_cons.mp hp).elim (fun e => e ▸ w6) fun hp => k2 p hp)
      (case m5b => intro y y1 y2 y3 y4; simp [y1, y2, y3, y4])
      (case m6b => exact k4.cons1 (Ne.symm (Nat.ne_of_lt (hr6 _ (.tail _ (.tail _ (.head _)))))) (Ne.symm (Nat.ne_of_lt (hr6 _ (.tail _ (.tail _ (.tail _ (.head _))))))) (Ne.symm (Nat.ne_of_lt (hr6 _ (.tail _ (.head _))))))
      (case m7b => exact fun p hp => (List.mem_cons.mp hp).elim (fun e => e ▸ hr6L) fun hp => k3 p hp)
  · intro h' tk m' news' F' N' hJ
    exact k h' tk m' F'
  · rintro i m₁ news₁ ⟨u, LT, tvs, nt, xs, es, vs', n', oc, rest', rfl, rfl, hT1, hov, hcr1, hLT1, hS, hLN1, hG⟩
    exact .tail _ (.tail _ (.tail _ (.tail _ hLN1)))
end
end Mine
end
section
namespace Mine
section
variable {α : Type}
def upd (f : Nat → Option α) (p : Nat) (v : Option α) : Nat → Option α := fun q => if q = p then v else f q
theorem upd_at (f : Nat → Option α) (p : Nat) (v : Option α) : upd f p v p = v := by simp [upd]
theorem upd_ne {f : Nat → Option α} {p q : Nat} {v : Option α} (h : q ≠ p) : upd f p v q = f q := by simp [upd, h]
def IsProbe (g : Nat → Option α) (h t : Nat) : Prop := h ≤ t ∧ g t = none ∧ ∀ q, h ≤ q → q < t → g q ≠ none
theorem IsProbe.one {g : Nat → Option α} {h t u : Nat} (a : IsProbe g h t) (b : IsProbe g h u) : t = u := by
  rcases Nat.lt_trichotomy t u with c | c | c
  · exact absurd a.2.1 (b.2.2 t a.1 c)
  · exact c
  · exact absurd b.2.1 (a.2.2 u b.1 c)
variable (hm : α → Nat)
/-- the shift behind a hole, on a line -/
def sh : Nat → (Nat → Option α) → Nat → Nat → (Nat → Option α)
  | 0, f, _, _ => f
  | n + 1, f, hole, place => match f (place + 1) with
    | none => f
    | some y => if hm y ≤ hole then sh n (upd (upd f hole (some y)) (place + 1) none) (place + 1) (place + 1) else sh n f hole (place + 1)
theorem sh_none {n : Nat} {f : Nat → Option α} {hole place : Nat} (h : f (place + 1) = none) : sh hm (n + 1) f hole place = f := by
  unfold sh; rw [h]
theorem sh_move {n : Nat} {f : Nat → Option α} {hole place : Nat} {y : α} (h : f (place + 1) = some y) (hy : hm y ≤ hole) : sh hm (n + 1) f hole place = sh hm n (upd (upd f hole (some y)) (place + 1) none) (place + 1) (place + 1) := by
  conv => lhs; unfold sh
  rw [h]; simp [hy]
theorem sh_skip {n : Nat} {f : Nat → Option α} {hole place : Nat} {y : α} (h : f (place + 1) = some y) (hy : ¬ hm y ≤ hole) : sh hm (n + 1) f hole place = sh hm n f hole (place + 1) := by
  conv => lhs; unfold sh
  rw [h]; simp [hy]
theorem sh_id : ∀ (n : Nat) (f : Nat → Option α) (hole place : Nat), (∀ p z, place < p → f p = some z → hole < hm z) → sh hm n f hole place = f
  | 0, f, hole, place, _ => rfl
  | n + 1, f, hole, place, h => by
    cases e : f (place + 1) with
    | none => exact sh_none hm e
    | some y =>
      have := h (place + 1) y (Nat.lt_succ_self _) e
      rw [sh_skip hm e (by omega)]
      exact sh_id n f hole (place + 1) fun p z hp => h p z (by omega)
def FitH (f : Nat → Option α) (hole : Nat) : Prop := ∀ p z, f p = some z → hm z ≤ p ∧ ∀ q, hm z ≤ q → q < p → f q ≠ none ∨ q = hole
theorem sh_ins : ∀ (n : Nat) (f : Nat → Option α) (hole place s : Nat) (y : α), 0 < n → f hole = none → hole ≤ place → (∀ q, hole < q → q ≤ place → f q ≠ none) → FitH hm f hole → (∀ p, place + n ≤ p → f p = none) →
    f s = none → s ≠ hole → hm y ≤ s → (∀ q, hm y ≤ q → q < s → f q ≠ none ∨ q = hole) →
    ∃ t, IsProbe (sh hm n f hole place) (hm y) t ∧ sh hm n (upd f s (some y)) hole place = upd (sh hm n f hole place) t (some y)
  | 0, f, hole, place, s, y, h0, _, _, _, _, _, _, _, _, _ => absurd h0 (Nat.lt_irrefl 0)
  | n + 1, f, hole, place, s, y, h0, hf, hhp, hocc, fit, hbound, hs, hsh, hys, hq => by
    cases e : f (place + 1) with
    | none =>
      rw [sh_none hm e]
      by_cases c1 : s < hole
      · refine ⟨s, ⟨hys, hs, fun q h1 h2 => (hq q h1 h2).resolve_right (by omega)⟩, ?_⟩
        exact sh_none hm (by rw [upd_ne (by omega)]; exact e)
      · by_cases c2 : s = place + 1
        · subst c2
          by_cases c3 : hm y ≤ hole
          · refine ⟨hole, ⟨c3, hf, fun q h1 h2 => (hq q h1 (by omega)).resolve_right (by omega)⟩, ?_⟩
            rw [sh_move hm (upd_at _ _ _) c3]
            have e2 : upd (upd (upd f (place + 1) (some y)) hole (some y)) (place + 1) none = upd f hole (some y) := by
              funext q
              unfold upd
              by_cases q1 : q = place + 1
              · subst q1; rw [if_pos rfl, if_neg (by omega)]; exact e.symm
              · simp [q1]
            rw [e2]
            refine sh_id hm n _ _ _ fun p z hp hz => ?_
            rw [upd_ne (by omega)] at hz
            have := (fit p z hz).2
            refine Nat.lt_of_not_le fun hle => ?_
            rcases this (place + 1) hle hp with h | h
            · exact h e
            · omega
          · refine ⟨place + 1, ⟨hys, e, fun q h1 h2 => hocc q (by omega) (by omega)⟩, ?_⟩
            rw [sh_skip hm (upd_at _ _ _) c3]
            refine sh_id hm n _ _ _ fun p z hp hz => ?_
            rw [upd_ne (by omega)] at hz
            have := (fit p z hz).2
            refine Nat.lt_of_not_le fun hle => ?_
            rcases this (place + 1) (by omega) hp with h | h
            · exact h e
            · omega
        · have c4 : place + 1 < s := by
            refine Nat.lt_of_not_le fun hle => ?_
            exact hocc s (by omega) (by omega) hs
          have c5 : place + 1 < hm y := by
            refine Nat.lt_of_not_le fun hle => ?_
            rcases hq (place + 1) hle c4 with h | h
            · exact h e
            · omega
          refine ⟨s, ⟨hys, hs, fun q h1 h2 => (hq q h1 h2).resolve_right (by omega)⟩, ?_⟩
          exact sh_none hm (by rw [upd_ne (by omega)]; exact e)
    | some z =>
      have hn : 0 < n := by
        refine Nat.pos_of_ne_zero fun h => ?_
        rw [hbound (place + 1) (by omega)] at e
        cases e
      have hsp : s ≠ place + 1 := fun h => by rw [h, e] at hs; cases hs
      by_cases c : hm z ≤ hole
      · rw [sh_move hm e c, sh_move hm (by rw [upd_ne (Ne.symm hsp)]; exact e) c]
        have e2 : upd (upd (upd f s (some y)) hole (some z)) (place + 1) none = upd (upd (upd f hole (some z)) (place + 1) none) s (some y) := by
          funext q
          unfold upd
          by_cases q1 : q = s
          · subst q1; simp [hsp, hsh]
          · simp [q1]
        rw [e2]
        have occ : ∀ q, f q ≠ none ∨ q = hole → upd (upd f hole (some z)) (place + 1) none q ≠ none ∨ q = place + 1 := fun q h => by
          by_cases q1 : q = place + 1
          · exact .inr q1
          · refine .inl ?_
            rw [upd_ne q1]
            by_cases q2 : q = hole
            · rw [q2, upd_at]; simp
            · rw [upd_ne q2]; exact h.resolve_right q2
        refine sh_ins n _ (place + 1) (place + 1) s y hn (upd_at _ _ _) (Nat.le_refl _) (fun q h1 h2 => by omega) ?_ ?_ ?_ hsp hys fun q h1 h2 => occ q (hq q h1 h2)
        · intro p w hw
          have p1 : p ≠ place + 1 := fun h => by rw [h, upd_at] at hw; cases hw
          rw [upd_ne p1] at hw
          by_cases p2 : p = hole
          · rw [p2, upd_at] at hw
            cases hw
            refine ⟨by omega, fun q h1 h2 => occ q ((fit _ _ e).2 q h1 (by omega))⟩
          · rw [upd_ne p2] at hw
            exact ⟨(fit p w hw).1, fun q h1 h2 => occ q ((fit p w hw).2 q h1 h2)⟩
        · intro p hp
          rw [upd_ne (by omega), upd_ne (by omega)]
          exact hbound p (by omega)
        · rw [upd_ne hsp, upd_ne hsh]; exact hs
      · rw [sh_skip hm e c, sh_skip hm (by rw [upd_ne (Ne.symm hsp)]; exact e) c]
        refine sh_ins n f hole (place + 1) s y hn hf (by omega) (fun q h1 h2 => ?_) fit (fun p hp => hbound p (by omega)) hs hsh hys hq
        by_cases q1 : q = place + 1
        · rw [q1, e]; simp
        · exact hocc q h1 (by omega)
/-- first come, first served, on a line -/
def prb (f : Nat → Option α) : Nat → Nat → Nat
  | 0, p => p
  | n + 1, p => match f p with
    | none => p
    | some _ => prb f n (p + 1)
theorem prb_is (f : Nat → Option α) : ∀ n p, (∃ q, p ≤ q ∧ q < p + n ∧ f q = none) → IsProbe f p (prb f n p) ∧ prb f n p < p + n
  | 0, p, h => by obtain ⟨q, _, _, _⟩ := h; omega
  | n + 1, p, h => by
    unfold prb
    cases e : f p with
    | none => exact ⟨⟨Nat.le_refl _, e, fun q h1 h2 => by simp only at h2; omega⟩, by simp only; omega⟩
    | some z =>
      obtain ⟨q, h1, h2, h3⟩ := h
      have hq : q ≠ p := fun h => by rw [h, e] at h3; cases h3
      obtain ⟨⟨a, b, c⟩, d⟩ := prb_is f n (p + 1) ⟨q, by omega, by omega, h3⟩
      refine ⟨⟨by simp only; omega, b, fun r r1 r2 => ?_⟩, by simp only; omega⟩
      by_cases hr : r = p
      · rw [hr, e]; simp
      · exact c r (by omega) r2
def insF (f : Nat → Option α) (y : α) : Nat → Option α := upd f (prb f 32 (hm y)) (some y)
def tab (xs : List α) : Nat → Option α := xs.foldl (insF hm) fun _ => none
theorem tab_snoc (xs : List α) (y : α) : tab hm (xs ++ [y]) = insF hm (tab hm xs) y := by unfold tab; rw [List.foldl_append]; rfl
def Fit (f : Nat → Option α) : Prop := ∀ p z, f p = some z → hm z ≤ p ∧ ∀ q, hm z ≤ q → q < p → f q ≠ none
/-- all that a table of few things keeps -/
theorem tab_ok : ∀ (xs : List α), xs.length ≤ 16 → (∀ x ∈ xs, hm x < 4) → Fit hm (tab hm xs) ∧ (∀ p, xs.length + 4 ≤ p → tab hm xs p = none) ∧ (∀ p z, tab hm xs p = some z → z ∈ xs) := by
  intro xs
  rw [← List.reverse_reverse xs]
  generalize xs.reverse = ys
  induction ys with
  | nil => intro _ _; exact ⟨fun p z h => by simp [tab] at h, fun p h => by simp [tab], fun p z h => by simp [tab] at h⟩
  | cons y ys ih =>
    intro hl hh
    rw [List.reverse_cons] at hl hh ⊢
    rw [List.length_append, List.length_singleton] at hl
    obtain ⟨i1, i2, i3⟩ := ih (by omega) fun x hx => hh x (List.mem_append_left _ hx)
    have hy := hh y (by simp)
    obtain ⟨⟨a, b, c⟩, d⟩ := prb_is (tab hm ys.reverse) 32 (hm y) ⟨ys.reverse.length + 4, by omega, by omega, i2 _ (Nat.le_refl _)⟩
    rw [tab_snoc]
    have hb : prb (tab hm ys.reverse) 32 (hm y) ≤ ys.reverse.length + 4 := by
      refine Nat.le_of_not_lt fun h => ?_
      exact c (ys.reverse.length + 4) (by omega) h (i2 _ (Nat.le_refl _))
    have mono : ∀ q, tab hm ys.reverse q ≠ none → insF hm (tab hm ys.reverse) y q ≠ none := fun q h => by
      unfold insF
      by_cases q1 : q = prb (tab hm ys.reverse) 32 (hm y)
      · rw [q1, upd_at]; simp
      · rw [upd_ne q1]; exact h
    refine ⟨fun p z hz => ?_, fun p hp => ?_, fun p z hz => ?_⟩
    · by_cases p1 : p = prb (tab hm ys.reverse) 32 (hm y)
      · unfold insF at hz
        rw [p1, upd_at] at hz
        cases hz
        exact ⟨by omega, fun q h1 h2 => mono q (c q h1 (by omega))⟩
      · unfold insF at hz
        rw [upd_ne p1] at hz
        exact ⟨(i1 p z hz).1, fun q h1 h2 => mono q ((i1 p z hz).2 q h1 h2)⟩
    · rw [List.length_append, List.length_singleton] at hp
      unfold insF
      rw [upd_ne (by omega)]
      exact i2 p (by omega)
    · unfold insF at hz
      by_cases p1 : p = prb (tab hm ys.reverse) 32 (hm y)
      · rw [p1, upd_at] at hz; cases hz; simp
      · rw [upd_ne p1] at hz; exact List.mem_append_left _ (i3 p z hz)
end
end Mine
end
section
namespace Mine
section
variable {α : Type} (hm : α → Nat)
theorem tab_free (xs : List α) (hl : xs.length ≤ 16) (hh : ∀ x ∈ xs, hm x < 4) (y : α) (hy : hm y < 4) : IsProbe (tab hm xs) (hm y) (prb (tab hm xs) 32 (hm y)) ∧ prb (tab hm xs) 32 (hm y) ≤ xs.length + 4 := by
  obtain ⟨i1, i2, i3⟩ := tab_ok hm xs hl hh
  obtain ⟨p, d⟩ := prb_is (tab hm xs) 32 (hm y) ⟨xs.length + 4, by omega, by omega, i2 _ (Nat.le_refl _)⟩
  exact ⟨p, Nat.le_of_not_lt fun h => p.2.2 (xs.length + 4) (by omega) h (i2 _ (Nat.le_refl _))⟩
theorem tab_take (l1 : List α) (x : α) (h1 : x ∉ l1) (hx : hm x < 4) (hh1 : ∀ z ∈ l1, hm z < 4) : ∀ (l2 : List α), x ∉ l2 → (∀ z ∈ l2, hm z < 4) → l1.length + l2.length ≤ 14 →
    ∃ h, tab hm (l1 ++ x :: l2) h = some x ∧ (∀ q, tab hm (l1 ++ x :: l2) q = some x → q = h) ∧ sh hm 32 (upd (tab hm (l1 ++ x :: l2)) h none) h h = tab hm (l1 ++ l2) := by
  intro l2
  rw [← List.reverse_reverse l2]
  generalize l2.reverse = ys
  induction ys with
  | nil =>
    intro _ _ hl
    have hl1 : l1.length ≤ 14 := by simpa using hl
    obtain ⟨i1, i2, i3⟩ := tab_ok hm l1 (by omega) hh1
    obtain ⟨⟨a, b, c⟩, d⟩ := tab_free hm l1 (by omega) hh1 x hx
    refine ⟨prb (tab hm l1) 32 (hm x), ?_, fun q hq => ?_, ?_⟩
    · show tab hm (l1 ++ [x]) _ = _
      rw [tab_snoc]; exact upd_at _ _ _
    · have hq : tab hm (l1 ++ [x]) q = some x := hq
      rw [tab_snoc] at hq
      refine Classical.byContradiction fun h => ?_
      unfold insF at hq
      rw [upd_ne h] at hq
      exact h1 (i3 q x hq)
    · show sh hm 32 (upd (tab hm (l1 ++ [x])) _ none) _ _ = tab hm (l1 ++ [])
      rw [tab_snoc, List.append_nil]
      have e : upd (insF hm (tab hm l1) x) (prb (tab hm l1) 32 (hm x)) none = tab hm l1 := by
        funext q
        unfold insF upd
        by_cases q1 : q = prb (tab hm l1) 32 (hm x)
        · rw [if_pos q1, q1, b]
        · simp [q1]
      rw [e]
      refine sh_id hm 32 _ _ _ fun p z hp hz => ?_
      refine Nat.lt_of_not_le fun hle => ?_
      exact (i1 p z hz).2 _ hle hp b
  | cons y ys ih =>
    intro h2 hh2 hl
    rw [List.reverse_cons] at h2 hh2 hl ⊢
    rw [List.length_append, List.length_singleton] at hl
    obtain ⟨h, ha, hu, hs⟩ := ih (fun hc => h2 (List.mem_append_left _ hc)) (fun z hz => hh2 z (List.mem_append_left _ hz)) (by omega)
    have hy := hh2 y (by simp)
    have hyx : y ≠ x := fun e => h2 (by rw [e]; simp)
    have hhA : ∀ z ∈ l1 ++ x :: ys.reverse, hm z < 4 := fun z hz => by
      rcases List.mem_append.mp hz with hz | hz
      · exact hh1 z hz
      · rcases List.mem_cons.mp hz with rfl | hz
        · exact hx
        · exact hh2 z (List.mem_append_left _ hz)
    have hlA : (l1 ++ x :: ys.reverse).length ≤ 15 := by rw [List.length_append, List.length_cons]; omega
    obtain ⟨i1, i2, i3⟩ := tab_ok hm _ (Nat.le_succ_of_le hlA) hhA
    obtain ⟨⟨a, b, c⟩, d⟩ := tab_free hm _ (Nat.le_succ_of_le hlA) hhA y hy
    have hhB : ∀ z ∈ l1 ++ ys.reverse, hm z < 4 := fun z hz => by
      rcases List.mem_append.mp hz with hz | hz
      · exact hh1 z hz
      · exact hh2 z (List.mem_append_left _ hz)
    obtain ⟨pB, _⟩ := tab_free hm (l1 ++ ys.reverse) (by rw [List.length_append]; omega) hhB y hy
    have e1 : l1 ++ x :: (ys.reverse ++ [y]) = (l1 ++ x :: ys.reverse) ++ [y] := by simp
    have e2 : l1 ++ (ys.reverse ++ [y]) = (l1 ++ ys.reverse) ++ [y] := by simp
    rw [e1, e2, tab_snoc, tab_snoc, show insF hm (tab hm (l1 ++ x :: ys.reverse)) y = upd (tab hm (l1 ++ x :: ys.reverse)) (prb (tab hm (l1 ++ x :: ys.reverse)) 32 (hm y)) (some y) from rfl]
    generalize tab hm (l1 ++ x :: ys.reverse) = F at *
    generalize prb F 32 (hm y) = s at *
    have hsh : s ≠ h := fun e => by rw [e, ha] at b; cases b
    have hnh : ∀ q, F q ≠ none → upd F h none q ≠ none ∨ q = h := fun q hq => by
      by_cases q1 : q = h
      · exact .inr q1
      · rw [upd_ne q1]; exact .inl hq
    refine ⟨h, ?_, fun q hq => ?_, ?_⟩
    · rw [upd_ne (Ne.symm hsh)]; exact ha
    · refine hu q ?_
      by_cases q1 : q = s
      · rw [q1, upd_at] at hq; cases hq; exact absurd rfl hyx
      · rw [upd_ne q1] at hq; exact hq
    · have hfit : FitH hm (upd F h none) h := fun p z hz => by
        have p1 : p ≠ h := fun e => by rw [e, upd_at] at hz; cases hz
        rw [upd_ne p1] at hz
        exact ⟨(i1 p z hz).1, fun q q1 q2 => hnh q ((i1 p z hz).2 q q1 q2)⟩
      obtain ⟨t, ht, he⟩ := sh_ins hm 32 (upd F h none) h h s y (by decide) (upd_at _ _ _) (Nat.le_refl _) (fun q q1 q2 => by omega) hfit (fun p hp => by
          rw [upd_ne (by omega)]
          exact i2 p (by omega)) (by rw [upd_ne hsh]; exact b) hsh a fun q q1 q2 => hnh q (c q q1 q2)
      rw [hs] at ht he
      have e3 : upd (upd F s (some y)) h none = upd (upd F h none) s (some y) := by
        funext q
        unfold upd
        by_cases q1 : q = s
        · subst q1; simp [hsh]
        · simp [q1]
      rw [e3, he, ht.one pB]
      rfl
end
end Mine
end
section
open PySem PySem.W PyProof.Rows PySem.Calls
set_option Elab.async false
set_option maxRecDepth 100000
set_option linter.unusedVariables false
namespace Mine
def pl (b r : Nat) : Nat := (b + r) % 32
def rh (b : Nat) (x : Str) : Nat := (x.cps.getD 0 0 % 32 + (32 - b % 32)) % 32
theorem pl_lt (b r : Nat) : pl b r < 32 := Nat.mod_lt _ (by decide)
theorem pl_succ (b r : Nat) : (pl b r + 1) % 32 = pl b (r + 1) := by unfold pl; omega
theorem pl_inj {b r s : Nat} (hr : r < 32) (hs : s < 32) (h : pl b r = pl b s) : r = s := by unfold pl at h; omega
theorem pl_rh (b : Nat) (x : Str) : pl b (rh b x) = x.cps.getD 0 0 % 32 := by unfold pl rh; omega
theorem pl_onto (b p : Nat) (hp : p < 32) : ∃ r, r < 32 ∧ pl b r = p := ⟨(p + (32 - b % 32)) % 32, Nat.mod_lt _ (by decide), by unfold pl; omega⟩
theorem look_app (es : List (Nat × Str)) (P p : Nat) (x : Str) : look (es ++ [(P, x)]) p = (look es p).or (if P = p then some x else none) := by
  unfold look
  rw [List.find?_append, List.find?_cons, List.find?_nil]
  cases h : es.find? (fun e => e.1 == p) with
  | some e => simp
  | none =>
    by_cases c : P = p
    · simp [c]
    · have : (P == p) = false := by simpa using c
      simp [c, this]
theorem look_fil (es : List (Nat × Str)) (h p : Nat) : look (es.filter fun e => e.1 != h) p = if p = h then none else look es p := by
  induction es with
  | nil => unfold look; simp
  | cons e es ih =>
    by_cases c : e.1 = h
    · rw [List.filter_cons_of_neg (by simp [c]), ih]
      by_cases c2 : p = h
      · simp [c2]
      · have : (e.1 == p) = false := by simp [c]; exact fun q => c2 q.symm
        simp only [c2, if_false]
        unfold look
        rw [List.find?_cons, this]
    · rw [List.filter_cons_of_pos (by simpa using c)]
      by_cases c2 : e.1 = p
      · have : (e.1 == p) = true := by simpa using c2
        have c3 : ¬ p = h := fun q => c (c2.trans q)
        simp only [c3, if_false]
        unfold look
        rw [List.find?_cons, List.find?_cons, this]
      · have : (e.1 == p) = false := by simpa using c2
        have l1 : look (e :: es.filter fun e => e.1 != h) p = look (es.filter fun e => e.1 != h) p := by unfold look; rw [List.find?_cons, this]
        have l2 : look (e :: es) p = look es p := by unfold look; rw [List.find?_cons, this]
        rw [l1, l2, ih]
theorem look_no {es : List (Nat × Str)} {p : Nat} (h : look es p = none) : p ∉ es.map (·.1) := fun hm => by
  obtain ⟨e, he, rfl⟩ := List.mem_map.mp hm
  unfold look at h
  have := List.find?_eq_none.mp (Option.map_eq_none_iff.mp h) e he
  simp at this
theorem look_of {es : List (Nat × Str)} (nd : (es.map (·.1)).Nodup) {e : Nat × Str} (he : e ∈ es) : look es e.1 = some e.2 := by
  induction es with
  | nil => simp at he
  | cons d es ih =>
    rw [List.map_cons, List.nodup_cons] at nd
    rcases List.mem_cons.mp he with rfl | he
    · unfold look; simp
    · have : (d.1 == e.1) = false := by
        simp only [beq_eq_false_iff_ne, ne_eq]
        exact fun q => nd.1 (q ▸ List.mem_map_of_mem he)
      have l2 : look (d :: es) e.1 = look es e.1 := by unfold look; rw [List.find?_cons, this]
      rw [l2]; exact ih nd.2 he
theorem nd_fil {es : List (Nat × Str)} (nd : (es.map (·.1)).Nodup) (P : Nat × Str → Bool) : ((es.filter P).map (·.1)).Nodup := nd.sublist (List.filter_sublist.map _)
theorem nd_app {es : List (Nat × Str)} (nd : (es.map (·.1)).Nodup) {p : Nat} {x : Str} (h : look es p = none) : ((es ++ [(p, x)]).map (·.1)).Nodup := by
  rw [List.map_append, List.nodup_append]
  refine ⟨nd, by simp, fun a ha c hc => ?_⟩
  have hc' : c = p := by simpa using hc
  rw [hc']
  exact fun e => look_no h (e ▸ ha)
section
variable {b : Nat} {x : Str}
theorem bring_eq {es : List (Nat × Str)} {f : Nat → Option Str} (hc : ∀ r, r < 32 → look es (pl b r) = f r) (hx : ∀ q, f q ≠ some x) : ∀ n r t, IsProbe f r t → t < r + n → t < 32 → bringP es x n (pl b r) = es ++ [(pl b t, x)]
  | 0, r, t, hp, h1, h2 => by have := hp.1; omega
  | n + 1, r, t, hp, h1, h2 => by
    have hrt := hp.1
    unfold bringP
    rw [hc r (by omega)]
    cases e : f r with
    | none =>
      have : r = t := (Nat.eq_or_lt_of_le hrt).resolve_right fun h => hp.2.2 r (Nat.le_refl _) h e
      rw [this]
    | some y =>
      have hy : y ≠ x := fun q => hx r (by rw [e, q])
      have hne : r ≠ t := fun q => by rw [q, hp.2.1] at e; cases e
      simp only [hy, if_false]
      rw [pl_succ]
      exact bring_eq hc hx n (r + 1) t ⟨by omega, hp.2.1, fun q a c => hp.2.2 q (by omega) c⟩ (by omega) h2
theorem find_eq {es : List (Nat × Str)} {f : Nat → Option Str} (hc : ∀ r, r < 32 → look es (pl b r) = f r) {t : Nat} (ht : f t = some x) (hu : ∀ q, f q = some x → q = t) (h32 : t < 32) : ∀ n r, r ≤ t → t < r + n → findP es x n (pl b r) = pl b t
  | 0, r, h1, h2 => by omega
  | n + 1, r, h1, h2 => by
    unfold findP
    rw [hc r (by omega)]
    by_cases c : f r = some x
    · rw [if_pos c, hu r c]
    · rw [if_neg c, pl_succ]
      have : r ≠ t := fun q => c (q ▸ ht)
      exact find_eq hc ht hu h32 n (r + 1) (by omega) (by omega)
theorem probe_eq {rs : List Str} {f : Nat → Option Str} (hc : ∀ r, r < 32 → rs.getD (pl b r) Str.empty = (f r).getD Str.empty) (hx : ∀ q z, f q = some z → z ≠ Str.empty) : ∀ n r t, IsProbe f r t → t < r + n → t < 32 → probeP rs n (pl b r) = pl b t
  | 0, r, t, hp, h1, h2 => by have := hp.1; omega
  | n + 1, r, t, hp, h1, h2 => by
    have hrt := hp.1
    unfold probeP
    rw [hc r (by omega)]
    cases e : f r with
    | none =>
      have : r = t := (Nat.eq_or_lt_of_le hrt).resolve_right fun h => hp.2.2 r (Nat.le_refl _) h e
      rw [this]; simp
    | some y =>
      have hy := hx r y e
      have hne : r ≠ t := fun q => by rw [q, hp.2.1] at e; cases e
      simp only [Option.getD_some, hy, if_false]
      rw [pl_succ]
      exact probe_eq hc hx n (r + 1) t ⟨by omega, hp.2.1, fun q a c => hp.2.2 q (by omega) c⟩ (by omega) h2
theorem shift_eq : ∀ (n : Nat) (es : List (Nat × Str)) (f : Nat → Option Str) (hole place : Nat), (∀ r, r < 32 → look es (pl b r) = f r) → hole ≤ place → place ≤ 20 → (∀ p, 20 ≤ p → f p = none) → (∀ p z, f p = some z → rh b z ≤ p) → (es.map (·.1)).Nodup → (∀ e ∈ es, e.1 < 32) → f hole = none →
    (∀ r, r < 32 → look (shiftP n es (pl b hole) (pl b place)) (pl b r) = sh (rh b) n f hole place r) ∧ ((shiftP n es (pl b hole) (pl b place)).map (·.1)).Nodup ∧ (∀ e ∈ shiftP n es (pl b hole) (pl b place), e.1 < 32) ∧ (shiftP n es (pl b hole) (pl b place)).length ≤ es.length
  | 0, es, f, hole, place, hc, _, _, _, _, nd, hl, _ => ⟨hc, nd, hl, Nat.le_refl _⟩
  | n + 1, es, f, hole, place, hc, hhp, hp20, hb, hlow, nd, hl, hfh => by
    have hce := hc (place + 1) (by omega)
    unfold shiftP
    rw [pl_succ, hce]
    cases e : f (place + 1) with
    | none => simp only [sh_none (rh b) e]; exact ⟨hc, nd, hl, Nat.le_refl _⟩
    | some y =>
      have hpl : place + 1 < 20 := Nat.lt_of_not_le fun h => by rw [hb _ h] at e; cases e
      have hly := hlow _ _ e
      have hcond : ((((pl b (place + 1) : Nat) : Int) - ((y.cps.getD 0 0 % 32 : Nat) : Int)) % 32 ≥ (((pl b (place + 1) : Nat) : Int) - ((pl b hole : Nat) : Int)) % 32) ↔ rh b y ≤ hole := by
        rw [← pl_rh b y]
        generalize rh b y = u at hly
        unfold pl
        omega
      simp only [hcond]
      by_cases c : rh b y ≤ hole
      · simp only [c, if_true]
        rw [sh_move (rh b) e c]
        have hlen := len_step (es := es) (a := pl b hole) (x := y) (y := y) (hce.trans e)
        have hlook : ∀ r, r < 32 → look (((es.filter fun e => e.1 != pl b hole) ++ [(pl b hole, y)]).filter fun e => e.1 != pl b (place + 1)) (pl b r) = upd (upd f hole (some y)) (place + 1) none r := fun r hr => by
          rw [look_fil, look_app, look_fil, hc r hr]
          unfold upd
          by_cases r1 : r = place + 1
          · simp [r1]
          · have r1' : ¬ pl b r = pl b (place + 1) := fun q => r1 (pl_inj hr (by omega) q)
            by_cases r2 : r = hole
            · rw [r2] at r1 r1' ⊢
              simp [r1, r1']
            · have r2' : ¬ pl b r = pl b hole := fun q => r2 (pl_inj hr (by omega) q)
              have r3' : ¬ pl b hole = pl b r := fun q => r2' q.symm
              simp [r1, r1', r2, r2', r3']
        obtain ⟨k1, k2, k3, k4⟩ := shift_eq n _ (upd (upd f hole (some y)) (place + 1) none) (place + 1) (place + 1) hlook (Nat.le_refl _) (by omega) (fun p hp => by rw [upd_ne (by omega), upd_ne (by omega)]; exact hb p hp)
          (fun p z hz => by
            have p1 : p ≠ place + 1 := fun q => by rw [q, upd_at] at hz; cases hz
            rw [upd_ne p1] at hz
            by_cases p2 : p = hole
            · rw [p2, upd_at] at hz; cases hz; omega
            · rw [upd_ne p2] at hz; exact hlow p z hz)
          (nd_fil (nd_app (nd_fil nd _) (by rw [look_fil]; simp)) _) (fun e he => by
            have he := (List.mem_filter.mp he).1
            rcases List.mem_append.mp he with he | he
            · exact hl e (List.mem_filter.mp he).1
            · have : e = (pl b hole, y) := by simpa using he
              rw [this]; exact pl_lt _ _) (upd_at _ _ _)
        exact ⟨k1, k2, k3, Nat.le_trans k4 hlen⟩
      · simp only [c, if_false]
        rw [sh_skip (rh b) e c]
        exact shift_eq n es f hole (place + 1) hc (by omega) (by omega) hb hlow nd hl hfh
end
end Mine
end
section
open PySem PySem.W PyProof.Rows PySem.Calls
set_option Elab.async false
set_option maxRecDepth 100000
set_option linter.unusedVariables false
namespace Mine
def digS (i : Nat) : Array Nat := (Str.ofString (toString ((i : Nat) : Int))).cps
theorem dig_ok : ∀ i : Fin 14, 0 < (digS i.val).size ∧ (digS i.val).size < 3 ∧ ∀ p, p < (digS i.val).size → 48 ≤ (digS i.val).getD p 0 ∧ (digS i.val).getD p 0 ≤ 57 := by decide +kernel
theorem dig_inj : ∀ i j : Fin 14, digS i.val = digS j.val → i = j := by decide +kernel
theorem colN_32 : ∀ p : Fin 3, colN p.val % 32 = 0 ∧ 32 ≤ colN p.val ∧ (colN p.val = 32 ∨ colN p.val = 64 ∨ colN p.val = 160) := by decide
theorem thing_cps (b k i : Nat) : (thingP b k i).cps = #[colN (k / 3 % 3) + (b + k / 3 / 3 % 4) % 32] ++ digS i := rfl
theorem getD_app (c : Nat) (s : Array Nat) (p : Nat) : (#[c] ++ s).getD p 0 = if p = 0 then c else s.getD (p - 1) 0 := by
  rw [Array.getD_eq_getD_getElem?, Array.getD_eq_getD_getElem?, Array.getElem?_append]
  by_cases h : p = 0
  · subst h; simp
  · simp [h, show ¬ p < 1 by omega]
theorem thing_rh (b k i : Nat) : rh b (thingP b k i) = k / 3 / 3 % 4 := by
  obtain ⟨h, _⟩ := colN_32 ⟨k / 3 % 3, Nat.mod_lt _ (by decide)⟩
  simp only at h
  unfold rh
  rw [thing_cps, getD_app]
  simp only [if_true]
  omega
theorem thing_ok (b k i : Nat) (hi : i < 14) : okX (thingP b k i) := by
  obtain ⟨_, _, hc⟩ := colN_32 ⟨k / 3 % 3, Nat.mod_lt _ (by decide)⟩
  simp only at hc
  obtain ⟨d1, d2, d3⟩ := dig_ok ⟨i, hi⟩
  simp only at d1 d2 d3
  have hsz : (thingP b k i).cps.size = 1 + (digS i).size := by rw [thing_cps, Array.size_append]; rfl
  refine ⟨⟨by omega, by omega⟩, fun p hp => ?_⟩
  rw [thing_cps, getD_app]
  by_cases h : p = 0
  · simp only [h, if_true]
    have := Nat.mod_lt (b + k / 3 / 3 % 4) (show 0 < 32 by decide)
    omega
  · simp only [h, if_false]
    have := d3 (p - 1) (by omega)
    omega
theorem thing_inj {b k i k' j : Nat} (hi : i < 14) (hj : j < 14) (h : thingP b k i = thingP b k' j) : i = j := by
  have h1 := congrArg Str.cps h
  rw [thing_cps, thing_cps] at h1
  have h2 := congrArg Array.toList h1
  simp only [Array.toList_append, List.cons_append, List.nil_append, List.cons.injEq] at h2
  have h3 : digS i = digS j := Array.toList_inj.mp h2.2
  have := dig_inj ⟨i, hi⟩ ⟨j, hj⟩ h3
  exact congrArg Fin.val this
theorem sorted_ext : ∀ (l1 l2 : List (Nat × Str)), l1.Pairwise (fun a b => a.1 < b.1) → l2.Pairwise (fun a b => a.1 < b.1) → (∀ e, e ∈ l1 ↔ e ∈ l2) → l1 = l2
  | [], [], _, _, _ => rfl
  | [], e :: l2, _, _, h => by have := (h e).mpr (.head _); simp at this
  | e :: l1, [], _, _, h => by have := (h e).mp (.head _); simp at this
  | e :: l1, d :: l2, p1, p2, h => by
    rw [List.pairwise_cons] at p1 p2
    have hed : e = d := by
      rcases List.mem_cons.mp ((h e).mp (.head _)) with q | q
      · exact q
      · rcases List.mem_cons.mp ((h d).mpr (.head _)) with q2 | q2
        · exact q2.symm
        · have a := p2.1 e q
          have c := p1.1 d q2
          omega
    subst hed
    refine congrArg _ (sorted_ext l1 l2 p1.2 p2.2 fun x => ⟨fun hx => ?_, fun hx => ?_⟩)
    · refine (List.mem_cons.mp ((h x).mp (.tail _ hx))).resolve_left fun q => ?_
      have := p1.1 x hx
      rw [q] at this; omega
    · refine (List.mem_cons.mp ((h x).mpr (.tail _ hx))).resolve_left fun q => ?_
      have := p2.1 x hx
      rw [q] at this; omega
theorem ring_mem (rs : List Str) (e : Nat × Str) : e ∈ ringEnts rs ↔ e.1 < 32 ∧ rs.getD e.1 Str.empty ≠ Str.empty ∧ e.2 = rs.getD e.1 Str.empty := by
  unfold ringEnts
  rw [List.mem_map]
  constructor
  · rintro ⟨p, hp, rfl⟩
    rw [List.mem_filter, List.mem_range] at hp
    exact ⟨hp.1, by simpa using hp.2, rfl⟩
  · rintro ⟨h1, h2, h3⟩
    exact ⟨e.1, List.mem_filter.mpr ⟨List.mem_range.mpr h1, by simpa using h2⟩, Prod.ext rfl h3.symm⟩
theorem ring_sorted (rs : List Str) : (ringEnts rs).Pairwise (fun a b => a.1 < b.1) := by
  unfold ringEnts
  rw [List.pairwise_map]
  exact List.Pairwise.filter _ List.pairwise_lt_range
theorem okX_ne {x : Str} (h : okX x) : x ≠ Str.empty := fun e => by
  have := h.1.1
  rw [e] at this
  exact absurd this (by decide)
theorem ring_corr (b : Nat) : ∀ xs : List Str, xs.length ≤ 14 → (∀ x ∈ xs, rh b x < 4) → (∀ x ∈ xs, x ≠ Str.empty) → ∀ r, r < 32 → (ringP xs).getD (pl b r) Str.empty = (tab (rh b) xs r).getD Str.empty := by
  intro xs
  rw [← List.reverse_reverse xs]
  generalize xs.reverse = ys
  induction ys with
  | nil =>
    intro _ _ _ r hr
    show (List.replicate 32 Str.empty).getD (pl b r) Str.empty = Str.empty
    rw [List.getD_eq_getElem?_getD, List.getElem?_replicate]
    split <;> rfl
  | cons y ys ih =>
    intro hl hn he r hr
    rw [List.reverse_cons] at hl hn he ⊢
    rw [List.length_append, List.length_singleton] at hl
    have hn' : ∀ x ∈ ys.reverse, rh b x < 4 := fun x hx => hn x (List.mem_append_left _ hx)
    have he' : ∀ x ∈ ys.reverse, x ≠ Str.empty := fun x hx => he x (List.mem_append_left _ hx)
    have hc := ih (by omega) hn' he'
    obtain ⟨_, _, i3⟩ := tab_ok (rh b) ys.reverse (by omega) hn'
    obtain ⟨hp, hb⟩ := tab_free (rh b) ys.reverse (by omega) hn' y (hn y (by simp))
    have e1 : ringP (ys.reverse ++ [y]) = putP (ringP ys.reverse) y := by unfold ringP; rw [List.foldl_append]; rfl
    rw [e1, tab_snoc]
    unfold putP insF
    have hny := hn y (by simp)
    rw [← pl_rh b y, probe_eq hc (fun q z hz => he' z (i3 q z hz)) 32 (rh b y) _ hp (by omega) (by omega)]
    rw [List.getD_eq_getElem?_getD, List.getElem?_set]
    by_cases c : r = prb (tab (rh b) ys.reverse) 32 (rh b y)
    · rw [← c, upd_at]
      have := pl_lt b r
      rw [ringP_len]
      simp [this]
    · rw [upd_ne c, ← hc r hr, List.getD_eq_getElem?_getD]
      have : ¬ pl b (prb (tab (rh b) ys.reverse) 32 (rh b y)) = pl b r := fun q => c (pl_inj hr (by omega) q.symm)
      simp [this]
structure GoodP (b i : Nat) (es : List (Nat × Str)) (xs : List Str) : Prop where
  le : es.length ≤ i
  li : xs.length ≤ i
  i14 : i ≤ 14
  nd : xs.Nodup
  near : ∀ x ∈ xs, rh b x < 4
  okx : ∀ x ∈ xs, okX x
  form : ∀ x ∈ xs, ∃ k j, j < i ∧ x = thingP b k j
  nde : (es.map (·.1)).Nodup
  lt : ∀ e ∈ es, e.1 < 32
  corr : ∀ r, r < 32 → look es (pl b r) = tab (rh b) xs r
theorem good_start (b : Nat) : GoodP b 0 [] [] := ⟨by simp, by simp, by decide, .nil, by simp, by simp, by simp, by simp, by simp, fun r hr => rfl⟩
theorem good_same {b i : Nat} {es : List (Nat × Str)} {xs : List Str} (G : GoodP b i es xs) (es' : List (Nat × Str)) (hp : es'.Perm es) (hs : es'.Pairwise fun a b => a.1 < b.1) : es' = ringEnts (ringP xs) := by
  have hl := G.li
  have h14 := G.i14
  have hc := ring_corr b xs (by omega) G.near fun x hx => okX_ne (G.okx x hx)
  obtain ⟨_, _, i3⟩ := tab_ok (rh b) xs (by omega) G.near
  refine sorted_ext _ _ hs (ring_sorted _) fun e => ?_
  rw [hp.mem_iff, ring_mem]
  constructor
  · intro he
    have h1 := G.lt e he
    obtain ⟨r, hr, e1⟩ := pl_onto b e.1 h1
    have h2 := look_of G.nde he
    rw [← e1, G.corr r hr] at h2
    have h3 := hc r hr
    rw [h2, e1] at h3
    refine ⟨h1, ?_, ?_⟩
    · rw [h3]; exact okX_ne (G.okx _ (i3 r _ h2))
    · rw [h3]; rfl
  · rintro ⟨h1, h2, h3⟩
    obtain ⟨r, hr, e1⟩ := pl_onto b e.1 h1
    have h4 := hc r hr
    rw [e1] at h4
    cases e2 : tab (rh b) xs r with
    | none => rw [e2] at h4; exact absurd h4 h2
    | some z =>
      rw [e2] at h4
      have h5 := G.corr r hr
      rw [e1, e2] at h5
      have h6 := look_mem h5
      have : e = (e.1, z) := Prod.ext rfl (h3.trans h4)
      rw [this]; exact h6
theorem good_bring {b i : Nat} {es : List (Nat × Str)} {xs : List Str} {k : Nat} (G : GoodP b i es xs) (hi : i < 14) : GoodP b (i + 1) (bringP es (thingP b k i) 32 ((colN (k / 3 % 3) + (b + k / 3 / 3 % 4) % 32) % 32)) (xs ++ [thingP b k i]) := by
  have hl := G.li
  have hnx : thingP b k i ∉ xs := fun h => by
    obtain ⟨k', j, hj, e⟩ := G.form _ h
    have := thing_inj hi (by omega) e
    omega
  have hny : rh b (thingP b k i) < 4 := by rw [thing_rh]; exact Nat.mod_lt _ (by decide)
  obtain ⟨_, _, i3⟩ := tab_ok (rh b) xs (by omega) G.near
  obtain ⟨hp, hb⟩ := tab_free (rh b) xs (by omega) G.near (thingP b k i) hny
  have hpl : (colN (k / 3 % 3) + (b + k / 3 / 3 % 4) % 32) % 32 = pl b (rh b (thingP b k i)) := by
    rw [pl_rh, thing_cps, getD_app]; simp
  have e : bringP es (thingP b k i) 32 ((colN (k / 3 % 3) + (b + k / 3 / 3 % 4) % 32) % 32) = es ++ [(pl b (prb (tab (rh b) xs) 32 (rh b (thingP b k i))), thingP b k i)] := by
    rw [hpl]
    exact bring_eq G.corr (fun q h => hnx (i3 q _ h)) 32 _ _ hp (by omega) (by omega)
  have hlk : look es (pl b (prb (tab (rh b) xs) 32 (rh b (thingP b k i)))) = none := by rw [G.corr _ (by omega)]; exact hp.2.1
  rw [e]
  have hmem : ∀ (P : Str → Prop), P (thingP b k i) → (∀ x ∈ xs, P x) → ∀ x ∈ xs ++ [thingP b k i], P x := fun P h1 h2 x hx => by
    rcases List.mem_append.mp hx with hx | hx
    · exact h2 x hx
    · have : x = thingP b k i := by simpa using hx
      rw [this]; exact h1
  refine ⟨?_, ?_, by omega, ?_, hmem _ hny G.near, hmem _ (thing_ok b k i hi) G.okx, hmem _ ⟨k, i, by omega, rfl⟩ fun x hx => ?_, nd_app G.nde hlk, fun d hd => ?_, fun r hr => ?_⟩
  · rw [List.length_append, List.length_singleton]; have := G.le; omega
  · rw [List.length_append, List.length_singleton]; omega
  · rw [List.nodup_append]
    refine ⟨G.nd, by simp, fun a ha c hc => ?_⟩
    have : c = thingP b k i := by simpa using hc
    rw [this]; exact fun q => hnx (q ▸ ha)
  · obtain ⟨k', j, hj, e⟩ := G.form x hx
    exact ⟨k', j, by omega, e⟩
  · rcases List.mem_append.mp hd with hd | hd
    · exact G.lt d hd
    · have : d = (pl b (prb (tab (rh b) xs) 32 (rh b (thingP b k i))), thingP b k i) := by simpa using hd
      rw [this]; exact pl_lt _ _
  · rw [look_app, G.corr r hr, tab_snoc]
    unfold insF
    by_cases c : r = prb (tab (rh b) xs) 32 (rh b (thingP b k i))
    · rw [← c, upd_at]
      have : tab (rh b) xs r = none := by rw [c]; exact hp.2.1
      rw [this]; simp
    · rw [upd_ne c]
      have : ¬ pl b (prb (tab (rh b) xs) 32 (rh b (thingP b k i))) = pl b r := fun q => c (pl_inj hr (by omega) q.symm)
      simp [this]
theorem good_take {b i : Nat} {es : List (Nat × Str)} {xs : List Str} {x : Str} (G : GoodP b i es xs) (hi : i < 14) (hx : x ∈ xs) : GoodP b (i + 1) (takeP es x) (xs.filter fun y => y != x) := by
  have hl := G.li
  obtain ⟨l1, l2, rfl⟩ := List.append_of_mem hx
  have hnd := G.nd
  rw [List.nodup_append, List.nodup_cons] at hnd
  obtain ⟨_, ⟨n2, _⟩, n3⟩ := hnd
  have n1 : x ∉ l1 := fun h => n3 x h x (.head _) rfl
  rw [List.length_append, List.length_cons] at hl
  have hm1 : ∀ z ∈ l1, rh b z < 4 := fun z hz => G.near z (List.mem_append_left _ hz)
  have hm2 : ∀ z ∈ l2, rh b z < 4 := fun z hz => G.near z (List.mem_append_right _ (.tail _ hz))
  obtain ⟨h, ha, hu, hs⟩ := tab_take (rh b) l1 x n1 (G.near x hx) hm1 l2 n2 hm2 (by omega)
  obtain ⟨i1, i2, i3⟩ := tab_ok (rh b) (l1 ++ x :: l2) (by rw [List.length_append, List.length_cons]; omega) G.near
  have hlow := (i1 h x ha).1
  have h20 : h < 19 := Nat.lt_of_not_le fun hle => by
    rw [i2 h (by rw [List.length_append, List.length_cons]; omega)] at ha; cases ha
  have hff : (l1 ++ x :: l2).filter (fun y => y != x) = l1 ++ l2 := by
    rw [List.filter_append, List.filter_cons_of_neg (by simp)]
    rw [List.filter_eq_self.mpr fun z hz => by simpa using fun q : z = x => n1 (q ▸ hz), List.filter_eq_self.mpr fun z hz => by simpa using fun q : z = x => n2 (q ▸ hz)]
  rw [hff]
  have hfind : findP es x 32 (x.cps.getD 0 0 % 32) = pl b h := by
    rw [← pl_rh b x]
    exact find_eq G.corr ha hu (by omega) 32 _ hlow (by omega)
  have e : takeP es x = shiftP 32 (es.filter fun e => e.1 != pl b h) (pl b h) (pl b h) := by unfold takeP; rw [hfind]
  rw [e]
  have hlook : ∀ r, r < 32 → look (es.filter fun e => e.1 != pl b h) (pl b r) = upd (tab (rh b) (l1 ++ x :: l2)) h none r := fun r hr => by
    rw [look_fil, G.corr r hr]
    unfold upd
    by_cases c : r = h
    · simp [c]
    · have : ¬ pl b r = pl b h := fun q => c (pl_inj hr (by omega) q)
      simp [c, this]
  obtain ⟨k1, k2, k3, k4⟩ := shift_eq (b := b) 32 _ (upd (tab (rh b) (l1 ++ x :: l2)) h none) h h hlook (Nat.le_refl _) (by omega)
    (fun p hp => by rw [upd_ne (by omega)]; exact i2 p (by rw [List.length_append, List.length_cons]; omega))
    (fun p z hz => by
      have p1 : p ≠ h := fun q => by rw [q, upd_at] at hz; cases hz
      rw [upd_ne p1] at hz
      exact (i1 p z hz).1)
    (nd_fil G.nde _) (fun d hd => G.lt d (List.mem_filter.mp hd).1) (upd_at _ _ _)
  have sub : ∀ z ∈ l1 ++ l2, z ∈ l1 ++ x :: l2 := fun z hz => by
    rcases List.mem_append.mp hz with hz | hz
    · exact List.mem_append_left _ hz
    · exact List.mem_append_right _ (.tail _ hz)
  refine ⟨?_, ?_, by omega, ?_, fun z hz => G.near z (sub z hz), fun z hz => G.okx z (sub z hz), fun z hz => ?_, k2, k3, fun r hr => ?_⟩
  · have h1 := G.le
    have h2 := List.length_filter_le (fun e : Nat × Str => e.1 != pl b h) es
    omega
  · rw [List.length_append]; omega
  · rw [← hff]; exact G.nd.sublist List.filter_sublist
  · obtain ⟨k', j, hj, e⟩ := G.form z (sub z hz)
    exact ⟨k', j, by omega, e⟩
  · rw [k1 r hr, hs]
theorem goodP (b : Nat) : GoodLaw b (GoodP b) where
  start := good_start b
  nodup := fun _ _ _ G => G.nde
  len := fun _ _ _ G => ⟨G.le, G.li⟩
  ok := fun _ _ _ G => G.okx
  same := fun _ _ _ G => good_same G
  bring := fun _ _ _ _ G hi => good_bring G hi
  take := fun _ _ _ _ G hi hx => good_take G hi hx
end Mine
end
section
open PySem PySem.W PyProof.Rows PySem.Calls
set_option Elab.async false
set_option maxRecDepth 100000
set_option linter.unusedVariables false
namespace Mine
theorem obj_off {h₀ h : Heap} {L : Addr} {big : List (Addr × Obj)} (N : News h₀ L h big) {a b : Addr} {o o' : Obj} (h1 : (a, o) ∈ big) (h2 : (b, o') ∈ big) (ho : o.cls ≠ o'.cls ∨ o.data ≠ o'.data) : a ≠ b := fun e => by
  subst e
  have := news_one N h1 h2
  subst this
  rcases ho with h | h <;> exact h rfl
theorem frame_t4 {m : Str → Option Value} {a b c d : Str} {v1 v2 v3 v4 : Value} (h1 : m a = some v1) (h2 : m b = some v2) (h3 : m c = some v3) (h4 : m d = some v4) : m = fun y => if y = a then some v1 else if y = b then some v2 else if y = c then some v3 else if y = d then some v4 else m y := by
  funext y
  by_cases e : y = a
  · subst e; simp [h1]
  · by_cases e2 : y = b
    · subst e2; simp [e, h2]
    · by_cases e3 : y = c
      · subst e3; simp [e, e2, h3]
      · by_cases e4 : y = d
        · subst e4; simp [e, e2, e3, h4]
        · simp [e, e2, e3, e4]
section
variable {prog : Program} {w : World} {A₀ A : Around} {s : Shared} {base h₀ : Heap} {outer : List Env} {L : Addr} {m : Str → Option Value}
  {loose : List Str} {mean : ExcName → Option Value} {mg mb : Str → Option Value}
theorem law_loop2 {T₁ D H LN LT fa : Addr} {ccd : Value} {big : List (Addr × Obj)} {nvs : List Value} {nn nt : Nat} {ns : List Int} {bI : Int} {tb tk0 : Tok} {oc : Obj} {Q : Flow → Shared → Prop} {E : Value → Shared → Prop} {Good : Nat → Nat → List (Nat × Str) → List Str → Prop}
  (G : ∀ b, GoodLaw b (Good b))
  (B : Below A₀ base outer h₀) (F : Fr h₀ L s.heap m) (hm1 : m (Str.ofString "numbers") = some (.ref LN)) (hm2 : m (Str.ofString "base") = some (.int bI tb)) (hm3 : m (Str.ofString "table") = some (.ref T₁)) (hm4 : m (Str.ofString "things") = some (.ref LT)) (hb : 0 ≤ bI)
  (X : (Mine.hd.heap_39 w.params).In h₀) (N : News h₀ L s.heap big) (mH : (H, listOf #[] 0) ∈ big) (mT : (T₁, instObj 199 D) ∈ big) (mD : (D, hdrs w.params tk0 H) ∈ big) (mC : (L + 1, oc) ∈ big) (hoc : oc.data = .cell none) (mLT : (LT, listOf #[] nt) ∈ big) (mLN : (LN, listOf nvs.toArray nn) ∈ big) (hHT : LT ≠ H)
  (T : Top hd.view_39 loose mean mg mb h₀)
  (hR : Room 20 A (envOfC (Str.ofString "law") lawScope L fa ccd) outer L)
  (hnv : IntsAre nvs ns) (hns : ∀ n ∈ ns, 0 ≤ n) (hks : ns.length ≤ 14) (hkn : 0 < ns.length)
  (hE : PassesOwn (model prog w) A (envOfC (Str.ofString "law") lawScope L fa ccd) E)
  (k : ∀ h' tk m', Fr h₀ L h' m' → Q .next { s with heap := h', toks := tk }) : wpAny (model prog w) A (exec lawFor (envOfC (Str.ofString "law") lawScope L fa ccd)) Q E s := by
  have eb : bI = ((bI.toNat : Nat) : Int) := (Int.toNat_of_nonneg hb).symm
  rw [eb] at hm2
  have en : (ns.map Int.toNat).map Int.ofNat = ns := by
    rw [List.map_map]
    conv => rhs; rw [← List.map_id ns]
    exact List.map_congr_left fun n hn => Int.toNat_of_nonneg (hns n hn)
  have hnl : nvs.length = ns.length := IntsAre.length hnv
  have hne : LN ≠ H := obj_off N mLN mH (.inr (by
    intro e
    have e2 : nvs.toArray = #[] := by
      unfold W.listOf at e
      simp only [Data.seq.injEq] at e
      exact e.1
    have : nvs.length = 0 := by simpa using congrArg Array.size e2
    omega))
  have n1 : H ≠ L + 1 := list_off N mC hoc mH
  have n2 : T₁ ≠ L + 1 := obj_off N mT mC (.inr (by rw [hoc]; unfold instObj; simp))
  have n3 : D ≠ L + 1 := obj_off N mD mC (.inr (by rw [hoc]; unfold hdrs dictOf; simp))
  have n4 : LT ≠ L + 1 := list_off N mC hoc mLT
  have n5 : LN ≠ L + 1 := list_off N mC hoc mLN
  have hDT : D ≠ T₁ := obj_off N mD mT (.inr (by unfold hdrs dictOf instObj; simp))
  have hHT1 : H ≠ T₁ := obj_off N mH mT (.inr (by unfold W.listOf instObj; simp))
  have hHD : H ≠ D := obj_off N mH mD (.inr (by unfold W.listOf hdrs dictOf; simp))
  have hLT1 : LT ≠ T₁ := obj_off N mLT mT (.inr (by unfold W.listOf instObj; simp))
  have hLTD : LT ≠ D := obj_off N mLT mD (.inr (by unfold W.listOf hdrs dictOf; simp))
  have hLN1 : LN ≠ T₁ := obj_off N mLN mT (.inr (by unfold W.listOf instObj; simp))
  have hLND : LN ≠ D := obj_off N mLN mD (.inr (by unfold W.listOf hdrs dictOf; simp))
  refine law_loop (tk0 := tk0) (rest := [(LT, listOf #[] nt), (LN, listOf nvs.toArray nn)]) (ks := ns.map Int.toNat) (G bI.toNat) B ((congrArg (Fr h₀ L s.heap) (frame_t4 hm1 hm2 hm3 hm4)).mp F) X (newsSub N ?_) T hR ?_ n1 n2 n3 hoc ?_ (.head _) (.tail _ (.head _)) (by rw [en]; exact hnv) (by rw [List.length_map]; exact hks) hE k
  · intro p hp
    simp only [List.mem_cons, List.not_mem_nil, or_false] at hp
    rcases hp with rfl | rfl | rfl | rfl | rfl | rfl
    · exact mH
    · exact mT
    · exact mD
    · exact mC
    · exact mLT
    · exact mLN
  · have key : ∀ R : Nat → Prop, R LT → R LN → ∀ p ∈ [(LT, W.listOf #[] nt), (LN, W.listOf nvs.toArray nn)], R p.1 := fun R h1 h2 p hp => by
      simp only [List.mem_cons, List.not_mem_nil, or_false] at hp
      rcases hp with rfl | rfl
      · exact h1
      · exact h2
    exact ⟨hDT, hHT1, hHD, key (· ≠ T₁) hLT1 hLN1, key (· ≠ D) hLTD hLND, key (· ≠ H) hHT hne, .nil, by decide, by simp⟩
  · intro p hp
    simp only [List.mem_cons, List.not_mem_nil, or_false] at hp
    rcases hp with rfl | rfl
    · exact n4
    · exact n5
end
end Mine
end
section
open PySem PySem.W PyProof.Rows PySem.Calls
set_option Elab.async false
set_option maxRecDepth 100000
set_option linter.unusedVariables false
namespace Mine
local macro_rules | `(tactic| k_all) => `(tactic| with_reducible assumption)
local macro_rules | `(tactic| walk_at "call builtin:str.lower") => `(tactic| (k_here; (with_reducible show wpAny _ _ (call (Value.builtin _) [Value.str _ _]) _ _ _); k_dflt (refine' my_lower (by with_reducible assumption) ?_)))
local macro_rules | `(tactic| k_mem) => `(tactic| (refine memOf ?_; with_reducible assumption))
local macro_rules | `(tactic| walk_at "eval ListComp") => `(tactic| (k_here; (with_reducible show wpAny _ _ (eval (Expr.ListComp _ _ _ _) _) _ _ _); refine holdOf ?_))
local macro_rules | `(tactic| walk_at "exec Assign cons ListComp") => `(tactic| (k_here; (with_reducible show wpAny _ _ (exec (Stmt.Assign _ (Expr.ListComp _ _ _ _) _) _) _ _ _); refine holdOf ?_))
local macro_rules | `(tactic| walk_at "exec For Tuple Call") => `(tactic| (k_here; (with_reducible show wpAny _ _ (exec (Stmt.For _ _ _ _ _) _) _ _ _); refine holdOf ?_))

set_option maxHeartbeats 3000000 in
theorem ns_ok (ns : List Int) : ∀ n ∈ [13, 10, 25, 14, 0] ++ List.map (fun k' => Int.fmod k' (10 ^ Int.toNat 6)) (List.take 9 ns), 0 ≤ n := by
  intro n hn
  rcases List.mem_append.mp hn with h | h
  · simp only [List.mem_cons, List.not_mem_nil, or_false] at h
    omega
  · obtain ⟨k, _, rfl⟩ := List.mem_map.mp h
    exact Int.fmod_nonneg_of_pos _ (by decide)
theorem ks_ok (ns : List Int) : ([13, 10, 25, 14, 0] ++ List.map (fun k' => Int.fmod k' (10 ^ Int.toNat 6)) (List.take 9 ns)).length ≤ 14 := by
  rw [List.length_append, List.length_map, List.length_take]
  simp only [List.length_cons, List.length_nil]
  omega
theorem sum_nn : ∀ l : List Int, (∀ n ∈ l, 0 ≤ n) → 0 ≤ l.sum
  | [], _ => by simp
  | n :: l, h => by
    have h1 := h n (.head _)
    have h2 := sum_nn l fun m hm => h m (.tail _ hm)
    rw [List.sum_cons]; omega
set_option maxHeartbeats 3000000 in
theorem whole : PySem.Challenge.rw_pg0208_01.Holds := hd (by
  k_go0
  (all_goals try k_fold)
  k_steps
  show wpAny _ _ _ _ _ _
  k_dflt (refine LCg.ListComp_U (F₀ := by k_asm) (by with_unfolding_all rfl) (by decide) (by rfl) (by decide) (by rfl) ?_)
  k_steps
  show wpAny _ _ (exec lawFor (envOfC (Str.ofString "law") lawScope _ _ _)) _ _ _
  refine' law_loop2 (Good := GoodP) goodP ?zB ?zF ?z1 ?z2 ?z3 ?z4 ?zb ?zX ?zN ?zH ?zT ?zD ?zC ?zc ?zL ?zM ?zl ?zT2 ?zR ?znv ?zns ?zks ?zkn ?zE ?_
  (case zF => k_asm)
  (case z1 => exact rfl)
  (case z2 => exact rfl)
  (case z3 => exact rfl)
  (case z4 => exact rfl)
  (case zB => k_asm)
  (case zX => k_asm)
  (case zN => k_asm)
  (case zT2 => k_asm)
  (case zH => exact .tail _ (.tail _ (.head _)))
  (case zL => exact .tail _ (.head _))
  (case zT => exact .tail _ (.tail _ (.tail _ (.head _))))
  (case zD => exact .tail _ (.tail _ (.tail _ (.tail _ (.head _)))))
  (case zM => exact .tail _ (.tail _ (.tail _ (.tail _ (.tail _ (.head _))))))
  (case zC => exact .tail _ (.tail _ (.tail _ (.tail _ (.tail _ (.tail _ (.tail _ (.tail _ (.tail _ (.head _))))))))))
  (case zc => rename _ = Data.cell _ => hc9; exact hc9.trans rfl)
  (case zl => rename _ < _ ∧ _ < _ ∧ _ < _ ∧ _ < _ ∧ _ < _ ∧ _ < _ ∧ _ < _ ∧ _ < _ => l8; exact Ne.symm (Nat.ne_of_lt l8.1))
  (case zR => exact ⟨rfl, rfl, rfl, Nat.le_of_ble_eq_true rfl, Nat.le_of_ble_eq_true rfl, rfl⟩)
  (case znv => assumption)
  (case zns => exact ns_ok _)
  (case zks => exact ks_ok _)
  (case zkn => simp)
  (case zE => passes_own)
  (case zb => exact sum_nn _ (ns_ok _))
  · intro h' tk m' F'
    k_steps)
end Mine
end
theorem PySem.Challenge.cw_pg0208_01_holds : PySem.Challenge.rw_pg0208_01.Holds :=
  Mine.whole
