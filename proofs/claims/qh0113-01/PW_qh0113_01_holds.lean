import PyProof.Rows.All
import Wide.All
import OpenK.AllK
import Wide.FinOn
import PySem.Challenge.RW_qh0113_01
open PySem PySem.W PyProof.Rows
set_option Elab.async false
namespace Mine
set_option maxRecDepth 100000 in
set_option maxHeartbeats 8000000 in
open_top hd for PySem.Challenge.rw_qh0113_01
end Mine
section
open PySem PySem.W PyProof.Rows
namespace Mine

/-- a call of the text's own def at address f, from any frame of the call's -/
def Ctr (w : World) (f : Addr) (r : Nat) (news : List (Addr × Obj)) (vs : List Value) (Ret : Heap → Addr → (Str → Option Value) → Shared → (Value → Shared → Prop) → Prop) : Prop :=
  ∀ (mean : ExcName → Option Value) (mg mb : Str → Option Value) (dp un : Nat) (gd : Option (List Code)) (cn : Str) (cs : Scope) (a : Addr) (ccd : Value) (cl : List (Str × Addr)) (outer : List Env) (A₀ : Around) (base h₀ : Heap) (L : Addr) (m : Str → Option Value) (s : Shared) (Q E : Value → Shared → Prop),
    Below A₀ base outer h₀ → Fr h₀ L s.heap m → (Mine.hd.heap_39 w.params).In h₀ → News h₀ L s.heap news →
    Top Mine.hd.view_39 (looseW Mine.hd.view_39 [Str.ofString "bytes_types", Str.ofString "a2b_base64", Str.ofString "b2a_base64", Str.ofString "b64encode", Str.ofString "b64decode"]) mean mg mb h₀ →
    cs.kind = .function → dp + r < recursionLimit → un + 8 * r < cLine → Ret h₀ L m s Q →
    wpAny (model PySem.Challenge.rw_qh0113_01.row.prog w) (ktrTop dp un gd cn cs L a ccd cl outer) (call (.ref f) vs) Q E s

end Mine
end
section
open PySem PySem.W PyProof.Rows
namespace Mine
def Stop (p : Prop) : Prop := p
theorem Stop.to {p : Prop} (h : Stop p) : p := h
section
variable {prog : Program} {w : World} {A : Around} {E : Value → Shared → Prop} {s : Shared} {a b c : Int} {t u : Tok} {Q : Value → Shared → Prop}
theorem and_eq (he : Builtin.bitAnd a b = c) (h : Q (.int c s.toks) { s with toks := s.toks + 1 }) : wpAny (model prog w) A (binaryOp .BitAnd (.int a t) (.int b u)) Q E s := and_int (he ▸ h)
theorem or_eq (he : Builtin.bitOr a b = c) (h : Q (.int c s.toks) { s with toks := s.toks + 1 }) : wpAny (model prog w) A (binaryOp .BitOr (.int a t) (.int b u)) Q E s := or_int (he ▸ h)
theorem lshift_eq (hn : 0 ≤ b) (hn2 : b ≤ 1000000) (ha : a.natAbs < 2 ^ 64) (he : a * 2 ^ b.toNat = c) (h : Q (.int c s.toks) { s with toks := s.toks + 1 }) : wpAny (model prog w) A (binaryOp .LShift (.int a t) (.int b u)) Q E s := lshift_int_small hn hn2 ha (he ▸ h)
theorem rshift_eq (hn : 0 ≤ b) (he : a.fdiv (2 ^ b.toNat) = c) (h : Q (.int c s.toks) { s with toks := s.toks + 1 }) : wpAny (model prog w) A (binaryOp .RShift (.int a t) (.int b u)) Q E s := rshift_int hn (he ▸ h)
end
theorem and_mask (x : Int) (k : Nat) {m : Int} (hm : m = 2 ^ k - 1) {y : Int} (hy : y = 2 ^ k) : Builtin.bitAnd x m = x % y := by
  subst hm; subst hy; exact kbt_mask x k
theorem and63 (x : Int) : Builtin.bitAnd x 63 = x % 64 := and_mask x 6 (by decide) (by decide)
theorem and3 (x : Int) : Builtin.bitAnd x 3 = x % 4 := and_mask x 2 (by decide) (by decide)
theorem and15 (x : Int) : Builtin.bitAnd x 15 = x % 16 := and_mask x 4 (by decide) (by decide)
theorem and65535 (x : Int) : Builtin.bitAnd x 65535 = x % 65536 := and_mask x 16 (by decide) (by decide)
end Mine
end
section
open PySem PySem.W PyProof.Rows
set_option autoImplicit false
namespace Mine

def octStep (st : List Int × Int × Int) (f : Int) : List Int × Int × Int :=
  if 256 ≤ st.2.2 * 64 then (st.1 ++ [(st.2.1 * 64 + f).fdiv ((st.2.2 * 64).fdiv 256)], (st.2.1 * 64 + f).fmod ((st.2.2 * 64).fdiv 256), (st.2.2 * 64).fdiv 256)
  else (st.1, st.2.1 * 64 + f, st.2.2 * 64)
def octF (fs : List Int) : List Int × Int × Int := fs.foldl octStep ([], 0, 1)
def Fig (fs : List Int) : Prop := ∀ n ∈ fs, 0 ≤ n ∧ n < 64

structure OctI (pre row : List Int) (kept room : Int) : Prop where
  heq : (row, kept, room) = octF pre
  hroom : room = 1 ∨ room = 64 ∨ room = 16 ∨ room = 4
  hlo : 0 ≤ kept
  hhi : kept < room
  hlen : row.length ≤ pre.length
  hbytes : KBa.In row
theorem octI_nil : OctI [] [] 0 1 := ⟨rfl, .inl rfl, by decide, by decide, by decide, fun _ h => nomatch h⟩
theorem fdiv_pos (a : Int) {b : Int} (h : 0 ≤ b) : a.fdiv b = a / b := Int.fdiv_eq_ediv_of_nonneg _ h
theorem fmod_pos (a : Int) {b : Int} (h : 0 ≤ b) : a.fmod b = a % b := Int.fmod_eq_emod_of_nonneg _ h
theorem octI_a {fs pre row : List Int} {kept room n : Int} (hF : Fig fs) (hn : n ∈ fs) (h : OctI pre row kept room) (hr : 256 ≤ room * 64) :
    OctI (pre ++ [n]) (row ++ [(kept * 64 + n).fdiv ((room * 64).fdiv 256)]) ((kept * 64 + n).fmod ((room * 64).fdiv 256)) ((room * 64).fdiv 256) := by
  have hb := hF n hn
  have e : octF (pre ++ [n]) = octStep (octF pre) n := by simp [octF, List.foldl_append]
  obtain ⟨h1, h2, h3, h4, h5, h6⟩ := h
  have hlen : (row ++ [(kept * 64 + n).fdiv ((room * 64).fdiv 256)]).length ≤ (pre ++ [n]).length := by simp; exact h5
  refine ⟨?_, ?_, ?_, ?_, hlen, ?_⟩
  · rw [e, ← h1]
    show _ = if 256 ≤ room * 64 then _ else _
    rw [if_pos hr]
  · rw [fdiv_pos _ (by decide)]; omega
  · rw [fdiv_pos (room * 64) (by decide), fmod_pos _ (by omega)]
    exact Int.emod_nonneg _ (by omega)
  · rw [fdiv_pos (room * 64) (by decide), fmod_pos _ (by omega)]
    exact Int.emod_lt_of_pos _ (by omega)
  · intro x hx
    rcases List.mem_append.mp hx with hx | hx
    · exact h6 x hx
    · rw [List.mem_singleton.mp hx, fdiv_pos (room * 64) (by decide), fdiv_pos _ (by omega)]
      rcases h2 with h2 | h2 | h2 | h2 <;> subst h2
      · omega
      · have : (64 : Int) * 64 / 256 = 16 := by decide
        rw [this]; omega
      · have : (16 : Int) * 64 / 256 = 4 := by decide
        rw [this]; omega
      · have : (4 : Int) * 64 / 256 = 1 := by decide
        rw [this]; omega
theorem octI_b {fs pre row : List Int} {kept room n : Int} (hF : Fig fs) (hn : n ∈ fs) (h : OctI pre row kept room) (hr : ¬ 256 ≤ room * 64) :
    OctI (pre ++ [n]) row (kept * 64 + n) (room * 64) := by
  have hb := hF n hn
  have e : octF (pre ++ [n]) = octStep (octF pre) n := by simp [octF, List.foldl_append]
  obtain ⟨h1, h2, h3, h4, h5, h6⟩ := h
  have hlen : row.length ≤ (pre ++ [n]).length := by simp; omega
  refine ⟨?_, ?_, ?_, ?_, hlen, h6⟩
  · rw [e, ← h1]
    show _ = if 256 ≤ room * 64 then _ else _
    rw [if_neg hr]
  · omega
  · omega
  · omega
theorem octI_ne {pre row : List Int} {kept room : Int} (h : OctI pre row kept room) (hr : 256 ≤ room * 64) : (room * 64).fdiv 256 ≠ 0 ∧ ((room * 64).fdiv 256).natAbs < 1073741824 := by
  have h2 := h.hroom
  rw [fdiv_pos _ (by decide)]
  constructor <;> omega

theorem octI_out {pre row : List Int} {kept room : Int} (h : OctI pre row kept room) : row = (octF pre).1 := congrArg (·.1) h.heq

local macro_rules | `(tactic| k_memK) => `(tactic| assumption)
local macro_rules | `(tactic| k_mem) => `(tactic| assumption)
local macro_rules | `(tactic| kba_in) => `(tactic| exact OctI.hbytes (by assumption))
local macro_rules | `(tactic| kba_size) => `(tactic| ((have hl9 := OctI.hlen (by assumption)); omega))
local macro_rules | `(tactic| walk_at $s:str) => `(tactic| k_extra $s)
set_option maxRecDepth 100000 in
set_option maxHeartbeats 8000000 in
theorem octets_call (w : World) (D : Addr) (ws : List Value) (nn : Nat) (fs : List Int) (news : List (Addr × Obj)) (hm : (D, listOf ws.toArray nn) ∈ news) (hi : IntsAre ws fs) (hF : Fig fs) (hlen : fs.length < 1000) :
    Ctr w 121 1 news [.ref D] (fun h₀ L m s Q => ∀ t h' tk', Fr h₀ L h' m → News h₀ L h' news → KBa.In (octF fs).1 → Q (.bytes (byteArr (octF fs).1) t) { s with heap := h', toks := tk' }) := by
  k_with_none
  k_with "binaryOp FloorDiv int int" => (with_reducible refine floordiv_int (octI_ne (by assumption) (by assumption)).1 ?_ (Or.inl (PyProof.noPylong_small (octI_ne (by assumption) (by assumption)).2)))
  k_with "inplaceOp Mod int int" => (with_reducible refine imod_int (octI_ne (by assumption) (by assumption)).1 ?_)
  k_with "call builtin:list.append" => (k_here; (fail_if_success (with_reducible show wpAny _ _ (call (Value.builtin _) [Value.ref _, _]) _ _ _)); (show wpAny _ _ (call (Value.builtin _) [Value.ref _, _]) _ _ _); k_dflt (refine' append_K (by k_asm) (by k_asm) (by k_upd) ?_ (by ((have hl9 := OctI.hlen (by assumption)); (simp only [List.size_toArray, PySem.sizeLine_eq]); omega))); intro h' F' N'; (try k_sweep))
  k_with "pyIter ref" => k_state (fun pre row kept room => OctI pre row kept room) "row" "kept" "room"
  k_with "state" => first | exact octI_nil | exact octI_a (by assumption) (by assumption) (by assumption) (by assumption) | exact octI_b (by assumption) (by assumption) (by assumption) (by assumption)
  unfold Ctr
  k_fill
  intro mean mg mb dp un gd cn cs a ccd cl outer A₀ base h₀ L m s Q E B F X N T hk hdp hun hret
  refine wpAny_call ?_
  w_on
  (first | k_dflt cell_enter | fail "not entered")
  k_steps
  (have e9 := octI_out (by assumption)); subst e9
  exact hret _ _ _ (by assumption) (cb_drop (by assumption) (by kcj_all)) (by assumption)
end Mine
end
section
open PySem PySem.W PyProof.Rows
set_option autoImplicit false
namespace Mine

def valF (ns : List Int) : Int := ns.foldl (fun v o => v * 256 + o) 0
def figCount (ns : List Int) : Int := ((ns.length : Int) * 4 + 2).fdiv 3
def figVal (ns : List Int) : Int := valF ns * 2 ^ (figCount ns * 6 - (ns.length : Int) * 8).toNat
def figF (ns : List Int) : List Int := (rangeKs 0 (figCount ns - 0).toNat).map fun k => ((figVal ns).fdiv (64 ^ (figCount ns - 1 - k).toNat)).fmod 64
structure FigI (pre : List Int) (value : Int) : Prop where
  heq : value = valF pre
theorem figI_nil : FigI [] 0 := ⟨rfl⟩
theorem figI_step {pre : List Int} {v o : Int} (h : FigI pre v) : FigI (pre ++ [o]) (v * 256 + o) := by
  obtain ⟨rfl⟩ := h
  exact ⟨by simp [valF, List.foldl_append]⟩

theorem figMulOk (v : Int) (n : Nat) : IntMulOk v (2 ^ (((n : Int) * 4 + 2).fdiv 3 * 6 - (n : Int) * 8).toNat) := by
  refine IntMulOk.of_right ?_
  rw [fdiv_pos _ (by decide)]
  have h : (((n : Int) * 4 + 2) / 3 * 6 - (n : Int) * 8).toNat ≤ 4 := by omega
  generalize (((n : Int) * 4 + 2) / 3 * 6 - (n : Int) * 8).toNat = e at h ⊢
  have h' : e = 0 ∨ e = 1 ∨ e = 2 ∨ e = 3 ∨ e = 4 := by omega
  rcases h' with rfl | rfl | rfl | rfl | rfl <;> decide
theorem fig_py {n : Int} (h : n < 1000) : ((64 : Int) ^ n.toNat).natAbs.log2 < 9000 := by
  have e : ((64 : Int) ^ n.toNat) = (2 : Int) ^ ((6 * (n.toNat : Int)).toNat) := by
    have h6 : (6 * (n.toNat : Int)).toNat = 6 * n.toNat := by omega
    rw [h6, Int.pow_mul]
    rfl
  rw [e]
  exact kbt_py (by omega)
local macro_rules | `(tactic| k_memK) => `(tactic| assumption)
local macro_rules | `(tactic| k_mem) => `(tactic| assumption)
local macro_rules | `(tactic| walk_at $s:str) => `(tactic| k_extra $s)
set_option maxRecDepth 100000 in
set_option maxHeartbeats 8000000 in
theorem figures_call (w : World) (ns : List Int) (tb : Tok) (news : List (Addr × Obj)) (hF : KBa.In ns) (hlen : ns.length < 200) :
    Ctr w 114 1 news [.bytes (byteArr ns) tb] (fun h₀ L m s Q => ∀ D ws h' tk', Fr h₀ L h' m → News h₀ L h' ((D, LCg.lst ws) :: news) → LCg.Off1 D news → IntsAre ws (figF ns) → Q (.ref D) { s with heap := h', toks := tk' }) := by
  k_with_none
  k_with "binaryOp FloorDiv int int" => (with_reducible refine floordiv_int (Int.ne_of_gt (pow_pos_of (by decide) _)) ?_ (Or.inl (PyProof.noPylong_of_log2 (fig_py (by omega)))))
  k_with "inplaceOp Mult int int" => (with_reducible refine imul_int ?_ (figMulOk _ _))
  k_with "pyIter bytes" => k_state (fun pre value => FigI pre value) "value"
  k_with "state" => first | exact figI_nil | exact figI_step (by assumption)
  unfold Ctr
  k_fill
  intro mean mg mb dp un gd cn cs a ccd cl outer A₀ base h₀ L m s Q E B F X N T hk hdp hun hret
  refine wpAny_call ?_
  w_on
  k_dflt (refine' code_defC ?k1 ?k2 ?k3 ?k4 ?k5 ?kA ?kF ?kK ?k6 ?k7 ?k8 ?k9 ?kB ?kD ?_ ?c2 ?c3 ?c4; (case kA => exact rfl); (case kF => exact rfl); (case kK => assumption); (case k1 => k_asm); (case k2 => k_asm); (case k3 => k_asm); (case k4 => k_asm); (case k5 => k_asm); (case k6 => k_is); (case k7 => k_is); (case k8 => ktr_room); (case k9 => exact BindsTo.of_eq rfl); (case kB => exact rfl); (case kD => decide +kernel); (case c2 => exact rfl); (case c3 => exact rfl); (case c4 => exact rfl); k_whole; intro g' L' h' tk' cells' FG' F' N' Y' B' X' T' l1; (try k_lt l1); k_cells Y'; (try simp only [List.cons_append, List.nil_append] at N'); (try dsimp only); (try k_lift B'); (try k_fold))
  have hmk := kstMark
  have hcnt : 0 ≤ ((ns.length : Int) * 4 + 2).fdiv 3 ∧ ((ns.length : Int) * 4 + 2).fdiv 3 < 300 := by rw [fdiv_pos _ (by decide)]; omega
  have hl1 : ∀ p ∈ news, p.1 < L' + 1 := fun p hp => Nat.lt_succ_of_lt (l1 p hp)
  have hl2 : ∀ p ∈ news, p.1 < L' + 1 + 1 := fun p hp => Nat.lt_succ_of_lt (hl1 p hp)
  k_steps
  (with_unfolding_all refine' KStb.kst_bytes (σ := Obj × Int × Tok) (fun c => (L' + 1 + 1, c.1) :: (L' + 1, _) :: news) (fun _ => []) (fun c => c.1.data = .cell (some (.int c.2.1 c.2.2))) [] (fun pre c => FigI pre c.2.1) (_, 0, _) (KBa.ints_make hF) (by rfl) (by rfl) (by assumption) (by assumption) (by assumption) (fun _ h => nomatch h) figI_nil ?_ ?_)
  · rintro ⟨kO, kV, kTv⟩ kPre kPost kN kT kU kH kTk kOwn kEq kLen kLo kHi kOff kFacts kInv kFr kNews
    (try dsimp only [kstB] at kFr); (try dsimp only at kNews); (try dsimp only at kFacts); (try dsimp only at kInv); (try simp only [List.nil_append, List.cons_append, List.append_nil] at kNews)
    (try dsimp only at kOff); (try simp only [List.map_cons, List.map_nil] at kOff)
    (try k_fold)
    k_steps
  · rintro ⟨kO, kV, kTv⟩ kU kH kTk kLen kFacts kInv kFr kNews
    (try dsimp only [kstB] at kFr); (try dsimp only at kNews); (try dsimp only at kFacts); (try dsimp only at kInv); (try simp only [List.nil_append, List.cons_append, List.append_nil] at kNews)
    (try k_fold)
    k_steps
    obtain ⟨rfl⟩ := kInv
    exact hret _ _ _ _ (by assumption) (cb_drop (by assumption) (by kcj_all)) (by (rename _ ∧ _ ∧ LCg.Off1 _ _ => o9; exact o9.2.2)) (by assumption)
end Mine
end
section
open PySem PySem.W PyProof.Rows
set_option autoImplicit false
namespace Mine
theorem nat_and_disj (x b k : Nat) (h : b < 2 ^ k) : (x * 2 ^ k) &&& b = 0 := by
  apply Nat.eq_of_testBit_eq
  intro i
  rw [Nat.testBit_and, Nat.zero_testBit]
  by_cases hi : i < k
  · have : (x * 2 ^ k).testBit i = false := by
      rw [Nat.mul_comm, Nat.testBit_two_pow_mul]
      simp [Nat.not_le.mpr hi]
    rw [this]; rfl
  · have : b.testBit i = false := Nat.testBit_lt_two_pow (Nat.lt_of_lt_of_le h (Nat.pow_le_pow_right (by decide) (Nat.le_of_not_lt hi)))
    rw [this, Bool.and_false]
theorem or_disj {a b : Int} (k : Nat) {y : Int} (hy : y = 2 ^ k) (ha : 0 ≤ a) (hb : 0 ≤ b) (hlt : b < y) : Builtin.bitOr (a * y) b = a * y + b := by
  subst hy
  have hp := kbt_pos k
  rw [bitOr_and, bitAnd_pp (Int.mul_nonneg ha (Int.le_of_lt hp)) hb]
  have e : (a * 2 ^ k).toNat = a.toNat * 2 ^ k := by
    have h1 : ((a.toNat * 2 ^ k : Nat) : Int) = a * 2 ^ k := by
      rw [Int.natCast_mul, kbt_cast, Int.toNat_of_nonneg ha]
    omega
  have hb' : b.toNat < 2 ^ k := by
    have := kbt_cast k
    omega
  rw [e, nat_and_disj _ _ _ hb']
  simp

/-- the n figures, six bits each, of a number -/
def digs : Nat → Int → List Int
  | 0, _ => []
  | n + 1, v => digs n (v / 64) ++ [v % 64]
def tblL : List Int := [65, 66, 67, 68, 69, 70, 71, 72, 73, 74, 75, 76, 77, 78, 79, 80, 81, 82, 83, 84, 85, 86, 87, 88, 89, 90, 97, 98, 99, 100, 101, 102, 103, 104, 105, 106, 107, 108, 109, 110, 111, 112, 113, 114, 115, 116, 117, 118, 119, 120, 121, 122, 48, 49, 50, 51, 52, 53, 54, 55, 56, 57, 43, 47]
def tbl (i : Int) : Int := tblL.getD i.toNat 0
theorem tbl_in (i : Int) : 0 ≤ tbl i ∧ tbl i < 128 := by
  have h : ∀ n : Nat, 0 ≤ tblL.getD n 0 ∧ tblL.getD n 0 < 128 := by
    intro n
    by_cases hn : n < 64
    · have : ∀ n : Fin 64, 0 ≤ tblL.getD n.1 0 ∧ tblL.getD n.1 0 < 128 := by decide
      exact this ⟨n, hn⟩
    · have e : tblL.getD n 0 = 0 := by
        rw [List.getD_eq_getElem?_getD, List.getElem?_eq_none (by show 64 ≤ n; omega)]; rfl
      rw [e]; decide
  exact h _
theorem digs_len (n : Nat) : ∀ v, (digs n v).length = n := by
  induction n with
  | zero => intro v; rfl
  | succ n ih => intro v; simp [digs, ih]
theorem valF_snoc (pre : List Int) (o : Int) : valF (pre ++ [o]) = valF pre * 256 + o := by simp [valF, List.foldl_append]
theorem valF_nonneg : ∀ {ns : List Int}, KBa.In ns → 0 ≤ valF ns := by
  intro ns
  have : ∀ (l : List Int), (∀ n ∈ l, 0 ≤ n ∧ n < 256) → ∀ a : Int, 0 ≤ a → 0 ≤ l.foldl (fun v o => v * 256 + o) a := by
    intro l
    induction l with
    | nil => intro _ a ha; exact ha
    | cons x r ih => intro h a ha; rw [List.foldl_cons]; exact ih (fun n hn => h n (.tail _ hn)) _ (by have := h x (.head _); omega)
  intro h
  exact this ns h 0 (by decide)

/-- how many bits are left over behind pre, and the signs written -/
def encLb (pre : List Int) : Int := 2 * ((pre.length % 3 : Nat) : Int)
def encNo (pre : List Int) : Nat := (8 * pre.length) / 6
def encOut (pre : List Int) : List Int := (digs (encNo pre) (valF pre / 2 ^ (encLb pre).toNat)).map tbl
structure EncI (pre out : List Int) (lb lc : Int) : Prop where
  hpre : KBa.In pre
  hlb : lb = encLb pre
  hlc : lc = valF pre % 65536
  hout : out = encOut pre
theorem encI_nil : EncI [] [] 0 0 := ⟨(fun _ h => nomatch h), rfl, rfl, rfl⟩
theorem encI_three {pre out : List Int} {lb lc : Int} (h : EncI pre out lb lc) : lb = 0 ∨ lb = 2 ∨ lb = 4 := by
  have := h.hlb; unfold encLb at this; omega
theorem encI_lc {pre out : List Int} {lb lc : Int} (h : EncI pre out lb lc) : 0 ≤ lc ∧ lc < 65536 := by
  have := h.hlc; omega
theorem encI_abs {pre out : List Int} {lb lc : Int} (h : EncI pre out lb lc) : lc.natAbs < 2 ^ 64 := by
  have := encI_lc h; omega
theorem encI_or {pre out : List Int} {lb lc b : Int} (h : EncI pre out lb lc) (h0 : 0 ≤ b) (h1 : b < 256) : Builtin.bitOr (lc * 2 ^ Int.toNat 8) b = lc * 256 + b := by
  have := encI_lc h
  have e : (2 : Int) ^ Int.toNat 8 = 256 := by decide
  rw [e]
  exact or_disj 8 (by decide) this.1 h0 h1
theorem encI_len {pre out : List Int} {lb lc : Int} (h : EncI pre out lb lc) : out.length = encNo pre := by
  rw [h.hout, encOut, List.length_map, digs_len]
theorem map_tbl_in (l : List Int) : KBa.In (l.map tbl) := by
  intro n hn
  obtain ⟨x, _, rfl⟩ := List.mem_map.mp hn
  have := tbl_in x
  omega
theorem encI_in {pre out : List Int} {lb lc : Int} (h : EncI pre out lb lc) : KBa.In out := by rw [h.hout]; exact map_tbl_in _
theorem in_snoc {pre : List Int} {b : Int} (h : KBa.In pre) (h0 : 0 ≤ b) (h1 : b < 256) : KBa.In (pre ++ [b]) := by
  intro n hn
  rcases List.mem_append.mp hn with hn | hn
  · exact h n hn
  · rw [List.mem_singleton.mp hn]; exact ⟨h0, h1⟩
/-- the turn's own number -/
abbrev encLc (lc b : Int) : Int := (lc * 256 + b) % 65536
theorem encI_0 {pre out : List Int} {lc b : Int} (h : EncI pre out 0 lc) (h0 : 0 ≤ b) (h1 : b < 256) : EncI (pre ++ [b]) (out ++ [tbl ((encLc lc b).fdiv (2 ^ Int.toNat (0 + 8 - 6)) % 64)]) (0 + 8 - 6) (encLc lc b) := by
  have hv := valF_nonneg h.hpre
  have hm : pre.length % 3 = 0 := by have := h.hlb; unfold encLb at this; omega
  have e4 : (2 : Int) ^ Int.toNat (0 + 8 - 6) = 4 := by decide
  refine ⟨in_snoc h.hpre h0 h1, ?_, ?_, ?_⟩
  · unfold encLb; rw [List.length_append, List.length_singleton]; omega
  · rw [valF_snoc, h.hlc, encLc]; omega
  · have a1 : encNo (pre ++ [b]) = encNo pre + 1 := by unfold encNo; rw [List.length_append, List.length_singleton]; omega
    have a2 : (encLb (pre ++ [b])).toNat = 2 := by unfold encLb; rw [List.length_append, List.length_singleton]; omega
    have a3 : (encLb pre).toNat = 0 := by unfold encLb; omega
    have b1 : (valF pre * 256 + b) / 4 / 64 = valF pre := by omega
    have b2 : (valF pre * 256 + b) / 4 % 64 = encLc lc b / 4 % 64 := by rw [encLc, h.hlc]; omega
    rw [e4, fdiv_pos _ (by decide), h.hout, encOut, encOut, a1, a2, a3, valF_snoc, digs, List.map_append, show (2 : Int) ^ 2 = 4 by decide, show (2 : Int) ^ 0 = 1 by decide, Int.ediv_one, b1, b2]
    rfl
theorem encI_2 {pre out : List Int} {lc b : Int} (h : EncI pre out 2 lc) (h0 : 0 ≤ b) (h1 : b < 256) : EncI (pre ++ [b]) (out ++ [tbl ((encLc lc b).fdiv (2 ^ Int.toNat (2 + 8 - 6)) % 64)]) (2 + 8 - 6) (encLc lc b) := by
  have hv := valF_nonneg h.hpre
  have hm : pre.length % 3 = 1 := by have := h.hlb; unfold encLb at this; omega
  have e4 : (2 : Int) ^ Int.toNat (2 + 8 - 6) = 16 := by decide
  refine ⟨in_snoc h.hpre h0 h1, ?_, ?_, ?_⟩
  · unfold encLb; rw [List.length_append, List.length_singleton]; omega
  · rw [valF_snoc, h.hlc, encLc]; omega
  · have a1 : encNo (pre ++ [b]) = encNo pre + 1 := by unfold encNo; rw [List.length_append, List.length_singleton]; omega
    have a2 : (encLb (pre ++ [b])).toNat = 4 := by unfold encLb; rw [List.length_append, List.length_singleton]; omega
    have a3 : (encLb pre).toNat = 2 := by unfold encLb; omega
    have b1 : (valF pre * 256 + b) / 16 / 64 = valF pre / 4 := by omega
    have b2 : (valF pre * 256 + b) / 16 % 64 = encLc lc b / 16 % 64 := by rw [encLc, h.hlc]; omega
    rw [e4, fdiv_pos _ (by decide), h.hout, encOut, encOut, a1, a2, a3, valF_snoc, digs, List.map_append, show (2 : Int) ^ 2 = 4 by decide, show (2 : Int) ^ 4 = 16 by decide, b1, b2]
    rfl
theorem encI_4 {pre out : List Int} {lc b : Int} (h : EncI pre out 4 lc) (h0 : 0 ≤ b) (h1 : b < 256) : EncI (pre ++ [b]) (out ++ [tbl ((encLc lc b).fdiv (2 ^ Int.toNat (4 + 8 - 6)) % 64)] ++ [tbl ((encLc lc b).fdiv (2 ^ Int.toNat (4 + 8 - 6 - 6)) % 64)]) (4 + 8 - 6 - 6) (encLc lc b) := by
  have hv := valF_nonneg h.hpre
  have hm : pre.length % 3 = 2 := by have := h.hlb; unfold encLb at this; omega
  have e4 : (2 : Int) ^ Int.toNat (4 + 8 - 6) = 64 := by decide
  have e5 : (2 : Int) ^ Int.toNat (4 + 8 - 6 - 6) = 1 := by decide
  refine ⟨in_snoc h.hpre h0 h1, ?_, ?_, ?_⟩
  · unfold encLb; rw [List.length_append, List.length_singleton]; omega
  · rw [valF_snoc, h.hlc, encLc]; omega
  · have a1 : encNo (pre ++ [b]) = encNo pre + 1 + 1 := by unfold encNo; rw [List.length_append, List.length_singleton]; omega
    have a2 : (encLb (pre ++ [b])).toNat = 0 := by unfold encLb; rw [List.length_append, List.length_singleton]; omega
    have a3 : (encLb pre).toNat = 4 := by unfold encLb; omega
    have b1 : (valF pre * 256 + b) / 64 / 64 = valF pre / 16 := by omega
    have b2 : (valF pre * 256 + b) / 64 % 64 = encLc lc b / 64 % 64 := by rw [encLc, h.hlc]; omega
    have b3 : (valF pre * 256 + b) % 64 = encLc lc b % 64 := by rw [encLc, h.hlc]; omega
    rw [e4, e5, fdiv_pos _ (by decide), fdiv_pos _ (by decide), h.hout, encOut, encOut, a1, a2, a3, valF_snoc, digs, digs, List.map_append, List.map_append, show (2 : Int) ^ 0 = 1 by decide, show (2 : Int) ^ 4 = 16 by decide, Int.ediv_one, Int.ediv_one, b1, b2, b3]
    rfl
def encText (ns : List Int) : List Int :=
  if ns.length % 3 = 0 then encOut ns
  else if ns.length % 3 = 1 then encOut ns ++ [tbl (valF ns % 65536 % 4 * 16)] ++ [61] ++ [61]
  else encOut ns ++ [tbl (valF ns % 65536 % 16 * 4)] ++ [61]
theorem encT_0 {ns out : List Int} {lc : Int} (h : EncI ns out 0 lc) : out = encText ns := by
  have hm : ns.length % 3 = 0 := by have := h.hlb; unfold encLb at this; omega
  rw [encText, if_pos hm, h.hout]
theorem encT_2 {ns out : List Int} {lc : Int} (h : EncI ns out 2 lc) : out ++ [tbl (lc % 4 * 16)] ++ [61] ++ [61] = encText ns := by
  have hm : ns.length % 3 = 1 := by have := h.hlb; unfold encLb at this; omega
  rw [encText, if_neg (by omega), if_pos hm, h.hout, h.hlc]
theorem encT_4 {ns out : List Int} {lc : Int} (h : EncI ns out 4 lc) : out ++ [tbl (lc % 16 * 4)] ++ [61] = encText ns := by
  have hm : ns.length % 3 = 2 := by have := h.hlb; unfold encLb at this; omega
  rw [encText, if_neg (by omega), if_neg (by omega), h.hout, h.hlc]
theorem tbl_byte (i : Int) : 0 ≤ tbl i ∧ tbl i < 256 := by have := tbl_in i; omega
theorem encText_in (ns : List Int) : KBa.In (encText ns) := by
  have h61 : (0 : Int) ≤ 61 ∧ (61 : Int) < 256 := by decide
  have ho : KBa.In (encOut ns) := map_tbl_in _
  unfold encText
  split
  · exact ho
  · split
    · exact in_snoc (in_snoc (in_snoc ho (tbl_byte _).1 (tbl_byte _).2) h61.1 h61.2) h61.1 h61.2
    · exact in_snoc (in_snoc ho (tbl_byte _).1 (tbl_byte _).2) h61.1 h61.2
theorem encText_len (ns : List Int) : (encText ns).length ≤ 2 * ns.length + 4 := by
  have h : (encOut ns).length = encNo ns := by rw [encOut, List.length_map, digs_len]
  unfold encNo at h
  unfold encText
  split
  · omega
  · split <;> simp <;> omega
theorem encB_0 {ns out : List Int} {lc : Int} (h : EncI ns out 0 lc) : KBa.In out ∧ out.length ≤ 2 * ns.length + 4 := by
  rw [encT_0 h]; exact ⟨encText_in _, encText_len _⟩
theorem encB_2 {ns out : List Int} {lc : Int} (h : EncI ns out 2 lc) : KBa.In (out ++ [tbl (lc % 4 * 16)] ++ [61] ++ [61]) ∧ (out ++ [tbl (lc % 4 * 16)] ++ [61] ++ [61]).length ≤ 2 * ns.length + 4 := by
  rw [encT_2 h]; exact ⟨encText_in _, encText_len _⟩
theorem encB_4 {ns out : List Int} {lc : Int} (h : EncI ns out 4 lc) : KBa.In (out ++ [tbl (lc % 16 * 4)] ++ [61]) ∧ (out ++ [tbl (lc % 16 * 4)] ++ [61]).length ≤ 2 * ns.length + 4 := by
  rw [encT_4 h]; exact ⟨encText_in _, encText_len _⟩
theorem mul16 (x : Int) : x * 2 ^ Int.toNat 4 = x * 16 := rfl
theorem mul4 (x : Int) : x * 2 ^ Int.toNat 2 = x * 4 := rfl
end Mine
end
section
open PySem PySem.W PyProof.Rows
set_option autoImplicit false
namespace Mine
theorem tbl_item {prog : Program} {w : World} {A : Around} {E : Value → Shared → Prop} {s : Shared} {value slice : PySem.Expr} {t ui : Tok} {i : Int} {Q : Value → Shared → Prop} (h0 : 0 ≤ i) (h1 : i < 64)
    (h : ∀ t' k, Q (.int (tbl i) t') { s with toks := k })
    (hs : ∀ b : Array UInt8, subscripted slice false (.bytes b t) (.int i ui) = operate [.bytes b t, .int i ui] (getItem (.bytes b t) (.int i ui)) := by intro _; with_unfolding_all rfl)
    (ht : ∀ (b : Array UInt8) r, letTemporaryGo value (.bytes b t) r = pure () := by intro _ _; with_unfolding_all rfl) :
    wpAny (model prog w) A (subscriptTail value slice (.bytes #[65, 66, 67, 68, 69, 70, 71, 72, 73, 74, 75, 76, 77, 78, 79, 80, 81, 82, 83, 84, 85, 86, 87, 88, 89, 90, 97, 98, 99, 100, 101, 102, 103, 104, 105, 106, 107, 108, 109, 110, 111, 112, 113, 114, 115, 116, 117, 118, 119, 120, 121, 122, 48, 49, 50, 51, 52, 53, 54, 55, 56, 57, 43, 47] t) (.int i ui)) Q E s :=
  KBw.item_K (ks := tblL) (by decide) (by decide) h0 (by show i < 64; exact h1) (fun t' k _ _ => h t' k) (hs _) (ht _)
local macro_rules | `(tactic| kst_facts1) => `(tactic| with_reducible exact IntsAre.nil)
local macro_rules | `(tactic| kba_in) => `(tactic| first | exact (encB_0 (by assumption)).1 | exact (encB_2 (by assumption)).1 | exact (encB_4 (by assumption)).1)
local macro_rules | `(tactic| kba_size) => `(tactic| first | ((have hl9 := (encB_0 (by assumption)).2); omega) | ((have hl9 := (encB_2 (by assumption)).2); omega) | ((have hl9 := (encB_4 (by assumption)).2); omega))
local macro_rules | `(tactic| k_room) => `(tactic| ktr_room)
local macro_rules | `(tactic| k_memK) => `(tactic| assumption)
local macro_rules | `(tactic| k_mem) => `(tactic| assumption)
local macro_rules | `(tactic| walk_at "pyIter bytes") => `(tactic| (k_here; refine Stop.to ?_))
local macro_rules | `(tactic| walk_at $s:str) => `(tactic| k_extra $s)
set_option maxRecDepth 100000 in
set_option maxHeartbeats 8000000 in
theorem encode_call (w : World) (ns : List Int) (tb : Tok) (news : List (Addr × Obj)) (hF : KBa.In ns) (hlen : ns.length < 200) :
    Ctr w 101 4 news [.bytes (byteArr ns) tb] (fun h₀ L m s Q => ∀ t h' tk', Fr h₀ L h' m → News h₀ L h' news → Q (.bytes (byteArr (encText ns)) t) { s with heap := h', toks := tk' }) := by
  k_with_none
  k_with "call type:bytes" => (k_here; (rename News _ _ _ _ => nX); (simp only [List.push_toArray] at nX); (with_reducible show wpAny _ _ (call (Value.type "bytes") [Value.ref _]) _ _ _); k_dflt (refine' KBa.make_K (by k_asm) nX (by rfl) (News.isList nX (List.Mem.head _)) (by first | exact IntsAre.append (IntsAre.append (IntsAre.append (by assumption) (.cons _ _ .nil)) (.cons _ _ .nil)) (.cons _ _ .nil) | exact IntsAre.append (IntsAre.append (by assumption) (.cons _ _ .nil)) (.cons _ _ .nil)) (by kba_in) (by kba_size) ?_); intro _ _ _ F' N' kbaIn)
  k_with "call type:type" => ((with_reducible show wpAny _ _ (call _ [Value.bytes _ _]) _ _ _); refine call_type_of (Tx := "bytes") rfl (by decide +kernel) ?_)
  k_with "binaryOp LShift int int" => (k_here; (first | refine lshift_int_small (by decide) (by decide) (encI_abs (by assumption)) ?_ | refine lshift_eq (by decide) (by decide) (by omega) (mul16 _) ?_ | refine lshift_eq (by decide) (by decide) (by omega) (mul4 _) ?_))
  k_with "binaryOp BitOr int int" => (k_here; (refine or_eq (encI_or (by assumption) (by assumption) (by assumption)) ?_))
  k_with "binaryOp BitAnd int int" => (k_here; (first | refine and_eq (and63 _) ?_ | refine and_eq (and65535 _) ?_ | refine and_eq (and3 _) ?_ | refine and_eq (and15 _) ?_))
  k_with "binaryOp RShift int int" => (k_here; (refine rshift_int (by decide) ?_))
  k_with "subscriptTail" => (k_here; (with_reducible show wpAny _ _ (subscriptTail _ _ (Value.bytes _ _) (Value.int _ _)) _ _ _); (refine tbl_item (by omega) (by omega) ?_); intro _ _)
  k_with "call builtin:list.append" => (k_here; (fail_if_success (with_reducible show wpAny _ _ (call (Value.builtin _) [Value.ref _, _]) _ _ _)); (show wpAny _ _ (call (Value.builtin _) [Value.ref _, _]) _ _ _); k_dflt (refine' append_K (by k_asm) (by k_asm) (by k_upd) ?_ (by first | ((have hl9 := encI_len (by assumption)); (simp only [List.size_toArray, Array.size_push, List.length_append, List.length_cons, List.length_nil, PySem.sizeLine_eq]); unfold encNo at hl9; omega) | size_fits)); intro h' F' N'; (try k_sweep))
  k_with "state" => first | with_reducible exact encI_nil | with_reducible exact encI_0 (by assumption) (by assumption) (by assumption) | with_reducible exact encI_2 (by assumption) (by assumption) (by assumption) | with_reducible exact encI_4 (by assumption) (by assumption) (by assumption)
  unfold Ctr
  k_fill
  intro mean mg mb dp un gd cn cs a ccd cl outer A₀ base h₀ L m s Q E B F X N T hk hdp hun hret
  refine wpAny_call ?_
  w_on
  k_dflt (refine' code_def ?k1 ?k2 ?k3 ?k4 ?k5 ?kA ?kF ?kK ?k6 ?k7 ?k8 ?k9 ?kB ?_ ?c2 ?c3 ?c4 ?c5; (case kA => exact rfl); (case kF => exact rfl); (case kK => assumption); (case k1 => k_asm); (case k2 => k_asm); (case k3 => k_asm); (case k4 => k_asm); (case k5 => k_asm); (case k6 => k_is); (case k7 => k_is); (case k8 => ktr_room); (case k9 => first | exact BindsTo.of_eq rfl | exact binds_K (by k_in) rfl (by k_is) rfl rfl rfl | fail "k_enter: no rule for these arguments"); (case c5 => decide); (case kB => exact locs rfl); (case c2 => exact rfl); (case c3 => exact rfl); (case c4 => exact rfl); k_whole; intro g' L' h' FG' F' N' B' X' T'; (try dsimp only); (try k_lift B'); (try k_fold))
  have hmk := kstMark
  k_steps
  unfold Stop
  (rename Fr _ _ _ _ => lF')
  have lF2 : Fr _ _ _ (fun y => if y = Str.ofString "leftchar" then some (Value.int 0 _) else if y = Str.ofString "leftbits" then some (Value.int 0 _) else if y = Str.ofString "out" then some (Value.ref _) else if y = Str.ofString "newline" then some (Value.bool false) else if y = Str.ofString "bin_data" then some (Value.bytes (byteArr ns) tb) else List.lookup y [(Str.ofString "newline", Value.bool false), (Str.ofString "data", Value.bytes (byteArr ns) tb)]) := lF'
  clear lF'
  k_state (fun pre out lb lc => EncI pre out lb lc) "out" "leftbits" "leftchar"
  all_goals (rcases encI_three kInv with h9 | h9 | h9 <;> subst h9)
  all_goals k_steps
  all_goals first
    | ((have e9 := encT_0 (by assumption)); subst e9; exact hret _ _ _ (by assumption) (cb_drop (by assumption) (by kcj_all)))
    | ((have e9 := encT_2 (by assumption)); rw [e9]; exact hret _ _ _ (by assumption) (cb_drop (by assumption) (by kcj_all)))
    | ((have e9 := encT_4 (by assumption)); rw [e9]; exact hret _ _ _ (by assumption) (cb_drop (by assumption) (by kcj_all)))
end Mine
end
section
open PySem PySem.W PyProof.Rows
set_option autoImplicit false
namespace Mine
open Builtin Builtin._codecs
theorem forIn_two {β : Type} (f : Nat → β → Sem (ForInStep β)) (b0 b1 : β) (h0 : ∀ k, f k b0 = pure (.yield b1)) (h1 : ∀ k, f k b1 = pure (.done b1)) (l : List Nat) : forIn l b0 f = pure (if l = [] then b0 else b1) := by
  cases l with
  | nil => simp
  | cons a r =>
    rw [List.forIn_cons, h0, pure_bind]
    cases r with
    | nil => simp
    | cons c r => (show forIn (c :: r) b1 f = _); rw [List.forIn_cons, h1, pure_bind]; simp
theorem foldl_bytes : ∀ (l : List Nat) (out : Array UInt8), l.foldl (fun acc y => acc ++ (asciiCodec.bytesOf y).toArray) out = out ++ (l.map Nat.toUInt8).toArray := by
  intro l
  induction l with
  | nil => intro out; simp
  | cons a r ih => intro out; rw [List.foldl_cons, ih]; simp [asciiCodec]
theorem enc_narrow (id : String) (self : Value) (x : PySem.Str) (hx : ∀ c ∈ x.cps, c < 128) (hsz : x.cps.size ≤ sizeLine) : encodeNarrow id asciiCodec none self x = pure (x.cps.map Nat.toUInt8) := by
  have hbad : ∀ c ∈ x.cps, asciiCodec.bad c = false := by
    intro c hc
    have := hx c hc
    simp [asciiCodec]; omega
  have hfind : Array.findIdx? asciiCodec.bad x.cps = none := by
    rw [Array.findIdx?_eq_none_iff]
    exact hbad
  by_cases he : x.cps.size = 0
  · have e0 : x.cps = #[] := Array.eq_empty_of_size_eq_zero he
    have e1 : x.length = 0 := he
    unfold encodeNarrow
    simp [e0, e1]
  unfold encodeNarrow
  simp only [Std.Legacy.Range.forIn_eq_forIn_range']
  rw [forIn_two _ ((0, #[], {}) : Nat × Array UInt8 × Faults) ((x.cps.size, x.cps.map Nat.toUInt8, {}) : Nat × Array UInt8 × Faults) ?h0 ?h1]
  case h0 =>
    intro k
    have hlt : 0 < x.cps.size := Nat.pos_of_ne_zero he
    have hg : x.cps[0]? = some x.cps[0] := Array.getElem?_eq_getElem hlt
    have hb := hbad x.cps[0] (Array.getElem_mem hlt)
    have hex : x.cps.extract 0 = x.cps := by simp
    simp only [hg, hb, hex, hfind, Option.getD_none, Array.extract_size, Bool.not_false, if_true, gt_iff_lt, Array.size_empty, Nat.not_lt_zero, if_false, Nat.zero_add]
    congr 3
    rw [← Array.foldl_toList, foldl_bytes]
    simp only [Array.empty_append]
    rw [← Array.toList_map]
  case h1 =>
    intro k
    have hn : x.cps[x.cps.size]? = none := by simp
    have hs : ¬ (x.cps.map Nat.toUInt8).size > sizeLine := by rw [Array.size_map]; omega
    simp only [hn, hs, if_false]
  simp only [pure_bind]
  have hne : List.range' 0 (Std.Legacy.Range.size [:x.length]) ≠ [] := by
    have e1 : x.length = x.cps.size := rfl
    simp only [Std.Legacy.Range.size, e1]
    intro h
    have := congrArg List.length h
    simp at this
    exact he (by rw [this]; rfl)
  rw [if_neg hne]
theorem forIn_steps {β : Type} (f : Nat → β → Sem (ForInStep β)) (g : Nat → β) (n : Nat) (h : ∀ k i, i < n → f k (g i) = pure (.yield (g (i + 1)))) : ∀ (l : List Nat) (i : Nat), i + l.length ≤ n → forIn l (g i) f = pure (g (i + l.length)) := by
  intro l
  induction l with
  | nil => intro i _; simp
  | cons a r ih =>
    intro i hi
    rw [List.length_cons] at hi
    rw [List.forIn_cons, h a i (by omega), pure_bind]
    show forIn r (g (i + 1)) f = _
    rw [ih (i + 1) (by omega), List.length_cons]
    congr 2
    omega
theorem forIn_steps0 {β : Type} (f : Nat → β → Sem (ForInStep β)) (b0 : β) (g : Nat → β) (n : Nat) (hb : b0 = g 0) (h : ∀ k i, i < n → f k (g i) = pure (.yield (g (i + 1)))) (l : List Nat) (hl : l.length = n) : forIn l b0 f = pure (g n) := by
  subst hb
  rw [forIn_steps f g n h l 0 (by omega), hl, Nat.zero_add]
theorem dec_ascii (id : String) (b : Array UInt8) (hx : ∀ c ∈ b, c.toNat < 128) (hsz : b.size ≤ sizeLine) : runDecoder id asciiDecoder none true b 0 [] = pure (b.map UInt8.toNat, b.size) := by
  unfold runDecoder
  simp only [Std.Legacy.Range.forIn_eq_forIn_range']
  rw [forIn_steps0 _ ((0, #[], { held := [] }) : Nat × Array Nat × Faults) (fun i => (i, ((b.toList.take i).map UInt8.toNat).toArray, { held := [] })) b.size ?hb ?h _ ?hl]
  case hb => simp
  case hl => simp [Std.Legacy.Range.size]
  case h =>
    intro k i hi
    have hs : ¬ ((b.toList.take i).map UInt8.toNat).toArray.size > sizeLine := by
      simp; omega
    have hi' : ¬ i ≥ b.size := by omega
    have hc : b[i].toNat < 128 := hx _ (Array.getElem_mem hi)
    have hf : asciiDecoder.find true b i = Found.text [b[i].toNat] (i + 1) := by
      show (let c := (b.getD i 0).toNat; if c < 128 then Found.char c (i + 1) else _) = _
      have hd : b.getD i 0 = b[i] := by simp [Array.getD, hi]
      simp only [hd, hc, if_true]
      rfl
    simp only [hs, if_false, hi', hf]
    congr 3
    have hi2 : i < b.toList.length := by simpa using hi
    rw [List.take_add_one, List.getElem?_eq_getElem hi2]
    simp
  simp only [pure_bind]
  congr 2
  apply Array.ext'
  simp
  exact List.take_of_length_le (by simp)
end Mine
end
section
open PySem PySem.W PyProof.Rows
set_option autoImplicit false
set_option maxRecDepth 100000
namespace Mine
open Builtin Builtin._codecs
def strOf (cs : List Int) : PySem.Str := ⟨(cs.map Int.toNat).toArray⟩
def Asc (cs : List Int) : Prop := ∀ c ∈ cs, 0 ≤ c ∧ c < 128
theorem enc_road (id : String) (self : Value) (x : PySem.Str) : encodeRoad id self x (PySem.Str.ofString "ascii") none = (encodeNarrow id asciiCodec none self x >>= fun b => mkBytes b) := by kernel_rfl
theorem enc_tree (x : PySem.Str) (t u : Tok) : «str.encode» ⟨[.str x t, .str (PySem.Str.ofString "ascii") u], []⟩ = (encodeRoad "str.encode" (.str x t) x (PySem.Str.ofString "ascii") none >>= fun v => ret v) := by kernel_rfl
theorem dec_road {id : String} {b : Array UInt8} : decodeRoad id b (PySem.Str.ofString "ascii") none [] = (runDecoder id asciiDecoder none true b 0 [] >>= fun r => mkStr ⟨r.1⟩) := by kernel_rfl
theorem dec_entry {c : UInt8} {cs : List UInt8} {t u : Tok} : «bytes.decode» ⟨[.bytes (c :: cs).toArray t, .str (PySem.Str.ofString "ascii") u], []⟩ = (mkStr (PySem.Str.ofString "utf-8") >>= fun _ => mkStr (PySem.Str.ofString "ascii") >>= fun e => mkStr (PySem.Str.ofString "bytes.decode") >>= fun d =>
    call (.builtin "_codecs.decode.text") [.bytes (c :: cs).toArray t, e, .none, d] >>= fun v => ret v) := by kernel_rfl
theorem args_dec2 (a b : Value) : argsOk "bytes.decode" ⟨[a, b], []⟩ := by unfold argsOk; kernel_rfl
theorem meets_enc (x : PySem.Str) (t u : Tok) (hx : ∀ c ∈ x.cps, c < 128) (hsz : x.cps.size ≤ sizeLine) : Meets («str.encode» ⟨[.str x t, .str (PySem.Str.ofString "ascii") u], []⟩) (fun _ R s => ∀ t' k, R (.ok (.ret (.bytes (x.cps.map Nat.toUInt8) t'))) { s with toks := k }) := by
  refine .of_wp fun prog w A R s h => ?_
  rw [enc_tree, enc_road, enc_narrow _ _ _ hx hsz]
  refine wpAny_bind (wpAny_bind (wpAny_pure ?_))
  exact wpAny_mkBytes (wpAny_pure ⟨_, rfl, h _ _⟩) (by rw [Array.size_map]; exact hsz)
theorem strOf_map (cs : List Int) : (strOf cs).cps.map Nat.toUInt8 = byteArr cs := by
  unfold strOf byteArr
  simp
theorem byteArr_map {cs : List Int} (ha : Asc cs) : (byteArr cs).map UInt8.toNat = (strOf cs).cps := by
  unfold strOf byteArr
  apply Array.ext'
  simp only [Array.toList_map, List.map_map]
  apply List.map_congr_left
  intro c hc
  have := ha c hc
  show (UInt8.ofNat c.toNat).toNat = c.toNat
  rw [UInt8.toNat_ofNat']
  omega
section
variable {prog : Program} {w : World} {A : Around} {E : Value → Shared → Prop} {s : Shared} {cs : List Int} {t u : Tok} {Q : Value → Shared → Prop}
theorem encode_rule (ha : Asc cs) (hl : cs.length ≤ 16777216) (h : ∀ t' k, Q (.bytes (byteArr cs) t') { s with toks := k }) :
    wpAny (model prog w) A (call (.builtin "str.encode") [.str (strOf cs) t, .str (PySem.Str.ofString "ascii") u]) Q E s := by
  refine call_meets F.slot_str_encode (typeIs_str _ _ _) F.entry_str_encode (F.args_str_encode_2 _ _) (meets_enc _ _ _ ?_ ?_) ?_
  · intro c hc
    unfold strOf at hc
    simp only [List.mem_toArray, List.mem_map] at hc
    obtain ⟨d, hd, rfl⟩ := hc
    have := ha d hd
    omega
  · show (cs.map Int.toNat).toArray.size ≤ _
    rw [sizeLine_eq]; simpa using hl
  · intro t' k
    rw [strOf_map]
    exact h t' k
theorem decode_rule (ha : Asc cs) (hne : cs ≠ []) (hl : cs.length ≤ 16777216) (h : ∀ t' k, Q (.str (strOf cs) t') { s with toks := k }) :
    wpAny (model prog w) A (call (.builtin "bytes.decode") [.bytes (byteArr cs) t, .str (PySem.Str.ofString "ascii") u]) Q E s := by
  have hsz : (byteArr cs).size ≤ sizeLine := by
    unfold byteArr; rw [sizeLine_eq]; simpa using hl
  have hb : ∀ c ∈ byteArr cs, c.toNat < 128 := by
    intro c hc
    unfold byteArr at hc
    simp only [List.mem_toArray, List.mem_map] at hc
    obtain ⟨d, hd, rfl⟩ := hc
    have := ha d hd
    show (UInt8.ofNat d.toNat).toNat < 128
    rw [UInt8.toNat_ofNat']
    omega
  obtain ⟨c, r, hcr⟩ : ∃ c r, byteArr cs = (c :: r).toArray := by
    cases cs with
    | nil => exact absurd rfl hne
    | cons d ds => exact ⟨d.toNat.toUInt8, ds.map fun n => n.toNat.toUInt8, rfl⟩
  have hx : ∀ id, runDecoder id asciiDecoder none true (byteArr cs) 0 [] = pure ((strOf cs).cps, (byteArr cs).size) := by
    intro id
    rw [dec_ascii id _ hb hsz, byteArr_map ha]
  have hlen : (strOf cs).length ≤ sizeLine := by
    show (cs.map Int.toNat).toArray.size ≤ _
    rw [sizeLine_eq]; simpa using hl
  have m2 : ∀ (t1 t2 : Tok) (d : PySem.Str), Meets («_codecs.decode.text» ⟨[.bytes (byteArr cs) t, .str (PySem.Str.ofString "ascii") t1, .none, .str d t2], []⟩) (fun _ R s => R (.ok (.ret (.str (strOf cs) s.toks))) { s with toks := s.toks + 1 }) := by
    intro t1 t2 d
    refine .of_wp fun prog w A R s h => ?_
    show wpAny _ _ (Bytes.bytesLike _ (.bytes (byteArr cs) t) >>= fun r => _) _ _ s
    refine wpAny_bind (wpAny_of_eq KBd.like_eq ?_)
    refine wpAny_bind (wpAny_of_eq KBd.held_eq ?_)
    show wpAny _ _ (decodeRoad _ (byteArr cs) (PySem.Str.ofString "ascii") none [] >>= fun v => _) _ _ s
    rw [dec_road, hx]
    refine wpAny_bind (wpAny_bind (wpAny_pure ?_))
    exact wpAny_mkStr (wpAny_pure ⟨_, rfl, h⟩) hlen
  have m1 : Meets («bytes.decode» ⟨[.bytes (byteArr cs) t, .str (PySem.Str.ofString "ascii") u], []⟩) (fun _ R s => ∀ t' k, R (.ok (.ret (.str (strOf cs) t'))) { s with toks := k }) := by
    refine .of_wp fun prog w A R s h => ?_
    rw [hcr, dec_entry, ← hcr]
    refine wpAny_bind (wpAny_mkStr ?_ (by decide))
    refine wpAny_bind (wpAny_mkStr ?_ (by decide))
    refine wpAny_bind (wpAny_mkStr ?_ (by decide))
    exact wpAny_bind (call_function_meets KBd.kind_text KBd.plain_text KBd.entry_text (KBd.args_text _ _ _ _) (m2 _ _ _) (wpAny_pure ⟨_, rfl, h _ _⟩))
  exact call_meets FB.slot_bytes_decode (typeIs_bytes _ _ _) FB.entry_bytes_decode (args_dec2 _ _) m1 h
end
end Mine
end
section
open PySem PySem.W PyProof.Rows
set_option autoImplicit false
namespace Mine
theorem Ctr.use {w : World} {f : Addr} {r : Nat} {news : List (Addr × Obj)} {vs : List Value} {Ret : Heap → Addr → (PySem.Str → Option Value) → Shared → (Value → Shared → Prop) → Prop} (c : Ctr w f r news vs Ret)
    {mean : ExcName → Option Value} {mg mb : PySem.Str → Option Value} {dp un : Nat} {gd : Option (List Code)} {cn : PySem.Str} {cs : Scope} {a : Addr} {ccd : Value} {cl : List (PySem.Str × Addr)} {outer : List Env} {A₀ : Around} {base h₀ : Heap} {L : Addr} {m : PySem.Str → Option Value} {s : Shared} {Q E : Value → Shared → Prop}
    (B : Below A₀ base outer h₀) (F : Fr h₀ L s.heap m) (X : (Mine.hd.heap_39 w.params).In h₀) (N : News h₀ L s.heap news)
    (T : Top Mine.hd.view_39 (looseW Mine.hd.view_39 [PySem.Str.ofString "bytes_types", PySem.Str.ofString "a2b_base64", PySem.Str.ofString "b2a_base64", PySem.Str.ofString "b64encode", PySem.Str.ofString "b64decode"]) mean mg mb h₀)
    (hk : cs.kind = .function) (hd : dp + r < recursionLimit) (hu : un + 8 * r < cLine) (R : Ret h₀ L m s Q) :
    wpAny (model PySem.Challenge.rw_qh0113_01.row.prog w) (ktrTop dp un gd cn cs L a ccd cl outer) (call (.ref f) vs) Q E s :=
  c mean mg mb dp un gd cn cs a ccd cl outer A₀ base h₀ L m s Q E B F X N T hk hd hu R
theorem Ctr.go {w : World} {f : Addr} {r : Nat} {news : List (Addr × Obj)} {vs : List Value} {Ret : Heap → Addr → (PySem.Str → Option Value) → Shared → (Value → Shared → Prop) → Prop}
    {mean : ExcName → Option Value} {mg mb : PySem.Str → Option Value} {dp un : Nat} {gd : Option (List Code)} {cn : PySem.Str} {cs : Scope} {a : Addr} {ccd : Value} {cl : List (PySem.Str × Addr)} {outer : List Env} {A₀ : Around} {base h₀ : Heap} {L : Addr} {m : PySem.Str → Option Value} {s : Shared} {Q E : Value → Shared → Prop}
    (B : Below A₀ base outer h₀ := by k_asm) (F : Fr h₀ L s.heap m := by k_asm) (X : (Mine.hd.heap_39 w.params).In h₀ := by k_asm) (N : News h₀ L s.heap news := by k_asm)
    (T : Top Mine.hd.view_39 (looseW Mine.hd.view_39 [PySem.Str.ofString "bytes_types", PySem.Str.ofString "a2b_base64", PySem.Str.ofString "b2a_base64", PySem.Str.ofString "b64encode", PySem.Str.ofString "b64decode"]) mean mg mb h₀ := by k_asm)
    (hk : cs.kind = .function := by first | exact rfl | assumption) (c : Ctr w f r news vs Ret) (hd : dp + r < recursionLimit := by ktr_room) (hu : un + 8 * r < cLine := by ktr_units) (R : Ret h₀ L m s Q) :
    wpAny (model PySem.Challenge.rw_qh0113_01.row.prog w) (ktrTop dp un gd cn cs L a ccd cl outer) (call (.ref f) vs) Q E s := c.use B F X N T hk hd hu R
def b64v (c : Int) : Int :=
  if 65 ≤ c ∧ c ≤ 90 then c - 65 else if 97 ≤ c ∧ c ≤ 122 then c - 71 else if 48 ≤ c ∧ c ≤ 57 then c + 4 else if c = 43 then 62 else if c = 47 then 63 else 64
theorem b64v_in (c : Int) : 0 ≤ b64v c ∧ b64v c ≤ 64 := by
  unfold b64v
  repeat' split
  all_goals omega
local macro_rules | `(tactic| k_room) => `(tactic| ktr_room)
set_option maxRecDepth 100000 in
set_option maxHeartbeats 8000000 in
theorem bval_call (w : World) (c : Int) (tc : Tok) (news : List (Addr × Obj)) :
    Ctr w 77 1 news [.int c tc] (fun h₀ L m s Q => ∀ t h' tk', Fr h₀ L h' m → News h₀ L h' news → Q (.int (b64v c) t) { s with heap := h', toks := tk' }) := by
  unfold Ctr
  k_fill
  intro mean mg mb dp un gd cn cs a ccd cl outer A₀ base h₀ L m s Q E B F X N T hk hdp hun hret
  refine wpAny_call ?_
  w_on
  (first | k_dflt cell_enter | fail "not entered")
  k_steps
  all_goals (refine cb_retI hret ?_ (by assumption) (by assumption))
  all_goals (unfold b64v; (repeat' split) <;> omega)
end Mine
end
section
open PySem PySem.W PyProof.Rows
set_option autoImplicit false
namespace Mine
/-- what the decoder reads: the figures and the marks behind the last of them -/
def decStep (st : List Int × Int) (c : Int) : List Int × Int :=
  if c = 61 then (st.1, st.2 + 1) else if 64 ≤ b64v c then st else (st.1 ++ [b64v c], 0)
def decF (cs : List Int) : List Int × Int := cs.foldl decStep ([], 0)
theorem decF_snoc (pre : List Int) (c : Int) : decF (pre ++ [c]) = decStep (decF pre) c := by simp [decF, List.foldl_append]
structure DecI (pre out : List Int) (quad left pads : Int) : Prop where
  hpads : pads = (decF pre).2
  hp0 : 0 ≤ pads
  hquad : quad = ((decF pre).1.length : Int) % 4
  hout : out = (octF (decF pre).1).1
  hleft : left = (octF (decF pre).1).2.1
  hroom : (octF (decF pre).1).2.2 = if quad = 0 then 1 else if quad = 1 then 64 else if quad = 2 then 16 else 4
  hlo : 0 ≤ left
  hhi : left < (octF (decF pre).1).2.2
  hlen : out.length ≤ pre.length
  hin : KBa.In out
theorem decI_nil : DecI [] [] 0 0 0 := ⟨rfl, by decide, rfl, rfl, rfl, rfl, by decide, by decide, by decide, (fun _ h => nomatch h)⟩
theorem decI_four {pre out : List Int} {quad left pads : Int} (h : DecI pre out quad left pads) : quad = 0 ∨ quad = 1 ∨ quad = 2 ∨ quad = 3 := by
  have := h.hquad; omega
theorem decI_left {pre out : List Int} {quad left pads : Int} (h : DecI pre out quad left pads) : 0 ≤ left ∧ left < 64 := by
  have h1 := h.hlo
  have h2 := h.hhi
  rw [h.hroom] at h2
  have h3 := decI_four h
  refine ⟨h1, ?_⟩
  revert h2
  repeat' split
  all_goals intro; omega
theorem decI_pad {pre out : List Int} {quad left pads : Int} (h : DecI pre out quad left pads) : DecI (pre ++ [61]) out quad left (pads + 1) := by
  obtain ⟨a, b, c, d, e, f, g, i, j, k⟩ := h
  have hs : decF (pre ++ [61]) = ((decF pre).1, (decF pre).2 + 1) := by rw [decF_snoc]; rfl
  refine ⟨by rw [hs, a], by omega, by rw [hs]; exact c, by rw [hs]; exact d, by rw [hs]; exact e, by rw [hs]; exact f, g, by rw [hs]; exact i, ?_, k⟩
  rw [List.length_append]; omega
theorem decI_skip {pre out : List Int} {quad left pads n : Int} (h : DecI pre out quad left pads) (hn : ¬ n = 61) (hb : 64 ≤ b64v n) : DecI (pre ++ [n]) out quad left pads := by
  obtain ⟨a, b, c, d, e, f, g, i, j, k⟩ := h
  have hs : decF (pre ++ [n]) = decF pre := by rw [decF_snoc, decStep, if_neg hn, if_pos hb]
  refine ⟨by rw [hs]; exact a, b, by rw [hs]; exact c, by rw [hs]; exact d, by rw [hs]; exact e, by rw [hs]; exact f, g, by rw [hs]; exact i, ?_, k⟩
  rw [List.length_append]; omega
theorem octF_snoc (pre : List Int) (n : Int) : octF (pre ++ [n]) = octStep (octF pre) n := by simp [octF, List.foldl_append]
theorem decI_fig {pre out : List Int} {quad left pads n : Int} (h : DecI pre out quad left pads) (hn : ¬ n = 61) (hb : ¬ 64 ≤ b64v n) :
    decF (pre ++ [n]) = ((decF pre).1 ++ [b64v n], 0) ∧ octF (decF (pre ++ [n])).1 = octStep (out, left, (octF (decF pre).1).2.2) (b64v n) := by
  have hs : decF (pre ++ [n]) = ((decF pre).1 ++ [b64v n], 0) := by rw [decF_snoc, decStep, if_neg hn, if_neg hb]
  refine ⟨hs, ?_⟩
  rw [hs]
  show octF ((decF pre).1 ++ [b64v n]) = _
  rw [octF_snoc, h.hout, h.hleft]
theorem decI_0 {pre out : List Int} {left pads n : Int} (h : DecI pre out 0 left pads) (hn : ¬ n = 61) (hb : ¬ 64 ≤ b64v n) : DecI (pre ++ [n]) out 1 (b64v n) 0 := by
  obtain ⟨hs, ho⟩ := decI_fig h hn hb
  have hv := b64v_in n
  have hr : (octF (decF pre).1).2.2 = 1 := h.hroom
  have hl : left = 0 := by have := h.hlo; have := h.hhi; omega
  rw [hr, hl, octStep, if_neg (by show ¬ (256 : Int) ≤ 1 * 64; decide)] at ho
  have hq := h.hquad
  have hlen := h.hlen
  refine ⟨by rw [hs], by decide, ?_, by rw [ho], by rw [ho]; show b64v n = 0 * 64 + b64v n; omega, by rw [ho]; rfl, hv.1, by rw [ho]; show b64v n < 64; omega, by rw [List.length_append]; omega, h.hin⟩
  rw [hs]; show (1 : Int) = (((decF pre).1 ++ [b64v n]).length : Int) % 4; rw [List.length_append, List.length_singleton]; omega
theorem decI_n {pre out : List Int} {quad left pads n room : Int} (h : DecI pre out quad left pads) (hn : ¬ n = 61) (hb : ¬ 64 ≤ b64v n) (hr : (octF (decF pre).1).2.2 = room) (hr2 : room = 64 ∨ room = 16 ∨ room = 4) (q' : Int) (hq' : q' = (quad + 1) % 4)
    (hr3 : room / 4 = if q' = 0 then 1 else if q' = 1 then 64 else if q' = 2 then 16 else 4) :
    DecI (pre ++ [n]) (out ++ [(left * 64 + b64v n) / (room / 4)]) q' ((left * 64 + b64v n) % (room / 4)) 0 := by
  obtain ⟨hs, ho⟩ := decI_fig h hn hb
  have hv := b64v_in n
  have hroom4 : (room * 64).fdiv 256 = room / 4 := by rw [fdiv_pos _ (by decide)]; omega
  rw [hr, octStep, if_pos (by show 256 ≤ room * 64; omega)] at ho
  simp only [hroom4] at ho
  rw [fdiv_pos _ (by omega), fmod_pos _ (by omega)] at ho
  have hq := h.hquad
  have hlen := h.hlen
  have hlo := h.hlo
  have hhi := h.hhi
  rw [hr] at hhi
  have hbd : 0 ≤ (left * 64 + b64v n) / (room / 4) ∧ (left * 64 + b64v n) / (room / 4) < 256 := by
    rcases hr2 with rfl | rfl | rfl
    · have e : (64 : Int) / 4 = 16 := by decide
      rw [e]; omega
    · have e : (16 : Int) / 4 = 4 := by decide
      rw [e]; omega
    · have e : (4 : Int) / 4 = 1 := by decide
      rw [e]; omega
  refine ⟨by rw [hs], by decide, ?_, by rw [ho], by rw [ho], by rw [ho]; exact hr3, Int.emod_nonneg _ (by omega), by rw [ho]; exact Int.emod_lt_of_pos _ (by omega), by rw [List.length_append, List.length_append]; simp; omega, in_snoc h.hin hbd.1 hbd.2⟩
  rw [hs, hq', hq]; show _ = (((decF pre).1 ++ [b64v n]).length : Int) % 4; rw [List.length_append, List.length_singleton]; omega
theorem decI_1 {pre out : List Int} {left pads n : Int} (h : DecI pre out 1 left pads) (hn : ¬ n = 61) (hb : ¬ 64 ≤ b64v n) : DecI (pre ++ [n]) (out ++ [left * 4 + b64v n / 16]) 2 (b64v n % 16) 0 := by
  have := decI_n h hn hb h.hroom (.inl rfl) 2 (by decide) (by decide)
  have hv := b64v_in n
  have e : (64 : Int) / 4 = 16 := by decide
  have e2 : (left * 64 + b64v n) / (64 / 4) = left * 4 + b64v n / 16 := by rw [e]; omega
  have e3 : (left * 64 + b64v n) % (64 / 4) = b64v n % 16 := by rw [e]; omega
  have e4 : (if (1 : Int) = 0 then (1 : Int) else if (1 : Int) = 1 then 64 else if (1 : Int) = 2 then 16 else 4) = 64 := by decide
  rw [e4, e2, e3] at this
  exact this
theorem decI_2 {pre out : List Int} {left pads n : Int} (h : DecI pre out 2 left pads) (hn : ¬ n = 61) (hb : ¬ 64 ≤ b64v n) : DecI (pre ++ [n]) (out ++ [left * 16 + b64v n / 4]) 3 (b64v n % 4) 0 := by
  have := decI_n h hn hb h.hroom (.inr (.inl rfl)) 3 (by decide) (by decide)
  have hv := b64v_in n
  have e : (16 : Int) / 4 = 4 := by decide
  have e4 : (if (2 : Int) = 0 then (1 : Int) else if (2 : Int) = 1 then 64 else if (2 : Int) = 2 then 16 else 4) = 16 := by decide
  have e2 : (left * 64 + b64v n) / (16 / 4) = left * 16 + b64v n / 4 := by rw [e]; omega
  have e3 : (left * 64 + b64v n) % (16 / 4) = b64v n % 4 := by rw [e]; omega
  rw [e4, e2, e3] at this
  exact this
theorem decI_3 {pre out : List Int} {left pads n : Int} (h : DecI pre out 3 left pads) (hn : ¬ n = 61) (hb : ¬ 64 ≤ b64v n) : DecI (pre ++ [n]) (out ++ [left * 64 + b64v n]) 0 0 0 := by
  have := decI_n h hn hb h.hroom (.inr (.inr rfl)) 0 (by decide) (by decide)
  have hv := b64v_in n
  have e : (4 : Int) / 4 = 1 := by decide
  have e4 : (if (3 : Int) = 0 then (1 : Int) else if (3 : Int) = 1 then 64 else if (3 : Int) = 2 then 16 else 4) = 4 := by decide
  have e2 : (left * 64 + b64v n) / (4 / 4) = left * 64 + b64v n := by rw [e]; omega
  have e3 : (left * 64 + b64v n) % (4 / 4) = 0 := by rw [e]; omega
  rw [e4, e2, e3] at this
  exact this
end Mine
end
section
open PySem PySem.W PyProof.Rows
set_option autoImplicit false
namespace Mine
section
variable {prog : Program} {w : World} {A : Around} {E : Value → Shared → Prop} {s : Shared}
theorem and_off {h₀ : Heap} {L a : Addr} {m : PySem.Str → Option Value} {name x y : PySem.Str} {scope : Scope} {cd : Value} {px py pos : Pos} {whole : Sem Value} {i : Int} {t : Tok} {Q : Bool → Shared → Prop} (F : Fr h₀ L s.heap m) (hx : m x = some (.int i t)) (hy : m y = some (.bool false))
    (h : Q false s) (hk : scope.kind = .function := by rfl) (h1 : (envOf name scope L a cd).kindOf x = some .local := by rfl) (h2 : (envOf name scope L a cd).kindOf y = some .local := by rfl) (d1 : (x == ("__debug__" : PySem.Str)) = false := by decide) (d2 : (y == ("__debug__" : PySem.Str)) = false := by decide) :
    wpAny (model prog w) A (isTrue (.BoolOp .And [.Name x px, .Name y py] pos) (envOf name scope L a cd) whole) Q E s := by
  refine isTrue_and (isTrue_plain (ld F hx (truthy_int ?_) hk h1 d1))
  cases (i != 0) with
  | false => exact h
  | true => exact isTrue_and (isTrue_plain (ld F hy (wpAny_truthy_bool h) hk h2 d2))
theorem encode_method {M : Model} {t : Tok} {x : PySem.Str} {pl : Sem Bool} {Q : Value × List Value → Shared → Prop} (h : Q (.builtin "str.encode", [.str x t]) s) : wpAny M A (getMethod (.str x t) "encode" pl) Q E s := by
  with_reducible exact GM.of (.str x t) (typeIs_str _ _ _) F.slot_str_encode F.type_str_encode GM.noRef h
end
/-- a call from the law's own frame: nothing but the law below it -/
def Ctr0 (w : World) (f : Addr) (r : Nat) (news : List (Addr × Obj)) (vs : List Value) (Ret : Heap → Addr → (PySem.Str → Option Value) → Shared → (Value → Shared → Prop) → Prop) : Prop :=
  ∀ (mean : ExcName → Option Value) (mg mb : PySem.Str → Option Value) (dp un : Nat) (gd : Option (List Code)) (cn : PySem.Str) (cs : Scope) (a : Addr) (ccd : Value) (A₀ : Around) (h₀ : Heap) (L : Addr) (m : PySem.Str → Option Value) (s : Shared) (Q E : Value → Shared → Prop),
    Below A₀ h₀ [] h₀ → Fr h₀ L s.heap m → (Mine.hd.heap_39 w.params).In h₀ → News h₀ L s.heap news →
    Top Mine.hd.view_39 (looseW Mine.hd.view_39 [PySem.Str.ofString "bytes_types", PySem.Str.ofString "a2b_base64", PySem.Str.ofString "b2a_base64", PySem.Str.ofString "b64encode", PySem.Str.ofString "b64decode"]) mean mg mb h₀ →
    cs.kind = .function → dp + r < recursionLimit → un + 8 * r < cLine → Ret h₀ L m s Q →
    wpAny (model PySem.Challenge.rw_qh0113_01.row.prog w) { handled := none, depth := dp, frames := some [envOf cn cs L a ccd], guards := gd, units := un } (call (.ref f) vs) Q E s
theorem Ctr0.use {w : World} {f : Addr} {r : Nat} {news : List (Addr × Obj)} {vs : List Value} {Ret : Heap → Addr → (PySem.Str → Option Value) → Shared → (Value → Shared → Prop) → Prop} (c : Ctr0 w f r news vs Ret)
    {mean : ExcName → Option Value} {mg mb : PySem.Str → Option Value} {dp un : Nat} {gd : Option (List Code)} {cn : PySem.Str} {cs : Scope} {a : Addr} {ccd : Value} {A₀ : Around} {h₀ : Heap} {L : Addr} {m : PySem.Str → Option Value} {s : Shared} {Q E : Value → Shared → Prop}
    (B : Below A₀ h₀ [] h₀) (F : Fr h₀ L s.heap m) (X : (Mine.hd.heap_39 w.params).In h₀) (N : News h₀ L s.heap news)
    (T : Top Mine.hd.view_39 (looseW Mine.hd.view_39 [PySem.Str.ofString "bytes_types", PySem.Str.ofString "a2b_base64", PySem.Str.ofString "b2a_base64", PySem.Str.ofString "b64encode", PySem.Str.ofString "b64decode"]) mean mg mb h₀)
    (hk : cs.kind = .function) (hd : dp + r < recursionLimit) (hu : un + 8 * r < cLine) (R : Ret h₀ L m s Q) :
    wpAny (model PySem.Challenge.rw_qh0113_01.row.prog w) { handled := none, depth := dp, frames := some [envOf cn cs L a ccd], guards := gd, units := un } (call (.ref f) vs) Q E s :=
  c mean mg mb dp un gd cn cs a ccd A₀ h₀ L m s Q E B F X N T hk hd hu R
theorem Ctr0.go {w : World} {f : Addr} {r : Nat} {news : List (Addr × Obj)} {vs : List Value} {Ret : Heap → Addr → (PySem.Str → Option Value) → Shared → (Value → Shared → Prop) → Prop}
    {mean : ExcName → Option Value} {mg mb : PySem.Str → Option Value} {dp un : Nat} {gd : Option (List Code)} {cn : PySem.Str} {cs : Scope} {a : Addr} {ccd : Value} {A₀ : Around} {h₀ : Heap} {L : Addr} {m : PySem.Str → Option Value} {s : Shared} {Q E : Value → Shared → Prop}
    (B : Below A₀ h₀ [] h₀ := by k_asm) (F : Fr h₀ L s.heap m := by k_asm) (X : (Mine.hd.heap_39 w.params).In h₀ := by k_asm) (N : News h₀ L s.heap news := by k_asm)
    (T : Top Mine.hd.view_39 (looseW Mine.hd.view_39 [PySem.Str.ofString "bytes_types", PySem.Str.ofString "a2b_base64", PySem.Str.ofString "b2a_base64", PySem.Str.ofString "b64encode", PySem.Str.ofString "b64decode"]) mean mg mb h₀ := by k_asm)
    (hk : cs.kind = .function := by first | exact rfl | assumption) (c : Ctr0 w f r news vs Ret) (hd : dp + r < recursionLimit := by ktr_room) (hu : un + 8 * r < cLine := by ktr_units) (R : Ret h₀ L m s Q) :
    wpAny (model PySem.Challenge.rw_qh0113_01.row.prog w) { handled := none, depth := dp, frames := some [envOf cn cs L a ccd], guards := gd, units := un } (call (.ref f) vs) Q E s := c.use B F X N T hk hd hu R
end Mine
end
section
open PySem PySem.W PyProof.Rows
set_option autoImplicit false
set_option maxRecDepth 100000
namespace Mine
set_option maxHeartbeats 2000000 in
theorem meets_sho (x y : PySem.Str) (n : Int) (t tx tn ty : Tok) (b : Addr) (hx : x.length ≤ 1000) (hy : y.length ≤ 1000) (hn : 0 ≤ n) (hn2 : n < 10 ^ 10) :
   Meets (Builtin.«str.__mod__» ⟨[.str (PySem.Str.mk #[37,115,91,37,100,32,99,104,97,114,115,93,37,115]) t, .ref b], []⟩) (fun _ R s => IsTup s.heap b #[.str x tx, .int n tn, .str y ty] ∧ ∀ t' k, R (.ok (.ret (.str (x ++ Str.ofString "[" ++ Str.ofString (toString n) ++ Str.ofString " chars]" ++ y) t'))) { s with toks := k }) := by
  kpt_run
end Mine
end
section
open PySem PySem.W PyProof.Rows
set_option autoImplicit false
namespace Mine
theorem strOf_len (cs : List Int) : (strOf cs).length = cs.length := by
  show (cs.map Int.toNat).toArray.size = _
  simp
theorem strOf_len1 {cs : List Int} (h : cs.length < 500) : (strOf cs).length ≤ 1000 := by rw [strOf_len]; omega
/-- the text of a number -/
def decT (n : Int) : List Int := if n < 100 then [48 + n / 10, 48 + n % 10] else [48 + n / 100, 48 + n / 10 % 10, 48 + n % 10]
def shortF (cs : List Int) (ah be : Int) : List Int :=
  if 12 < (cs.length : Int) - ah - be then cs.take ah.toNat ++ [91] ++ decT ((cs.length : Int) - ah - be) ++ [32, 99, 104, 97, 114, 115, 93] ++ cs.drop (cs.length - be.toNat) else cs
theorem sl_upto (cs : List Int) {j : Int} (h0 : 0 ≤ j) (h1 : j ≤ cs.length) : Txt.slice (strOf cs) none (some j) = strOf (cs.take j.toNat) := by
  have e := beq_iff_eq.mp (slice_closes_toL (x := strOf cs) (j := j) h0 (by rw [strOf_len]; exact h1))
  rw [e]
  unfold strOf
  simp [List.map_take]
theorem sl_from (cs : List Int) {i : Int} (h0 : 0 ≤ i) (h1 : i ≤ cs.length) : Txt.slice (strOf cs) (some i) none = strOf (cs.drop i.toNat) := by
  rw [slice_from_eq (x := strOf cs) (i := i) (b := (cs.length : Int)) h0 (by rw [strOf_len]; exact h1) (by rw [strOf_len])]
  unfold strOf
  simp only [List.map_drop]
  rw [List.take_of_length_le (by simp; omega)]
theorem strOf_app (a b : List Int) : strOf a ++ strOf b = strOf (a ++ b) := by
  show PySem.Str.mk ((strOf a).cps ++ (strOf b).cps) = _
  unfold strOf
  simp
theorem decT_nat : ∀ n : Nat, n < 500 → 10 ≤ n → (toString (n : Int)).toList.map Char.toNat = (decT (n : Int)).map Int.toNat := by decide +kernel
theorem ofString_decT {n : Int} (h0 : 10 ≤ n) (h1 : n < 500) : Str.ofString (toString n) = strOf (decT n) := by
  have e := decT_nat n.toNat (by omega) (by omega)
  rw [show ((n.toNat : Nat) : Int) = n by omega] at e
  unfold strOf
  rw [← e, ← signs_ofString]
theorem sho_text {cs : List Int} {ah be : Int} (h0 : 0 ≤ ah) (h1 : ah ≤ cs.length) (h2 : 0 ≤ be) (h3 : be ≤ cs.length) (hs : 12 < (cs.length : Int) - ah - be) (hl : cs.length < 500) :
    Txt.slice (strOf cs) none (some ah) ++ Str.ofString "[" ++ Str.ofString (toString ((cs.length : Int) - ah - be)) ++ Str.ofString " chars]" ++ Txt.slice (strOf cs) (some ((cs.length : Int) - be)) none = strOf (shortF cs ah be) := by
  rw [sl_upto cs h0 h1, sl_from cs (by omega) (by omega), ofString_decT (by omega) (by omega), show Str.ofString "[" = strOf [91] by decide +kernel, show Str.ofString " chars]" = strOf [32, 99, 104, 97, 114, 115, 93] by decide +kernel,
    strOf_app, strOf_app, strOf_app, strOf_app, shortF, if_pos hs]
  congr 3
  omega
end Mine
end
section
open PySem PySem.W PyProof.Rows
set_option autoImplicit false
namespace Mine
section
variable {prog : Program} {w : World} {A : Around} {E : Value → Shared → Prop} {s : Shared} {cs : List Int} {t : Tok} {Q : Value → Shared → Prop}
theorem len_rule (hl : cs.length ≤ 16777216) (h : Q (.int (cs.length : Int) (s.toks + 1)) { s with toks := s.toks + 1 + 1 }) : wpAny (model prog w) A (call (.builtin "len") [.str (strOf cs) t]) Q E s :=
  len_str (by rw [strOf_len]; omega) (by rw [strOf_len]; exact h)
theorem sho_mod {L : Addr} {h₀ : Heap} {news : List (Addr × Obj)} {b : Addr} {tx tn ty : Tok} {ah be j : Int} {n : Nat} (N : News h₀ L s.heap news) (hb : (b, ({ cls := .type "tuple", data := .seq #[.str (Txt.slice (strOf cs) none (some ah)) tx, .int ((cs.length : Int) - ah - be) tn, .str (Txt.slice (strOf cs) (some j) none) ty] n } : Obj)) ∈ news)
    (hj : j = (cs.length : Int) - be) (h0 : 0 ≤ ah) (h1 : ah ≤ cs.length) (h2 : 0 ≤ be) (h3 : be ≤ cs.length) (hs : 12 < (cs.length : Int) - ah - be) (hl : cs.length < 500)
    (h : ∀ t' k, Q (.str (strOf (shortF cs ah be)) t') { s with toks := k }) : wpAny (model prog w) A (binaryOp .Mod (.str (Str.ofString "%s[%d chars]%s") t) (.ref b)) Q E s := by
  subst hj
  refine KPt.mod_tuple (X' := PySem.Str.mk #[37,115,91,37,100,32,99,104,97,114,115,93,37,115]) N hb (by decide +kernel) (meets_sho _ _ _ _ _ _ _ _ ?_ ?_ (by omega) (by omega)) ?_
  · exact Nat.le_trans (PyProof.Txt.length_slice_le _ _ _) (strOf_len1 hl)
  · exact Nat.le_trans (PyProof.Txt.length_slice_le _ _ _) (strOf_len1 hl)
  · rw [sho_text h0 h1 h2 h3 hs hl]; exact h
theorem sho_none {ah be : Int} (hs : ¬ 12 < (cs.length : Int) - ah - be) : strOf cs = strOf (shortF cs ah be) := by rw [shortF, if_neg hs]
end
local macro_rules | `(tactic| k_room) => `(tactic| ktr_room)
local macro_rules | `(tactic| k_memK) => `(tactic| assumption)
local macro_rules | `(tactic| size_fits) => `(tactic| ((rw [strOf_len, PySem.sizeLine_eq]); omega))
local macro_rules | `(tactic| walk_at $s:str) => `(tactic| k_extra $s)
set_option maxRecDepth 100000 in
set_option maxHeartbeats 2000000 in
theorem shorten_call (w : World) (cs : List Int) (tb ta tc : Tok) (ah be : Int) (news : List (Addr × Obj)) (hlen : cs.length < 500) (h0 : 0 ≤ ah) (h1 : ah ≤ 12) (h2 : 0 ≤ be) (h3 : be ≤ 12) (h4 : 24 ≤ cs.length) :
    Ctr w 28 1 news [.str (strOf cs) tb, .int ah ta, .int be tc] (fun h₀ L m s Q => ∀ t h' tk', Fr h₀ L h' m → News h₀ L h' news → Q (.str (strOf (shortF cs ah be)) t) { s with heap := h', toks := tk' }) := by
  k_with_none
  k_with "call builtin:len" => (k_here; (with_reducible show wpAny _ _ (call (Value.builtin "len") [Value.str _ _]) _ _ _); (refine len_rule (by omega) ?_))
  k_with "binaryOp Mod str ref" => (k_here; k_dflt (refine' sho_mod (by k_asm) (by exact List.Mem.head _) (by rfl) (by assumption) (by omega) (by assumption) (by omega) (by assumption) (by assumption) ?_); intro _ _)
  unfold Ctr
  k_fill
  intro mean mg mb dp un gd cn csc a ccd cl outer A₀ base h₀ L m s Q E B F X N T hk hdp hun hret
  refine wpAny_call ?_
  w_on
  (first | k_dflt cell_enter | fail "not entered")
  have hmk := kstMark
  k_steps
  · exact hret _ _ _ (by assumption) (cb_drop (by assumption) (by kcj_all))
  · rw [sho_none (by assumption)]
    exact hret _ _ _ (by assumption) (cb_drop (by assumption) (by kcj_all))
end Mine
end
section
open PySem PySem.W PyProof.Rows
set_option autoImplicit false
namespace Mine
def optV (o : Option (List Int)) (t : Tok) : Value := match o with | none => .none | some b => .bytes (byteArr b) t
def cnt (skip : Int) : List Int := if 100 ≤ skip then [52 + skip / 100 % 10, 52 + skip / 10 % 10, 52 + skip / 1 % 10] else [52 + skip / 10 % 10, 52 + skip / 1 % 10]
def keptF (fs : List Int) (ah be : Int) : List Int := fs.take ah.toNat ++ cnt ((fs.length : Int) + (-(fs.length : Int)) % 4 - ah - be) ++ [28, 33, 26, 43, 44] ++ fs.drop (fs.length - (be - min ((-(fs.length : Int)) % 4) be).toNat)
def dueF (ns fs : List Int) (ah be : Int) : Option (List Int) :=
  if (fs.length : Int) + (-(fs.length : Int)) % 4 - ah - be ≤ 12 then some ns
  else if ((keptF fs ah be).length : Int) % 4 = 1 ∨ 1 < ((keptF fs ah be).length : Int) % 4 ∧ ((keptF fs ah be).length : Int) % 4 + min ((-(fs.length : Int)) % 4) be < 4 then none
  else some (octF (keptF fs ah be)).1
/-- what the decoder refuses -/
abbrev Bad (cs : List Int) : Prop := (decF cs).1.length % 4 = 1 ∨ ((decF cs).1.length % 4 ≠ 0 ∧ ((decF cs).1.length % 4 : Nat) + (decF cs).2 < 4)
def readF (cs : List Int) : Option (List Int) := if Bad cs then none else some (octF (decF cs).1).1
end Mine
end
section
open PySem PySem.W PyProof.Rows
set_option autoImplicit false
namespace Mine
theorem digs_in (n : Nat) : ∀ v : Int, Fig (digs n v) := by
  induction n with
  | zero => intro v x h; exact nomatch h
  | succ n ih =>
    intro v x h
    rw [digs] at h
    rcases List.mem_append.mp h with h | h
    · exact ih _ x h
    · rw [List.mem_singleton.mp h]; omega
theorem digs_get : ∀ (n : Nat) (v : Int), 0 ≤ v → digs n v = (List.range n).map fun k => v / 64 ^ (n - 1 - k) % 64 := by
  intro n
  induction n with
  | zero => intro v _; rfl
  | succ n ih =>
    intro v hv
    rw [digs, ih _ (Int.ediv_nonneg hv (by decide)), List.range_succ, List.map_append, List.map_singleton]
    congr 1
    · apply List.map_congr_left
      intro k hk
      have hk' := List.mem_range.mp hk
      have e : n + 1 - 1 - k = (n - 1 - k) + 1 := by omega
      rw [e, Int.pow_succ, Int.ediv_ediv_of_nonneg (by decide), Int.mul_comm]
    · simp
theorem figCount_nat (ns : List Int) : figCount ns = ((ns.length * 4 + 2) / 3 : Nat) := by
  unfold figCount
  rw [fdiv_pos _ (by decide)]
  omega
theorem rangeKs_nat (n : Nat) : rangeKs 0 n = (List.range n).map (fun k : Nat => (k : Int)) := by
  unfold rangeKs
  simp
theorem figVal_nonneg {ns : List Int} (h : KBa.In ns) : 0 ≤ figVal ns := by
  unfold figVal
  exact Int.mul_nonneg (valF_nonneg h) (Int.le_of_lt (kbt_pos _))
theorem figF_digs {ns : List Int} (h : KBa.In ns) : figF ns = digs ((ns.length * 4 + 2) / 3) (figVal ns) := by
  rw [digs_get _ _ (figVal_nonneg h)]
  unfold figF
  rw [figCount_nat, show (((((ns.length * 4 + 2) / 3 : Nat) : Int) - 0).toNat) = (ns.length * 4 + 2) / 3 by omega, rangeKs_nat, List.map_map]
  apply List.map_congr_left
  intro k hk
  have hk' := List.mem_range.mp hk
  show ((figVal ns).fdiv (64 ^ ((((ns.length * 4 + 2) / 3 : Nat) : Int) - 1 - (k : Int)).toNat)).fmod 64 = _
  have e : ((((ns.length * 4 + 2) / 3 : Nat) : Int) - 1 - (k : Int)).toNat = (ns.length * 4 + 2) / 3 - 1 - k := by omega
  rw [e, fmod_pos _ (by decide), fdiv_pos _ (Int.le_of_lt (Int.pow_pos (by decide)))]
theorem figF_len {ns : List Int} (h : KBa.In ns) : (figF ns).length = (ns.length * 4 + 2) / 3 := by rw [figF_digs h, digs_len]
theorem figF_in {ns : List Int} (h : KBa.In ns) : Fig (figF ns) := by rw [figF_digs h]; exact digs_in _ _

/-- the text is the figures' signs, filled up -/
theorem encText_figF {ns : List Int} (h : KBa.In ns) : encText ns = (figF ns).map tbl ++ List.replicate ((-((figF ns).length : Int)) % 4).toNat 61 := by
  have hv := valF_nonneg h
  rw [figF_len h, figF_digs h]
  unfold encText encOut
  have hm : ns.length % 3 = 0 ∨ ns.length % 3 = 1 ∨ ns.length % 3 = 2 := by omega
  rcases hm with hm | hm | hm
  · rw [if_pos hm]
    have e1 : (encLb ns).toNat = 0 := by unfold encLb; omega
    have e2 : encNo ns = (ns.length * 4 + 2) / 3 := by unfold encNo; omega
    have e3 : (-(((ns.length * 4 + 2) / 3 : Nat) : Int) % 4).toNat = 0 := by omega
    have e4 : (figCount ns * 6 - (ns.length : Int) * 8).toNat = 0 := by rw [figCount_nat]; omega
    rw [e1, e2, e3, figVal, e4, show (2 : Int) ^ 0 = 1 by decide, Int.ediv_one, Int.mul_one]
    simp
  · rw [if_neg (by omega), if_pos hm]
    have e1 : (encLb ns).toNat = 2 := by unfold encLb; omega
    have e2 : (ns.length * 4 + 2) / 3 = encNo ns + 1 := by unfold encNo; omega
    have e3 : (-(((ns.length * 4 + 2) / 3 : Nat) : Int) % 4).toNat = 2 := by omega
    have e4 : (figCount ns * 6 - (ns.length : Int) * 8).toNat = 4 := by rw [figCount_nat]; omega
    have e5 : valF ns * 16 / 64 = valF ns / 4 := by omega
    have e6 : valF ns * 16 % 64 = valF ns % 65536 % 4 * 16 := by omega
    rw [e3, e1, figVal, e4, e2, digs, show (2 : Int) ^ 2 = 4 by decide, show (2 : Int) ^ 4 = 16 by decide, e5, e6]
    simp [List.replicate]
  · rw [if_neg (by omega), if_neg (by omega)]
    have e1 : (encLb ns).toNat = 4 := by unfold encLb; omega
    have e2 : (ns.length * 4 + 2) / 3 = encNo ns + 1 := by unfold encNo; omega
    have e3 : (-(((ns.length * 4 + 2) / 3 : Nat) : Int) % 4).toNat = 1 := by omega
    have e4 : (figCount ns * 6 - (ns.length : Int) * 8).toNat = 2 := by rw [figCount_nat]; omega
    have e5 : valF ns * 4 / 64 = valF ns / 16 := by omega
    have e6 : valF ns * 4 % 64 = valF ns % 65536 % 16 * 4 := by omega
    rw [e3, e1, figVal, e4, e2, digs, show (2 : Int) ^ 4 = 16 by decide, show (2 : Int) ^ 2 = 4 by decide, e5, e6]
    simp [List.replicate]

/-- the octets of the figures of a number -/
structure OctV (c : Nat) (v : Int) (st : List Int × Int × Int) : Prop where
  hroom : st.2.2 = 2 ^ (6 * c % 8)
  hval : valF st.1 * st.2.2 + st.2.1 = v
  hlo : 0 ≤ st.2.1
  hhi : st.2.1 < st.2.2
  hlen : st.1.length = 6 * c / 8
  hin : KBa.In st.1
theorem octV_emit {c : Nat} {v kept q : Int} {row : List Int} (hq : 0 < q) (hr : q = 2 ^ (6 * (c + 1) % 8)) (hl : 6 * (c + 1) / 8 = 6 * c / 8 + 1) (h : OctV c (v / 64) (row, kept, 4 * q)) : OctV (c + 1) v (octStep (row, kept, 4 * q) (v % 64)) := by
  obtain ⟨_, h2, h3, h4, h5, h6⟩ := h
  simp only at h2 h3 h4 h5 h6
  have e0 : (4 * q * 64).fdiv 256 = q := by rw [fdiv_pos _ (by decide)]; omega
  have e : octStep (row, kept, 4 * q) (v % 64) = (row ++ [(kept * 64 + v % 64) / q], (kept * 64 + v % 64) % q, q) := by
    unfold octStep; simp only []; rw [if_pos (by show (256 : Int) ≤ 4 * q * 64; omega), e0, fdiv_pos _ (Int.le_of_lt hq), fmod_pos _ (Int.le_of_lt hq)]
  rw [e]
  have x0 : 0 ≤ kept * 64 + v % 64 := by omega
  have x1 : kept * 64 + v % 64 < 256 * q := by omega
  have x2 := Int.mul_ediv_add_emod (kept * 64 + v % 64) q
  have x3 := Int.ediv_nonneg x0 (Int.le_of_lt hq)
  have x4 := Int.ediv_lt_of_lt_mul hq x1
  refine ⟨hr, ?_, Int.emod_nonneg _ (Int.ne_of_gt hq), Int.emod_lt_of_pos _ hq, ?_, in_snoc h6 x3 x4⟩
  · show valF (row ++ [(kept * 64 + v % 64) / q]) * q + (kept * 64 + v % 64) % q = v
    rw [valF_snoc, Int.add_mul, Int.mul_comm _ q, ← Int.mul_assoc, Int.mul_comm ((kept * 64 + v % 64) / q) q, Int.add_assoc, x2]
    rw [Int.mul_comm 4 q, ← Int.mul_assoc, Int.mul_comm _ q] at h2
    omega
  · show (row ++ [_]).length = _
    rw [List.length_append, h5, hl]; rfl
theorem octV_step {c : Nat} {v : Int} {st : List Int × Int × Int} (h : OctV c (v / 64) st) : OctV (c + 1) v (octStep st (v % 64)) := by
  obtain ⟨row, kept, room⟩ := st
  have h1 : room = 2 ^ (6 * c % 8) := h.hroom
  have hm : 6 * c % 8 = 0 ∨ 6 * c % 8 = 6 ∨ 6 * c % 8 = 4 ∨ 6 * c % 8 = 2 := by omega
  rcases hm with hm | hm | hm | hm
  · rw [hm] at h1
    have h1' : room = 1 := h1
    subst h1'
    obtain ⟨_, h2, h3, h4, h5, h6⟩ := h
    simp only at h2 h3 h4 h5 h6
    have e : octStep (row, kept, 1) (v % 64) = (row, kept * 64 + v % 64, 1 * 64) := by
      unfold octStep; rw [if_neg (by show ¬ (256 : Int) ≤ 1 * 64; decide)]
    rw [e]
    refine ⟨?_, ?_, ?_, ?_, ?_, h6⟩ <;> simp only
    · rw [show 6 * (c + 1) % 8 = 6 by omega]; decide
    all_goals omega
  all_goals
    rw [hm] at h1
    subst h1
  · exact octV_emit (q := 16) (by decide) (by rw [show 6 * (c + 1) % 8 = 4 by omega]; decide) (by omega) h
  · exact octV_emit (q := 4) (by decide) (by rw [show 6 * (c + 1) % 8 = 2 by omega]; decide) (by omega) h
  · exact octV_emit (q := 1) (by decide) (by rw [show 6 * (c + 1) % 8 = 0 by omega]; decide) (by omega) h
theorem octV_digs : ∀ (c : Nat) (v : Int), 0 ≤ v → v < 64 ^ c → OctV c v (octF (digs c v)) := by
  intro c
  induction c with
  | zero =>
    intro v h0 h1
    have : v = 0 := by rw [Int.pow_zero] at h1; omega
    subst this
    exact ⟨rfl, rfl, by decide, by decide, rfl, fun _ h => nomatch h⟩
  | succ c ih =>
    intro v h0 h1
    rw [digs, octF_snoc]
    refine octV_step (ih _ (Int.ediv_nonneg h0 (by decide)) ?_)
    rw [Int.pow_succ] at h1
    exact Int.ediv_lt_of_lt_mul (by decide) h1
theorem valF_lt {ns : List Int} (h : KBa.In ns) : valF ns < 256 ^ ns.length := by
  have : ∀ (k : Nat) (l : List Int), l.length = k → KBa.In l → valF l < 256 ^ k := by
    intro k
    induction k with
    | zero =>
      intro l hl _
      have : l = [] := List.length_eq_zero_iff.mp hl
      subst this; decide
    | succ k ih =>
      intro l hl hi
      obtain ⟨pre, o, rfl⟩ : ∃ pre o, l = pre ++ [o] := by
        have hne : l ≠ [] := by intro e; subst e; simp at hl
        exact ⟨l.dropLast, l.getLast hne, (List.dropLast_concat_getLast hne).symm⟩
      have hl' : pre.length = k := by simpa using hl
      have := ih pre hl' (fun n hn => hi n (List.mem_append_left _ hn))
      have ho := hi o (by simp)
      rw [valF_snoc, Int.pow_succ]
      omega
  exact this _ _ rfl h
theorem valF_inj : ∀ (k : Nat) (a b : List Int), a.length = k → b.length = k → KBa.In a → KBa.In b → valF a = valF b → a = b := by
  intro k
  induction k with
  | zero =>
    intro a b ha hb _ _ _
    rw [List.length_eq_zero_iff.mp ha, List.length_eq_zero_iff.mp hb]
  | succ k ih =>
    intro a b ha hb ia ib e
    obtain ⟨p, x, rfl⟩ : ∃ pre o, a = pre ++ [o] := by
      have hne : a ≠ [] := by intro e; subst e; simp at ha
      exact ⟨a.dropLast, a.getLast hne, (List.dropLast_concat_getLast hne).symm⟩
    obtain ⟨q, y, rfl⟩ : ∃ pre o, b = pre ++ [o] := by
      have hne : b ≠ [] := by intro e; subst e; simp at hb
      exact ⟨b.dropLast, b.getLast hne, (List.dropLast_concat_getLast hne).symm⟩
    rw [valF_snoc, valF_snoc] at e
    have hx := ia x (by simp)
    have hy := ib y (by simp)
    have := ih p q (by simpa using ha) (by simpa using hb) (fun n hn => ia n (List.mem_append_left _ hn)) (fun n hn => ib n (List.mem_append_left _ hn)) (by omega)
    subst this
    have : x = y := by omega
    subst this
    rfl
/-- the octets of a row's figures are the row -/
theorem octF_figF {ns : List Int} (h : KBa.In ns) : (octF (figF ns)).1 = ns := by
  have hlt := valF_lt h
  have h0 := valF_nonneg h
  have hp : figVal ns < 64 ^ ((ns.length * 4 + 2) / 3) := by
    unfold figVal
    have e4 : (figCount ns * 6 - (ns.length : Int) * 8).toNat = 6 * ((ns.length * 4 + 2) / 3) - 8 * ns.length := by rw [figCount_nat]; omega
    have e5 : (64 : Int) ^ ((ns.length * 4 + 2) / 3) = 256 ^ ns.length * 2 ^ (6 * ((ns.length * 4 + 2) / 3) - 8 * ns.length) := by
      rw [show (64 : Int) = 2 ^ 6 by decide, show (256 : Int) = 2 ^ 8 by decide, ← Int.pow_mul, ← Int.pow_mul, ← Int.pow_add]
      congr 1
      omega
    rw [e4, e5]
    exact Int.mul_lt_mul_of_pos_right hlt (kbt_pos _)
  have o := octV_digs _ _ (figVal_nonneg h) hp
  rw [← figF_digs h] at o
  obtain ⟨h1, h2, h3, h4, h5, h6⟩ := o
  have e4 : (figCount ns * 6 - (ns.length : Int) * 8).toNat = 6 * ((ns.length * 4 + 2) / 3) % 8 := by rw [figCount_nat]; omega
  rw [figVal, e4, ← h1] at h2
  have hpos : (0 : Int) < (octF (figF ns)).2.2 := by omega
  have hval : valF (octF (figF ns)).1 = valF ns := by
    have a := congrArg (fun z => z / (octF (figF ns)).2.2) h2
    rw [Int.mul_ediv_cancel _ (Int.ne_of_gt hpos), Int.add_comm, Int.add_mul_ediv_right _ _ (Int.ne_of_gt hpos), Int.ediv_eq_zero_of_lt h3 h4, Int.zero_add] at a
    exact a
  exact valF_inj ns.length _ _ (by rw [h5]; omega) rfl h6 h hval
end Mine
end
section
open PySem PySem.W PyProof.Rows
set_option autoImplicit false
namespace Mine
theorem tbl_back : ∀ n : Nat, n < 64 → b64v (tbl (n : Int)) = (n : Int) ∧ tbl (n : Int) ≠ 61 := by decide +kernel
theorem tbl_fig {f : Int} (h0 : 0 ≤ f) (h1 : f < 64) : b64v (tbl f) = f ∧ tbl f ≠ 61 := by
  have := tbl_back f.toNat (by omega)
  rw [show ((f.toNat : Nat) : Int) = f by omega] at this
  exact this
theorem dec_app (st : List Int × Int) (a b : List Int) : (a ++ b).foldl decStep st = b.foldl decStep (a.foldl decStep st) := List.foldl_append
theorem dec_figs : ∀ (fs : List Int) (acc : List Int) (p : Int), Fig fs → (fs.map tbl).foldl decStep (acc, p) = (acc ++ fs, if fs = [] then p else 0) := by
  intro fs
  induction fs with
  | nil => intro acc p _; simp
  | cons f r ih =>
    intro acc p h
    have hf := h f (.head _)
    have ht := tbl_fig hf.1 hf.2
    rw [List.map_cons, List.foldl_cons]
    have e : decStep (acc, p) (tbl f) = (acc ++ [f], 0) := by
      unfold decStep
      rw [if_neg ht.2, ht.1, if_neg (by omega)]
    rw [e, ih _ _ (fun n hn => h n (.tail _ hn))]
    simp
theorem dec_pads : ∀ (k : Nat) (acc : List Int) (p : Int), (List.replicate k 61).foldl decStep (acc, p) = (acc, p + k) := by
  intro k
  induction k with
  | zero => intro acc p; simp
  | succ k ih =>
    intro acc p
    rw [List.replicate_succ, List.foldl_cons]
    have e : decStep (acc, p) 61 = (acc, p + 1) := by unfold decStep; rw [if_pos rfl]
    rw [e, ih]
    congr 1
    omega
theorem dec_skip {acc : List Int} {p c : Int} (h : c ≠ 61) (hb : b64v c = 64) : decStep (acc, p) c = (acc, p) := by
  unfold decStep; rw [if_neg h, hb, if_pos (by decide)]
theorem dec_one {acc : List Int} {p c f : Int} (h : c ≠ 61) (hb : b64v c = f) (h2 : f < 64) : decStep (acc, p) c = (acc ++ [f], 0) := by
  unfold decStep; rw [if_neg h, hb, if_neg (by omega)]
theorem b64v_dig {d : Int} (h0 : 0 ≤ d) (h1 : d ≤ 9) : b64v (48 + d) = 52 + d := by
  unfold b64v
  rw [if_neg (by omega), if_neg (by omega), if_pos (by omega)]; omega
theorem dec_dig {acc : List Int} {p d : Int} (h0 : 0 ≤ d) (h1 : d ≤ 9) : decStep (acc, p) (48 + d) = (acc ++ [52 + d], 0) :=
  dec_one (by omega) (b64v_dig h0 h1) (by omega)
theorem dec_cnt {n : Int} (h0 : 12 < n) (h1 : n < 500) (acc : List Int) (p : Int) : (decT n).foldl decStep (acc, p) = (acc ++ cnt n, 0) := by
  unfold decT cnt
  by_cases h : n < 100
  · rw [if_pos h, if_neg (by omega), List.foldl_cons, dec_dig (by omega) (by omega), List.foldl_cons, dec_dig (by omega) (by omega), List.foldl_nil]
    have e : n / 10 % 10 = n / 10 := by omega
    rw [e, Int.ediv_one]; simp
  · rw [if_neg h, if_pos (by omega), List.foldl_cons, dec_dig (by omega) (by omega), List.foldl_cons, dec_dig (by omega) (by omega), List.foldl_cons, dec_dig (by omega) (by omega), List.foldl_nil]
    have e : n / 100 % 10 = n / 100 := by omega
    rw [e, Int.ediv_one]; simp
theorem dec_chars (acc : List Int) (p : Int) : ([32, 99, 104, 97, 114, 115, 93] : List Int).foldl decStep (acc, p) = (acc ++ [28, 33, 26, 43, 44], 0) := by
  have e1 : decStep (acc, p) 32 = (acc, p) := dec_skip (by decide) (by decide)
  have e2 : decStep (acc, p) 99 = (acc ++ [28], 0) := dec_one (by decide) (by decide) (by decide)
  have e3 : decStep (acc ++ [28], 0) 104 = (acc ++ [28] ++ [33], 0) := dec_one (by decide) (by decide) (by decide)
  have e4 : decStep (acc ++ [28] ++ [33], 0) 97 = (acc ++ [28] ++ [33] ++ [26], 0) := dec_one (by decide) (by decide) (by decide)
  have e5 : decStep (acc ++ [28] ++ [33] ++ [26], 0) 114 = (acc ++ [28] ++ [33] ++ [26] ++ [43], 0) := dec_one (by decide) (by decide) (by decide)
  have e6 : decStep (acc ++ [28] ++ [33] ++ [26] ++ [43], 0) 115 = (acc ++ [28] ++ [33] ++ [26] ++ [43] ++ [44], 0) := dec_one (by decide) (by decide) (by decide)
  have e7 : decStep (acc ++ [28] ++ [33] ++ [26] ++ [43] ++ [44], 0) 93 = (acc ++ [28] ++ [33] ++ [26] ++ [43] ++ [44], 0) := dec_skip (by decide) (by decide)
  simp only [List.foldl_cons, List.foldl_nil]
  rw [e1, e2, e3, e4, e5, e6, e7]
  simp
theorem fig_take {fs : List Int} (h : Fig fs) (k : Nat) : Fig (fs.take k) := fun n hn => h n (List.mem_of_mem_take hn)
theorem fig_drop {fs : List Int} (h : Fig fs) (k : Nat) : Fig (fs.drop k) := fun n hn => h n (List.mem_of_mem_drop hn)
theorem text_len {ns : List Int} (h : KBa.In ns) : ((encText ns).length : Int) = (figF ns).length + (-((figF ns).length : Int)) % 4 := by
  rw [encText_figF h]; simp; omega
theorem text_take {ns : List Int} (h : KBa.In ns) {k : Nat} (hk : k ≤ (figF ns).length) : (encText ns).take k = ((figF ns).take k).map tbl := by
  rw [encText_figF h, List.take_append_of_le_length (by simpa using hk), List.map_take]
theorem text_drop {ns : List Int} (h : KBa.In ns) {be : Int} (h0 : 0 ≤ be) (hk : be ≤ (figF ns).length) :
    (encText ns).drop ((encText ns).length - be.toNat) = ((figF ns).drop ((figF ns).length - (be - min ((-((figF ns).length : Int)) % 4) be).toNat)).map tbl ++ List.replicate (min ((-((figF ns).length : Int)) % 4) be).toNat 61 := by
  have hl := text_len h
  rw [encText_figF h] at hl ⊢
  generalize hf : (-((figF ns).length : Int)) % 4 = f at hl ⊢
  have hf0 : 0 ≤ f := by omega
  rw [List.length_append, List.length_map, List.length_replicate, List.drop_append, List.length_map, List.drop_replicate]
  by_cases hb : be ≤ f
  · rw [Int.min_eq_right hb, List.drop_of_length_le (by simp; omega), show (be - be).toNat = 0 by omega, Nat.sub_zero, List.drop_length]
    congr 2
    omega
  · rw [Int.min_eq_left (by omega), ← List.map_drop]
    congr 2
    · congr 1; omega
    · omega
/-- the decoder at the shortened text -/
theorem dec_short {ns : List Int} (h : KBa.In ns) {ah be : Int} (h0 : 0 ≤ ah) (h1 : ah ≤ (figF ns).length) (h2 : 0 ≤ be) (h3 : be ≤ (figF ns).length) (hl : (encText ns).length < 500) (hs : 12 < ((encText ns).length : Int) - ah - be) :
    decF (shortF (encText ns) ah be) = ((figF ns).take ah.toNat ++ cnt (((encText ns).length : Int) - ah - be) ++ [28, 33, 26, 43, 44] ++ (figF ns).drop ((figF ns).length - (be - min ((-((figF ns).length : Int)) % 4) be).toNat),
      min ((-((figF ns).length : Int)) % 4) be) := by
  rw [shortF, if_pos hs, text_take h (by omega), text_drop h h2 h3]
  unfold decF
  rw [dec_app, dec_app, dec_app, dec_app, dec_app, dec_figs _ _ _ (fig_take (figF_in h) _)]
  rw [show ([91] : List Int).foldl decStep (([] : List Int) ++ (figF ns).take ah.toNat, if (figF ns).take ah.toNat = [] then 0 else 0) = ((figF ns).take ah.toNat, 0) by
    rw [List.foldl_cons, dec_skip (by decide) (by decide)]; simp]
  rw [dec_cnt hs (by omega), dec_chars, dec_figs _ _ _ (fig_drop (figF_in h) _), dec_pads]
  congr 1
  have : (if (figF ns).drop ((figF ns).length - (be - min ((-((figF ns).length : Int)) % 4) be).toNat) = [] then (0 : Int) else 0) = 0 := by split <;> rfl
  rw [this]
  omega
theorem dec_whole {ns : List Int} (h : KBa.In ns) (hne : 0 < (figF ns).length) : decF (encText ns) = (figF ns, (-((figF ns).length : Int)) % 4) := by
  rw [encText_figF h]
  unfold decF
  rw [dec_app, dec_figs _ _ _ (figF_in h), dec_pads, if_neg (fun e => by rw [e] at hne; exact absurd hne (by decide)), List.nil_append]
  congr 1
  omega
theorem bad_iff {cs : List Int} {kept : List Int} {marks : Int} (e : decF cs = (kept, marks)) : Bad cs ↔ ((kept.length : Int) % 4 = 1 ∨ 1 < (kept.length : Int) % 4 ∧ (kept.length : Int) % 4 + marks < 4) := by
  unfold Bad
  rw [e]
  simp only
  omega
/-- THE LAW, in plain lists -/
theorem law_pure {ns : List Int} (h : KBa.In ns) {ah be : Int} (h0 : 0 ≤ ah) (h1 : ah ≤ (figF ns).length) (h2 : 0 ≤ be) (h3 : be ≤ (figF ns).length) (hne : 0 < (figF ns).length) (hl : (encText ns).length < 500) :
    readF (shortF (encText ns) ah be) = dueF ns (figF ns) ah be := by
  have ht := text_len h
  have hfl := figF_len h
  unfold dueF
  by_cases hs : 12 < ((encText ns).length : Int) - ah - be
  · rw [if_neg (by omega), readF]
    have e := dec_short h h0 h1 h2 h3 hl hs
    rw [ht] at e
    change decF _ = (keptF (figF ns) ah be, _) at e
    have b := bad_iff e
    by_cases hb : Bad (shortF (encText ns) ah be)
    · rw [if_pos hb, if_pos (b.mp hb)]
    · rw [if_neg hb, if_neg (fun x => hb (b.mpr x)), e]
  · rw [if_pos (by omega), shortF, if_neg hs, readF]
    have e := dec_whole h hne
    have b := bad_iff e
    rw [if_neg (fun x => by have := b.mp x; omega), e]
    show some (octF (figF ns)).1 = some ns
    rw [octF_figF h]
end Mine
end
section
open PySem PySem.W PyProof.Rows
set_option autoImplicit false
namespace Mine
abbrev markW (fs : List Int) (be : Int) : Int := if be < (-(fs.length : Int)).fmod 4 then be else (-(fs.length : Int)).fmod 4
abbrev skipW (fs : List Int) (ah be : Int) : Int := (fs.length : Int) + (-(fs.length : Int)).fmod 4 - ah - be
abbrev keptW (fs c : List Int) (ah be : Int) : List Int := fs.take ah.toNat ++ c ++ [28, 33, 26, 43, 44] ++ fs.drop ((fs.length : Int) - (be - markW fs be)).toNat
abbrev c3 (k : Int) : List Int := [52 + (k.fdiv 100).fmod 10, 52 + (k.fdiv 10).fmod 10, 52 + (k.fdiv 1).fmod 10]
abbrev c2 (k : Int) : List Int := [52 + (k.fdiv 10).fmod 10, 52 + (k.fdiv 1).fmod 10]
theorem markW_min (fs : List Int) (be : Int) : markW fs be = min ((-(fs.length : Int)) % 4) be := by
  unfold markW
  rw [fmod_pos _ (by decide)]
  split <;> omega
theorem skipW_eq (fs : List Int) (ah be : Int) : skipW fs ah be = (fs.length : Int) + (-(fs.length : Int)) % 4 - ah - be := by
  unfold skipW; rw [fmod_pos _ (by decide)]
theorem kept_go {fs c : List Int} {ah be : Int} (h2 : 0 ≤ be) (h3 : be ≤ 12) (h24 : 24 ≤ fs.length) (hc : c = cnt ((fs.length : Int) + (-(fs.length : Int)) % 4 - ah - be)) : keptW fs c ah be = keptF fs ah be := by
  unfold keptW keptF
  rw [markW_min, hc]
  congr 2
  omega
theorem kept3 {fs : List Int} {ah be : Int} (h2 : 0 ≤ be) (h3 : be ≤ 12) (h24 : 24 ≤ fs.length) (h : 100 ≤ skipW fs ah be) : keptW fs (c3 (skipW fs ah be)) ah be = keptF fs ah be := by
  refine kept_go h2 h3 h24 ?_
  rw [← skipW_eq, cnt, if_pos h]
  unfold c3
  simp only [fdiv_pos _ (show (0 : Int) ≤ 100 by decide), fdiv_pos _ (show (0 : Int) ≤ 10 by decide), fdiv_pos _ (show (0 : Int) ≤ 1 by decide), fmod_pos _ (show (0 : Int) ≤ 10 by decide)]
theorem kept2 {fs : List Int} {ah be : Int} (h2 : 0 ≤ be) (h3 : be ≤ 12) (h24 : 24 ≤ fs.length) (h : ¬ 100 ≤ skipW fs ah be) : keptW fs (c2 (skipW fs ah be)) ah be = keptF fs ah be := by
  refine kept_go h2 h3 h24 ?_
  rw [← skipW_eq, cnt, if_neg h]
  unfold c2
  simp only [fdiv_pos _ (show (0 : Int) ≤ 10 by decide), fdiv_pos _ (show (0 : Int) ≤ 1 by decide), fmod_pos _ (show (0 : Int) ≤ 10 by decide)]
theorem due_1 {ns fs : List Int} {ah be : Int} (h : skipW fs ah be ≤ 12) (t : Tok) : Value.bytes (byteArr ns) t = optV (dueF ns fs ah be) t := by
  rw [skipW_eq] at h
  rw [dueF, if_pos h]; rfl
theorem due_no1 {ns fs K : List Int} {ah be : Int} (h12 : ¬ skipW fs ah be ≤ 12) (hK : K = keptF fs ah be) (h : (K.length : Int).fmod 4 = 1) (t : Tok) : Value.none = optV (dueF ns fs ah be) t := by
  subst hK
  rw [skipW_eq] at h12
  rw [fmod_pos _ (by decide)] at h
  rw [dueF, if_neg h12, if_pos (.inl h)]; rfl
theorem due_no2 {ns fs K : List Int} {ah be : Int} (h12 : ¬ skipW fs ah be ≤ 12) (hK : K = keptF fs ah be) (h : 1 < (K.length : Int).fmod 4) (h4 : (K.length : Int).fmod 4 + markW fs be < 4) (t : Tok) : Value.none = optV (dueF ns fs ah be) t := by
  subst hK
  rw [skipW_eq] at h12
  rw [markW_min] at h4
  rw [fmod_pos _ (by decide)] at h h4
  rw [dueF, if_neg h12, if_pos (.inr ⟨h, h4⟩)]; rfl
theorem due_yes1 {ns fs K : List Int} {ah be : Int} (h12 : ¬ skipW fs ah be ≤ 12) (hK : K = keptF fs ah be) (h : (K.length : Int).fmod 4 ≠ 1) (h4 : ¬ 1 < (K.length : Int).fmod 4) (t : Tok) : Value.bytes (byteArr (octF K).1) t = optV (dueF ns fs ah be) t := by
  subst hK
  rw [skipW_eq] at h12
  rw [fmod_pos _ (by decide)] at h h4
  rw [dueF, if_neg h12, if_neg (by rintro (x | x); exact h x; exact h4 x.1)]; rfl
theorem due_yes2 {ns fs K : List Int} {ah be : Int} (h12 : ¬ skipW fs ah be ≤ 12) (hK : K = keptF fs ah be) (h : (K.length : Int).fmod 4 ≠ 1) (h4 : ¬ (K.length : Int).fmod 4 + markW fs be < 4) (t : Tok) : Value.bytes (byteArr (octF K).1) t = optV (dueF ns fs ah be) t := by
  subst hK
  rw [skipW_eq] at h12
  rw [markW_min] at h4
  rw [fmod_pos _ (by decide)] at h h4
  rw [dueF, if_neg h12, if_neg (by rintro (x | x); exact h x; exact h4 x.2)]; rfl
theorem cnt_fig {k : Int} : Fig (cnt k) := by
  intro n hn
  unfold cnt at hn
  split at hn <;> simp only [List.mem_cons, List.not_mem_nil, or_false] at hn <;> omega
theorem keptF_fig {fs : List Int} {ah be : Int} (hF : Fig fs) : Fig (keptF fs ah be) := by
  intro n hn
  unfold keptF at hn
  rcases List.mem_append.mp hn with hn | hn
  · rcases List.mem_append.mp hn with hn | hn
    · rcases List.mem_append.mp hn with hn | hn
      · exact fig_take hF _ n hn
      · exact cnt_fig n hn
    · have : Fig [28, 33, 26, 43, 44] := by unfold Fig; decide
      exact this n hn
  · exact fig_drop hF _ n hn
theorem fig_of {fs K : List Int} {ah be : Int} (hF : Fig fs) (hK : K = keptF fs ah be) : Fig K := by rw [hK]; exact keptF_fig hF
end Mine
end
section
open PySem PySem.Calls PySem.Spec PyProof.Rows PySem.W PyProof.Rows.LCg
set_option autoImplicit false
set_option maxHeartbeats 2000000
namespace Mine
abbrev tupO (its : Array Value) (n : Nat) : Obj := { cls := .type "tuple", data := .seq its n }
theorem led_tup {h₀ h : Heap} {L ax : Addr} {its : Array Value} {n : Nat} {nw : List (Addr × Obj)} (N : News h₀ L h nw) (hm : (ax, tupO its n) ∈ nw) : h.IsTuple ax its := ⟨_, (N _ hm).1, rfl, n, rfl⟩
/-- the frame's own namespace is written anew: the frame and the ledger stand -/
theorem after_store {h₀ h h₂ : Heap} {L : Addr} {m m₂ : Str → Option Value} {led : List (Addr × Obj)} (F : Fr h₀ L h m) (N : News h₀ L h led) (e : ∀ b o, b ≠ L → h.get? b = some o → h₂.get? b = some o) (n : h₂.Ns L m₂) :
    Fr h₀ L h₂ m₂ ∧ News h₀ L h₂ led := by
  have hne : ∀ b o, h₀.get? b = some o → b ≠ L := by
    intro b o q x
    rw [x, Heap.get?_none_of_le F.above] at q
    exact nomatch q
  exact ⟨⟨n, fun b o q => e b o (hne b o q) (F.keep b o q), F.above⟩, fun p hp => ⟨e _ _ (N p hp).2.1 (N p hp).1, (N p hp).2⟩⟩
/-- an object of the block's turns: the ledger without it stands -/
theorem after_block {h₀ h h₂ : Heap} {L C : Addr} {led : List (Addr × Obj)} (N : News h₀ L h led) (e : ∀ b o, b ≠ C → h.get? b = some o → h₂.get? b = some o) (off : ∀ p ∈ led, p.1 ≠ C) : News h₀ L h₂ led :=
  fun p hp => ⟨e _ _ (off p hp) (N p hp).1, (N p hp).2⟩
section
variable {prog : Program} {w : World} {A : Around} {E : Value → Shared → Prop} {s : Shared} {h₀ : Heap} {L : Addr} {m : Str → Option Value} {env : Env}
/-- the source of a comprehension is a tuple of the ledger's; its turns, one by one -/
def SrcTup (prog : Program) (w : World) (A : Around) (h₀ : Heap) (L : Addr) (m : Str → Option Value) (env : Env) (ct elt : PySem.Expr) (x : Str) (scope : Scope) (cl : List (Str × Addr)) (Fin : Shared → List Value → List (Addr × Obj) → Prop) (src : Value) (s₁ : Shared) : Prop :=
  ∃ (ax : Addr) (its : Array Value) (n : Nat) (led : List (Addr × Obj)), src = .ref ax ∧ (A.handled = none ∧ its.size ≤ sizeLine) ∧ (ax, tupO its n) ∈ led ∧ Fr h₀ L s₁.heap m ∧ News h₀ L s₁.heap led ∧
    ∀ g : Heap, LCt.CompRestT prog w A h₀ L m env ct elt x scope cl { s₁ with heap := g } (fun nw => (ax, tupO its n) ∈ nw) (fun i v => its[i]? = some v) (Fin { s₁ with heap := g }) its.size 0 [] led
theorem SrcTup.intro {ct elt : PySem.Expr} {x : Str} {scope : Scope} {cl : List (Str × Addr)} {Fin : Shared → List Value → List (Addr × Obj) → Prop} {ax : Addr} {its : Array Value} {n : Nat} {led : List (Addr × Obj)} {s₁ : Shared}
    (hh : A.handled = none) (F : Fr h₀ L s₁.heap m) (N : News h₀ L s₁.heap led) (hm : (ax, tupO its n) ∈ led) (hsz : its.size ≤ sizeLine)
    (h : ∀ g, LCt.CompRestT prog w A h₀ L m env ct elt x scope cl { s₁ with heap := g } (fun nw => (ax, tupO its n) ∈ nw) (fun i v => its[i]? = some v) (Fin { s₁ with heap := g }) its.size 0 [] led) :
    SrcTup prog w A h₀ L m env ct elt x scope cl Fin (.ref ax) s₁ := ⟨ax, its, n, led, rfl, ⟨hh, hsz⟩, hm, F, N, h⟩
/-- name = [elt for x in a tuple if test] -/
theorem asg_tup {ct elt iter : PySem.Expr} {x y : Str} {px py : Pos} {scope : Scope} {cl : List (Str × Addr)} {pos spos : Pos} {Q : Flow → Shared → Prop} (F₀ : Fr h₀ L s.heap m) (hLe : env.locals = L)
    (hsw : swapsWith (.ListComp elt [⟨.Name x px, iter, [ct], 0⟩] scope pos) (some (.Name y py)) spos.line env = pure true)
    (hclos : closureFor scope env = pure cl) (hcell : ∀ z ∈ scope.names, z.2 ≠ .cell) (hkind : scope.kind = .function)
    (hnames : ∀ z ∈ scope.names, z.2 = .local → scope.names.lookup z.1 = some .local) (hx : scope.names.lookup x = some .local)
    (hy : env.kindOf y = some .local) (hp : (env.scope.kind == .class || (env.scope.kind == .module && env.locals != env.globals)) = false)
    (h : wpAny (model prog w) A (eval iter env) (SrcTup prog w A h₀ L m env ct elt x scope cl (fun s₂ => FinA h₀ L m s₂ y Q)) E s)
    (hs : ∀ x, foldedSetIterable iter env x = pure x := by intro _; rfl) :
    wpAny (model prog w) A (exec (.Assign [.Name y py] (.ListComp elt [⟨.Name x px, iter, [ct], 0⟩] scope pos) spos) env) Q E s := by
  have _ := F₀
  subst hLe
  have go : ∀ pp : Pos, wpAny (model prog w) A (comprehension (.ListComp elt [⟨.Name x px, iter, [ct], 0⟩] scope pos) scope env pp (newList []) false (eval iter env) (some (assign (.Name y py) env))) (fun _ s' => Q .next s') E s := by
    intro pp
    refine wpAny_comprehension_free (use := some (assign (.Name y py) env)) rfl hs hclos hkind hnames (wpAny_mono h (fun src s₁ hsrc => ?_) fun _ _ e => e)
    obtain ⟨ax, its, n, led, rfl, ⟨hh, hsz⟩, hm, F, N, turns⟩ := hsrc
    have htup := led_tup N hm
    have hax : ax < s₁.heap.objs.size := Heap.lt_size (N _ hm).1
    have grow : ∀ ob b o, s₁.heap.get? b = some o → (s₁.heap.push ob).get? b = some o := fun ob _ _ q => Heap.get?_push_of_some ob q
    refine wpAny_pyIter_tuple htup (LCt.block_T (news := led) (Walks.tuple hh s₁.heap.objs.size ax (Nat.ne_of_lt hax) its) hsz (fun i g st => st.1.elim fun o q => ⟨o, q.1⟩) ?same hcell hkind hx
      ⟨⟨_, Heap.get?_push_size _ rfl, rfl, rfl⟩, htup.push _⟩ ?sizes (F.keeps (grow _)) (N.grown (grow _)) (Nat.ne_of_lt F.ns.lt) (next_is_new F) (fun p q => Nat.ne_of_lt (Heap.lt_size (N p q).1)) hm (turns _) ?fin)
    case same =>
      rintro i g g' o nw ⟨⟨o', q', r'⟩, _⟩ q₁ q₂ _ N₂ hm₂
      rw [q₁] at q'
      obtain rfl := Option.some.inj q'
      exact ⟨⟨o, q₂, r'⟩, led_tup N₂ hm₂⟩
    case sizes =>
      intro b hb
      show b < (s₁.heap.push _).objs.size
      rw [Heap.size_push]
      simp only [List.mem_cons, List.not_mem_nil, or_false] at hb
      rcases hb with rfl | rfl
      · exact Nat.lt_succ_self _
      · exact Nat.lt_succ_of_lt hax
    case fin =>
      intro D C g tk mC ys nw F' N' o1 hn hC₀ _ hCL _ hCD offC fin
      refine wpAny_assign_Name (wpAny_storeName_local hy F'.ns (fun g₂ hn₂ same => ?_) hp)
      have e₂ : ∀ b o, b ≠ env.locals → g.get? b = some o → g₂.get? b = some o := fun b o ne q => same.extBut b o ne q
      obtain ⟨F₂, N₂⟩ := after_store F' N' e₂ hn₂
      refine ⟨mC, hn.sameBut same hCL, fun g₃ same₃ => fin D g₃ _ (F₂.change same₃ hCL hC₀) (after_block N₂ (fun b o ne q => same₃.extBut b o ne q) fun p q => ?_) o1⟩
      rcases List.mem_cons.mp q with rfl | q
      · exact Ne.symm hCD
      · exact offC p q
  rw [exec_Assign_Name_used _ _ _ _ hsw]
  exact wpAny_bind (wpAny_standAt (wpAny_bind (wpAny_bind (wpAny_mono (go _) (fun _ _ q => wpAny_pure (wpAny_pure q)) fun _ _ e => e))))
end
end Mine
end
section
open PySem PySem.Calls PySem.Spec PyProof.Rows PySem.W PyProof.Rows.LCg
set_option autoImplicit false
set_option maxRecDepth 100000
namespace Mine
section
variable {prog : Program} {w : World} {A : Around} {E : Value → Shared → Prop} {s : Shared} {h₀ : Heap} {L : Addr} {m : Str → Option Value} {news : List (Addr × Obj)} {Q : Value → Shared → Prop}
theorem cut_to {x : Str} {px ps : Pos} {lo hi : Option PySem.Expr} {l : Addr} {vs : List Value} {ns : List Int} {k : Nat} {y : Int} {u : Tok} (F : Fr h₀ L s.heap m) (N : News h₀ L s.heap news) (hm : (l, listOf vs.toArray k) ∈ news) (hi' : IntsAre vs ns) (h0 : 0 ≤ y) (hz : ns.length ≤ 1000)
    (h : ∀ D ws h', Fr h₀ L h' m → News h₀ L h' ((D, listOf (List.toArray ws) 0) :: news) → (∀ p ∈ news, p.1 < D) → IntsAre ws (ns.take y.toNat) → Q (.ref D) { s with heap := h' }) :
    wpAny (model prog w) A (subscriptTail (.Name x px) (.Slice lo hi none ps) (.ref l) (.ref s.heap.objs.size)) Q E { s with heap := s.heap.push { cls := .type "slice", data := .fields #[.none, .int y u, .none] } } :=
  kmk_slice_ints (lo := none) (hi := some y) (ms := ns.take y.toNat) F N (N.isList hm) .none (.int _ _) hi' (kmk_upto hi' h0) rfl (fun D ws h' F' N' l1 hI _ _ => h D ws h' F' N' l1 hI)
    (by with_unfolding_all rfl) (by intro _; with_unfolding_all rfl) (by rw [kmk_size_eq hi', sizeLine_eq]; omega)
theorem cut_from {x : Str} {px ps : Pos} {lo hi : Option PySem.Expr} {l : Addr} {vs : List Value} {ns : List Int} {k : Nat} {y : Int} {u : Tok} (F : Fr h₀ L s.heap m) (N : News h₀ L s.heap news) (hm : (l, listOf vs.toArray k) ∈ news) (hi' : IntsAre vs ns) (h0 : 0 ≤ y) (hz : ns.length ≤ 1000)
    (h : ∀ D ws h', Fr h₀ L h' m → News h₀ L h' ((D, listOf (List.toArray ws) 0) :: news) → (∀ p ∈ news, p.1 < D) → IntsAre ws (ns.drop y.toNat) → Q (.ref D) { s with heap := h' }) :
    wpAny (model prog w) A (subscriptTail (.Name x px) (.Slice lo hi none ps) (.ref l) (.ref s.heap.objs.size)) Q E { s with heap := s.heap.push { cls := .type "slice", data := .fields #[.int y u, .none, .none] } } :=
  kmk_slice_ints (lo := some y) (hi := none) (ms := ns.drop y.toNat) F N (N.isList hm) (.int _ _) .none hi' (kmk_from hi' h0) rfl (fun D ws h' F' N' l1 hI _ _ => h D ws h' F' N' l1 hI)
    (by with_unfolding_all rfl) (by intro _; with_unfolding_all rfl) (by rw [kmk_size_eq hi', sizeLine_eq]; omega)
theorem cat_two {a b : Addr} {vs ws : List Value} {ns ms : List Int} {j k : Nat} (F : Fr h₀ L s.heap m) (N : News h₀ L s.heap news) (ha : (a, listOf vs.toArray j) ∈ news) (hb : (b, listOf ws.toArray k) ∈ news) (hi' : IntsAre vs ns) (hj' : IntsAre ws ms) (hz : ns.length + ms.length ≤ 1000)
    (h : ∀ D us h', Fr h₀ L h' m → News h₀ L h' ((D, listOf (List.toArray us) 0) :: news) → (∀ p ∈ news, p.1 < D) → IntsAre us (ns ++ ms) → Q (.ref D) { s with heap := h' }) :
    wpAny (model prog w) A (binaryOp .Add (.ref a) (.ref b)) Q E s := by
  refine kmk_add_ints F N (N.isList ha) (N.isList hb) hi' hj' ?_ ?_
  · intro D us h' F' N' l1 hI
    exact h D us h' F' N' l1 hI
  · rw [sizeLine_eq]; omega
end
end Mine
end
section
open PySem PySem.W PyProof.Rows
set_option autoImplicit false
namespace Mine
local macro_rules | `(tactic| k_room) => `(tactic| ktr_room)
local macro_rules | `(tactic| k_memK) => `(tactic| assumption)
local macro_rules | `(tactic| k_mem) => `(tactic| assumption)
local macro_rules | `(tactic| walk_at "CompRestT") => `(tactic| (with_unfolding_all first
  | (refine LCt.CompRestT.succ ?_; intro v' I' oI' C' oC' D' m' h' tk' E' hv' hC' hx' F' N' off' ne'; lcg_open hv')
  | refine LCt.CompRestT.zero ?_))
local macro_rules | `(tactic| walk_at $s:str) => `(tactic| k_extra $s)
set_option maxRecDepth 100000 in
set_option maxHeartbeats 8000000 in


theorem due_call (w : World) (ns fs : List Int) (tb ta tc : Tok) (ah be : Int) (D : Addr) (ws : List Value) (nn : Nat) (news : List (Addr × Obj)) (hm : (D, listOf ws.toArray nn) ∈ news) (hi : IntsAre ws fs) (hF : Fig fs) (hlen : fs.length < 300) (h24 : 24 ≤ fs.length) (h0 : 0 ≤ ah) (h1 : ah ≤ 12) (h2 : 0 ≤ be) (h3 : be ≤ 12) :
    Ctr w 126 3 news [.bytes (byteArr ns) tb, .ref D, .int ah ta, .int be tc] (fun h₀ L m s Q => ∀ t h' tk', Fr h₀ L h' m → News h₀ L h' news → Q (optV (dueF ns fs ah be) t) { s with heap := h', toks := tk' }) := by
  k_with_none
  k_with "exec Assign cons ListComp" => (k_here; k_dflt (refine asg_tup (F₀ := by k_asm) (by rfl) (by with_unfolding_all rfl) (by with_unfolding_all rfl) (by decide) (by rfl) (by decide) (by rfl) (by rfl) (by rfl) ?_))
  k_with "SrcTup" => (k_here; k_dflt (refine SrcTup.intro (by rfl) (by k_asm) (by k_asm) (by k_mem) (by exact Nat.le_of_ble_eq_true rfl) ?_); intro g'; (show LCt.CompRestT _ _ _ _ _ _ _ _ _ _ _ _ _ _ _ _ 3 0 [] _))
  k_with "CompEnd" => (k_here; refine LCg.CompEnd.intro (by assumption) (by assumption) _ (fun p hp => hp) (by assumption) (by k_mem) ?_)
  k_with "binaryOp Add ref ref" => (k_here; k_dflt ((refine' cat_two (by with_reducible assumption) (by with_reducible assumption) (by k_mem) (by k_mem) (by (first | with_reducible assumption | exact .cons _ _ (.cons _ _ .nil) | exact .cons _ _ (.cons _ _ (.cons _ _ .nil)) | exact .cons _ _ (.cons _ _ (.cons _ _ (.cons _ _ (.cons _ _ .nil)))))) (by (first | with_reducible assumption | exact .cons _ _ (.cons _ _ .nil) | exact .cons _ _ (.cons _ _ (.cons _ _ .nil)) | exact .cons _ _ (.cons _ _ (.cons _ _ (.cons _ _ (.cons _ _ .nil)))))) (by ((simp only [List.length_take, List.length_append, List.length_cons, List.length_nil, List.length_drop]); omega)) ?_)); intro D' ws' h' F' N' l1 hI'; (try k_lt l1); (try k_sweep))
  k_with "call builtin:len" => (k_here; (with_reducible show wpAny _ _ (call (Value.builtin "len") [Value.ref _]) _ _ _); k_dflt ((refine' kst_len (by k_asm) (by k_mem) (by exact IntsAre.length (by with_reducible assumption)) (by ((try simp only [List.length_take, List.length_append, List.length_cons, List.length_nil, List.length_drop]); omega)) ?_)))
  k_with "call ref" => (k_here; (with_reducible show wpAny _ _ (call (Value.ref 121) [Value.ref _]) _ _ _); k_dflt (refine' Ctr.go (c := octets_call _ _ _ _ _ _ (by exact List.Mem.head _) (by with_reducible assumption) (by first | exact fig_of (by assumption) (kept3 (by assumption) (by assumption) (by assumption) (by assumption)) | exact fig_of (by assumption) (kept2 (by assumption) (by assumption) (by assumption) (by assumption))) (by ((simp only [List.length_take, List.length_append, List.length_cons, List.length_nil, List.length_drop]); omega))) (R := ?_)); (intro t9 h9 tk9 F9 N9 I9); (try dsimp only))
  k_with "subscriptTail Name Slice ref ref" => (k_here; (with_reducible show wpAny _ _ (subscriptTail (PySem.Expr.Name _ _) (PySem.Expr.Slice none _ none _) (Value.ref _) (Value.ref _)) _ _ _); k_dflt ((refine' cut_to (by with_reducible assumption) (by with_reducible assumption) (by k_mem) (by with_reducible assumption) (by assumption) (by omega) ?_)); intro D' ws' h' F' N' l1 hI'; (try k_lt l1); (try k_sweep))
  k_with "subscriptTail Name Slice ref ref" => (k_here; (with_reducible show wpAny _ _ (subscriptTail (PySem.Expr.Name _ _) (PySem.Expr.Slice (some _) none none _) (Value.ref _) (Value.ref _)) _ _ _); k_dflt ((refine' cut_from (by with_reducible assumption) (by with_reducible assumption) (by k_mem) (by with_reducible assumption) (by omega) (by omega) ?_)); intro D' ws' h' F' N' l1 hI'; (try k_lt l1); (try k_sweep))
  unfold Ctr
  k_fill
  intro mean mg mb dp un gd cn csc a ccd cl outer A₀ base h₀ L m s Q E B F X N T hk hdp hun hret
  refine wpAny_call ?_
  w_on
  k_dflt (refine' code_defC ?k1 ?k2 ?k3 ?k4 ?k5 ?kA ?kF ?kK ?k6 ?k7 ?k8 ?k9 ?kB ?kD ?_ ?c2 ?c3 ?c4; (case kA => exact rfl); (case kF => exact rfl); (case kK => assumption); (case k1 => k_asm); (case k2 => k_asm); (case k3 => k_asm); (case k4 => k_asm); (case k5 => k_asm); (case k6 => k_is); (case k7 => k_is); (case k8 => ktr_room); (case k9 => exact BindsTo.of_eq rfl); (case kB => exact rfl); (case kD => decide +kernel); (case c2 => exact rfl); (case c3 => exact rfl); (case c4 => exact rfl); k_whole; intro g' L' h' tk' cells' FG' F' N' Y' B' X' T' l1; (try k_lt l1); k_cells Y'; (try simp only [List.cons_append, List.nil_append] at N'); (try dsimp only); (try k_lift B'); (try k_fold))
  have hmk := kstMark
  have hl1 : ∀ p ∈ news, p.1 < L' + 1 := fun p hp => Nat.lt_succ_of_lt (l1 p hp)
  k_steps
  · rw [due_1 (by assumption)]
    exact hret _ _ _ (by assumption) (cb_drop (by assumption) (by kcj_all))
  all_goals first
    | (rw [due_no1 (ns := ns) (by assumption) (kept3 (by assumption) (by assumption) (by assumption) (by assumption)) (by assumption) tb]; exact hret _ _ _ (by assumption) (cb_drop (by assumption) (by kcj_all)))
    | (rw [due_no2 (ns := ns) (by assumption) (kept3 (by assumption) (by assumption) (by assumption) (by assumption)) (by assumption) (by assumption) tb]; exact hret _ _ _ (by assumption) (cb_drop (by assumption) (by kcj_all)))
    | (rw [due_yes1 (ns := ns) (by assumption) (kept3 (by assumption) (by assumption) (by assumption) (by assumption)) (by assumption) (by assumption)]; exact hret _ _ _ (by assumption) (cb_drop (by assumption) (by kcj_all)))
    | (rw [due_yes2 (ns := ns) (by assumption) (kept3 (by assumption) (by assumption) (by assumption) (by assumption)) (by assumption) (by assumption)]; exact hret _ _ _ (by assumption) (cb_drop (by assumption) (by kcj_all)))
    | (rw [due_no1 (ns := ns) (by assumption) (kept2 (by assumption) (by assumption) (by assumption) (by assumption)) (by assumption) tb]; exact hret _ _ _ (by assumption) (cb_drop (by assumption) (by kcj_all)))
    | (rw [due_no2 (ns := ns) (by assumption) (kept2 (by assumption) (by assumption) (by assumption) (by assumption)) (by assumption) (by assumption) tb]; exact hret _ _ _ (by assumption) (cb_drop (by assumption) (by kcj_all)))
    | (rw [due_yes1 (ns := ns) (by assumption) (kept2 (by assumption) (by assumption) (by assumption) (by assumption)) (by assumption) (by assumption)]; exact hret _ _ _ (by assumption) (cb_drop (by assumption) (by kcj_all)))
    | (rw [due_yes2 (ns := ns) (by assumption) (kept2 (by assumption) (by assumption) (by assumption) (by assumption)) (by assumption) (by assumption)]; exact hret _ _ _ (by assumption) (cb_drop (by assumption) (by kcj_all)))
    | skip
end Mine
end
section
open PySem PySem.W PyProof.Rows
set_option autoImplicit false
namespace Mine
theorem shr4 (x : Int) : x.fdiv (2 ^ Int.toNat 4) = x / 16 := fdiv_pos x (by decide)
theorem shr2 (x : Int) : x.fdiv (2 ^ Int.toNat 2) = x / 4 := fdiv_pos x (by decide)
theorem mul64 (x : Int) : x * 2 ^ Int.toNat 6 = x * 64 := rfl
theorem decI_abs {pre out : List Int} {quad left pads : Int} (h : DecI pre out quad left pads) : left.natAbs < 2 ^ 64 := by
  have := decI_left h; omega
theorem decI_pad' {pre out : List Int} {quad left pads n : Int} (h : DecI pre out quad left pads) (hn : n = 61) : DecI (pre ++ [n]) out quad left (pads + 1) := by
  subst hn; exact decI_pad h
theorem decI_0' {pre out : List Int} {quad left pads n : Int} (h : DecI pre out quad left pads) (hn : ¬ n = 61) (hb : ¬ 64 ≤ b64v n) (hq : quad = 0) : DecI (pre ++ [n]) out 1 (b64v n) 0 := by
  subst hq; exact decI_0 h hn hb
theorem decI_1' {pre out : List Int} {quad left pads n : Int} (h : DecI pre out quad left pads) (hn : ¬ n = 61) (hb : ¬ 64 ≤ b64v n) (hq : quad = 1) : DecI (pre ++ [n]) (out ++ [left * 4 + b64v n / 16]) 2 (b64v n % 16) 0 := by
  subst hq; exact decI_1 h hn hb
theorem decI_2' {pre out : List Int} {quad left pads n : Int} (h : DecI pre out quad left pads) (hn : ¬ n = 61) (hb : ¬ 64 ≤ b64v n) (hq : quad = 2) : DecI (pre ++ [n]) (out ++ [left * 16 + b64v n / 4]) 3 (b64v n % 4) 0 := by
  subst hq; exact decI_2 h hn hb
theorem decI_3' {pre out : List Int} {quad left pads n : Int} (h : DecI pre out quad left pads) (hn : ¬ n = 61) (hb : ¬ 64 ≤ b64v n) (h0 : ¬ quad = 0) (h1 : ¬ quad = 1) (h2 : ¬ quad = 2) : DecI (pre ++ [n]) (out ++ [left * 64 + b64v n]) 0 0 0 := by
  have hq : quad = 3 := by have := decI_four h; omega
  subst hq; exact decI_3 h hn hb
theorem decI_or1 {pre out : List Int} {quad left pads n : Int} (h : DecI pre out quad left pads) (hb : ¬ 64 ≤ b64v n) : Builtin.bitOr (left * 4) (b64v n / 16) = left * 4 + b64v n / 16 := by
  have h1 := decI_left h
  have h2 := b64v_in n
  exact or_disj 2 (y := 4) (by decide) h1.1 (by omega) (by omega)
theorem decI_or2 {pre out : List Int} {quad left pads n : Int} (h : DecI pre out quad left pads) (hb : ¬ 64 ≤ b64v n) : Builtin.bitOr (left * 16) (b64v n / 4) = left * 16 + b64v n / 4 := by
  have h1 := decI_left h
  have h2 := b64v_in n
  exact or_disj 4 (y := 16) (by decide) h1.1 (by omega) (by omega)
theorem decI_or3 {pre out : List Int} {quad left pads n : Int} (h : DecI pre out quad left pads) (hb : ¬ 64 ≤ b64v n) : Builtin.bitOr (left * 64) (b64v n) = left * 64 + b64v n := by
  have h1 := decI_left h
  have h2 := b64v_in n
  exact or_disj 6 (y := 64) (by decide) h1.1 (by omega) (by omega)
theorem four_ne {z : PySem.Str} {a b c d : PySem.Str × Value} (h : ∀ p ∈ [a, b, c, d], z ≠ p.1) : z ≠ a.1 ∧ z ≠ b.1 ∧ z ≠ c.1 ∧ z ≠ d.1 :=
  ⟨h _ (.head _), h _ (.tail _ (.head _)), h _ (.tail _ (.tail _ (.head _))), h _ (.tail _ (.tail _ (.tail _ (.head _))))⟩
theorem msg_num {cs out : List Int} {quad left pads : Int} (h : DecI cs out quad left pads) (hl : cs.length < 500) : 0 ≤ (out.length : Int).fdiv 3 * 4 + 1 ∧ (out.length : Int).fdiv 3 * 4 + 1 < 10000000000 := by
  have := h.hlen
  rw [fdiv_pos _ (by decide)]
  omega
theorem read_no {cs : List Int} (h : Bad cs) (t : Tok) : Value.none = optV (readF cs) t := by rw [readF, if_pos h]; rfl
theorem read_yes {cs : List Int} (h : ¬ Bad cs) (t : Tok) : Value.bytes (byteArr (octF (decF cs).1).1) t = optV (readF cs) t := by rw [readF, if_neg h]; rfl
theorem dec_ok0 {cs out : List Int} {quad left pads : Int} (h : DecI cs out quad left pads) (h1 : quad = 0) (t : Tok) : Value.bytes (byteArr out) t = optV (readF cs) t := by
  rw [h.hout]
  refine read_yes ?_ t
  have h2 := h.hquad
  unfold Bad
  omega
theorem dec_ok2 {cs out : List Int} {quad left pads : Int} (h : DecI cs out quad left pads) (h1 : quad ≠ 1) (hp : ¬ quad + pads < 4) (t : Tok) : Value.bytes (byteArr out) t = optV (readF cs) t := by
  rw [h.hout]
  refine read_yes ?_ t
  have h2 := h.hquad
  have h3 := h.hpads
  unfold Bad
  omega
theorem dec_no1 {cs out : List Int} {quad left pads : Int} (h : DecI cs out quad left pads) (h1 : quad = 1) (t : Tok) : Value.none = optV (readF cs) t := by
  refine read_no ?_ t
  have h2 := h.hquad
  unfold Bad
  omega
theorem dec_no2 {cs out : List Int} {quad left pads : Int} (h : DecI cs out quad left pads) (h0 : quad ≠ 0) (hp : quad + pads < 4) (t : Tok) : Value.none = optV (readF cs) t := by
  refine read_no ?_ t
  have h2 := h.hquad
  have h3 := h.hpads
  unfold Bad
  omega
local macro_rules | `(tactic| k_room) => `(tactic| ktr_room)
local macro_rules | `(tactic| kst_same) => `(tactic| (intro z h1 h2 h3; (obtain ⟨a1, a2, a3, a4⟩ := four_ne h2); (have h4 := Bool.eq_false_iff.mp h3); (try dsimp only); (repeat (first | rw [if_neg h4] | rw [if_neg h1] | rw [if_neg a1] | rw [if_neg a2] | rw [if_neg a3] | rw [if_neg a4]))))
local macro_rules | `(tactic| kst_facts1) => `(tactic| with_reducible exact IntsAre.nil)
local macro_rules | `(tactic| k_memK) => `(tactic| assumption)
local macro_rules | `(tactic| k_mem) => `(tactic| assumption)
local macro_rules | `(tactic| walk_at "pyIter bytes") => `(tactic| (k_here; refine Stop.to ?_))
local macro_rules | `(tactic| walk_at $s:str) => `(tactic| k_extra $s)
set_option maxRecDepth 100000 in
set_option maxHeartbeats 4000000 in
theorem reading_call (w : World) (cs : List Int) (tb : Tok) (news : List (Addr × Obj)) (hA : Asc cs) (hlen : cs.length < 500) :
    Ctr0 w 133 6 news [.str (strOf cs) tb] (fun h₀ L m s Q => ∀ t h' tk', Fr h₀ L h' m → News h₀ L h' news → Q (optV (readF cs) t) { s with heap := h', toks := tk' }) := by
  k_with_none
  k_with "call type:type" => ((with_reducible show wpAny _ _ (call _ [Value.bytes _ _]) _ _ _); refine call_type_of (Tx := "bytes") rfl (by decide +kernel) ?_)
  k_with "binaryOp LShift int int" => (k_here; (first | with_reducible refine lshift_eq (by decide) (by decide) (decI_abs (by assumption)) (mul16 _) ?_ | with_reducible refine lshift_eq (by decide) (by decide) (decI_abs (by assumption)) (mul4 _) ?_ | with_reducible refine lshift_eq (by decide) (by decide) (decI_abs (by assumption)) (mul64 _) ?_))
  k_with "binaryOp RShift int int" => (k_here; (first | with_reducible refine rshift_eq (by decide) (shr4 _) ?_ | with_reducible refine rshift_eq (by decide) (shr2 _) ?_))
  k_with "binaryOp BitAnd int int" => (k_here; (first | with_reducible refine and_eq (and3 _) ?_ | with_reducible refine and_eq (and15 _) ?_))
  k_with "binaryOp BitOr int int" => (k_here; (first | with_reducible refine or_eq (decI_or1 (by with_reducible assumption) (by with_reducible assumption)) ?_ | with_reducible refine or_eq (decI_or2 (by with_reducible assumption) (by with_reducible assumption)) ?_ | with_reducible refine or_eq (decI_or3 (by with_reducible assumption) (by with_reducible assumption)) ?_))
  k_with "call ref" => (k_here; (with_reducible show wpAny _ _ (call (Value.ref 77) [Value.int _ _]) _ _ _); k_dflt (refine' Ctr.go (c := bval_call _ _ _ _) (R := ?_)); (intro t9 h9 tk9 F9 N9); (try dsimp only))
  k_with "call builtin:list.append" => (k_here; (fail_if_success (with_reducible show wpAny _ _ (call (Value.builtin _) [Value.ref _, _]) _ _ _)); (show wpAny _ _ (call (Value.builtin _) [Value.ref _, _]) _ _ _); k_dflt (refine' append_K (by k_asm) (by k_asm) (by k_upd) ?_ (by ((have hl9 := DecI.hlen (by assumption)); (simp only [List.size_toArray, Array.size_push, List.length_append, List.length_cons, List.length_nil, PySem.sizeLine_eq]); omega))); intro h' F' N'; (try k_sweep))
  k_with "isTrue BoolOp" => (k_here; (with_reducible show wpAny _ _ (isTrue (PySem.Expr.BoolOp BoolOp.And [PySem.Expr.Name _ _, PySem.Expr.Name _ _] _) _ _) _ _ _); k_dflt (refine' and_off (by k_asm) (by exact rfl) (by exact rfl) ?_ (by exact rfl) (by exact rfl) (by exact rfl) (by decide) (by decide)))
  k_with "getMethod str" => (k_here; (with_reducible refine encode_method ?_))
  k_with "call builtin:str.encode" => (k_here; (show wpAny _ _ (call (Value.builtin _) [Value.str _ _, Value.str _ _]) _ _ _); (refine encode_rule (by assumption) (by omega) ?_); intro _ _)
  k_with "call builtin:len" => (k_here; (with_reducible show wpAny _ _ (call (Value.builtin "len") [Value.ref _]) _ _ _); k_dflt ((refine' kst_len (by k_asm) (by k_mem) (by exact IntsAre.length (by with_reducible assumption)) (by ((have hl9 := DecI.hlen (by assumption)); omega)) ?_)); (have hq9 := msg_num (by with_reducible assumption) (by with_reducible assumption)); (obtain ⟨hq8, hq7⟩ := hq9))
  k_with "call type:bytes" => (k_here; (rename News _ _ _ _ => nX); (with_reducible show wpAny _ _ (call (Value.type "bytes") [Value.ref _]) _ _ _); k_dflt (refine' KBa.make_K (by k_asm) nX (by rfl) (News.isList nX (List.Mem.head _)) (by with_reducible assumption) (by exact DecI.hin (by assumption)) (by ((have hl9 := DecI.hlen (by assumption)); omega)) ?_); intro _ _ _ F' N' kbaIn)
  k_with "state" => first | with_reducible exact decI_nil | with_reducible exact decI_pad' (by assumption) (by assumption) | with_reducible exact decI_skip (by assumption) (by assumption) (by assumption) | with_reducible exact decI_0' (by assumption) (by assumption) (by assumption) (by assumption) | with_reducible exact decI_1' (by assumption) (by assumption) (by assumption) (by assumption) | with_reducible exact decI_2' (by assumption) (by assumption) (by assumption) (by assumption) | with_reducible exact decI_3' (by assumption) (by assumption) (by assumption) (by assumption) (by assumption) (by assumption)
  unfold Ctr0
  k_fill
  intro mean mg mb dp un gd cn csc a ccd A₀ h₀ L m s Q E B F X N T hk hdp hun hret
  refine wpAny_call ?_
  w_on
  k_dflt (refine' code_defS0 ?k1 ?k2 ?k3 ?k4 ?k5 ?kA ?k6 ?k7 ?k8 ?k9 ?kB ?_ ?cK ?c2 ?c3 ?c4 ?c5; (case kA => exact rfl); (case k2 => k_asm); (case k1 => k_asm); (case k3 => k_asm); (case k4 => k_asm); (case k5 => k_asm); (case k6 => k_is); (case k7 => k_is); (case k8 => ktr_room); (case k9 => first | exact binds_K (by k_in) rfl (by k_is) rfl rfl rfl | exact BindsTo.of_eq rfl); (case kB => exact locs rfl); (case cK => assumption); (case c2 => exact rfl); (case c3 => exact rfl); (case c4 => exact rfl); (case c5 => decide); k_whole; intro g' L' h' FG' F' N' B' X' T' D'; (try dsimp only); (try k_lift B'); (try k_fold))
  have hmk := kstMark
  k_steps
  unfold Stop
  have hIn : KBa.In cs := fun c hc => ⟨(hA c hc).1, by have := (hA c hc).2; omega⟩
  (rename Fr _ _ _ _ => lF')
  have lF2 : Fr _ _ _ (fun y => if y = Str.ofString "i" then some (Value.int 0 _) else if y = Str.ofString "pads" then some (Value.int 0 _) else if y = Str.ofString "leftchar" then some (Value.int 0 _) else if y = Str.ofString "quad_pos" then some (Value.int 0 _) else if y = Str.ofString "out" then some (Value.ref _) else if y = Str.ofString "strict_mode" then some (Value.bool false) else if y = Str.ofString "ascii_data" then some (Value.bytes (byteArr cs) _) else List.lookup y [(Str.ofString "strict_mode", Value.bool false), (Str.ofString "data", Value.bytes (byteArr cs) _)]) := lF'
  clear lF'
  k_state (fun pre out quad left pads (i : Int) => DecI pre out quad left pads) "out" "quad_pos" "leftchar" "pads" "i"
  all_goals k_steps
  all_goals first
    | (rw [dec_ok0 (by assumption) (by assumption)]; exact hret _ _ _ (by assumption) (cb_drop (by assumption) (by kcj_all)))
    | (rw [dec_ok2 (by assumption) (by assumption) (by assumption)]; exact hret _ _ _ (by assumption) (cb_drop (by assumption) (by kcj_all)))
    | (rw [dec_no1 (cs := cs) (by assumption) (by assumption) tb]; exact hret _ _ _ (by assumption) (cb_drop (by assumption) (by kcj_all)))
    | (rw [dec_no2 (cs := cs) (by assumption) (by assumption) (by assumption) tb]; exact hret _ _ _ (by assumption) (cb_drop (by assumption) (by kcj_all)))
    | skip
end Mine
end
section
open PySem PySem.Calls PySem.Spec PyProof.Rows PySem.W PyProof.Rows.LCg
set_option autoImplicit false
set_option maxRecDepth 100000
namespace Mine
theorem ints_flat {vs : List Value} {ns : List Int} (h : IntsAre vs ns) : ∀ k : Nat, IntsAre (List.replicate k vs).flatten (List.replicate k ns).flatten := by
  intro k
  induction k with
  | zero => exact .nil
  | succ k ih => rw [List.replicate_succ, List.replicate_succ, List.flatten_cons, List.flatten_cons]; exact h.append ih
section
variable {prog : Program} {w : World} {A : Around} {E : Value → Shared → Prop} {s : Shared} {h₀ : Heap} {L : Addr} {m : Str → Option Value} {news : List (Addr × Obj)} {Q : Value → Shared → Prop}
theorem rep_ints {l : Addr} {vs : List Value} {ns : List Int} {k : Nat} {x : Int} {u : Tok} (F : Fr h₀ L s.heap m) (N : News h₀ L s.heap news) (hm : (l, listOf vs.toArray k) ∈ news) (hi : IntsAre vs ns) (h0 : 0 ≤ x) (h4 : x ≤ 4) (hz : ns.length ≤ 64)
    (h : ∀ D ws h', Fr h₀ L h' m → News h₀ L h' ((D, listOf (List.toArray ws) 0) :: news) → (∀ p ∈ news, p.1 < D) → IntsAre ws (List.replicate x.toNat ns).flatten → Q (.ref D) { s with heap := h' }) :
    wpAny (model prog w) A (binaryOp .Mult (.ref l) (.int x u)) Q E s := by
  refine KMa.mul F N (N.isList hm) (by omega) (by omega) ?_ rfl (fun D h' F' N' l1 => h D _ h' F' N' l1 (ints_flat hi _))
  rw [hi.length]
  have : x.toNat ≤ 4 := by omega
  calc ns.length * x.toNat ≤ 64 * 4 := Nat.mul_le_mul hz this
    _ ≤ 256 := by decide
end
/-- the row's own octets -/
theorem row_in (zs : List Int) (k : Nat) : KBa.In (List.replicate k (List.map (fun k' : Int => (91 * k' + 200).fmod 256) (rangeKs 0 (19 - 0 : Int).toNat) ++ List.map (fun k' : Int => k'.fmod 256) zs)).flatten := by
  have h : KBa.In (List.map (fun k' : Int => (91 * k' + 200).fmod 256) (rangeKs 0 (19 - 0 : Int).toNat) ++ List.map (fun k' : Int => k'.fmod 256) zs) := by
    intro n hn
    rcases List.mem_append.mp hn with hn | hn
    · obtain ⟨x, _, rfl⟩ := List.mem_map.mp hn
      simp only [fmod_pos _ (show (0 : Int) ≤ 256 by decide)]
      omega
    · obtain ⟨x, _, rfl⟩ := List.mem_map.mp hn
      simp only [fmod_pos _ (show (0 : Int) ≤ 256 by decide)]
      omega
  intro n hn
  obtain ⟨l, hl, hn⟩ := List.mem_flatten.mp hn
  rw [List.eq_of_mem_replicate hl] at hn
  exact h n hn
theorem row_len (zs : List Int) {k : Nat} (h1 : 1 ≤ k) (h4 : k ≤ 4) (hz : zs.length ≤ 9) : 19 ≤ (List.replicate k (List.map (fun k' : Int => (91 * k' + 200).fmod 256) (rangeKs 0 (19 - 0 : Int).toNat) ++ List.map (fun k' : Int => k'.fmod 256) zs)).flatten.length ∧ (List.replicate k (List.map (fun k' : Int => (91 * k' + 200).fmod 256) (rangeKs 0 (19 - 0 : Int).toNat) ++ List.map (fun k' : Int => k'.fmod 256) zs)).flatten.length ≤ 112 := by
  rw [List.length_flatten, List.map_replicate, List.sum_replicate_nat, List.length_append, List.length_map, List.length_map, rangeKs_length]
  have : (19 - 0 : Int).toNat = 19 := by decide
  rw [this]
  have hk : k = 1 ∨ k = 2 ∨ k = 3 ∨ k = 4 := by omega
  rcases hk with rfl | rfl | rfl | rfl <;> omega
end Mine
end
section
open PySem PySem.Calls PySem.Spec PyProof.Rows PySem.W PyProof.Rows.LCg
set_option autoImplicit false
set_option maxRecDepth 100000
namespace Mine
/-- the ledger bears pairs of ints -/
inductive PairsAre (news : List (Addr × Obj)) : List Value → List (Int × Int) → Prop
  | nil : PairsAre news [] []
  | cons {a : Addr} {p q : Int} {t u : Tok} {n : Nat} {vs : List Value} {ps : List (Int × Int)} : (a, tupO #[.int p t, .int q u] n) ∈ news → PairsAre news vs ps → PairsAre news (.ref a :: vs) ((p, q) :: ps)
theorem PairsAre.mono {news news' : List (Addr × Obj)} (hs : ∀ p ∈ news, p ∈ news') {vs : List Value} {ps : List (Int × Int)} (h : PairsAre news vs ps) : PairsAre news' vs ps := by
  induction h with
  | nil => exact .nil
  | cons hm _ ih => exact .cons (hs _ hm) ih
theorem PairsAre.append {news : List (Addr × Obj)} {vs ws : List Value} {ps qs : List (Int × Int)} (h : PairsAre news vs ps) (k : PairsAre news ws qs) : PairsAre news (vs ++ ws) (ps ++ qs) := by
  induction h with
  | nil => exact k
  | cons hm _ ih => exact .cons hm ih
theorem PairsAre.length {news : List (Addr × Obj)} {vs : List Value} {ps : List (Int × Int)} (h : PairsAre news vs ps) : vs.length = ps.length := by
  induction h with
  | nil => rfl
  | cons _ _ ih => rw [List.length_cons, List.length_cons, ih]
theorem PairsAre.get {news : List (Addr × Obj)} {vs : List Value} {ps : List (Int × Int)} (h : PairsAre news vs ps) : ∀ (i : Nat) (v : Value), vs[i]? = some v → ∃ a p q t u n, v = .ref a ∧ (a, tupO #[.int p t, .int q u] n) ∈ news ∧ (p, q) ∈ ps := by
  induction h with
  | nil => intro i v e; simp at e
  | @cons a p q t u n vs ps hm _ ih =>
    intro i v e
    cases i with
    | zero =>
      have : v = .ref a := by simpa using e.symm
      exact ⟨a, p, q, t, u, n, this, hm, .head _⟩
    | succ i =>
      obtain ⟨a', p', q', t', u', n', e1, e2, e3⟩ := ih i v (by simpa using e)
      exact ⟨a', p', q', t', u', n', e1, e2, .tail _ e3⟩
section
variable {prog : Program} {w : World} {A : Around} {E : Value → Shared → Prop} {s : Shared} {env : Env} {h₀ : Heap} {target : PySem.Expr} {body : List Stmt} {Q : Flow → Shared → Prop}
def TurnEnd (h₀ : Heap) (L : Addr) (news : List (Addr × Obj)) (J : (Str → Option Value) → Prop) (s₁ : Shared) (f : Flow) (s₂ : Shared) : Prop :=
  f = .next ∧ ∃ h' tk m', s₂ = { s₁ with heap := h', toks := tk } ∧ Fr h₀ L h' m' ∧ News h₀ L h' news ∧ J m'
theorem TurnEnd.go {L : Addr} {news : List (Addr × Obj)} {J : (Str → Option Value) → Prop} {s₁ : Shared} {h' : Heap} {tk : Nat} {m' : Str → Option Value} (F : Fr h₀ L h' m') (N : News h₀ L h' news) (hj : J m') :
    TurnEnd h₀ L news J s₁ .next { s₁ with heap := h', toks := tk } := ⟨rfl, h', tk, m', rfl, F, N, hj⟩
theorem pairs_loop {l : Addr} {vs : List Value} {ps : List (Int × Int)} {k : Nat} {m₀ : Str → Option Value} {news : List (Addr × Obj)} (J : (Str → Option Value) → Prop) (hh : A.handled = none) (F : Fr h₀ env.locals s.heap m₀) (N : News h₀ env.locals s.heap news)
    (hm : (l, listOf vs.toArray k) ∈ news) (hp : PairsAre news vs ps) (hj : J m₀)
    (turn : ∀ a p q t u n m₁ (s₁ : Shared) own, (p, q) ∈ ps → J m₁ → Fr h₀ env.locals s₁.heap m₁ → News h₀ env.locals s₁.heap (own ++ news) → (a, tupO #[.int p t, .int q u] n) ∈ own ++ news →
      wpAny (model prog w) A (assign target env (.ref a)) (fun _ s₃ => wpAny (model prog w) A (execs body env) (TurnEnd h₀ env.locals (own ++ news) J s₁) E s₃) E s₁)
    (done : ∀ m₁ h tk, J m₁ → Fr h₀ env.locals h m₁ → News h₀ env.locals h news → Q .next { s with heap := h, toks := tk }) :
    wpAny (model prog w) A (pyIter (.ref l)) (fun it s₂ => LoopAtT prog w A h₀ env target body Q E it s₂) E s := by
  have hL := N.isList hm
  have hl : l < s.heap.objs.size := Heap.lt_size (N _ hm).1
  have a1 : env.locals ≠ s.heap.objs.size := Nat.ne_of_lt F.ns.lt
  have a2 : env.locals ≠ l := Ne.symm (N _ hm).2.1
  have a3 : ∀ p ∈ news, p.1 ≠ s.heap.objs.size := fun p q => Nat.ne_of_lt (Heap.lt_size (N p q).1)
  have up : ∀ b o, s.heap.get? b = some o → (s.heap.push { cls := .type "list_iterator", data := .fields #[.ref l, .int 0 0] }).get? b = some o := fun _ _ q => Heap.get?_push_of_some _ q
  refine wpAny_pyIter_list hL ⟨s.heap.objs.size, _, _, vs.toArray.size, _, _, m₀, news, (fun _ m nw => J m ∧ nw = news), rfl, Walks.list hh s.heap.objs.size l (Nat.ne_of_lt hl) vs.toArray, ?_, ?_, ?_,
    ⟨⟨_, Heap.get?_push_size _ rfl, rfl, rfl⟩, hL.push _⟩, F.keeps up, N.grown up, (fun i s' v Q' st q => letGo_listiter st.1 q), ⟨hj, rfl⟩, ?_, ?_⟩
  · simp [a1, a2]
  · simpa using next_is_new F
  · simpa using a3
  · rintro i v m₁ news₁ s₁ own hi hP ⟨hJ, rfl⟩ hoff hsub hown _ st F₁ N₁
    obtain ⟨a, p, q, t, u, n, rfl, ha, hpq⟩ := hp.get i v (by simpa using hP)
    refine wpAny_mono (turn a p q t u n m₁ s₁ own hpq hJ F₁ N₁ (List.mem_append_right _ ha)) (fun _ s₂ h₂ => wpAny_mono h₂ (fun f s₃ h₃ => ?_) fun _ _ e => e) fun _ _ e => e
    obtain ⟨rfl, h', tk, m', rfl, F', N', hJ'⟩ := h₃
    exact .intro F' N' hoff ⟨hJ', rfl⟩
  · rintro h' tk m' news' F' N' _ ⟨hJ, rfl⟩
    exact done m' h' tk hJ F' N'
end
end Mine
end
section
open PySem PySem.Calls PySem.Spec PyProof.Rows PySem.W PyProof.Rows.LCg
set_option autoImplicit false
set_option maxRecDepth 100000
namespace Mine
theorem allLt_mem {d : Nat} : ∀ {l : List (Addr × Obj)}, AllLt d l → ∀ p ∈ l, @LT.lt Nat _ p.1 d
  | [], _, _, h => nomatch h
  | _ :: _, x, p, h => by
    rcases List.mem_cons.mp h with rfl | h
    · exact x.1
    · exact allLt_mem x.2 p h
theorem off3_cons {I C D T : Addr} {o : Obj} {l : List (Addr × Obj)} (h : Off3 I C D l) (a : @Ne Nat T I) (b : @Ne Nat T C) (c : @Ne Nat T D) : Off3 I C D ((T, o) :: l) := ⟨⟨a, b, c⟩, h⟩
theorem srcAt_cons {h₀ : Heap} {ax : Addr} {its : Array Value} {news : List (Addr × Obj)} {p : Addr × Obj} (h : SrcAt h₀ ax its news) : SrcAt h₀ ax its (p :: news) := by
  rcases h with h | ⟨o, hm, r⟩
  · exact .inl h
  · exact .inr ⟨o, .tail _ hm, r⟩
def PairEnd (h₀ : Heap) (L : Addr) (m : Str → Option Value) (s₁ : Shared) (led : List (Addr × Obj)) (pq : Int × Int) (y : Value) (s₂ : Shared) : Prop :=
  ∃ T t u n h' tk, y = .ref T ∧ s₂ = { s₁ with heap := h', toks := tk } ∧ Fr h₀ L h' m ∧ News h₀ L h' ((T, tupO #[.int pq.1 t, .int pq.2 u] n) :: led) ∧ AllLt T led
theorem PairEnd.intro {h₀ : Heap} {L T : Addr} {m : Str → Option Value} {s₁ : Shared} {led : List (Addr × Obj)} {p q : Int} {t u : Tok} {n tk : Nat} {h' : Heap} (F : Fr h₀ L h' m) (N : News h₀ L h' ((T, tupO #[.int p t, .int q u] n) :: led)) (l1 : AllLt T led) :
    PairEnd h₀ L m s₁ led (p, q) (.ref T) { s₁ with heap := h', toks := tk } := ⟨T, t, u, n, h', tk, rfl, rfl, F, N, l1⟩
section
variable {prog : Program} {w : World} {A : Around} {E : Value → Shared → Prop} {s : Shared} {h₀ : Heap} {L : Addr} {m : Str → Option Value} {env : Env}
theorem pairs_rest {elt : PySem.Expr} {x : Str} {scope : Scope} {cl : List (Str × Addr)} {ax : Addr} {vs : List Value} {zs : List Int} {Fin : List Value → List (Addr × Obj) → Prop} {news₀ : List (Addr × Obj)} (hi : IntsAre vs zs) (f : Int → Int × Int)
    (turn : ∀ z t I oI C oC D ys nw m₂ h tk (E' : Value → Shared → Prop), NsObj oC m₂ → m₂ x = some (.int z t) → Fr h₀ L h m → News h₀ L h ((I, oI) :: (C, oC) :: (D, lst ys) :: nw) → ((@Ne Nat I C) ∧ (@Ne Nat I D) ∧ (@Ne Nat C D)) →
      wpAny (model prog w) A (eval elt (compEnvC scope cl C env)) (PairEnd h₀ L m { s with heap := h, toks := tk } ((I, oI) :: (C, oC) :: (D, lst ys) :: nw) (f z)) E' { s with heap := h, toks := tk })
    (hS : SrcAt h₀ ax vs.toArray news₀)
    (fin : ∀ ys nw, (∀ p ∈ news₀, p ∈ nw) → PairsAre nw ys (zs.map f) → Fin ys nw) :
    CompRest prog w A h₀ L m env elt x scope cl s (SrcAt h₀ ax vs.toArray) (fun i v => vs.toArray[i]? = some v) Fin vs.toArray.size 0 [] news₀ := by
  have hlen : vs.toArray.size = zs.length := by rw [List.size_toArray, hi.length]
  have main : ∀ (k i : Nat) (ys : List Value) (nw : List (Addr × Obj)), i + k = zs.length → (∀ p ∈ news₀, p ∈ nw) → SrcAt h₀ ax vs.toArray nw → PairsAre nw ys ((zs.take i).map f) →
      CompRest prog w A h₀ L m env elt x scope cl s (SrcAt h₀ ax vs.toArray) (fun i v => vs.toArray[i]? = some v) Fin k i ys nw := by
    intro k
    induction k with
    | zero =>
      intro i ys nw e hs _ hp
      have : i = zs.length := by omega
      subst this
      rw [List.take_length] at hp
      exact fin ys nw hs hp
    | succ k ih =>
      intro i ys nw e hs hS' hp
      refine CompRest.succ ?_
      intro v I oI C oC D m₂ h tk E' hv hC hx F N off ne
      have hlt : i < zs.length := by omega
      obtain ⟨t, hx'⟩ := hi.get i zs[i] (by simp [hlt])
      have hv' : v = .int zs[i] t := by
        have e2 : vs[i]? = some v := by simpa using hv
        rw [hx'] at e2; exact (Option.some.inj e2).symm
      subst hv'
      refine wpAny_mono (turn zs[i] t I oI C oC D ys nw m₂ h tk E' hC hx F N ne) (fun y s₂ h₂ => ?_) fun _ _ e => e
      obtain ⟨T, t', u', n', h', tk', rfl, rfl, F', N', l1⟩ := h₂
      have lt := allLt_mem l1
      have a1 : @LT.lt Nat _ I T := lt _ (.head _)
      have a2 : @LT.lt Nat _ C T := lt _ (.tail _ (.head _))
      have a3 : @LT.lt Nat _ D T := lt _ (.tail _ (.tail _ (.head _)))
      refine CompEnd.intro F' N' ((T, tupO #[.int (f zs[i]).1 t', .int (f zs[i]).2 u'] n') :: nw) ?_ (off3_cons off (Ne.symm (Nat.ne_of_lt a1)) (Ne.symm (Nat.ne_of_lt a2)) (Ne.symm (Nat.ne_of_lt a3))) (srcAt_cons hS') ?_
      · intro p hp'
        simp only [List.mem_cons] at hp' ⊢
        rcases hp' with h1 | h1 | h1 | h1 | h1
        · exact .inr (.inl h1)
        · exact .inr (.inr (.inl h1))
        · exact .inr (.inr (.inr (.inl h1)))
        · exact .inl h1
        · exact .inr (.inr (.inr (.inr h1)))
      · refine ih (i + 1) _ _ (by omega) (fun p hp' => .tail _ (hs p hp')) (srcAt_cons hS') ?_
        rw [List.take_add_one, List.getElem?_eq_getElem hlt]
        simp only [Option.toList_some, List.map_append, List.map_cons, List.map_nil]
        exact (hp.mono fun _ h => .tail _ h).append (.cons (.head _) .nil)
  rw [hlen]
  exact main zs.length 0 [] news₀ (by omega) (fun _ h => h) hS .nil
theorem pairs_src {elt : PySem.Expr} {x : Str} {scope : Scope} {cl : List (Str × Addr)} {Fin : Shared → List Value → List (Addr × Obj) → Prop} {ax : Addr} {vs : List Value} {zs : List Int} {k : Nat} {news : List (Addr × Obj)} {s₁ : Shared} (f : Int → Int × Int)
    (hh : A.handled = none) (F : Fr h₀ L s₁.heap m) (N : News h₀ L s₁.heap news) (hm : (ax, listOf vs.toArray k) ∈ news) (hi : IntsAre vs zs) (hsz : zs.length ≤ 1000)
    (turn : ∀ (g : Heap) z t I oI C oC D ys nw m₂ h tk (E' : Value → Shared → Prop), NsObj oC m₂ → m₂ x = some (.int z t) → Fr h₀ L h m → News h₀ L h ((I, oI) :: (C, oC) :: (D, lst ys) :: nw) → ((@Ne Nat I C) ∧ (@Ne Nat I D) ∧ (@Ne Nat C D)) →
      wpAny (model prog w) A (eval elt (compEnvC scope cl C env)) (PairEnd h₀ L m { s₁ with heap := h, toks := tk } ((I, oI) :: (C, oC) :: (D, lst ys) :: nw) (f z)) E' { s₁ with heap := h, toks := tk })
    (fin : ∀ (g : Heap) ys nw, (∀ p ∈ news, p ∈ nw) → PairsAre nw ys (zs.map f) → Fin { s₁ with heap := g } ys nw) :
    CompSrc prog w A h₀ L m env elt x scope cl Fin (.ref ax) s₁ := by
  refine CompSrc.ledger hh F N hm (by rw [List.size_toArray, hi.length, sizeLine_eq]; omega) (fun g => ?_)
  exact pairs_rest hi f (fun z t I oI C oC D ys nw m₂ h tk E' a b c d e => turn g z t I oI C oC D ys nw m₂ h tk E' a b c d e) (.inr ⟨_, hm, rfl, _, rfl⟩) (fin g)
end
end Mine
end
section
open PySem PySem.W PyProof.Rows
set_option autoImplicit false
namespace Mine
theorem rep_x (S : Int) : 0 ≤ 1 + S.fmod 4 ∧ 1 ≤ 1 + S.fmod 4 ∧ 1 + S.fmod 4 ≤ 4 := by rw [fmod_pos _ (by decide)]; omega
section
variable {prog : Program} {w : World} {A : Around} {E : Value → Shared → Prop} {s : Shared} {h₀ : Heap} {L : Addr} {m : Str → Option Value} {news : List (Addr × Obj)} {Q : Value → Shared → Prop}
theorem rep_row {l : Addr} {vs : List Value} {zs : List Int} {k : Nat} {S : Int} {u : Tok} (F : Fr h₀ L s.heap m) (N : News h₀ L s.heap news) (hm : (l, listOf vs.toArray k) ∈ news)
    (hi : IntsAre vs (List.map (fun k' : Int => (91 * k' + 200).fmod 256) (rangeKs 0 (19 - 0 : Int).toNat) ++ List.map (fun k' : Int => k'.fmod 256) zs)) (hz : zs.length ≤ 9)
    (h : ∀ D ws (R : List Int) h', Fr h₀ L h' m → News h₀ L h' ((D, listOf (List.toArray ws) 0) :: news) → (∀ p ∈ news, p.1 < D) → IntsAre ws R → KBa.In R → 19 ≤ R.length → R.length ≤ 112 → Q (.ref D) { s with heap := h' }) :
    wpAny (model prog w) A (binaryOp .Mult (.ref l) (.int (1 + S.fmod 4) u)) Q E s := by
  have hx := rep_x S
  refine rep_ints F N hm hi hx.1 hx.2.2 ?_ (fun D ws h' F' N' l1 hI => ?_)
  · rw [List.length_append, List.length_map, List.length_map, rangeKs_length]; show 19 + _ ≤ _; omega
  · have hl := row_len zs (k := (1 + S.fmod 4).toNat) (by omega) (by omega) hz
    exact h D ws _ h' F' N' l1 hI (row_in zs _) hl.1 hl.2
end
theorem take9 (zs : List Int) (f : Int → Int) : (List.map f (List.take 9 zs)).length ≤ 9 := by rw [List.length_map, List.length_take]; omega
theorem encText_asc (ns : List Int) : Asc (encText ns) := by
  have ho : Asc (encOut ns) := by
    intro c hc
    obtain ⟨x, _, rfl⟩ := List.mem_map.mp hc
    exact tbl_in x
  have h1 : ∀ (l : List Int) (c : Int), Asc l → 0 ≤ c → c < 128 → Asc (l ++ [c]) := by
    intro l c hl h0 h1 x hx
    rcases List.mem_append.mp hx with hx | hx
    · exact hl x hx
    · rw [List.mem_singleton.mp hx]; exact ⟨h0, h1⟩
  unfold encText
  split
  · exact ho
  · split
    · exact h1 _ _ (h1 _ _ (h1 _ _ ho (tbl_in _).1 (tbl_in _).2) (by decide) (by decide)) (by decide) (by decide)
    · exact h1 _ _ (h1 _ _ ho (tbl_in _).1 (tbl_in _).2) (by decide) (by decide)
theorem text_long {R : List Int} (h : KBa.In R) (h1 : 19 ≤ R.length) : 24 ≤ (encText R).length ∧ 24 ≤ (figF R).length := by
  have := text_len h
  have := figF_len h
  omega
theorem text_short {R : List Int} (h1 : R.length ≤ 112) : (encText R).length < 500 := by have := encText_len R; omega
theorem text_ne {R : List Int} (h : KBa.In R) (h1 : 19 ≤ R.length) : encText R ≠ [] := by
  intro e
  have := (text_long h h1).1
  rw [e] at this
  exact absurd this (by decide)
section
variable {prog : Program} {w : World} {A : Around} {E : Value → Shared → Prop} {s : Shared} {h₀ : Heap} {L : Addr} {m : Str → Option Value} {news : List (Addr × Obj)} {Q : Value → Shared → Prop}
theorem cat_pairs {a b : Addr} {vs ws : List Value} {ps qs : List (Int × Int)} {j k : Nat} (F : Fr h₀ L s.heap m) (N : News h₀ L s.heap news) (ha : (a, listOf vs.toArray j) ∈ news) (hb : (b, listOf ws.toArray k) ∈ news) (hp : PairsAre news vs ps) (hq : PairsAre news ws qs) (hz : ps.length + qs.length ≤ 1000)
    (h : ∀ D us h', Fr h₀ L h' m → News h₀ L h' ((D, listOf (List.toArray us) 0) :: news) → (∀ p ∈ news, p.1 < D) → PairsAre ((D, listOf (List.toArray us) 0) :: news) us (ps ++ qs) → Q (.ref D) { s with heap := h' }) :
    wpAny (model prog w) A (binaryOp .Add (.ref a) (.ref b)) Q E s := by
  refine kmk_add_lit F N (N.isList ha) (N.isList hb) rfl ?_ ?_
  · intro D h' F' N' l1
    refine h D _ h' F' N' l1 ?_
    exact (hp.append hq).mono fun _ h => .tail _ h
  · show vs.length + ws.length ≤ _
    rw [hp.length, hq.length, sizeLine_eq]; omega
end
def pairOf (z : Int) : Int × Int := (z.fmod 13, (z.fdiv 13).fmod 13)
theorem pairOf_in (z : Int) : 0 ≤ (pairOf z).1 ∧ (pairOf z).1 ≤ 12 ∧ 0 ≤ (pairOf z).2 ∧ (pairOf z).2 ≤ 12 := by
  unfold pairOf
  rw [fmod_pos _ (by decide), fmod_pos _ (by decide)]
  simp only
  omega
theorem pairs_in (zs : List Int) {p q : Int} (h : (p, q) ∈ [((0 : Int), (1 : Int)), (4, 4), (5, 0), (3, 2), (2, 7)] ++ zs.map pairOf) : 0 ≤ p ∧ p ≤ 12 ∧ 0 ≤ q ∧ q ≤ 12 := by
  rcases List.mem_append.mp h with h | h
  · simp only [List.mem_cons, Prod.mk.injEq, List.not_mem_nil, or_false] at h
    omega
  · obtain ⟨z, _, e⟩ := List.mem_map.mp h
    have := pairOf_in z
    rw [e] at this
    exact this
def Kept3 (m₀ : Str → Option Value) (m : Str → Option Value) : Prop := ∀ z, z ≠ Str.ofString "ahead" → z ≠ Str.ofString "behind" → z ≠ Str.ofString "read" → m z = m₀ z
theorem kept3_eq {m₀ m : Str → Option Value} (h : Kept3 m₀ m) : m = fun z => if z = Str.ofString "ahead" then m (Str.ofString "ahead") else if z = Str.ofString "behind" then m (Str.ofString "behind") else if z = Str.ofString "read" then m (Str.ofString "read") else m₀ z := by
  funext z
  by_cases h1 : z = Str.ofString "ahead"
  · subst h1; rw [if_pos rfl]
  · rw [if_neg h1]
    by_cases h2 : z = Str.ofString "behind"
    · subst h2; rw [if_pos rfl]
    · rw [if_neg h2]
      by_cases h3 : z = Str.ofString "read"
      · subst h3; rw [if_pos rfl]
      · rw [if_neg h3]; exact h z h1 h2 h3
theorem pairs_loop3 {prog : Program} {w : World} {A : Around} {E : Value → Shared → Prop} {s : Shared} {env : Env} {h₀ : Heap} {target : PySem.Expr} {body : List Stmt} {Q : Flow → Shared → Prop} {l : Addr} {vs : List Value} {ps : List (Int × Int)} {k : Nat} {m₀ : Str → Option Value} {news : List (Addr × Obj)} (hh : A.handled = none) (F : Fr h₀ env.locals s.heap m₀) (N : News h₀ env.locals s.heap news)
    (hm : (l, listOf vs.toArray k) ∈ news) (hp : PairsAre news vs ps)
    (turn : ∀ a p q t u n m₁ (s₁ : Shared) own, (p, q) ∈ ps → Kept3 m₀ m₁ → Fr h₀ env.locals s₁.heap m₁ → News h₀ env.locals s₁.heap (own ++ news) → (a, tupO #[.int p t, .int q u] n) ∈ own ++ news →
      wpAny (model prog w) A (assign target env (.ref a)) (fun _ s₃ => wpAny (model prog w) A (execs body env) (TurnEnd h₀ env.locals (own ++ news) (Kept3 m₀) s₁) E s₃) E s₁)
    (done : ∀ m₁ h tk, Kept3 m₀ m₁ → Fr h₀ env.locals h m₁ → News h₀ env.locals h news → Q .next { s with heap := h, toks := tk }) :
    wpAny (model prog w) A (pyIter (.ref l)) (fun it s₂ => LoopAtT prog w A h₀ env target body Q E it s₂) E s :=
  pairs_loop (Kept3 m₀) hh F N hm hp (fun _ _ _ _ => rfl) turn done
theorem ne_opt {prog : Program} {w : World} {A : Around} {E : Value → Shared → Prop} {s : Shared} {Q : Value → Shared → Prop} {o o' : Option (List Int)} {t u : Tok} (e : o = o') (h : Q (.bool false) s) : wpAny (model prog w) A (compareOp .NotEq (optV o t) (optV o' u)) Q E s := by
  subst e
  cases o with
  | none => exact EqNone.ne_none_none h
  | some b => exact ne_bytes (by rw [show (((byteArr b).toList != (byteArr b).toList) = false) by simp]; exact h)
theorem fig_short {R : List Int} (h : KBa.In R) (h1 : R.length ≤ 112) : (figF R).length < 300 := by have := figF_len h; omega
theorem short_in {R : List Int} (h1 : R.length ≤ 112) (p q : Int) (hp0 : 0 ≤ p) (hp : p ≤ 12) (hq0 : 0 ≤ q) (hq : q ≤ 12) (h24 : 24 ≤ (encText R).length) : Asc (shortF (encText R) p q) ∧ (shortF (encText R) p q).length < 500 := by
  have ha := encText_asc R
  have hl := text_short h1
  unfold shortF
  split
  · rename_i hs
    refine ⟨?_, ?_⟩
    · intro c hc
      rcases List.mem_append.mp hc with hc | hc
      · rcases List.mem_append.mp hc with hc | hc
        · rcases List.mem_append.mp hc with hc | hc
          · rcases List.mem_append.mp hc with hc | hc
            · exact ha c (List.mem_of_mem_take hc)
            · rw [List.mem_singleton.mp hc]; decide
          · unfold decT at hc
            split at hc <;> simp only [List.mem_cons, List.not_mem_nil, or_false] at hc <;> omega
        · have : Asc [32, 99, 104, 97, 114, 115, 93] := by unfold Asc; decide
          exact this c hc
      · exact ha c (List.mem_of_mem_drop hc)
    · simp only [List.length_append, List.length_take, List.length_drop, List.length_cons, List.length_nil]
      have : (decT (((encText R).length : Int) - p - q)).length ≤ 3 := by unfold decT; split <;> simp
      omega
  · exact ⟨ha, hl⟩
theorem in_led {h₀ h : Heap} {L : Addr} {own nw : List (Addr × Obj)} {a b x : Addr × Obj} (N : News h₀ L h (own ++ a :: b :: nw)) (hx : x ∈ nw) : x ∈ own ++ a :: b :: nw := List.mem_append_right _ (.tail _ (.tail _ hx))
theorem law_here {R : List Int} (h : KBa.In R) (h1 : 19 ≤ R.length) (h2 : R.length ≤ 112) {p q : Int} (hp0 : 0 ≤ p) (hp : p ≤ 12) (hq0 : 0 ≤ q) (hq : q ≤ 12) : readF (shortF (encText R) p q) = dueF R (figF R) p q := by
  have := text_long h h1
  exact law_pure h hp0 (by omega) hq0 (by omega) (by omega) (text_short h2)
local macro_rules | `(tactic| k_room) => `(tactic| ktr_room)
local macro_rules | `(tactic| k_memK) => `(tactic| assumption)
local macro_rules | `(tactic| k_mem) => `(tactic| assumption)
local macro_rules | `(tactic| walk_at "pyIter ref") => `(tactic| (k_here; (with_reducible show wpAny _ _ (pyIter (Value.ref _)) (fun it s₂ => LoopAtT _ _ _ _ _ _ _ _ _ it s₂) _ _); refine Stop.to ?_))
local macro_rules | `(tactic| walk_at $s:str) => `(tactic| k_extra $s)
set_option maxRecDepth 100000 in
set_option maxHeartbeats 8000000 in
theorem holds : PySem.Challenge.rw_qh0113_01.Holds := by
  k_with_none
  k_with "binaryOp Mult ref int" => (k_here; k_dflt ((refine' rep_row (by k_asm) (by k_asm) (by k_mem) (by with_reducible assumption) (by exact take9 _ _) ?_)); intro D' ws' R9 h' F' N' l1 hI' hIn9 hLo9 hHi9; (try k_lt l1); (try k_sweep))
  k_with "call type:bytes" => (k_here; (rename News _ _ _ _ => nX); (with_reducible show wpAny _ _ (call (Value.type "bytes") [Value.ref _]) _ _ _); k_dflt (refine' KBa.make_K (by k_asm) nX (by rfl) (News.isList nX (List.Mem.head _)) (by with_reducible assumption) (by with_reducible assumption) (by omega) ?_); intro _ _ _ F' N' kbaIn)
  k_with "call ref" => (k_here; (with_reducible show wpAny _ _ (call (Value.ref 114) [Value.bytes _ _]) _ _ _); k_dflt (refine' Ctr.go (c := figures_call _ _ _ _ (by with_reducible assumption) (by omega)) (R := ?_)); (intro D9 ws9 h9 tk9 F9 N9 o9 hI9); (try dsimp only))
  k_with "call ref" => (k_here; (with_reducible show wpAny _ _ (call (Value.ref 101) [Value.bytes _ _]) _ _ _); k_dflt (refine' Ctr.go (c := encode_call _ _ _ _ (by with_reducible assumption) (by omega)) (R := ?_)); (intro t9 h9 tk9 F9 N9); (try dsimp only))
  k_with "call builtin:bytes.decode" => (k_here; (show wpAny _ _ (call (Value.builtin _) [Value.bytes _ _, Value.str _ _]) _ _ _); (refine decode_rule (encText_asc _) (text_ne (by with_reducible assumption) (by with_reducible assumption)) (Nat.le_trans (Nat.le_of_lt (text_short (by with_reducible assumption))) (by decide)) ?_); intro _ _)
  k_with "eval ListComp" => (k_here; (with_reducible show wpAny _ _ (eval (PySem.Expr.ListComp (PySem.Expr.Tuple _ _ _) _ _ _) _) _ _ _); k_dflt (refine LCg.ListComp_U (F₀ := by k_asm) (by rfl) (by decide) (by rfl) (by decide) (by rfl) ?_))
  k_with "CompSrc" => (k_here; (with_reducible show LCg.CompSrc _ _ _ _ _ _ _ (PySem.Expr.Tuple _ _ _) _ _ _ _ _ _); refine Stop.to ?_)
  k_with "PairEnd" => (k_here; exact PairEnd.intro (by k_asm) (by k_asm) (by assumption))
  k_with "binaryOp Add ref ref" => (k_here; (rename PairsAre _ _ _ => hPA9); refine Stop.to ?_)
  k_with "exec For Tuple Name" => (k_here; (rename Fr _ _ _ _ => lF'); k_dflt (refine For_invTF lF' ?_ (by intro _; rfl)))
  k_with "call ref" => (k_here; (with_reducible show wpAny _ _ (call (Value.ref 28) [Value.str _ _, Value.int _ _, Value.int _ _]) _ _ _); k_dflt (refine' Ctr.go (c := shorten_call _ _ _ _ _ _ _ _ (text_short (by with_reducible assumption)) (by with_reducible assumption) (by with_reducible assumption) (by with_reducible assumption) (by with_reducible assumption) (text_long (by with_reducible assumption) (by with_reducible assumption)).1) (R := ?_)); (intro t9 h9 tk9 F9 N9); (try dsimp only))
  k_with "call ref" => (k_here; (with_reducible show wpAny _ _ (call (Value.ref 133) [Value.str _ _]) _ _ _); k_dflt (refine' Ctr0.go (c := reading_call _ _ _ _ (short_in (by with_reducible assumption) _ _ (by with_reducible assumption) (by with_reducible assumption) (by with_reducible assumption) (by with_reducible assumption) (text_long (by with_reducible assumption) (by with_reducible assumption)).1).1 (short_in (by with_reducible assumption) _ _ (by with_reducible assumption) (by with_reducible assumption) (by with_reducible assumption) (by with_reducible assumption) (text_long (by with_reducible assumption) (by with_reducible assumption)).1).2) (R := ?_)); (intro t9 h9 tk9 F9 N9); (try dsimp only))
  k_with "call ref" => (k_here; (with_reducible show wpAny _ _ (call (Value.ref 126) [Value.bytes _ _, Value.ref _, Value.int _ _, Value.int _ _]) _ _ _); k_dflt (refine' Ctr.go (c := due_call _ _ _ _ _ _ _ _ _ _ _ _ (by assumption) (by with_reducible assumption) (by exact figF_in (by with_reducible assumption)) (by exact fig_short (by with_reducible assumption) (by with_reducible assumption)) (by exact (text_long (by with_reducible assumption) (by with_reducible assumption)).2) (by with_reducible assumption) (by with_reducible assumption) (by with_reducible assumption) (by with_reducible assumption)) (R := ?_)); (intro t9 h9 tk9 F9 N9); (try dsimp only))
  k_with "compareOp NotEq" => (k_here; (with_reducible refine ne_opt (law_here (by with_reducible assumption) (by with_reducible assumption) (by with_reducible assumption) (by with_reducible assumption) (by with_reducible assumption) (by with_reducible assumption) (by with_reducible assumption)) ?_))
  k_with "TurnEnd" => (k_here; refine TurnEnd.go (by k_asm) (by k_asm) ?_; (intro z h1 h2 h3); (try dsimp only); (repeat (first | rw [if_neg h1] | rw [if_neg h2] | rw [if_neg h3])))
  refine Mine.hd ?_
  k_go0
  (all_goals try k_fold)
  have hmk := kstMark
  k_steps
  unfold Stop
  k_dflt (refine' pairs_src pairOf ?ph ?pF ?pN ?pm ?pi ?pz ?pt ?pf)
  case ph => rfl
  case pF => k_asm
  case pN => k_asm
  case pm => k_mem
  case pi => with_reducible assumption
  case pz => exact Nat.le_trans (take9 _ _) (by decide)
  case pt =>
    intro g z t I oI C oC D ys nw m₂ h tk E' hC hx F N ne
    k_steps
  case pf =>
    intro g ys nw hs hp
    (rename IntsAre _ (figF _) => hFg)
    have hFig := hs _ (by k_mem : (_, LCg.lst _) ∈ _)
    k_steps
    unfold Stop
    k_dflt (refine' cat_pairs (ps := [((0 : Int), (1 : Int)), (4, 4), (5, 0), (3, 2), (2, 7)]) ?qF ?qN ?qa ?qb ?qp ?qq ?qz ?_)
    case qF => k_asm
    case qN => k_asm
    case qa => exact List.Mem.tail _ (hs _ (List.Mem.head _))
    case qb => exact List.Mem.head _
    case qp => exact PairsAre.mono (fun _ h => List.Mem.tail _ (hs _ h)) (.cons (by k_mem) (.cons (by k_mem) (.cons (by k_mem) (.cons (by k_mem) (.cons (by k_mem) .nil)))))
    case qq => exact PairsAre.mono (fun _ h => List.Mem.tail _ h) (by with_reducible assumption)
    case qz =>
      simp only [List.length_map, List.length_take, List.length_cons, List.length_nil]
      omega
    intro D3 us3 h3 F3 N3 l3 hP3
    k_steps
    unfold Stop
    k_dflt (refine' pairs_loop3 ?rh ?rF ?rN ?rm hP3 ?rt ?rd)
    case rh => rfl
    case rF => k_asm
    case rN => k_asm
    case rm => exact List.Mem.head _
    case rt =>
      intro a p q t u n m₁ s₁ own hpq hJ F₁ N₁ hT
      obtain ⟨p0, p1, q0, q1⟩ := pairs_in _ hpq
      have hFg2 := in_led N₁ hFig
      rw [kept3_eq hJ] at F₁
      (try k_fold)
      k_steps
    case rd =>
      intro m₁ h tk hJ F₁ N₁
      k_steps
end Mine
end
set_option maxRecDepth 100000 in
set_option maxHeartbeats 8000000 in
theorem PySem.Challenge.cw_qh0113_01_holds : PySem.Challenge.rw_qh0113_01.Holds := by
  exact Mine.holds
