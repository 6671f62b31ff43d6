import PyProof.Rows.All
import Wide.All
import OpenK.AllK
import Wide.FinOn
import PySem.Challenge.RW_bw0030_01
open PySem PySem.W PySem.Spec PySem.Calls PyProof.Rows
set_option Elab.async false
set_option linter.unusedVariables false
set_option linter.unusedSimpArgs false
set_option linter.defProp false
set_option maxRecDepth 100000
set_option maxHeartbeats 8000000
namespace Mine
open_top hd for PySem.Challenge.rw_bw0030_01
noncomputable abbrev PR := PySem.Challenge.rw_bw0030_01.row.prog
noncomputable abbrev LZ : List Str := looseW hd.view_39 [Str.ofString "round_fast", Str.ofString "fzero", Str.ofString "fone", Str.ofString "fnone", Str.ofString "fnan",
      Str.ofString "finf", Str.ofString "fninf", Str.ofString "shifts_down", Str.ofString "from_man_exp",
      Str.ofString "from_int", Str.ofString "to_man_exp", Str.ofString "to_int", Str.ofString "mpf_floor",
      Str.ofString "mpf_ceil", Str.ofString "mpf_nint", Str.ofString "mpf_frac", Str.ofString "from_rational",
      Str.ofString "mpf_pos", Str.ofString "mpf_neg", Str.ofString "mpf_add", Str.ofString "mpf_sub",
      Str.ofString "mpf_div"]

abbrev Led := List (Addr × Obj)
/-- a tuple that the top has written or the call has made -/
def TupI (K : Frag) (news : Led) (x : Addr) (vs : List Value) : Prop :=
  ∃ o n, (K.lookup x = some o ∨ (x, o) ∈ news) ∧ o.cls = .type "tuple" ∧ o.data = .seq vs.toArray n
theorem TupI.is {K : Frag} {news news' : Led} {x : Addr} {vs : List Value} {h₀ h : Heap} {L : Addr} {m : Str → Option Value} (T : TupI K news x vs) (X : K.In h₀) (F : Fr h₀ L h m) (N : News h₀ L h news')
    (sub : ∀ p ∈ news, p ∈ news') : IsTup h x vs.toArray := by
  obtain ⟨o, n, hm, hc, hd⟩ := T
  rcases hm with hm | hm
  · exact ⟨o, F.keep _ _ (X _ _ hm), hc, n, hd⟩
  · exact ⟨o, (N _ (sub _ hm)).1, hc, n, hd⟩
theorem TupI.mono {K : Frag} {news news' : Led} {x : Addr} {vs : List Value} (T : TupI K news x vs) (sub : ∀ p ∈ news, p ∈ news') : TupI K news' x vs := by
  obtain ⟨o, n, hm, hc, hd⟩ := T
  exact ⟨o, n, hm.elim .inl fun h => .inr (sub _ h), hc, hd⟩
theorem TupI.ofMem {K : Frag} {news : Led} {x : Addr} {vs : List Value} {n : Nat} {d : Option Addr} {sl : Array (Option Value)} (h : (x, ({ cls := .type "tuple", dict := d, data := .seq vs.toArray n, slots := sl } : Obj)) ∈ news) : TupI K news x vs := ⟨_, n, .inr h, rfl, rfl⟩
theorem TupI.ofK {K : Frag} {news : Led} {x : Addr} {vs : List Value} {n : Nat} {d : Option Addr} {sl : Array (Option Value)} (h : K.lookup x = some { cls := .type "tuple", dict := d, data := .seq vs.toArray n, slots := sl }) : TupI K news x vs := ⟨_, n, .inl h, rfl, rfl⟩
theorem TupI.reads {K : Frag} {news news' : Led} {x : Addr} {vs : List Value} {ds : List PyData} {h₀ h : Heap} {L : Addr} {m : Str → Option Value} (T : TupI K news x vs) (X : K.In h₀) (F : Fr h₀ L h m) (N : News h₀ L h news')
    (sub : ∀ p ∈ news, p ∈ news') (r : ReadsAll h vs ds []) : Reads h (.ref x) (.tuple ds) [] := by
  obtain ⟨o, n, hm, hc, hd⟩ := T
  rcases hm with hm | hm
  · exact reads_tuple_at (F.keep _ _ (X _ _ hm)) hc hd (by simpa using r)
  · exact reads_tuple_at (N _ (sub _ hm)).1 hc hd (by simpa using r)

abbrev RetT := Heap → Addr → (Str → Option Value) → Led → Shared → (Value → Shared → Prop) → Prop
abbrev RI (v : Int) : RetT := fun h₀ L m news s Q => ∀ (t : Tok) (h' : Heap) (tk' : Nat), Fr h₀ L h' m → News h₀ L h' news → Q (.int v t) { s with heap := h', toks := tk' }
abbrev RB (v : Bool) : RetT := fun h₀ L m news s Q => ∀ (h' : Heap) (tk' : Nat), Fr h₀ L h' m → News h₀ L h' news → Q (.bool v) { s with heap := h', toks := tk' }
abbrev TupAll (tl : Led) : Prop := ∀ p ∈ tl, ∃ vs n, p.2.data = Data.seq vs n
abbrev R2 (K : Frag) (a b : Int) : RetT := fun h₀ L m news s Q => ∀ (x : Addr) (t1 t2 : Tok) (tl : Led) (h' : Heap) (tk' : Nat), Fr h₀ L h' m → News h₀ L h' (tl ++ news) → TupAll tl → TupI K tl x [.int a t1, .int b t2] → Q (.ref x) { s with heap := h', toks := tk' }
abbrev R4 (K : Frag) (a b c d : Int) : RetT := fun h₀ L m news s Q => ∀ (x : Addr) (t1 t2 t3 t4 : Tok) (tl : Led) (h' : Heap) (tk' : Nat), Fr h₀ L h' m → News h₀ L h' (tl ++ news) → TupAll tl → TupI K tl x [.int a t1, .int b t2, .int c t3, .int d t4] → Q (.ref x) { s with heap := h', toks := tk' }

theorem r_tl {K : Frag} {h₀ h' : Heap} {L x : Addr} {news news' : Led} {vs : List Value} (N : News h₀ L h' news') (sub : ∀ p ∈ news, p ∈ news') (T : TupI K news' x vs) :
    ∃ tl, News h₀ L h' (tl ++ news) ∧ TupAll tl ∧ TupI K tl x vs := by
  obtain ⟨o, n, hm, hc, hd⟩ := T
  rcases hm with hm | hm
  · exact ⟨[], fun p hp => N p (sub p hp), (fun _ h => absurd h List.not_mem_nil), o, n, .inl hm, hc, hd⟩
  · refine ⟨[(x, o)], fun p hp => ?_, fun p hp => ?_, o, n, .inr (.head _), hc, hd⟩
    · rcases List.mem_cons.mp hp with rfl | hp
      · exact N _ hm
      · exact N p (sub p hp)
    · rw [List.mem_singleton.mp hp]; exact ⟨_, _, hd⟩
theorem r4_end {K : Frag} {h₀ h' : Heap} {L x : Addr} {m : Str → Option Value} {news news' : Led} {s : Shared} {Q : Value → Shared → Prop} {tk' : Nat} {a b c d a' b' c' d' : Int} {t1 t2 t3 t4 : Tok} (ret : R4 K a b c d h₀ L m news s Q)
    (F : Fr h₀ L h' m) (N : News h₀ L h' news') (sub : ∀ p ∈ news, p ∈ news') (T : TupI K news' x [.int a' t1, .int b' t2, .int c' t3, .int d' t4]) (e : a' = a ∧ b' = b ∧ c' = c ∧ d' = d) : Q (.ref x) { s with heap := h', toks := tk' } := by
  obtain ⟨rfl, rfl, rfl, rfl⟩ := e
  obtain ⟨tl, N', ht, T'⟩ := r_tl N sub T
  exact ret x t1 t2 t3 t4 tl h' tk' F N' ht T'
theorem r2_end {K : Frag} {h₀ h' : Heap} {L x : Addr} {m : Str → Option Value} {news news' : Led} {s : Shared} {Q : Value → Shared → Prop} {tk' : Nat} {a b a' b' : Int} {t1 t2 : Tok} (ret : R2 K a b h₀ L m news s Q)
    (F : Fr h₀ L h' m) (N : News h₀ L h' news') (sub : ∀ p ∈ news, p ∈ news') (T : TupI K news' x [.int a' t1, .int b' t2]) (e : a' = a ∧ b' = b) : Q (.ref x) { s with heap := h', toks := tk' } := by
  obtain ⟨rfl, rfl⟩ := e
  obtain ⟨tl, N', ht, T'⟩ := r_tl N sub T
  exact ret x t1 t2 tl h' tk' F N' ht T'
theorem ri_end {h₀ h' : Heap} {L : Addr} {m : Str → Option Value} {news news' : Led} {s : Shared} {Q : Value → Shared → Prop} {tk' : Nat} {a a' : Int} {t : Tok} (ret : RI a h₀ L m news s Q)
    (F : Fr h₀ L h' m) (N : News h₀ L h' news') (sub : ∀ p ∈ news, p ∈ news') (e : a' = a) : Q (.int a' t) { s with heap := h', toks := tk' } := by
  subst e
  exact ret t h' tk' F fun p hp => N p (sub p hp)
theorem rb_end {h₀ h' : Heap} {L : Addr} {m : Str → Option Value} {news news' : Led} {s : Shared} {Q : Value → Shared → Prop} {tk' : Nat} {a a' : Bool} (ret : RB a h₀ L m news s Q)
    (F : Fr h₀ L h' m) (N : News h₀ L h' news') (sub : ∀ p ∈ news, p ∈ news') (e : a' = a) : Q (.bool a') { s with heap := h', toks := tk' } := by
  subst e
  exact ret h' tk' F fun p hp => N p (sub p hp)

abbrev Cl (w : World) (mean : ExcName → Option Value) (mg mb : Str → Option Value) (sz : Nat) (f : Addr) (news : Led) (vs : List Value) (R : RetT) : Prop :=
  ∀ (dp un : Nat) (gd : Option (List Code)) (cn : Str) (cs : Scope) (a : Addr) (ccd : Value) (cl : List (Str × Addr)) (outer : List Env) (A₀ : Around) (base h₀ : Heap) (L : Addr) (m : Str → Option Value) (s : Shared) (Q E : Value → Shared → Prop),
    Below A₀ base outer h₀ → Fr h₀ L s.heap m → (hd.heap_39 w.params).In h₀ → News h₀ L s.heap news → Top hd.view_39 LZ mean mg mb h₀ → cs.kind = .function →
    dp + sz < recursionLimit → un + 8 * sz + 100 < cLine → R h₀ L m news s Q →
    wpAny (model PR w) (ktrTop dp un gd cn cs L a ccd cl outer) (call (.ref f) vs) Q E s
theorem use {w : World} {mean : ExcName → Option Value} {mg mb : Str → Option Value} {sz : Nat} {f : Addr} {news : Led} {vs : List Value} {R : RetT} (C : Cl w mean mg mb sz f news vs R)
    {dp un : Nat} {gd : Option (List Code)} {cn : Str} {cs : Scope} {a : Addr} {ccd : Value} {cl : List (Str × Addr)} {outer : List Env} {A₀ : Around} {base h₀ : Heap} {L : Addr} {m : Str → Option Value} {s : Shared} {Q E : Value → Shared → Prop}
    (B : Below A₀ base outer h₀) (F : Fr h₀ L s.heap m) (X : (hd.heap_39 w.params).In h₀) (N : News h₀ L s.heap news) (T : Top hd.view_39 LZ mean mg mb h₀) (hk : cs.kind = .function)
    (hd : dp + sz < recursionLimit) (hu : un + 8 * sz + 100 < cLine) (ret : R h₀ L m news s Q) :
    wpAny (model PR w) (ktrTop dp un gd cn cs L a ccd cl outer) (call (.ref f) vs) Q E s := C _ _ _ _ _ _ _ _ _ _ _ _ _ _ _ _ _ B F X N T hk hd hu ret
/-- how often two divides -/
noncomputable def tz (n : Nat) : Nat := if n = 0 then 0 else if n % 2 = 1 then 0 else tz (n / 2) + 1
termination_by n
decreasing_by omega
def tS (w : Int) : Int := if w < 0 then 1 else 0
noncomputable def tM (w : Int) : Int := ((w.natAbs / 2 ^ tz w.natAbs : Nat) : Int)
noncomputable def tE (w p : Int) : Int := if w = 0 then 0 else p + (tz w.natAbs : Nat)
def bl (n : Int) : Int := ((Builtin.Int.intBits n : Nat) : Int)
noncomputable def tB (w : Int) : Int := bl (tM w)

theorem tz_odd (k q : Nat) : tz (2 ^ k * (2 * q + 1)) = k := by
  induction k with
  | zero =>
    rw [Nat.pow_zero, Nat.one_mul, tz]
    rw [if_neg (by omega), if_pos (by omega)]
  | succ k ih =>
    have e : 2 ^ (k + 1) * (2 * q + 1) = 2 * (2 ^ k * (2 * q + 1)) := by rw [Nat.pow_succ, Nat.mul_comm (2 ^ k) 2, Nat.mul_assoc]
    have hp : 0 < 2 ^ k * (2 * q + 1) := Nat.mul_pos (Nat.two_pow_pos k) (by omega)
    rw [e, tz, if_neg (by omega), if_neg (by omega), Nat.mul_div_cancel_left _ (by decide), ih]
theorem tz_split (n : Nat) (h : 0 < n) : ∃ q, n = 2 ^ tz n * (2 * q + 1) := by
  induction n using Nat.strongRecOn with
  | ind n ih =>
    rw [tz]
    by_cases ho : n % 2 = 1
    · rw [if_neg (by omega), if_pos ho]
      exact ⟨n / 2, by omega⟩
    · rw [if_neg (by omega), if_neg ho]
      obtain ⟨q, hq⟩ := ih (n / 2) (by omega) (by omega)
      refine ⟨q, ?_⟩
      rw [Nat.pow_succ, Nat.mul_comm (2 ^ tz (n / 2)) 2, Nat.mul_assoc, ← hq]
      omega
/-- the normal form: an odd whole number and a power -/
theorem told_split (w p : Int) (h : w ≠ 0) : ∃ (q k : Nat), w.natAbs = 2 ^ k * (2 * q + 1) ∧ tM w = 2 * (q : Int) + 1 ∧ tE w p = p + (k : Int) ∧ tz w.natAbs = k := by
  obtain ⟨q, hq⟩ := tz_split w.natAbs (by omega)
  refine ⟨q, tz w.natAbs, hq, ?_, by rw [tE, if_neg h], rfl⟩
  unfold tM
  have : w.natAbs / 2 ^ tz w.natAbs = 2 * q + 1 := by
    have e := congrArg (fun x => x / 2 ^ tz w.natAbs) hq
    exact e.trans (Nat.mul_div_cancel_left _ (Nat.two_pow_pos _))
  rw [this]; omega
theorem told_is (w p : Int) (q k : Nat) (h : w.natAbs = 2 ^ k * (2 * q + 1)) : tM w = 2 * (q : Int) + 1 ∧ tE w p = p + (k : Int) ∧ tB w = bl (2 * (q : Int) + 1) := by
  have hk : tz w.natAbs = k := by rw [h]; exact tz_odd k q
  have hm : tM w = 2 * (q : Int) + 1 := by
    unfold tM
    rw [hk, h, Nat.mul_div_cancel_left _ (Nat.two_pow_pos _)]; omega
  have hw : w ≠ 0 := by
    intro e; subst e
    have : 0 < 2 ^ k * (2 * q + 1) := Nat.mul_pos (Nat.two_pow_pos k) (by omega)
    simp only [Int.natAbs_zero] at h; omega
  exact ⟨hm, by rw [tE, if_neg hw, hk], by rw [tB, hm]⟩
theorem trail (n : Int) (h : 0 < n) : bl (Builtin.bitAnd n (-n)) - 1 = (tz n.natAbs : Int) := by
  obtain ⟨q, hq⟩ := tz_split n.natAbs (by omega)
  generalize tz n.natAbs = k at hq
  have e : n = 2 ^ k * (2 * (q : Int) + 1) := by
    have e1 : ((n.natAbs : Nat) : Int) = n := by omega
    rw [← e1, hq]
    simp
  rw [e, kbt_low]
  unfold bl Builtin.Int.intBits
  have e2 : ((2 : Int) ^ k).natAbs = 2 ^ k := by rw [Int.natAbs_pow]; rfl
  have e3 : ((2 : Int) ^ k == 0) = false := by
    have := kbt_pos k
    rw [beq_eq_false_iff_ne]; omega
  rw [e2, e3]
  simp
theorem fd63 {a b : Int} (h0 : 0 < b) (h1 : b < 9223372036854775808) : Builtin.divisionGoesByPylong a b = false := by
  have h : b.natAbs.log2 < 63 := by
    rw [Nat.log2_lt (by omega)]
    omega
  exact PyProof.noPylong_of_log2 (Nat.lt_trans h (by decide))
theorem told0 {p : Int} : (0 : Int) = tS 0 ∧ (0 : Int) = tM 0 ∧ (0 : Int) = tE 0 p ∧ (0 : Int) = tB 0 := by
  have h : tM 0 = 0 := by unfold tM; simp
  refine ⟨rfl, h.symm, rfl, ?_⟩
  rw [tB, h]; rfl
theorem bl_iff (m : Int) (k : Nat) (h : 0 < m) : bl m = (k : Int) + 1 ↔ (2 : Int) ^ k ≤ m ∧ m < 2 ^ (k + 1) := by
  obtain ⟨n, rfl⟩ : ∃ n : Nat, m = (n : Int) := ⟨m.natAbs, by omega⟩
  have hn : n ≠ 0 := by omega
  have e : bl (n : Int) = (n.log2 : Int) + 1 := by
    unfold bl Builtin.Int.intBits
    rw [if_neg (by simp; omega)]
    simp
  rw [e, ← kbt_cast, ← kbt_cast]
  have := Nat.log2_eq_iff (n := n) (k := k) hn
  constructor
  · intro h1
    have h2 := this.mp (by omega)
    exact ⟨by exact_mod_cast h2.1, by exact_mod_cast h2.2⟩
  · rintro ⟨h1, h2⟩
    have := this.mpr ⟨by exact_mod_cast h1, by exact_mod_cast h2⟩
    omega
theorem bl_pos (m : Int) (h : 0 < m) : ∃ k : Nat, bl m = (k : Int) + 1 ∧ (2 : Int) ^ k ≤ m ∧ m < 2 ^ (k + 1) := by
  have e : bl m = ((m.natAbs.log2 : Nat) : Int) + 1 := by
    unfold bl Builtin.Int.intBits
    rw [if_neg (by simp; omega)]
    simp
  exact ⟨m.natAbs.log2, e, (bl_iff m _ h).mp e⟩
theorem bl_shift (m : Int) (j : Nat) (h : 0 < m) : bl (2 ^ j * m) = bl m + j := by
  obtain ⟨k, e, h1, h2⟩ := bl_pos m h
  have hj := kbt_pos j
  rw [e]
  have := (bl_iff (2 ^ j * m) (k + j) (Int.mul_pos hj h)).mpr ⟨?_, ?_⟩
  · rw [this]; push_cast; omega
  · rw [Int.pow_add, Int.mul_comm (2 ^ k)]
    exact Int.mul_le_mul_of_nonneg_left h1 (by omega)
  · rw [show k + j + 1 = j + (k + 1) by omega, Int.pow_add]
    exact Int.mul_lt_mul_of_pos_left h2 hj
theorem bl1 : bl 1 = 1 := rfl
def sgnd (sg m : Int) : Int := if sg = 1 then -m else m
theorem sgnd_abs (sg m : Int) : (sgnd sg m).natAbs = m.natAbs := by unfold sgnd; split <;> omega
theorem sgnd_tS (sg m : Int) (hs : sg = 0 ∨ sg = 1) (h : 0 < m) : sg = tS (sgnd sg m) := by
  unfold sgnd tS; rcases hs with rfl | rfl <;> simp <;> omega
theorem fin_at (sg r e : Int) (q k : Nat) (hs : sg = 0 ∨ sg = 1) (hr : r = 2 ^ k * (2 * (q : Int) + 1)) :
    sg = tS (sgnd sg r) ∧ 2 * (q : Int) + 1 = tM (sgnd sg r) ∧ e + (k : Int) = tE (sgnd sg r) e ∧ bl (2 * (q : Int) + 1) = tB (sgnd sg r) ∧ tz r.natAbs = k ∧ r.fdiv (2 ^ k) = 2 * (q : Int) + 1 ∧ bl r = bl (2 * (q : Int) + 1) + k := by
  have hk := kbt_pos k
  have h0 : 0 < r := by rw [hr]; exact Int.mul_pos hk (by omega)
  have hn : r.natAbs = 2 ^ k * (2 * q + 1) := by
    rw [hr, Int.natAbs_mul, Int.natAbs_pow]
    congr 1
  obtain ⟨a1, a2, a3⟩ := told_is (sgnd sg r) e q k (by rw [sgnd_abs, hn])
  refine ⟨sgnd_tS sg r hs h0, a1.symm, a2.symm, a3.symm, by rw [hn]; exact tz_odd k q, ?_, ?_⟩
  · rw [hr, Int.fdiv_eq_ediv_of_nonneg _ (by omega), Int.mul_ediv_cancel_left _ (by omega)]
  · rw [hr, bl_shift _ _ (by omega)]
theorem odd_of {r : Int} (h : 0 < r) (ho : Builtin.bitAnd r 1 ≠ 0) : ∃ q : Nat, r = 2 ^ 0 * (2 * (q : Int) + 1) := by
  rw [bitAnd_m1] at ho
  exact ⟨(r / 2).toNat, by rw [Int.pow_zero]; omega⟩
theorem pow_odd {n : Nat} {q : Nat} (h : (2 : Int) ^ n = 2 * (q : Int) + 1) : n = 0 := by
  cases n with
  | zero => rfl
  | succ n => rw [Int.pow_succ] at h; omega
/-- the ends of _normalize: r rounded, b the bits that are told -/
theorem fin_odd1 {sg r e : Int} (hs : sg = 0 ∨ sg = 1) (h1 : r = 1) : sg = tS (sgnd sg r) ∧ r = tM (sgnd sg r) ∧ e = tE (sgnd sg r) e ∧ (1 : Int) = tB (sgnd sg r) := by
  obtain ⟨a, b, c, d, _⟩ := fin_at sg r e 0 0 hs (by rw [h1]; rfl)
  exact ⟨a, by rw [← b, h1]; rfl, by rw [← c]; simp, by rw [← d]; rfl⟩
theorem fin_odd {sg r e b : Int} (hs : sg = 0 ∨ sg = 1) (h0 : 0 < r) (ho : Builtin.bitAnd r 1 ≠ 0) (hb : b = bl r ∨ (r = 2 ^ b.toNat ∧ 1 ≤ b)) : sg = tS (sgnd sg r) ∧ r = tM (sgnd sg r) ∧ e = tE (sgnd sg r) e ∧ b = tB (sgnd sg r) := by
  obtain ⟨q, hq⟩ := odd_of h0 ho
  obtain ⟨a, x, c, d, _⟩ := fin_at sg r e q 0 hs hq
  have hr : r = 2 * (q : Int) + 1 := by rw [hq]; simp
  refine ⟨a, by rw [← x, ← hr], by rw [← c]; simp, ?_⟩
  rcases hb with hb | ⟨hb, h1⟩
  · rw [hb, ← d, ← hr]
  · have := pow_odd (hb.symm.trans hr); omega
theorem fin_even1 {sg r e : Int} (hs : sg = 0 ∨ sg = 1) (h0 : 0 < r) (h1 : r.fdiv (2 ^ ((tz r.natAbs : Nat) : Int).toNat) = 1) :
    sg = tS (sgnd sg r) ∧ r.fdiv (2 ^ ((tz r.natAbs : Nat) : Int).toNat) = tM (sgnd sg r) ∧ e + ((tz r.natAbs : Nat) : Int) = tE (sgnd sg r) e ∧ (1 : Int) = tB (sgnd sg r) := by
  obtain ⟨q, hq⟩ := tz_split r.natAbs (by omega)
  have hr : r = 2 ^ (tz r.natAbs) * (2 * (q : Int) + 1) := by
    have e1 : ((r.natAbs : Nat) : Int) = r := by omega
    generalize tz r.natAbs = k at hq
    rw [← e1, hq]; simp
  obtain ⟨a, x, c, d, _, f, _⟩ := fin_at sg r e q _ hs hr
  rw [Int.toNat_natCast] at h1 ⊢
  rw [f] at h1 ⊢
  exact ⟨a, x, c, by rw [← d, h1]; rfl⟩
theorem fin_even {sg r e b : Int} (hs : sg = 0 ∨ sg = 1) (h0 : 0 < r) (h1 : r.fdiv (2 ^ ((tz r.natAbs : Nat) : Int).toNat) ≠ 1) (hb : b = bl r ∨ (r = 2 ^ b.toNat ∧ 1 ≤ b)) :
    sg = tS (sgnd sg r) ∧ r.fdiv (2 ^ ((tz r.natAbs : Nat) : Int).toNat) = tM (sgnd sg r) ∧ e + ((tz r.natAbs : Nat) : Int) = tE (sgnd sg r) e ∧ b - ((tz r.natAbs : Nat) : Int) = tB (sgnd sg r) := by
  obtain ⟨q, hq⟩ := tz_split r.natAbs (by omega)
  have hr : r = 2 ^ (tz r.natAbs) * (2 * (q : Int) + 1) := by
    have e1 : ((r.natAbs : Nat) : Int) = r := by omega
    generalize tz r.natAbs = k at hq
    rw [← e1, hq]; simp
  obtain ⟨a, x, c, d, _, f, g⟩ := fin_at sg r e q _ hs hr
  rw [Int.toNat_natCast] at h1 ⊢
  rw [f] at h1 ⊢
  refine ⟨a, x, c, ?_⟩
  rcases hb with hb | ⟨hb, _⟩
  · rw [hb, g, ← d]; omega
  · exfalso
    apply h1
    have e2 : r = 2 ^ b.toNat * (2 * ((0 : Nat) : Int) + 1) := by rw [hb]; simp
    obtain ⟨_, x', _⟩ := fin_at sg r e 0 _ hs e2
    rw [x, ← x']; rfl
/-- the bits of what was rounded to n places -/
theorem rng_bl {r n : Int} (hn : 1 ≤ n) (h1 : (2 : Int) ^ (n - 1).toNat ≤ r) (h2 : r ≤ 2 ^ n.toNat) : n = bl r ∨ (r = 2 ^ n.toNat ∧ 1 ≤ n) := by
  by_cases h : r = 2 ^ n.toNat
  · exact .inr ⟨h, hn⟩
  · left
    have e : n.toNat = (n - 1).toNat + 1 := by omega
    have hp := kbt_pos (n - 1).toNat
    have := (bl_iff r (n - 1).toNat (by omega)).mpr ⟨h1, by rw [← e]; omega⟩
    omega
/-- two ways to write one number have one normal form -/
theorem told_eq (v1 v2 p1 p2 : Int) (a b : Nat) (h : v1 * 2 ^ a = v2 * 2 ^ b) (hp : p1 - a = p2 - b) : tS v1 = tS v2 ∧ tM v1 = tM v2 ∧ tE v1 p1 = tE v2 p2 ∧ tB v1 = tB v2 := by
  have ha := kbt_pos a
  have hb := kbt_pos b
  by_cases h0 : v1 = 0
  · have h2 : v2 = 0 := by
      rw [h0, Int.zero_mul] at h
      rcases Int.mul_eq_zero.mp h.symm with h | h
      · exact h
      · omega
    subst h0; subst h2
    exact ⟨rfl, rfl, rfl, rfl⟩
  · have h2 : v2 ≠ 0 := by
      intro h2; rw [h2, Int.zero_mul] at h
      rcases Int.mul_eq_zero.mp h with h | h <;> omega
    obtain ⟨q1, k1, e1, m1, t1, _⟩ := told_split v1 p1 h0
    obtain ⟨q2, k2, e2, m2, t2, _⟩ := told_split v2 p2 h2
    have hn : 2 ^ (k1 + a) * (2 * q1 + 1) = 2 ^ (k2 + b) * (2 * q2 + 1) := by
      have := congrArg Int.natAbs h
      rw [Int.natAbs_mul, Int.natAbs_mul, Int.natAbs_pow, Int.natAbs_pow, e1, e2] at this
      simp only [show (2 : Int).natAbs = 2 from rfl] at this
      rw [Nat.pow_add, Nat.pow_add, Nat.mul_assoc, Nat.mul_comm (2 ^ a), ← Nat.mul_assoc, this, Nat.mul_assoc, Nat.mul_comm (2 * q2 + 1), ← Nat.mul_assoc]
    have hk : k1 + a = k2 + b := by
      have := congrArg tz hn
      rwa [tz_odd, tz_odd] at this
    have hq : 2 * q1 + 1 = 2 * q2 + 1 := by
      rw [hk] at hn
      exact Nat.eq_of_mul_eq_mul_left (Nat.two_pow_pos _) hn
    have hm : tM v1 = tM v2 := by rw [m1, m2]; omega
    refine ⟨?_, hm, by rw [t1, t2]; omega, by rw [tB, tB, hm]⟩
    unfold tS
    have s1 : v1 < 0 ↔ v2 < 0 := by
      constructor
      · intro hl
        have : v1 * 2 ^ a < 0 := Int.mul_neg_of_neg_of_pos hl ha
        rw [h] at this
        by_cases hv : v2 < 0
        · exact hv
        · have := Int.mul_nonneg (Int.not_lt.mp hv) (Int.le_of_lt hb); omega
      · intro hl
        have : v2 * 2 ^ b < 0 := Int.mul_neg_of_neg_of_pos hl hb
        rw [← h] at this
        by_cases hv : v1 < 0
        · exact hv
        · have := Int.mul_nonneg (Int.not_lt.mp hv) (Int.le_of_lt ha); omega
    simp only [s1]
/-- what is known of the parts -/
theorem told_facts (v p : Int) : (tS v = 0 ∨ tS v = 1) ∧ 0 ≤ tM v ∧ (v ≠ 0 → 0 < tM v ∧ tM v % 2 = 1) ∧ (v = 0 → tS v = 0 ∧ tM v = 0 ∧ tE v p = 0 ∧ tB v = 0) ∧ tB v = bl (tM v) ∧ (v < 0 → tS v = 1) ∧ (0 ≤ v → tS v = 0) := by
  refine ⟨?_, ?_, ?_, ?_, rfl, ?_, ?_⟩
  · unfold tS; split <;> simp
  · unfold tM; exact Int.natCast_nonneg _
  · intro h
    obtain ⟨q, k, _, m, _⟩ := told_split v p h
    rw [m]; omega
  · intro h; subst h
    have := told0 (p := p)
    exact ⟨this.1.symm, this.2.1.symm, this.2.2.1.symm, this.2.2.2.symm⟩
  · intro h; rw [tS, if_pos h]
  · intro h; rw [tS, if_neg (by omega)]
/-- the number by its parts -/
theorem told_val (v p : Int) (h : v ≠ 0) : ∃ k : Nat, v = sgnd (tS v) (tM v) * 2 ^ k ∧ tE v p = p + (k : Int) := by
  obtain ⟨q, k, e, m, t, _⟩ := told_split v p h
  refine ⟨k, ?_, t⟩
  rw [m]
  have e1 : (v.natAbs : Int) = 2 ^ k * (2 * (q : Int) + 1) := by rw [e]; simp
  unfold sgnd tS
  by_cases hv : v < 0
  · simp only [hv, if_true]
    rw [Int.neg_mul, Int.mul_comm, ← e1]; omega
  · simp only [hv, if_false, Int.zero_ne_one]
    rw [Int.mul_comm, ← e1]; omega
/-- the law's own rounding of above / below; the way by its sign's number -/
def rW (way : Nat) (A B : Int) : Int :=
  if way = 110 then (if 2 * A.fmod B > B ∨ (2 * A.fmod B = B ∧ (A.fdiv B).fmod 2 = 1) then A.fdiv B + 1 else A.fdiv B)
  else if A.fmod B > 0 ∧ (way = 99 ∨ (way = 117 ∧ A > 0) ∨ (way = 100 ∧ A < 0)) then A.fdiv B + 1 else A.fdiv B
theorem fd {a b : Int} (h : 0 < b) : a.fdiv b = a / b := Int.fdiv_eq_ediv_of_nonneg a (by omega)
theorem fm {a b : Int} (h : 0 < b) : a.fmod b = a % b := Int.fmod_eq_emod_of_nonneg a (by omega)
theorem pow_split {a b c : Int} (ha : 0 ≤ a) (hb : 0 ≤ b) (h : a + b = c) : (2 : Int) ^ c.toNat = 2 ^ a.toNat * 2 ^ b.toNat := by
  rw [← Int.pow_add]; congr 1; omega
/-- a quotient and a rest, named -/
theorem quo (A B : Int) (h : 0 < B) : ∃ q r : Int, A = B * q + r ∧ 0 ≤ r ∧ r < B ∧ A.fdiv B = q ∧ A.fmod B = r := by
  refine ⟨A / B, A % B, ?_, Int.emod_nonneg _ (by omega), Int.emod_lt_of_pos _ h, fd h, fm h⟩
  have := Int.emod_add_mul_ediv A B
  omega
theorem rW_down (A B : Int) (hB : 0 < B) : rW 102 A B = A.fdiv B := by
  unfold rW
  simp
theorem neg_quo (A B : Int) (hB : 0 < B) : -(-A).fdiv B = if A.fmod B > 0 then A.fdiv B + 1 else A.fdiv B := by
  obtain ⟨q, r, e, h0, h1, e1, e2⟩ := quo A B hB
  rw [e1, e2]
  by_cases hr : r > 0
  · rw [if_pos hr, fd hB]
    have hm : B * (-q - 1) = -(B * q) - B := by rw [Int.mul_sub, Int.mul_neg]; omega
    have := (kbt_unique hB (a := -A) (q := -q - 1) (r := B - r) (by rw [e, hm]; omega) (by omega) (by omega)).1
    rw [this]; omega
  · rw [if_neg hr, fd hB]
    have hm : B * (-q) = -(B * q) := Int.mul_neg _ _
    have := (kbt_unique hB (a := -A) (q := -q) (r := 0) (by rw [e, hm]; omega) (by omega) (by omega)).1
    rw [this]; omega
theorem rW_up (A B : Int) (hB : 0 < B) : rW 99 A B = -(-A).fdiv B := by
  rw [neg_quo A B hB]
  unfold rW
  simp
/-- the nearest by two halvings, as the program has it -/
theorem near (A n : Int) (hn : 1 ≤ n) :
    let t := A.fdiv (2 ^ (n - 1).toNat)
    (Builtin.bitAnd t 1 ≠ 0 → Builtin.bitAnd t 2 ≠ 0 → t.fdiv (2 ^ Int.toNat 1) + 1 = rW 110 A (2 ^ n.toNat)) ∧
    (Builtin.bitAnd t 1 ≠ 0 → Builtin.bitAnd A (1 * 2 ^ (n - 1).toNat - 1) ≠ 0 → t.fdiv (2 ^ Int.toNat 1) + 1 = rW 110 A (2 ^ n.toNat)) ∧
    (Builtin.bitAnd t 1 ≠ 0 → Builtin.bitAnd t 2 = 0 → Builtin.bitAnd A (1 * 2 ^ (n - 1).toNat - 1) = 0 → t.fdiv (2 ^ Int.toNat 1) = rW 110 A (2 ^ n.toNat)) ∧
    (Builtin.bitAnd t 1 = 0 → t.fdiv (2 ^ Int.toNat 1) = rW 110 A (2 ^ n.toNat)) ∧ t.fdiv (2 ^ Int.toNat 1) = A.fdiv (2 ^ n.toNat) := by
  intro t
  have hH := kbt_pos (n - 1).toNat
  have e2 : (2 : Int) ^ n.toNat = 2 * 2 ^ (n - 1).toNat := by
    rw [show n.toNat = (n - 1).toNat + 1 by omega, Int.pow_succ, Int.mul_comm]
  have hB : (0 : Int) < 2 ^ n.toNat := kbt_pos _
  obtain ⟨q, r, e, h0, h1, q1, q2⟩ := quo A (2 ^ n.toNat) hB
  have b1 : Builtin.bitAnd t 1 = t % 2 := bitAnd_m1 t
  have b2 : Builtin.bitAnd t 2 = (t / 2 % 2) * 2 := by have := kbt_bit t 1; simpa using this
  have b3 : Builtin.bitAnd A (1 * 2 ^ (n - 1).toNat - 1) = A % 2 ^ (n - 1).toNat := by rw [Int.one_mul]; exact kbt_mask A _
  have t2 : t.fdiv (2 ^ Int.toNat 1) = t / 2 := by rw [show (2 : Int) ^ Int.toNat 1 = 2 from rfl]; exact fd (by decide)
  rw [b1, b2, b3, t2]
  unfold rW
  rw [if_pos rfl, q1, q2, e2, fm (by decide : (0 : Int) < 2)]
  have ht : t = A / 2 ^ (n - 1).toNat := fd hH
  generalize (2 : Int) ^ (n - 1).toNat = H at *
  rw [e2] at e h1
  by_cases hr : r < H
  · have hm : H * (2 * q) = 2 * H * q := by rw [← Int.mul_assoc, Int.mul_comm H 2]
    have := kbt_unique hH (a := A) (q := 2 * q) (r := r) (by rw [e, hm]; omega) h0 hr
    rw [this.2, ht, this.1]
    refine ⟨fun h => ?_, fun h => ?_, fun h => ?_, fun _ => ?_, ?_⟩
    · omega
    · omega
    · omega
    · rw [if_neg (by omega)]; omega
    · omega
  · have hm : H * (2 * q + 1) = 2 * H * q + H := by rw [Int.mul_add, ← Int.mul_assoc, Int.mul_comm H 2]; omega
    have := kbt_unique hH (a := A) (q := 2 * q + 1) (r := r - H) (by rw [e, hm]; omega) (by omega) (by omega)
    rw [this.2, ht, this.1]
    refine ⟨fun _ h => ?_, fun _ h => ?_, fun _ h h' => ?_, fun h => ?_, ?_⟩
    · rw [if_pos (by omega)]; omega
    · rw [if_pos (by omega)]; omega
    · rw [if_neg (by omega)]; omega
    · omega
    · omega
/-- the range of what is rounded to pr places -/
theorem cut_rng {mn bc pr : Int} (h0 : 0 < mn) (hb : bc = bl mn) (h1 : 1 ≤ pr) (h2 : pr < bc) :
    (2 : Int) ^ (pr - 1).toNat ≤ mn.fdiv (2 ^ (bc - pr).toNat) ∧ mn.fdiv (2 ^ (bc - pr).toNat) < 2 ^ pr.toNat ∧ -(-mn).fdiv (2 ^ (bc - pr).toNat) ≤ 2 ^ pr.toNat ∧ mn.fdiv (2 ^ (bc - pr).toNat) ≤ -(-mn).fdiv (2 ^ (bc - pr).toNat) ∧ -(-mn).fdiv (2 ^ (bc - pr).toNat) ≤ mn.fdiv (2 ^ (bc - pr).toNat) + 1 ∧ (0 : Int) < 2 ^ (pr - 1).toNat := by
  obtain ⟨k, e, l, u⟩ := bl_pos mn h0
  have hN := kbt_pos (bc - pr).toNat
  have e1 : (2 : Int) ^ k = 2 ^ (pr - 1).toNat * 2 ^ (bc - pr).toNat := by
    rw [← Int.pow_add]; congr 1; omega
  have e2 : (2 : Int) ^ (k + 1) = 2 ^ pr.toNat * 2 ^ (bc - pr).toNat := by
    rw [← Int.pow_add]; congr 1; omega
  rw [e1] at l
  rw [e2] at u
  have a1 : (2 : Int) ^ (pr - 1).toNat ≤ mn.fdiv (2 ^ (bc - pr).toNat) := by rw [fd hN]; exact (Int.le_ediv_iff_mul_le hN).mpr l
  have a2 : mn.fdiv (2 ^ (bc - pr).toNat) < 2 ^ pr.toNat := by rw [fd hN]; exact Int.ediv_lt_of_lt_mul hN u
  have a3 := neg_quo mn (2 ^ (bc - pr).toNat) hN
  refine ⟨a1, a2, ?_, ?_, ?_, kbt_pos _⟩
  · rw [a3]; split <;> omega
  · rw [a3]; split <;> omega
  · rw [a3]; split <;> omega
/-- above and below of the law: the number is abA / abB -/
abbrev abA (v p : Int) : Int := v * 2 ^ (if p > 0 then p else 0).toNat
abbrev abB (p : Int) : Int := 2 ^ (if -p > 0 then -p else 0).toNat
abbrev Ways : List Nat := [110, 102, 99, 117, 100]
/-- the numbers' bounds -/
abbrev Bd (v p : Int) : Prop := -1100000 ≤ v ∧ v ≤ 1100000 ∧ -31 ≤ p ∧ p ≤ 30
abbrev T4 (w : World) (news : Led) (x : Addr) (v p : Int) (t1 t2 t3 t4 : Tok) : Prop := TupI (hd.heap_39 w.params) news x [.int (tS v) t1, .int (tM v) t2, .int (tE v p) t3, .int (tB v) t4]
def gapF (v p v2 p2 : Int) : Int := abA v p * abB p2 - abA v2 p2 * abB p
/-- an order: the sign of a difference -/
abbrev RO (G : Int) : RetT := fun h₀ L m news s Q => ∀ o : Int, (0 < G → o = 1) → (G < 0 → o = -1) → (G = 0 → o = 0) → RI o h₀ L m news s Q

/-- scaling changes no rounding -/
theorem rW_scale (c : Nat) (A B k : Int) (hB : 0 < B) (hk : 0 < k) : rW c (A * k) (B * k) = rW c A B := by
  obtain ⟨q, r, e, h0, h1, q1, q2⟩ := quo A B hB
  have hBk : 0 < B * k := Int.mul_pos hB hk
  have e' : r * k + B * k * q = A * k := by rw [e, Int.add_mul, Int.mul_assoc B k q, Int.mul_comm k q, ← Int.mul_assoc]; omega
  have hr : r * k < B * k := Int.mul_lt_mul_of_pos_right h1 hk
  have hr0 : 0 ≤ r * k := Int.mul_nonneg h0 (by omega)
  obtain ⟨d1, d2⟩ := kbt_unique hBk e' hr0 hr
  unfold rW
  rw [fd hBk, fm hBk, d1, d2, q1, q2]
  have z1 : 2 * (r * k) > B * k ↔ 2 * r > B := by
    rw [← Int.mul_assoc]
    constructor
    · intro h; exact Int.lt_of_mul_lt_mul_right h (by omega)
    · intro h; exact Int.mul_lt_mul_of_pos_right h hk
  have z2 : 2 * (r * k) = B * k ↔ 2 * r = B := by
    rw [← Int.mul_assoc]
    constructor
    · intro h; exact Int.eq_of_mul_eq_mul_right (by omega) h
    · intro h; rw [h]
  have z3 : r * k > 0 ↔ r > 0 := by
    constructor
    · intro h
      by_cases hq : r > 0
      · exact hq
      · have : r = 0 := by omega
        rw [this, Int.zero_mul] at h; omega
    · intro h; exact Int.mul_pos h hk
  have z4 : A * k > 0 ↔ A > 0 := by
    constructor
    · intro h
      by_cases hq : A > 0
      · exact hq
      · have := Int.mul_nonneg (a := -A) (b := k) (by omega) (by omega)
        rw [Int.neg_mul] at this; omega
    · intro h; exact Int.mul_pos h hk
  have z5 : A * k < 0 ↔ A < 0 := by
    constructor
    · intro h
      by_cases hq : A < 0
      · exact hq
      · have := Int.mul_nonneg (a := A) (b := k) (by omega) (by omega); omega
    · intro h
      have := Int.mul_pos (a := -A) (b := k) (by omega) hk
      rw [Int.neg_mul] at this; omega
  simp only [z1, z2, z3, z4, z5]
theorem rW_one (c : Nat) (A : Int) : rW c A 1 = A := by
  obtain ⟨q, r, e, h0, h1, q1, q2⟩ := quo A 1 (by decide)
  unfold rW
  rw [q1, q2]
  have : r = 0 := by omega
  subst this
  split
  · rw [if_neg (by omega)]; omega
  · rw [if_neg (by omega)]; omega
/-- above and below by the parts -/
theorem ab_parts (v p : Int) (h : v ≠ 0) : ∃ k : Int, 0 < k ∧ ((0 ≤ tE v p ∧ abA v p = sgnd (tS v) (tM v) * 2 ^ (tE v p).toNat * k ∧ abB p = 1 * k) ∨
    (tE v p < 0 ∧ abA v p = sgnd (tS v) (tM v) * k ∧ abB p = 2 ^ (-tE v p).toNat * k)) := by
  obtain ⟨j, e, t⟩ := told_val v p h
  generalize sgnd (tS v) (tM v) = S at *
  by_cases hp : 0 ≤ p
  · refine ⟨1, by decide, .inl ⟨by omega, ?_, ?_⟩⟩
    · unfold abA
      generalize tE v p = ee at *
      rw [e, Int.mul_one, Int.mul_assoc, ← Int.pow_add]
      congr 2
      split <;> omega
    · unfold abB
      rw [show (if -p > 0 then -p else 0).toNat = 0 by split <;> omega]; rfl
  · have a0 : abA v p = S * 2 ^ j := by
      unfold abA
      rw [show (if p > 0 then p else 0).toNat = 0 by split <;> omega, Int.pow_zero, Int.mul_one, e]
    have b0 : abB p = 2 ^ (-p).toNat := by
      unfold abB
      rw [if_pos (by omega)]
    by_cases hE : 0 ≤ tE v p
    · refine ⟨2 ^ (-p).toNat, kbt_pos _, .inl ⟨hE, ?_, by rw [b0, Int.one_mul]⟩⟩
      rw [a0, Int.mul_assoc, ← Int.pow_add]; congr 2; omega
    · refine ⟨2 ^ j, kbt_pos _, .inr ⟨by omega, a0, ?_⟩⟩
      rw [b0, ← Int.pow_add]; congr 1; omega
theorem rW_parts (c : Nat) (v p : Int) (h : v ≠ 0) : (0 ≤ tE v p → rW c (abA v p) (abB p) = sgnd (tS v) (tM v) * 2 ^ (tE v p).toNat) ∧ (tE v p < 0 → rW c (abA v p) (abB p) = rW c (sgnd (tS v) (tM v)) (2 ^ (-tE v p).toNat)) := by
  obtain ⟨k, hk, h1 | h1⟩ := ab_parts v p h
  · refine ⟨fun _ => ?_, fun h => by omega⟩
    rw [h1.2.1, h1.2.2, rW_scale _ _ _ _ (by decide) hk, rW_one]
  · refine ⟨fun h => by omega, fun _ => ?_⟩
    rw [h1.2.1, h1.2.2, rW_scale _ _ _ _ (kbt_pos _) hk]
theorem rW_zero (c : Nat) (B : Int) (hB : 0 < B) : rW c 0 B = 0 := by
  have := rW_scale c 0 1 B (by decide) hB
  rw [Int.zero_mul, Int.one_mul, rW_one] at this
  exact this
theorem abA_zero (p : Int) : abA 0 p = 0 := Int.zero_mul _
/-- a whole number is its own rounding -/
theorem told_whole (c : Nat) (v p : Int) (h : 0 ≤ tE v p) : tS v = tS (rW c (abA v p) (abB p)) ∧ tM v = tM (rW c (abA v p) (abB p)) ∧ tE v p = tE (rW c (abA v p) (abB p)) 0 ∧ tB v = tB (rW c (abA v p) (abB p)) := by
  by_cases h0 : v = 0
  · subst h0
    rw [abA_zero, rW_zero _ _ (kbt_pos _)]
    have := told0 (p := p)
    have := told0 (p := 0)
    exact ⟨rfl, rfl, by rw [tE, tE]; rfl, rfl⟩
  · obtain ⟨j, e, t⟩ := told_val v p h0
    rw [(rW_parts c v p h0).1 h]
    refine told_eq v _ p 0 (tE v p).toNat j ?_ (by omega)
    rw [Int.mul_assoc, Int.mul_comm (2 ^ (tE v p).toNat), ← Int.mul_assoc, ← e]
theorem sgnd0 (m : Int) : sgnd 0 m = m := rfl
theorem sgnd1 (m : Int) : sgnd 1 m = -m := rfl
theorem rW_near_neg (A B : Int) (hB : 0 < B) : rW 110 (-A) B = -rW 110 A B := by
  obtain ⟨q, r, e, h0, h1, q1, q2⟩ := quo A B hB
  unfold rW
  rw [if_pos rfl, if_pos rfl, q1, q2]
  by_cases hr : r = 0
  · subst hr
    have hm : B * (-q) = -(B * q) := Int.mul_neg _ _
    obtain ⟨d1, d2⟩ := kbt_unique hB (a := -A) (q := -q) (r := 0) (by rw [e, hm]; omega) (by omega) (by omega)
    rw [fd hB, fm hB, d1, d2, if_neg (by omega), if_neg (by omega)]
  · have hm : B * (-q - 1) = -(B * q) - B := by rw [Int.mul_sub, Int.mul_neg]; omega
    obtain ⟨d1, d2⟩ := kbt_unique hB (a := -A) (q := -q - 1) (r := B - r) (by rw [e, hm]; omega) (by omega) (by omega)
    rw [fd hB, fm hB, d1, d2, fm (by decide : (0 : Int) < 2), fm (by decide : (0 : Int) < 2)]
    split <;> split <;> omega
theorem rW_sg (sg m B : Int) (hs : sg = 0 ∨ sg = 1) (hB : 0 < B) : rW 110 (sgnd sg m) B = sgnd sg (rW 110 m B) := by
  rcases hs with rfl | rfl
  · rfl
  · rw [sgnd1, sgnd1, rW_near_neg _ _ hB]
theorem rW_dn0 (m B : Int) (hB : 0 < B) : rW 102 (sgnd 0 m) B = sgnd 0 (m.fdiv B) := by rw [sgnd0, sgnd0, rW_down _ _ hB]
theorem rW_up1 (m B : Int) (hB : 0 < B) : rW 102 (sgnd 1 m) B = sgnd 1 (-(-m).fdiv B) := by rw [sgnd1, sgnd1, rW_down _ _ hB, Int.neg_neg]
theorem rW_up0 (m B : Int) (hB : 0 < B) : rW 99 (sgnd 0 m) B = sgnd 0 (-(-m).fdiv B) := by rw [sgnd0, sgnd0, rW_up _ _ hB]
theorem rW_dn1 (m B : Int) (hB : 0 < B) : rW 99 (sgnd 1 m) B = sgnd 1 (m.fdiv B) := by rw [sgnd1, sgnd1, rW_up _ _ hB, Int.neg_neg]
theorem small_pos (m B : Int) (h0 : 0 < m) (h1 : m < B) : m.fdiv B = 0 ∧ m.fmod B = m ∧ (-m).fdiv B = -1 ∧ (-m).fmod B = B - m := by
  have hB : 0 < B := by omega
  obtain ⟨d1, d2⟩ := kbt_unique hB (a := m) (q := 0) (r := m) (by omega) (by omega) h1
  obtain ⟨d3, d4⟩ := kbt_unique hB (a := -m) (q := -1) (r := B - m) (by rw [Int.mul_neg, Int.mul_one]; omega) (by omega) (by omega)
  exact ⟨by rw [fd hB, d1], by rw [fm hB, d2], by rw [fd hB, d3], by rw [fm hB, d4]⟩
theorem small_near (m B : Int) (h0 : 0 < m) (h1 : m < B) : (2 * m ≤ B → rW 110 m B = 0) ∧ (B < 2 * m → rW 110 m B = 1) := by
  obtain ⟨a, b, _, _⟩ := small_pos m B h0 h1
  unfold rW
  rw [if_pos rfl, a, b]
  refine ⟨fun h => ?_, fun h => ?_⟩
  · rw [if_neg]
    rintro (h | ⟨_, h⟩)
    · omega
    · exact absurd h (by decide)
  · rw [if_pos (.inl h)]; rfl
theorem told_1 : tS 1 = 0 ∧ tM 1 = 1 ∧ tE 1 0 = 0 ∧ tB 1 = 1 := by
  obtain ⟨a, b, c⟩ := told_is 1 0 0 0 rfl
  exact ⟨rfl, a, b, by rw [c]; rfl⟩
theorem told_m1 : tS (-1) = 1 ∧ tM (-1) = 1 ∧ tE (-1) 0 = 0 ∧ tB (-1) = 1 := by
  obtain ⟨a, b, c⟩ := told_is (-1) 0 0 0 rfl
  exact ⟨rfl, a, b, by rw [c]; rfl⟩
/-- bounds of the parts -/
theorem parts_bd (v p : Int) (hb : Bd v p) (h : v ≠ 0) : 0 < tM v ∧ tM v % 2 = 1 ∧ 1 ≤ tB v ∧ tB v ≤ 21 ∧ tM v ≤ 1100000 ∧ -31 ≤ tE v p ∧ tE v p ≤ 60 ∧ (2 : Int) ^ (tB v - 1).toNat ≤ tM v ∧ tM v < 2 ^ (tB v).toNat ∧ tB v = bl (tM v) := by
  obtain ⟨q, k, e, m, t, _⟩ := told_split v p h
  obtain ⟨b1, b2, b3, b4⟩ := hb
  have hk2 : (2 : Nat) ^ k ≤ v.natAbs := by rw [e]; exact Nat.le_mul_of_pos_right _ (by omega)
  have hk : k < 21 := by
    by_cases hk : k < 21
    · exact hk
    · have := Nat.pow_le_pow_right (n := 2) (by decide) (Nat.not_lt.mp hk)
      have : (2 : Nat) ^ 21 = 2097152 := by decide
      omega
  have hm : 2 * q + 1 ≤ v.natAbs := by rw [e]; exact Nat.le_mul_of_pos_left _ (Nat.two_pow_pos k)
  have h0 : 0 < tM v := by rw [m]; omega
  obtain ⟨j, e1, l, u⟩ := bl_pos (tM v) h0
  have eB : tB v = (j : Int) + 1 := e1
  have hj : j ≤ 20 := by
    by_cases hj : j ≤ 20
    · exact hj
    · have h2 := Nat.pow_le_pow_right (n := 2) (by decide) (show 21 ≤ j by omega)
      have h3 : ((2 ^ 21 : Nat) : Int) ≤ ((2 ^ j : Nat) : Int) := by exact_mod_cast h2
      rw [kbt_cast, kbt_cast] at h3
      have : (2 : Int) ^ 21 = 2097152 := by decide
      omega
  refine ⟨h0, by rw [m]; omega, by omega, by omega, by rw [m]; omega, by omega, by omega, ?_, ?_, rfl⟩
  · rw [eB, show ((j : Int) + 1 - 1).toNat = j by omega]; exact l
  · rw [eB, show ((j : Int) + 1).toNat = j + 1 by omega]; exact u
/-- below one -/
theorem below_one (v p : Int) (hb : Bd v p) (h : v ≠ 0) (he : tE v p < 0) (h1 : tE v p + tB v < 1) :
    tM v < 2 ^ (-tE v p).toNat ∧ (tE v p + tB v < 0 → 2 * tM v ≤ 2 ^ (-tE v p).toNat) ∧ (tM v = 1 → 2 * tM v ≤ 2 ^ (-tE v p).toNat) ∧ (tE v p + tB v = 0 → tM v ≠ 1 → 2 ^ (-tE v p).toNat < 2 * tM v) := by
  obtain ⟨m0, modd, b1, b2, _, e1, e2, l, u, _⟩ := parts_bd v p hb h
  generalize tM v = M at *
  generalize tB v = b at *
  generalize tE v p = ex at *
  have mono : ∀ a c : Nat, a ≤ c → (2 : Int) ^ a ≤ 2 ^ c := fun a c hac => by
    have := Nat.pow_le_pow_right (n := 2) (by decide) hac
    have : ((2 ^ a : Nat) : Int) ≤ ((2 ^ c : Nat) : Int) := by exact_mod_cast this
    rwa [kbt_cast, kbt_cast] at this
  refine ⟨Int.lt_of_lt_of_le u (mono _ _ (by omega)), fun hlt => ?_, fun hM => ?_, fun h0 hne => ?_⟩
  · have := mono (b.toNat + 1) (-ex).toNat (by omega)
    rw [Int.pow_succ] at this; omega
  · have := mono 1 (-ex).toNat (by omega)
    simp at this; omega
  · have e3 : (-ex).toNat = (b - 1).toNat + 1 := by omega
    rw [e3, Int.pow_succ]
    have hne' : (2 : Int) ^ (b - 1).toNat ≠ M := by
      intro hq
      obtain ⟨q, hq'⟩ : ∃ q : Nat, M = 2 * (q : Int) + 1 := ⟨(M / 2).toNat, by omega⟩
      have hz := pow_odd (hq.trans hq')
      rw [hz] at hq
      simp at hq; omega
    omega
theorem fdiv_scale (A B k : Int) (hB : 0 < B) (hk : 0 < k) : (A * k).fdiv (B * k) = A.fdiv B := by
  have := rW_scale 102 A B k hB hk
  rwa [rW_down _ _ (Int.mul_pos hB hk), rW_down _ _ hB] at this
theorem fdiv_one (A : Int) : A.fdiv 1 = A := by rw [fd (by decide), Int.ediv_one]
/-- a whole number times a power over a power -/
theorem pow_quot (S : Int) (a b : Nat) : (S * 2 ^ a).fdiv (2 ^ b) = if (b : Int) ≤ a then S * 2 ^ ((a : Int) - b).toNat else S.fdiv (2 ^ ((b : Int) - a).toNat) := by
  split
  · rename_i h
    have e : (2 : Int) ^ a = 2 ^ ((a : Int) - b).toNat * 2 ^ b := by rw [← Int.pow_add]; congr 1; omega
    have := fdiv_scale (S * 2 ^ ((a : Int) - b).toNat) 1 (2 ^ b) (by decide) (kbt_pos _)
    rw [Int.one_mul, fdiv_one, Int.mul_assoc, ← e] at this
    exact this
  · rename_i h
    have e : (2 : Int) ^ b = 2 ^ ((b : Int) - a).toNat * 2 ^ a := by rw [← Int.pow_add]; congr 1; omega
    rw [e]
    exact fdiv_scale _ _ _ (kbt_pos _) (kbt_pos _)
theorem fixed_val (v p k : Int) (h : v ≠ 0) : (abA v p * 2 ^ (if k > 0 then k else 0).toNat).fdiv (abB p * 2 ^ (if -k > 0 then -k else 0).toNat) =
    if 0 ≤ tE v p + k then sgnd (tS v) (tM v) * 2 ^ (tE v p + k).toNat else (sgnd (tS v) (tM v)).fdiv (2 ^ (-(tE v p + k)).toNat) := by
  obtain ⟨c, hc, ⟨he, ha, hb⟩ | ⟨he, ha, hb⟩⟩ := ab_parts v p h
  · rw [ha, hb]
    generalize sgnd (tS v) (tM v) = S
    generalize tE v p = e at *
    have e1 : S * 2 ^ e.toNat * c * 2 ^ (if k > 0 then k else 0).toNat = S * 2 ^ (e.toNat + (if k > 0 then k else 0).toNat) * c := by
      rw [Int.pow_add, Int.mul_assoc, Int.mul_comm c, ← Int.mul_assoc, ← Int.mul_assoc]
    have e2 : 1 * c * 2 ^ (if -k > 0 then -k else 0).toNat = 2 ^ (if -k > 0 then -k else 0).toNat * c := by rw [Int.one_mul, Int.mul_comm]
    rw [e1, e2, fdiv_scale _ _ _ (kbt_pos _) hc, pow_quot]
    by_cases hk : 0 ≤ e + k
    · rw [if_pos hk, if_pos (by split <;> split <;> omega)]
      congr 2; split <;> split <;> omega
    · rw [if_neg hk, if_neg (by split <;> split <;> omega)]
      congr 2; split <;> split <;> omega
  · rw [ha, hb]
    generalize sgnd (tS v) (tM v) = S
    generalize tE v p = e at *
    have e1 : S * c * 2 ^ (if k > 0 then k else 0).toNat = S * 2 ^ (if k > 0 then k else 0).toNat * c := by
      rw [Int.mul_assoc, Int.mul_comm c, ← Int.mul_assoc]
    have e2 : 2 ^ (-e).toNat * c * 2 ^ (if -k > 0 then -k else 0).toNat = 2 ^ ((-e).toNat + (if -k > 0 then -k else 0).toNat) * c := by
      rw [Int.pow_add, Int.mul_assoc, Int.mul_comm c, ← Int.mul_assoc]
    rw [e1, e2, fdiv_scale _ _ _ (kbt_pos _) hc, pow_quot]
    by_cases hk : 0 ≤ e + k
    · rw [if_pos hk, if_pos (by split <;> split <;> omega)]
      congr 2; split <;> split <;> omega
    · rw [if_neg hk, if_neg (by split <;> split <;> omega)]
      congr 2; split <;> split <;> omega
theorem sgnd_of (sg m : Int) (hs : sg = 0 ∨ sg = 1) : (sg ≠ 0 → sgnd sg m = -m) ∧ (sg = 0 → sgnd sg m = m) := by
  rcases hs with rfl | rfl
  · exact ⟨fun h => absurd rfl h, fun _ => rfl⟩
  · exact ⟨fun _ => rfl, fun h => by omega⟩
theorem parts0 (v p : Int) (hb : Bd v p) : (tS v = 0 ∨ tS v = 1) ∧ 0 ≤ tM v ∧ tM v ≤ 1100000 ∧ -31 ≤ tE v p ∧ tE v p ≤ 60 ∧ 0 ≤ tB v ∧ tB v ≤ 21 ∧ (tM v = 0 → tE v p = 0 ∧ tS v = 0 ∧ tB v = 0) := by
  obtain ⟨f1, f2, f3, f4, _⟩ := told_facts v p
  by_cases h : v = 0
  · obtain ⟨a, b, c, d⟩ := f4 h
    exact ⟨f1, f2, by omega, by omega, by omega, by omega, by omega, fun _ => ⟨c, a, d⟩⟩
  · obtain ⟨m0, _, b1, b2, b3, e1, e2, _⟩ := parts_bd v p hb h
    exact ⟨f1, f2, by omega, by omega, by omega, by omega, by omega, fun h => by omega⟩
theorem fixed_key (v p k : Int) : (abA v p * 2 ^ (if k > 0 then k else 0).toNat).fdiv (abB p * 2 ^ (if -k > 0 then -k else 0).toNat) =
    if 0 ≤ tE v p + k then sgnd (tS v) (tM v) * 2 ^ (tE v p + k).toNat else (sgnd (tS v) (tM v)).fdiv (2 ^ (-(tE v p + k)).toNat) := by
  by_cases h : v = 0
  · have f := (told_facts v p).2.2.2.1 h
    subst h
    have hB : (0 : Int) < abB p * 2 ^ (if -k > 0 then -k else 0).toNat := Int.mul_pos (kbt_pos _) (kbt_pos _)
    rw [abA_zero, Int.zero_mul, f.1, f.2.1, sgnd0, Int.zero_mul, fd hB, fd (kbt_pos _), Int.zero_ediv, Int.zero_ediv]
    split <;> rfl
  · exact fixed_val v p k h
theorem pow30 (p : Int) (h : p ≤ 30) : (1 : Int) ≤ 2 ^ (if p > 0 then p else 0).toNat ∧ (2 : Int) ^ (if p > 0 then p else 0).toNat ≤ 1073741824 := by
  have h0 := kbt_pos (if p > 0 then p else 0).toNat
  refine ⟨by omega, ?_⟩
  have := Nat.pow_le_pow_right (n := 2) (by decide) (show (if p > 0 then p else 0).toNat ≤ 30 by split <;> omega)
  have h2 : ((2 ^ (if p > 0 then p else 0).toNat : Nat) : Int) ≤ ((2 ^ 30 : Nat) : Int) := by exact_mod_cast this
  rw [kbt_cast] at h2
  exact h2
theorem pow31 (p : Int) (h : -31 ≤ p) : (1 : Int) ≤ abB p ∧ abB p ≤ 2147483648 := by
  have h0 : 0 < abB p := kbt_pos _
  refine ⟨by omega, ?_⟩
  have := Nat.pow_le_pow_right (n := 2) (by decide) (show (if -p > 0 then -p else 0).toNat ≤ 31 by split <;> omega)
  have h2 : ((2 ^ (if -p > 0 then -p else 0).toNat : Nat) : Int) ≤ ((2 ^ 31 : Nat) : Int) := by exact_mod_cast this
  rw [kbt_cast] at h2
  exact h2
theorem abA_bd (v p : Int) (hb : Bd v p) : -1181116006400000 ≤ abA v p ∧ abA v p ≤ 1181116006400000 := by
  obtain ⟨h1, h2, h3, h4⟩ := hb
  obtain ⟨a, b⟩ := pow30 p h4
  unfold abA
  generalize (2 : Int) ^ (if p > 0 then p else 0).toNat = P at *
  constructor
  · have := Int.mul_le_mul_of_nonneg_right h1 (show 0 ≤ P by omega)
    omega
  · have := Int.mul_le_mul_of_nonneg_right h2 (show 0 ≤ P by omega)
    omega
theorem rW_bd (c : Nat) (A B : Int) (hB : 0 < B) : A.fdiv B ≤ rW c A B ∧ rW c A B ≤ A.fdiv B + 1 := by
  unfold rW
  split
  · split <;> omega
  · split <;> omega
theorem fdiv_bd (A B M : Int) (hB : 0 < B) (h1 : -M ≤ A) (h2 : A ≤ M) (hM : 0 ≤ M) : -M ≤ A.fdiv B ∧ A.fdiv B ≤ M := by
  rw [fd hB]
  have hBM : M ≤ M * B := by
    have := Int.mul_le_mul_of_nonneg_left (show 1 ≤ B by omega) hM
    rwa [Int.mul_one] at this
  constructor
  · rw [Int.le_ediv_iff_mul_le hB, Int.neg_mul]; omega
  · by_cases hA : 0 ≤ A
    · exact Int.le_trans (Int.ediv_le_self _ hA) h2
    · have := Int.ediv_lt_of_lt_mul hB (show A < 0 * B by rw [Int.zero_mul]; omega); omega
theorem rW_all (c : Nat) (v p : Int) (hb : Bd v p) : -4611686018427387904 < rW c (abA v p) (abB p) ∧ rW c (abA v p) (abB p) < 4611686018427387904 := by
  obtain ⟨a1, a2⟩ := abA_bd v p hb
  obtain ⟨b1, b2⟩ := rW_bd c (abA v p) (abB p) (kbt_pos _)
  obtain ⟨c1, c2⟩ := fdiv_bd (abA v p) (abB p) 1181116006400000 (kbt_pos _) (by omega) (by omega) (by decide)
  omega
theorem frac_bd (v p : Int) (hb : Bd v p) : -4611686018427387904 < abA v p - rW 102 (abA v p) (abB p) * abB p ∧ abA v p - rW 102 (abA v p) (abB p) * abB p < 4611686018427387904 := by
  obtain ⟨q, r, e, h0, h1, q1, q2⟩ := quo (abA v p) (abB p) (kbt_pos _)
  obtain ⟨a, b⟩ := pow31 p hb.2.2.1
  rw [rW_down _ _ (kbt_pos _), q1, e, Int.mul_comm]
  omega
/-- the quotient of two whole numbers that is the number -/
theorem rat_ok (v p a b : Int) (hb : Bd v p) (h : (0 ≤ tE v p ∧ a = sgnd (tS v) (tM v) * (1 * 2 ^ (tE v p).toNat) ∧ b = 1) ∨ (tE v p < 0 ∧ a = sgnd (tS v) (tM v) ∧ b = 1 * 2 ^ (-tE v p).toNat)) :
    a * abB p = b * abA v p ∧ 1 ≤ b ∧ (1 < b → a.fmod 2 ≠ 0) ∧ -9223372036854775808 < a ∧ a < 9223372036854775808 ∧ b < 9223372036854775808 := by
  obtain ⟨f1, f2, f3, f4, _⟩ := told_facts v p
  obtain ⟨w1, w2⟩ := abA_bd v p hb
  have hB : (1 : Int) ≤ abB p := by have : 0 < abB p := kbt_pos _; omega
  by_cases h0 : v = 0
  · obtain ⟨z1, z2, z3, z4⟩ := f4 h0
    subst h0
    rw [z1, z2, z3, sgnd0] at h
    rcases h with ⟨_, rfl, rfl⟩ | ⟨h, _⟩
    · rw [abA_zero, Int.zero_mul, Int.zero_mul, Int.mul_zero]
      exact ⟨rfl, by decide, fun h => by omega, by decide, by decide, by decide⟩
    · omega
  · obtain ⟨c, hc, ⟨he, ha, hb'⟩ | ⟨he, ha, hb'⟩⟩ := ab_parts v p h0
    · rcases h with ⟨_, rfl, rfl⟩ | ⟨h, _⟩
      · have e1 : sgnd (tS v) (tM v) * (1 * 2 ^ (tE v p).toNat) * abB p = 1 * abA v p := by rw [ha, hb', Int.one_mul, Int.one_mul, Int.one_mul]
        refine ⟨e1, by decide, fun h => by omega, ?_⟩
        rw [show 1 * abA v p = abA v p from Int.one_mul _] at e1
        generalize sgnd (tS v) (tM v) * (1 * 2 ^ (tE v p).toNat) = a at *
        refine ⟨?_, ?_, by decide⟩
        · by_cases ha0 : 0 ≤ a
          · omega
          · have := Int.mul_le_mul_of_nonpos_left (a := a) (by omega) hB
            rw [Int.mul_one] at this; omega
        · by_cases ha0 : 0 ≤ a
          · have := Int.mul_le_mul_of_nonneg_left hB ha0
            rw [Int.mul_one] at this; omega
          · omega
      · omega
    · rcases h with ⟨h, _⟩ | ⟨_, rfl, rfl⟩
      · omega
      · obtain ⟨m0, modd, b1, b2, mb, e1, e2, l, u, _⟩ := parts_bd v p hb h0
        have hS := sgnd_abs (tS v) (tM v)
        have hp := kbt_pos (-tE v p).toNat
        have hbb : (2 : Int) ^ (-tE v p).toNat ≤ 2147483648 := by
          have := Nat.pow_le_pow_right (n := 2) (by decide) (show (-tE v p).toNat ≤ 31 by omega)
          have h2 : ((2 ^ (-tE v p).toNat : Nat) : Int) ≤ ((2 ^ 31 : Nat) : Int) := by exact_mod_cast this
          rw [kbt_cast] at h2
          exact h2
        refine ⟨?_, by omega, fun _ => ?_, by omega, by omega, by omega⟩
        · rw [ha, hb', Int.one_mul, ← Int.mul_assoc, ← Int.mul_assoc, Int.mul_comm (sgnd (tS v) (tM v))]
        · rw [fm (by decide : (0 : Int) < 2)]; omega
theorem rW_117 (A B : Int) (hB : 0 < B) : (0 ≤ A → rW 117 A B = -(-A).fdiv B) ∧ (A < 0 → rW 117 A B = A.fdiv B) := by
  constructor
  · intro h
    rw [neg_quo A B hB]
    unfold rW
    by_cases h0 : A = 0
    · subst h0
      rw [fm hB, fd hB, Int.zero_emod, Int.zero_ediv]
      simp
    · have : A > 0 := by omega
      simp [this]
  · intro h
    have : ¬ A > 0 := by omega
    unfold rW
    simp [this]
theorem rW_100 (A B : Int) (hB : 0 < B) : (0 ≤ A → rW 100 A B = A.fdiv B) ∧ (A < 0 → rW 100 A B = -(-A).fdiv B) := by
  constructor
  · intro h
    have : ¬ A < 0 := by omega
    unfold rW
    simp [this]
  · intro h
    rw [neg_quo A B hB]
    unfold rW
    simp [h]
/-- a difference by the parts, at the lesser power -/
def dif (S1 e1 S2 e2 : Int) : Int := if e1 < e2 then S1 - S2 * 2 ^ (-(e1 - e2)).toNat else S1 * 2 ^ (e1 - e2).toNat - S2
def difE (e1 e2 : Int) : Int := if e1 < e2 then e1 else e2
theorem dif_scale (S1 e1 S2 e2 q : Int) (h1 : q ≤ e1) (h2 : q ≤ e2) : S1 * 2 ^ (e1 - q).toNat - S2 * 2 ^ (e2 - q).toNat = dif S1 e1 S2 e2 * 2 ^ (difE e1 e2 - q).toNat := by
  unfold dif difE
  split
  · rw [Int.sub_mul, Int.mul_assoc, ← pow_split (a := -(e1 - e2)) (b := e1 - q) (c := e2 - q) (by omega) (by omega) (by omega)]
  · rw [Int.sub_mul, Int.mul_assoc, ← pow_split (a := e1 - e2) (b := e2 - q) (c := e1 - q) (by omega) (by omega) (by omega)]
/-- a number's parts at any lower power -/
theorem at_pow (v p q : Int) (a : Nat) (h : v ≠ 0) (hq : (a : Int) = p - q) (_ha : q ≤ p) : v * 2 ^ a = sgnd (tS v) (tM v) * 2 ^ (tE v p - q).toNat ∧ q ≤ tE v p := by
  obtain ⟨k, e, t⟩ := told_val v p h
  refine ⟨?_, by omega⟩
  generalize sgnd (tS v) (tM v) = S at *
  rw [t, e, Int.mul_assoc, ← Int.pow_add]
  congr 2; omega
theorem frac_dif (v p F : Int) (h : v ≠ 0) (hF : F ≠ 0) :
    tS (dif (sgnd (tS v) (tM v)) (tE v p) (sgnd (tS F) (tM F)) (tE F 0)) = tS (abA v p - F * abB p) ∧
    tM (dif (sgnd (tS v) (tM v)) (tE v p) (sgnd (tS F) (tM F)) (tE F 0)) = tM (abA v p - F * abB p) ∧
    tE (dif (sgnd (tS v) (tM v)) (tE v p) (sgnd (tS F) (tM F)) (tE F 0)) (difE (tE v p) (tE F 0)) = tE (abA v p - F * abB p) (-(if -p > 0 then -p else 0)) ∧
    tB (dif (sgnd (tS v) (tM v)) (tE v p) (sgnd (tS F) (tM F)) (tE F 0)) = tB (abA v p - F * abB p) := by
  obtain ⟨a1, a2⟩ := at_pow v p (-(if -p > 0 then -p else 0)) (if p > 0 then p else 0).toNat h (by split <;> split <;> omega) (by split <;> omega)
  obtain ⟨b1, b2⟩ := at_pow F 0 (-(if -p > 0 then -p else 0)) (if -p > 0 then -p else 0).toNat hF (by split <;> omega) (by split <;> omega)
  have e : abA v p - F * abB p = dif (sgnd (tS v) (tM v)) (tE v p) (sgnd (tS F) (tM F)) (tE F 0) * 2 ^ (difE (tE v p) (tE F 0) - -(if -p > 0 then -p else 0)).toNat := by
    rw [← dif_scale _ _ _ _ _ a2 b2, ← a1, ← b1]
  refine told_eq _ _ _ _ (difE (tE v p) (tE F 0) - -(if -p > 0 then -p else 0)).toNat 0 ?_ ?_
  · rw [e, Int.pow_zero, Int.mul_one]
  · have : -(if -p > 0 then -p else 0) ≤ difE (tE v p) (tE F 0) := by
      unfold difE
      by_cases hh : tE v p < tE F 0
      · rw [if_pos hh]; exact a2
      · rw [if_neg hh]; exact b2
    omega
theorem frac_z (v p F : Int) (h : F = 0) :
    tS v = tS (abA v p - F * abB p) ∧ tM v = tM (abA v p - F * abB p) ∧ tE v p = tE (abA v p - F * abB p) (-(if -p > 0 then -p else 0)) ∧ tB v = tB (abA v p - F * abB p) := by
  subst h
  rw [Int.zero_mul, Int.sub_zero]
  refine told_eq v _ p _ (if p > 0 then p else 0).toNat 0 (by rw [Int.pow_zero, Int.mul_one]) ?_
  split <;> split <;> omega
theorem gap_dif (v p v2 p2 : Int) (h : v ≠ 0) (h2 : v2 ≠ 0) : ∃ c : Int, 0 < c ∧ gapF v p v2 p2 = dif (sgnd (tS v) (tM v)) (tE v p) (sgnd (tS v2) (tM v2)) (tE v2 p2) * c := by
  obtain ⟨a1, a2⟩ := at_pow v p (-(if -p > 0 then -p else 0) - (if -p2 > 0 then -p2 else 0)) ((if p > 0 then p else 0).toNat + (if -p2 > 0 then -p2 else 0).toNat) h (by split <;> split <;> split <;> omega) (by split <;> split <;> omega)
  obtain ⟨b1, b2⟩ := at_pow v2 p2 (-(if -p > 0 then -p else 0) - (if -p2 > 0 then -p2 else 0)) ((if p2 > 0 then p2 else 0).toNat + (if -p > 0 then -p else 0).toNat) h2 (by split <;> split <;> split <;> omega) (by split <;> split <;> omega)
  refine ⟨_, kbt_pos (difE (tE v p) (tE v2 p2) - (-(if -p > 0 then -p else 0) - (if -p2 > 0 then -p2 else 0))).toNat, ?_⟩
  rw [← dif_scale _ _ _ _ _ a2 b2, ← a1, ← b1]
  unfold gapF abA abB
  rw [Int.pow_add, Int.pow_add, Int.mul_assoc, Int.mul_assoc]
theorem sg_mul {D c : Int} (h : 0 < c) : (0 < D * c ↔ 0 < D) ∧ (D * c < 0 ↔ D < 0) ∧ (D * c = 0 ↔ D = 0) := by
  rcases (by omega : 0 < D ∨ D < 0 ∨ D = 0) with q | q | q
  · have := Int.mul_pos q h; omega
  · have := Int.mul_neg_of_neg_of_pos q h; omega
  · subst q; rw [Int.zero_mul]; omega
theorem gap_sgn (v p v2 p2 : Int) (h : v ≠ 0) (h2 : v2 ≠ 0) : (0 < gapF v p v2 p2 ↔ 0 < dif (sgnd (tS v) (tM v)) (tE v p) (sgnd (tS v2) (tM v2)) (tE v2 p2)) ∧ (gapF v p v2 p2 < 0 ↔ dif (sgnd (tS v) (tM v)) (tE v p) (sgnd (tS v2) (tM v2)) (tE v2 p2) < 0) ∧ (gapF v p v2 p2 = 0 ↔ dif (sgnd (tS v) (tM v)) (tE v p) (sgnd (tS v2) (tM v2)) (tE v2 p2) = 0) := by
  obtain ⟨c, hc, e⟩ := gap_dif v p v2 p2 h h2
  rw [e]; exact sg_mul hc
theorem gap_z1 (v p v2 p2 : Int) (h : v = 0) : (0 < gapF v p v2 p2 ↔ v2 < 0) ∧ (gapF v p v2 p2 < 0 ↔ 0 < v2) ∧ (gapF v p v2 p2 = 0 ↔ v2 = 0) := by
  subst h
  have e : gapF 0 p v2 p2 = -(v2 * (2 ^ (if p2 > 0 then p2 else 0).toNat * abB p)) := by
    unfold gapF abA; rw [Int.zero_mul, Int.zero_mul, Int.mul_assoc]; omega
  have := sg_mul (D := v2) (Int.mul_pos (kbt_pos (if p2 > 0 then p2 else 0).toNat) (show 0 < abB p from kbt_pos _))
  rw [e]; omega
theorem gap_z2 (v p v2 p2 : Int) (h : v2 = 0) : (0 < gapF v p v2 p2 ↔ 0 < v) ∧ (gapF v p v2 p2 < 0 ↔ v < 0) ∧ (gapF v p v2 p2 = 0 ↔ v = 0) := by
  subst h
  have e : gapF v p 0 p2 = v * (2 ^ (if p > 0 then p else 0).toNat * abB p2) := by
    unfold gapF abA; rw [Int.zero_mul, Int.zero_mul, Int.mul_assoc]; omega
  have := sg_mul (D := v) (Int.mul_pos (kbt_pos (if p > 0 then p else 0).toNat) (show 0 < abB p2 from kbt_pos _))
  rw [e]; exact this
theorem pow_mono {a c : Nat} (hac : a ≤ c) : (2 : Int) ^ a ≤ 2 ^ c := by
  have := Nat.pow_le_pow_right (n := 2) (by decide) hac
  have : ((2 ^ a : Nat) : Int) ≤ ((2 ^ c : Nat) : Int) := by exact_mod_cast this
  rwa [kbt_cast, kbt_cast] at this
/-- fewer bits, a lesser number -/
theorem bits_lt {M1 e1 b1 M2 e2 b2 q : Int} (h1 : M1 < 2 ^ b1.toNat) (h2 : (2 : Int) ^ (b2 - 1).toNat ≤ M2) (hb1 : 0 ≤ b1) (hb2 : 1 ≤ b2) (hq1 : q ≤ e1) (hq2 : q ≤ e2) (h : b1 + e1 < b2 + e2) :
    M1 * 2 ^ (e1 - q).toNat < M2 * 2 ^ (e2 - q).toNat := by
  have p1 := kbt_pos (e1 - q).toNat
  have p2 := kbt_pos (e2 - q).toNat
  have a1 := Int.mul_lt_mul_of_pos_right h1 p1
  have a2 := Int.mul_le_mul_of_nonneg_right h2 (Int.le_of_lt p2)
  rw [← Int.pow_add] at a1 a2
  have := pow_mono (a := b1.toNat + (e1 - q).toNat) (c := (b2 - 1).toNat + (e2 - q).toNat) (by omega)
  omega
theorem cmp_facts (v p v2 p2 : Int) (hb : Bd v p) (hb2 : Bd v2 p2) (h : v ≠ 0) (h2 : v2 ≠ 0) :
    (tS v = 0 → tS v2 = 1 → 0 < gapF v p v2 p2) ∧ (tS v = 1 → tS v2 = 0 → gapF v p v2 p2 < 0) ∧
    (tS v = tS v2 → tE v p = tE v2 p2 → tM v = tM v2 → gapF v p v2 p2 = 0) ∧
    (tS v = 0 → tS v2 = 0 → tE v p = tE v2 p2 → (tM v2 < tM v → 0 < gapF v p v2 p2) ∧ (tM v < tM v2 → gapF v p v2 p2 < 0)) ∧
    (tS v = 1 → tS v2 = 1 → tE v p = tE v2 p2 → (tM v2 < tM v → gapF v p v2 p2 < 0) ∧ (tM v < tM v2 → 0 < gapF v p v2 p2)) ∧
    (tS v = 0 → tS v2 = 0 → (tB v + tE v p < tB v2 + tE v2 p2 → gapF v p v2 p2 < 0) ∧ (tB v2 + tE v2 p2 < tB v + tE v p → 0 < gapF v p v2 p2)) ∧
    (tS v = 1 → tS v2 = 1 → (tB v + tE v p < tB v2 + tE v2 p2 → 0 < gapF v p v2 p2) ∧ (tB v2 + tE v2 p2 < tB v + tE v p → gapF v p v2 p2 < 0)) := by
  obtain ⟨g1, g2, g3⟩ := gap_sgn v p v2 p2 h h2
  obtain ⟨m0, _, b1, b2, _, e1, e2, l, u, _⟩ := parts_bd v p hb h
  obtain ⟨m0', _, b1', b2', _, e1', e2', l', u', _⟩ := parts_bd v2 p2 hb2 h2
  have hd := dif_scale (sgnd (tS v) (tM v)) (tE v p) (sgnd (tS v2) (tM v2)) (tE v2 p2) (difE (tE v p) (tE v2 p2)) (by unfold difE; split <;> omega) (by unfold difE; split <;> omega)
  rw [show difE (tE v p) (tE v2 p2) - difE (tE v p) (tE v2 p2) = 0 by omega, show (0 : Int).toNat = 0 from rfl, Int.pow_zero, Int.mul_one] at hd
  rw [← hd] at g1 g2 g3
  clear hd
  generalize gapF v p v2 p2 = G at *
  have hq1 : difE (tE v p) (tE v2 p2) ≤ tE v p := by unfold difE; split <;> omega
  have hq2 : difE (tE v p) (tE v2 p2) ≤ tE v2 p2 := by unfold difE; split <;> omega
  have q1 := kbt_pos (tE v p - difE (tE v p) (tE v2 p2)).toNat
  have q2 := kbt_pos (tE v2 p2 - difE (tE v p) (tE v2 p2)).toNat
  have x1 := Int.mul_pos m0 q1
  have x2 := Int.mul_pos m0' q2
  have y1 := fun z => bits_lt (q := difE (tE v p) (tE v2 p2)) u l' (by omega) (by omega) hq1 hq2 z
  have y2 := fun z => bits_lt (q := difE (tE v p) (tE v2 p2)) u' l (by omega) (by omega) hq2 hq1 z
  have z0 : tE v p = tE v2 p2 → tE v p - difE (tE v p) (tE v2 p2) = 0 ∧ tE v2 p2 - difE (tE v p) (tE v2 p2) = 0 := by
    intro e; unfold difE; split <;> omega
  generalize difE (tE v p) (tE v2 p2) = q at *
  generalize tM v = M at *
  generalize tM v2 = M2 at *
  refine ⟨fun s1 s2 => ?_, fun s1 s2 => ?_, fun s1 s2 s3 => ?_, fun s1 s2 s3 => ?_, fun s1 s2 s3 => ?_, fun s1 s2 => ?_, fun s1 s2 => ?_⟩
  · rw [s1, s2, sgnd0, sgnd1, Int.neg_mul] at g1; omega
  · rw [s1, s2, sgnd0, sgnd1, Int.neg_mul] at g2; omega
  · rw [s1, s2, s3] at g3; exact g3.mpr (by omega)
  · obtain ⟨w1, w2⟩ := z0 s3
    rw [s1, s2, sgnd0, sgnd0, w1, w2] at g1 g2
    simp only [Int.toNat_zero, Int.pow_zero, Int.mul_one] at g1 g2
    omega
  · obtain ⟨w1, w2⟩ := z0 s3
    rw [s1, s2, sgnd1, sgnd1, w1, w2] at g1 g2
    simp only [Int.toNat_zero, Int.pow_zero, Int.mul_one] at g1 g2
    omega
  · rw [s1, s2, sgnd0, sgnd0] at g1 g2
    refine ⟨fun z => ?_, fun z => ?_⟩
    · have := y1 z; omega
    · have := y2 z; omega
  · rw [s1, s2, sgnd1, sgnd1, Int.neg_mul, Int.neg_mul] at g1 g2
    refine ⟨fun z => ?_, fun z => ?_⟩
    · have := y1 z; omega
    · have := y2 z; omega
theorem parts_F (F : Int) (h : F ≠ 0) (h1 : -1181116006400000 ≤ F) (h2 : F ≤ 1181116006400000) : 0 < tM F ∧ tM F ≤ 4611686018427387903 ∧ 0 ≤ tE F 0 ∧ tE F 0 ≤ 60 := by
  obtain ⟨q, k, e, m, t, _⟩ := told_split F 0 h
  have hk2 : (2 : Nat) ^ k ≤ F.natAbs := by rw [e]; exact Nat.le_mul_of_pos_right _ (by omega)
  have hk : k < 60 := by
    by_cases hk : k < 60
    · exact hk
    · have := Nat.pow_le_pow_right (n := 2) (by decide) (Nat.not_lt.mp hk)
      have : (2 : Nat) ^ 60 = 1152921504606846976 := by decide
      omega
  have hm : 2 * q + 1 ≤ F.natAbs := by rw [e]; exact Nat.le_mul_of_pos_left _ (Nat.two_pow_pos k)
  omega
theorem floor_bd (v p : Int) (hb : Bd v p) : -1181116006400000 ≤ rW 102 (abA v p) (abB p) ∧ rW 102 (abA v p) (abB p) ≤ 1181116006400000 := by
  obtain ⟨a1, a2⟩ := abA_bd v p hb
  rw [rW_down _ _ (kbt_pos _)]
  exact fdiv_bd _ _ _ (kbt_pos _) (by omega) (by omega) (by decide)
theorem prod_bd (m : Int) (n : Nat) (h0 : 0 < m) (h : m ≤ 1100000) (hn : n ≤ 21) : 0 < m * 2 ^ n ∧ m * 2 ^ n ≤ 2306867200000 := by
  have hp := kbt_pos n
  refine ⟨Int.mul_pos h0 hp, ?_⟩
  have := pow_mono hn
  have e : (2 : Int) ^ 21 = 2097152 := by decide
  have := Int.mul_le_mul h (show (2 : Int) ^ n ≤ 2097152 by omega) (by omega) (by omega)
  omega
theorem bl_small {m : Int} (h0 : 0 < m) (h : m < 4611686018427387904) : bl m ≤ 64 ∧ 1 ≤ bl m := by
  obtain ⟨k, e, l, _⟩ := bl_pos m h0
  refine ⟨?_, by omega⟩
  by_cases hk : k ≤ 62
  · omega
  · have := pow_mono (show 62 ≤ k by omega)
    have e2 : (2 : Int) ^ 62 = 4611686018427387904 := by decide
    omega
theorem sub_cons {n n' : Led} {q : Addr × Obj} (h : ∀ p ∈ n, p ∈ n') : ∀ p ∈ n, p ∈ q :: n' := fun p hp => List.mem_cons_of_mem _ (h p hp)
theorem sub_app {n n' tl : Led} (h : ∀ p ∈ n, p ∈ n') : ∀ p ∈ n, p ∈ tl ++ n' := fun p hp => List.mem_append.mpr (.inr (h p hp))
theorem sub_left {tl n : Led} : ∀ p ∈ tl, p ∈ tl ++ n := fun p hp => List.mem_append.mpr (.inl hp)
theorem updF_app {d : Addr} {o : Obj} {g : Obj → Led} {l : Led} : ∀ {tl : Led}, (∀ p ∈ tl, p.1 ≠ d) → UpdF d o l g → UpdF d o (tl ++ l) (fun o' => tl ++ g o')
  | [], _, h => h
  | p :: _, hn, h => UpdF.tail (hn p (.head _)) (updF_app (fun q hq => hn q (.tail _ hq)) h)
theorem ent_ne {h₀ h : Heap} {L a c : Addr} {oa o : Obj} {news : Led} {vs : Array Value} {n : Nat} {v : Option Value} (N : News h₀ L h news) (h1 : (a, oa) ∈ news) (h2 : (c, o) ∈ news) (e1 : oa.data = .seq vs n) (e2 : o.data = .cell v) : a ≠ c := by
  intro e
  subst e
  have := (N _ h1).1.symm.trans (N _ h2).1
  cases this
  rw [e1] at e2
  cases e2
theorem tl_ne {h₀ h : Heap} {L c : Addr} {o : Obj} {news tl : Led} {v : Option Value} (N : News h₀ L h news) (sub : ∀ p ∈ tl, p ∈ news) (ht : TupAll tl) (h2 : (c, o) ∈ news) (e2 : o.data = .cell v) : ∀ p ∈ tl, p.1 ≠ c := by
  intro p hp
  obtain ⟨vs, n, e⟩ := ht p hp
  exact ent_ne N (sub p hp) h2 e e2
/-- a tuple of four ints, read -/
abbrev d4 (a b c d : Int) : PyData := .tuple [.int a, .int b, .int c, .int d]
section
variable {K : Frag} {prog : Program} {w : World} {A : Around} {E : Value → Shared → Prop} {s : Shared} {h₀ : Heap} {L : Addr} {m : Str → Option Value} {news : Led}
theorem read4 {x : Addr} {a b c d : Int} {t1 t2 t3 t4 : Tok} {h : Heap} (X : K.In h₀) (F : Fr h₀ L h m) (N : News h₀ L h news) (T : TupI K news x [.int a t1, .int b t2, .int c t3, .int d t4]) : Reads h (.ref x) (d4 a b c d) [] :=
  T.reads X F N (fun _ h => h) (.cons (.int _ _) (.cons (.int _ _) (.cons (.int _ _) (.cons (.int _ _) .nil))))
theorem eqv4 (a b c d a' b' c' d' : Int) : PyData.eqv (d4 a b c d) (d4 a' b' c' d') = decide (a = a' ∧ b = b' ∧ c = c' ∧ d = d') := by
  simp only [PyData.eqv, PyData.eqvAll, Bool.and_true]
  by_cases h1 : a = a' <;> by_cases h2 : b = b' <;> by_cases h3 : c = c' <;> by_cases h4 : d = d' <;> simp [h1, h2, h3, h4]
theorem eq4 {x y : Addr} {a b c d a' b' c' d' : Int} {t1 t2 t3 t4 u1 u2 u3 u4 : Tok} {Q : Value → Shared → Prop} (X : K.In h₀) (F : Fr h₀ L s.heap m) (N : News h₀ L s.heap news)
    (T1 : TupI K news x [.int a t1, .int b t2, .int c t3, .int d t4]) (T2 : TupI K news y [.int a' u1, .int b' u2, .int c' u3, .int d' u4]) (hu : A.units + 64 < cLine)
    (h : Q (.bool (decide (a = a' ∧ b = b' ∧ c = c' ∧ d = d'))) s) : wpAny (model prog w) A (compareOp .Eq (.ref x) (.ref y)) Q E s :=
  eq_dataH (read4 X F N T1) (read4 X F N T2) rfl rfl hu (by rw [eqv4]; exact h)
theorem ne4 {x y : Addr} {a b c d a' b' c' d' : Int} {t1 t2 t3 t4 u1 u2 u3 u4 : Tok} {Q : Value → Shared → Prop} (X : K.In h₀) (F : Fr h₀ L s.heap m) (N : News h₀ L s.heap news)
    (T1 : TupI K news x [.int a t1, .int b t2, .int c t3, .int d t4]) (T2 : TupI K news y [.int a' u1, .int b' u2, .int c' u3, .int d' u4]) (hu : A.units + 64 < cLine)
    (h : Q (.bool (!decide (a = a' ∧ b = b' ∧ c = c' ∧ d = d'))) s) : wpAny (model prog w) A (compareOp .NotEq (.ref x) (.ref y)) Q E s :=
  ne_dataH (read4 X F N T1) (read4 X F N T2) rfl rfl hu (by rw [eqv4]; exact h)
theorem in4 {x y p q : Addr} {a b c d a' b' c' d' a'' b'' c'' d'' : Int} {t1 t2 t3 t4 u1 u2 u3 u4 v1 v2 v3 v4 : Tok} {Q : Value → Shared → Prop} (X : K.In h₀) (F : Fr h₀ L s.heap m) (N : News h₀ L s.heap news)
    (T1 : TupI K news x [.int a t1, .int b t2, .int c t3, .int d t4]) (T2 : TupI K news y [.ref p, .ref q])
    (Tp : TupI K news p [.int a' u1, .int b' u2, .int c' u3, .int d' u4]) (Tq : TupI K news q [.int a'' v1, .int b'' v2, .int c'' v3, .int d'' v4]) (hu : A.units + 64 < cLine)
    (h : Q (.bool (decide ((a' = a ∧ b' = b ∧ c' = c ∧ d' = d) ∨ (a'' = a ∧ b'' = b ∧ c'' = c ∧ d'' = d)))) s) : wpAny (model prog w) A (compareOp .In (.ref x) (.ref y)) Q E s := by
  refine SeqAt.in_tuple_reads (xs := [d4 a' b' c' d', d4 a'' b'' c'' d'']) (T2.reads X F N (fun _ h => h) (.cons (read4 X F N Tp) (.cons (read4 X F N Tq) .nil))) (read4 X F N T1) rfl rfl (Nat.lt_of_le_of_lt (m := A.units + 64) ?_ hu) ?_
  · have e : (d4 a b c d).depth ≤ 60 := by simp [PyData.depth, PyData.depthAll]
    have := Nat.min_le_right (PyData.depthAll [d4 a' b' c' d', d4 a'' b'' c'' d'']) (d4 a b c d).depth
    omega
  · simp only [List.any_cons, List.any_nil, eqv4, Bool.or_false]
    have e : ((decide (a' = a ∧ b' = b ∧ c' = c ∧ d' = d)) || decide (a'' = a ∧ b'' = b ∧ c'' = c ∧ d'' = d)) = decide ((a' = a ∧ b' = b ∧ c' = c ∧ d' = d) ∨ (a'' = a ∧ b'' = b ∧ c'' = c ∧ d'' = d)) := by
      rw [Bool.decide_or]
    rw [e]; exact h
theorem eqv3 (x y z x' y' z' : PyData) : PyData.eqv (.tuple [x, y, z]) (.tuple [x', y', z']) = (PyData.eqv x x' && (PyData.eqv y y' && PyData.eqv z z')) := by
  simp only [PyData.eqv, PyData.eqvAll, Bool.and_true]
theorem ne444 {x y p q r p' q' r' : Addr} {a1 a2 a3 a4 b1 b2 b3 b4 c1 c2 c3 c4 : Int} {s1 s2 s3 s4 t1 t2 t3 t4 u1 u2 u3 u4 : Tok} {s1' s2' s3' s4' t1' t2' t3' t4' u1' u2' u3' u4' : Tok} {Q : Value → Shared → Prop} (X : K.In h₀) (F : Fr h₀ L s.heap m) (N : News h₀ L s.heap news)
    (T1 : TupI K news x [.ref p, .ref q, .ref r]) (T2 : TupI K news y [.ref p', .ref q', .ref r'])
    (P : TupI K news p [.int a1 s1, .int a2 s2, .int a3 s3, .int a4 s4]) (P' : TupI K news p' [.int a1 s1', .int a2 s2', .int a3 s3', .int a4 s4'])
    (R : TupI K news q [.int b1 t1, .int b2 t2, .int b3 t3, .int b4 t4]) (R' : TupI K news q' [.int b1 t1', .int b2 t2', .int b3 t3', .int b4 t4'])
    (S : TupI K news r [.int c1 u1, .int c2 u2, .int c3 u3, .int c4 u4]) (S' : TupI K news r' [.int c1 u1', .int c2 u2', .int c3 u3', .int c4 u4']) (hu : A.units + 64 < cLine)
    (h : Q (.bool false) s) : wpAny (model prog w) A (compareOp .NotEq (.ref x) (.ref y)) Q E s := by
  refine ne_dataH (da := .tuple [d4 a1 a2 a3 a4, d4 b1 b2 b3 b4, d4 c1 c2 c3 c4]) (db := .tuple [d4 a1 a2 a3 a4, d4 b1 b2 b3 b4, d4 c1 c2 c3 c4])
    (T1.reads X F N (fun _ h => h) (.cons (read4 X F N P) (.cons (read4 X F N R) (.cons (read4 X F N S) .nil)))) (T2.reads X F N (fun _ h => h) (.cons (read4 X F N P') (.cons (read4 X F N R') (.cons (read4 X F N S') .nil)))) rfl rfl hu ?_
  rw [eqv3, eqv4, eqv4, eqv4]
  simpa using h
end
theorem ne_same {prog : Program} {w : World} {A : Around} {E : Value → Shared → Prop} {s : Shared} {a b : Int} {t u : Tok} {Q : Value → Shared → Prop} (e : a = b) (h : Q (.bool false) s) : wpAny (model prog w) A (compareOp .NotEq (.int a t) (.int b u)) Q E s :=
  PyProof.Rows.ne_int (by subst e; simpa using h)
theorem ne4s {K : Frag} {prog : Program} {w : World} {A : Around} {E : Value → Shared → Prop} {s : Shared} {h₀ : Heap} {L : Addr} {m : Str → Option Value} {news : Led} {x y : Addr} {a b c d : Int} {t1 t2 t3 t4 u1 u2 u3 u4 : Tok} {Q : Value → Shared → Prop} (X : K.In h₀) (F : Fr h₀ L s.heap m) (N : News h₀ L s.heap news)
    (T1 : TupI K news x [.int a t1, .int b t2, .int c t3, .int d t4]) (T2 : TupI K news y [.int a u1, .int b u2, .int c u3, .int d u4]) (hu : A.units + 64 < cLine)
    (h : Q (.bool false) s) : wpAny (model prog w) A (compareOp .NotEq (.ref x) (.ref y)) Q E s :=
  ne4 X F N T1 T2 hu (by simpa using h)
section
variable {prog : Program} {w : World} {A : Around} {E : Value → Shared → Prop} {s : Shared} {h₀ : Heap} {L : Addr} {m : Str → Option Value} {env : Env} {news : Led}

theorem str_st {I : Addr} {S : Str} {t : Tok} : ∀ i (h h' : Heap) (o : Obj) (nw : Led), h.IsStrIter I "str_ascii_iterator" S t i → h.get? I = some o → h'.get? I = some o → (∀ b o, h₀.get? b = some o → h'.get? b = some o) → News h₀ L h' nw → True →
    h'.IsStrIter I "str_ascii_iterator" S t i := fun i h h' o nw st e e' _ _ _ => by
  obtain ⟨o', q, r⟩ := st
  rw [e] at q
  cases q
  exact ⟨o, e', r⟩

/-- a comprehension over a text's signs -/
theorem comp_sign {elt iter : Expr} {x : Str} {px : Pos} {scope : Scope} {cl : List (Str × Addr)} {pos : Pos} {Q : Value → Shared → Prop} {S : Str}
    (hclos : closureFor scope env = pure cl) (hcell : ∀ y ∈ scope.names, y.2 ≠ .cell) (hkind : scope.kind = .function)
    (hnames : ∀ y ∈ scope.names, y.2 = .local → scope.names.lookup y.1 = some .local) (hx : scope.names.lookup x = some .local) (hh : A.handled = none) (ha : S.cps.all (· < 128) = true) (hsz : S.cps.size ≤ sizeLine)
    (h : wpAny (model prog w) A (eval iter env) (fun xv s₁ => (∃ t, xv = .str S t) ∧ Fr h₀ L s₁.heap m ∧ News h₀ L s₁.heap news ∧
      ∀ s₂ : Shared, (∃ h, s₂ = { s₁ with heap := h }) → LCg.CompRest prog w A h₀ L m env elt x scope cl s₂ (fun _ => True) (SignAt S) (LCg.FinE h₀ L m s₂ Q) S.cps.size 0 [] news) E s)
    (hs : ∀ x, foldedSetIterable iter env x = pure x := by intro _; rfl) :
    wpAny (model prog w) A (eval (.ListComp elt [⟨.Name x px, iter, [], 0⟩] scope pos) env) Q E s := by
  rw [eval_ListComp]
  refine wpAny_comprehension_free (use := none) rfl hs hclos hkind hnames (wpAny_mono h (fun xv s₁ h₁ => ?_) fun _ _ e => e)
  obtain ⟨⟨t, rfl⟩, F, N, R⟩ := h₁
  refine wpAny_pyIter_ascii ha ?_
  refine LCg.block_U (Walks.strAscii hh s₁.heap.objs.size S t) hsz (fun i h st => by obtain ⟨o, e, _⟩ := st; exact ⟨o, e⟩) str_st hcell hkind hx ⟨_, Heap.get?_push_size _ rfl, rfl, rfl⟩ (fun b hb => ?_)
    (F.keeps fun _ _ e => Heap.get?_push_of_some _ e) (N.grown fun _ _ e => Heap.get?_push_of_some _ e) (Nat.ne_of_lt F.ns.lt) (next_is_new F) (fun p hp => Nat.ne_of_lt (Heap.lt_size (N p hp).1)) trivial (R _ ⟨_, rfl⟩) ?_
  · rw [List.mem_singleton.mp hb]
    show s₁.heap.objs.size < (s₁.heap.push _).objs.size
    rw [Heap.size_push]; exact Nat.lt_succ_self _
  · intro D C h tk m' ys news' F' N' o1 hn hC₀ hD₀ hCL hDL hCD offC fin
    refine ⟨m', hn, fun h'' hs'' => fin D h'' tk (F'.change hs'' hCL hC₀) (fun p hp => ?_) o1⟩
    refine ⟨hs''.extBut _ _ ?_ (N' p hp).1, (N' p hp).2⟩
    rcases List.mem_cons.mp hp with rfl | hp
    · exact Ne.symm hCD
    · exact offC p hp

theorem ints_snoc {vs : List Value} {ns : List Int} {n : Int} {t : Tok} (h : IntsAre vs ns) : IntsAre (vs ++ [.int n t]) (ns ++ [n]) := IntsAre.append h (IntsAre.cons _ _ IntsAre.nil)

/-- the element is an int that hangs on the sign -/
theorem comp_ints {elt iter : Expr} {x : Str} {px : Pos} {scope : Scope} {cl : List (Str × Addr)} {pos : Pos} {Q : Value → Shared → Prop} (S : Str) (g : Nat → Int)
    (hclos : closureFor scope env = pure cl) (hcell : ∀ y ∈ scope.names, y.2 ≠ .cell) (hkind : scope.kind = .function)
    (hnames : ∀ y ∈ scope.names, y.2 = .local → scope.names.lookup y.1 = some .local) (hx : scope.names.lookup x = some .local) (hh : A.handled = none) (ha : S.cps.all (· < 128) = true) (hsz : S.cps.size ≤ sizeLine)
    (F₀ : Fr h₀ L s.heap m) (N₀ : News h₀ L s.heap news)
    (hi : wpAny (model prog w) A (eval iter env) (fun xv s₁ => (∃ t, xv = .str S t) ∧ ∃ tk, s₁ = { s with toks := tk }) E s)
    (he : ∀ c ∈ S.cps.toList, ∀ (u : Tok) (I : Addr) (oI : Obj) (C : Addr) (oC : Obj) (D : Addr) (ys : List Value) (m₂ : Str → Option Value) (h : Heap) (tk : Nat) (E' : Value → Shared → Prop), LCg.NsObj oC m₂ → m₂ x = some (.str ⟨#[c]⟩ u) → Fr h₀ L h m →
      News h₀ L h ((I, oI) :: (C, oC) :: (D, LCg.lst ys) :: news) →
      wpAny (model prog w) A (eval elt (compEnvC scope cl C env)) (fun y s' => ∃ t h' tk', y = .int (g c) t ∧ s' = { s with heap := h', toks := tk' } ∧ Fr h₀ L h' m ∧ News h₀ L h' ((I, oI) :: (C, oC) :: (D, LCg.lst ys) :: news)) E' { s with heap := h, toks := tk })
    (hQ : ∀ (D : Addr) (vs : List Value) (h : Heap) (tk : Nat), Fr h₀ L h m → News h₀ L h ((D, LCg.lst vs) :: news) → IntsAre vs (S.cps.toList.map g) → Q (.ref D) { s with heap := h, toks := tk })
    (hs : ∀ x, foldedSetIterable iter env x = pure x := by intro _; rfl) :
    wpAny (model prog w) A (eval (.ListComp elt [⟨.Name x px, iter, [], 0⟩] scope pos) env) Q E s := by
  refine comp_sign (S := S) (h₀ := h₀) (L := L) (m := m) (news := news) hclos hcell hkind hnames hx hh ha hsz (wpAny_mono hi (fun xv s₁ hq => ?_) fun _ _ e => e) hs
  obtain ⟨ht, tk, rfl⟩ := hq
  refine ⟨ht, F₀, N₀, ?_⟩
  rintro s₂ ⟨h₂, rfl⟩
  have all : ∀ (k i : Nat) (ys : List Value), i + k = S.cps.size → IntsAre ys ((S.cps.toList.take i).map g) →
      LCg.CompRest prog w A h₀ L m env elt x scope cl { s with heap := h₂, toks := tk } (fun _ => True) (SignAt S) (LCg.FinE h₀ L m { s with heap := h₂, toks := tk } Q) k i ys news := by
    intro k
    induction k with
    | zero =>
      intro i ys hk hy
      refine LCg.CompRest.zero ?_
      intro D h tk' F N _
      refine hQ D ys h tk' F N ?_
      rw [List.take_of_length_le (by simp; omega)] at hy
      exact hy
    | succ k ih =>
      intro i ys hk hy
      refine LCg.CompRest.succ ?_
      rintro v I oI C oC D m₂ h tk' E' ⟨c, u, hc, rfl⟩ hC hm F N off ne
      have hc' : S.cps.toList[i]? = some c := by simpa using hc
      refine wpAny_mono (he c (List.mem_of_getElem? hc') u I oI C oC D ys m₂ h tk' E' hC hm F N) (fun y s' hq => ?_) fun _ _ e => e
      obtain ⟨t, h', tk'', rfl, rfl, F', N'⟩ := hq
      refine LCg.CompEnd.intro F' N' news (fun _ h => h) off trivial (ih (i + 1) _ (by omega) ?_)
      rw [List.take_add_one, hc', List.map_append]
      exact ints_snoc hy
  exact all _ 0 [] (by omega) IntsAre.nil
end
theorem ints3 {vs : List Value} {a b c : Int} (h : IntsAre vs [a, b, c]) : ∃ t u v, vs = [.int a t, .int b u, .int c v] := by
  cases h with
  | cons t _ h => cases h with
    | cons u _ h => cases h with
      | cons v _ h => cases h; exact ⟨_, _, _, rfl⟩
-- a longer ledger holds what stood
local macro_rules | `(tactic| kqd_sub) => `(tactic| first | (with_reducible exact fun _ h => h) | (with_reducible refine' sub_cons ?_; kqd_sub) | (with_reducible exact sub_left) | (with_reducible refine' sub_app ?_; kqd_sub))
-- a tuple of ints: unpacked, read at a place, compared
local macro_rules | `(tactic| kun_tup) => `(tactic| (refine' TupI.is ?tpT ?tpX ?tpF ?tpN ?tpS; (case tpT => with_reducible assumption); (case tpX => k_asm); (case tpF => k_asm); (case tpN => k_asm); (case tpS => kqd_sub)))
local macro_rules | `(tactic| ked_read) => `(tactic| (refine' TupI.reads ?tpT ?tpX ?tpF ?tpN ?tpS ?tpR; (case tpT => with_reducible assumption); (case tpX => k_asm); (case tpF => k_asm); (case tpN => k_asm); (case tpS => kqd_sub); (case tpR => ked_reads)))
local macro_rules | `(tactic| walk_at "subscriptTail") => `(tactic| (k_here; (with_reducible show wpAny _ _ (subscriptTail _ _ (Value.ref _) (Value.int _ _)) _ _ _); k_dflt (refine' item_tupleT ?t ?a ?b ?c ?d ?_; (case t => kun_tup); (case a => decide); (case b => decide); (case c => rfl); (case d => rfl); k_whole)))
-- a call by its contract: the common premises
local macro_rules | `(tactic| tb_start) => `(tactic| ((case k1 => k_asm); (case k2 => k_asm); (case k3 => k_asm); (case k4 => k_asm); (case k5 => k_asm); (case kK => first | exact rfl | assumption); (case kd => ktr_room); (case ku => ktr_units)))
-- the start of a contract's walk
local macro_rules | `(tactic| tb_rel) => `(tactic| (refine wpAny_call ?_; k_dflt cell_enter; k_steps))
-- the state as one structure, ahead of a statement (nested projections burn in k_gentoks)
local macro_rules | `(tactic| walk_at "execs cons") => `(tactic| (k_here; dsimp only))
local macro_rules | `(tactic| walk_at "isTrue BoolOp") => `(tactic| (k_here; dsimp only))
local macro_rules | `(tactic| is_list) => `(tactic| (k_dflt exact News.isList (by k_asm) (by k_mem)))
-- a tuple's fact over the ledger at hand
local macro_rules | `(tactic| ktr_rel) => `(tactic| first | (with_reducible assumption) | (refine' TupI.mono ?tm1 ?tm2; (case tm1 => with_reducible assumption); (case tm2 => kqd_sub)) | (k_dflt exact TupI.ofMem (by k_mem)) | (k_dflt exact TupI.ofK (by k_is)))
-- the end of a contract's walk: the value's equations are left
local macro_rules | `(tactic| ktn_open) => `(tactic| first
  | (refine' r4_end (by assumption) ?eF ?eN ?eS ?eT ?_; (case eF => k_asm); (case eN => k_asm); (case eS => kqd_sub); (case eT => ktr_rel))
  | (refine' r2_end (by assumption) ?eF ?eN ?eS ?eT ?_; (case eF => k_asm); (case eN => k_asm); (case eS => kqd_sub); (case eT => ktr_rel))
  | (refine' ri_end (by assumption) ?eF ?eN ?eS ?_; (case eF => k_asm); (case eN => k_asm); (case eS => kqd_sub))
  | (refine' rb_end (by assumption) ?eF ?eN ?eS ?_; (case eF => k_asm); (case eN => k_asm); (case eS => kqd_sub)))
local macro_rules | `(tactic| walk_at "binaryOp FloorDiv int int") => `(tactic| (k_here; (with_reducible refine floordiv_int ?kbe ?_ (Or.inl (fd63 ?kb1 ?kb2))); (case kbe => first | exact Int.ne_of_gt (by with_reducible assumption) | omega); (case kb1 => first | (with_reducible assumption) | omega); (case kb2 => first | (with_reducible assumption) | omega)))
-- a def is entered, its defaults too
local macro_rules | `(tactic| cell_enter) => `(tactic| (refine' code_def ?k1 ?k2 ?k3 ?k4 ?k5 ?kA ?kF ?kK ?k6 ?k7 ?k8 ?k9 ?kB ?_ ?c2 ?c3 ?c4 ?c5; (case kA => exact rfl); (case kF => exact rfl); (case kK => assumption); (case k1 => k_asm); (case k2 => k_asm); (case k3 => k_asm); (case k4 => k_asm); (case k5 => k_asm); (case k6 => k_is); (case k7 => k_is); (case k8 => ktr_room); (case k9 => first | exact BindsTo.of_eq rfl | exact binds_K (by k_in) rfl (by k_is) rfl rfl rfl); (case c5 => decide); (case kB => exact locs rfl); (case c2 => exact rfl); (case c3 => exact rfl); (case c4 => exact rfl); k_whole; intro g' L' h' FG' F' N' B' X' T'; (try dsimp only); (try k_fold)))
-- tuples of four ints compared
local macro_rules | `(tactic| walk_at "compareOp Eq ref ref") => `(tactic| (k_here; (with_reducible show wpAny _ _ (compareOp CmpOp.Eq (Value.ref _) (Value.ref _)) _ _ _); k_dflt (refine' eq4 ?k1 ?k2 ?k3 ?k4 ?k5 ?k6 ?_; (case k1 => k_asm); (case k2 => k_asm); (case k3 => k_asm); (case k4 => ktr_rel); (case k5 => ktr_rel); (case k6 => ktr_units))))
local macro_rules | `(tactic| walk_at "compareOp NotEq ref ref") => `(tactic| (k_here; (with_reducible show wpAny _ _ (compareOp CmpOp.NotEq (Value.ref _) (Value.ref _)) _ _ _); k_dflt (refine' ne4 ?k1 ?k2 ?k3 ?k4 ?k5 ?k6 ?_; (case k1 => k_asm); (case k2 => k_asm); (case k3 => k_asm); (case k4 => ktr_rel); (case k5 => ktr_rel); (case k6 => ktr_units))))
local macro_rules | `(tactic| walk_at "compareOp In ref ref") => `(tactic| (k_here; (with_reducible show wpAny _ _ (compareOp CmpOp.In (Value.ref _) (Value.ref _)) _ _ _); k_dflt (refine' in4 ?k1 ?k2 ?k3 ?k4 ?k5 ?k6 ?k7 ?k8 ?_; (case k1 => k_asm); (case k2 => k_asm); (case k3 => k_asm); (case k4 => ktr_rel); (case k5 => ktr_rel); (case k6 => ktr_rel); (case k7 => ktr_rel); (case k8 => ktr_units))))
local macro_rules | `(tactic| k_mem) => `(tactic| first | (with_reducible assumption) | exact List.mem_cons_self | (refine' List.mem_cons_of_mem _ ?_; k_mem) | (refine' List.mem_append.mpr (Or.inr ?_); k_mem) | (refine' List.mem_append.mpr (Or.inl ?_); k_mem))
local macro_rules | `(tactic| walk_at "subscriptTail Name Constant ref int") => `(tactic| (k_here; (with_reducible show wpAny _ _ (subscriptTail _ _ (Value.ref _) (Value.int _ _)) _ _ _); k_dflt (refine' item_tupleT ?t ?a ?b ?c ?d ?_; (case t => kun_tup); (case a => decide); (case b => decide); (case c => rfl); (case d => rfl); k_whole)))
-- a cell among tuples is stored
local macro_rules | `(tactic| k_updF) => `(tactic| first
  | (with_reducible refine' updF_app ?ua ?ub; (case ua => (refine' tl_ne ?uN ?uS ?uT ?uM ?uD; (case uN => k_asm); (case uS => kqd_sub); (case uT => assumption); (case uM => k_mem); (case uD => assumption))); (case ub => k_updF))
  | (with_reducible refine' UpdF.tail ?ua ?ub; (case ua => first | k_ne | (refine' ent_ne ?uN ?uM1 ?uM2 ?uE ?uD; (case uN => k_asm); (case uM1 => k_mem); (case uM2 => k_mem); (case uE => rfl); (case uD => assumption))); (case ub => k_updF)))
local macro_rules | `(tactic| walk_at "compareOp NotEq int int") => `(tactic| (k_here; refine ne_same ?eq9 ?_; (case eq9 => first | (with_reducible rfl) | (with_reducible assumption))))
local macro_rules | `(tactic| walk_at "compareOp NotEq ref ref") => `(tactic| (k_here; (with_reducible show wpAny _ _ (compareOp CmpOp.NotEq (Value.ref _) (Value.ref _)) _ _ _); k_dflt (refine' ne4s ?k1 ?k2 ?k3 ?k4 ?k5 ?k6 ?_; (case k1 => k_asm); (case k2 => k_asm); (case k3 => k_asm); (case k4 => ktr_rel); (case k5 => ktr_rel); (case k6 => ktr_units))))
section
local macro_rules | `(tactic| walk_at "no such step") => `(tactic| fail)
variable (w : World) (mean : ExcName → Option Value) (mg mb : Str → Option Value)
theorem trailing_c (n : Int) (t : Tok) (news : Led) (h0 : 0 < n) : Cl w mean mg mb 1 21 news [.int n t] (RI (tz n.natAbs : Int)) := by
  dsimp only [Cl, PR]
  k_fill
  intro dp un gd cn cs a ccd cl outer A₀ base h₀ L m s Q E B F X N T hk hd hu hret
  tb_rel
  · exact ri_end hret (by k_asm) (by k_asm) (fun _ h => h) (trail n h0)
  · exfalso; omega
end
section
section
variable (w : World) (mean : ExcName → Option Value) (mg mb : Str → Option Value)
theorem number_c (l : Addr) (ws : List Value) (ns : List Int) (a : Int) (t : Tok) (news : Led) (hm : (l, W.listOf ws.toArray 0) ∈ news) (hi : IntsAre ws ns) (hn : ns.length ≤ 63) (h0 : 0 ≤ a) (h1 : a ≤ 100) :
    Cl w mean mg mb 1 242 news [.ref l, .int a t] (fun h₀ L m news s Q => ∀ v : Int, RI v h₀ L m news s Q) := by
  dsimp only [Cl, PR]
  k_fill
  intro dp un gd cn cs a ccd cl outer A₀ base h₀ L m s Q E B F X N T hk hd hu hret
  tb_rel
  · exact ri_end (hret _) (by k_asm) (by k_asm) (fun _ h => h) rfl
  · exact ri_end (hret _) (by k_asm) (by k_asm) (fun _ h => h) rfl
end
end
section
local macro_rules | `(tactic| walk_at "call ref cons nil") => `(tactic| (k_here; (with_reducible show wpAny _ _ (call (Value.ref 242) _) _ _ _); k_dflt (refine' use (number_c _ _ _ _ _ _ _ _ _ _ ?p1 ?p2 ?p3 ?p4 ?p5) ?k1 ?k2 ?k3 ?k4 ?k5 ?kK ?kd ?ku ?_; tb_start; (case p1 => first | assumption | k_mem); (case p2 => l_ints); (case p3 => first | omega | assumption); (case p4 => omega); (case p5 => omega); intro v9 t9 h9 tk9 F9 N9; (try dsimp only); (try k_fold))))
theorem fm1000003 (x : Int) : x.fmod 1000003 = x % 1000003 := Int.fmod_eq_emod_of_nonneg x (by decide)
theorem fm9 (x : Int) : x.fmod 9 = x % 9 := Int.fmod_eq_emod_of_nonneg x (by decide)
theorem fm61 (x : Int) : x.fmod 61 = x % 61 := Int.fmod_eq_emod_of_nonneg x (by decide)
theorem fm41 (x : Int) : x.fmod 41 = x % 41 := Int.fmod_eq_emod_of_nonneg x (by decide)
theorem fm3 (x : Int) : x.fmod 3 = x % 3 := Int.fmod_eq_emod_of_nonneg x (by decide)
theorem fm5 (x : Int) : x.fmod 5 = x % 5 := Int.fmod_eq_emod_of_nonneg x (by decide)
section
variable (w : World) (mean : ExcName → Option Value) (mg mb : Str → Option Value)
theorem drawn_c (l : Addr) (ws : List Value) (ns : List Int) (a : Int) (t : Tok) (news : Led) (hm : (l, W.listOf ws.toArray 0) ∈ news) (hi : IntsAre ws ns) (hn : ns.length ≤ 63) (h0 : 0 ≤ a) (h1 : a ≤ 90) :
    Cl w mean mg mb 2 249 news [.ref l, .int a t] (fun h₀ L m news s Q => ∀ a b : Int, -500000 ≤ a → a ≤ 500002 → -30 ≤ b → b ≤ 30 → R2 (hd.heap_39 w.params) a b h₀ L m news s Q) := by
  dsimp only [Cl, PR]
  k_fill
  intro dp un gd cn cs a ccd cl outer A₀ base h₀ L m s Q E B F X N T hk hd hu hret
  tb_rel
  all_goals (refine' r2_end (hret _ _ ?e1 ?e2 ?e3 ?e4) ?eF ?eN ?eS ?eT ⟨rfl, rfl⟩; (case eF => k_asm); (case eN => k_asm); (case eS => kqd_sub); (case eT => ktr_rel); (case e1 => simp only [fm1000003, fm9, fm61]; omega); (case e2 => simp only [fm1000003, fm9, fm61]; omega); (case e3 => simp only [fm1000003, fm9, fm61]; omega); (case e4 => simp only [fm1000003, fm9, fm61]; omega))
end
end
section
theorem fdiv2 (s : Int) : s.fdiv 2 = s / 2 := Int.fdiv_eq_ediv_of_nonneg s (by decide)
theorem fmod2 (s : Int) : s.fmod 2 = s % 2 := Int.fmod_eq_emod_of_nonneg s (by decide)
/-- the loop of _law_told keeps the normal form -/
def TInv (s0 p0 s p : Int) : Prop := 0 < s ∧ tM s = tM s0 ∧ tE s p = tE s0 p0
theorem tinv_start (s p : Int) (h : 0 < s) : TInv s p s p := ⟨h, rfl, rfl⟩
theorem tinv_turn {s0 p0 s p : Int} (h : TInv s0 p0 s p) (he : s.fmod 2 = 0) : TInv s0 p0 (s.fdiv 2) (p + 1) := by
  obtain ⟨h0, hm, hp⟩ := h
  rw [fmod2] at he
  rw [fdiv2]
  obtain ⟨q, k, hq, _, _, _⟩ := told_split (s / 2) p (by omega)
  have h2 : s.natAbs = 2 ^ (k + 1) * (2 * q + 1) := by
    rw [Nat.pow_succ, Nat.mul_comm (2 ^ k) 2, Nat.mul_assoc, ← hq]; omega
  obtain ⟨a1, a2, _⟩ := told_is (s / 2) (p + 1) q k hq
  obtain ⟨b1, b2, _⟩ := told_is s p q (k + 1) h2
  refine ⟨by omega, by rw [a1, ← hm, b1], by rw [a2, ← hp, b2]; omega⟩
theorem tinv_less {s0 p0 s p : Int} (h : TInv s0 p0 s p) : (s.fdiv 2).toNat < s.toNat := by
  obtain ⟨h0, _⟩ := h
  rw [fdiv2]; omega
theorem tinv_end {v p0 s p : Int} (h : TInv (if v < 0 then -v else v) p0 s p) (ho : s.fmod 2 ≠ 0) : s = tM v ∧ p = tE v p0 ∧ bl s = tB v := by
  obtain ⟨h0, hm, hp⟩ := h
  rw [fmod2] at ho
  have e : tM (if v < 0 then -v else v) = tM v ∧ tE (if v < 0 then -v else v) p0 = tE v p0 := by
    split
    · unfold tM tE; rw [Int.natAbs_neg]; refine ⟨rfl, ?_⟩; rw [if_neg (by omega), if_neg (by omega)]
    · exact ⟨rfl, rfl⟩
  obtain ⟨a1, a2, a3⟩ := told_is s p (s / 2).toNat 0 (by rw [Nat.pow_zero]; omega)
  have : tM s = s := by rw [a1]; omega
  refine ⟨by rw [← e.1, ← hm, this], by rw [← e.2, ← hp, a2]; omega, ?_⟩
  rw [tB, ← e.1, ← hm, this]
section
variable (w : World) (mean : ExcName → Option Value) (mg mb : Str → Option Value)
theorem told_c (v p : Int) (t1 t2 : Tok) (news : Led) :
    Cl w mean mg mb 1 256 news [.int v t1, .int p t2] (R4 (hd.heap_39 w.params) (tS v) (tM v) (tE v p) (tB v)) := by
  dsimp only [Cl, PR]
  k_fill
  intro dp un gd cn cs a ccd cl outer A₀ base h₀ L m s Q E B F X N T hk hd hu hret
  k_with "exec While Compare cons nil" => k_while_given ["size!", "power!"] (fun s0 p0 _ size power => TInv s0 p0 size power) (fun _ _ _ size _ => size.toNat) "size" "power"
  k_with "state" => first | exact tinv_turn (by assumption) (by assumption) | exact tinv_start _ _ (by omega)
  k_with "measure" => exact tinv_less (by assumption)
  tb_rel
  · ktn_open; (obtain rfl : v = 0 := by assumption); exact told0
  · obtain ⟨e1, e2, e3⟩ := tinv_end (by assumption) (by assumption)
    ktn_open
    exact ⟨(by rw [tS, if_pos (by assumption)]), e1, e2, e3⟩
  · obtain ⟨e1, e2, e3⟩ := tinv_end (by assumption) (by assumption)
    ktn_open
    exact ⟨(by rw [tS, if_neg (by assumption)]), e1, e2, e3⟩
end
end
section
local macro_rules | `(tactic| walk_at "call ref cons nil") => `(tactic| (k_here; (with_reducible show wpAny _ _ (call (Value.ref 256) _) _ _ _); k_dflt (refine' use (told_c _ _ _ _ _ _ _ _ _) ?k1 ?k2 ?k3 ?k4 ?k5 ?kK ?kd ?ku ?_; tb_start;  intro x9 a9 b9 c9 d9 tl9 h9 tk9 F9 N9 ht9 T9; (try dsimp only); (try k_fold))))
theorem told_back (v p : Int) : let u := if v < 0 then -tM v else tM v
    tS u = tS v ∧ tM u = tM v ∧ tE u (tE v p) = tE v p ∧ tB u = tB v := by
  intro u
  have hu : u = sgnd (tS v) (tM v) := by
    show (if v < 0 then -tM v else tM v) = _
    unfold sgnd tS
    split <;> simp
  rw [hu]
  by_cases h : v = 0
  · have f := (told_facts v p).2.2.2.1 h
    subst h
    have e : sgnd (tS 0) (tM 0) = 0 := by rw [f.1, f.2.1]; rfl
    rw [e]
    exact ⟨rfl, rfl, rfl, rfl⟩
  · obtain ⟨k, e, t⟩ := told_val v p h
    have := told_eq (sgnd (tS v) (tM v)) v (tE v p) p k 0 (by rw [← e]; simp) (by omega)
    exact this
section
variable (w : World) (mean : ExcName → Option Value) (mg mb : Str → Option Value)
theorem told2_c (v p : Int) (t1 t2 : Tok) (news : Led) :
    Cl w mean mg mb 1 256 news [.int (if v < 0 then -tM v else tM v) t1, .int (tE v p) t2] (R4 (hd.heap_39 w.params) (tS v) (tM v) (tE v p) (tB v)) := by
  have C := told_c w mean mg mb (if v < 0 then -tM v else tM v) (tE v p) t1 t2 news
  obtain ⟨a, b, c, d⟩ := told_back v p
  rw [a, b, c, d] at C
  exact C
end
end
section
local macro_rules | `(tactic| walk_at "no such step") => `(tactic| fail)
section
variable (w : World) (mean : ExcName → Option Value) (mg mb : Str → Option Value)
theorem whole110_c (A B : Int) (t1 t2 t3 : Tok) (news : Led) (h0 : 0 < B) (hB : B < 9223372036854775808) :
    Cl w mean mg mb 1 263 news [.int A t1, .int B t2, .str ⟨#[110]⟩ t3] (RI (rW 110 A B)) := by
  dsimp only [Cl, PR]
  k_fill
  intro dp un gd cn cs a ccd cl outer A₀ base h₀ L m s Q E B F X N T hk hd hu hret
  tb_rel
  all_goals (ktn_open; unfold rW; (repeat' split) <;> omega)
theorem whole102_c (A B : Int) (t1 t2 t3 : Tok) (news : Led) (h0 : 0 < B) (hB : B < 9223372036854775808) :
    Cl w mean mg mb 1 263 news [.int A t1, .int B t2, .str ⟨#[102]⟩ t3] (RI (rW 102 A B)) := by
  dsimp only [Cl, PR]
  k_fill
  intro dp un gd cn cs a ccd cl outer A₀ base h₀ L m s Q E B F X N T hk hd hu hret
  tb_rel
  all_goals (ktn_open; unfold rW; (repeat' split) <;> omega)
theorem whole99_c (A B : Int) (t1 t2 t3 : Tok) (news : Led) (h0 : 0 < B) (hB : B < 9223372036854775808) :
    Cl w mean mg mb 1 263 news [.int A t1, .int B t2, .str ⟨#[99]⟩ t3] (RI (rW 99 A B)) := by
  dsimp only [Cl, PR]
  k_fill
  intro dp un gd cn cs a ccd cl outer A₀ base h₀ L m s Q E B F X N T hk hd hu hret
  tb_rel
  all_goals (ktn_open; unfold rW; (repeat' split) <;> omega)
theorem whole117_c (A B : Int) (t1 t2 t3 : Tok) (news : Led) (h0 : 0 < B) (hB : B < 9223372036854775808) :
    Cl w mean mg mb 1 263 news [.int A t1, .int B t2, .str ⟨#[117]⟩ t3] (RI (rW 117 A B)) := by
  dsimp only [Cl, PR]
  k_fill
  intro dp un gd cn cs a ccd cl outer A₀ base h₀ L m s Q E B F X N T hk hd hu hret
  tb_rel
  all_goals (ktn_open; unfold rW; (repeat' split) <;> omega)
theorem whole100_c (A B : Int) (t1 t2 t3 : Tok) (news : Led) (h0 : 0 < B) (hB : B < 9223372036854775808) :
    Cl w mean mg mb 1 263 news [.int A t1, .int B t2, .str ⟨#[100]⟩ t3] (RI (rW 100 A B)) := by
  dsimp only [Cl, PR]
  k_fill
  intro dp un gd cn cs a ccd cl outer A₀ base h₀ L m s Q E B F X N T hk hd hu hret
  tb_rel
  all_goals (ktn_open; unfold rW; (repeat' split) <;> omega)
end
end
section
local macro_rules | `(tactic| walk_at "no such step") => `(tactic| fail)
local macro_rules | `(tactic| walk_at "call ref cons nil") => `(tactic| (k_here; (with_reducible show wpAny _ _ (call (Value.ref 21) _) _ _ _); k_dflt (refine' use (trailing_c _ _ _ _ _ _ _ ?p1) ?k1 ?k2 ?k3 ?k4 ?k5 ?kK ?kd ?ku ?_; tb_start; (case p1 => omega); intro t9 h9 tk9 F9 N9; (try dsimp only); (try k_fold))))
section
variable (w : World) (mean : ExcName → Option Value) (mg mb : Str → Option Value)
theorem norm0_c (sg mn ex bc pr : Int) (t1 t2 t3 t4 t5 : Tok) (rv : Value) (news : Led) (h0 : 0 ≤ mn) (hs : sg = 0 ∨ sg = 1) (hb : bc = bl mn) (hp : bc ≤ pr) :
    Cl w mean mg mb 2 46 news [.int sg t1, .int mn t2, .int ex t3, .int bc t4, .int pr t5, rv] (R4 (hd.heap_39 w.params) (tS (sgnd sg mn)) (tM (sgnd sg mn)) (tE (sgnd sg mn) ex) (tB (sgnd sg mn))) := by
  dsimp only [Cl, PR]
  k_fill
  intro dp un gd cn cs a ccd cl outer A₀ base h₀ L m s Q E B F X N T hk hd hu hret
  tb_rel
  · ktn_open; exact fin_odd1 hs (by assumption)
  · ktn_open; exact fin_odd hs (by omega) (by assumption) (.inl hb)
  · ktn_open; exact fin_even1 hs (by omega) (by assumption)
  · ktn_open; exact fin_even hs (by omega) (by assumption) (.inl hb)
  · ktn_open
    have hz : sgnd sg mn = 0 := by unfold sgnd; split <;> omega
    rw [hz]; exact told0
theorem normdn0_c (mn ex bc pr : Int) (t1 t2 t3 t4 t5 t6 : Tok) (news : Led) (h0 : 0 < mn) (hb : bc = bl mn) (hp1 : 1 ≤ pr) (hp : pr < bc) (hbc : bc ≤ 64) :
    Cl w mean mg mb 2 46 news [.int 0 t1, .int mn t2, .int ex t3, .int bc t4, .int pr t5, .str ⟨#[102]⟩ t6] (R4 (hd.heap_39 w.params) (tS (sgnd 0 (mn.fdiv (2 ^ (bc - pr).toNat)))) (tM (sgnd 0 (mn.fdiv (2 ^ (bc - pr).toNat)))) (tE (sgnd 0 (mn.fdiv (2 ^ (bc - pr).toNat))) (ex + (bc - pr))) (tB (sgnd 0 (mn.fdiv (2 ^ (bc - pr).toNat))))) := by
  dsimp only [Cl, PR]
  k_fill
  intro dp un gd cn cs a ccd cl outer A₀ base h₀ L m s Q E B F X N T hk hd hu hret
  obtain ⟨r1, r2, r3, r4, r5, r6⟩ := cut_rng h0 hb hp1 hp
  have hs : (0 : Int) = 0 ∨ (0 : Int) = 1 := by decide
  have hR : 0 < (mn.fdiv (2 ^ (bc - pr).toNat)) := by omega
  have hB := rng_bl (r := (mn.fdiv (2 ^ (bc - pr).toNat))) hp1 (by omega) (by omega)
  clear r1 r2 r3 r4 r5 r6 hb
  tb_rel
  · ktn_open; exact fin_odd1 hs (by assumption)
  · ktn_open; exact fin_odd hs hR (by assumption) hB
  · ktn_open; exact fin_even1 hs hR (by assumption)
  · ktn_open; exact fin_even hs hR (by assumption) hB
  · exfalso; omega
theorem normdn1_c (mn ex bc pr : Int) (t1 t2 t3 t4 t5 t6 : Tok) (news : Led) (h0 : 0 < mn) (hb : bc = bl mn) (hp1 : 1 ≤ pr) (hp : pr < bc) (hbc : bc ≤ 64) :
    Cl w mean mg mb 2 46 news [.int 1 t1, .int mn t2, .int ex t3, .int bc t4, .int pr t5, .str ⟨#[99]⟩ t6] (R4 (hd.heap_39 w.params) (tS (sgnd 1 (mn.fdiv (2 ^ (bc - pr).toNat)))) (tM (sgnd 1 (mn.fdiv (2 ^ (bc - pr).toNat)))) (tE (sgnd 1 (mn.fdiv (2 ^ (bc - pr).toNat))) (ex + (bc - pr))) (tB (sgnd 1 (mn.fdiv (2 ^ (bc - pr).toNat))))) := by
  dsimp only [Cl, PR]
  k_fill
  intro dp un gd cn cs a ccd cl outer A₀ base h₀ L m s Q E B F X N T hk hd hu hret
  obtain ⟨r1, r2, r3, r4, r5, r6⟩ := cut_rng h0 hb hp1 hp
  have hs : (1 : Int) = 0 ∨ (1 : Int) = 1 := by decide
  have hR : 0 < (mn.fdiv (2 ^ (bc - pr).toNat)) := by omega
  have hB := rng_bl (r := (mn.fdiv (2 ^ (bc - pr).toNat))) hp1 (by omega) (by omega)
  clear r1 r2 r3 r4 r5 r6 hb
  tb_rel
  · ktn_open; exact fin_odd1 hs (by assumption)
  · ktn_open; exact fin_odd hs hR (by assumption) hB
  · ktn_open; exact fin_even1 hs hR (by assumption)
  · ktn_open; exact fin_even hs hR (by assumption) hB
  · exfalso; omega
theorem normup0_c (mn ex bc pr : Int) (t1 t2 t3 t4 t5 t6 : Tok) (news : Led) (h0 : 0 < mn) (hb : bc = bl mn) (hp1 : 1 ≤ pr) (hp : pr < bc) (hbc : bc ≤ 64) :
    Cl w mean mg mb 2 46 news [.int 0 t1, .int mn t2, .int ex t3, .int bc t4, .int pr t5, .str ⟨#[99]⟩ t6] (R4 (hd.heap_39 w.params) (tS (sgnd 0 (-(-mn).fdiv (2 ^ (bc - pr).toNat)))) (tM (sgnd 0 (-(-mn).fdiv (2 ^ (bc - pr).toNat)))) (tE (sgnd 0 (-(-mn).fdiv (2 ^ (bc - pr).toNat))) (ex + (bc - pr))) (tB (sgnd 0 (-(-mn).fdiv (2 ^ (bc - pr).toNat))))) := by
  dsimp only [Cl, PR]
  k_fill
  intro dp un gd cn cs a ccd cl outer A₀ base h₀ L m s Q E B F X N T hk hd hu hret
  obtain ⟨r1, r2, r3, r4, r5, r6⟩ := cut_rng h0 hb hp1 hp
  have hs : (0 : Int) = 0 ∨ (0 : Int) = 1 := by decide
  have hR : 0 < (-(-mn).fdiv (2 ^ (bc - pr).toNat)) := by omega
  have hB := rng_bl (r := (-(-mn).fdiv (2 ^ (bc - pr).toNat))) hp1 (by omega) (by omega)
  clear r1 r2 r3 r4 r5 r6 hb
  tb_rel
  · ktn_open; exact fin_odd1 hs (by assumption)
  · ktn_open; exact fin_odd hs hR (by assumption) hB
  · ktn_open; exact fin_even1 hs hR (by assumption)
  · ktn_open; exact fin_even hs hR (by assumption) hB
  · exfalso; omega
theorem normup1_c (mn ex bc pr : Int) (t1 t2 t3 t4 t5 t6 : Tok) (news : Led) (h0 : 0 < mn) (hb : bc = bl mn) (hp1 : 1 ≤ pr) (hp : pr < bc) (hbc : bc ≤ 64) :
    Cl w mean mg mb 2 46 news [.int 1 t1, .int mn t2, .int ex t3, .int bc t4, .int pr t5, .str ⟨#[102]⟩ t6] (R4 (hd.heap_39 w.params) (tS (sgnd 1 (-(-mn).fdiv (2 ^ (bc - pr).toNat)))) (tM (sgnd 1 (-(-mn).fdiv (2 ^ (bc - pr).toNat)))) (tE (sgnd 1 (-(-mn).fdiv (2 ^ (bc - pr).toNat))) (ex + (bc - pr))) (tB (sgnd 1 (-(-mn).fdiv (2 ^ (bc - pr).toNat))))) := by
  dsimp only [Cl, PR]
  k_fill
  intro dp un gd cn cs a ccd cl outer A₀ base h₀ L m s Q E B F X N T hk hd hu hret
  obtain ⟨r1, r2, r3, r4, r5, r6⟩ := cut_rng h0 hb hp1 hp
  have hs : (1 : Int) = 0 ∨ (1 : Int) = 1 := by decide
  have hR : 0 < (-(-mn).fdiv (2 ^ (bc - pr).toNat)) := by omega
  have hB := rng_bl (r := (-(-mn).fdiv (2 ^ (bc - pr).toNat))) hp1 (by omega) (by omega)
  clear r1 r2 r3 r4 r5 r6 hb
  tb_rel
  · ktn_open; exact fin_odd1 hs (by assumption)
  · ktn_open; exact fin_odd hs hR (by assumption) hB
  · ktn_open; exact fin_even1 hs hR (by assumption)
  · ktn_open; exact fin_even hs hR (by assumption) hB
  · exfalso; omega
end
end
section
local macro_rules | `(tactic| walk_at "call ref cons nil") => `(tactic| (k_here; (with_reducible show wpAny _ _ (call (Value.ref 21) _) _ _ _); k_dflt (refine' use (trailing_c _ _ _ _ _ _ _ ?p1) ?k1 ?k2 ?k3 ?k4 ?k5 ?kK ?kd ?ku ?_; tb_start; (case p1 => omega); intro t9 h9 tk9 F9 N9; (try dsimp only); (try k_fold))))
section
variable (w : World) (mean : ExcName → Option Value) (mg mb : Str → Option Value)
theorem normn_c (sg mn ex bc pr : Int) (t1 t2 t3 t4 t5 t6 : Tok) (news : Led) (hs : sg = 0 ∨ sg = 1) (h0 : 0 < mn) (hb : bc = bl mn) (hp1 : 1 ≤ pr) (hp : pr < bc) (hbc : bc ≤ 64) :
    Cl w mean mg mb 2 46 news [.int sg t1, .int mn t2, .int ex t3, .int bc t4, .int pr t5, .str ⟨#[110]⟩ t6] (R4 (hd.heap_39 w.params) (tS (sgnd sg (rW 110 mn (2 ^ (bc - pr).toNat)))) (tM (sgnd sg (rW 110 mn (2 ^ (bc - pr).toNat)))) (tE (sgnd sg (rW 110 mn (2 ^ (bc - pr).toNat))) (ex + (bc - pr))) (tB (sgnd sg (rW 110 mn (2 ^ (bc - pr).toNat))))) := by
  dsimp only [Cl, PR]
  k_fill
  intro dp un gd cn cs a ccd cl outer A₀ base h₀ L m s Q E B F X N T hk hd hu hret
  obtain ⟨r1, r2, r3, r4, r5, r6⟩ := cut_rng h0 hb hp1 hp
  obtain ⟨n1, n2, n3, n4, n5⟩ := near mn (bc - pr) (by omega)
  have hR0 : 0 < (mn.fdiv (2 ^ (bc - pr - 1).toNat)).fdiv (2 ^ Int.toNat 1) := by omega
  have hB0 := rng_bl (r := (mn.fdiv (2 ^ (bc - pr - 1).toNat)).fdiv (2 ^ Int.toNat 1)) hp1 (by omega) (by omega)
  have hB1 := rng_bl (r := (mn.fdiv (2 ^ (bc - pr - 1).toNat)).fdiv (2 ^ Int.toNat 1) + 1) hp1 (by omega) (by omega)
  have hR1 : 0 < (mn.fdiv (2 ^ (bc - pr - 1).toNat)).fdiv (2 ^ Int.toNat 1) + 1 := by omega
  clear r1 r2 r3 r4 r5 r6 hb n5
  revert n1 n2 n3 n4
  intro n1 n2 n3 n4
  have m1 := PySem.Flt.Hid.mk n1
  have m2 := PySem.Flt.Hid.mk n2
  have m3 := PySem.Flt.Hid.mk n3
  have m4 := PySem.Flt.Hid.mk n4
  have m5 := PySem.Flt.Hid.mk hB0
  have m6 := PySem.Flt.Hid.mk hB1
  clear n1 n2 n3 n4 hB0 hB1
  tb_rel
  all_goals first
    | (ktn_open; first
      | (rw [← m1.out (by assumption) (by assumption) ]; first | exact fin_odd1 hs (by assumption) | exact fin_odd hs hR1 (by assumption) m6.out | exact fin_even1 hs hR1 (by assumption) | exact fin_even hs hR1 (by assumption) m6.out)
      | (rw [← m2.out (by assumption) (by assumption) ]; first | exact fin_odd1 hs (by assumption) | exact fin_odd hs hR1 (by assumption) m6.out | exact fin_even1 hs hR1 (by assumption) | exact fin_even hs hR1 (by assumption) m6.out)
      | (rw [← m3.out (by assumption) (by assumption) (by assumption) ]; first | exact fin_odd1 hs (by assumption) | exact fin_odd hs hR0 (by assumption) m5.out | exact fin_even1 hs hR0 (by assumption) | exact fin_even hs hR0 (by assumption) m5.out)
      | (rw [← m4.out (by assumption) ]; first | exact fin_odd1 hs (by assumption) | exact fin_odd hs hR0 (by assumption) m5.out | exact fin_even1 hs hR0 (by assumption) | exact fin_even hs hR0 (by assumption) m5.out))
    | (exfalso; omega)
end
end
section
local macro_rules | `(tactic| walk_at "call ref cons nil") => `(tactic| (k_here; (with_reducible show wpAny _ _ (call (Value.ref 21) _) _ _ _); k_dflt (refine' use (trailing_c _ _ _ _ _ _ _ ?p1) ?k1 ?k2 ?k3 ?k4 ?k5 ?kK ?kd ?ku ?_; tb_start; (case p1 => omega); intro t9 h9 tk9 F9 N9; (try dsimp only); (try k_fold))))
-- a call by a contract at hand
local macro_rules | `(tactic| walk_at "call ref cons nil") => `(tactic| (k_here; k_dflt (refine' use ?cC ?k1 ?k2 ?k3 ?k4 ?k5 ?kK ?kd ?ku ?_; (case cC => with_reducible assumption); tb_start; intro x9 a9 b9 c9 d9 tl9 h9 tk9 F9 N9 ht9 T9; (try dsimp only); (try k_fold))))
section
variable (w : World) (mean : ExcName → Option Value) (mg mb : Str → Option Value)
theorem nz_of (sg mn ex bc pr : Int) (t1 t2 t3 t4 t5 : Tok) (rv : Value) (news : Led) (a' b' c' d' : Int) (h0 : 0 ≤ mn) (hb : bc = bl mn)
    (C : Cl w mean mg mb 2 46 news [.int sg t1, .int mn t2, .int ex t3, .int bc t4, .int pr t5, rv] (R4 (hd.heap_39 w.params) a' b' c' d')) :
    Cl w mean mg mb 4 53 news [.int sg t1, .int mn t2, .int ex t3, .int bc t4, .int pr t5, rv] (R4 (hd.heap_39 w.params) a' b' c' d') := by
  unfold bl at hb
  dsimp only [Cl, PR]
  k_fill
  intro dp un gd cn cs a ccd cl outer A₀ base h₀ L m s Q E B F X N T hk hd hu hret
  tb_rel
  all_goals first | (ktn_open; exact ⟨rfl, rfl, rfl, rfl⟩) | (exfalso; omega)
theorem pos_of (x : Addr) (sg mn ex bc pr : Int) (t1 t2 t3 t4 t5 : Tok) (rv : Value) (news : Led) (a' b' c' d' : Int) (hT : TupI (hd.heap_39 w.params) news x [.int sg t1, .int mn t2, .int ex t3, .int bc t4]) (hz : mn = 0 → ex = 0) (hp : pr ≠ 0)
    (C : Cl w mean mg mb 4 53 news [.int sg t1, .int mn t2, .int ex t3, .int bc t4, .int pr t5, rv] (R4 (hd.heap_39 w.params) a' b' c' d')) :
    Cl w mean mg mb 6 196 news [.ref x, .int pr t5, rv] (R4 (hd.heap_39 w.params) a' b' c' d') := by
  dsimp only [Cl, PR]
  k_fill
  intro dp un gd cn cs a ccd cl outer A₀ base h₀ L m s Q E B F X N T hk hd hu hret
  tb_rel
  all_goals first | (ktn_open; exact ⟨rfl, rfl, rfl, rfl⟩) | (exfalso; omega)
end
end
section
local macro_rules | `(tactic| walk_at "call ref cons nil") => `(tactic| (k_here; (with_reducible show wpAny _ _ (call (Value.ref 21) _) _ _ _); k_dflt (refine' use (trailing_c _ _ _ _ _ _ _ ?p1) ?k1 ?k2 ?k3 ?k4 ?k5 ?kK ?kd ?ku ?_; tb_start; (case p1 => omega); intro t9 h9 tk9 F9 N9; (try dsimp only); (try k_fold))))
section
variable (w : World) (mean : ExcName → Option Value) (mg mb : Str → Option Value)
theorem ri102_of (x : Addr) (sg mn ex bc : Int) (t1 t2 t3 t4 t5 : Tok) (news : Led) (a' b' c' d' : Int) (hT : TupI (hd.heap_39 w.params) news x [.int sg t1, .int mn t2, .int ex t3, .int bc t4]) (hz : mn = 0 → ex = 0) (hs : sg = 0 ∨ sg = 1)
    (e0 : 0 ≤ ex → (sg = a' ∧ mn = b' ∧ ex = c' ∧ bc = d')) (z1 : ex < 0 → ex + bc < 1 → sg = 1 → (1 = a' ∧ 1 = b' ∧ 0 = c' ∧ 1 = d')) (z0 : ex < 0 → ex + bc < 1 → sg = 0 → (0 = a' ∧ 0 = b' ∧ 0 = c' ∧ 0 = d'))
    (C : ex < 0 → 1 ≤ ex + bc → ∀ (pr : Int) (t : Tok), pr = ex + bc → Cl w mean mg mb 6 196 news [.ref x, .int pr t, .str ⟨#[102]⟩ t5] (R4 (hd.heap_39 w.params) a' b' c' d')) :
    Cl w mean mg mb 7 92 news [.ref x, .str ⟨#[102]⟩ t5] (R4 (hd.heap_39 w.params) a' b' c' d') := by
  dsimp only [Cl, PR]
  k_fill
  intro dp un gd cn cs a ccd cl outer A₀ base h₀ L m s Q E B F X N T hk hd hu hret
  tb_rel
  all_goals first
    | (exfalso; omega)
    | (ktn_open; first | exact e0 (by omega) | exact z1 (by omega) (by omega) (by omega) | exact z0 (by omega) (by omega) (by omega))
    | (k_dflt (refine' use (C (by omega) (by omega) _ _ (by split <;> omega)) ?k1 ?k2 ?k3 ?k4 ?k5 ?kK ?kd ?ku ?_; (case k1 => k_asm); (case k2 => k_asm); (case k3 => k_asm); (case k4 => k_asm); (case k5 => k_asm); (case kK => first | exact rfl | assumption); (case kd => ktr_room); (case ku => ktr_units); intro x9 a9 b9 c9 d9 tl9 h9 tk9 F9 N9 ht9 T9; (try dsimp only); (try k_fold)); k_steps; ktn_open; exact ⟨rfl, rfl, rfl, rfl⟩)
theorem ri99_of (x : Addr) (sg mn ex bc : Int) (t1 t2 t3 t4 t5 : Tok) (news : Led) (a' b' c' d' : Int) (hT : TupI (hd.heap_39 w.params) news x [.int sg t1, .int mn t2, .int ex t3, .int bc t4]) (hz : mn = 0 → ex = 0) (hs : sg = 0 ∨ sg = 1)
    (e0 : 0 ≤ ex → (sg = a' ∧ mn = b' ∧ ex = c' ∧ bc = d')) (z1 : ex < 0 → ex + bc < 1 → sg = 1 → (0 = a' ∧ 0 = b' ∧ 0 = c' ∧ 0 = d')) (z0 : ex < 0 → ex + bc < 1 → sg = 0 → (0 = a' ∧ 1 = b' ∧ 0 = c' ∧ 1 = d'))
    (C : ex < 0 → 1 ≤ ex + bc → ∀ (pr : Int) (t : Tok), pr = ex + bc → Cl w mean mg mb 6 196 news [.ref x, .int pr t, .str ⟨#[99]⟩ t5] (R4 (hd.heap_39 w.params) a' b' c' d')) :
    Cl w mean mg mb 7 92 news [.ref x, .str ⟨#[99]⟩ t5] (R4 (hd.heap_39 w.params) a' b' c' d') := by
  dsimp only [Cl, PR]
  k_fill
  intro dp un gd cn cs a ccd cl outer A₀ base h₀ L m s Q E B F X N T hk hd hu hret
  tb_rel
  all_goals first
    | (exfalso; omega)
    | (ktn_open; first | exact e0 (by omega) | exact z1 (by omega) (by omega) (by omega) | exact z0 (by omega) (by omega) (by omega))
    | (k_dflt (refine' use (C (by omega) (by omega) _ _ (by split <;> omega)) ?k1 ?k2 ?k3 ?k4 ?k5 ?kK ?kd ?ku ?_; (case k1 => k_asm); (case k2 => k_asm); (case k3 => k_asm); (case k4 => k_asm); (case k5 => k_asm); (case kK => first | exact rfl | assumption); (case kd => ktr_room); (case ku => ktr_units); intro x9 a9 b9 c9 d9 tl9 h9 tk9 F9 N9 ht9 T9; (try dsimp only); (try k_fold)); k_steps; ktn_open; exact ⟨rfl, rfl, rfl, rfl⟩)
theorem ri110_of (x : Addr) (sg mn ex bc : Int) (t1 t2 t3 t4 t5 : Tok) (news : Led) (a' b' c' d' : Int) (hT : TupI (hd.heap_39 w.params) news x [.int sg t1, .int mn t2, .int ex t3, .int bc t4]) (hz : mn = 0 → ex = 0) (hs : sg = 0 ∨ sg = 1)
    (e0 : 0 ≤ ex → (sg = a' ∧ mn = b' ∧ ex = c' ∧ bc = d')) (zz : ex < 0 → (ex + bc < 0 ∨ (ex + bc < 1 ∧ mn = 1)) → (0 = a' ∧ 0 = b' ∧ 0 = c' ∧ 0 = d')) (z1 : ex < 0 → ex + bc = 0 → mn ≠ 1 → sg = 1 → (1 = a' ∧ 1 = b' ∧ 0 = c' ∧ 1 = d')) (z0 : ex < 0 → ex + bc = 0 → mn ≠ 1 → sg = 0 → (0 = a' ∧ 1 = b' ∧ 0 = c' ∧ 1 = d'))
    (C : ex < 0 → 1 ≤ ex + bc → ∀ (pr : Int) (t : Tok), pr = ex + bc → Cl w mean mg mb 6 196 news [.ref x, .int pr t, .str ⟨#[110]⟩ t5] (R4 (hd.heap_39 w.params) a' b' c' d')) :
    Cl w mean mg mb 7 92 news [.ref x, .str ⟨#[110]⟩ t5] (R4 (hd.heap_39 w.params) a' b' c' d') := by
  dsimp only [Cl, PR]
  k_fill
  intro dp un gd cn cs a ccd cl outer A₀ base h₀ L m s Q E B F X N T hk hd hu hret
  tb_rel
  all_goals first
    | (exfalso; omega)
    | (ktn_open; first | exact e0 (by omega) | exact zz (by omega) (by omega) | exact z1 (by omega) (by omega) (by omega) (by omega) | exact z0 (by omega) (by omega) (by omega) (by omega))
    | (k_dflt (refine' use (C (by omega) (by omega) _ _ (by split <;> omega)) ?k1 ?k2 ?k3 ?k4 ?k5 ?kK ?kd ?ku ?_; (case k1 => k_asm); (case k2 => k_asm); (case k3 => k_asm); (case k4 => k_asm); (case k5 => k_asm); (case kK => first | exact rfl | assumption); (case kd => ktr_room); (case ku => ktr_units); intro x9 a9 b9 c9 d9 tl9 h9 tk9 F9 N9 ht9 T9; (try dsimp only); (try k_fold)); k_steps; ktn_open; exact ⟨rfl, rfl, rfl, rfl⟩)
end
end
section
local macro_rules | `(tactic| walk_at "call ref cons nil") => `(tactic| (k_here; (with_reducible show wpAny _ _ (call (Value.ref 21) _) _ _ _); k_dflt (refine' use (trailing_c _ _ _ _ _ _ _ ?p1) ?k1 ?k2 ?k3 ?k4 ?k5 ?kK ?kd ?ku ?_; tb_start; (case p1 => omega); intro t9 h9 tk9 F9 N9; (try dsimp only); (try k_fold))))
section
variable (w : World) (mean : ExcName → Option Value) (mg mb : Str → Option Value)
theorem norm102 (sg mn ex bc pr : Int) (t1 t2 t3 t4 t5 t6 : Tok) (news : Led) (V : Int) (hs : sg = 0 ∨ sg = 1) (h0 : 0 < mn) (hb : bc = bl mn) (hp1 : 1 ≤ pr) (hp : pr < bc) (hbc : bc ≤ 64) (he : ex + (bc - pr) = 0) (hV : V = rW 102 (sgnd sg mn) (2 ^ (bc - pr).toNat)) :
    Cl w mean mg mb 2 46 news [.int sg t1, .int mn t2, .int ex t3, .int bc t4, .int pr t5, .str ⟨#[102]⟩ t6] (R4 (hd.heap_39 w.params) (tS V) (tM V) (tE V 0) (tB V)) := by
  rcases hs with rfl | rfl
  · have C := normdn0_c w mean mg mb mn ex bc pr t1 t2 t3 t4 t5 t6 news h0 hb hp1 hp hbc
    rw [← rW_dn0 _ _ (kbt_pos _), he, ← hV] at C
    exact C
  · have C := normup1_c w mean mg mb mn ex bc pr t1 t2 t3 t4 t5 t6 news h0 hb hp1 hp hbc
    rw [← rW_up1 _ _ (kbt_pos _), he, ← hV] at C
    exact C
theorem norm99 (sg mn ex bc pr : Int) (t1 t2 t3 t4 t5 t6 : Tok) (news : Led) (V : Int) (hs : sg = 0 ∨ sg = 1) (h0 : 0 < mn) (hb : bc = bl mn) (hp1 : 1 ≤ pr) (hp : pr < bc) (hbc : bc ≤ 64) (he : ex + (bc - pr) = 0) (hV : V = rW 99 (sgnd sg mn) (2 ^ (bc - pr).toNat)) :
    Cl w mean mg mb 2 46 news [.int sg t1, .int mn t2, .int ex t3, .int bc t4, .int pr t5, .str ⟨#[99]⟩ t6] (R4 (hd.heap_39 w.params) (tS V) (tM V) (tE V 0) (tB V)) := by
  rcases hs with rfl | rfl
  · have C := normup0_c w mean mg mb mn ex bc pr t1 t2 t3 t4 t5 t6 news h0 hb hp1 hp hbc
    rw [← rW_up0 _ _ (kbt_pos _), he, ← hV] at C
    exact C
  · have C := normdn1_c w mean mg mb mn ex bc pr t1 t2 t3 t4 t5 t6 news h0 hb hp1 hp hbc
    rw [← rW_dn1 _ _ (kbt_pos _), he, ← hV] at C
    exact C
theorem norm110 (sg mn ex bc pr : Int) (t1 t2 t3 t4 t5 t6 : Tok) (news : Led) (V : Int) (hs : sg = 0 ∨ sg = 1) (h0 : 0 < mn) (hb : bc = bl mn) (hp1 : 1 ≤ pr) (hp : pr < bc) (hbc : bc ≤ 64) (he : ex + (bc - pr) = 0) (hV : V = rW 110 (sgnd sg mn) (2 ^ (bc - pr).toNat)) :
    Cl w mean mg mb 2 46 news [.int sg t1, .int mn t2, .int ex t3, .int bc t4, .int pr t5, .str ⟨#[110]⟩ t6] (R4 (hd.heap_39 w.params) (tS V) (tM V) (tE V 0) (tB V)) := by
  have C := normn_c w mean mg mb sg mn ex bc pr t1 t2 t3 t4 t5 t6 news hs h0 hb hp1 hp hbc
  rw [← rW_sg _ _ _ hs (kbt_pos _), he, ← hV] at C
  exact C
theorem round102_c (t5 : Tok) (x : Addr) (v p : Int) (t1 t2 t3 t4 : Tok) (news : Led) (hb : Bd v p) (hT : T4 w news x v p t1 t2 t3 t4) :
    Cl w mean mg mb 7 92 news [.ref x, .str ⟨#[102]⟩ t5] (R4 (hd.heap_39 w.params) (tS (rW 102 (abA v p) (abB p))) (tM (rW 102 (abA v p) (abB p))) (tE (rW 102 (abA v p) (abB p)) 0) (tB (rW 102 (abA v p) (abB p)))) := by
  obtain ⟨f1, f2, f3, f4, f5, f6, f7⟩ := told_facts v p
  have hv : tE v p < 0 → v ≠ 0 := by
    intro h e; have := (f4 e).2.2.1; omega
  have hz : tM v = 0 → tE v p = 0 := by
    intro h
    by_cases e : v = 0
    · exact (f4 e).2.2.1
    · have := (f3 e).1; omega
  refine ri102_of w mean mg mb x _ _ _ _ t1 t2 t3 t4 t5 news _ _ _ _ hT hz f1 (fun h => told_whole 102 v p h) ?_ ?_ ?_
  · intro he h1 hs1
    have hn := hv he
    obtain ⟨lt, w1, w2, w3⟩ := below_one v p hb hn he h1
    have hR := (rW_parts 102 v p hn).2 he
    obtain ⟨s1, s2, s3, s4⟩ := small_pos (tM v) _ (f3 hn).1 lt
    rw [hs1, rW_up1 _ _ (kbt_pos _), s3, show sgnd 1 (- -1) = -1 from rfl] at hR
    rw [hR]; exact ⟨told_m1.1.symm, told_m1.2.1.symm, told_m1.2.2.1.symm, told_m1.2.2.2.symm⟩
  · intro he h1 hs1
    have hn := hv he
    obtain ⟨lt, w1, w2, w3⟩ := below_one v p hb hn he h1
    have hR := (rW_parts 102 v p hn).2 he
    obtain ⟨s1, s2, s3, s4⟩ := small_pos (tM v) _ (f3 hn).1 lt
    rw [hs1, rW_dn0 _ _ (kbt_pos _), s1, show sgnd 0 0 = 0 from rfl] at hR
    rw [hR]; exact told0
  · intro he h1 pr t hpr
    have hn := hv he
    obtain ⟨m0, modd, b1, b2, _, e1, e2, l, u, eb⟩ := parts_bd v p hb hn
    refine pos_of w mean mg mb x _ _ _ _ pr t1 t2 t3 t4 t _ news _ _ _ _ hT hz (by omega) (nz_of w mean mg mb _ _ _ _ pr t1 t2 t3 t4 t _ news _ _ _ _ f2 eb (norm102 w mean mg mb _ _ _ _ pr t1 t2 t3 t4 t t5 news _ f1 m0 eb (by omega) (by omega) (by omega) (by omega) ?_))
    rw [show tB v - pr = -tE v p by omega]
    exact (rW_parts 102 v p hn).2 he
theorem round99_c (t5 : Tok) (x : Addr) (v p : Int) (t1 t2 t3 t4 : Tok) (news : Led) (hb : Bd v p) (hT : T4 w news x v p t1 t2 t3 t4) :
    Cl w mean mg mb 7 92 news [.ref x, .str ⟨#[99]⟩ t5] (R4 (hd.heap_39 w.params) (tS (rW 99 (abA v p) (abB p))) (tM (rW 99 (abA v p) (abB p))) (tE (rW 99 (abA v p) (abB p)) 0) (tB (rW 99 (abA v p) (abB p)))) := by
  obtain ⟨f1, f2, f3, f4, f5, f6, f7⟩ := told_facts v p
  have hv : tE v p < 0 → v ≠ 0 := by
    intro h e; have := (f4 e).2.2.1; omega
  have hz : tM v = 0 → tE v p = 0 := by
    intro h
    by_cases e : v = 0
    · exact (f4 e).2.2.1
    · have := (f3 e).1; omega
  refine ri99_of w mean mg mb x _ _ _ _ t1 t2 t3 t4 t5 news _ _ _ _ hT hz f1 (fun h => told_whole 99 v p h) ?_ ?_ ?_
  · intro he h1 hs1
    have hn := hv he
    obtain ⟨lt, w1, w2, w3⟩ := below_one v p hb hn he h1
    have hR := (rW_parts 99 v p hn).2 he
    obtain ⟨s1, s2, s3, s4⟩ := small_pos (tM v) _ (f3 hn).1 lt
    rw [hs1, rW_dn1 _ _ (kbt_pos _), s1, show sgnd 1 0 = 0 from rfl] at hR
    rw [hR]; exact told0
  · intro he h1 hs1
    have hn := hv he
    obtain ⟨lt, w1, w2, w3⟩ := below_one v p hb hn he h1
    have hR := (rW_parts 99 v p hn).2 he
    obtain ⟨s1, s2, s3, s4⟩ := small_pos (tM v) _ (f3 hn).1 lt
    rw [hs1, rW_up0 _ _ (kbt_pos _), s3, show sgnd 0 (- -1) = 1 from rfl] at hR
    rw [hR]; exact ⟨told_1.1.symm, told_1.2.1.symm, told_1.2.2.1.symm, told_1.2.2.2.symm⟩
  · intro he h1 pr t hpr
    have hn := hv he
    obtain ⟨m0, modd, b1, b2, _, e1, e2, l, u, eb⟩ := parts_bd v p hb hn
    refine pos_of w mean mg mb x _ _ _ _ pr t1 t2 t3 t4 t _ news _ _ _ _ hT hz (by omega) (nz_of w mean mg mb _ _ _ _ pr t1 t2 t3 t4 t _ news _ _ _ _ f2 eb (norm99 w mean mg mb _ _ _ _ pr t1 t2 t3 t4 t t5 news _ f1 m0 eb (by omega) (by omega) (by omega) (by omega) ?_))
    rw [show tB v - pr = -tE v p by omega]
    exact (rW_parts 99 v p hn).2 he
theorem round110_c (t5 : Tok) (x : Addr) (v p : Int) (t1 t2 t3 t4 : Tok) (news : Led) (hb : Bd v p) (hT : T4 w news x v p t1 t2 t3 t4) :
    Cl w mean mg mb 7 92 news [.ref x, .str ⟨#[110]⟩ t5] (R4 (hd.heap_39 w.params) (tS (rW 110 (abA v p) (abB p))) (tM (rW 110 (abA v p) (abB p))) (tE (rW 110 (abA v p) (abB p)) 0) (tB (rW 110 (abA v p) (abB p)))) := by
  obtain ⟨f1, f2, f3, f4, f5, f6, f7⟩ := told_facts v p
  have hv : tE v p < 0 → v ≠ 0 := by
    intro h e; have := (f4 e).2.2.1; omega
  have hz : tM v = 0 → tE v p = 0 := by
    intro h
    by_cases e : v = 0
    · exact (f4 e).2.2.1
    · have := (f3 e).1; omega
  refine ri110_of w mean mg mb x _ _ _ _ t1 t2 t3 t4 t5 news _ _ _ _ hT hz f1 (fun h => told_whole 110 v p h) ?_ ?_ ?_ ?_
  · intro he h1
    have hn := hv he
    obtain ⟨lt, w1, w2, w3⟩ := below_one v p hb hn he (by omega)
    have hR := (rW_parts 110 v p hn).2 he
    obtain ⟨s1, s2, s3, s4⟩ := small_pos (tM v) _ (f3 hn).1 lt
    have hz0 : rW 110 (tM v) (2 ^ (-tE v p).toNat) = 0 := by
      rcases h1 with h1 | ⟨_, h1⟩
      · exact (small_near _ _ (f3 hn).1 lt).1 (w1 h1)
      · exact (small_near _ _ (f3 hn).1 lt).1 (w2 h1)
    rw [rW_sg _ _ _ f1 (kbt_pos _), hz0, show sgnd (tS v) 0 = 0 by unfold sgnd; split <;> rfl] at hR
    rw [hR]; exact told0
  · intro he h1 h2 hs1
    have hn := hv he
    obtain ⟨lt, w1, w2, w3⟩ := below_one v p hb hn he (by omega)
    have hR := (rW_parts 110 v p hn).2 he
    obtain ⟨s1, s2, s3, s4⟩ := small_pos (tM v) _ (f3 hn).1 lt
    rw [rW_sg _ _ _ f1 (kbt_pos _), (small_near _ _ (f3 hn).1 lt).2 (w3 h1 h2), hs1, show sgnd 1 1 = -1 from rfl] at hR
    rw [hR]; exact ⟨told_m1.1.symm, told_m1.2.1.symm, told_m1.2.2.1.symm, told_m1.2.2.2.symm⟩
  · intro he h1 h2 hs1
    have hn := hv he
    obtain ⟨lt, w1, w2, w3⟩ := below_one v p hb hn he (by omega)
    have hR := (rW_parts 110 v p hn).2 he
    obtain ⟨s1, s2, s3, s4⟩ := small_pos (tM v) _ (f3 hn).1 lt
    rw [rW_sg _ _ _ f1 (kbt_pos _), (small_near _ _ (f3 hn).1 lt).2 (w3 h1 h2), hs1, show sgnd 0 1 = 1 from rfl] at hR
    rw [hR]; exact ⟨told_1.1.symm, told_1.2.1.symm, told_1.2.2.1.symm, told_1.2.2.2.symm⟩
  · intro he h1 pr t hpr
    have hn := hv he
    obtain ⟨m0, modd, b1, b2, _, e1, e2, l, u, eb⟩ := parts_bd v p hb hn
    refine pos_of w mean mg mb x _ _ _ _ pr t1 t2 t3 t4 t _ news _ _ _ _ hT hz (by omega) (nz_of w mean mg mb _ _ _ _ pr t1 t2 t3 t4 t _ news _ _ _ _ f2 eb (norm110 w mean mg mb _ _ _ _ pr t1 t2 t3 t4 t t5 news _ f1 m0 eb (by omega) (by omega) (by omega) (by omega) ?_))
    rw [show tB v - pr = -tE v p by omega]
    exact (rW_parts 110 v p hn).2 he
end
end
section
local macro_rules | `(tactic| walk_at "call ref cons nil") => `(tactic| (k_here; (with_reducible show wpAny _ _ (call (Value.ref 21) _) _ _ _); k_dflt (refine' use (trailing_c _ _ _ _ _ _ _ ?p1) ?k1 ?k2 ?k3 ?k4 ?k5 ?kK ?kd ?ku ?_; tb_start; (case p1 => omega); intro t9 h9 tk9 F9 N9; (try dsimp only); (try k_fold))))
local macro_rules | `(tactic| walk_at "call ref cons nil") => `(tactic| (k_here; (with_reducible show wpAny _ _ (call (Value.ref 92) _) _ _ _); k_dflt (refine' use (round102_c _ _ _ _ _ _ _ _ _ _ _ _ _ ?p1 ?p2) ?k1 ?k2 ?k3 ?k4 ?k5 ?kK ?kd ?ku ?_; tb_start; (case p2 => ktr_rel); (case p1 => with_reducible assumption); intro x9 a9 b9 c9 d9 tl9 h9 tk9 F9 N9 ht9 T9; (try dsimp only); (try k_fold))))
local macro_rules | `(tactic| walk_at "call ref cons nil") => `(tactic| (k_here; (with_reducible show wpAny _ _ (call (Value.ref 92) _) _ _ _); k_dflt (refine' use (round99_c _ _ _ _ _ _ _ _ _ _ _ _ _ ?p1 ?p2) ?k1 ?k2 ?k3 ?k4 ?k5 ?kK ?kd ?ku ?_; tb_start; (case p2 => ktr_rel); (case p1 => with_reducible assumption); intro x9 a9 b9 c9 d9 tl9 h9 tk9 F9 N9 ht9 T9; (try dsimp only); (try k_fold))))
local macro_rules | `(tactic| walk_at "call ref cons nil") => `(tactic| (k_here; (with_reducible show wpAny _ _ (call (Value.ref 92) _) _ _ _); k_dflt (refine' use (round110_c _ _ _ _ _ _ _ _ _ _ _ _ _ ?p1 ?p2) ?k1 ?k2 ?k3 ?k4 ?k5 ?kK ?kd ?ku ?_; tb_start; (case p2 => ktr_rel); (case p1 => with_reducible assumption); intro x9 a9 b9 c9 d9 tl9 h9 tk9 F9 N9 ht9 T9; (try dsimp only); (try k_fold))))
section
variable (w : World) (mean : ExcName → Option Value) (mg mb : Str → Option Value)
theorem floor_c (x : Addr) (v p : Int) (t1 t2 t3 t4 : Tok) (news : Led) (hb : Bd v p) (hT : T4 w news x v p t1 t2 t3 t4) :
    Cl w mean mg mb 8 100 news [.ref x] (R4 (hd.heap_39 w.params) (tS (rW 102 (abA v p) (abB p))) (tM (rW 102 (abA v p) (abB p))) (tE (rW 102 (abA v p) (abB p)) 0) (tB (rW 102 (abA v p) (abB p)))) := by
  dsimp only [Cl, PR]
  k_fill
  intro dp un gd cn cs a ccd cl outer A₀ base h₀ L m s Q E B F X N T hk hd hu hret
  tb_rel
  all_goals first | (ktn_open; exact ⟨rfl, rfl, rfl, rfl⟩) | (exfalso; omega)
theorem ceil_c (x : Addr) (v p : Int) (t1 t2 t3 t4 : Tok) (news : Led) (hb : Bd v p) (hT : T4 w news x v p t1 t2 t3 t4) :
    Cl w mean mg mb 8 108 news [.ref x] (R4 (hd.heap_39 w.params) (tS (rW 99 (abA v p) (abB p))) (tM (rW 99 (abA v p) (abB p))) (tE (rW 99 (abA v p) (abB p)) 0) (tB (rW 99 (abA v p) (abB p)))) := by
  dsimp only [Cl, PR]
  k_fill
  intro dp un gd cn cs a ccd cl outer A₀ base h₀ L m s Q E B F X N T hk hd hu hret
  tb_rel
  all_goals first | (ktn_open; exact ⟨rfl, rfl, rfl, rfl⟩) | (exfalso; omega)
theorem nint_c (x : Addr) (v p : Int) (t1 t2 t3 t4 : Tok) (news : Led) (hb : Bd v p) (hT : T4 w news x v p t1 t2 t3 t4) :
    Cl w mean mg mb 8 116 news [.ref x] (R4 (hd.heap_39 w.params) (tS (rW 110 (abA v p) (abB p))) (tM (rW 110 (abA v p) (abB p))) (tE (rW 110 (abA v p) (abB p)) 0) (tB (rW 110 (abA v p) (abB p)))) := by
  dsimp only [Cl, PR]
  k_fill
  intro dp un gd cn cs a ccd cl outer A₀ base h₀ L m s Q E B F X N T hk hd hu hret
  tb_rel
  all_goals first | (ktn_open; exact ⟨rfl, rfl, rfl, rfl⟩) | (exfalso; omega)
end
end
section
local macro_rules | `(tactic| walk_at "call ref cons nil") => `(tactic| (k_here; (with_reducible show wpAny _ _ (call (Value.ref 21) _) _ _ _); k_dflt (refine' use (trailing_c _ _ _ _ _ _ _ ?p1) ?k1 ?k2 ?k3 ?k4 ?k5 ?kK ?kd ?ku ?_; tb_start; (case p1 => omega); intro t9 h9 tk9 F9 N9; (try dsimp only); (try k_fold))))
section
variable (w : World) (mean : ExcName → Option Value) (mg mb : Str → Option Value)
theorem fixed_c (k : Int) (t5 : Tok) (hk0 : -20 ≤ k) (hk1 : k ≤ 20) (x : Addr) (v p : Int) (t1 t2 t3 t4 : Tok) (news : Led) (hb : Bd v p) (hT : T4 w news x v p t1 t2 t3 t4) :
    Cl w mean mg mb 1 146 news [.ref x, .int k t5] (RI ((abA v p * 2 ^ (if k > 0 then k else 0).toNat).fdiv (abB p * 2 ^ (if -k > 0 then -k else 0).toNat))) := by
  rw [fixed_key v p k]
  obtain ⟨g1, g2, g3, g4, g5, g6, g7, g8⟩ := parts0 v p hb
  obtain ⟨f1, f2, f3, f4, f5, f6, f7⟩ := told_facts v p
  have s1 := (sgnd_of (tS v) (tM v) f1).1
  have s2 := (sgnd_of (tS v) (tM v) f1).2
  clear f3 f4 f5 f6 f7 hb
  dsimp only [Cl, PR]
  k_fill
  intro dp un gd cn cs a ccd cl outer A₀ base h₀ L m s Q E B F X N T hk hd hu hret
  tb_rel
  · ktn_open; rw [if_pos (by assumption), s1 (by assumption)]
  · ktn_open; rw [if_neg (by assumption), s1 (by assumption)]
  · ktn_open; rw [if_pos (by assumption), s2 (by assumption)]
  · ktn_open; rw [if_neg (by assumption), s2 (by assumption)]
end
end
section
local macro_rules | `(tactic| walk_at "no such step") => `(tactic| fail)
local macro_rules | `(tactic| walk_at "call ref cons nil") => `(tactic| (k_here; (with_reducible show wpAny _ _ (call (Value.ref 21) _) _ _ _); k_dflt (refine' use (trailing_c _ _ _ _ _ _ _ ?p1) ?k1 ?k2 ?k3 ?k4 ?k5 ?kK ?kd ?ku ?_; tb_start; (case p1 => omega); intro t9 h9 tk9 F9 N9; (try dsimp only); (try k_fold))))
section
variable (w : World) (mean : ExcName → Option Value) (mg mb : Str → Option Value)
theorem manexp_c (x : Addr) (v p : Int) (t1 t2 t3 t4 : Tok) (news : Led) (hb : Bd v p) (hT : T4 w news x v p t1 t2 t3 t4) :
    Cl w mean mg mb 1 77 news [.ref x, .bool true] (R2 (hd.heap_39 w.params) (if v < 0 then -tM v else tM v) (tE v p)) := by
  obtain ⟨g1, g2, g3, g4, g5, g6, g7, g8⟩ := parts0 v p hb
  obtain ⟨f1, f2, f3, f4, f5, f6, f7⟩ := told_facts v p
  have s1 : tS v ≠ 0 → -tM v = (if v < 0 then -tM v else tM v) := by
    intro h; rw [if_pos (by by_cases q : v < 0 <;> first | exact q | (have := f7 (by omega); omega))]
  have s2 : tS v = 0 → tM v = (if v < 0 then -tM v else tM v) := by
    intro h; rw [if_neg (by intro q; have := f6 q; omega)]
  have gz : tM v ≠ 0 ∨ tE v p = 0 := by
    by_cases e : tM v = 0
    · exact .inr (g8 e).1
    · exact .inl e
  clear f3 f4 f5 f6 f7 hb
  dsimp only [Cl, PR]
  k_fill
  intro dp un gd cn cs a ccd cl outer A₀ base h₀ L m s Q E B F X N T hk hd hu hret
  tb_rel
  all_goals first
    | (ktn_open; first | exact ⟨s1 (by assumption), rfl⟩ | exact ⟨s2 (by assumption), rfl⟩)
    | (exfalso; omega)
end
end
section
local macro_rules | `(tactic| walk_at "call ref cons nil") => `(tactic| (k_here; (with_reducible show wpAny _ _ (call (Value.ref 21) _) _ _ _); k_dflt (refine' use (trailing_c _ _ _ _ _ _ _ ?p1) ?k1 ?k2 ?k3 ?k4 ?k5 ?kK ?kd ?ku ?_; tb_start; (case p1 => omega); intro t9 h9 tk9 F9 N9; (try dsimp only); (try k_fold))))
theorem rat_end {K : Frag} {h₀ h' : Heap} {L x : Addr} {m : Str → Option Value} {news news' : Led} {s : Shared} {Q : Value → Shared → Prop} {tk' : Nat} {v p a b : Int} {t1 t2 : Tok}
    (ret : ∀ a b : Int, a * abB p = b * abA v p → 1 ≤ b → (1 < b → a.fmod 2 ≠ 0) → -9223372036854775808 < a → a < 9223372036854775808 → b < 9223372036854775808 → R2 K a b h₀ L m news s Q)
    (F : Fr h₀ L h' m) (N : News h₀ L h' news') (sub : ∀ p ∈ news, p ∈ news') (T : TupI K news' x [.int a t1, .int b t2])
    (e : a * abB p = b * abA v p ∧ 1 ≤ b ∧ (1 < b → a.fmod 2 ≠ 0) ∧ -9223372036854775808 < a ∧ a < 9223372036854775808 ∧ b < 9223372036854775808) : Q (.ref x) { s with heap := h', toks := tk' } :=
  r2_end (ret a b e.1 e.2.1 e.2.2.1 e.2.2.2.1 e.2.2.2.2.1 e.2.2.2.2.2) F N sub T ⟨rfl, rfl⟩
section
variable (w : World) (mean : ExcName → Option Value) (mg mb : Str → Option Value)
theorem rat_c (x : Addr) (v p : Int) (t1 t2 t3 t4 : Tok) (news : Led) (hb : Bd v p) (hT : T4 w news x v p t1 t2 t3 t4) :
    Cl w mean mg mb 1 139 news [.ref x] (fun h₀ L m news s Q => ∀ a b : Int, a * abB p = b * abA v p → 1 ≤ b → (1 < b → a.fmod 2 ≠ 0) → -9223372036854775808 < a → a < 9223372036854775808 → b < 9223372036854775808 → R2 (hd.heap_39 w.params) a b h₀ L m news s Q) := by
  obtain ⟨g1, g2, g3, g4, g5, g6, g7, g8⟩ := parts0 v p hb
  obtain ⟨f1, f2, f3, f4, f5, f6, f7⟩ := told_facts v p
  have s1 := (sgnd_of (tS v) (tM v) f1).1
  have s2 := (sgnd_of (tS v) (tM v) f1).2
  have r0 := PySem.Flt.Hid.mk fun a b => rat_ok v p a b hb
  clear f3 f4 f5 f6 f7 hb
  dsimp only [Cl, PR]
  k_fill
  intro dp un gd cn cs a ccd cl outer A₀ base h₀ L m s Q E B F X N T hk hd hu hret
  tb_rel
  all_goals (refine' rat_end hret ?eF ?eN ?eS ?eT ?_; (case eF => k_asm); (case eN => k_asm); (case eS => kqd_sub); (case eT => ktr_rel))
  all_goals (refine r0.out _ _ ?_; first
    | (rw [s1 (by assumption)]; first | exact .inl ⟨by omega, rfl, rfl⟩ | exact .inr ⟨by omega, rfl, rfl⟩)
    | (rw [s2 (by assumption)]; first | exact .inl ⟨by omega, rfl, rfl⟩ | exact .inr ⟨by omega, rfl, rfl⟩))
end
end
section
local macro_rules | `(tactic| walk_at "no such step") => `(tactic| fail)
local macro_rules | `(tactic| walk_at "call ref cons nil") => `(tactic| (k_here; (with_reducible show wpAny _ _ (call (Value.ref 21) _) _ _ _); k_dflt (refine' use (trailing_c _ _ _ _ _ _ _ ?p1) ?k1 ?k2 ?k3 ?k4 ?k5 ?kK ?kd ?ku ?_; tb_start; (case p1 => omega); intro t9 h9 tk9 F9 N9; (try dsimp only); (try k_fold))))
section
variable (w : World) (mean : ExcName → Option Value) (mg mb : Str → Option Value)
theorem sgn_c (x : Addr) (v p : Int) (t1 t2 t3 t4 : Tok) (news : Led) (hb : Bd v p) (hT : T4 w news x v p t1 t2 t3 t4) :
    Cl w mean mg mb 1 211 news [.ref x] (RO v) := by
  obtain ⟨g1, g2, g3, g4, g5, g6, g7, g8⟩ := parts0 v p hb
  obtain ⟨f1, f2, f3, f4, f5, f6, f7⟩ := told_facts v p
  unfold T4 at hT
  rcases (by omega : v < 0 ∨ v = 0 ∨ 0 < v) with h | h | h
  · rw [f6 h] at hT
    have hm := (f3 (by omega)).1
    clear f1 f2 f3 f4 f5 f6 f7 g1 g8 hb
    dsimp only [Cl, PR]
    k_fill
    intro dp un gd cn cs a ccd cl outer A₀ base h₀ L m s Q E B F X N T hk hd hu hret
    tb_rel
    all_goals first
      | (refine' ri_end (hret (-1) ?h1 ?h2 ?h3) ?eF ?eN ?eS ?_; (case eF => k_asm); (case eN => k_asm); (case eS => kqd_sub); (case h1 => omega); (case h2 => omega); (case h3 => omega); decide)
      | (exfalso; omega)
  · obtain ⟨z1, z2, z3, z4⟩ := f4 h
    rw [z1, z2, z3, z4] at hT
    clear f1 f2 f3 f4 f5 f6 f7 g1 g2 g3 g4 g5 g6 g7 g8 hb z1 z2 z3 z4
    dsimp only [Cl, PR]
    k_fill
    intro dp un gd cn cs a ccd cl outer A₀ base h₀ L m s Q E B F X N T hk hd hu hret
    tb_rel
    all_goals first
      | (refine' ri_end (hret 0 ?h1 ?h2 ?h3) ?eF ?eN ?eS ?_; (case eF => k_asm); (case eN => k_asm); (case eS => kqd_sub); (case h1 => omega); (case h2 => omega); (case h3 => omega); decide)
      | (exfalso; omega)
  · rw [f7 (by omega)] at hT
    have hm := (f3 (by omega)).1
    clear f1 f2 f3 f4 f5 f6 f7 g1 g8 hb
    dsimp only [Cl, PR]
    k_fill
    intro dp un gd cn cs a ccd cl outer A₀ base h₀ L m s Q E B F X N T hk hd hu hret
    tb_rel
    all_goals first
      | (refine' ri_end (hret 1 ?h1 ?h2 ?h3) ?eF ?eN ?eS ?_; (case eF => k_asm); (case eN => k_asm); (case eS => kqd_sub); (case h1 => omega); (case h2 => omega); (case h3 => omega); decide)
      | (exfalso; omega)
end
end
section
local macro_rules | `(tactic| walk_at "call ref cons nil") => `(tactic| (k_here; (with_reducible show wpAny _ _ (call (Value.ref 21) _) _ _ _); k_dflt (refine' use (trailing_c _ _ _ _ _ _ _ ?p1) ?k1 ?k2 ?k3 ?k4 ?k5 ?kK ?kd ?ku ?_; tb_start; (case p1 => omega); intro t9 h9 tk9 F9 N9; (try dsimp only); (try k_fold))))
theorem fme_odd {sg r p : Int} (hs : sg = 0 ∨ sg = 1) (h0 : 0 < r) (ho : Builtin.bitAnd r 1 ≠ 0) : sg = tS (sgnd sg r) ∧ r = tM (sgnd sg r) ∧ p = tE (sgnd sg r) p ∧ ((Builtin.Int.intBits r : Nat) : Int) = tB (sgnd sg r) := fin_odd hs h0 ho (.inl rfl)
theorem fme_tz {sg r p : Int} (hs : sg = 0 ∨ sg = 1) (h0 : 0 < r) : sg = tS (sgnd sg r) ∧ r.fdiv (2 ^ ((tz r.natAbs : Nat) : Int).toNat) = tM (sgnd sg r) ∧ p + ((tz r.natAbs : Nat) : Int) = tE (sgnd sg r) p ∧ ((Builtin.Int.intBits r : Nat) : Int) - ((tz r.natAbs : Nat) : Int) = tB (sgnd sg r) := by
  obtain ⟨q, hq⟩ := tz_split r.natAbs (by omega)
  have hr : r = 2 ^ (tz r.natAbs) * (2 * (q : Int) + 1) := by
    have e1 : ((r.natAbs : Nat) : Int) = r := by omega
    generalize tz r.natAbs = k at hq
    rw [← e1, hq]; simp
  obtain ⟨a, x, c, d, _, f, g⟩ := fin_at sg r p q _ hs hr
  rw [Int.toNat_natCast, f]
  refine ⟨a, x, c, ?_⟩
  have : bl r = ((Builtin.Int.intBits r : Nat) : Int) := rfl
  rw [← d, ← this, g]; omega
theorem fme_two {sg r p : Int} (hs : sg = 0 ∨ sg = 1) (h0 : 0 < r) (h1 : Builtin.bitAnd r 1 = 0) (h2 : Builtin.bitAnd r 2 ≠ 0) : sg = tS (sgnd sg r) ∧ r.fdiv (2 ^ Int.toNat 1) = tM (sgnd sg r) ∧ p + 1 = tE (sgnd sg r) p ∧ ((Builtin.Int.intBits r : Nat) : Int) - 1 = tB (sgnd sg r) := by
  rw [bitAnd_m1] at h1
  have b2 : Builtin.bitAnd r 2 = (r / 2 % 2) * 2 := by have := kbt_bit r 1; simpa using this
  rw [b2] at h2
  have hr : r = 2 ^ 1 * (2 * (((r / 4).toNat : Nat) : Int) + 1) := by
    rw [show (2 : Int) ^ 1 = 2 from rfl]; omega
  obtain ⟨a, x, c, d, _, f, g⟩ := fin_at sg r p _ 1 hs hr
  have f' : r.fdiv (2 ^ Int.toNat 1) = 2 * (((r / 4).toNat : Nat) : Int) + 1 := f
  rw [f']
  refine ⟨a, x, c, ?_⟩
  have : bl r = ((Builtin.Int.intBits r : Nat) : Int) := rfl
  rw [← d, ← this, g]; omega
theorem fme_oddN {v p : Int} (h0 : 0 < -v) (ho : Builtin.bitAnd (-v) 1 ≠ 0) : 1 = tS v ∧ -v = tM v ∧ p = tE v p ∧ ((Builtin.Int.intBits (-v) : Nat) : Int) = tB v := by
  have h := fme_odd (sg := 1) (r := -v) (p := p) (by decide) h0 ho
  rw [show sgnd 1 (-v) = v by rw [sgnd1, Int.neg_neg]] at h
  exact h
theorem fme_tzN {v p : Int} (h0 : 0 < -v) : 1 = tS v ∧ (-v).fdiv (2 ^ ((tz (-v).natAbs : Nat) : Int).toNat) = tM v ∧ p + ((tz (-v).natAbs : Nat) : Int) = tE v p ∧ ((Builtin.Int.intBits (-v) : Nat) : Int) - ((tz (-v).natAbs : Nat) : Int) = tB v := by
  have h := fme_tz (sg := 1) (r := -v) (p := p) (by decide) h0
  rw [show sgnd 1 (-v) = v by rw [sgnd1, Int.neg_neg]] at h
  exact h
theorem fme_twoN {v p : Int} (h0 : 0 < -v) (h1 : Builtin.bitAnd (-v) 1 = 0) (h2 : Builtin.bitAnd (-v) 2 ≠ 0) : 1 = tS v ∧ (-v).fdiv (2 ^ Int.toNat 1) = tM v ∧ p + 1 = tE v p ∧ ((Builtin.Int.intBits (-v) : Nat) : Int) - 1 = tB v := by
  have h := fme_two (sg := 1) (r := -v) (p := p) (by decide) h0 h1 h2
  rw [show sgnd 1 (-v) = v by rw [sgnd1, Int.neg_neg]] at h
  exact h
section
variable (w : World) (mean : ExcName → Option Value) (mg mb : Str → Option Value)
theorem fme_c (v p : Int) (t1 t2 : Tok) (news : Led) (h0 : -2000000000 < v) (h1 : v < 2000000000) :
    Cl w mean mg mb 2 61 news [.int v t1, .int p t2] (R4 (hd.heap_39 w.params) (tS v) (tM v) (tE v p) (tB v)) := by
  dsimp only [Cl, PR]
  k_fill
  intro dp un gd cn cs a ccd cl outer A₀ base h₀ L m s Q E B F X N T hk hd hu hret
  tb_rel
  all_goals first
    | (exfalso; omega)
    | ((obtain rfl : v = 0 := by omega); ktn_open; exact told0)
    | (ktn_open; first
         | exact fme_oddN (by omega) (by assumption)
         | exact fme_twoN (by omega) (by assumption) (by assumption)
         | exact fme_tzN (by omega))
    | (ktn_open; first
         | exact fme_odd (sg := 0) (by decide) (by omega) (by assumption)
         | exact fme_two (sg := 0) (by decide) (by omega) (by assumption) (by assumption)
         | exact fme_tz (sg := 0) (by decide) (by omega))
end
end
section
local macro_rules | `(tactic| walk_at "call ref cons nil") => `(tactic| (k_here; (with_reducible show wpAny _ _ (call (Value.ref 21) _) _ _ _); k_dflt (refine' use (trailing_c _ _ _ _ _ _ _ ?p1) ?k1 ?k2 ?k3 ?k4 ?k5 ?kK ?kd ?ku ?_; tb_start; (case p1 => omega); intro t9 h9 tk9 F9 N9; (try dsimp only); (try k_fold))))
local macro_rules | `(tactic| walk_at "call ref cons nil") => `(tactic| (k_here; (with_reducible show wpAny _ _ (call (Value.ref 61) _) _ _ _); k_dflt (refine' use (fme_c _ _ _ _ _ _ _ _ _ ?p1 ?p2) ?k1 ?k2 ?k3 ?k4 ?k5 ?kK ?kd ?ku ?_; tb_start; (case p1 => omega); (case p2 => omega); intro x9 a9 b9 c9 d9 tl9 h9 tk9 F9 N9 ht9 T9; (try dsimp only); (try k_fold))))
section
variable (w : World) (mean : ExcName → Option Value) (mg mb : Str → Option Value)
theorem fme4_c (v p : Int) (t1 t2 t3 : Tok) (rv : Value) (news : Led) :
    Cl w mean mg mb 2 61 news [.int v t1, .int p t2, .int 0 t3, rv] (R4 (hd.heap_39 w.params) (tS v) (tM v) (tE v p) (tB v)) := by
  dsimp only [Cl, PR]
  k_fill
  intro dp un gd cn cs a ccd cl outer A₀ base h₀ L m s Q E B F X N T hk hd hu hret
  tb_rel
  all_goals first
    | (exfalso; omega)
    | ((obtain rfl : v = 0 := by omega); ktn_open; exact told0)
    | (ktn_open; first
         | exact fme_oddN (by omega) (by assumption)
         | exact fme_twoN (by omega) (by assumption) (by assumption)
         | exact fme_tzN (by omega))
    | (ktn_open; first
         | exact fme_odd (sg := 0) (by decide) (by omega) (by assumption)
         | exact fme_two (sg := 0) (by decide) (by omega) (by assumption) (by assumption)
         | exact fme_tz (sg := 0) (by decide) (by omega))
end
end
section
local macro_rules | `(tactic| walk_at "call ref cons nil") => `(tactic| (k_here; (with_reducible show wpAny _ _ (call (Value.ref 21) _) _ _ _); k_dflt (refine' use (trailing_c _ _ _ _ _ _ _ ?p1) ?k1 ?k2 ?k3 ?k4 ?k5 ?kK ?kd ?ku ?_; tb_start; (case p1 => omega); intro t9 h9 tk9 F9 N9; (try dsimp only); (try k_fold))))
local macro_rules | `(tactic| walk_at "call ref cons nil") => `(tactic| (k_here; (with_reducible show wpAny _ _ (call (Value.ref 61) _) _ _ _); k_dflt (refine' use (fme_c _ _ _ _ _ _ _ _ _ ?p1 ?p2) ?k1 ?k2 ?k3 ?k4 ?k5 ?kK ?kd ?ku ?_; tb_start; (case p1 => omega); (case p2 => omega); intro x9 a9 b9 c9 d9 tl9 h9 tk9 F9 N9 ht9 T9; (try dsimp only); (try k_fold))))
local macro_rules | `(tactic| walk_at "call ref cons nil") => `(tactic| (k_here; (with_reducible show wpAny _ _ (call (Value.ref 61) _) _ _ _); k_dflt (refine' use (fme4_c _ _ _ _ _ _ _ _ _ _ _) ?k1 ?k2 ?k3 ?k4 ?k5 ?kK ?kd ?ku ?_; tb_start;  intro x9 a9 b9 c9 d9 tl9 h9 tk9 F9 N9 ht9 T9; (try dsimp only); (try k_fold))))
section
variable (w : World) (mean : ExcName → Option Value) (mg mb : Str → Option Value)
theorem fromint_c (v : Int) (t1 : Tok) (news : Led) :
    Cl w mean mg mb 4 69 news [.int v t1] (R4 (hd.heap_39 w.params) (tS v) (tM v) (tE v 0) (tB v)) := by
  dsimp only [Cl, PR]
  k_fill
  intro dp un gd cn cs a ccd cl outer A₀ base h₀ L m s Q E B F X N T hk hd hu hret
  tb_rel
  all_goals first | (ktn_open; exact ⟨rfl, rfl, rfl, rfl⟩)
theorem div_c (x y : Addr) (sg mn ex bc e2 : Int) (t1 t2 t3 t4 u1 u2 u3 u4 t5 : Tok) (rv : Value) (news : Led) (hT : TupI (hd.heap_39 w.params) news x [.int sg t1, .int mn t2, .int ex t3, .int bc t4]) (hU : TupI (hd.heap_39 w.params) news y [.int 0 u1, .int 1 u2, .int e2 u3, .int 1 u4])
    (hs : sg = 0 ∨ sg = 1) (h0 : 0 ≤ mn) (hb : bc = bl mn) (hbc : bc ≤ 60) (hz : mn = 0 → ex = 0 ∧ sg = 0 ∧ bc = 0) :
    Cl w mean mg mb 6 235 news [.ref x, .ref y, .int 60 t5, rv] (R4 (hd.heap_39 w.params) (tS (sgnd sg mn)) (tM (sgnd sg mn)) (tE (sgnd sg mn) (ex - e2)) (tB (sgnd sg mn))) := by
  by_cases hm : mn = 0
  · obtain ⟨z1, z2, z3⟩ := hz hm
    subst hm; subst z1; subst z2; subst z3
    clear hs h0 hb hbc hz
    have e0 : sgnd 0 0 = 0 := rfl
    rw [e0]
    dsimp only [Cl, PR]
    k_fill
    intro dp un gd cn cs a ccd cl outer A₀ base h₀ L m s Q E B F X N T hk hd hu hret
    tb_rel
    all_goals first
      | (ktn_open; exact told0)
      | (exfalso; omega)
  have C := PySem.Flt.Hid.mk fun (t1 t2 t3 t4 t5 : Tok) (news : Led) => nz_of w mean mg mb sg mn (ex - e2) bc 60 t1 t2 t3 t4 t5 rv news _ _ _ _ h0 hb (norm0_c w mean mg mb sg mn (ex - e2) bc 60 t1 t2 t3 t4 t5 rv news h0 hs hb hbc)
  clear hz
  rcases hs with rfl | rfl
  · skip
    dsimp only [Cl, PR]
    k_fill
    intro dp un gd cn cs a ccd cl outer A₀ base h₀ L m s Q E B F X N T hk hd hu hret
    tb_rel
    all_goals first
      | (exfalso; omega)
      | (k_dflt (refine' use (C.out _ _ _ _ _ _) ?k1 ?k2 ?k3 ?k4 ?k5 ?kK ?kd ?ku ?_; (case k1 => k_asm); (case k2 => k_asm); (case k3 => k_asm); (case k4 => k_asm); (case k5 => k_asm); (case kK => first | exact rfl | assumption); (case kd => ktr_room); (case ku => ktr_units); intro x9 a9 b9 c9 d9 tl9 h9 tk9 F9 N9 ht9 T9; (try dsimp only); (try k_fold)); k_steps; ktn_open; exact ⟨rfl, rfl, rfl, rfl⟩)
  · skip
    dsimp only [Cl, PR]
    k_fill
    intro dp un gd cn cs a ccd cl outer A₀ base h₀ L m s Q E B F X N T hk hd hu hret
    tb_rel
    all_goals first
      | (exfalso; omega)
      | (k_dflt (refine' use (C.out _ _ _ _ _ _) ?k1 ?k2 ?k3 ?k4 ?k5 ?kK ?kd ?ku ?_; (case k1 => k_asm); (case k2 => k_asm); (case k3 => k_asm); (case k4 => k_asm); (case k5 => k_asm); (case kK => first | exact rfl | assumption); (case kd => ktr_room); (case ku => ktr_units); intro x9 a9 b9 c9 d9 tl9 h9 tk9 F9 N9 ht9 T9; (try dsimp only); (try k_fold)); k_steps; ktn_open; exact ⟨rfl, rfl, rfl, rfl⟩)
end
end
section
local macro_rules | `(tactic| walk_at "call ref cons nil") => `(tactic| (k_here; (with_reducible show wpAny _ _ (call (Value.ref 21) _) _ _ _); k_dflt (refine' use (trailing_c _ _ _ _ _ _ _ ?p1) ?k1 ?k2 ?k3 ?k4 ?k5 ?kK ?kd ?ku ?_; tb_start; (case p1 => omega); intro t9 h9 tk9 F9 N9; (try dsimp only); (try k_fold))))
local macro_rules | `(tactic| walk_at "call ref cons nil") => `(tactic| (k_here; (with_reducible show wpAny _ _ (call (Value.ref 61) _) _ _ _); k_dflt (refine' use (fme_c _ _ _ _ _ _ _ _ _ ?p1 ?p2) ?k1 ?k2 ?k3 ?k4 ?k5 ?kK ?kd ?ku ?_; tb_start; (case p1 => omega); (case p2 => omega); intro x9 a9 b9 c9 d9 tl9 h9 tk9 F9 N9 ht9 T9; (try dsimp only); (try k_fold))))
local macro_rules | `(tactic| walk_at "call ref cons nil") => `(tactic| (k_here; (with_reducible show wpAny _ _ (call (Value.ref 61) _) _ _ _); k_dflt (refine' use (fme4_c _ _ _ _ _ _ _ _ _ _ _) ?k1 ?k2 ?k3 ?k4 ?k5 ?kK ?kd ?ku ?_; tb_start;  intro x9 a9 b9 c9 d9 tl9 h9 tk9 F9 N9 ht9 T9; (try dsimp only); (try k_fold))))
theorem told_pow (j : Nat) : tS (2 ^ j) = 0 ∧ tM (2 ^ j) = 1 ∧ tE (2 ^ j) 0 = (j : Int) ∧ tB (2 ^ j) = 1 := by
  have h := kbt_pos j
  obtain ⟨a, b, c⟩ := told_is (2 ^ j) 0 0 j (by rw [Int.natAbs_pow]; simp)
  exact ⟨by rw [tS, if_neg (by omega)], a, by rw [b]; omega, by rw [c]; rfl⟩
theorem rat_back (v p : Int) (j : Nat) (hj : (j : Int) = if -p > 0 then -p else 0) :
    tS (sgnd (tS (abA v p)) (tM (abA v p))) = tS v ∧ tM (sgnd (tS (abA v p)) (tM (abA v p))) = tM v ∧ tE (sgnd (tS (abA v p)) (tM (abA v p))) (tE (abA v p) 0 - j) = tE v p ∧ tB (sgnd (tS (abA v p)) (tM (abA v p))) = tB v := by
  by_cases h : v = 0
  · have f := (told_facts 0 0).2.2.2.1 rfl
    subst h
    have e : sgnd (tS (abA 0 p)) (tM (abA 0 p)) = 0 := by rw [abA_zero, f.1, f.2.1]; rfl
    rw [e]
    exact ⟨rfl, rfl, rfl, rfl⟩
  · have hA : abA v p ≠ 0 := fun e => by
      rcases Int.mul_eq_zero.mp e with q | q
      · exact h q
      · have := kbt_pos (if p > 0 then p else 0).toNat; omega
    obtain ⟨k, e, t⟩ := told_val (abA v p) 0 hA
    rw [t]
    refine told_eq _ v _ p k (if p > 0 then p else 0).toNat ?_ ?_
    · rw [← e]
    · rw [hj]; split <;> split <;> omega
section
variable (w : World) (mean : ExcName → Option Value) (mg mb : Str → Option Value)
theorem fromintB_c (v : Int) (j : Nat) (t1 : Tok) (news : Led) (hv : v = 2 ^ j) :
    Cl w mean mg mb 4 69 news [.int v t1] (R4 (hd.heap_39 w.params) 0 1 (j : Int) 1) := by
  have C := fromint_c w mean mg mb v t1 news
  obtain ⟨a, b, c, d⟩ := told_pow j
  rw [hv, a, b, c, d, ← hv] at C
  exact C
end
local macro_rules | `(tactic| walk_at "call ref cons nil") => `(tactic| (k_here; (with_reducible show wpAny _ _ (call (Value.ref 69) _) _ _ _); k_dflt (refine' use (fromint_c _ _ _ _ _ _ _) ?k1 ?k2 ?k3 ?k4 ?k5 ?kK ?kd ?ku ?_; tb_start;  intro x9 a9 b9 c9 d9 tl9 h9 tk9 F9 N9 ht9 T9; (try dsimp only); (try k_fold))))
local macro_rules | `(tactic| walk_at "call ref cons nil") => `(tactic| (k_here; (with_reducible show wpAny _ _ (call (Value.ref 69) _) _ _ _); k_dflt (refine' use (fromintB_c _ _ _ _ _ _ _ _ ?p1) ?k1 ?k2 ?k3 ?k4 ?k5 ?kK ?kd ?ku ?_; tb_start; (case p1 => with_reducible assumption); intro x9 a9 b9 c9 d9 tl9 h9 tk9 F9 N9 ht9 T9; (try dsimp only); (try k_fold))))
local macro_rules | `(tactic| walk_at "call ref cons nil") => `(tactic| (k_here; (with_reducible show wpAny _ _ (call (Value.ref 235) _) _ _ _); k_dflt (refine' use (div_c _ _ _ _ _ _ _ _ _ _ _ _ _ _ _ _ _ _ _ _ _ _ ?p1 ?p2 ?p3 ?p4 ?p5 ?p6 ?p7) ?k1 ?k2 ?k3 ?k4 ?k5 ?kK ?kd ?ku ?_; tb_start; (case p1 => ktr_rel); (case p2 => ktr_rel); (case p3 => with_reducible assumption); (case p4 => with_reducible assumption); (case p5 => with_reducible assumption); (case p6 => with_reducible assumption); (case p7 => with_reducible assumption); intro x9 a9 b9 c9 d9 tl9 h9 tk9 F9 N9 ht9 T9; (try dsimp only); (try k_fold))))
section
variable (w : World) (mean : ExcName → Option Value) (mg mb : Str → Option Value)
theorem fromrat_c (rv : Value) (A B v p : Int) (t1 t2 t3 : Tok) (news : Led) (hb : Bd v p) (hA : A = abA v p) (hB : B = abB p) :
    Cl w mean mg mb 8 132 news [.int A t1, .int B t2, .int 60 t3, rv] (R4 (hd.heap_39 w.params) (tS v) (tM v) (tE v p) (tB v)) := by
  obtain ⟨j, hj⟩ : ∃ j : Nat, (j : Int) = if -p > 0 then -p else 0 := ⟨(if -p > 0 then -p else 0).toNat, by split <;> omega⟩
  have hB' : B = 2 ^ j := by rw [hB]; unfold abB; congr 1; omega
  obtain ⟨r1, r2, r3, r4⟩ := rat_back v p j hj
  rw [← hA] at r1 r2 r3 r4
  obtain ⟨f1, f2, f3, f4, f5, f6, f7⟩ := told_facts A 0
  have hz : tM A = 0 → tE A 0 = 0 ∧ tS A = 0 ∧ tB A = 0 := by
    intro h
    by_cases e : A = 0
    · exact ⟨(f4 e).2.2.1, (f4 e).1, (f4 e).2.2.2⟩
    · have := (f3 e).1; omega
  have hbc : tB A ≤ 60 := by
    have hz : A = 0 ∨ A ≠ 0 := by omega
    rcases hz with e | e
    · have := (f4 e).2.2.2; omega
    · obtain ⟨w1, w2⟩ := abA_bd v p hb
      obtain ⟨q, k, e1, m, _⟩ := told_split A 0 e
      have hm : 2 * q + 1 ≤ A.natAbs := by rw [e1]; exact Nat.le_mul_of_pos_left _ (Nat.two_pow_pos k)
      obtain ⟨i, e2, l, u⟩ := bl_pos (tM A) (f3 e).1
      have eB : tB A = (i : Int) + 1 := e2
      have hi : i ≤ 55 := by
        by_cases hi : i ≤ 55
        · exact hi
        · have h2 := Nat.pow_le_pow_right (n := 2) (by decide) (show 56 ≤ i by omega)
          have h3 : ((2 ^ 56 : Nat) : Int) ≤ ((2 ^ i : Nat) : Int) := by exact_mod_cast h2
          rw [kbt_cast, kbt_cast] at h3
          have : (2 : Int) ^ 56 = 72057594037927936 := by decide
          omega
      omega
  clear f3 f4 f6 f7 hA hB hb
  dsimp only [Cl, PR]
  k_fill
  intro dp un gd cn cs a ccd cl outer A₀ base h₀ L m s Q E B F X N T hk hd hu hret
  tb_rel
  all_goals first
    | (ktn_open; exact ⟨r1, r2, r3, r4⟩)
end
end
section
local macro_rules | `(tactic| walk_at "call ref cons nil") => `(tactic| (k_here; (with_reducible show wpAny _ _ (call (Value.ref 21) _) _ _ _); k_dflt (refine' use (trailing_c _ _ _ _ _ _ _ ?p1) ?k1 ?k2 ?k3 ?k4 ?k5 ?kK ?kd ?ku ?_; tb_start; (case p1 => omega); intro t9 h9 tk9 F9 N9; (try dsimp only); (try k_fold))))
section
variable (w : World) (mean : ExcName → Option Value) (mg mb : Str → Option Value)
theorem rint110p_c (v n : Int) (t1 t2 t3 : Tok) (news : Led) (h0 : 1 ≤ n) (h1 : n ≤ 60) (h2 : 0 ≤ v) :
    Cl w mean mg mb 1 34 news [.int v t1, .int n t2, .str ⟨#[110]⟩ t3] (RI (rW 110 v (2 ^ n.toNat))) := by
  obtain ⟨n1, n2, n3, n4, _⟩ := near v n h0
  have m1 := PySem.Flt.Hid.mk n1
  have m2 := PySem.Flt.Hid.mk n2
  have m3 := PySem.Flt.Hid.mk n3
  have m4 := PySem.Flt.Hid.mk n4
  clear n1 n2 n3 n4
  dsimp only [Cl, PR]
  k_fill
  intro dp un gd cn cs a ccd cl outer A₀ base h₀ L m s Q E B F X N T hk hd hu hret
  tb_rel
  · ktn_open; exact m1.out (by assumption) (by assumption)
  · ktn_open; exact m2.out (by assumption) (by assumption)
  · ktn_open; exact m3.out (by assumption) (by assumption) (by assumption)
  · ktn_open; exact m4.out (by assumption)
theorem rint102_c (v n : Int) (t1 t2 t3 : Tok) (news : Led) (h0 : 1 ≤ n) (h1 : n ≤ 60) :
    Cl w mean mg mb 2 34 news [.int v t1, .int n t2, .str ⟨#[102]⟩ t3] (RI (rW 102 v (2 ^ n.toNat))) := by
  dsimp only [Cl, PR]
  k_fill
  intro dp un gd cn cs a ccd cl outer A₀ base h₀ L m s Q E B F X N T hk hd hu hret
  tb_rel
  all_goals (ktn_open; exact (rW_down _ _ (kbt_pos _)).symm)
theorem rint99_c (v n : Int) (t1 t2 t3 : Tok) (news : Led) (h0 : 1 ≤ n) (h1 : n ≤ 60) :
    Cl w mean mg mb 2 34 news [.int v t1, .int n t2, .str ⟨#[99]⟩ t3] (RI (rW 99 v (2 ^ n.toNat))) := by
  dsimp only [Cl, PR]
  k_fill
  intro dp un gd cn cs a ccd cl outer A₀ base h₀ L m s Q E B F X N T hk hd hu hret
  tb_rel
  all_goals (ktn_open; exact (rW_up _ _ (kbt_pos _)).symm)
theorem rint117_c (v n : Int) (t1 t2 t3 : Tok) (news : Led) (h0 : 1 ≤ n) (h1 : n ≤ 60) :
    Cl w mean mg mb 2 34 news [.int v t1, .int n t2, .str ⟨#[117]⟩ t3] (RI (rW 117 v (2 ^ n.toNat))) := by
  dsimp only [Cl, PR]
  k_fill
  intro dp un gd cn cs a ccd cl outer A₀ base h₀ L m s Q E B F X N T hk hd hu hret
  tb_rel
  all_goals (ktn_open; first | exact ((rW_117 _ _ (kbt_pos _)).1 (by omega)).symm | exact ((rW_117 _ _ (kbt_pos _)).2 (by omega)).symm)
end
local macro_rules | `(tactic| walk_at "call ref cons nil") => `(tactic| (k_here; (with_reducible show wpAny _ _ (call (Value.ref 34) _) _ _ _); k_dflt (refine' use (rint110p_c _ _ _ _ _ _ _ _ _ _ ?p1 ?p2 ?p3) ?k1 ?k2 ?k3 ?k4 ?k5 ?kK ?kd ?ku ?_; tb_start; (case p1 => omega); (case p2 => omega); (case p3 => omega); intro t9 h9 tk9 F9 N9; (try dsimp only); (try k_fold))))
section
variable (w : World) (mean : ExcName → Option Value) (mg mb : Str → Option Value)
theorem rint110_c (v n : Int) (t1 t2 t3 : Tok) (news : Led) (h0 : 1 ≤ n) (h1 : n ≤ 60) :
    Cl w mean mg mb 2 34 news [.int v t1, .int n t2, .str ⟨#[110]⟩ t3] (RI (rW 110 v (2 ^ n.toNat))) := by
  by_cases hv : 0 ≤ v
  · intro dp un gd cn cs a ccd cl outer A₀ base h₀ L m s Q E B F X N T hk hd hu hret
    exact rint110p_c w mean mg mb v n t1 t2 t3 news h0 h1 hv dp un gd cn cs a ccd cl outer A₀ base h₀ L m s Q E B F X N T hk (by omega) (by omega) hret
  · have e := rW_near_neg v (2 ^ n.toNat) (kbt_pos _)
    have m1 := PySem.Flt.Hid.mk e
    clear e
    dsimp only [Cl, PR]
    k_fill
    intro dp un gd cn cs a ccd cl outer A₀ base h₀ L m s Q E B F X N T hk hd hu hret
    tb_rel
    all_goals first | (ktn_open; rw [m1.out]; omega)
end
end
section
local macro_rules | `(tactic| walk_at "call ref cons nil") => `(tactic| (k_here; (with_reducible show wpAny _ _ (call (Value.ref 21) _) _ _ _); k_dflt (refine' use (trailing_c _ _ _ _ _ _ _ ?p1) ?k1 ?k2 ?k3 ?k4 ?k5 ?kK ?kd ?ku ?_; tb_start; (case p1 => omega); intro t9 h9 tk9 F9 N9; (try dsimp only); (try k_fold))))
local macro_rules | `(tactic| walk_at "call ref cons nil") => `(tactic| (k_here; (with_reducible show wpAny _ _ (call (Value.ref 34) _) _ _ _); k_dflt (refine' use (rint110_c _ _ _ _ _ _ _ _ _ _ ?p1 ?p2) ?k1 ?k2 ?k3 ?k4 ?k5 ?kK ?kd ?ku ?_; tb_start; (case p1 => omega); (case p2 => omega); intro t9 h9 tk9 F9 N9; (try dsimp only); (try k_fold))))
local macro_rules | `(tactic| walk_at "call ref cons nil") => `(tactic| (k_here; (with_reducible show wpAny _ _ (call (Value.ref 34) _) _ _ _); k_dflt (refine' use (rint102_c _ _ _ _ _ _ _ _ _ _ ?p1 ?p2) ?k1 ?k2 ?k3 ?k4 ?k5 ?kK ?kd ?ku ?_; tb_start; (case p1 => omega); (case p2 => omega); intro t9 h9 tk9 F9 N9; (try dsimp only); (try k_fold))))
local macro_rules | `(tactic| walk_at "call ref cons nil") => `(tactic| (k_here; (with_reducible show wpAny _ _ (call (Value.ref 34) _) _ _ _); k_dflt (refine' use (rint99_c _ _ _ _ _ _ _ _ _ _ ?p1 ?p2) ?k1 ?k2 ?k3 ?k4 ?k5 ?kK ?kd ?ku ?_; tb_start; (case p1 => omega); (case p2 => omega); intro t9 h9 tk9 F9 N9; (try dsimp only); (try k_fold))))
local macro_rules | `(tactic| walk_at "call ref cons nil") => `(tactic| (k_here; (with_reducible show wpAny _ _ (call (Value.ref 34) _) _ _ _); k_dflt (refine' use (rint117_c _ _ _ _ _ _ _ _ _ _ ?p1 ?p2) ?k1 ?k2 ?k3 ?k4 ?k5 ?kK ?kd ?ku ?_; tb_start; (case p1 => omega); (case p2 => omega); intro t9 h9 tk9 F9 N9; (try dsimp only); (try k_fold))))
section
variable (w : World) (mean : ExcName → Option Value) (mg mb : Str → Option Value)
theorem toint110_c (t5 : Tok) (x : Addr) (v p : Int) (t1 t2 t3 t4 : Tok) (news : Led) (hb : Bd v p) (hT : T4 w news x v p t1 t2 t3 t4) :
    Cl w mean mg mb 4 85 news [.ref x, .str ⟨#[110]⟩ t5] (RI (rW 110 (abA v p) (abB p))) := by
  obtain ⟨g1, g2, g3, g4, g5, g6, g7, g8⟩ := parts0 v p hb
  have s1 := (sgnd_of (tS v) (tM v) g1).1
  have s2 := (sgnd_of (tS v) (tM v) g1).2
  have k1 : 0 ≤ tE v p → sgnd (tS v) (tM v) * 2 ^ (tE v p).toNat = rW 110 (abA v p) (abB p) := by
    intro h
    by_cases e : v = 0
    · obtain ⟨z1, z2, z3, z4⟩ := (told_facts v p).2.2.2.1 e
      subst e
      rw [z1, z2, abA_zero, rW_zero _ _ (kbt_pos _), sgnd0, Int.zero_mul]
    · exact ((rW_parts 110 v p e).1 h).symm
  have k2 : tE v p < 0 → rW 110 (sgnd (tS v) (tM v)) (2 ^ (-tE v p).toNat) = rW 110 (abA v p) (abB p) := by
    intro h
    by_cases e : v = 0
    · have := ((told_facts v p).2.2.2.1 e).2.2.1; omega
    · exact ((rW_parts 110 v p e).2 h).symm
  have m1 := PySem.Flt.Hid.mk k1
  have m2 := PySem.Flt.Hid.mk k2
  have gz : tM v ≠ 0 ∨ tE v p = 0 := by
    by_cases e : tM v = 0
    · exact .inr (g8 e).1
    · exact .inl e
  clear k1 k2 hb
  dsimp only [Cl, PR]
  k_fill
  intro dp un gd cn cs a ccd cl outer A₀ base h₀ L m s Q E B F X N T hk hd hu hret
  tb_rel
  all_goals first
    | (ktn_open; first
      | (rw [← s1 (by assumption)]; first | exact m1.out (by omega) | exact m2.out (by omega))
      | (rw [← m1.out (by omega), s1 (by assumption)])
      | (rw [← m1.out (by omega), s2 (by assumption)])
      | (rw [← m2.out (by omega), s1 (by assumption)])
      | (rw [← m2.out (by omega), s2 (by assumption)])
      | (rw [← m2.out (by omega), s1 (by assumption)]; by_cases hz : tM v = 0 <;> first | exact ((rW_100 _ _ (kbt_pos _)).2 (by omega)).symm.trans (by rw [Int.neg_neg]) | (rw [(rW_100 _ _ (kbt_pos _)).2 (by omega), Int.neg_neg]) | omega)
      | (rw [← m2.out (by omega), s2 (by assumption)]; exact ((rW_100 _ _ (kbt_pos _)).1 (by omega)).symm))
    | (exfalso; omega)
theorem toint102_c (t5 : Tok) (x : Addr) (v p : Int) (t1 t2 t3 t4 : Tok) (news : Led) (hb : Bd v p) (hT : T4 w news x v p t1 t2 t3 t4) :
    Cl w mean mg mb 4 85 news [.ref x, .str ⟨#[102]⟩ t5] (RI (rW 102 (abA v p) (abB p))) := by
  obtain ⟨g1, g2, g3, g4, g5, g6, g7, g8⟩ := parts0 v p hb
  have s1 := (sgnd_of (tS v) (tM v) g1).1
  have s2 := (sgnd_of (tS v) (tM v) g1).2
  have k1 : 0 ≤ tE v p → sgnd (tS v) (tM v) * 2 ^ (tE v p).toNat = rW 102 (abA v p) (abB p) := by
    intro h
    by_cases e : v = 0
    · obtain ⟨z1, z2, z3, z4⟩ := (told_facts v p).2.2.2.1 e
      subst e
      rw [z1, z2, abA_zero, rW_zero _ _ (kbt_pos _), sgnd0, Int.zero_mul]
    · exact ((rW_parts 102 v p e).1 h).symm
  have k2 : tE v p < 0 → rW 102 (sgnd (tS v) (tM v)) (2 ^ (-tE v p).toNat) = rW 102 (abA v p) (abB p) := by
    intro h
    by_cases e : v = 0
    · have := ((told_facts v p).2.2.2.1 e).2.2.1; omega
    · exact ((rW_parts 102 v p e).2 h).symm
  have m1 := PySem.Flt.Hid.mk k1
  have m2 := PySem.Flt.Hid.mk k2
  have gz : tM v ≠ 0 ∨ tE v p = 0 := by
    by_cases e : tM v = 0
    · exact .inr (g8 e).1
    · exact .inl e
  clear k1 k2 hb
  dsimp only [Cl, PR]
  k_fill
  intro dp un gd cn cs a ccd cl outer A₀ base h₀ L m s Q E B F X N T hk hd hu hret
  tb_rel
  all_goals first
    | (ktn_open; first
      | (rw [← s1 (by assumption)]; first | exact m1.out (by omega) | exact m2.out (by omega))
      | (rw [← m1.out (by omega), s1 (by assumption)])
      | (rw [← m1.out (by omega), s2 (by assumption)])
      | (rw [← m2.out (by omega), s1 (by assumption)])
      | (rw [← m2.out (by omega), s2 (by assumption)])
      | (rw [← m2.out (by omega), s1 (by assumption)]; by_cases hz : tM v = 0 <;> first | exact ((rW_100 _ _ (kbt_pos _)).2 (by omega)).symm.trans (by rw [Int.neg_neg]) | (rw [(rW_100 _ _ (kbt_pos _)).2 (by omega), Int.neg_neg]) | omega)
      | (rw [← m2.out (by omega), s2 (by assumption)]; exact ((rW_100 _ _ (kbt_pos _)).1 (by omega)).symm))
    | (exfalso; omega)
theorem toint99_c (t5 : Tok) (x : Addr) (v p : Int) (t1 t2 t3 t4 : Tok) (news : Led) (hb : Bd v p) (hT : T4 w news x v p t1 t2 t3 t4) :
    Cl w mean mg mb 4 85 news [.ref x, .str ⟨#[99]⟩ t5] (RI (rW 99 (abA v p) (abB p))) := by
  obtain ⟨g1, g2, g3, g4, g5, g6, g7, g8⟩ := parts0 v p hb
  have s1 := (sgnd_of (tS v) (tM v) g1).1
  have s2 := (sgnd_of (tS v) (tM v) g1).2
  have k1 : 0 ≤ tE v p → sgnd (tS v) (tM v) * 2 ^ (tE v p).toNat = rW 99 (abA v p) (abB p) := by
    intro h
    by_cases e : v = 0
    · obtain ⟨z1, z2, z3, z4⟩ := (told_facts v p).2.2.2.1 e
      subst e
      rw [z1, z2, abA_zero, rW_zero _ _ (kbt_pos _), sgnd0, Int.zero_mul]
    · exact ((rW_parts 99 v p e).1 h).symm
  have k2 : tE v p < 0 → rW 99 (sgnd (tS v) (tM v)) (2 ^ (-tE v p).toNat) = rW 99 (abA v p) (abB p) := by
    intro h
    by_cases e : v = 0
    · have := ((told_facts v p).2.2.2.1 e).2.2.1; omega
    · exact ((rW_parts 99 v p e).2 h).symm
  have m1 := PySem.Flt.Hid.mk k1
  have m2 := PySem.Flt.Hid.mk k2
  have gz : tM v ≠ 0 ∨ tE v p = 0 := by
    by_cases e : tM v = 0
    · exact .inr (g8 e).1
    · exact .inl e
  clear k1 k2 hb
  dsimp only [Cl, PR]
  k_fill
  intro dp un gd cn cs a ccd cl outer A₀ base h₀ L m s Q E B F X N T hk hd hu hret
  tb_rel
  all_goals first
    | (ktn_open; first
      | (rw [← s1 (by assumption)]; first | exact m1.out (by omega) | exact m2.out (by omega))
      | (rw [← m1.out (by omega), s1 (by assumption)])
      | (rw [← m1.out (by omega), s2 (by assumption)])
      | (rw [← m2.out (by omega), s1 (by assumption)])
      | (rw [← m2.out (by omega), s2 (by assumption)])
      | (rw [← m2.out (by omega), s1 (by assumption)]; by_cases hz : tM v = 0 <;> first | exact ((rW_100 _ _ (kbt_pos _)).2 (by omega)).symm.trans (by rw [Int.neg_neg]) | (rw [(rW_100 _ _ (kbt_pos _)).2 (by omega), Int.neg_neg]) | omega)
      | (rw [← m2.out (by omega), s2 (by assumption)]; exact ((rW_100 _ _ (kbt_pos _)).1 (by omega)).symm))
    | (exfalso; omega)
theorem toint117_c (t5 : Tok) (x : Addr) (v p : Int) (t1 t2 t3 t4 : Tok) (news : Led) (hb : Bd v p) (hT : T4 w news x v p t1 t2 t3 t4) :
    Cl w mean mg mb 4 85 news [.ref x, .str ⟨#[117]⟩ t5] (RI (rW 117 (abA v p) (abB p))) := by
  obtain ⟨g1, g2, g3, g4, g5, g6, g7, g8⟩ := parts0 v p hb
  have s1 := (sgnd_of (tS v) (tM v) g1).1
  have s2 := (sgnd_of (tS v) (tM v) g1).2
  have k1 : 0 ≤ tE v p → sgnd (tS v) (tM v) * 2 ^ (tE v p).toNat = rW 117 (abA v p) (abB p) := by
    intro h
    by_cases e : v = 0
    · obtain ⟨z1, z2, z3, z4⟩ := (told_facts v p).2.2.2.1 e
      subst e
      rw [z1, z2, abA_zero, rW_zero _ _ (kbt_pos _), sgnd0, Int.zero_mul]
    · exact ((rW_parts 117 v p e).1 h).symm
  have k2 : tE v p < 0 → rW 117 (sgnd (tS v) (tM v)) (2 ^ (-tE v p).toNat) = rW 117 (abA v p) (abB p) := by
    intro h
    by_cases e : v = 0
    · have := ((told_facts v p).2.2.2.1 e).2.2.1; omega
    · exact ((rW_parts 117 v p e).2 h).symm
  have m1 := PySem.Flt.Hid.mk k1
  have m2 := PySem.Flt.Hid.mk k2
  have gz : tM v ≠ 0 ∨ tE v p = 0 := by
    by_cases e : tM v = 0
    · exact .inr (g8 e).1
    · exact .inl e
  clear k1 k2 hb
  dsimp only [Cl, PR]
  k_fill
  intro dp un gd cn cs a ccd cl outer A₀ base h₀ L m s Q E B F X N T hk hd hu hret
  tb_rel
  all_goals first
    | (ktn_open; first
      | (rw [← s1 (by assumption)]; first | exact m1.out (by omega) | exact m2.out (by omega))
      | (rw [← m1.out (by omega), s1 (by assumption)])
      | (rw [← m1.out (by omega), s2 (by assumption)])
      | (rw [← m2.out (by omega), s1 (by assumption)])
      | (rw [← m2.out (by omega), s2 (by assumption)])
      | (rw [← m2.out (by omega), s1 (by assumption)]; by_cases hz : tM v = 0 <;> first | exact ((rW_100 _ _ (kbt_pos _)).2 (by omega)).symm.trans (by rw [Int.neg_neg]) | (rw [(rW_100 _ _ (kbt_pos _)).2 (by omega), Int.neg_neg]) | omega)
      | (rw [← m2.out (by omega), s2 (by assumption)]; exact ((rW_100 _ _ (kbt_pos _)).1 (by omega)).symm))
    | (exfalso; omega)
theorem toint100_c (t5 : Tok) (x : Addr) (v p : Int) (t1 t2 t3 t4 : Tok) (news : Led) (hb : Bd v p) (hT : T4 w news x v p t1 t2 t3 t4) :
    Cl w mean mg mb 4 85 news [.ref x, .str ⟨#[100]⟩ t5] (RI (rW 100 (abA v p) (abB p))) := by
  obtain ⟨g1, g2, g3, g4, g5, g6, g7, g8⟩ := parts0 v p hb
  have s1 := (sgnd_of (tS v) (tM v) g1).1
  have s2 := (sgnd_of (tS v) (tM v) g1).2
  have k1 : 0 ≤ tE v p → sgnd (tS v) (tM v) * 2 ^ (tE v p).toNat = rW 100 (abA v p) (abB p) := by
    intro h
    by_cases e : v = 0
    · obtain ⟨z1, z2, z3, z4⟩ := (told_facts v p).2.2.2.1 e
      subst e
      rw [z1, z2, abA_zero, rW_zero _ _ (kbt_pos _), sgnd0, Int.zero_mul]
    · exact ((rW_parts 100 v p e).1 h).symm
  have k2 : tE v p < 0 → rW 100 (sgnd (tS v) (tM v)) (2 ^ (-tE v p).toNat) = rW 100 (abA v p) (abB p) := by
    intro h
    by_cases e : v = 0
    · have := ((told_facts v p).2.2.2.1 e).2.2.1; omega
    · exact ((rW_parts 100 v p e).2 h).symm
  have k3 : tE v p < 0 → tS v ≠ 0 → -(tM v).fdiv (2 ^ (-tE v p).toNat) = rW 100 (abA v p) (abB p) := by
    intro h q
    have hv : v < 0 := by
      by_cases hv : v < 0
      · exact hv
      · exact absurd ((told_facts v p).2.2.2.2.2.2 (by omega)) q
    have hm := ((told_facts v p).2.2.1 (by omega)).1
    rw [← k2 h, s1 q, (rW_100 _ _ (kbt_pos _)).2 (by omega), Int.neg_neg]
  have k4 : tE v p < 0 → tS v = 0 → (tM v).fdiv (2 ^ (-tE v p).toNat) = rW 100 (abA v p) (abB p) := by
    intro h q
    rw [← k2 h, s2 q, (rW_100 _ _ (kbt_pos _)).1 (by omega)]
  have m3 := PySem.Flt.Hid.mk k3
  have m4 := PySem.Flt.Hid.mk k4
  clear k3 k4
  have m1 := PySem.Flt.Hid.mk k1
  have m2 := PySem.Flt.Hid.mk k2
  have gz : tM v ≠ 0 ∨ tE v p = 0 := by
    by_cases e : tM v = 0
    · exact .inr (g8 e).1
    · exact .inl e
  clear k1 k2 hb
  dsimp only [Cl, PR]
  k_fill
  intro dp un gd cn cs a ccd cl outer A₀ base h₀ L m s Q E B F X N T hk hd hu hret
  tb_rel
  all_goals first
    | (ktn_open; first
      | exact m3.out (by omega) (by assumption)
      | exact m4.out (by omega) (by assumption)
      | (rw [← s1 (by assumption)]; exact m1.out (by omega))
      | (rw [← m1.out (by omega), s1 (by assumption)])
      | (rw [← m1.out (by omega), s2 (by assumption)]))
    | (exfalso; omega)
theorem toint_c (c : Nat) (t5 : Tok) (hc : c ∈ Ways) (x : Addr) (v p : Int) (t1 t2 t3 t4 : Tok) (news : Led) (hb : Bd v p) (hT : T4 w news x v p t1 t2 t3 t4) :
    Cl w mean mg mb 4 85 news [.ref x, .str ⟨#[c]⟩ t5] (RI (rW c (abA v p) (abB p))) := by
  simp only [Ways, List.mem_cons, List.not_mem_nil, or_false] at hc
  rcases hc with rfl | rfl | rfl | rfl | rfl
  · exact toint110_c w mean mg mb t5 x v p t1 t2 t3 t4 news hb hT
  · exact toint102_c w mean mg mb t5 x v p t1 t2 t3 t4 news hb hT
  · exact toint99_c w mean mg mb t5 x v p t1 t2 t3 t4 news hb hT
  · exact toint117_c w mean mg mb t5 x v p t1 t2 t3 t4 news hb hT
  · exact toint100_c w mean mg mb t5 x v p t1 t2 t3 t4 news hb hT
theorem whole_c (c : Nat) (A B : Int) (t1 t2 t3 : Tok) (news : Led) (hc : c ∈ Ways) (h0 : 0 < B) (hB : B < 9223372036854775808) :
    Cl w mean mg mb 1 263 news [.int A t1, .int B t2, .str ⟨#[c]⟩ t3] (RI (rW c A B)) := by
  simp only [Ways, List.mem_cons, List.not_mem_nil, or_false] at hc
  rcases hc with rfl | rfl | rfl | rfl | rfl
  · exact whole110_c w mean mg mb A B t1 t2 t3 news h0 hB
  · exact whole102_c w mean mg mb A B t1 t2 t3 news h0 hB
  · exact whole99_c w mean mg mb A B t1 t2 t3 news h0 hB
  · exact whole117_c w mean mg mb A B t1 t2 t3 news h0 hB
  · exact whole100_c w mean mg mb A B t1 t2 t3 news h0 hB
end
end
section
local macro_rules | `(tactic| walk_at "call ref cons nil") => `(tactic| (k_here; (with_reducible show wpAny _ _ (call (Value.ref 21) _) _ _ _); k_dflt (refine' use (trailing_c _ _ _ _ _ _ _ ?p1) ?k1 ?k2 ?k3 ?k4 ?k5 ?kK ?kd ?ku ?_; tb_start; (case p1 => omega); intro t9 h9 tk9 F9 N9; (try dsimp only); (try k_fold))))
section
variable (w : World) (mean : ExcName → Option Value) (mg mb : Str → Option Value)
theorem nz0_c (sg mn ex bc pr : Int) (t1 t2 t3 t4 t5 : Tok) (rv : Value) (news : Led) (hs : sg = 0 ∨ sg = 1) (h0 : 0 ≤ mn) (hb : bc = bl mn) (hp : bc ≤ pr) :
    Cl w mean mg mb 4 53 news [.int sg t1, .int mn t2, .int ex t3, .int bc t4, .int pr t5, rv] (R4 (hd.heap_39 w.params) (tS (sgnd sg mn)) (tM (sgnd sg mn)) (tE (sgnd sg mn) ex) (tB (sgnd sg mn))) :=
  nz_of w mean mg mb sg mn ex bc pr t1 t2 t3 t4 t5 rv news _ _ _ _ h0 hb (norm0_c w mean mg mb sg mn ex bc pr t1 t2 t3 t4 t5 rv news h0 hs hb hp)
end
local macro_rules | `(tactic| walk_at "call ref cons nil") => `(tactic| (k_here; (with_reducible show wpAny _ _ (call (Value.ref 53) _) _ _ _); k_dflt (refine' use (nz0_c _ _ _ _ _ _ _ _ _ _ _ _ _ _ _ _ ?p1 ?p2 ?p3 ?p4) ?k1 ?k2 ?k3 ?k4 ?k5 ?kK ?kd ?ku ?_; tb_start; (case p1 => first | (with_reducible assumption) | decide); (case p2 => omega); (case p3 => exact rfl); (case p4 => omega); intro x9 a9 b9 c9 d9 tl9 h9 tk9 F9 N9 ht9 T9; (try dsimp only); (try k_fold))))
theorem end4 {g : Int} {X D e E : Int} (h : sgnd g X = D) (hE : e = E) : tS (sgnd g X) = tS D ∧ tM (sgnd g X) = tM D ∧ tE (sgnd g X) e = tE D E ∧ tB (sgnd g X) = tB D := by
  subst h; subst hE; exact ⟨rfl, rfl, rfl, rfl⟩
section
variable (w : World) (mean : ExcName → Option Value) (mg mb : Str → Option Value)
theorem add00_c (x y : Addr) (m1 e1 b1 m2 e2 b2 D EE : Int) (t1 t2 t3 t4 u1 u2 u3 u4 v1 v2 : Tok) (rv : Value) (news : Led) (hT : TupI (hd.heap_39 w.params) news x [.int 0 t1, .int m1 t2, .int e1 t3, .int b1 t4]) (hU : TupI (hd.heap_39 w.params) news y [.int 0 u1, .int m2 u2, .int e2 u3, .int b2 u4])
    (h1 : 0 < m1) (h1' : m1 ≤ 1100000) (h2 : 0 < m2) (h2' : m2 ≤ 4611686018427387903) (he1 : -31 ≤ e1) (he1' : e1 ≤ 60) (he2 : -31 ≤ e2) (he2' : e2 ≤ 60)
    (hgt : 0 < e1 - e2 → EE = e2 ∧ D = (m1 * 2 ^ (e1 - e2).toNat) - (m2)) (hlt : e1 - e2 < 0 → EE = e1 ∧ D = m1 - ((m2 * 2 ^ (-(e1 - e2)).toNat))) (heq : e1 - e2 = 0 → EE = e2 ∧ D = m1 - (m2)) :
    Cl w mean mg mb 6 219 news [.ref x, .ref y, .int 0 v1, rv, .int 1 v2] (R4 (hd.heap_39 w.params) (tS D) (tM D) (tE D EE) (tB D)) := by
  have h1s : m1 ≠ 0 := by omega
  have h2s : m2 ≠ 0 := by omega
  have hp1 : 0 ≤ m1 * 2 ^ (e1 - e2).toNat := Int.mul_nonneg (by omega) (by have := kbt_pos (e1 - e2).toNat; omega)
  have hp2 : 0 ≤ m2 * 2 ^ (-(e1 - e2)).toNat := Int.mul_nonneg (by omega) (by have := kbt_pos (-(e1 - e2)).toNat; omega)
  have hall : (0 < e1 - e2 ∧ EE = e2 ∧ D = (m1 * 2 ^ (e1 - e2).toNat) - (m2)) ∨ (e1 - e2 < 0 ∧ EE = e1 ∧ D = m1 - ((m2 * 2 ^ (-(e1 - e2)).toNat))) ∨ (e1 - e2 = 0 ∧ EE = e2 ∧ D = m1 - (m2)) := by
    rcases (by omega : 0 < e1 - e2 ∨ e1 - e2 < 0 ∨ e1 - e2 = 0) with q | q | q
    · exact .inl ⟨q, hgt q⟩
    · exact .inr (.inl ⟨q, hlt q⟩)
    · exact .inr (.inr ⟨q, heq q⟩)
  clear hgt hlt heq
  dsimp only [Cl, PR]
  k_fill
  intro dp un gd cn cs a ccd cl outer A₀ base h₀ L m s Q E B F X N T hk hd hu hret
  tb_rel
  all_goals first
    | (exfalso; omega)
    | (ktn_open; refine end4 ?_ ?_ <;> ((try simp only [sgnd0, sgnd1]); omega))
theorem add11_c (x y : Addr) (m1 e1 b1 m2 e2 b2 D EE : Int) (t1 t2 t3 t4 u1 u2 u3 u4 v1 v2 : Tok) (rv : Value) (news : Led) (hT : TupI (hd.heap_39 w.params) news x [.int 1 t1, .int m1 t2, .int e1 t3, .int b1 t4]) (hU : TupI (hd.heap_39 w.params) news y [.int 1 u1, .int m2 u2, .int e2 u3, .int b2 u4])
    (h1 : 0 < m1) (h1' : m1 ≤ 1100000) (h2 : 0 < m2) (h2' : m2 ≤ 4611686018427387903) (he1 : -31 ≤ e1) (he1' : e1 ≤ 60) (he2 : -31 ≤ e2) (he2' : e2 ≤ 60)
    (hgt : 0 < e1 - e2 → EE = e2 ∧ D = -((m1 * 2 ^ (e1 - e2).toNat)) - (-(m2))) (hlt : e1 - e2 < 0 → EE = e1 ∧ D = -(m1) - (-((m2 * 2 ^ (-(e1 - e2)).toNat)))) (heq : e1 - e2 = 0 → EE = e2 ∧ D = -(m1) - (-(m2))) :
    Cl w mean mg mb 6 219 news [.ref x, .ref y, .int 0 v1, rv, .int 1 v2] (R4 (hd.heap_39 w.params) (tS D) (tM D) (tE D EE) (tB D)) := by
  have h1s : m1 ≠ 0 := by omega
  have h2s : m2 ≠ 0 := by omega
  have hp1 : 0 ≤ m1 * 2 ^ (e1 - e2).toNat := Int.mul_nonneg (by omega) (by have := kbt_pos (e1 - e2).toNat; omega)
  have hp2 : 0 ≤ m2 * 2 ^ (-(e1 - e2)).toNat := Int.mul_nonneg (by omega) (by have := kbt_pos (-(e1 - e2)).toNat; omega)
  have hall : (0 < e1 - e2 ∧ EE = e2 ∧ D = -((m1 * 2 ^ (e1 - e2).toNat)) - (-(m2))) ∨ (e1 - e2 < 0 ∧ EE = e1 ∧ D = -(m1) - (-((m2 * 2 ^ (-(e1 - e2)).toNat)))) ∨ (e1 - e2 = 0 ∧ EE = e2 ∧ D = -(m1) - (-(m2))) := by
    rcases (by omega : 0 < e1 - e2 ∨ e1 - e2 < 0 ∨ e1 - e2 = 0) with q | q | q
    · exact .inl ⟨q, hgt q⟩
    · exact .inr (.inl ⟨q, hlt q⟩)
    · exact .inr (.inr ⟨q, heq q⟩)
  clear hgt hlt heq
  dsimp only [Cl, PR]
  k_fill
  intro dp un gd cn cs a ccd cl outer A₀ base h₀ L m s Q E B F X N T hk hd hu hret
  tb_rel
  all_goals first
    | (exfalso; omega)
    | (ktn_open; refine end4 ?_ ?_ <;> ((try simp only [sgnd0, sgnd1]); omega))
end
end
section
local macro_rules | `(tactic| walk_at "no such step") => `(tactic| fail)
local macro_rules | `(tactic| walk_at "call ref cons nil") => `(tactic| (k_here; (with_reducible show wpAny _ _ (call (Value.ref 21) _) _ _ _); k_dflt (refine' use (trailing_c _ _ _ _ _ _ _ ?p1) ?k1 ?k2 ?k3 ?k4 ?k5 ?kK ?kd ?ku ?_; tb_start; (case p1 => omega); intro t9 h9 tk9 F9 N9; (try dsimp only); (try k_fold))))
local macro_rules | `(tactic| walk_at "call ref cons nil") => `(tactic| (k_here; (with_reducible show wpAny _ _ (call (Value.ref 53) _) _ _ _); k_dflt (refine' use (nz0_c _ _ _ _ _ _ _ _ _ _ _ _ _ _ _ _ ?p1 ?p2 ?p3 ?p4) ?k1 ?k2 ?k3 ?k4 ?k5 ?kK ?kd ?ku ?_; tb_start; (case p1 => first | (with_reducible assumption) | decide); (case p2 => omega); (case p3 => first | exact rfl | with_reducible assumption); (case p4 => omega); intro x9 a9 b9 c9 d9 tl9 h9 tk9 F9 N9 ht9 T9; (try dsimp only); (try k_fold))))
section
variable (w : World) (mean : ExcName → Option Value) (mg mb : Str → Option Value)
theorem neg0_c (x : Addr) (t1 t2 t3 t4 : Tok) (news : Led) (hT : TupI (hd.heap_39 w.params) news x [.int 0 t1, .int 0 t2, .int 0 t3, .int 0 t4]) :
    Cl w mean mg mb 2 204 news [.ref x] (R4 (hd.heap_39 w.params) 0 0 0 0) := by
  dsimp only [Cl, PR]
  k_fill
  intro dp un gd cn cs a ccd cl outer A₀ base h₀ L m s Q E B F X N T hk hd hu hret
  tb_rel
  all_goals first
    | (ktn_open; exact ⟨rfl, rfl, rfl, rfl⟩)
    | (exfalso; omega)
end
local macro_rules | `(tactic| walk_at "call ref cons nil") => `(tactic| (k_here; (with_reducible show wpAny _ _ (call (Value.ref 204) _) _ _ _); k_dflt (refine' use (neg0_c _ _ _ _ _ _ _ _ _ _ ?p1) ?k1 ?k2 ?k3 ?k4 ?k5 ?kK ?kd ?ku ?_; tb_start; (case p1 => ktr_rel); intro x9 a9 b9 c9 d9 tl9 h9 tk9 F9 N9 ht9 T9; (try dsimp only); (try k_fold))))
section
variable (w : World) (mean : ExcName → Option Value) (mg mb : Str → Option Value)
theorem addz0_c (x y : Addr) (m1 e1 b1 : Int) (t1 t2 t3 t4 u1 u2 u3 u4 v1 v2 : Tok) (rv : Value) (news : Led) (hT : TupI (hd.heap_39 w.params) news x [.int 0 t1, .int m1 t2, .int e1 t3, .int b1 t4]) (hU : TupI (hd.heap_39 w.params) news y [.int 0 u1, .int 0 u2, .int 0 u3, .int 0 u4])
    (h1 : 0 < m1) (hb : b1 = bl m1) (hb0 : b1 ≠ 0) :
    Cl w mean mg mb 6 219 news [.ref x, .ref y, .int 0 v1, rv, .int 1 v2] (R4 (hd.heap_39 w.params) (tS (sgnd 0 m1)) (tM (sgnd 0 m1)) (tE (sgnd 0 m1) e1) (tB (sgnd 0 m1))) := by
  dsimp only [Cl, PR]
  k_fill
  intro dp un gd cn cs a ccd cl outer A₀ base h₀ L m s Q E B F X N T hk hd hu hret
  tb_rel
  all_goals first
    | (exfalso; omega)
    | (ktn_open; exact ⟨rfl, rfl, rfl, rfl⟩)
theorem addz1_c (x y : Addr) (m1 e1 b1 : Int) (t1 t2 t3 t4 u1 u2 u3 u4 v1 v2 : Tok) (rv : Value) (news : Led) (hT : TupI (hd.heap_39 w.params) news x [.int 1 t1, .int m1 t2, .int e1 t3, .int b1 t4]) (hU : TupI (hd.heap_39 w.params) news y [.int 0 u1, .int 0 u2, .int 0 u3, .int 0 u4])
    (h1 : 0 < m1) (hb : b1 = bl m1) (hb0 : b1 ≠ 0) :
    Cl w mean mg mb 6 219 news [.ref x, .ref y, .int 0 v1, rv, .int 1 v2] (R4 (hd.heap_39 w.params) (tS (sgnd 1 m1)) (tM (sgnd 1 m1)) (tE (sgnd 1 m1) e1) (tB (sgnd 1 m1))) := by
  dsimp only [Cl, PR]
  k_fill
  intro dp un gd cn cs a ccd cl outer A₀ base h₀ L m s Q E B F X N T hk hd hu hret
  tb_rel
  all_goals first
    | (exfalso; omega)
    | (ktn_open; exact ⟨rfl, rfl, rfl, rfl⟩)
theorem add00z_c (x y : Addr) (t1 t2 t3 t4 u1 u2 u3 u4 v1 v2 : Tok) (rv : Value) (news : Led) (hT : TupI (hd.heap_39 w.params) news x [.int 0 t1, .int 0 t2, .int 0 t3, .int 0 t4]) (hU : TupI (hd.heap_39 w.params) news y [.int 0 u1, .int 0 u2, .int 0 u3, .int 0 u4]) :
    Cl w mean mg mb 6 219 news [.ref x, .ref y, .int 0 v1, rv, .int 1 v2] (R4 (hd.heap_39 w.params) 0 0 0 0) := by
  dsimp only [Cl, PR]
  k_fill
  intro dp un gd cn cs a ccd cl outer A₀ base h₀ L m s Q E B F X N T hk hd hu hret
  tb_rel
  all_goals first
    | (exfalso; omega)
    | (ktn_open; exact ⟨rfl, rfl, rfl, rfl⟩)
end
end
section
local macro_rules | `(tactic| walk_at "call ref cons nil") => `(tactic| (k_here; (with_reducible show wpAny _ _ (call (Value.ref 21) _) _ _ _); k_dflt (refine' use (trailing_c _ _ _ _ _ _ _ ?p1) ?k1 ?k2 ?k3 ?k4 ?k5 ?kK ?kd ?ku ?_; tb_start; (case p1 => omega); intro t9 h9 tk9 F9 N9; (try dsimp only); (try k_fold))))
/-- a tuple whose sign alone is told -/
abbrev RS (K : Frag) (a : Int) : RetT := fun h₀ L m news s Q => ∀ b c d : Int, R4 K a b c d h₀ L m news s Q
theorem cl_rs {w : World} {mean : ExcName → Option Value} {mg mb : Str → Option Value} {sz : Nat} {f : Addr} {news : Led} {vs : List Value} {K : Frag} {a sg b c d : Int} (e : a = sg) (C : Cl w mean mg mb sz f news vs (R4 K a b c d)) : Cl w mean mg mb sz f news vs (RS K sg) := by
  subst e
  intro dp un gd cn cs a ccd cl outer A₀ base h₀ L m s Q E B F X N T hk hd hu ret
  exact C dp un gd cn cs a ccd cl outer A₀ base h₀ L m s Q E B F X N T hk hd hu (ret b c d)
section
variable (w : World) (mean : ExcName → Option Value) (mg mb : Str → Option Value)
theorem nz5_c (sg mn ex bc : Int) (t1 t2 t3 t4 t5 t6 : Tok) (news : Led) (hs : sg = 0 ∨ sg = 1) (h0 : 0 < mn) (hb : bc = bl mn) (hm : mn < 4611686018427387904) :
    Cl w mean mg mb 4 53 news [.int sg t1, .int mn t2, .int ex t3, .int bc t4, .int 5 t5, .str ⟨#[102]⟩ t6] (RS (hd.heap_39 w.params) sg) := by
  obtain ⟨l1, l2⟩ := bl_small h0 hm
  by_cases hp : bc ≤ 5
  · exact cl_rs (sgnd_tS sg mn hs h0).symm (nz_of w mean mg mb sg mn ex bc 5 t1 t2 t3 t4 t5 _ news _ _ _ _ (by omega) hb (norm0_c w mean mg mb sg mn ex bc 5 t1 t2 t3 t4 t5 _ news (by omega) hs hb hp))
  · obtain ⟨r1, r2, r3, r4, r5, r6⟩ := cut_rng (pr := 5) h0 hb (by omega) (by omega)
    rcases hs with rfl | rfl
    · exact cl_rs (sgnd_tS 0 _ (.inl rfl) (by omega)).symm (nz_of w mean mg mb 0 mn ex bc 5 t1 t2 t3 t4 t5 _ news _ _ _ _ (by omega) hb (normdn0_c w mean mg mb mn ex bc 5 t1 t2 t3 t4 t5 t6 news h0 hb (by omega) (by omega) (by omega)))
    · exact cl_rs (sgnd_tS 1 _ (.inr rfl) (by omega)).symm (nz_of w mean mg mb 1 mn ex bc 5 t1 t2 t3 t4 t5 _ news _ _ _ _ (by omega) hb (normup1_c w mean mg mb mn ex bc 5 t1 t2 t3 t4 t5 t6 news h0 hb (by omega) (by omega) (by omega)))
end
local macro_rules | `(tactic| walk_at "call ref cons nil") => `(tactic| (k_here; (with_reducible show wpAny _ _ (call (Value.ref 53) _) _ _ _); k_dflt (refine' use (nz5_c _ _ _ _ _ _ _ _ _ _ _ _ _ _ _ ?p1 ?p2 ?p3 ?p4) ?k1 ?k2 ?k3 ?k4 ?k5 ?kK ?kd ?ku ?_; tb_start; (case p1 => first | (with_reducible assumption) | decide); (case p2 => omega); (case p3 => first | exact rfl | with_reducible assumption); (case p4 => omega); intro bb9 cc9 dd9 x9 a9 b9 c9 d9 tl9 h9 tk9 F9 N9 ht9 T9; (try dsimp only); (try k_fold))))
section
variable (w : World) (mean : ExcName → Option Value) (mg mb : Str → Option Value)
theorem add50_c (x y : Addr) (m1 e1 b1 m2 e2 b2 D sg : Int) (t1 t2 t3 t4 u1 u2 u3 u4 v1 v2 v3 : Tok) (news : Led) (hT : TupI (hd.heap_39 w.params) news x [.int 0 t1, .int m1 t2, .int e1 t3, .int b1 t4]) (hU : TupI (hd.heap_39 w.params) news y [.int 0 u1, .int m2 u2, .int e2 u3, .int b2 u4])
    (h1 : 0 < m1) (h1' : m1 ≤ 1100000) (h2 : 0 < m2) (h2' : m2 ≤ 1100000) (he1 : -31 ≤ e1) (he1' : e1 ≤ 60) (he2 : -31 ≤ e2) (he2' : e2 ≤ 60)
    (hp1 : 0 < m1 * 2 ^ (e1 - e2).toNat ∧ m1 * 2 ^ (e1 - e2).toNat ≤ 2306867200000) (hp2 : 0 < m2 * 2 ^ (-(e1 - e2)).toNat ∧ m2 * 2 ^ (-(e1 - e2)).toNat ≤ 2306867200000)
    (hall : (0 < e1 - e2 ∧ D = (m1 * 2 ^ (e1 - e2).toNat) - (m2)) ∨ (e1 - e2 < 0 ∧ D = (m1) - (m2 * 2 ^ (-(e1 - e2)).toNat))) (hD : D ≠ 0) (hs0 : 0 < D → sg = 0) (hs1 : D < 0 → sg = 1) :
    Cl w mean mg mb 6 219 news [.ref x, .ref y, .int 5 v1, .str ⟨#[102]⟩ v3, .int 1 v2] (RS (hd.heap_39 w.params) sg) := by
  have h1s : m1 ≠ 0 := by omega
  have h2s : m2 ≠ 0 := by omega
  dsimp only [Cl, PR]
  k_fill
  intro dp un gd cn cs a ccd cl outer A₀ base h₀ L m s Q E B F X N T hk hd hu hret
  tb_rel
  all_goals first
    | (exfalso; omega)
    | (refine' r4_end (hret _ _ _) ?eF ?eN ?eS ?eT ⟨?_, rfl, rfl, rfl⟩; (case eF => k_asm); (case eN => k_asm); (case eS => kqd_sub); (case eT => ktr_rel); omega)
theorem add51_c (x y : Addr) (m1 e1 b1 m2 e2 b2 D sg : Int) (t1 t2 t3 t4 u1 u2 u3 u4 v1 v2 v3 : Tok) (news : Led) (hT : TupI (hd.heap_39 w.params) news x [.int 1 t1, .int m1 t2, .int e1 t3, .int b1 t4]) (hU : TupI (hd.heap_39 w.params) news y [.int 1 u1, .int m2 u2, .int e2 u3, .int b2 u4])
    (h1 : 0 < m1) (h1' : m1 ≤ 1100000) (h2 : 0 < m2) (h2' : m2 ≤ 1100000) (he1 : -31 ≤ e1) (he1' : e1 ≤ 60) (he2 : -31 ≤ e2) (he2' : e2 ≤ 60)
    (hp1 : 0 < m1 * 2 ^ (e1 - e2).toNat ∧ m1 * 2 ^ (e1 - e2).toNat ≤ 2306867200000) (hp2 : 0 < m2 * 2 ^ (-(e1 - e2)).toNat ∧ m2 * 2 ^ (-(e1 - e2)).toNat ≤ 2306867200000)
    (hall : (0 < e1 - e2 ∧ D = (-(m1 * 2 ^ (e1 - e2).toNat)) - (-(m2))) ∨ (e1 - e2 < 0 ∧ D = (-(m1)) - (-(m2 * 2 ^ (-(e1 - e2)).toNat)))) (hD : D ≠ 0) (hs0 : 0 < D → sg = 0) (hs1 : D < 0 → sg = 1) :
    Cl w mean mg mb 6 219 news [.ref x, .ref y, .int 5 v1, .str ⟨#[102]⟩ v3, .int 1 v2] (RS (hd.heap_39 w.params) sg) := by
  have h1s : m1 ≠ 0 := by omega
  have h2s : m2 ≠ 0 := by omega
  dsimp only [Cl, PR]
  k_fill
  intro dp un gd cn cs a ccd cl outer A₀ base h₀ L m s Q E B F X N T hk hd hu hret
  tb_rel
  all_goals first
    | (exfalso; omega)
    | (refine' r4_end (hret _ _ _) ?eF ?eN ?eS ?eT ⟨?_, rfl, rfl, rfl⟩; (case eF => k_asm); (case eN => k_asm); (case eS => kqd_sub); (case eT => ktr_rel); omega)
end
end
section
local macro_rules | `(tactic| walk_at "no such step") => `(tactic| fail)
local macro_rules | `(tactic| walk_at "call ref cons nil") => `(tactic| (k_here; (with_reducible show wpAny _ _ (call (Value.ref 21) _) _ _ _); k_dflt (refine' use (trailing_c _ _ _ _ _ _ _ ?p1) ?k1 ?k2 ?k3 ?k4 ?k5 ?kK ?kd ?ku ?_; tb_start; (case p1 => omega); intro t9 h9 tk9 F9 N9; (try dsimp only); (try k_fold))))
-- the callee by a contract at hand
local macro_rules | `(tactic| walk_at "call ref cons nil") => `(tactic| (k_here; (with_reducible show wpAny _ _ (call (Value.ref 219) _) _ _ _); k_dflt (refine' use ?cC ?k1 ?k2 ?k3 ?k4 ?k5 ?kK ?kd ?ku ?_; (case cC => (rename (∀ _ : Tok, Cl _ _ _ _ _ _ _ _ _) => hC9; exact hC9 _)); tb_start; intro x9 a9 b9 c9 d9 tl9 h9 tk9 F9 N9 ht9 T9; (try dsimp only); (try k_fold))))
section
variable (w : World) (mean : ExcName → Option Value) (mg mb : Str → Option Value)
theorem sub_of (x y : Addr) (pr : Int) (t5 : Tok) (rv : Value) (news : Led) (a' b' c' d' : Int)
    (hC : ∀ v : Tok, Cl w mean mg mb 6 219 news [.ref x, .ref y, .int pr t5, rv, .int 1 v] (R4 (hd.heap_39 w.params) a' b' c' d')) :
    Cl w mean mg mb 8 227 news [.ref x, .ref y, .int pr t5, rv] (R4 (hd.heap_39 w.params) a' b' c' d') := by
  show Cl _ _ _ _ _ _ _ _ _
  unfold Cl PR
  k_fill
  intro dp un gd cn cs a ccd cl outer A₀ base h₀ L m s Q E B F X N T hk hd hu hret
  tb_rel
  all_goals first | (ktn_open; exact ⟨rfl, rfl, rfl, rfl⟩) | (exfalso; omega)
end
local macro_rules | `(tactic| walk_at "call ref cons nil") => `(tactic| (k_here; (with_reducible show wpAny _ _ (call (Value.ref 219) _) _ _ _); k_dflt (refine' use ?cC ?k1 ?k2 ?k3 ?k4 ?k5 ?kK ?kd ?ku ?_; (case cC => (rename (∀ _ : Tok, Cl _ _ _ _ _ _ _ _ _) => hC9; exact hC9 _)); tb_start; intro bb9 cc9 dd9 x9 a9 b9 c9 d9 tl9 h9 tk9 F9 N9 ht9 T9; (try dsimp only); (try k_fold))))
section
variable (w : World) (mean : ExcName → Option Value) (mg mb : Str → Option Value)
theorem sub_ofS (x y : Addr) (pr : Int) (t5 : Tok) (rv : Value) (news : Led) (sg : Int)
    (hC : ∀ v : Tok, Cl w mean mg mb 6 219 news [.ref x, .ref y, .int pr t5, rv, .int 1 v] (RS (hd.heap_39 w.params) sg)) :
    Cl w mean mg mb 8 227 news [.ref x, .ref y, .int pr t5, rv] (RS (hd.heap_39 w.params) sg) := by
  show Cl _ _ _ _ _ _ _ _ _
  unfold Cl PR
  k_fill
  intro dp un gd cn cs a ccd cl outer A₀ base h₀ L m s Q E B F X N T hk hd hu hret
  tb_rel
  all_goals first
    | (refine' r4_end (hret _ _ _) ?eF ?eN ?eS ?eT ⟨rfl, rfl, rfl, rfl⟩; (case eF => k_asm); (case eN => k_asm); (case eS => kqd_sub); (case eT => ktr_rel))
    | (exfalso; omega)
end
end
section
local macro_rules | `(tactic| walk_at "call ref cons nil") => `(tactic| (k_here; (with_reducible show wpAny _ _ (call (Value.ref 21) _) _ _ _); k_dflt (refine' use (trailing_c _ _ _ _ _ _ _ ?p1) ?k1 ?k2 ?k3 ?k4 ?k5 ?kK ?kd ?ku ?_; tb_start; (case p1 => omega); intro t9 h9 tk9 F9 N9; (try dsimp only); (try k_fold))))
local macro_rules | `(tactic| walk_at "call ref cons nil") => `(tactic| (k_here; (with_reducible show wpAny _ _ (call (Value.ref 92) _) _ _ _); k_dflt (refine' use (round102_c _ _ _ _ _ _ _ _ _ _ _ _ _ ?p1 ?p2) ?k1 ?k2 ?k3 ?k4 ?k5 ?kK ?kd ?ku ?_; tb_start; (case p2 => ktr_rel); (case p1 => with_reducible assumption); intro x9 a9 b9 c9 d9 tl9 h9 tk9 F9 N9 ht9 T9; (try dsimp only); (try k_fold))))
local macro_rules | `(tactic| walk_at "call ref cons nil") => `(tactic| (k_here; (with_reducible show wpAny _ _ (call (Value.ref 92) _) _ _ _); k_dflt (refine' use (round99_c _ _ _ _ _ _ _ _ _ _ _ _ _ ?p1 ?p2) ?k1 ?k2 ?k3 ?k4 ?k5 ?kK ?kd ?ku ?_; tb_start; (case p2 => ktr_rel); (case p1 => with_reducible assumption); intro x9 a9 b9 c9 d9 tl9 h9 tk9 F9 N9 ht9 T9; (try dsimp only); (try k_fold))))
local macro_rules | `(tactic| walk_at "call ref cons nil") => `(tactic| (k_here; (with_reducible show wpAny _ _ (call (Value.ref 92) _) _ _ _); k_dflt (refine' use (round110_c _ _ _ _ _ _ _ _ _ _ _ _ _ ?p1 ?p2) ?k1 ?k2 ?k3 ?k4 ?k5 ?kK ?kd ?ku ?_; tb_start; (case p2 => ktr_rel); (case p1 => with_reducible assumption); intro x9 a9 b9 c9 d9 tl9 h9 tk9 F9 N9 ht9 T9; (try dsimp only); (try k_fold))))
theorem floor_sg (v p : Int) : (v < 0 → rW 102 (abA v p) (abB p) < 0) ∧ (0 ≤ v → 0 ≤ rW 102 (abA v p) (abB p)) := by
  have hB : 0 < abB p := kbt_pos _
  have hA := sg_mul (D := v) (kbt_pos (if p > 0 then p else 0).toNat)
  rw [rW_down _ _ hB]
  obtain ⟨q, r, e, h0, h1, q1, _⟩ := quo (abA v p) (abB p) hB
  rw [q1]
  unfold abA at e
  generalize v * 2 ^ (if p > 0 then p else 0).toNat = A at *
  generalize abB p = B at *
  refine ⟨fun h => ?_, fun h => ?_⟩
  · by_cases hq : q < 0
    · exact hq
    · have := Int.mul_nonneg (a := B) (b := q) (by omega) (by omega); omega
  · by_cases hq : 0 ≤ q
    · exact hq
    · have := Int.mul_le_mul_of_nonneg_left (show q ≤ -1 by omega) (show 0 ≤ B by omega)
      rw [Int.mul_neg, Int.mul_one] at this; omega
section
variable (w : World) (mean : ExcName → Option Value) (mg mb : Str → Option Value)
theorem subF_c (x y : Addr) (v p F : Int) (t1 t2 t3 t4 u1 u2 u3 u4 t5 : Tok) (rv : Value) (news : Led) (hb : Bd v p) (hT : T4 w news x v p t1 t2 t3 t4) (hU : T4 w news y F 0 u1 u2 u3 u4) (hF : F = rW 102 (abA v p) (abB p)) :
    Cl w mean mg mb 8 227 news [.ref x, .ref y, .int 0 t5, rv] (R4 (hd.heap_39 w.params) (tS (abA v p - F * abB p)) (tM (abA v p - F * abB p)) (tE (abA v p - F * abB p) (-(if -p > 0 then -p else 0))) (tB (abA v p - F * abB p))) := by
  refine sub_of w mean mg mb x y 0 t5 rv news _ _ _ _ fun v' => ?_
  obtain ⟨F1, F2⟩ := floor_bd v p hb
  rw [← hF] at F1 F2
  by_cases hF0 : F = 0
  · obtain ⟨q1, q2, q3, q4⟩ := frac_z v p F hF0
    rw [← q1, ← q2, ← q3, ← q4]
    obtain ⟨z1, z2, z3, z4⟩ := (told_facts F 0).2.2.2.1 hF0
    unfold T4 at hT hU
    rw [z1, z2, z3, z4] at hU
    by_cases h : v = 0
    · obtain ⟨y1, y2, y3, y4⟩ := (told_facts v p).2.2.2.1 h
      rw [y1, y2, y3, y4] at hT ⊢
      exact add00z_c w mean mg mb x y t1 t2 t3 t4 u1 u2 u3 u4 t5 v' rv news hT hU
    · obtain ⟨m0, modd, b1, b2, b3, e1, e2, _, _, eb⟩ := parts_bd v p hb h
      obtain ⟨k, e, t⟩ := told_val v p h
      have w1 := told_eq v (sgnd (tS v) (tM v)) p (tE v p) 0 k (by rw [Int.pow_zero, Int.mul_one]; exact e) (by omega)
      rcases (told_facts v p).1 with hs | hs
      · rw [hs] at hT w1
        have C := addz0_c w mean mg mb x y _ _ _ t1 t2 t3 t4 u1 u2 u3 u4 t5 v' rv news hT hU m0 eb (by omega)
        rw [← w1.1, ← w1.2.1, ← w1.2.2.1, ← w1.2.2.2] at C
        rw [hs]
        exact C
      · rw [hs] at hT w1
        have C := addz1_c w mean mg mb x y _ _ _ t1 t2 t3 t4 u1 u2 u3 u4 t5 v' rv news hT hU m0 eb (by omega)
        rw [← w1.1, ← w1.2.1, ← w1.2.2.1, ← w1.2.2.2] at C
        rw [hs]
        exact C
  · have h : v ≠ 0 := by
      intro h
      apply hF0
      rw [hF, h, abA_zero, rW_zero _ _ (kbt_pos _)]
    obtain ⟨m0, modd, b1, b2, b3, e1, e2, _, _, eb⟩ := parts_bd v p hb h
    obtain ⟨n0, n1, n2, n3⟩ := parts_F F hF0 F1 F2
    obtain ⟨q1, q2, q3, q4⟩ := frac_dif v p F h hF0
    rw [← q1, ← q2, ← q3, ← q4]
    unfold T4 at hT hU
    have hsg : tS v = tS F := by
      obtain ⟨w1, w2⟩ := floor_sg v p
      rw [← hF] at w1 w2
      unfold tS
      by_cases hv0 : v < 0
      · rw [if_pos hv0, if_pos (w1 hv0)]
      · rw [if_neg hv0, if_neg (Int.not_lt.mpr (w2 (Int.not_lt.mp hv0)))]
    rcases (told_facts v p).1 with hs | hs
    all_goals
      have hs2 := hsg.symm.trans hs
      rw [hs] at hT ⊢
      rw [hs2] at hU ⊢
      first
        | refine add00_c w mean mg mb x y _ _ _ _ _ _ _ _ t1 t2 t3 t4 u1 u2 u3 u4 t5 v' rv news hT hU m0 b3 n0 n1 e1 e2 (by omega) n3 (fun z => ?_) (fun z => ?_) (fun z => ?_)
        | refine add11_c w mean mg mb x y _ _ _ _ _ _ _ _ t1 t2 t3 t4 u1 u2 u3 u4 t5 v' rv news hT hU m0 b3 n0 n1 e1 e2 (by omega) n3 (fun z => ?_) (fun z => ?_) (fun z => ?_)
      · refine ⟨by unfold difE; rw [if_neg (by omega)], ?_⟩
        unfold dif
        rw [if_neg (by omega)]
        simp only [sgnd0, sgnd1, Int.neg_mul]
      · refine ⟨by unfold difE; rw [if_pos (by omega)], ?_⟩
        unfold dif
        rw [if_pos (by omega)]
        simp only [sgnd0, sgnd1, Int.neg_mul]
      · refine ⟨by unfold difE; rw [if_neg (by omega)], ?_⟩
        unfold dif
        rw [if_neg (by omega), z]
        simp only [sgnd0, sgnd1, Int.neg_mul, Int.toNat_zero, Int.pow_zero, Int.mul_one]
end
local macro_rules | `(tactic| walk_at "call ref cons nil") => `(tactic| (k_here; (with_reducible show wpAny _ _ (call (Value.ref 100) _) _ _ _); k_dflt (refine' use (floor_c _ _ _ _ _ _ _ _ _ _ _ _ ?p1 ?p2) ?k1 ?k2 ?k3 ?k4 ?k5 ?kK ?kd ?ku ?_; tb_start; (case p2 => ktr_rel); (case p1 => with_reducible assumption); intro x9 a9 b9 c9 d9 tl9 h9 tk9 F9 N9 ht9 T9; (try dsimp only); (try k_fold))))
local macro_rules | `(tactic| walk_at "call ref cons nil") => `(tactic| (k_here; (with_reducible show wpAny _ _ (call (Value.ref 227) _) _ _ _); k_dflt (refine' use (subF_c _ _ _ _ _ _ _ _ _ _ _ _ _ _ _ _ _ _ _ _ ?p1 ?p2 ?p3 ?p4) ?k1 ?k2 ?k3 ?k4 ?k5 ?kK ?kd ?ku ?_; tb_start; (case p2 => ktr_rel); (case p3 => ktr_rel); (case p4 => exact rfl); (case p1 => with_reducible assumption); intro x9 a9 b9 c9 d9 tl9 h9 tk9 F9 N9 ht9 T9; (try dsimp only); (try k_fold))))
section
variable (w : World) (mean : ExcName → Option Value) (mg mb : Str → Option Value)
theorem frac_c (x : Addr) (v p : Int) (t1 t2 t3 t4 : Tok) (news : Led) (hb : Bd v p) (hT : T4 w news x v p t1 t2 t3 t4) :
    Cl w mean mg mb 10 124 news [.ref x] (R4 (hd.heap_39 w.params) (tS (abA v p - rW 102 (abA v p) (abB p) * abB p)) (tM (abA v p - rW 102 (abA v p) (abB p) * abB p)) (tE (abA v p - rW 102 (abA v p) (abB p) * abB p) (-(if -p > 0 then -p else 0))) (tB (abA v p - rW 102 (abA v p) (abB p) * abB p))) := by
  dsimp only [Cl, PR]
  k_fill
  intro dp un gd cn cs a ccd cl outer A₀ base h₀ L m s Q E B F X N T hk hd hu hret
  tb_rel
  all_goals first | (ktn_open; exact ⟨rfl, rfl, rfl, rfl⟩) | (exfalso; omega)
end
end
section
local macro_rules | `(tactic| walk_at "call ref cons nil") => `(tactic| (k_here; (with_reducible show wpAny _ _ (call (Value.ref 21) _) _ _ _); k_dflt (refine' use (trailing_c _ _ _ _ _ _ _ ?p1) ?k1 ?k2 ?k3 ?k4 ?k5 ?kK ?kd ?ku ?_; tb_start; (case p1 => omega); intro t9 h9 tk9 F9 N9; (try dsimp only); (try k_fold))))
theorem gap_told (v p v2 p2 : Int) : (tS v = tS v2 ∧ tM v = tM v2 ∧ tE v p = tE v2 p2 ∧ tB v = tB v2) ↔ gapF v p v2 p2 = 0 := by
  unfold gapF abA abB
  constructor
  · rintro ⟨h1, h2, h3, _⟩
    by_cases h0 : v = 0
    · have f := ((told_facts v p).2.2.2.1 h0).2.1
      have h5 : v2 = 0 := by
        by_cases e : v2 = 0
        · exact e
        · have := ((told_facts v2 p2).2.2.1 e).1; omega
      rw [h0, h5]; simp
    · have h5 : v2 ≠ 0 := by
        intro e
        have := ((told_facts v2 p2).2.2.2.1 e).2.1
        have := ((told_facts v p).2.2.1 h0).1; omega
      obtain ⟨k, e, t⟩ := told_val v p h0
      obtain ⟨k2, e2, t2⟩ := told_val v2 p2 h5
      rw [h1, h2] at e
      have hx : (2 : Int) ^ k * 2 ^ (if p > 0 then p else 0).toNat * 2 ^ (if -p2 > 0 then -p2 else 0).toNat = 2 ^ k2 * 2 ^ (if p2 > 0 then p2 else 0).toNat * 2 ^ (if -p > 0 then -p else 0).toNat := by
        rw [← Int.pow_add, ← Int.pow_add, ← Int.pow_add, ← Int.pow_add]
        congr 1
        split <;> split <;> split <;> split <;> omega
      generalize sgnd (tS v2) (tM v2) = S at *
      have a1 : v * 2 ^ (if p > 0 then p else 0).toNat * 2 ^ (if -p2 > 0 then -p2 else 0).toNat = S * (2 ^ k * 2 ^ (if p > 0 then p else 0).toNat * 2 ^ (if -p2 > 0 then -p2 else 0).toNat) := by
        rw [e]; simp only [Int.mul_assoc]
      have a2 : v2 * 2 ^ (if p2 > 0 then p2 else 0).toNat * 2 ^ (if -p > 0 then -p else 0).toNat = S * (2 ^ k2 * 2 ^ (if p2 > 0 then p2 else 0).toNat * 2 ^ (if -p > 0 then -p else 0).toNat) := by
        rw [e2]; simp only [Int.mul_assoc]
      rw [a1, a2, hx]; omega
  · intro h
    refine told_eq v v2 p p2 ((if p > 0 then p else 0).toNat + (if -p2 > 0 then -p2 else 0).toNat) ((if p2 > 0 then p2 else 0).toNat + (if -p > 0 then -p else 0).toNat) ?_ ?_
    · rw [Int.pow_add, Int.pow_add, ← Int.mul_assoc, ← Int.mul_assoc]; omega
    · split <;> split <;> split <;> split <;> omega
section
variable (w : World) (mean : ExcName → Option Value) (mg mb : Str → Option Value)
theorem eq_c (x y : Addr) (v p v2 p2 : Int) (t1 t2 t3 t4 u1 u2 u3 u4 : Tok) (news : Led) (hb : Bd v p) (hb2 : Bd v2 p2) (hT : T4 w news x v p t1 t2 t3 t4) (hU : T4 w news y v2 p2 u1 u2 u3 u4) :
    Cl w mean mg mb 12 153 news [.ref x, .ref y] (RB (decide (gapF v p v2 p2 = 0))) := by
  obtain ⟨g1, g2, g3, g4, g5, g6, g7, g8⟩ := parts0 v p hb
  obtain ⟨i1, i2, i3, i4, i5, i6, i7, i8⟩ := parts0 v2 p2 hb2
  have hg := PySem.Flt.Hid.mk (gap_told v p v2 p2)
  dsimp only [Cl, PR]
  k_fill
  intro dp un gd cn cs a ccd cl outer A₀ base h₀ L m s Q E B F X N T hk hd hu hret
  tb_rel
  all_goals first
    | (exfalso; omega)
    | (ktn_open; exact decide_eq_decide.mpr hg.out)
end
end
section
local macro_rules | `(tactic| walk_at "call ref cons nil") => `(tactic| (k_here; (with_reducible show wpAny _ _ (call (Value.ref 21) _) _ _ _); k_dflt (refine' use (trailing_c _ _ _ _ _ _ _ ?p1) ?k1 ?k2 ?k3 ?k4 ?k5 ?kK ?kd ?ku ?_; tb_start; (case p1 => omega); intro t9 h9 tk9 F9 N9; (try dsimp only); (try k_fold))))
section
variable (w : World) (mean : ExcName → Option Value) (mg mb : Str → Option Value)
theorem sub5_c (x y : Addr) (v p v2 p2 : Int) (t1 t2 t3 t4 u1 u2 u3 u4 t5 t6 : Tok) (news : Led) (hb : Bd v p) (hb2 : Bd v2 p2) (hT : T4 w news x v p t1 t2 t3 t4) (hU : T4 w news y v2 p2 u1 u2 u3 u4)
    (hv : v ≠ 0) (hv2 : v2 ≠ 0) (hs : tS v = tS v2) (ho : tE v p - tE v2 p2 ≤ 21) (ho' : -21 ≤ tE v p - tE v2 p2) (hne : tE v p ≠ tE v2 p2) :
    Cl w mean mg mb 8 227 news [.ref x, .ref y, .int 5 t5, .str ⟨#[102]⟩ t6] (RS (hd.heap_39 w.params) (tS (gapF v p v2 p2))) := by
  refine sub_ofS w mean mg mb x y 5 t5 _ news _ fun v' => ?_
  obtain ⟨m0, _, b1, b2, b3, e1, e2, _, _, eb⟩ := parts_bd v p hb hv
  obtain ⟨m0', _, b1', b2', b3', e1', e2', _, _, eb'⟩ := parts_bd v2 p2 hb2 hv2
  obtain ⟨g1, g2, g3⟩ := gap_sgn v p v2 p2 hv hv2
  have g0 : gapF v p v2 p2 ≠ 0 := fun e => hne ((gap_told v p v2 p2).mpr e).2.2.1
  obtain ⟨_, _, _, _, _, s1, s0⟩ := told_facts (gapF v p v2 p2) 0
  have hp1 := prod_bd (tM v) (tE v p - tE v2 p2).toNat m0 b3 (by omega)
  have hp2 := prod_bd (tM v2) (-(tE v p - tE v2 p2)).toNat m0' b3' (by omega)
  generalize gapF v p v2 p2 = G at *
  unfold T4 at hT hU
  rcases (told_facts v p).1 with h | h
  · have h2 : tS v2 = 0 := by omega
    rw [h] at hT g1 g2 g3
    rw [h2] at hU g1 g2 g3
    refine add50_c w mean mg mb x y _ _ _ _ _ _ _ _ t1 t2 t3 t4 u1 u2 u3 u4 t5 v' t6 news hT hU m0 b3 m0' b3' e1 e2 e1' e2' hp1 hp2 ?_ (fun e => g0 (g3.mpr e)) (fun z => s0 (by omega)) (fun z => s1 (by omega))
    unfold dif
    rcases (by omega : 0 < tE v p - tE v2 p2 ∨ tE v p - tE v2 p2 < 0) with z | z
    · exact .inl ⟨z, by rw [if_neg (by omega)]; simp only [sgnd0]⟩
    · exact .inr ⟨z, by rw [if_pos (by omega)]; simp only [sgnd0]⟩
  · have h2 : tS v2 = 1 := by omega
    rw [h] at hT g1 g2 g3
    rw [h2] at hU g1 g2 g3
    refine add51_c w mean mg mb x y _ _ _ _ _ _ _ _ t1 t2 t3 t4 u1 u2 u3 u4 t5 v' t6 news hT hU m0 b3 m0' b3' e1 e2 e1' e2' hp1 hp2 ?_ (fun e => g0 (g3.mpr e)) (fun z => s0 (by omega)) (fun z => s1 (by omega))
    unfold dif
    rcases (by omega : 0 < tE v p - tE v2 p2 ∨ tE v p - tE v2 p2 < 0) with z | z
    · exact .inl ⟨z, by rw [if_neg (by omega)]; simp only [sgnd1, Int.neg_mul]⟩
    · exact .inr ⟨z, by rw [if_pos (by omega)]; simp only [sgnd1, Int.neg_mul]⟩
end
local macro_rules | `(tactic| walk_at "call ref cons nil") => `(tactic| (k_here; (with_reducible show wpAny _ _ (call (Value.ref 211) _) _ _ _); k_dflt (refine' use (sgn_c _ _ _ _ _ _ _ _ _ _ _ _ ?p1 ?p2) ?k1 ?k2 ?k3 ?k4 ?k5 ?kK ?kd ?ku ?_; tb_start; (case p2 => ktr_rel); (case p1 => with_reducible assumption); intro o9 ho9 ho9' ho9'' t9 h9 tk9 F9 N9; (try dsimp only); (try k_fold))))
section
variable (w : World) (mean : ExcName → Option Value) (mg mb : Str → Option Value)
theorem cmpz1_c (x y : Addr) (v p v2 p2 : Int) (t1 t2 t3 t4 u1 u2 u3 u4 : Tok) (news : Led) (hb : Bd v p) (hb2 : Bd v2 p2) (hT : TupI (hd.heap_39 w.params) news x [.int 0 t1, .int 0 t2, .int 0 t3, .int 0 t4]) (hU : T4 w news y v2 p2 u1 u2 u3 u4) (h : v = 0) :
    Cl w mean mg mb 10 160 news [.ref x, .ref y] (RO (gapF v p v2 p2)) := by
  obtain ⟨g1, g2, g3⟩ := gap_z1 v p v2 p2 h
  dsimp only [Cl, PR]
  k_fill
  intro dp un gd cn cs a ccd cl outer A₀ base h₀ L m s Q E B F X N T hk hd hu hret
  tb_rel
  all_goals first
    | (exfalso; omega)
    | (refine' ri_end (hret _ ?h1 ?h2 ?h3) ?eF ?eN ?eS rfl; (case eF => k_asm); (case eN => k_asm); (case eS => kqd_sub); (case h1 => omega); (case h2 => omega); (case h3 => omega))
theorem cmpz2_c (x y : Addr) (v p v2 p2 : Int) (t1 t2 t3 t4 u1 u2 u3 u4 : Tok) (news : Led) (hb : Bd v p) (hb2 : Bd v2 p2) (hT : T4 w news x v p t1 t2 t3 t4) (hU : TupI (hd.heap_39 w.params) news y [.int 0 u1, .int 0 u2, .int 0 u3, .int 0 u4]) (h : v ≠ 0) (h2 : v2 = 0) :
    Cl w mean mg mb 10 160 news [.ref x, .ref y] (RO (gapF v p v2 p2)) := by
  obtain ⟨g1, g2, g3⟩ := gap_z2 v p v2 p2 h2
  obtain ⟨m0, _⟩ := (told_facts v p).2.2.1 h
  dsimp only [Cl, PR]
  k_fill
  intro dp un gd cn cs a ccd cl outer A₀ base h₀ L m s Q E B F X N T hk hd hu hret
  tb_rel
  all_goals first
    | (exfalso; omega)
    | (refine' ri_end (hret _ ?h1 ?h2 ?h3) ?eF ?eN ?eS rfl; (case eF => k_asm); (case eN => k_asm); (case eS => kqd_sub); (case h1 => omega); (case h2 => omega); (case h3 => omega))
end
local macro_rules | `(tactic| walk_at "call ref cons nil") => `(tactic| (k_here; (with_reducible show wpAny _ _ (call (Value.ref 227) _) _ _ _); k_dflt (refine' use ?cC ?k1 ?k2 ?k3 ?k4 ?k5 ?kK ?kd ?ku ?_; (case cC => (rename (∀ _ : Tok, ∀ _ : Tok, _ → _ → Cl _ _ _ _ _ _ _ _ _) => hC9; exact hC9 _ _ (by omega) (by omega))); tb_start; intro bb9 cc9 dd9 x9 a9 b9 c9 d9 tl9 h9 tk9 F9 N9 ht9 T9; (try dsimp only); (try k_fold))))
section
variable (w : World) (mean : ExcName → Option Value) (mg mb : Str → Option Value)
theorem cmp0_of (x y : Addr) (m1 e1 b1 m2 e2 b2 G sG : Int) (t1 t2 t3 t4 u1 u2 u3 u4 : Tok) (news : Led) (hT : TupI (hd.heap_39 w.params) news x [.int 0 t1, .int m1 t2, .int e1 t3, .int b1 t4]) (hU : TupI (hd.heap_39 w.params) news y [.int 0 u1, .int m2 u2, .int e2 u3, .int b2 u4])
    (h1 : 0 < m1) (h2 : 0 < m2)
    (k0 : (e1 = e2 ∧ m1 = m2 ∧ G = 0) ∨ (e1 = e2 ∧ m1 < m2 ∧ G < 0) ∨ (e1 = e2 ∧ m2 < m1 ∧ 0 < G) ∨ (e1 ≠ e2 ∧ b1 + e1 < b2 + e2 ∧ G < 0) ∨ (e1 ≠ e2 ∧ b2 + e2 < b1 + e1 ∧ 0 < G) ∨ (e1 ≠ e2 ∧ b1 + e1 = b2 + e2 ∧ G < 0 ∧ sG = 1) ∨ (e1 ≠ e2 ∧ b1 + e1 = b2 + e2 ∧ 0 < G ∧ sG = 0))
    (hC : ∀ (t5 t6 : Tok), e1 ≠ e2 → b1 + e1 = b2 + e2 → Cl w mean mg mb 8 227 news [.ref x, .ref y, .int 5 t5, .str ⟨#[102]⟩ t6] (RS (hd.heap_39 w.params) sG)) :
    Cl w mean mg mb 10 160 news [.ref x, .ref y] (RO G) := by
  have z1 : m1 ≠ 0 := by omega
  have z2 : m2 ≠ 0 := by omega
  have q0 := PySem.Flt.Hid.mk k0
  clear k0
  show Cl _ _ _ _ _ _ _ _ _
  unfold Cl PR
  k_fill
  intro dp un gd cn cs a ccd cl outer A₀ base h₀ L m s Q E B F X N T hk hd hu hret
  tb_rel
  all_goals have k0 := q0.out
  all_goals first
    | (refine' ri_end (hret _ ?h1 ?h2 ?h3) ?eF ?eN ?eS rfl; (case eF => k_asm); (case eN => k_asm); (case eS => kqd_sub); (case h1 => omega); (case h2 => omega); (case h3 => omega))
    | (exfalso; omega)
theorem cmp1_of (x y : Addr) (m1 e1 b1 m2 e2 b2 G sG : Int) (t1 t2 t3 t4 u1 u2 u3 u4 : Tok) (news : Led) (hT : TupI (hd.heap_39 w.params) news x [.int 1 t1, .int m1 t2, .int e1 t3, .int b1 t4]) (hU : TupI (hd.heap_39 w.params) news y [.int 1 u1, .int m2 u2, .int e2 u3, .int b2 u4])
    (h1 : 0 < m1) (h2 : 0 < m2)
    (k0 : (e1 = e2 ∧ m1 = m2 ∧ G = 0) ∨ (e1 = e2 ∧ m1 < m2 ∧ 0 < G) ∨ (e1 = e2 ∧ m2 < m1 ∧ G < 0) ∨ (e1 ≠ e2 ∧ b1 + e1 < b2 + e2 ∧ 0 < G) ∨ (e1 ≠ e2 ∧ b2 + e2 < b1 + e1 ∧ G < 0) ∨ (e1 ≠ e2 ∧ b1 + e1 = b2 + e2 ∧ G < 0 ∧ sG = 1) ∨ (e1 ≠ e2 ∧ b1 + e1 = b2 + e2 ∧ 0 < G ∧ sG = 0))
    (hC : ∀ (t5 t6 : Tok), e1 ≠ e2 → b1 + e1 = b2 + e2 → Cl w mean mg mb 8 227 news [.ref x, .ref y, .int 5 t5, .str ⟨#[102]⟩ t6] (RS (hd.heap_39 w.params) sG)) :
    Cl w mean mg mb 10 160 news [.ref x, .ref y] (RO G) := by
  have z1 : m1 ≠ 0 := by omega
  have z2 : m2 ≠ 0 := by omega
  have q0 := PySem.Flt.Hid.mk k0
  clear k0
  show Cl _ _ _ _ _ _ _ _ _
  unfold Cl PR
  k_fill
  intro dp un gd cn cs a ccd cl outer A₀ base h₀ L m s Q E B F X N T hk hd hu hret
  tb_rel
  all_goals have k0 := q0.out
  all_goals first
    | (refine' ri_end (hret _ ?h1 ?h2 ?h3) ?eF ?eN ?eS rfl; (case eF => k_asm); (case eN => k_asm); (case eS => kqd_sub); (case h1 => omega); (case h2 => omega); (case h3 => omega))
    | (exfalso; omega)
theorem cmp01_of (x y : Addr) (m1 e1 b1 m2 e2 b2 G : Int) (t1 t2 t3 t4 u1 u2 u3 u4 : Tok) (news : Led) (hT : TupI (hd.heap_39 w.params) news x [.int 0 t1, .int m1 t2, .int e1 t3, .int b1 t4]) (hU : TupI (hd.heap_39 w.params) news y [.int 1 u1, .int m2 u2, .int e2 u3, .int b2 u4])
    (h1 : 0 < m1) (h2 : 0 < m2) (hG : 0 < G) :
    Cl w mean mg mb 10 160 news [.ref x, .ref y] (RO G) := by
  have z1 : m1 ≠ 0 := by omega
  have z2 : m2 ≠ 0 := by omega
  show Cl _ _ _ _ _ _ _ _ _
  unfold Cl PR
  k_fill
  intro dp un gd cn cs a ccd cl outer A₀ base h₀ L m s Q E B F X N T hk hd hu hret
  tb_rel
  all_goals first
    | (refine' ri_end (hret _ ?h1 ?h2 ?h3) ?eF ?eN ?eS rfl; (case eF => k_asm); (case eN => k_asm); (case eS => kqd_sub); (case h1 => omega); (case h2 => omega); (case h3 => omega))
    | (exfalso; omega)
theorem cmp10_of (x y : Addr) (m1 e1 b1 m2 e2 b2 G : Int) (t1 t2 t3 t4 u1 u2 u3 u4 : Tok) (news : Led) (hT : TupI (hd.heap_39 w.params) news x [.int 1 t1, .int m1 t2, .int e1 t3, .int b1 t4]) (hU : TupI (hd.heap_39 w.params) news y [.int 0 u1, .int m2 u2, .int e2 u3, .int b2 u4])
    (h1 : 0 < m1) (h2 : 0 < m2) (hG : G < 0) :
    Cl w mean mg mb 10 160 news [.ref x, .ref y] (RO G) := by
  have z1 : m1 ≠ 0 := by omega
  have z2 : m2 ≠ 0 := by omega
  show Cl _ _ _ _ _ _ _ _ _
  unfold Cl PR
  k_fill
  intro dp un gd cn cs a ccd cl outer A₀ base h₀ L m s Q E B F X N T hk hd hu hret
  tb_rel
  all_goals first
    | (refine' ri_end (hret _ ?h1 ?h2 ?h3) ?eF ?eN ?eS rfl; (case eF => k_asm); (case eN => k_asm); (case eS => kqd_sub); (case h1 => omega); (case h2 => omega); (case h3 => omega))
    | (exfalso; omega)
end
end
section
local macro_rules | `(tactic| walk_at "call ref cons nil") => `(tactic| (k_here; (with_reducible show wpAny _ _ (call (Value.ref 21) _) _ _ _); k_dflt (refine' use (trailing_c _ _ _ _ _ _ _ ?p1) ?k1 ?k2 ?k3 ?k4 ?k5 ?kK ?kd ?ku ?_; tb_start; (case p1 => omega); intro t9 h9 tk9 F9 N9; (try dsimp only); (try k_fold))))
theorem cmp_arith {m1 e1 b1 m2 e2 b2 G sG : Int} (k3 : e1 = e2 → m1 = m2 → G = 0) (k4 : e1 = e2 → (m2 < m1 → 0 < G) ∧ (m1 < m2 → G < 0)) (k6 : (b1 + e1 < b2 + e2 → G < 0) ∧ (b2 + e2 < b1 + e1 → 0 < G))
    (s1 : G < 0 → sG = 1) (s0 : 0 ≤ G → sG = 0) (k10 : e1 ≠ e2 → G ≠ 0) :
    (e1 = e2 ∧ m1 = m2 ∧ G = 0) ∨ (e1 = e2 ∧ m1 < m2 ∧ G < 0) ∨ (e1 = e2 ∧ m2 < m1 ∧ 0 < G) ∨ (e1 ≠ e2 ∧ b1 + e1 < b2 + e2 ∧ G < 0) ∨ (e1 ≠ e2 ∧ b2 + e2 < b1 + e1 ∧ 0 < G) ∨ (e1 ≠ e2 ∧ b1 + e1 = b2 + e2 ∧ G < 0 ∧ sG = 1) ∨ (e1 ≠ e2 ∧ b1 + e1 = b2 + e2 ∧ 0 < G ∧ sG = 0) := by
  by_cases e : e1 = e2
  · rcases (by omega : m1 = m2 ∨ m1 < m2 ∨ m2 < m1) with h | h | h
    · exact .inl ⟨e, h, k3 e h⟩
    · exact .inr (.inl ⟨e, h, (k4 e).2 h⟩)
    · exact .inr (.inr (.inl ⟨e, h, (k4 e).1 h⟩))
  · rcases (by omega : b1 + e1 < b2 + e2 ∨ b2 + e2 < b1 + e1 ∨ b1 + e1 = b2 + e2) with h | h | h
    · exact .inr (.inr (.inr (.inl ⟨e, h, k6.1 h⟩)))
    · exact .inr (.inr (.inr (.inr (.inl ⟨e, h, k6.2 h⟩))))
    · have := k10 e
      rcases (by omega : G < 0 ∨ 0 < G) with g | g
      · exact .inr (.inr (.inr (.inr (.inr (.inl ⟨e, h, g, s1 g⟩)))))
      · exact .inr (.inr (.inr (.inr (.inr (.inr ⟨e, h, g, s0 (by omega)⟩)))))
theorem cmp_arith1 {m1 e1 b1 m2 e2 b2 G sG : Int} (k3 : e1 = e2 → m1 = m2 → G = 0) (k4 : e1 = e2 → (m2 < m1 → G < 0) ∧ (m1 < m2 → 0 < G)) (k6 : (b1 + e1 < b2 + e2 → 0 < G) ∧ (b2 + e2 < b1 + e1 → G < 0))
    (s1 : G < 0 → sG = 1) (s0 : 0 ≤ G → sG = 0) (k10 : e1 ≠ e2 → G ≠ 0) :
    (e1 = e2 ∧ m1 = m2 ∧ G = 0) ∨ (e1 = e2 ∧ m1 < m2 ∧ 0 < G) ∨ (e1 = e2 ∧ m2 < m1 ∧ G < 0) ∨ (e1 ≠ e2 ∧ b1 + e1 < b2 + e2 ∧ 0 < G) ∨ (e1 ≠ e2 ∧ b2 + e2 < b1 + e1 ∧ G < 0) ∨ (e1 ≠ e2 ∧ b1 + e1 = b2 + e2 ∧ G < 0 ∧ sG = 1) ∨ (e1 ≠ e2 ∧ b1 + e1 = b2 + e2 ∧ 0 < G ∧ sG = 0) := by
  by_cases e : e1 = e2
  · rcases (by omega : m1 = m2 ∨ m1 < m2 ∨ m2 < m1) with h | h | h
    · exact .inl ⟨e, h, k3 e h⟩
    · exact .inr (.inl ⟨e, h, (k4 e).2 h⟩)
    · exact .inr (.inr (.inl ⟨e, h, (k4 e).1 h⟩))
  · rcases (by omega : b1 + e1 < b2 + e2 ∨ b2 + e2 < b1 + e1 ∨ b1 + e1 = b2 + e2) with h | h | h
    · exact .inr (.inr (.inr (.inl ⟨e, h, k6.1 h⟩)))
    · exact .inr (.inr (.inr (.inr (.inl ⟨e, h, k6.2 h⟩))))
    · have := k10 e
      rcases (by omega : G < 0 ∨ 0 < G) with g | g
      · exact .inr (.inr (.inr (.inr (.inr (.inl ⟨e, h, g, s1 g⟩)))))
      · exact .inr (.inr (.inr (.inr (.inr (.inr ⟨e, h, g, s0 (by omega)⟩)))))
section
variable (w : World) (mean : ExcName → Option Value) (mg mb : Str → Option Value)
theorem cmp_c (x y : Addr) (v p v2 p2 : Int) (t1 t2 t3 t4 u1 u2 u3 u4 : Tok) (news : Led) (hb : Bd v p) (hb2 : Bd v2 p2) (hT : T4 w news x v p t1 t2 t3 t4) (hU : T4 w news y v2 p2 u1 u2 u3 u4) :
    Cl w mean mg mb 10 160 news [.ref x, .ref y] (RO (gapF v p v2 p2)) := by
  by_cases hv : v = 0
  · obtain ⟨z1, z2, z3, z4⟩ := (told_facts v p).2.2.2.1 hv
    unfold T4 at hT
    rw [z1, z2, z3, z4] at hT
    exact cmpz1_c w mean mg mb x y v p v2 p2 t1 t2 t3 t4 u1 u2 u3 u4 news hb hb2 hT hU hv
  · by_cases hv2 : v2 = 0
    · obtain ⟨z1, z2, z3, z4⟩ := (told_facts v2 p2).2.2.2.1 hv2
      unfold T4 at hU
      rw [z1, z2, z3, z4] at hU
      exact cmpz2_c w mean mg mb x y v p v2 p2 t1 t2 t3 t4 u1 u2 u3 u4 news hb hb2 hT hU hv hv2
    · obtain ⟨m0, _, b1, b2, b3, e1, e2, _, _, eb⟩ := parts_bd v p hb hv
      obtain ⟨m0', _, b1', b2', b3', e1', e2', _, _, eb'⟩ := parts_bd v2 p2 hb2 hv2
      obtain ⟨k1, k2, k3, k4, k5, k6, k7⟩ := cmp_facts v p v2 p2 hb hb2 hv hv2
      obtain ⟨_, _, _, _, _, s1, s0⟩ := told_facts (gapF v p v2 p2) 0
      have k10 : tE v p ≠ tE v2 p2 → gapF v p v2 p2 ≠ 0 := fun h e => h ((gap_told v p v2 p2).mpr e).2.2.1
      have hC : ∀ (t5 t6 : Tok), tS v = tS v2 → tE v p ≠ tE v2 p2 → tB v + tE v p = tB v2 + tE v2 p2 → Cl w mean mg mb 8 227 news [.ref x, .ref y, .int 5 t5, .str ⟨#[102]⟩ t6] (RS (hd.heap_39 w.params) (tS (gapF v p v2 p2))) :=
        fun t5 t6 h3 h4 h5 => sub5_c w mean mg mb x y v p v2 p2 t1 t2 t3 t4 u1 u2 u3 u4 t5 t6 news hb hb2 hT hU hv hv2 h3 (by omega) (by omega) h4
      unfold T4 at hT hU
      rcases (told_facts v p).1 with h | h <;> rcases (told_facts v2 p2).1 with h' | h'
      · rw [h] at hT
        rw [h'] at hU
        exact cmp0_of w mean mg mb x y _ _ _ _ _ _ _ _ t1 t2 t3 t4 u1 u2 u3 u4 news hT hU m0 m0' (cmp_arith (k3 (h.trans h'.symm)) (k4 h h') (k6 h h') s1 s0 k10) (fun t5 t6 h4 h5 => hC t5 t6 (h.trans h'.symm) h4 h5)
      · rw [h] at hT
        rw [h'] at hU
        exact cmp01_of w mean mg mb x y _ _ _ _ _ _ _ t1 t2 t3 t4 u1 u2 u3 u4 news hT hU m0 m0' (k1 h h')
      · rw [h] at hT
        rw [h'] at hU
        exact cmp10_of w mean mg mb x y _ _ _ _ _ _ _ t1 t2 t3 t4 u1 u2 u3 u4 news hT hU m0 m0' (k2 h h')
      · rw [h] at hT
        rw [h'] at hU
        exact cmp1_of w mean mg mb x y _ _ _ _ _ _ _ _ t1 t2 t3 t4 u1 u2 u3 u4 news hT hU m0 m0' (cmp_arith1 (k3 (h.trans h'.symm)) (k5 h h') (k7 h h') s1 s0 k10) (fun t5 t6 h4 h5 => hC t5 t6 (h.trans h'.symm) h4 h5)
end
end
section
local macro_rules | `(tactic| walk_at "call ref cons nil") => `(tactic| (k_here; (with_reducible show wpAny _ _ (call (Value.ref 21) _) _ _ _); k_dflt (refine' use (trailing_c _ _ _ _ _ _ _ ?p1) ?k1 ?k2 ?k3 ?k4 ?k5 ?kK ?kd ?ku ?_; tb_start; (case p1 => omega); intro t9 h9 tk9 F9 N9; (try dsimp only); (try k_fold))))
local macro_rules | `(tactic| walk_at "call ref cons nil") => `(tactic| (k_here; (with_reducible show wpAny _ _ (call (Value.ref 160) _) _ _ _); k_dflt (refine' use (cmp_c _ _ _ _ _ _ _ _ _ _ _ _ _ _ _ _ _ _ _ ?p1 ?p2 ?p3 ?p4) ?k1 ?k2 ?k3 ?k4 ?k5 ?kK ?kd ?ku ?_; tb_start; (case p3 => ktr_rel); (case p4 => ktr_rel); (case p1 => with_reducible assumption); (case p2 => with_reducible assumption); intro o9 ho9 ho9' ho9'' t9 h9 tk9 F9 N9; (try dsimp only); (try k_fold))))
section
variable (w : World) (mean : ExcName → Option Value) (mg mb : Str → Option Value)
theorem lt_c (x y : Addr) (v p v2 p2 : Int) (t1 t2 t3 t4 u1 u2 u3 u4 : Tok) (news : Led) (hb : Bd v p) (hb2 : Bd v2 p2) (hT : T4 w news x v p t1 t2 t3 t4) (hU : T4 w news y v2 p2 u1 u2 u3 u4) :
    Cl w mean mg mb 12 167 news [.ref x, .ref y] (RB (decide (gapF v p v2 p2 < 0))) := by
  obtain ⟨g1, g2, g3, g4, g5, g6, g7, g8⟩ := parts0 v p hb
  obtain ⟨i1, i2, i3, i4, i5, i6, i7, i8⟩ := parts0 v2 p2 hb2
  dsimp only [Cl, PR]
  k_fill
  intro dp un gd cn cs a ccd cl outer A₀ base h₀ L m s Q E B F X N T hk hd hu hret
  tb_rel
  all_goals first
    | (exfalso; omega)
    | (ktn_open; rw [Bool.eq_iff_iff]; simp only [decide_eq_true_eq]; omega)
theorem le_c (x y : Addr) (v p v2 p2 : Int) (t1 t2 t3 t4 u1 u2 u3 u4 : Tok) (news : Led) (hb : Bd v p) (hb2 : Bd v2 p2) (hT : T4 w news x v p t1 t2 t3 t4) (hU : T4 w news y v2 p2 u1 u2 u3 u4) :
    Cl w mean mg mb 12 174 news [.ref x, .ref y] (RB (decide (gapF v p v2 p2 ≤ 0))) := by
  obtain ⟨g1, g2, g3, g4, g5, g6, g7, g8⟩ := parts0 v p hb
  obtain ⟨i1, i2, i3, i4, i5, i6, i7, i8⟩ := parts0 v2 p2 hb2
  dsimp only [Cl, PR]
  k_fill
  intro dp un gd cn cs a ccd cl outer A₀ base h₀ L m s Q E B F X N T hk hd hu hret
  tb_rel
  all_goals first
    | (exfalso; omega)
    | (ktn_open; rw [Bool.eq_iff_iff]; simp only [decide_eq_true_eq]; omega)
theorem gt_c (x y : Addr) (v p v2 p2 : Int) (t1 t2 t3 t4 u1 u2 u3 u4 : Tok) (news : Led) (hb : Bd v p) (hb2 : Bd v2 p2) (hT : T4 w news x v p t1 t2 t3 t4) (hU : T4 w news y v2 p2 u1 u2 u3 u4) :
    Cl w mean mg mb 12 181 news [.ref x, .ref y] (RB (decide (0 < gapF v p v2 p2))) := by
  obtain ⟨g1, g2, g3, g4, g5, g6, g7, g8⟩ := parts0 v p hb
  obtain ⟨i1, i2, i3, i4, i5, i6, i7, i8⟩ := parts0 v2 p2 hb2
  dsimp only [Cl, PR]
  k_fill
  intro dp un gd cn cs a ccd cl outer A₀ base h₀ L m s Q E B F X N T hk hd hu hret
  tb_rel
  all_goals first
    | (exfalso; omega)
    | (ktn_open; rw [Bool.eq_iff_iff]; simp only [decide_eq_true_eq]; omega)
theorem ge_c (x y : Addr) (v p v2 p2 : Int) (t1 t2 t3 t4 u1 u2 u3 u4 : Tok) (news : Led) (hb : Bd v p) (hb2 : Bd v2 p2) (hT : T4 w news x v p t1 t2 t3 t4) (hU : T4 w news y v2 p2 u1 u2 u3 u4) :
    Cl w mean mg mb 12 188 news [.ref x, .ref y] (RB (decide (0 ≤ gapF v p v2 p2))) := by
  obtain ⟨g1, g2, g3, g4, g5, g6, g7, g8⟩ := parts0 v p hb
  obtain ⟨i1, i2, i3, i4, i5, i6, i7, i8⟩ := parts0 v2 p2 hb2
  dsimp only [Cl, PR]
  k_fill
  intro dp un gd cn cs a ccd cl outer A₀ base h₀ L m s Q E B F X N T hk hd hu hret
  tb_rel
  all_goals first
    | (exfalso; omega)
    | (ktn_open; rw [Bool.eq_iff_iff]; simp only [decide_eq_true_eq]; omega)
end
end
section
local macro_rules | `(tactic| walk_at "call ref cons nil") => `(tactic| (k_here; (with_reducible show wpAny _ _ (call (Value.ref 21) _) _ _ _); k_dflt (refine' use (trailing_c _ _ _ _ _ _ _ ?p1) ?k1 ?k2 ?k3 ?k4 ?k5 ?kK ?kd ?ku ?_; tb_start; (case p1 => omega); intro t9 h9 tk9 F9 N9; (try dsimp only); (try k_fold))))
local macro_rules | `(tactic| walk_at "call ref cons nil") => `(tactic| (k_here; (with_reducible show wpAny _ _ (call (Value.ref 242) _) _ _ _); k_dflt (refine' use (number_c _ _ _ _ _ _ _ _ _ _ ?p1 ?p2 ?p3 ?p4 ?p5) ?k1 ?k2 ?k3 ?k4 ?k5 ?kK ?kd ?ku ?_; tb_start; (case p1 => first | assumption | k_mem); (case p2 => l_ints); (case p3 => first | omega | assumption); (case p4 => omega); (case p5 => omega); intro v9 t9 h9 tk9 F9 N9; (try dsimp only); (try k_fold))))
local macro_rules | `(tactic| walk_at "call ref cons nil") => `(tactic| (k_here; (with_reducible show wpAny _ _ (call (Value.ref 249) _) _ _ _); k_dflt (refine' use (drawn_c _ _ _ _ _ _ _ _ _ _ ?p1 ?p2 ?p3 ?p4 ?p5) ?k1 ?k2 ?k3 ?k4 ?k5 ?kK ?kd ?ku ?_; tb_start; (case p1 => first | assumption | k_mem); (case p2 => l_ints); (case p3 => first | omega | assumption); (case p4 => omega); (case p5 => omega); intro v9 p9 hv9 hv9' hp9 hp9' x9 a9 b9 tl9 h9 tk9 F9 N9 ht9 T9; (try dsimp only); (try k_fold))))
local macro_rules | `(tactic| walk_at "call ref cons nil") => `(tactic| (k_here; (with_reducible show wpAny _ _ (call (Value.ref 256) _) _ _ _); k_dflt (refine' use (told_c _ _ _ _ _ _ _ _ _) ?k1 ?k2 ?k3 ?k4 ?k5 ?kK ?kd ?ku ?_; tb_start;  intro x9 a9 b9 c9 d9 tl9 h9 tk9 F9 N9 ht9 T9; (try dsimp only); (try k_fold))))
local macro_rules | `(tactic| walk_at "call ref cons nil") => `(tactic| (k_here; (with_reducible show wpAny _ _ (call (Value.ref 256) _) _ _ _); k_dflt (refine' use (told2_c _ _ _ _ _ _ _ _ _) ?k1 ?k2 ?k3 ?k4 ?k5 ?kK ?kd ?ku ?_; tb_start; intro x9 a9 b9 c9 d9 tl9 h9 tk9 F9 N9 ht9 T9; (try dsimp only); (try k_fold))))
local macro_rules | `(tactic| walk_at "call ref cons nil") => `(tactic| (k_here; (with_reducible show wpAny _ _ (call (Value.ref 61) _) _ _ _); k_dflt (refine' use (fme_c _ _ _ _ _ _ _ _ _ ?p1 ?p2) ?k1 ?k2 ?k3 ?k4 ?k5 ?kK ?kd ?ku ?_; tb_start; (case p1 => omega); (case p2 => omega); intro x9 a9 b9 c9 d9 tl9 h9 tk9 F9 N9 ht9 T9; (try dsimp only); (try k_fold))))
local macro_rules | `(tactic| walk_at "call ref cons nil") => `(tactic| (k_here; (with_reducible show wpAny _ _ (call (Value.ref 85) _) _ _ _); k_dflt (refine' use (toint_c _ _ _ _ _ _ ?p1 _ _ _ _ _ _ _ _ ?p2 ?p3) ?k1 ?k2 ?k3 ?k4 ?k5 ?kK ?kd ?ku ?_; tb_start; (case p3 => ktr_rel); (case p1 => first | (with_reducible assumption) | decide); (case p2 => refine ⟨?_, ?_, ?_, ?_⟩ <;> omega); intro t9 h9 tk9 F9 N9; (try dsimp only); (try k_fold))))
local macro_rules | `(tactic| walk_at "call ref cons nil") => `(tactic| (k_here; (with_reducible show wpAny _ _ (call (Value.ref 263) _) _ _ _); k_dflt (refine' use (whole_c _ _ _ _ _ _ _ _ _ _ _ ?p1 ?p2 ?p3) ?k1 ?k2 ?k3 ?k4 ?k5 ?kK ?kd ?ku ?_; tb_start; (case p1 => first | (with_reducible assumption) | decide); (case p2 => first | (with_reducible assumption) | omega); (case p3 => first | (with_reducible assumption) | omega); intro t9 h9 tk9 F9 N9; (try dsimp only); (try k_fold))))
local macro_rules | `(tactic| walk_at "call ref cons nil") => `(tactic| (k_here; (with_reducible show wpAny _ _ (call (Value.ref 100) _) _ _ _); k_dflt (refine' use (floor_c _ _ _ _ _ _ _ _ _ _ _ _ ?p1 ?p2) ?k1 ?k2 ?k3 ?k4 ?k5 ?kK ?kd ?ku ?_; tb_start; (case p2 => ktr_rel); (case p1 => refine ⟨?_, ?_, ?_, ?_⟩ <;> omega); intro x9 a9 b9 c9 d9 tl9 h9 tk9 F9 N9 ht9 T9; (try dsimp only); (try k_fold))))
local macro_rules | `(tactic| walk_at "call ref cons nil") => `(tactic| (k_here; (with_reducible show wpAny _ _ (call (Value.ref 108) _) _ _ _); k_dflt (refine' use (ceil_c _ _ _ _ _ _ _ _ _ _ _ _ ?p1 ?p2) ?k1 ?k2 ?k3 ?k4 ?k5 ?kK ?kd ?ku ?_; tb_start; (case p2 => ktr_rel); (case p1 => refine ⟨?_, ?_, ?_, ?_⟩ <;> omega); intro x9 a9 b9 c9 d9 tl9 h9 tk9 F9 N9 ht9 T9; (try dsimp only); (try k_fold))))
local macro_rules | `(tactic| walk_at "call ref cons nil") => `(tactic| (k_here; (with_reducible show wpAny _ _ (call (Value.ref 116) _) _ _ _); k_dflt (refine' use (nint_c _ _ _ _ _ _ _ _ _ _ _ _ ?p1 ?p2) ?k1 ?k2 ?k3 ?k4 ?k5 ?kK ?kd ?ku ?_; tb_start; (case p2 => ktr_rel); (case p1 => refine ⟨?_, ?_, ?_, ?_⟩ <;> omega); intro x9 a9 b9 c9 d9 tl9 h9 tk9 F9 N9 ht9 T9; (try dsimp only); (try k_fold))))
local macro_rules | `(tactic| walk_at "call ref cons nil") => `(tactic| (k_here; (with_reducible show wpAny _ _ (call (Value.ref 124) _) _ _ _); k_dflt (refine' use (frac_c _ _ _ _ _ _ _ _ _ _ _ _ ?p1 ?p2) ?k1 ?k2 ?k3 ?k4 ?k5 ?kK ?kd ?ku ?_; tb_start; (case p2 => ktr_rel); (case p1 => refine ⟨?_, ?_, ?_, ?_⟩ <;> omega); intro x9 a9 b9 c9 d9 tl9 h9 tk9 F9 N9 ht9 T9; (try dsimp only); (try k_fold))))
local macro_rules | `(tactic| walk_at "call ref cons nil") => `(tactic| (k_here; (with_reducible show wpAny _ _ (call (Value.ref 146) _) _ _ _); k_dflt (refine' use (fixed_c _ _ _ _ _ _ ?p1 ?p2 _ _ _ _ _ _ _ _ ?p3 ?p4) ?k1 ?k2 ?k3 ?k4 ?k5 ?kK ?kd ?ku ?_; tb_start; (case p4 => ktr_rel); (case p3 => refine ⟨?_, ?_, ?_, ?_⟩ <;> omega); (case p1 => first | omega | (simp only [fm41]; omega)); (case p2 => first | omega | (simp only [fm41]; omega)); intro t9 h9 tk9 F9 N9; (try dsimp only); (try k_fold))))
local macro_rules | `(tactic| walk_at "call ref cons nil") => `(tactic| (k_here; (with_reducible show wpAny _ _ (call (Value.ref 139) _) _ _ _); k_dflt (refine' use (rat_c _ _ _ _ _ _ _ _ _ _ _ _ ?p1 ?p2) ?k1 ?k2 ?k3 ?k4 ?k5 ?kK ?kd ?ku ?_; tb_start; (case p2 => ktr_rel); (case p1 => refine ⟨?_, ?_, ?_, ?_⟩ <;> omega); intro an9 bn9 ea9 eb9 ec9 ed9 ee9 ef9 x9 a9 b9 tl9 h9 tk9 F9 N9 ht9 T9; (try dsimp only); (try k_fold))))
local macro_rules | `(tactic| walk_at "call ref cons nil") => `(tactic| (k_here; (with_reducible show wpAny _ _ (call (Value.ref 77) _) _ _ _); k_dflt (refine' use (manexp_c _ _ _ _ _ _ _ _ _ _ _ _ ?p1 ?p2) ?k1 ?k2 ?k3 ?k4 ?k5 ?kK ?kd ?ku ?_; tb_start; (case p2 => ktr_rel); (case p1 => refine ⟨?_, ?_, ?_, ?_⟩ <;> omega); intro x9 a9 b9 tl9 h9 tk9 F9 N9 ht9 T9; (try dsimp only); (try k_fold))))
local macro_rules | `(tactic| walk_at "call ref cons nil") => `(tactic| (k_here; (with_reducible show wpAny _ _ (call (Value.ref 132) _) _ _ _); k_dflt (refine' use (fromrat_c _ _ _ _ _ _ _ _ _ _ _ _ _ ?p1 ?p2 ?p3) ?k1 ?k2 ?k3 ?k4 ?k5 ?kK ?kd ?ku ?_; tb_start; (case p2 => exact rfl); (case p3 => exact rfl); (case p1 => refine ⟨?_, ?_, ?_, ?_⟩ <;> omega); intro x9 a9 b9 c9 d9 tl9 h9 tk9 F9 N9 ht9 T9; (try dsimp only); (try k_fold))))
local macro_rules | `(tactic| walk_at "call ref cons nil") => `(tactic| (k_here; (with_reducible show wpAny _ _ (call (Value.ref 160) _) _ _ _); k_dflt (refine' use (cmp_c _ _ _ _ _ _ _ _ _ _ _ _ _ _ _ _ _ _ _ ?p1 ?p2 ?p3 ?p4) ?k1 ?k2 ?k3 ?k4 ?k5 ?kK ?kd ?ku ?_; tb_start; (case p3 => ktr_rel); (case p4 => ktr_rel); (case p1 => refine ⟨?_, ?_, ?_, ?_⟩ <;> omega); (case p2 => refine ⟨?_, ?_, ?_, ?_⟩ <;> omega); intro o9 ho9 ho9' ho9'' t9 h9 tk9 F9 N9; (try dsimp only); (try k_fold))))
local macro_rules | `(tactic| walk_at "call ref cons nil") => `(tactic| (k_here; (with_reducible show wpAny _ _ (call (Value.ref 211) _) _ _ _); k_dflt (refine' use (sgn_c _ _ _ _ _ _ _ _ _ _ _ _ ?p1 ?p2) ?k1 ?k2 ?k3 ?k4 ?k5 ?kK ?kd ?ku ?_; tb_start; (case p2 => ktr_rel); (case p1 => refine ⟨?_, ?_, ?_, ?_⟩ <;> omega); intro o9 ho9 ho9' ho9'' t9 h9 tk9 F9 N9; (try dsimp only); (try k_fold))))
local macro_rules | `(tactic| walk_at "call ref cons nil") => `(tactic| (k_here; (with_reducible show wpAny _ _ (call (Value.ref 167) _) _ _ _); k_dflt (refine' use (lt_c _ _ _ _ _ _ _ _ _ _ _ _ _ _ _ _ _ _ _ ?p1 ?p2 ?p3 ?p4) ?k1 ?k2 ?k3 ?k4 ?k5 ?kK ?kd ?ku ?_; tb_start; (case p3 => ktr_rel); (case p4 => ktr_rel); (case p1 => refine ⟨?_, ?_, ?_, ?_⟩ <;> omega); (case p2 => refine ⟨?_, ?_, ?_, ?_⟩ <;> omega); intro h9 tk9 F9 N9; (try dsimp only); (try k_fold))))
local macro_rules | `(tactic| walk_at "call ref cons nil") => `(tactic| (k_here; (with_reducible show wpAny _ _ (call (Value.ref 174) _) _ _ _); k_dflt (refine' use (le_c _ _ _ _ _ _ _ _ _ _ _ _ _ _ _ _ _ _ _ ?p1 ?p2 ?p3 ?p4) ?k1 ?k2 ?k3 ?k4 ?k5 ?kK ?kd ?ku ?_; tb_start; (case p3 => ktr_rel); (case p4 => ktr_rel); (case p1 => refine ⟨?_, ?_, ?_, ?_⟩ <;> omega); (case p2 => refine ⟨?_, ?_, ?_, ?_⟩ <;> omega); intro h9 tk9 F9 N9; (try dsimp only); (try k_fold))))
local macro_rules | `(tactic| walk_at "call ref cons nil") => `(tactic| (k_here; (with_reducible show wpAny _ _ (call (Value.ref 181) _) _ _ _); k_dflt (refine' use (gt_c _ _ _ _ _ _ _ _ _ _ _ _ _ _ _ _ _ _ _ ?p1 ?p2 ?p3 ?p4) ?k1 ?k2 ?k3 ?k4 ?k5 ?kK ?kd ?ku ?_; tb_start; (case p3 => ktr_rel); (case p4 => ktr_rel); (case p1 => refine ⟨?_, ?_, ?_, ?_⟩ <;> omega); (case p2 => refine ⟨?_, ?_, ?_, ?_⟩ <;> omega); intro h9 tk9 F9 N9; (try dsimp only); (try k_fold))))
local macro_rules | `(tactic| walk_at "call ref cons nil") => `(tactic| (k_here; (with_reducible show wpAny _ _ (call (Value.ref 188) _) _ _ _); k_dflt (refine' use (ge_c _ _ _ _ _ _ _ _ _ _ _ _ _ _ _ _ _ _ _ ?p1 ?p2 ?p3 ?p4) ?k1 ?k2 ?k3 ?k4 ?k5 ?kK ?kd ?ku ?_; tb_start; (case p3 => ktr_rel); (case p4 => ktr_rel); (case p1 => refine ⟨?_, ?_, ?_, ?_⟩ <;> omega); (case p2 => refine ⟨?_, ?_, ?_, ?_⟩ <;> omega); intro h9 tk9 F9 N9; (try dsimp only); (try k_fold))))
local macro_rules | `(tactic| walk_at "call ref cons nil") => `(tactic| (k_here; (with_reducible show wpAny _ _ (call (Value.ref 153) _) _ _ _); k_dflt (refine' use (eq_c _ _ _ _ _ _ _ _ _ _ _ _ _ _ _ _ _ _ _ ?p1 ?p2 ?p3 ?p4) ?k1 ?k2 ?k3 ?k4 ?k5 ?kK ?kd ?ku ?_; tb_start; (case p3 => ktr_rel); (case p4 => ktr_rel); (case p1 => refine ⟨?_, ?_, ?_, ?_⟩ <;> omega); (case p2 => refine ⟨?_, ?_, ?_, ?_⟩ <;> omega); intro h9 tk9 F9 N9; (try dsimp only); (try k_fold))))
theorem fr_same {h₀ h : Heap} {L : Addr} {m : Str → Option Value} {x : Str} {v : Value} (F : Fr h₀ L h m) (e : m x = some v) : Fr h₀ L h (fun y => if y = x then some v else m y) := by
  have : (fun y => if y = x then some v else m y) = m := by
    funext y
    by_cases hy : y = x
    · rw [if_pos hy, hy, e]
    · rw [if_neg hy]
  rw [this]; exact F
/-- what the law's first 'if' leaves: two is a pair within its bounds -/
def TwoIs (K : Frag) (h₀ : Heap) (L : Addr) (m : Str → Option Value) (news : Led) (s s' : Shared) : Prop :=
  ∃ (h' : Heap) (tk' : Nat) (x : Addr) (v p : Int) (t1 t2 : Tok) (tl : Led), s' = { s with heap := h', toks := tk' } ∧ Fr h₀ L h' (fun y => if y = Str.ofString "two" then some (.ref x) else m y) ∧ News h₀ L h' (tl ++ news) ∧
    TupAll tl ∧ TupI K tl x [.int v t1, .int p t2] ∧ -1100000 ≤ v ∧ v ≤ 1100000 ∧ -31 ≤ p ∧ p ≤ 30
theorem merge_two {M : Model} {A : Around} {cm : Sem Flow} {Q : Flow → Shared → Prop} {E : Value → Shared → Prop} {s : Shared} {K : Frag} {h₀ : Heap} {L : Addr} {m : Str → Option Value} {news : Led}
    (_X : K.In h₀) (_F : Fr h₀ L s.heap m) (_N : News h₀ L s.heap news)
    (h : wpAny M A cm (fun fl s' => fl = Flow.next ∧ TwoIs K h₀ L m news s s') E s)
    (k : ∀ (h' : Heap) (tk' : Nat) (x : Addr) (v p : Int) (t1 t2 : Tok) (tl : Led), Fr h₀ L h' (fun y => if y = Str.ofString "two" then some (.ref x) else m y) → News h₀ L h' (tl ++ news) →
      TupAll tl → TupI K tl x [.int v t1, .int p t2] → -1100000 ≤ v → v ≤ 1100000 → -31 ≤ p → p ≤ 30 → Q Flow.next { s with heap := h', toks := tk' }) : wpAny M A cm Q E s := by
  refine wpAny_mono h (fun fl s' hq => ?_) (fun _ _ y => y)
  obtain ⟨rfl, h', tk', x, v, p, t1, t2, tl, rfl, a, b, c, d, e1, e2, e3, e4⟩ := hq
  exact k h' tk' x v p t1 t2 tl a b c d e1 e2 e3 e4
theorem two_end {K : Frag} {h₀ h' : Heap} {L x : Addr} {m : Str → Option Value} {news news' : Led} {s : Shared} {tk' : Nat} {v p : Int} {t1 t2 : Tok}
    (F : Fr h₀ L h' (fun y => if y = Str.ofString "two" then some (.ref x) else m y)) (N : News h₀ L h' news') (sub : ∀ p ∈ news, p ∈ news') (T : TupI K news' x [.int v t1, .int p t2])
    (b1 : -1100000 ≤ v) (b2 : v ≤ 1100000) (b3 : -31 ≤ p) (b4 : p ≤ 30) : TwoIs K h₀ L m news s { s with heap := h', toks := tk' } := by
  obtain ⟨tl, N', ht, T'⟩ := r_tl N sub T
  exact ⟨h', tk', x, v, p, t1, t2, tl, rfl, F, N', ht, T', b1, b2, b3, b4⟩
theorem fixed_bd (p k : Int) (hp : -31 ≤ p) (hk : -20 ≤ k) : abB p * 2 ^ (if -k > 0 then -k else 0).toNat < 9223372036854775808 := by
  obtain ⟨a, b⟩ := pow31 p hp
  obtain ⟨c, d⟩ := pow30 (-k) (by omega)
  have := Int.mul_le_mul b d (by omega) (by omega)
  omega
def SameIs (h₀ : Heap) (L : Addr) (m : Str → Option Value) (news : Led) (s s' : Shared) : Prop := ∃ h' tk', s' = { s with heap := h', toks := tk' } ∧ Fr h₀ L h' m ∧ News h₀ L h' news
theorem same_end {h₀ h' : Heap} {L : Addr} {m : Str → Option Value} {news news' : Led} {s : Shared} {tk' : Nat} (F : Fr h₀ L h' m) (N : News h₀ L h' news') (sub : ∀ p ∈ news, p ∈ news') : SameIs h₀ L m news s { s with heap := h', toks := tk' } := ⟨h', tk', rfl, F, fun p hp => N p (sub p hp)⟩
theorem merge_same {M : Model} {A : Around} {cm : Sem Flow} {Q : Flow → Shared → Prop} {E : Value → Shared → Prop} {s : Shared} {h₀ : Heap} {L : Addr} {m : Str → Option Value} {news : Led}
    (_F : Fr h₀ L s.heap m) (_N : News h₀ L s.heap news)
    (h : wpAny M A cm (fun fl s' => fl = Flow.next ∧ SameIs h₀ L m news s s') E s)
    (k : ∀ (h' : Heap) (tk' : Nat), Fr h₀ L h' m → News h₀ L h' news → Q Flow.next { s with heap := h', toks := tk' }) : wpAny M A cm Q E s := by
  refine wpAny_mono h (fun fl s' hq => ?_) (fun _ _ y => y)
  obtain ⟨rfl, h', tk', rfl, a, b⟩ := hq
  exact k h' tk' a b
def OrdIs (g : Int) (h₀ : Heap) (L : Addr) (m : Str → Option Value) (news : Led) (s s' : Shared) : Prop := ∃ h' tk' o t, s' = { s with heap := h', toks := tk' } ∧ Fr h₀ L h' (fun y => if y = Str.ofString "order" then some (.int o t) else m y) ∧ News h₀ L h' news ∧ (0 < g → o = 1) ∧ (g < 0 → o = -1) ∧ (g = 0 → o = 0)
theorem ord_end {g : Int} {h₀ h' : Heap} {L : Addr} {m : Str → Option Value} {news news' : Led} {s : Shared} {tk' : Nat} {o : Int} {t : Tok} (F : Fr h₀ L h' (fun y => if y = Str.ofString "order" then some (.int o t) else m y)) (N : News h₀ L h' news') (sub : ∀ p ∈ news, p ∈ news')
    (e : (0 < g → o = 1) ∧ (g < 0 → o = -1) ∧ (g = 0 → o = 0)) : OrdIs g h₀ L m news s { s with heap := h', toks := tk' } := ⟨h', tk', o, t, rfl, F, fun p hp => N p (sub p hp), e⟩
theorem merge_ord {M : Model} {A : Around} {cm : Sem Flow} {Q : Flow → Shared → Prop} {E : Value → Shared → Prop} {s : Shared} {h₀ : Heap} {L : Addr} {m : Str → Option Value} {news : Led} (g : Int)
    (_F : Fr h₀ L s.heap m) (_N : News h₀ L s.heap news)
    (h : wpAny M A cm (fun fl s' => fl = Flow.next ∧ OrdIs g h₀ L m news s s') E s)
    (k : ∀ (h' : Heap) (tk' : Nat) (o : Int) (t : Tok), Fr h₀ L h' (fun y => if y = Str.ofString "order" then some (.int o t) else m y) → News h₀ L h' news → (0 < g → o = 1) → (g < 0 → o = -1) → (g = 0 → o = 0) → Q Flow.next { s with heap := h', toks := tk' }) : wpAny M A cm Q E s := by
  refine wpAny_mono h (fun fl s' hq => ?_) (fun _ _ y => y)
  obtain ⟨rfl, h', tk', o, t, rfl, a, b, c, d, e⟩ := hq
  exact k h' tk' o t a b c d e
theorem eqB5 {prog : Program} {w : World} {A : Around} {E : Value → Shared → Prop} {s : Shared} {h₀ : Heap} {L : Addr} {news : Led} {x y : Addr} {a b c d e a' b' c' d' e' : Bool} {n n' : Nat} {dd dd' : Option Addr} {sl sl' : Array (Option Value)} {Q : Value → Shared → Prop} (N : News h₀ L s.heap news)
    (M1 : (x, ({ cls := .type "list", dict := dd, data := .seq #[.bool a, .bool b, .bool c, .bool d, .bool e] n, slots := sl } : Obj)) ∈ news) (M2 : (y, ({ cls := .type "list", dict := dd', data := .seq #[.bool a', .bool b', .bool c', .bool d', .bool e'] n', slots := sl' } : Obj)) ∈ news)
    (hu : A.units + 64 < cLine) (e1 : a = a') (e2 : b = b') (e3 : c = c') (e4 : d = d') (e5 : e = e') (h : Q (.bool true) s) : wpAny (model prog w) A (compareOp .Eq (.ref x) (.ref y)) Q E s := by
  subst e1; subst e2; subst e3; subst e4; subst e5
  refine eq_dataH (da := .list [.bool a, .bool b, .bool c, .bool d, .bool e]) (db := .list [.bool a, .bool b, .bool c, .bool d, .bool e]) (reads_list_at (N.get M1) rfl rfl (.cons (.bool _) (.cons (.bool _) (.cons (.bool _) (.cons (.bool _) (.cons (.bool _) .nil))))))
    (reads_list_at (N.get M2) rfl rfl (.cons (.bool _) (.cons (.bool _) (.cons (.bool _) (.cons (.bool _) (.cons (.bool _) .nil)))))) rfl rfl hu ?_
  have : PyData.eqv (.list [.bool a, .bool b, .bool c, .bool d, .bool e]) (.list [.bool a, .bool b, .bool c, .bool d, .bool e]) = true := by
    simp [PyData.eqv, PyData.eqvAll]
  rw [this]; exact h
local macro_rules | `(tactic| walk_at "compareOp NotEq int int") => `(tactic| (k_here; refine ne_same ?eq9 ?_; (case eq9 => first | (with_reducible rfl) | (with_reducible assumption) | omega)))
local macro_rules | `(tactic| walk_at "binaryOp FloorDiv int int") => `(tactic| (k_here; (with_reducible refine floordiv_int ?kbe ?_ (Or.inl (fd63 ?kb1 ?kb2))); (case kbe => first | exact Int.ne_of_gt (by with_reducible assumption) | exact Int.ne_of_gt (Int.mul_pos (kbt_pos _) (kbt_pos _)) | omega); (case kb1 => first | (with_reducible assumption) | exact Int.mul_pos (kbt_pos _) (kbt_pos _) | omega); (case kb2 => first | (with_reducible assumption) | (refine fixed_bd _ _ ?_ ?_ <;> first | omega | (simp only [fm41]; omega)) | omega)))
noncomputable def seg1 := fun (hT9 : PySem.Flt.Hid _) => hd (by
  k_go0
  all_goals (try k_fold)
  (rename Ground _ _ _ _ _ _ _ _ _ => j1); (rename Hook.says _ _ _ => j2); (rename Flt.MathXP _ _ _ => j3); (rename LooseAre _ _ _ => j4); (rename Glob _ _ _ _ _ _ _ _ => j5); (rename Tables _ _ _ _ => j6); (rename TopE _ _ _ _ => j7); (rename TopW _ _ _ => j8); (rename BMod _ _ _ _ _ => j9); (rename Heap.CodeRec _ _ _ => j10); (rename Dflts _ _ _ _ _ _ => j11); (rename CellsAre _ _ _ => j12)
  clear j12 j11 j10 j9 j8 j7 j6 j5 j4 j3 j2 j1
  (rename (_ = Data.cell _) => q3); (with_unfolding_all change _ = Data.cell none at q3); revert q3
  (rename (_ = Data.cell _) => q3); (with_unfolding_all change _ = Data.cell none at q3); revert q3
  (rename (_ = Data.cell _) => q3); (with_unfolding_all change _ = Data.cell none at q3); revert q3
  intro q1 q2 q3
  iterate 27 (first | (k_unfold; (try dsimp only)) | (k_end; wrow_close) | walk1 | (dsimp only; walk1) | (leave1; walk_say "STEP leave1"; try dsimp only) | fail "no step")
  k_dflt (refine' use (drawn_c _ _ _ _ _ _ _ _ _ _ ?p1 ?p2 ?p3 ?p4 ?p5) ?k1 ?k2 ?k3 ?k4 ?k5 ?kK ?kd ?ku ?_; tb_start)
  case p1 => k_mem
  case p2 => l_ints
  case p3 => first | omega | assumption
  case p4 => omega
  case p5 => omega
  intro v p hv1 hv2 hp1 hp2 x1 t1 t1' tl1 h1 tk1 F1 N1 A1 T1
  try dsimp only
  try k_fold
  iterate 26 (first | (k_unfold; (try dsimp only)) | (k_end; wrow_close) | walk1 | (dsimp only; walk1) | (leave1; walk_say "STEP leave1"; try dsimp only) | fail "no step")
  refine' merge_two ?kX ?kF ?kN ?kH ?kK
  case kX => k_asm
  case kF => k_asm
  case kN => k_asm
  case kH =>
    k_steps
    · refine' two_end ?za ?zb ?zc ?zd ?ze ?zf ?zg ?zh
      case za => k_asm
      case zb => k_asm
      case zc => kqd_sub
      case zd => ktr_rel
      all_goals (first | omega | (simp only [fm3]; omega))
    · refine' two_end (fr_same ?ya ?yi) ?yb ?yc ?yd ?ye ?yf ?yg ?yh
      case ya => k_asm
      case yi => rfl
      case yb => k_asm
      case yc => kqd_sub
      case yd => ktr_rel
      all_goals (first | omega | (simp only [fm3]; omega))
  intro h2 tk2 x2 v2 p2 t2 t2' tl2 F2 N2 A2 T2 c1 c2 c3 c4
  try dsimp only
  try k_fold
  iterate 129 (first | (k_unfold; (try dsimp only)) | (k_end; wrow_close) | walk1 | (dsimp only; walk1) | (leave1; walk_say "STEP leave1"; try dsimp only) | fail "no step")
  iterate 2 (first | (k_unfold; (try dsimp only)) | (k_end; wrow_close) | walk1 | (dsimp only; walk1) | (leave1; walk_say "STEP leave1"; try dsimp only) | fail "no step")
  repeat (first | (rename_i x9; revert x9) | revert hv1 | revert hv2 | revert hp1 | revert hp2 | revert c1 | revert c2 | revert c3 | revert c4 | revert hB0 | revert hbd | revert hB1 | revert hAa | revert hAb | revert hra | revert hrb | revert hrc | revert hrd | revert hre | revert hrf | revert hrg | revert hrh | revert hgap | revert ho1 | revert ho2 | revert ho3 | revert qk | revert ek | revert tk | revert x1 | revert t1 | revert t1' | revert tl1 | revert h1 | revert tk1 | revert h2 | revert tk2 | revert x2 | revert t2 | revert t2' | revert tl2 | revert D5 | revert vs5 | revert h5 | revert tk5 | revert D6 | revert vs6 | revert h6 | revert tk6 | revert D7 | revert vs7 | revert h7 | revert tk7 | revert u1 | revert u2 | revert u3 | revert h8 | revert h9a | revert tk9a | revert h9b | revert tk9b | revert o | revert o')
  revert p2
  revert v2
  revert p
  revert v
  exact hT9.out)
noncomputable def seg2 := fun (hT9 : PySem.Flt.Hid _) => seg1 (⟨by
  k_fill
  intro v p v2 p2
  intros
  have eS : (Str.ofString "nfcud").cps.toList = Ways := by decide +kernel
  have eS3 : (Str.ofString "fcn").cps.toList = [102, 99, 110] := by decide +kernel
  have hB0 : 0 < abB p := kbt_pos _
  have hbd : Bd v p := ⟨by omega, by omega, by omega, by omega⟩
  have hB1 : abB p < 9223372036854775808 := by have := (pow31 p (by omega)).2; omega
  have hAa : -9223372036854775808 < abA v p := by have := (abA_bd v p hbd).1; omega
  have hAb : abA v p < 9223372036854775808 := by have := (abA_bd v p hbd).2; omega
  have hra : -4611686018427387904 < rW 102 (abA v p) (abB p) := (rW_all 102 v p hbd).1
  have hrb : rW 102 (abA v p) (abB p) < 4611686018427387904 := (rW_all 102 v p hbd).2
  have hrc : -4611686018427387904 < rW 99 (abA v p) (abB p) := (rW_all 99 v p hbd).1
  have hrd : rW 99 (abA v p) (abB p) < 4611686018427387904 := (rW_all 99 v p hbd).2
  have hre : -4611686018427387904 < rW 110 (abA v p) (abB p) := (rW_all 110 v p hbd).1
  have hrf : rW 110 (abA v p) (abB p) < 4611686018427387904 := (rW_all 110 v p hbd).2
  have hrg : -4611686018427387904 < abA v p - rW 102 (abA v p) (abB p) * abB p := (frac_bd v p hbd).1
  have hrh : abA v p - rW 102 (abA v p) (abB p) * abB p < 4611686018427387904 := (frac_bd v p hbd).2
  k_dflt (refine' comp_ints (Str.ofString "nfcud") (fun c => rW c (abA v p) (abB p)) ?la1 ?la2 ?la3 ?la4 ?la5 ?la6 ?la7 ?la8 ?la9 ?la10 ?lai ?lae ?laQ)
  case la1 => with_unfolding_all rfl
  case la2 => decide
  case la3 => rfl
  case la4 => decide
  case la5 => rfl
  case la6 => rfl
  case la7 => decide +kernel
  case la8 => decide +kernel
  case la9 => k_asm
  case la10 => k_asm
  case lai =>
    walk1
    exact ⟨⟨_, rfl⟩, _, rfl⟩
  case lae =>
    intro c hc u I oI C oC D ys m₂ h tk E' hC hm F N
    rw [eS] at hc
    iterate 11 (first | (k_unfold; (try dsimp only)) | (k_end; wrow_close) | walk1 | (dsimp only; walk1) | (leave1; walk_say "STEP leave1"; try dsimp only) | fail "no step")
    exact ⟨_, _, _, rfl, rfl, by with_reducible assumption, by with_reducible assumption⟩
  intro D5 vs5 h5 tk5 F5 N5 I5
  rw [eS] at I5
  try dsimp only
  k_dflt (refine' comp_ints (Str.ofString "nfcud") (fun c => rW c (abA v p) (abB p)) ?lb1 ?lb2 ?lb3 ?lb4 ?lb5 ?lb6 ?lb7 ?lb8 ?lb9 ?lb10 ?lbi ?lbe ?lbQ)
  case lb1 => with_unfolding_all rfl
  case lb2 => decide
  case lb3 => rfl
  case lb4 => decide
  case lb5 => rfl
  case lb6 => rfl
  case lb7 => decide +kernel
  case lb8 => decide +kernel
  case lb9 => k_asm
  case lb10 => k_asm
  case lbi =>
    walk1
    exact ⟨⟨_, rfl⟩, _, rfl⟩
  case lbe =>
    intro c hc u I oI C oC D ys m₂ h tk E' hC hm F N
    rw [eS] at hc
    iterate 13 (first | (k_unfold; (try dsimp only)) | (k_end; wrow_close) | walk1 | (dsimp only; walk1) | (leave1; walk_say "STEP leave1"; try dsimp only) | fail "no step")
    exact ⟨_, _, _, rfl, rfl, by with_reducible assumption, by with_reducible assumption⟩
  intro D6 vs6 h6 tk6 F6 N6 I6
  rw [eS] at I6
  try dsimp only
  k_dflt (refine' ne_intsK (News.isList N6 (List.mem_cons_of_mem _ List.mem_cons_self)) I5 (News.isList N6 List.mem_cons_self) I6 ?mc ?_)
  case mc => ktr_units
  (try simp only [decide_true, Bool.not_true])
  iterate 2 (first | (k_unfold; (try dsimp only)) | (k_end; wrow_close) | walk1 | (dsimp only; walk1) | (leave1; walk_say "STEP leave1"; try dsimp only) | fail "no step")
  repeat (first | (rename_i x9; revert x9) | revert hv1 | revert hv2 | revert hp1 | revert hp2 | revert c1 | revert c2 | revert c3 | revert c4 | revert hB0 | revert hbd | revert hB1 | revert hAa | revert hAb | revert hra | revert hrb | revert hrc | revert hrd | revert hre | revert hrf | revert hrg | revert hrh | revert hgap | revert ho1 | revert ho2 | revert ho3 | revert qk | revert ek | revert tk | revert x1 | revert t1 | revert t1' | revert tl1 | revert h1 | revert tk1 | revert h2 | revert tk2 | revert x2 | revert t2 | revert t2' | revert tl2 | revert D5 | revert vs5 | revert h5 | revert tk5 | revert D6 | revert vs6 | revert h6 | revert tk6 | revert D7 | revert vs7 | revert h7 | revert tk7 | revert u1 | revert u2 | revert u3 | revert h8 | revert h9a | revert tk9a | revert h9b | revert tk9b | revert o | revert o')
  revert p2
  revert v2
  revert p
  revert v
  exact hT9.out⟩)
noncomputable def seg3 := fun (hT9 : PySem.Flt.Hid _) => seg2 (⟨by
  k_fill
  intro v p v2 p2
  intros
  have eS3 : (Str.ofString "fcn").cps.toList = [102, 99, 110] := by decide +kernel
  iterate 4 (first | (k_unfold; (try dsimp only)) | (k_end; wrow_close) | walk1 | (dsimp only; walk1) | (leave1; walk_say "STEP leave1"; try dsimp only) | fail "no step")
  k_dflt (refine' comp_ints (Str.ofString "fcn") (fun c => rW c (abA v p) (abB p)) ?lc1 ?lc2 ?lc3 ?lc4 ?lc5 ?lc6 ?lc7 ?lc8 ?lc9 ?lc10 ?lci ?lce ?lcQ)
  case lc1 => with_unfolding_all rfl
  case lc2 => decide
  case lc3 => rfl
  case lc4 => decide
  case lc5 => rfl
  case lc6 => rfl
  case lc7 => decide +kernel
  case lc8 => decide +kernel
  case lc9 => k_asm
  case lc10 => k_asm
  case lci =>
    walk1
    exact ⟨⟨_, rfl⟩, _, rfl⟩
  case lce =>
    intro c hc u I oI C oC D ys m₂ h tk E' hC hm F N
    rw [eS3] at hc
    have hc : c ∈ Ways := (by decide : ∀ c ∈ [102, 99, 110], c ∈ Ways) c hc
    iterate 13 (first | (k_unfold; (try dsimp only)) | (k_end; wrow_close) | walk1 | (dsimp only; walk1) | (leave1; walk_say "STEP leave1"; try dsimp only) | fail "no step")
    exact ⟨_, _, _, rfl, rfl, by with_reducible assumption, by with_reducible assumption⟩
  intro D7 vs7 h7 tk7 F7 N7 I7
  rw [eS3] at I7
  try dsimp only
  obtain ⟨u1, u2, u3, rfl⟩ := ints3 I7
  k_dflt (refine' kun_list F7 N7 (News.isList N7 List.mem_cons_self) ?na ?nb ?nc ?_)
  case na => rfl
  case nb => rfl
  case nc => rfl
  intro h8 F8 N8
  try dsimp only
  iterate 87 (first | (k_unfold; (try dsimp only)) | (k_end; wrow_close) | walk1 | (dsimp only; walk1) | (leave1; walk_say "STEP leave1"; try dsimp only) | fail "no step")
  repeat (first | (rename_i x9; revert x9) | revert hv1 | revert hv2 | revert hp1 | revert hp2 | revert c1 | revert c2 | revert c3 | revert c4 | revert hB0 | revert hbd | revert hB1 | revert hAa | revert hAb | revert hra | revert hrb | revert hrc | revert hrd | revert hre | revert hrf | revert hrg | revert hrh | revert hgap | revert ho1 | revert ho2 | revert ho3 | revert qk | revert ek | revert tk | revert x1 | revert t1 | revert t1' | revert tl1 | revert h1 | revert tk1 | revert h2 | revert tk2 | revert x2 | revert t2 | revert t2' | revert tl2 | revert D5 | revert vs5 | revert h5 | revert tk5 | revert D6 | revert vs6 | revert h6 | revert tk6 | revert D7 | revert vs7 | revert h7 | revert tk7 | revert u1 | revert u2 | revert u3 | revert h8 | revert h9a | revert tk9a | revert h9b | revert tk9b | revert o | revert o')
  revert p2
  revert v2
  revert p
  revert v
  exact hT9.out⟩)
noncomputable def seg4 := fun (hT9 : PySem.Flt.Hid _) => seg3 (⟨by
  k_fill
  intro v p v2 p2
  intros
  k_dflt (refine' ne444 ?oa ?ob ?oc ?od ?oe ?of ?og ?oh ?oi ?oj ?ok ?ol ?_)
  case oa => k_asm
  case ob => k_asm
  case oc => k_asm
  case od => ktr_rel
  case oe => ktr_rel
  case of => ktr_rel
  case og => ktr_rel
  case oh => ktr_rel
  case oi => ktr_rel
  case oj => ktr_rel
  case ok => ktr_rel
  case ol => ktr_units
  try dsimp only
  iterate 144 (first | (k_unfold; (try dsimp only)) | (k_end; wrow_close) | walk1 | (dsimp only; walk1) | (leave1; walk_say "STEP leave1"; try dsimp only) | fail "no step")
  repeat (first | (rename_i x9; revert x9) | revert hv1 | revert hv2 | revert hp1 | revert hp2 | revert c1 | revert c2 | revert c3 | revert c4 | revert hB0 | revert hbd | revert hB1 | revert hAa | revert hAb | revert hra | revert hrb | revert hrc | revert hrd | revert hre | revert hrf | revert hrg | revert hrh | revert hgap | revert ho1 | revert ho2 | revert ho3 | revert qk | revert ek | revert tk | revert x1 | revert t1 | revert t1' | revert tl1 | revert h1 | revert tk1 | revert h2 | revert tk2 | revert x2 | revert t2 | revert t2' | revert tl2 | revert D5 | revert vs5 | revert h5 | revert tk5 | revert D6 | revert vs6 | revert h6 | revert tk6 | revert D7 | revert vs7 | revert h7 | revert tk7 | revert u1 | revert u2 | revert u3 | revert h8 | revert h9a | revert tk9a | revert h9b | revert tk9b | revert o | revert o')
  revert p2
  revert v2
  revert p
  revert v
  exact hT9.out⟩)
noncomputable def seg5 := fun (hT9 : PySem.Flt.Hid _) => seg4 (⟨by
  k_fill
  intro v p v2 p2
  intros
  refine' merge_same ?qF ?qN ?qH ?_
  case qF => k_asm
  case qN => k_asm
  case qH =>
    repeat' (first | (k_unfold; (try dsimp only)) | (k_end; wrow_close) | walk1 | (dsimp only; walk1) | (leave1; walk_say "STEP leave1"; try dsimp only) | fail "no step")
    all_goals first
      | (refine' same_end ?rF ?rN ?rS; (case rF => k_asm); (case rN => k_asm); (case rS => kqd_sub))
      | (exfalso; omega)
  intro h9a tk9a F9a N9a
  try dsimp only
  iterate 1 (first | (k_unfold; (try dsimp only)) | (k_end; wrow_close) | walk1 | (dsimp only; walk1) | (leave1; walk_say "STEP leave1"; try dsimp only) | fail "no step")
  refine' merge_same ?sF ?sN ?sH ?_
  case sF => k_asm
  case sN => k_asm
  case sH =>
    repeat' (first | (k_unfold; (try dsimp only)) | (k_end; wrow_close) | walk1 | (dsimp only; walk1) | (leave1; walk_say "STEP leave1"; try dsimp only) | fail "no step")
    all_goals first
      | (refine' same_end ?tF ?tN ?tS; (case tF => k_asm); (case tN => k_asm); (case tS => kqd_sub))
      | (exfalso; omega)
  intro h9b tk9b F9b N9b
  try dsimp only
  iterate 52 (first | (k_unfold; (try dsimp only)) | (k_end; wrow_close) | walk1 | (dsimp only; walk1) | (leave1; walk_say "STEP leave1"; try dsimp only) | fail "no step")
  repeat (first | (rename_i x9; revert x9) | revert hv1 | revert hv2 | revert hp1 | revert hp2 | revert c1 | revert c2 | revert c3 | revert c4 | revert hB0 | revert hbd | revert hB1 | revert hAa | revert hAb | revert hra | revert hrb | revert hrc | revert hrd | revert hre | revert hrf | revert hrg | revert hrh | revert hgap | revert ho1 | revert ho2 | revert ho3 | revert qk | revert ek | revert tk | revert x1 | revert t1 | revert t1' | revert tl1 | revert h1 | revert tk1 | revert h2 | revert tk2 | revert x2 | revert t2 | revert t2' | revert tl2 | revert D5 | revert vs5 | revert h5 | revert tk5 | revert D6 | revert vs6 | revert h6 | revert tk6 | revert D7 | revert vs7 | revert h7 | revert tk7 | revert u1 | revert u2 | revert u3 | revert h8 | revert h9a | revert tk9a | revert h9b | revert tk9b | revert o | revert o')
  revert p2
  revert v2
  revert p
  revert v
  exact hT9.out⟩)
noncomputable def seg6 := fun (hT9 : PySem.Flt.Hid _) => seg5 (⟨by
  k_fill
  intro v p v2 p2
  intros
  refine' merge_ord (gapF v p v2 p2) ?qF ?qN ?qH ?_
  case qF => k_asm
  case qN => k_asm
  case qH =>
    repeat' (first | (k_unfold; (try dsimp only)) | (k_end; wrow_close) | walk1 | (dsimp only; walk1) | (leave1; walk_say "STEP leave1"; try dsimp only) | fail "no step")
    all_goals first
      | (refine' ord_end ?rF ?rN ?rS ?rE; (case rF => k_asm); (case rN => k_asm); (case rS => kqd_sub); (case rE => (simp only [gapF, abA, abB]; refine ⟨?_, ?_, ?_⟩ <;> first | omega | (intro _; trivial))))
  intro h9a tk9a o o' F9a N9a ho1 ho2 ho3
  try dsimp only
  have hgap : gapF v2 p2 v p = -gapF v p v2 p2 := by unfold gapF; omega
  iterate 1 (first | (k_unfold; (try dsimp only)) | (k_end; wrow_close) | walk1 | (dsimp only; walk1) | (leave1; walk_say "STEP leave1"; try dsimp only) | fail "no step")
  refine' merge_same ?sF ?sN ?sH ?_
  case sF => k_asm
  case sN => k_asm
  case sH =>
    repeat' (first | (k_unfold; (try dsimp only)) | (k_end; wrow_close) | walk1 | (dsimp only; walk1) | (leave1; walk_say "STEP leave1"; try dsimp only) | fail "no step")
    all_goals first
      | (refine' same_end ?tF ?tN ?tS; (case tF => k_asm); (case tN => k_asm); (case tS => kqd_sub))
      | (exfalso; omega)
  intro h9b tk9b F9b N9b
  try dsimp only
  iterate 80 (first | (k_unfold; (try dsimp only)) | (k_end; wrow_close) | walk1 | (dsimp only; walk1) | (leave1; walk_say "STEP leave1"; try dsimp only) | fail "no step")
  repeat (first | (rename_i x9; revert x9) | revert hv1 | revert hv2 | revert hp1 | revert hp2 | revert c1 | revert c2 | revert c3 | revert c4 | revert hB0 | revert hbd | revert hB1 | revert hAa | revert hAb | revert hra | revert hrb | revert hrc | revert hrd | revert hre | revert hrf | revert hrg | revert hrh | revert hgap | revert ho1 | revert ho2 | revert ho3 | revert qk | revert ek | revert tk | revert x1 | revert t1 | revert t1' | revert tl1 | revert h1 | revert tk1 | revert h2 | revert tk2 | revert x2 | revert t2 | revert t2' | revert tl2 | revert D5 | revert vs5 | revert h5 | revert tk5 | revert D6 | revert vs6 | revert h6 | revert tk6 | revert D7 | revert vs7 | revert h7 | revert tk7 | revert u1 | revert u2 | revert u3 | revert h8 | revert h9a | revert tk9a | revert h9b | revert tk9b | revert o | revert o')
  revert p2
  revert v2
  revert p
  revert v
  exact hT9.out⟩)
theorem fin : PySem.Challenge.rw_bw0030_01.Holds := seg6 ⟨by
  k_fill
  intro v p v2 p2
  intros
  iterate 23 (first | (k_unfold; (try dsimp only)) | (k_end; wrow_close) | walk1 | (dsimp only; walk1) | (leave1; walk_say "STEP leave1"; try dsimp only) | fail "no step")
  k_dflt (refine' eqB5 ?va ?vb ?vc ?vd ?ve ?vf ?vg ?vh ?vi ?_)
  case va => k_asm
  case vb => k_mem
  case vc => k_mem
  case vd => ktr_units
  case ve => rw [Bool.eq_iff_iff]; simp only [decide_eq_true_eq]; omega
  case vf => rw [Bool.eq_iff_iff]; simp only [decide_eq_true_eq]; omega
  case vg => rw [Bool.eq_iff_iff]; simp only [decide_eq_true_eq, gt_iff_lt]; omega
  case vh => rw [Bool.eq_iff_iff]; simp only [decide_eq_true_eq, ge_iff_le]; omega
  case vi => rw [Bool.eq_iff_iff]; simp only [decide_eq_true_eq, beq_iff_eq]; omega
  repeat' (first | (k_unfold; (try dsimp only)) | (k_end; wrow_close) | walk1 | (dsimp only; walk1) | (leave1; walk_say "STEP leave1"; try dsimp only) | fail "no step")⟩
end
end Mine
theorem PySem.Challenge.cw_bw0030_01_holds : PySem.Challenge.rw_bw0030_01.Holds := by
  exact Mine.fin
