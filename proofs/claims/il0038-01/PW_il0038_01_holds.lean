import PyProof.Rows.All
import Wide.All
import OpenK.AllK
import Wide.FinOn
import PySem.Challenge.RW_il0038_01
set_option Elab.async false
namespace Mine
section
open PySem PySem.W PyProof.Rows
def b64c (i : Int) : Int := if i < 26 then i + 65 else if i < 52 then i + 71 else if i < 62 then i - 4 else if i = 62 then 43 else 47
def b64v (c : Int) : Int := if 65 ≤ c ∧ c ≤ 90 then c - 65 else if 97 ≤ c ∧ c ≤ 122 then c - 71 else if 48 ≤ c ∧ c ≤ 57 then c + 4 else if c = 43 then 62 else if c = 47 then 63 else 64
theorem b64v_range (c : Int) : 0 ≤ b64v c ∧ b64v c ≤ 64 := by unfold b64v; (repeat' split) <;> omega
def b64tab : List UInt8 := [65, 66, 67, 68, 69, 70, 71, 72, 73, 74, 75, 76, 77, 78, 79, 80, 81, 82, 83, 84, 85, 86, 87, 88, 89, 90, 97, 98, 99, 100, 101, 102, 103, 104, 105, 106, 107, 108, 109, 110, 111, 112, 113, 114, 115, 116, 117, 118, 119, 120, 121, 122, 48, 49, 50, 51, 52, 53, 54, 55, 56, 57, 43, 47]
theorem b64tab_at : ∀ k < 64, ((b64tab.getD k 0).toNat : Int) = b64c k := by decide +kernel
theorem b64tab_int {i : Int} (h0 : 0 ≤ i) (h1 : i < 64) : ((b64tab.getD i.toNat 0).toNat : Int) = b64c i := by
  have := b64tab_at i.toNat (by omega)
  rw [this]; congr 1; omega
theorem tab_item {prog : Program} {w : World} {A : Around} {E : Value → Shared → Prop} {s : Shared} {t u : Tok} {value slice : Expr} {i : Int} {Q : Value → Shared → Prop} (h0 : 0 ≤ i) (h1 : i < 64)
    (h : Q (.int (b64c i) s.toks) { s with toks := s.toks + 1 })
    (hs : subscripted slice false (.bytes b64tab.toArray t) (.int i u) = operate [(.bytes b64tab.toArray t), (.int i u)] (getItem (.bytes b64tab.toArray t) (.int i u)) := by with_unfolding_all rfl)
    (ht : ∀ r, letTemporaryGo value (.bytes b64tab.toArray t) r = pure () := by intro _; with_unfolding_all rfl) :
    wpAny (model prog w) A (subscriptTail value slice (.bytes b64tab.toArray t) (.int i u)) Q E s := by
  have hl : b64tab.length = 64 := rfl
  refine subscriptTail_builtin (typeIs_bytes _ _ _) FB.slot_bytes_getitem.lookup (getItem_bytes (by omega) h0 (by omega) ?_) hs ht
  rw [b64tab_int h0 h1]
  exact h
theorem bitOr_shift (a k : Int) (n : Nat) (ha : 0 ≤ a) (hk : 0 ≤ k) (h : k < 2 ^ n) : Builtin.bitOr (a * 2 ^ n) k = a * 2 ^ n + k := by
  obtain ⟨x, rfl⟩ := Int.eq_ofNat_of_zero_le ha
  obtain ⟨y, rfl⟩ := Int.eq_ofNat_of_zero_le hk
  have h' : y < 2 ^ n := by exact_mod_cast h
  rw [bitOr_and]
  have e : ((x : Int) * 2 ^ n) = ((x * 2 ^ n : Nat) : Int) := by rw [Int.natCast_mul, Int.natCast_pow]; rfl
  rw [e]
  have e2 : Builtin.bitAnd ((x * 2 ^ n : Nat) : Int) (y : Int) = (((x * 2 ^ n) &&& y : Nat) : Int) := by
    generalize x * 2 ^ n = z
    unfold Builtin.bitAnd
    simp
  rw [e2]
  have e3 : (x * 2 ^ n) &&& y = 0 := by
    apply Nat.eq_of_testBit_eq
    intro j
    rw [Nat.testBit_and, Nat.zero_testBit, Nat.mul_comm, Nat.testBit_two_pow_mul]
    by_cases hj : n ≤ j
    · have : y.testBit j = false := Nat.testBit_lt_two_pow (Nat.lt_of_lt_of_le h' (Nat.pow_le_pow_right (by decide) hj))
      simp [this]
    · simp [hj]
  rw [e3]
  simp
theorem bitOr_shift8 (a k : Int) (ha : 0 ≤ a) (hk : 0 ≤ k) (h : k < 256) : Builtin.bitOr (a * 2 ^ (8 : Int).toNat) k = a * 256 + k := bitOr_shift a k 8 ha hk (by simpa using h)
theorem bitOr_shift2 (a k : Int) (ha : 0 ≤ a) (hk : 0 ≤ k) (h : k < 4) : Builtin.bitOr (a * 2 ^ (2 : Int).toNat) k = a * 4 + k := bitOr_shift a k 2 ha hk (by simpa using h)
theorem bitOr_shift4 (a k : Int) (ha : 0 ≤ a) (hk : 0 ≤ k) (h : k < 16) : Builtin.bitOr (a * 2 ^ (4 : Int).toNat) k = a * 16 + k := bitOr_shift a k 4 ha hk (by simpa using h)
theorem bitOr_shift6 (a k : Int) (ha : 0 ≤ a) (hk : 0 ≤ k) (h : k < 64) : Builtin.bitOr (a * 2 ^ (6 : Int).toNat) k = a * 64 + k := bitOr_shift a k 6 ha hk (by simpa using h)
theorem and63_lo (x : Int) : 0 ≤ Builtin.bitAnd x 63 := by rw [bitAnd_m6]; omega
theorem and63_hi (x : Int) : Builtin.bitAnd x 63 < 64 := by rw [bitAnd_m6]; omega
theorem and3_abs (x : Int) : (Builtin.bitAnd x 3).natAbs < 2 ^ 64 := by rw [bitAnd_m2]; omega
theorem and15_abs (x : Int) : (Builtin.bitAnd x 15).natAbs < 2 ^ 64 := by rw [bitAnd_m4]; omega
theorem and3_sh_lo (x : Int) : 0 ≤ Builtin.bitAnd x 3 * 2 ^ (4 : Int).toNat := by rw [bitAnd_m2]; show 0 ≤ x % 4 * 16; omega
theorem and3_sh_hi (x : Int) : Builtin.bitAnd x 3 * 2 ^ (4 : Int).toNat < 64 := by rw [bitAnd_m2]; show x % 4 * 16 < 64; omega
theorem and15_sh_lo (x : Int) : 0 ≤ Builtin.bitAnd x 15 * 2 ^ (2 : Int).toNat := by rw [bitAnd_m4]; show 0 ≤ x % 16 * 4; omega
theorem and15_sh_hi (x : Int) : Builtin.bitAnd x 15 * 2 ^ (2 : Int).toNat < 64 := by rw [bitAnd_m4]; show x % 16 * 4 < 64; omega
theorem b64c_in {i : Int} (h0 : 0 ≤ i) (h1 : i < 64) : 0 ≤ b64c i ∧ b64c i < 256 := by unfold b64c; (repeat' split) <;> omega
theorem in_snoc {ns : List Int} (h : KBa.In ns) {i : Int} (hi : 0 ≤ i ∧ i < 256) : KBa.In (ns ++ [i]) := by
  intro n hn
  rcases List.mem_append.mp hn with h1 | h1
  · exact h n h1
  · rw [List.mem_singleton.mp h1]; exact hi
theorem fdiv_pow (a : Int) (n : Nat) : a.fdiv (2 ^ n) = a / 2 ^ n := Int.fdiv_eq_ediv_of_nonneg a (by exact_mod_cast Nat.zero_le _)

end
section
open PySem PySem.W PyProof.Rows
set_option maxRecDepth 100000 in
set_option maxHeartbeats 8000000 in
open_top hd for PySem.Challenge.rw_il0038_01

end
section
open PySem PySem.W PyProof.Rows

abbrev Con (w : World) (f : Addr) (d u : Nat) (args : List Value) (kw : List (Str × Value)) (news : List (Addr × Obj)) (Post : List (Addr × Obj) → Value → Prop) : Prop :=
  ∀ (dp un : Nat) (gd : Option (List Code)) (cn : Str) (cs : Scope) (a : Addr) (ccd : Value) (cl : List (Str × Addr)) (outer : List Env) (A₀ : Around) (base h₀ : Heap) (L : Addr) (m : Str → Option Value) (s : Shared) (mean : ExcName → Option Value) (mg mb : Str → Option Value) (Q E : Value → Shared → Prop),
    Below A₀ base outer h₀ → Fr h₀ L s.heap m → (hd.heap_39 w.params).In h₀ → News h₀ L s.heap news → Top hd.view_39 (looseW hd.view_39 [Str.ofString "bytes_types", Str.ofString "a2b_base64", Str.ofString "b2a_base64", Str.ofString "b64encode", Str.ofString "b64decode"]) mean mg mb h₀ → cs.kind = .function → dp + d < recursionLimit → un + u < cLine →
    (∀ r tl h' tk', Fr h₀ L h' m → News h₀ L h' (tl ++ news) → Post tl r → Q r { s with heap := h', toks := tk' }) →
    wpAny (model PySem.Challenge.rw_il0038_01.row.toRowW.prog w) (ktrTop dp un gd cn cs L a ccd cl outer) (call (.ref f) args kw) Q E s

theorem bv1 {c : Int} (h : 65 ≤ c) (k : c ≤ 90) : c - 65 = b64v c := by unfold b64v; rw [if_pos ⟨h, k⟩]
theorem bv2 {c : Int} (h : 97 ≤ c) (k : c ≤ 122) : c - 71 = b64v c := by unfold b64v; rw [if_neg (by omega), if_pos ⟨h, k⟩]
theorem bv3 {c : Int} (h : 48 ≤ c) (k : c ≤ 57) : c + 4 = b64v c := by unfold b64v; rw [if_neg (by omega), if_neg (by omega), if_pos ⟨h, k⟩]
theorem bv4 {c : Int} (h : c = 43) : 62 = b64v c := by subst h; rfl
theorem bv5 {c : Int} (h : c = 47) : 63 = b64v c := by subst h; rfl
theorem bv6 {c : Int} (h : ¬ 65 ≤ c) (k : ¬ 48 ≤ c ∨ ¬ c ≤ 57) (n : c ≠ 43) (m : c ≠ 47) : 64 = b64v c := by
  unfold b64v; rw [if_neg (fun x => h x.1), if_neg (by clear k n m; omega), if_neg (fun x => k.elim (· x.1) (· x.2)), if_neg n, if_neg m]
theorem bv7 {c : Int} (h : ¬ c ≤ 90) (k : ¬ 97 ≤ c ∨ ¬ c ≤ 122) (n : c ≠ 43) (m : c ≠ 47) : 64 = b64v c := by
  unfold b64v; rw [if_neg (fun x => h x.2), if_neg (fun x => k.elim (· x.1) (· x.2)), if_neg (by clear k n m; omega), if_neg n, if_neg m]
set_option maxRecDepth 100000 in
set_option maxHeartbeats 4000000 in
theorem b64_value_c (w : World) (c : Int) (t : Tok) (news : List (Addr × Obj)) : Con w 120 1 8 [.int c t] [] news (fun tl r => tl = [] ∧ ∃ t', r = .int (b64v c) t') := by
  w_top off; unfold Con; k_fill
  intro dp un gd cn cs a ccd cl outer A₀ base h₀ L m s mean mg mb Q E B F X N T hk hd hu hret
  refine wpAny_call ?_

  k_dflt cell_enter
  k_steps
  all_goals (refine hret _ [] _ _ (by assumption) (by assumption) ⟨rfl, _, congrArg (Value.int · _) ?_⟩)
  all_goals first | exact bv1 (by assumption) (by assumption) | exact bv2 (by assumption) (by assumption) | exact bv3 (by assumption) (by assumption) | exact bv4 (by assumption) | exact bv5 (by assumption) | exact bv6 (by assumption) (.inl (by assumption)) (by assumption) (by assumption) | exact bv6 (by assumption) (.inr (by assumption)) (by assumption) (by assumption) | exact bv7 (by assumption) (.inl (by assumption)) (by assumption) (by assumption) | exact bv7 (by assumption) (.inr (by assumption)) (by assumption) (by assumption)

end
section
open PySem PySem.W PyProof.Rows
set_option maxRecDepth 100000 in
set_option maxHeartbeats 4000000 in
theorem truth_c (w : World) (news : List (Addr × Obj)) : Con w 113 1 8 [.bool false] [] news (fun tl r => tl = [] ∧ r = .bool false) := by
  w_top off; unfold Con; k_fill
  intro dp un gd cn cs a ccd cl outer A₀ base h₀ L m s mean mg mb Q E B F X N T hk hd hu hret
  refine wpAny_call ?_
  k_dflt cell_enter
  repeat' (first | (k_unfold; (try dsimp only)) | (k_end; wrow_close) | ((with_reducible show wpAny _ _ (call _ _ _) _ _ _); first | ((with_reducible show wpAny _ _ (call _ [Value.bytes _ _]) _ _ _); refine call_type_of (Tx := "bytes") rfl (by decide +kernel) ?_)) | walk1 | (dsimp only; first | ((with_reducible show wpAny _ _ (call _ _ _) _ _ _); first | ((with_reducible show wpAny _ _ (call _ [Value.bytes _ _]) _ _ _); refine call_type_of (Tx := "bytes") rfl (by decide +kernel) ?_)) | walk1) | (leave1; walk_say "STEP leave1"; try dsimp only) | fail "no step")
  all_goals (refine hret _ [] _ _ (by assumption) (by assumption) ⟨rfl, rfl⟩)
set_option maxRecDepth 100000 in
set_option maxHeartbeats 4000000 in
theorem buffer_c (w : World) (b : Array UInt8) (t : Tok) (news : List (Addr × Obj)) : Con w 106 1 8 [.bytes b t] [] news (fun tl r => tl = [] ∧ r = .bytes b t) := by
  w_top off; unfold Con; k_fill
  intro dp un gd cn cs a ccd cl outer A₀ base h₀ L m s mean mg mb Q E B F X N T hk hd hu hret
  refine wpAny_call ?_
  k_dflt cell_enter
  repeat' (first | (k_unfold; (try dsimp only)) | (k_end; wrow_close) | ((with_reducible show wpAny _ _ (call _ _ _) _ _ _); first | ((with_reducible show wpAny _ _ (call _ [Value.bytes _ _]) _ _ _); refine call_type_of (Tx := "bytes") rfl (by decide +kernel) ?_)) | walk1 | (dsimp only; first | ((with_reducible show wpAny _ _ (call _ _ _) _ _ _); first | ((with_reducible show wpAny _ _ (call _ [Value.bytes _ _]) _ _ _); refine call_type_of (Tx := "bytes") rfl (by decide +kernel) ?_)) | walk1) | (leave1; walk_say "STEP leave1"; try dsimp only) | fail "no step")
  all_goals (refine hret _ [] _ _ (by assumption) (by assumption) ⟨rfl, rfl⟩)
set_option maxRecDepth 100000 in
set_option maxHeartbeats 4000000 in
theorem ascii_buffer_c (w : World) (b : Array UInt8) (t : Tok) (news : List (Addr × Obj)) : Con w 99 1 8 [.bytes b t] [] news (fun tl r => tl = [] ∧ r = .bytes b t) := by
  w_top off; unfold Con; k_fill
  intro dp un gd cn cs a ccd cl outer A₀ base h₀ L m s mean mg mb Q E B F X N T hk hd hu hret
  refine wpAny_call ?_
  k_dflt cell_enter
  repeat' (first | (k_unfold; (try dsimp only)) | (k_end; wrow_close) | ((with_reducible show wpAny _ _ (call _ _ _) _ _ _); first | ((with_reducible show wpAny _ _ (call _ [Value.bytes _ _]) _ _ _); refine call_type_of (Tx := "bytes") rfl (by decide +kernel) ?_)) | walk1 | (dsimp only; first | ((with_reducible show wpAny _ _ (call _ _ _) _ _ _); first | ((with_reducible show wpAny _ _ (call _ [Value.bytes _ _]) _ _ _); refine call_type_of (Tx := "bytes") rfl (by decide +kernel) ?_)) | walk1) | (leave1; walk_say "STEP leave1"; try dsimp only) | fail "no step")
  all_goals (refine hret _ [] _ _ (by assumption) (by assumption) ⟨rfl, rfl⟩)

end
section
open PySem PySem.W PyProof.Rows
def encStep (a : List Int × Int × Int) (b : Int) : List Int × Int × Int :=
  if a.2.1 = 0 then (a.1 ++ [b64c (b / 4)], 2, b % 4)
  else if a.2.1 = 2 then (a.1 ++ [b64c (a.2.2 * 16 + b / 16)], 4, b % 16)
  else (a.1 ++ [b64c (a.2.2 * 4 + b / 64), b64c (b % 64)], 0, 0)
def encState (bs : List Int) : List Int × Int × Int := bs.foldl encStep ([], 0, 0)
theorem encState_snoc (bs : List Int) (b : Int) : encState (bs ++ [b]) = encStep (encState bs) b := by simp [encState, List.foldl_append]
def EncInv (pre : List Int) (lb lc : Int) (out : List Int) : Prop :=
  out = (encState pre).1 ∧ lb = (encState pre).2.1 ∧ 0 ≤ lc ∧ lc < 65536 ∧ (lb = 0 ∨ (lb = 2 ∧ lc % 4 = (encState pre).2.2) ∨ (lb = 4 ∧ lc % 16 = (encState pre).2.2))
theorem encState_length (bs : List Int) : (encState bs).1.length ≤ 2 * bs.length := by
  have step : ∀ a b, (encStep a b).1.length ≤ a.1.length + 2 := by
    intro a b
    unfold encStep
    repeat' split
    all_goals (simp only [List.length_append, List.length_cons, List.length_nil]; omega)
  have all : ∀ (bs : List Int) a, (bs.foldl encStep a).1.length ≤ a.1.length + 2 * bs.length := by
    intro bs
    induction bs with
    | nil => intro a; simp
    | cons b r ih =>
      intro a
      have h1 := ih (encStep a b)
      have h2 := step a b
      simp only [List.foldl_cons, List.length_cons]; omega
  have := all bs ([], 0, 0)
  simpa [encState] using this
def EncOk (a : List Int × Int × Int) : Prop := KBa.In a.1 ∧ (a.2.1 = 0 ∨ (a.2.1 = 2 ∧ 0 ≤ a.2.2 ∧ a.2.2 < 4) ∨ (a.2.1 = 4 ∧ 0 ≤ a.2.2 ∧ a.2.2 < 16))
theorem encOk_step {a : List Int × Int × Int} {b : Int} (h : EncOk a) (h0 : 0 ≤ b) (h1 : b < 256) : EncOk (encStep a b) := by
  obtain ⟨hi, h⟩ := h
  unfold encStep
  rcases h with h | ⟨h, h2, h3⟩ | ⟨h, h2, h3⟩
  · rw [if_pos h]
    exact ⟨in_snoc hi (b64c_in (by omega) (by omega)), .inr (.inl ⟨rfl, by show 0 ≤ b % 4; omega, by show b % 4 < 4; omega⟩)⟩
  · rw [if_neg (by omega), if_pos h]
    exact ⟨in_snoc hi (b64c_in (by omega) (by omega)), .inr (.inr ⟨rfl, by show 0 ≤ b % 16; omega, by show b % 16 < 16; omega⟩)⟩
  · rw [if_neg (by omega), if_neg (by omega)]
    refine ⟨?_, .inl rfl⟩
    have := in_snoc (in_snoc hi (b64c_in (i := a.2.2 * 4 + b / 64) (by omega) (by omega))) (b64c_in (i := b % 64) (by omega) (by omega))
    simpa using this
theorem encOk_state {bs : List Int} (h : KBa.In bs) : EncOk (encState bs) := by
  have all : ∀ (bs : List Int) a, KBa.In bs → EncOk a → EncOk (bs.foldl encStep a) := by
    intro bs
    induction bs with
    | nil => intro a _ h; exact h
    | cons b r ih =>
      intro a h h'
      have hb := h b List.mem_cons_self
      exact ih _ (fun n hn => h n (List.mem_cons_of_mem _ hn)) (encOk_step h' hb.1 hb.2)
  exact all bs ([], 0, 0) h ⟨(by intro n hn; cases hn), Or.inl rfl⟩
def encBytes (bs : List Int) : List Int :=
  if (encState bs).2.1 = 2 then (encState bs).1 ++ [b64c ((encState bs).2.2 * 16)] ++ [61] ++ [61]
  else if (encState bs).2.1 = 4 then (encState bs).1 ++ [b64c ((encState bs).2.2 * 4)] ++ [61]
  else (encState bs).1
theorem encInv_start : EncInv [] 0 0 [] := by simp [EncInv, encState]
section
variable {pre out : List Int} {lc k : Int}
theorem lc_next (h0 : 0 ≤ lc) (hk0 : 0 ≤ k) (hk1 : k < 256) : Builtin.bitAnd (Builtin.bitOr (lc * 2 ^ (8 : Int).toNat) k) 65535 = (lc * 256 + k) % 65536 := by
  rw [bitAnd_m16, bitOr_shift8 lc k h0 hk0 hk1]
theorem encInv0 (hP : EncInv pre 0 lc out) (hk0 : 0 ≤ k) (hk1 : k < 256) :
    EncInv (pre ++ [k]) (0 + 8 - 6) (Builtin.bitAnd (Builtin.bitOr (lc * 2 ^ (8 : Int).toNat) k) 65535) (out ++ [b64c (Builtin.bitAnd (Int.fdiv (Builtin.bitAnd (Builtin.bitOr (lc * 2 ^ (8 : Int).toNat) k) 65535) (2 ^ ((0 : Int) + 8 - 6).toNat)) 63)]) := by
  obtain ⟨e1, e2, h0, h1, -⟩ := hP
  rw [lc_next h0 hk0 hk1, bitAnd_m6, fdiv_pow]
  have hs : encState (pre ++ [k]) = (out ++ [b64c (k / 4)], 2, k % 4) := by rw [encState_snoc, encStep, if_pos e2.symm, e1]
  have e : ((lc * 256 + k) % 65536 / 2 ^ ((0 : Int) + 8 - 6).toNat) % 64 = k / 4 := by
    show ((lc * 256 + k) % 65536 / 4) % 64 = k / 4
    omega
  rw [e, EncInv, hs]
  refine ⟨rfl, rfl, by omega, by omega, .inr (.inl ⟨rfl, ?_⟩)⟩
  show (lc * 256 + k) % 65536 % 4 = k % 4
  omega
theorem encInv2 (hP : EncInv pre 2 lc out) (hk0 : 0 ≤ k) (hk1 : k < 256) :
    EncInv (pre ++ [k]) (2 + 8 - 6) (Builtin.bitAnd (Builtin.bitOr (lc * 2 ^ (8 : Int).toNat) k) 65535) (out ++ [b64c (Builtin.bitAnd (Int.fdiv (Builtin.bitAnd (Builtin.bitOr (lc * 2 ^ (8 : Int).toNat) k) 65535) (2 ^ ((2 : Int) + 8 - 6).toNat)) 63)]) := by
  obtain ⟨e1, e2, h0, h1, h3⟩ := hP
  rw [lc_next h0 hk0 hk1, bitAnd_m6, fdiv_pow]
  have h4 : lc % 4 = (encState pre).2.2 := by
    rcases h3 with h | ⟨_, h⟩ | ⟨h, _⟩
    · exact absurd h (by decide)
    · exact h
    · exact absurd h (by decide)
  have hs : encState (pre ++ [k]) = (out ++ [b64c (lc % 4 * 16 + k / 16)], 4, k % 16) := by rw [encState_snoc, encStep, if_neg (by rw [← e2]; decide), if_pos e2.symm, e1, h4]
  have e : ((lc * 256 + k) % 65536 / 2 ^ ((2 : Int) + 8 - 6).toNat) % 64 = lc % 4 * 16 + k / 16 := by
    show ((lc * 256 + k) % 65536 / 16) % 64 = _
    omega
  rw [e, EncInv, hs]
  refine ⟨rfl, rfl, by omega, by omega, .inr (.inr ⟨rfl, ?_⟩)⟩
  show (lc * 256 + k) % 65536 % 16 = k % 16
  omega
theorem encInv4 (hP : EncInv pre 4 lc out) (hk0 : 0 ≤ k) (hk1 : k < 256) :
    EncInv (pre ++ [k]) (4 + 8 - 6 - 6) (Builtin.bitAnd (Builtin.bitOr (lc * 2 ^ (8 : Int).toNat) k) 65535)
      (out ++ [b64c (Builtin.bitAnd (Int.fdiv (Builtin.bitAnd (Builtin.bitOr (lc * 2 ^ (8 : Int).toNat) k) 65535) (2 ^ ((4 : Int) + 8 - 6).toNat)) 63)] ++ [b64c (Builtin.bitAnd (Int.fdiv (Builtin.bitAnd (Builtin.bitOr (lc * 2 ^ (8 : Int).toNat) k) 65535) (2 ^ ((4 : Int) + 8 - 6 - 6).toNat)) 63)]) := by
  obtain ⟨e1, e2, h0, h1, h3⟩ := hP
  rw [lc_next h0 hk0 hk1, bitAnd_m6, bitAnd_m6, fdiv_pow, fdiv_pow]
  have h4 : lc % 16 = (encState pre).2.2 := by
    rcases h3 with h | ⟨h, _⟩ | ⟨_, h⟩
    · exact absurd h (by decide)
    · exact absurd h (by decide)
    · exact h
  have hs : encState (pre ++ [k]) = (out ++ [b64c (lc % 16 * 4 + k / 64), b64c (k % 64)], 0, 0) := by rw [encState_snoc, encStep, if_neg (by rw [← e2]; decide), if_neg (by rw [← e2]; decide), e1, h4]
  have e : ((lc * 256 + k) % 65536 / 2 ^ ((4 : Int) + 8 - 6).toNat) % 64 = lc % 16 * 4 + k / 64 := by
    show ((lc * 256 + k) % 65536 / 64) % 64 = _
    omega
  have e' : ((lc * 256 + k) % 65536 / 2 ^ ((4 : Int) + 8 - 6 - 6).toNat) % 64 = k % 64 := by
    show ((lc * 256 + k) % 65536 / 1) % 64 = _
    omega
  rw [e, e', EncInv, hs]
  exact ⟨by simp, rfl, by omega, by omega, .inl rfl⟩
theorem encBytes_length (bs : List Int) : (encBytes bs).length ≤ 2 * bs.length + 3 := by
  have h := encState_length bs
  unfold encBytes
  (repeat' split) <;> (try simp only [List.length_append, List.length_cons, List.length_nil]) <;> omega
theorem encDone0 {bs : List Int} (hP : EncInv bs 0 lc out) : encBytes bs = out := by
  obtain ⟨e1, e2, -⟩ := hP
  rw [encBytes, if_neg (by omega), if_neg (by omega), e1]
theorem encDone2 {bs : List Int} (hP : EncInv bs 2 lc out) : encBytes bs = out ++ [b64c (Builtin.bitAnd lc 3 * 2 ^ (4 : Int).toNat)] ++ [61] ++ [61] := by
  obtain ⟨e1, e2, h0, h1, h3⟩ := hP
  have h4 : lc % 4 = (encState bs).2.2 := by
    rcases h3 with h | ⟨_, h⟩ | ⟨h, _⟩
    · exact absurd h (by decide)
    · exact h
    · exact absurd h (by decide)
  rw [encBytes, if_pos (by omega), e1, bitAnd_m2, h4]
  rfl
theorem encDone4 {bs : List Int} (hP : EncInv bs 4 lc out) : encBytes bs = out ++ [b64c (Builtin.bitAnd lc 15 * 2 ^ (2 : Int).toNat)] ++ [61] := by
  obtain ⟨e1, e2, h0, h1, h3⟩ := hP
  have h4 : lc % 16 = (encState bs).2.2 := by
    rcases h3 with h | ⟨h, _⟩ | ⟨_, h⟩
    · exact absurd h (by decide)
    · exact absurd h (by decide)
    · exact h
  rw [encBytes, if_neg (by omega), if_pos (by omega), e1, bitAnd_m4, h4]
  rfl
end

end
section
open PySem PySem.W PyProof.Rows
def decStep (a : List Int × Int × Int × Int) (c : Int) : List Int × Int × Int × Int :=
  if c = 61 then (a.1, a.2.1, a.2.2.1, a.2.2.2 + 1)
  else if 64 ≤ b64v c then a
  else if a.2.1 = 0 then (a.1, 1, b64v c, 0)
  else if a.2.1 = 1 then (a.1 ++ [a.2.2.1 * 4 + b64v c / 16], 2, b64v c % 16, 0)
  else if a.2.1 = 2 then (a.1 ++ [a.2.2.1 * 16 + b64v c / 4], 3, b64v c % 4, 0)
  else (a.1 ++ [a.2.2.1 * 64 + b64v c], 0, 0, 0)
def decState (cs : List Int) : List Int × Int × Int × Int := cs.foldl decStep ([], 0, 0, 0)
theorem decState_snoc (cs : List Int) (c : Int) : decState (cs ++ [c]) = decStep (decState cs) c := by simp [decState, List.foldl_append]
def DecOk (a : List Int × Int × Int × Int) : Prop :=
  KBa.In a.1 ∧ 0 ≤ a.2.2.2 ∧ ((a.2.1 = 0 ∧ a.2.2.1 = 0) ∨ (a.2.1 = 1 ∧ 0 ≤ a.2.2.1 ∧ a.2.2.1 < 64) ∨ (a.2.1 = 2 ∧ 0 ≤ a.2.2.1 ∧ a.2.2.1 < 16) ∨ (a.2.1 = 3 ∧ 0 ≤ a.2.2.1 ∧ a.2.2.1 < 4))
theorem decOk_step {a : List Int × Int × Int × Int} (h : DecOk a) (c : Int) : DecOk (decStep a c) := by
  obtain ⟨out, q, lc, pads⟩ := a
  obtain ⟨hi, hp, h⟩ := h
  have hr := b64v_range c
  dsimp only at hi hp h
  unfold decStep
  dsimp only
  by_cases h61 : c = 61
  · rw [if_pos h61]; exact ⟨hi, by show 0 ≤ pads + 1; omega, h⟩
  rw [if_neg h61]
  by_cases h64 : 64 ≤ b64v c
  · rw [if_pos h64]; exact ⟨hi, hp, h⟩
  rw [if_neg h64]
  rcases h with ⟨h, h2⟩ | ⟨h, h2, h3⟩ | ⟨h, h2, h3⟩ | ⟨h, h2, h3⟩
  · rw [if_pos h]; exact ⟨hi, Int.le_refl 0, .inr (.inl ⟨rfl, hr.1, by show b64v c < 64; omega⟩)⟩
  · rw [if_neg (by omega), if_pos h]; exact ⟨in_snoc hi (by omega), Int.le_refl 0, .inr (.inr (.inl ⟨rfl, by show 0 ≤ b64v c % 16; omega, by show b64v c % 16 < 16; omega⟩))⟩
  · rw [if_neg (by omega), if_neg (by omega), if_pos h]; exact ⟨in_snoc hi (by omega), Int.le_refl 0, .inr (.inr (.inr ⟨rfl, by show 0 ≤ b64v c % 4; omega, by show b64v c % 4 < 4; omega⟩))⟩
  · rw [if_neg (by omega), if_neg (by omega), if_neg (by omega)]; exact ⟨in_snoc hi (by omega), Int.le_refl 0, .inl ⟨rfl, rfl⟩⟩
theorem decOk_state (cs : List Int) : DecOk (decState cs) := by
  have all : ∀ (cs : List Int) a, DecOk a → DecOk (cs.foldl decStep a) := by
    intro cs
    induction cs with
    | nil => intro a h; exact h
    | cons c r ih => intro a h; exact ih _ (decOk_step h c)
  exact all cs ([], 0, 0, 0) ⟨(by intro n hn; cases hn), Int.le_refl 0, Or.inl ⟨rfl, rfl⟩⟩
theorem decState_length (cs : List Int) : (decState cs).1.length ≤ cs.length := by
  have step : ∀ a c, (decStep a c).1.length ≤ a.1.length + 1 := by
    intro a c
    unfold decStep
    repeat' split
    all_goals ((try simp only [List.length_append, List.length_cons, List.length_nil]); omega)
  have all : ∀ (cs : List Int) a, (cs.foldl decStep a).1.length ≤ a.1.length + cs.length := by
    intro cs
    induction cs with
    | nil => intro a; simp
    | cons c r ih =>
      intro a
      have h1 := ih (decStep a c)
      have h2 := step a c
      simp only [List.foldl_cons, List.length_cons]; omega
  have := all cs ([], 0, 0, 0)
  simpa [decState] using this
def DecInv (pre : List Int) (q lc pads : Int) (out : List Int) : Prop := decState pre = (out, q, lc, pads)
theorem decInv_start : DecInv [] 0 0 0 [] := rfl
section
variable {pre out : List Int} {q lc pads k : Int}
theorem decInv_ok (hP : DecInv pre q lc pads out) : KBa.In out ∧ 0 ≤ pads ∧ ((q = 0 ∧ lc = 0) ∨ (q = 1 ∧ 0 ≤ lc ∧ lc < 64) ∨ (q = 2 ∧ 0 ≤ lc ∧ lc < 16) ∨ (q = 3 ∧ 0 ≤ lc ∧ lc < 4)) ∧ out.length ≤ pre.length := by
  have h := decOk_state pre
  have h2 := decState_length pre
  unfold DecInv at hP
  rw [hP] at h h2
  exact ⟨h.1, h.2.1, h.2.2, h2⟩
theorem decInv_pad (hP : DecInv pre q lc pads out) (hk : k = 61) : DecInv (pre ++ [k]) q lc (pads + 1) out := by
  unfold DecInv at *
  rw [decState_snoc, hP, decStep, if_pos hk]
theorem decInv_skip (hP : DecInv pre q lc pads out) (hk : ¬ k = 61) (h : 64 ≤ b64v k) : DecInv (pre ++ [k]) q lc pads out := by
  unfold DecInv at *
  rw [decState_snoc, hP, decStep, if_neg hk, if_pos h]
theorem decInv0 (hP : DecInv pre 0 lc pads out) (hk : ¬ k = 61) (h : ¬ 64 ≤ b64v k) : DecInv (pre ++ [k]) 1 (b64v k) 0 out := by
  unfold DecInv at *
  rw [decState_snoc, hP, decStep, if_neg hk, if_neg h, if_pos rfl]
theorem decInv1 (hP : DecInv pre 1 lc pads out) (hk : ¬ k = 61) (h : ¬ 64 ≤ b64v k) :
    DecInv (pre ++ [k]) 2 (Builtin.bitAnd (b64v k) 15) 0 (out ++ [Builtin.bitOr (lc * 2 ^ (2 : Int).toNat) ((b64v k).fdiv (2 ^ (4 : Int).toNat))]) := by
  have ho := (decInv_ok hP).2.2.1
  have hr := b64v_range k
  unfold DecInv at *
  rw [decState_snoc, hP, decStep, if_neg hk, if_neg h, if_neg (show ¬ (1:Int) = 0 by decide), if_pos rfl, bitAnd_m4, fdiv_pow]
  have e : (b64v k / 2 ^ (4 : Int).toNat) = b64v k / 16 := rfl
  rw [e, bitOr_shift2 _ _ (by omega) (by omega) (by omega)]
theorem decInv2 (hP : DecInv pre 2 lc pads out) (hk : ¬ k = 61) (h : ¬ 64 ≤ b64v k) :
    DecInv (pre ++ [k]) 3 (Builtin.bitAnd (b64v k) 3) 0 (out ++ [Builtin.bitOr (lc * 2 ^ (4 : Int).toNat) ((b64v k).fdiv (2 ^ (2 : Int).toNat))]) := by
  have ho := (decInv_ok hP).2.2.1
  have hr := b64v_range k
  unfold DecInv at *
  rw [decState_snoc, hP, decStep, if_neg hk, if_neg h, if_neg (show ¬ (2:Int) = 0 by decide), if_neg (show ¬ (2:Int) = 1 by decide), if_pos rfl, bitAnd_m2, fdiv_pow]
  have e : (b64v k / 2 ^ (2 : Int).toNat) = b64v k / 4 := rfl
  rw [e, bitOr_shift4 _ _ (by omega) (by omega) (by omega)]
theorem decInv3 (hP : DecInv pre 3 lc pads out) (hk : ¬ k = 61) (h : ¬ 64 ≤ b64v k) :
    DecInv (pre ++ [k]) 0 0 0 (out ++ [Builtin.bitOr (lc * 2 ^ (6 : Int).toNat) (b64v k)]) := by
  have ho := (decInv_ok hP).2.2.1
  have hr := b64v_range k
  unfold DecInv at *
  rw [decState_snoc, hP, decStep, if_neg hk, if_neg h, if_neg (show ¬ (3:Int) = 0 by decide), if_neg (show ¬ (3:Int) = 1 by decide), if_neg (show ¬ (3:Int) = 2 by decide)]
  rw [bitOr_shift6 _ _ (by omega) (by omega) (by omega)]
end

end
section
open PySem PySem.W PyProof.Rows
theorem append_L {prog : Program} {w : World} {A : Around} {E : Value → Shared → Prop} {s : Shared} {h₀ : Heap} {L D : Addr} {m : Str → Option Value} {rest : List (Addr × Obj)} {vs : List Value} {n : Nat} {x : Value} {Q : Value → Shared → Prop}
    (F : Fr h₀ L s.heap m) (N : News h₀ L s.heap ((D, listOf vs.toArray n) :: rest)) (hne : ∀ p ∈ rest, p.1 ≠ D) (hsz : vs.length ≤ sizeLine)
    (h : ∀ h', Fr h₀ L h' m → News h₀ L h' ((D, listOf (vs ++ [x]).toArray (n + 1)) :: rest) → Q .none { s with heap := h' }) : wpAny (model prog w) A (call (.builtin "list.append") [.ref D, x]) Q E s := by
  refine append_K F N (Upd.head hne) (fun h' F' N' => h h' F' ?_) (by simpa using hsz)
  simpa using N'
theorem intsAre_snoc {vs : List Value} {ns : List Int} (h : IntsAre vs ns) (i : Int) (t : Tok) : IntsAre (vs ++ [.int i t]) (ns ++ [i]) := by
  induction h with
  | nil => exact .cons _ _ .nil
  | cons _ _ _ ih => exact .cons _ _ ih
theorem intsAre_push {its : Array Value} {ns : List Int} (h : IntsAre its.toList ns) (i : Int) (t : Tok) : IntsAre (its.push (.int i t)).toList (ns ++ [i]) := by
  rw [Array.toList_push]; exact intsAre_snoc h i t
theorem con_use {w : World} {f : Addr} {d u : Nat} {args : List Value} {kw : List (Str × Value)} {news : List (Addr × Obj)} {Post : List (Addr × Obj) → Value → Prop} (C : Con w f d u args kw news Post)
    {dp un : Nat} {gd : Option (List Code)} {cn : Str} {cs : Scope} {a : Addr} {ccd : Value} {cl : List (Str × Addr)} {outer : List Env} {A₀ : Around} {base h₀ : Heap} {L : Addr} {m : Str → Option Value} {s : Shared} {mean : ExcName → Option Value} {mg mb : Str → Option Value} {Q E : Value → Shared → Prop}
    (B : Below A₀ base outer h₀) (F : Fr h₀ L s.heap m) (X : (hd.heap_39 w.params).In h₀) (N : News h₀ L s.heap news) (T : Top hd.view_39 (looseW hd.view_39 [Str.ofString "bytes_types", Str.ofString "a2b_base64", Str.ofString "b2a_base64", Str.ofString "b64encode", Str.ofString "b64decode"]) mean mg mb h₀) (hk : cs.kind = .function)
    (hd : dp + d < recursionLimit) (hu : un + u < cLine)
    (ret : ∀ r tl h' tk', Fr h₀ L h' m → News h₀ L h' (tl ++ news) → Post tl r → Q r { s with heap := h', toks := tk' }) :
    wpAny (model PySem.Challenge.rw_il0038_01.row.toRowW.prog w) (ktrTop dp un gd cn cs L a ccd cl outer) (call (.ref f) args kw) Q E s :=
  C _ _ _ _ _ _ _ _ _ _ _ _ _ _ _ _ _ _ _ _ B F X N T hk hd hu ret
structure EncSt where
  lb : Int
  t1 : Tok
  lc : Int
  t2 : Tok
  out : List Int
  vs : List Value
  n : Nat
theorem make_L {prog : Program} {w : World} {A : Around} {E : Value → Shared → Prop} {s : Shared} {h₀ : Heap} {L D : Addr} {m : Str → Option Value} {rest : List (Addr × Obj)} {its : Array Value} {n : Nat} {ns : List Int} {Q : Value → Shared → Prop}
    (F : Fr h₀ L s.heap m) (N : News h₀ L s.heap ((D, listOf its n) :: rest)) (hh : A.handled = none) (hi : IntsAre its.toList ns) (hr : KBa.In ns) (hn : ns.length ≤ 16777216)
    (h : ∀ h' t' k, Fr h₀ L h' m → News h₀ L h' ((D, listOf its n) :: rest) → Q (.bytes (byteArr ns) t') { s with heap := h', toks := k }) : wpAny (model prog w) A (call (.type "bytes") [.ref D]) Q E s :=
  KBa.make_K F N hh ⟨_, (N _ List.mem_cons_self).1, rfl, n, by simp⟩ hi hr hn fun h' t' k F' N' _ => h h' t' k F' N'
theorem enc_end {g' : Heap} {L' l9 : Addr} {h' : Heap} {m' m₀ : Str → Option Value} {its : Array Value} {n' n₀ : Nat} {news own : List (Addr × Obj)} {vs₀ : List Value} {lb lc : Int} {t1 t2 : Tok} {out' pre : List Int} {s₁ : Shared} {tk : Nat}
    (F : Fr g' L' h' m') (N : News g' L' h' ((l9, listOf its n') :: (news ++ own))) (h1 : m' (Str.ofString "leftbits") = some (.int lb t1)) (h2 : m' (Str.ofString "leftchar") = some (.int lc t2))
    (hr : ∀ z, z ≠ Str.ofString "b" → z ≠ Str.ofString "leftbits" → z ≠ Str.ofString "leftchar" → m' z = m₀ z) (hp : EncInv pre lb lc out') (hf : IntsAre its.toList out') :
    InvEndN g' L' (KstS (σ := EncSt) (fun c => (l9, listOf c.vs.toArray c.n) :: news) (fun c => [(Str.ofString "leftbits", .int c.lb c.t1), (Str.ofString "leftchar", .int c.lc c.t2)]) (fun c => IntsAre c.vs c.out) (Str.ofString "b") [] m₀ (fun pre c => EncInv pre c.lb c.lc c.out) pre) own
      (((l9, listOf vs₀.toArray n₀) :: news).map (fun x => x.1)) s₁ { s₁ with heap := h', toks := tk } := by
  refine kst_end ⟨lb, t1, lc, t2, out', its.toList, n'⟩ F N ?_ ?_ rfl hf ?_ ?_ hp
  · exact List.forall_mem_cons.mpr ⟨by simp, fun p hp => List.mem_cons_of_mem _ (List.mem_append_left _ hp)⟩
  · exact fun p hp => List.mem_cons_of_mem _ (List.mem_append_right _ hp)
  · exact List.forall_mem_cons.mpr ⟨h1, List.forall_mem_cons.mpr ⟨h2, List.forall_mem_nil _⟩⟩
  · intro z hz hp _
    exact hr z hz (hp _ List.mem_cons_self) (hp _ (List.mem_cons_of_mem _ List.mem_cons_self))
set_option maxRecDepth 100000 in
set_option maxHeartbeats 8000000 in
theorem b2a_c (w : World) (b : Array UInt8) (hb : b.size ≤ 1000) (t : Tok) (news : List (Addr × Obj)) : Con w 136 2 16 [.bytes b t] [(Str.ofString "newline", .bool false)] news (fun _ r => ∃ t', r = .bytes (byteArr (encBytes (KBw.bInts b))) t') := by
  w_top off; unfold Con; k_fill
  intro dp un gd cn cs a ccd cl outer A₀ base h₀ L m s mean mg mb Q E B F X N T hk hd hu hret
  refine wpAny_call ?_
  k_dflt (refine' code_def ?k1 ?k2 ?k3 ?k4 ?k5 ?kA ?kF ?kK ?k6 ?k7 ?k8 ?k9 ?kB ?_ ?c2 ?c3 ?c4 ?c5; (case kA => exact rfl); (case kF => exact rfl); (case kK => first | assumption | exact rfl); (case k1 => k_asm); (case k2 => k_asm); (case k3 => k_asm); (case k4 => k_asm); (case k5 => k_asm); (case k6 => k_is); (case k7 => k_is); (case k8 => ktr_room); (case k9 => first | exact BindsTo.of_eq rfl | exact binds_K (by k_in) rfl (by k_is) rfl rfl rfl); (case c5 => decide); (case kB => exact locs rfl); (case c2 => exact rfl); (case c3 => exact rfl); (case c4 => exact rfl); k_whole; intro g' L' h' FG' F' N' B' X' T'; (try dsimp only); (try k_lift B'); (try k_fold))
  repeat' (first | ((fail_if_success (with_reducible show wpAny _ _ (pyIter _) _ _ _)); first | (k_unfold; (try dsimp only)) | (k_end; wrow_close) | ((with_reducible show wpAny _ _ (call _ _ _) _ _ _); first | (k_here; (with_reducible show wpAny _ _ (call (Value.type "bytes") [Value.ref _]) _ _ _); k_dflt (refine' make_L (by k_asm) (by k_asm) (by rfl) (by first | exact (by assumption) | exact intsAre_push (by assumption) _ _ | exact intsAre_push (intsAre_push (by assumption) _ _) _ _ | exact intsAre_push (intsAre_push (intsAre_push (by assumption) _ _) _ _) _ _) (by repeat' (first | assumption | refine in_snoc ?_ (b64c_in (and3_sh_lo _) (and3_sh_hi _)) | refine in_snoc ?_ (b64c_in (and15_sh_lo _) (and15_sh_hi _)) | refine in_snoc ?_ ⟨by decide, by decide⟩)) (by (simp only [List.length_append, List.length_cons, List.length_nil]; omega)) ?_); intro _ _ _ zF' zN') | (k_here; (with_reducible show wpAny _ _ (call (Value.builtin _) [Value.ref _, _]) _ _ _); k_dflt (refine' append_L (by k_asm) (by k_asm) (by assumption) (by ((simp only [List.length_append, List.length_cons, List.length_nil]); rw [sizeLine_eq]; omega)) ?_; k_whole); intro zh' zF' zN') | ((with_reducible show wpAny _ _ (call (Value.ref 113) _ _) _ _ _); k_dflt (refine' con_use (truth_c _ _) (by k_asm) (by k_asm) (by k_asm) (by k_asm) (by k_asm) (by first | exact rfl | assumption) (by ktr_room) (by ktr_units) ?_; k_whole; intro zr9 ztl9 zh9 ztk9 zF9 zN9 zho9; obtain ⟨ze9, ze8⟩ := zho9; subst ze9; subst ze8; (try simp only [List.nil_append, List.cons_append] at zN9); (try dsimp only); (try k_fold))) | ((with_reducible show wpAny _ _ (call (Value.ref 106) _ _) _ _ _); k_dflt (refine' con_use (buffer_c _ _ _ _) (by k_asm) (by k_asm) (by k_asm) (by k_asm) (by k_asm) (by first | exact rfl | assumption) (by ktr_room) (by ktr_units) ?_; k_whole; intro zr9 ztl9 zh9 ztk9 zF9 zN9 zho9; obtain ⟨ze9, ze8⟩ := zho9; subst ze9; subst ze8; (try simp only [List.nil_append, List.cons_append] at zN9); (try dsimp only); (try k_fold)))) | ((with_reducible show wpAny _ _ (binaryOp _ _ _) _ _ _); first | (with_reducible ((with_reducible show wpAny _ _ (binaryOp _ (Value.int _ _) (Value.int _ _)) _ _ _); (first | (refine' lshift_int_small (by decide) (by decide) (by exact and3_abs _) ?_; k_whole) | (refine' lshift_int_small (by decide) (by decide) (by exact and15_abs _) ?_; k_whole))))) | ((with_reducible show wpAny _ _ (subscriptTail _ _ _ _) _ _ _); first | ((with_reducible show wpAny _ _ (subscriptTail _ _ (Value.bytes _ _) (Value.int (_ * _) _)) _ _ _); k_dflt (first | (refine' tab_item (by exact and3_sh_lo _) (by exact and3_sh_hi _) ?_; k_whole) | (refine' tab_item (by exact and15_sh_lo _) (by exact and15_sh_hi _) ?_; k_whole))) | ((with_reducible show wpAny _ _ (subscriptTail _ _ (Value.bytes _ _) (Value.int (Builtin.bitAnd _ 63) _)) _ _ _); k_dflt (refine' tab_item (by exact and63_lo _) (by exact and63_hi _) ?_; k_whole))) | walk1 | (dsimp only; first | ((with_reducible show wpAny _ _ (call _ _ _) _ _ _); first | (k_here; (with_reducible show wpAny _ _ (call (Value.type "bytes") [Value.ref _]) _ _ _); k_dflt (refine' make_L (by k_asm) (by k_asm) (by rfl) (by first | exact (by assumption) | exact intsAre_push (by assumption) _ _ | exact intsAre_push (intsAre_push (by assumption) _ _) _ _ | exact intsAre_push (intsAre_push (intsAre_push (by assumption) _ _) _ _) _ _) (by repeat' (first | assumption | refine in_snoc ?_ (b64c_in (and3_sh_lo _) (and3_sh_hi _)) | refine in_snoc ?_ (b64c_in (and15_sh_lo _) (and15_sh_hi _)) | refine in_snoc ?_ ⟨by decide, by decide⟩)) (by (simp only [List.length_append, List.length_cons, List.length_nil]; omega)) ?_); intro _ _ _ zF' zN') | (k_here; (with_reducible show wpAny _ _ (call (Value.builtin _) [Value.ref _, _]) _ _ _); k_dflt (refine' append_L (by k_asm) (by k_asm) (by assumption) (by ((simp only [List.length_append, List.length_cons, List.length_nil]); rw [sizeLine_eq]; omega)) ?_; k_whole); intro zh' zF' zN') | ((with_reducible show wpAny _ _ (call (Value.ref 113) _ _) _ _ _); k_dflt (refine' con_use (truth_c _ _) (by k_asm) (by k_asm) (by k_asm) (by k_asm) (by k_asm) (by first | exact rfl | assumption) (by ktr_room) (by ktr_units) ?_; k_whole; intro zr9 ztl9 zh9 ztk9 zF9 zN9 zho9; obtain ⟨ze9, ze8⟩ := zho9; subst ze9; subst ze8; (try simp only [List.nil_append, List.cons_append] at zN9); (try dsimp only); (try k_fold))) | ((with_reducible show wpAny _ _ (call (Value.ref 106) _ _) _ _ _); k_dflt (refine' con_use (buffer_c _ _ _ _) (by k_asm) (by k_asm) (by k_asm) (by k_asm) (by k_asm) (by first | exact rfl | assumption) (by ktr_room) (by ktr_units) ?_; k_whole; intro zr9 ztl9 zh9 ztk9 zF9 zN9 zho9; obtain ⟨ze9, ze8⟩ := zho9; subst ze9; subst ze8; (try simp only [List.nil_append, List.cons_append] at zN9); (try dsimp only); (try k_fold)))) | ((with_reducible show wpAny _ _ (binaryOp _ _ _) _ _ _); first | (with_reducible ((with_reducible show wpAny _ _ (binaryOp _ (Value.int _ _) (Value.int _ _)) _ _ _); (first | (refine' lshift_int_small (by decide) (by decide) (by exact and3_abs _) ?_; k_whole) | (refine' lshift_int_small (by decide) (by decide) (by exact and15_abs _) ?_; k_whole))))) | ((with_reducible show wpAny _ _ (subscriptTail _ _ _ _) _ _ _); first | ((with_reducible show wpAny _ _ (subscriptTail _ _ (Value.bytes _ _) (Value.int (_ * _) _)) _ _ _); k_dflt (first | (refine' tab_item (by exact and3_sh_lo _) (by exact and3_sh_hi _) ?_; k_whole) | (refine' tab_item (by exact and15_sh_lo _) (by exact and15_sh_hi _) ?_; k_whole))) | ((with_reducible show wpAny _ _ (subscriptTail _ _ (Value.bytes _ _) (Value.int (Builtin.bitAnd _ 63) _)) _ _ _); k_dflt (refine' tab_item (by exact and63_lo _) (by exact and63_hi _) ?_; k_whole))) | walk1) | (leave1; walk_say "STEP leave1"; try dsimp only)) | fail "no step")
  rename_i l9 _ l1 _ _ _ F1 N1
  refine' KStb.kst_bytes (σ := EncSt) (fun c => (l9, listOf c.vs.toArray c.n) :: news) (fun c => [(Str.ofString "leftbits", .int c.lb c.t1), (Str.ofString "leftchar", .int c.lc c.t2)]) (fun c => IntsAre c.vs c.out) [] (fun pre c => EncInv pre c.lb c.lc c.out)
    ⟨0, ?t1, 0, ?t2, [], [], 0⟩ rfl (KBw.ints_length b) rfl F1 N1 .nil ?hk encInv_start ?turn ?done
  case hk => exact List.forall_mem_cons.mpr ⟨by with_unfolding_all rfl, List.forall_mem_cons.mpr ⟨by with_unfolding_all rfl, List.forall_mem_nil _⟩⟩
  case turn =>
    rintro ⟨lb, t1, lc, t2, out, vs, n⟩ pre post k tk u h tk2 own e hlen hk0 hk1 hoff hf hP F2 N2
    dsimp only at hf hP F2 N2 ⊢
    have hne : ∀ p ∈ news ++ own, p.1 ≠ l9 := by
      intro p hp
      rcases List.mem_append.mp hp with h1 | h1
      · exact Nat.ne_of_lt (l1 p h1)
      · exact hoff p h1 l9 (by simp)
    clear hoff
    have hP0 := hP
    obtain ⟨e1, e2, hc0, hc1, h3⟩ := hP
    have hvs : vs.length ≤ 3000 := by
      have h1 := hf.length
      have h2 := encState_length pre
      rw [← e1] at h2
      omega
    rcases h3 with h3 | ⟨h3, h4⟩ | ⟨h3, h4⟩
    all_goals subst h3
    all_goals repeat' (first | (k_unfold; (try dsimp only)) | (k_end; wrow_close) | ((with_reducible show wpAny _ _ (call _ _ _) _ _ _); first | (k_here; (with_reducible show wpAny _ _ (call (Value.type "bytes") [Value.ref _]) _ _ _); k_dflt (refine' make_L (by k_asm) (by k_asm) (by rfl) (by first | exact (by assumption) | exact intsAre_push (by assumption) _ _ | exact intsAre_push (intsAre_push (by assumption) _ _) _ _ | exact intsAre_push (intsAre_push (intsAre_push (by assumption) _ _) _ _) _ _) (by repeat' (first | assumption | refine in_snoc ?_ (b64c_in (and3_sh_lo _) (and3_sh_hi _)) | refine in_snoc ?_ (b64c_in (and15_sh_lo _) (and15_sh_hi _)) | refine in_snoc ?_ ⟨by decide, by decide⟩)) (by (simp only [List.length_append, List.length_cons, List.length_nil]; omega)) ?_); intro _ _ _ zF' zN') | (k_here; (with_reducible show wpAny _ _ (call (Value.builtin _) [Value.ref _, _]) _ _ _); k_dflt (refine' append_L (by k_asm) (by k_asm) (by assumption) (by ((simp only [List.length_append, List.length_cons, List.length_nil]); rw [sizeLine_eq]; omega)) ?_; k_whole); intro zh' zF' zN') | ((with_reducible show wpAny _ _ (call (Value.ref 113) _ _) _ _ _); k_dflt (refine' con_use (truth_c _ _) (by k_asm) (by k_asm) (by k_asm) (by k_asm) (by k_asm) (by first | exact rfl | assumption) (by ktr_room) (by ktr_units) ?_; k_whole; intro zr9 ztl9 zh9 ztk9 zF9 zN9 zho9; obtain ⟨ze9, ze8⟩ := zho9; subst ze9; subst ze8; (try simp only [List.nil_append, List.cons_append] at zN9); (try dsimp only); (try k_fold))) | ((with_reducible show wpAny _ _ (call (Value.ref 106) _ _) _ _ _); k_dflt (refine' con_use (buffer_c _ _ _ _) (by k_asm) (by k_asm) (by k_asm) (by k_asm) (by k_asm) (by first | exact rfl | assumption) (by ktr_room) (by ktr_units) ?_; k_whole; intro zr9 ztl9 zh9 ztk9 zF9 zN9 zho9; obtain ⟨ze9, ze8⟩ := zho9; subst ze9; subst ze8; (try simp only [List.nil_append, List.cons_append] at zN9); (try dsimp only); (try k_fold)))) | ((with_reducible show wpAny _ _ (binaryOp _ _ _) _ _ _); first | (with_reducible ((with_reducible show wpAny _ _ (binaryOp _ (Value.int _ _) (Value.int _ _)) _ _ _); (first | (refine' lshift_int_small (by decide) (by decide) (by exact and3_abs _) ?_; k_whole) | (refine' lshift_int_small (by decide) (by decide) (by exact and15_abs _) ?_; k_whole))))) | ((with_reducible show wpAny _ _ (subscriptTail _ _ _ _) _ _ _); first | ((with_reducible show wpAny _ _ (subscriptTail _ _ (Value.bytes _ _) (Value.int (_ * _) _)) _ _ _); k_dflt (first | (refine' tab_item (by exact and3_sh_lo _) (by exact and3_sh_hi _) ?_; k_whole) | (refine' tab_item (by exact and15_sh_lo _) (by exact and15_sh_hi _) ?_; k_whole))) | ((with_reducible show wpAny _ _ (subscriptTail _ _ (Value.bytes _ _) (Value.int (Builtin.bitAnd _ 63) _)) _ _ _); k_dflt (refine' tab_item (by exact and63_lo _) (by exact and63_hi _) ?_; k_whole))) | walk1 | (dsimp only; first | ((with_reducible show wpAny _ _ (call _ _ _) _ _ _); first | (k_here; (with_reducible show wpAny _ _ (call (Value.type "bytes") [Value.ref _]) _ _ _); k_dflt (refine' make_L (by k_asm) (by k_asm) (by rfl) (by first | exact (by assumption) | exact intsAre_push (by assumption) _ _ | exact intsAre_push (intsAre_push (by assumption) _ _) _ _ | exact intsAre_push (intsAre_push (intsAre_push (by assumption) _ _) _ _) _ _) (by repeat' (first | assumption | refine in_snoc ?_ (b64c_in (and3_sh_lo _) (and3_sh_hi _)) | refine in_snoc ?_ (b64c_in (and15_sh_lo _) (and15_sh_hi _)) | refine in_snoc ?_ ⟨by decide, by decide⟩)) (by (simp only [List.length_append, List.length_cons, List.length_nil]; omega)) ?_); intro _ _ _ zF' zN') | (k_here; (with_reducible show wpAny _ _ (call (Value.builtin _) [Value.ref _, _]) _ _ _); k_dflt (refine' append_L (by k_asm) (by k_asm) (by assumption) (by ((simp only [List.length_append, List.length_cons, List.length_nil]); rw [sizeLine_eq]; omega)) ?_; k_whole); intro zh' zF' zN') | ((with_reducible show wpAny _ _ (call (Value.ref 113) _ _) _ _ _); k_dflt (refine' con_use (truth_c _ _) (by k_asm) (by k_asm) (by k_asm) (by k_asm) (by k_asm) (by first | exact rfl | assumption) (by ktr_room) (by ktr_units) ?_; k_whole; intro zr9 ztl9 zh9 ztk9 zF9 zN9 zho9; obtain ⟨ze9, ze8⟩ := zho9; subst ze9; subst ze8; (try simp only [List.nil_append, List.cons_append] at zN9); (try dsimp only); (try k_fold))) | ((with_reducible show wpAny _ _ (call (Value.ref 106) _ _) _ _ _); k_dflt (refine' con_use (buffer_c _ _ _ _) (by k_asm) (by k_asm) (by k_asm) (by k_asm) (by k_asm) (by first | exact rfl | assumption) (by ktr_room) (by ktr_units) ?_; k_whole; intro zr9 ztl9 zh9 ztk9 zF9 zN9 zho9; obtain ⟨ze9, ze8⟩ := zho9; subst ze9; subst ze8; (try simp only [List.nil_append, List.cons_append] at zN9); (try dsimp only); (try k_fold)))) | ((with_reducible show wpAny _ _ (binaryOp _ _ _) _ _ _); first | (with_reducible ((with_reducible show wpAny _ _ (binaryOp _ (Value.int _ _) (Value.int _ _)) _ _ _); (first | (refine' lshift_int_small (by decide) (by decide) (by exact and3_abs _) ?_; k_whole) | (refine' lshift_int_small (by decide) (by decide) (by exact and15_abs _) ?_; k_whole))))) | ((with_reducible show wpAny _ _ (subscriptTail _ _ _ _) _ _ _); first | ((with_reducible show wpAny _ _ (subscriptTail _ _ (Value.bytes _ _) (Value.int (_ * _) _)) _ _ _); k_dflt (first | (refine' tab_item (by exact and3_sh_lo _) (by exact and3_sh_hi _) ?_; k_whole) | (refine' tab_item (by exact and15_sh_lo _) (by exact and15_sh_hi _) ?_; k_whole))) | ((with_reducible show wpAny _ _ (subscriptTail _ _ (Value.bytes _ _) (Value.int (Builtin.bitAnd _ 63) _)) _ _ _); k_dflt (refine' tab_item (by exact and63_lo _) (by exact and63_hi _) ?_; k_whole))) | walk1) | (leave1; walk_say "STEP leave1"; try dsimp only) | fail "no step")
    all_goals (
      exact enc_end (by k_asm) (by k_asm) (by with_unfolding_all rfl) (by with_unfolding_all rfl)
        (by intro z hz h1 h2; (repeat refine (if_neg (by assumption)).trans ?_); refine Eq.symm ?_; (repeat refine (if_neg (by assumption)).trans ?_); with_unfolding_all rfl)
        (by first | exact encInv0 hP0 hk0 hk1 | exact encInv2 hP0 hk0 hk1 | exact encInv4 hP0 hk0 hk1)
        (by repeat' (first | exact hf | refine intsAre_push ?_ _ _)))
  case done =>
    rintro ⟨lb, t1, lc, t2, out, vs, n⟩ u h tk2 hlen hf hP F2 N2
    dsimp only at hf hP F2 N2 ⊢
    have hne : ∀ p ∈ news, p.1 ≠ l9 := fun p hp => Nat.ne_of_lt (l1 p hp)
    have hin : KBa.In out := by rw [hP.1]; exact (encOk_state fun k hk => KBw.ints_in hk).1
    have hol : out.length ≤ 3000 := by
      have h2 := encState_length (KBw.bInts b)
      rw [← hP.1, KBw.ints_length] at h2
      omega
    have hvs : vs.length ≤ 3000 := by rw [hf.length]; exact hol
    have hf' : IntsAre (vs.toArray).toList out := hf
    have hP0 := hP
    obtain ⟨-, -, -, -, h3⟩ := hP0
    rcases h3 with h3 | ⟨h3, -⟩ | ⟨h3, -⟩
    all_goals subst h3
    all_goals repeat' (first | (k_unfold; (try dsimp only)) | (k_end; wrow_close) | ((with_reducible show wpAny _ _ (call _ _ _) _ _ _); first | (k_here; (with_reducible show wpAny _ _ (call (Value.type "bytes") [Value.ref _]) _ _ _); k_dflt (refine' make_L (by k_asm) (by k_asm) (by rfl) (by first | exact (by assumption) | exact intsAre_push (by assumption) _ _ | exact intsAre_push (intsAre_push (by assumption) _ _) _ _ | exact intsAre_push (intsAre_push (intsAre_push (by assumption) _ _) _ _) _ _) (by repeat' (first | assumption | refine in_snoc ?_ (b64c_in (and3_sh_lo _) (and3_sh_hi _)) | refine in_snoc ?_ (b64c_in (and15_sh_lo _) (and15_sh_hi _)) | refine in_snoc ?_ ⟨by decide, by decide⟩)) (by (simp only [List.length_append, List.length_cons, List.length_nil]; omega)) ?_); intro _ _ _ zF' zN') | (k_here; (with_reducible show wpAny _ _ (call (Value.builtin _) [Value.ref _, _]) _ _ _); k_dflt (refine' append_L (by k_asm) (by k_asm) (by assumption) (by ((simp only [List.length_append, List.length_cons, List.length_nil]); rw [sizeLine_eq]; omega)) ?_; k_whole); intro zh' zF' zN') | ((with_reducible show wpAny _ _ (call (Value.ref 113) _ _) _ _ _); k_dflt (refine' con_use (truth_c _ _) (by k_asm) (by k_asm) (by k_asm) (by k_asm) (by k_asm) (by first | exact rfl | assumption) (by ktr_room) (by ktr_units) ?_; k_whole; intro zr9 ztl9 zh9 ztk9 zF9 zN9 zho9; obtain ⟨ze9, ze8⟩ := zho9; subst ze9; subst ze8; (try simp only [List.nil_append, List.cons_append] at zN9); (try dsimp only); (try k_fold))) | ((with_reducible show wpAny _ _ (call (Value.ref 106) _ _) _ _ _); k_dflt (refine' con_use (buffer_c _ _ _ _) (by k_asm) (by k_asm) (by k_asm) (by k_asm) (by k_asm) (by first | exact rfl | assumption) (by ktr_room) (by ktr_units) ?_; k_whole; intro zr9 ztl9 zh9 ztk9 zF9 zN9 zho9; obtain ⟨ze9, ze8⟩ := zho9; subst ze9; subst ze8; (try simp only [List.nil_append, List.cons_append] at zN9); (try dsimp only); (try k_fold)))) | ((with_reducible show wpAny _ _ (binaryOp _ _ _) _ _ _); first | (with_reducible ((with_reducible show wpAny _ _ (binaryOp _ (Value.int _ _) (Value.int _ _)) _ _ _); (first | (refine' lshift_int_small (by decide) (by decide) (by exact and3_abs _) ?_; k_whole) | (refine' lshift_int_small (by decide) (by decide) (by exact and15_abs _) ?_; k_whole))))) | ((with_reducible show wpAny _ _ (subscriptTail _ _ _ _) _ _ _); first | ((with_reducible show wpAny _ _ (subscriptTail _ _ (Value.bytes _ _) (Value.int (_ * _) _)) _ _ _); k_dflt (first | (refine' tab_item (by exact and3_sh_lo _) (by exact and3_sh_hi _) ?_; k_whole) | (refine' tab_item (by exact and15_sh_lo _) (by exact and15_sh_hi _) ?_; k_whole))) | ((with_reducible show wpAny _ _ (subscriptTail _ _ (Value.bytes _ _) (Value.int (Builtin.bitAnd _ 63) _)) _ _ _); k_dflt (refine' tab_item (by exact and63_lo _) (by exact and63_hi _) ?_; k_whole))) | walk1 | (dsimp only; first | ((with_reducible show wpAny _ _ (call _ _ _) _ _ _); first | (k_here; (with_reducible show wpAny _ _ (call (Value.type "bytes") [Value.ref _]) _ _ _); k_dflt (refine' make_L (by k_asm) (by k_asm) (by rfl) (by first | exact (by assumption) | exact intsAre_push (by assumption) _ _ | exact intsAre_push (intsAre_push (by assumption) _ _) _ _ | exact intsAre_push (intsAre_push (intsAre_push (by assumption) _ _) _ _) _ _) (by repeat' (first | assumption | refine in_snoc ?_ (b64c_in (and3_sh_lo _) (and3_sh_hi _)) | refine in_snoc ?_ (b64c_in (and15_sh_lo _) (and15_sh_hi _)) | refine in_snoc ?_ ⟨by decide, by decide⟩)) (by (simp only [List.length_append, List.length_cons, List.length_nil]; omega)) ?_); intro _ _ _ zF' zN') | (k_here; (with_reducible show wpAny _ _ (call (Value.builtin _) [Value.ref _, _]) _ _ _); k_dflt (refine' append_L (by k_asm) (by k_asm) (by assumption) (by ((simp only [List.length_append, List.length_cons, List.length_nil]); rw [sizeLine_eq]; omega)) ?_; k_whole); intro zh' zF' zN') | ((with_reducible show wpAny _ _ (call (Value.ref 113) _ _) _ _ _); k_dflt (refine' con_use (truth_c _ _) (by k_asm) (by k_asm) (by k_asm) (by k_asm) (by k_asm) (by first | exact rfl | assumption) (by ktr_room) (by ktr_units) ?_; k_whole; intro zr9 ztl9 zh9 ztk9 zF9 zN9 zho9; obtain ⟨ze9, ze8⟩ := zho9; subst ze9; subst ze8; (try simp only [List.nil_append, List.cons_append] at zN9); (try dsimp only); (try k_fold))) | ((with_reducible show wpAny _ _ (call (Value.ref 106) _ _) _ _ _); k_dflt (refine' con_use (buffer_c _ _ _ _) (by k_asm) (by k_asm) (by k_asm) (by k_asm) (by k_asm) (by first | exact rfl | assumption) (by ktr_room) (by ktr_units) ?_; k_whole; intro zr9 ztl9 zh9 ztk9 zF9 zN9 zho9; obtain ⟨ze9, ze8⟩ := zho9; subst ze9; subst ze8; (try simp only [List.nil_append, List.cons_append] at zN9); (try dsimp only); (try k_fold)))) | ((with_reducible show wpAny _ _ (binaryOp _ _ _) _ _ _); first | (with_reducible ((with_reducible show wpAny _ _ (binaryOp _ (Value.int _ _) (Value.int _ _)) _ _ _); (first | (refine' lshift_int_small (by decide) (by decide) (by exact and3_abs _) ?_; k_whole) | (refine' lshift_int_small (by decide) (by decide) (by exact and15_abs _) ?_; k_whole))))) | ((with_reducible show wpAny _ _ (subscriptTail _ _ _ _) _ _ _); first | ((with_reducible show wpAny _ _ (subscriptTail _ _ (Value.bytes _ _) (Value.int (_ * _) _)) _ _ _); k_dflt (first | (refine' tab_item (by exact and3_sh_lo _) (by exact and3_sh_hi _) ?_; k_whole) | (refine' tab_item (by exact and15_sh_lo _) (by exact and15_sh_hi _) ?_; k_whole))) | ((with_reducible show wpAny _ _ (subscriptTail _ _ (Value.bytes _ _) (Value.int (Builtin.bitAnd _ 63) _)) _ _ _); k_dflt (refine' tab_item (by exact and63_lo _) (by exact and63_hi _) ?_; k_whole))) | walk1) | (leave1; walk_say "STEP leave1"; try dsimp only) | fail "no step")
    all_goals (try w_report)
    · rw [encDone0 hP] at hret
      exact hret _ [_] _ _ (by assumption) (by assumption) ⟨_, rfl⟩
    · rw [encDone2 hP] at hret
      exact hret _ [_] _ _ (by assumption) (by assumption) ⟨_, rfl⟩
    · rw [encDone4 hP] at hret
      exact hret _ [_] _ _ (by assumption) (by assumption) ⟨_, rfl⟩


end
section
open PySem PySem.W PyProof.Rows
section
structure DecSt where
  q : Int
  t1 : Tok
  lc : Int
  t2 : Tok
  pads : Int
  t3 : Tok
  i : Int
  t4 : Tok
  out : List Int
  vs : List Value
  n : Nat
theorem dec_end {g' : Heap} {L' l9 : Addr} {h' : Heap} {m' m₀ : Str → Option Value} {its : Array Value} {n' n₀ : Nat} {news own : List (Addr × Obj)} {vs₀ : List Value} {q lc pads i : Int} {t1 t2 t3 t4 : Tok} {out' pre : List Int} {s₁ : Shared} {tk : Nat}
    (F : Fr g' L' h' m') (N : News g' L' h' ((l9, listOf its n') :: (news ++ own))) (h1 : m' (Str.ofString "quad_pos") = some (.int q t1)) (h2 : m' (Str.ofString "leftchar") = some (.int lc t2)) (h3 : m' (Str.ofString "pads") = some (.int pads t3)) (h4 : m' (Str.ofString "i") = some (.int i t4))
    (hr : ∀ z, z ≠ Str.ofString "this_ch" → z ≠ Str.ofString "quad_pos" → z ≠ Str.ofString "leftchar" → z ≠ Str.ofString "pads" → z ≠ Str.ofString "i" → m' z = m₀ z) (hp : DecInv pre q lc pads out') (hf : IntsAre its.toList out') :
    InvEndN g' L' (KstS (σ := DecSt) (fun c => (l9, listOf c.vs.toArray c.n) :: news) (fun c => [(Str.ofString "quad_pos", .int c.q c.t1), (Str.ofString "leftchar", .int c.lc c.t2), (Str.ofString "pads", .int c.pads c.t3), (Str.ofString "i", .int c.i c.t4)]) (fun c => IntsAre c.vs c.out) (Str.ofString "this_ch") [] m₀ (fun pre c => DecInv pre c.q c.lc c.pads c.out) pre) own
      (((l9, listOf vs₀.toArray n₀) :: news).map (fun x => x.1)) s₁ { s₁ with heap := h', toks := tk } := by
  refine kst_end ⟨q, t1, lc, t2, pads, t3, i, t4, out', its.toList, n'⟩ F N ?_ ?_ rfl hf ?_ ?_ hp
  · exact List.forall_mem_cons.mpr ⟨by simp, fun p hp => List.mem_cons_of_mem _ (List.mem_append_left _ hp)⟩
  · exact fun p hp => List.mem_cons_of_mem _ (List.mem_append_right _ hp)
  · exact List.forall_mem_cons.mpr ⟨h1, List.forall_mem_cons.mpr ⟨h2, List.forall_mem_cons.mpr ⟨h3, List.forall_mem_cons.mpr ⟨h4, List.forall_mem_nil _⟩⟩⟩⟩
  · intro z hz hp _
    exact hr z hz (hp _ List.mem_cons_self) (hp _ (List.mem_cons_of_mem _ List.mem_cons_self)) (hp _ (List.mem_cons_of_mem _ (List.mem_cons_of_mem _ List.mem_cons_self))) (hp _ (List.mem_cons_of_mem _ (List.mem_cons_of_mem _ (List.mem_cons_of_mem _ List.mem_cons_self))))
set_option maxRecDepth 100000 in
set_option maxHeartbeats 8000000 in
theorem a2b_c (w : World) (b : Array UInt8) (hb : b.size ≤ 2000) (t : Tok) (q lc pads : Int) (out : List Int) (hd9 : decState (KBw.bInts b) = (out, q, lc, pads)) (hq : q = 0 ∨ (2 ≤ q ∧ 4 ≤ q + pads)) (news : List (Addr × Obj)) :
    Con w 128 2 16 [.bytes b t] [(Str.ofString "strict_mode", .bool false)] news (fun _ r => ∃ t', r = .bytes (byteArr out) t') := by
  w_top off; unfold Con; k_fill
  intro dp un gd cn cs a ccd cl outer A₀ base h₀ L m s mean mg mb Q E B F X N T hk hd hu hret
  refine wpAny_call ?_
  k_dflt (refine' code_def ?k1 ?k2 ?k3 ?k4 ?k5 ?kA ?kF ?kK ?k6 ?k7 ?k8 ?k9 ?kB ?_ ?c2 ?c3 ?c4 ?c5; (case kA => exact rfl); (case kF => exact rfl); (case kK => first | assumption | exact rfl); (case k1 => k_asm); (case k2 => k_asm); (case k3 => k_asm); (case k4 => k_asm); (case k5 => k_asm); (case k6 => k_is); (case k7 => k_is); (case k8 => ktr_room); (case k9 => first | exact BindsTo.of_eq rfl | exact binds_K (by k_in) rfl (by k_is) rfl rfl rfl); (case c5 => decide); (case kB => exact locs rfl); (case c2 => exact rfl); (case c3 => exact rfl); (case c4 => exact rfl); k_whole; intro g' L' h' FG' F' N' B' X' T'; (try dsimp only); (try k_lift B'); (try k_fold))
  repeat' (first | ((fail_if_success (with_reducible show wpAny _ _ (pyIter _) _ _ _)); first | (k_unfold; (try dsimp only)) | (k_end; wrow_close) | ((with_reducible show wpAny _ _ (call _ _ _) _ _ _); first | (k_here; (with_reducible show wpAny _ _ (call (Value.type "bytes") [Value.ref _]) _ _ _); k_dflt (refine' make_L (by k_asm) (by k_asm) (by rfl) (by first | exact (by assumption) | exact intsAre_push (by assumption) _ _ | exact intsAre_push (intsAre_push (by assumption) _ _) _ _ | exact intsAre_push (intsAre_push (intsAre_push (by assumption) _ _) _ _) _ _) (by repeat' (first | assumption | refine in_snoc ?_ (b64c_in (and3_sh_lo _) (and3_sh_hi _)) | refine in_snoc ?_ (b64c_in (and15_sh_lo _) (and15_sh_hi _)) | refine in_snoc ?_ ⟨by decide, by decide⟩)) (by (simp only [List.length_append, List.length_cons, List.length_nil]; omega)) ?_); intro _ _ _ zF' zN') | (k_here; (with_reducible show wpAny _ _ (call (Value.builtin _) [Value.ref _, _]) _ _ _); k_dflt (refine' append_L (by k_asm) (by k_asm) (by assumption) (by ((simp only [List.length_append, List.length_cons, List.length_nil]); rw [sizeLine_eq]; omega)) ?_; k_whole); intro zh' zF' zN') | ((with_reducible show wpAny _ _ (call (Value.ref 120) _ _) _ _ _); k_dflt (refine' con_use (b64_value_c _ _ _ _) (by k_asm) (by k_asm) (by k_asm) (by k_asm) (by k_asm) (by first | exact rfl | assumption) (by ktr_room) (by ktr_units) ?_; k_whole; intro zr9 ztl9 zh9 ztk9 zF9 zN9 zho9; obtain ⟨ze9, zt8, ze8⟩ := zho9; subst ze9; subst ze8; (try simp only [List.nil_append, List.cons_append] at zN9); (try dsimp only); (try k_fold))) | ((with_reducible show wpAny _ _ (call (Value.ref 113) _ _) _ _ _); k_dflt (refine' con_use (truth_c _ _) (by k_asm) (by k_asm) (by k_asm) (by k_asm) (by k_asm) (by first | exact rfl | assumption) (by ktr_room) (by ktr_units) ?_; k_whole; intro zr9 ztl9 zh9 ztk9 zF9 zN9 zho9; obtain ⟨ze9, ze8⟩ := zho9; subst ze9; subst ze8; (try simp only [List.nil_append, List.cons_append] at zN9); (try dsimp only); (try k_fold))) | ((with_reducible show wpAny _ _ (call (Value.ref 99) _ _) _ _ _); k_dflt (refine' con_use (ascii_buffer_c _ _ _ _) (by k_asm) (by k_asm) (by k_asm) (by k_asm) (by k_asm) (by first | exact rfl | assumption) (by ktr_room) (by ktr_units) ?_; k_whole; intro zr9 ztl9 zh9 ztk9 zF9 zN9 zho9; obtain ⟨ze9, ze8⟩ := zho9; subst ze9; subst ze8; (try simp only [List.nil_append, List.cons_append] at zN9); (try dsimp only); (try k_fold)))) | walk1 | (dsimp only; first | ((with_reducible show wpAny _ _ (call _ _ _) _ _ _); first | (k_here; (with_reducible show wpAny _ _ (call (Value.type "bytes") [Value.ref _]) _ _ _); k_dflt (refine' make_L (by k_asm) (by k_asm) (by rfl) (by first | exact (by assumption) | exact intsAre_push (by assumption) _ _ | exact intsAre_push (intsAre_push (by assumption) _ _) _ _ | exact intsAre_push (intsAre_push (intsAre_push (by assumption) _ _) _ _) _ _) (by repeat' (first | assumption | refine in_snoc ?_ (b64c_in (and3_sh_lo _) (and3_sh_hi _)) | refine in_snoc ?_ (b64c_in (and15_sh_lo _) (and15_sh_hi _)) | refine in_snoc ?_ ⟨by decide, by decide⟩)) (by (simp only [List.length_append, List.length_cons, List.length_nil]; omega)) ?_); intro _ _ _ zF' zN') | (k_here; (with_reducible show wpAny _ _ (call (Value.builtin _) [Value.ref _, _]) _ _ _); k_dflt (refine' append_L (by k_asm) (by k_asm) (by assumption) (by ((simp only [List.length_append, List.length_cons, List.length_nil]); rw [sizeLine_eq]; omega)) ?_; k_whole); intro zh' zF' zN') | ((with_reducible show wpAny _ _ (call (Value.ref 120) _ _) _ _ _); k_dflt (refine' con_use (b64_value_c _ _ _ _) (by k_asm) (by k_asm) (by k_asm) (by k_asm) (by k_asm) (by first | exact rfl | assumption) (by ktr_room) (by ktr_units) ?_; k_whole; intro zr9 ztl9 zh9 ztk9 zF9 zN9 zho9; obtain ⟨ze9, zt8, ze8⟩ := zho9; subst ze9; subst ze8; (try simp only [List.nil_append, List.cons_append] at zN9); (try dsimp only); (try k_fold))) | ((with_reducible show wpAny _ _ (call (Value.ref 113) _ _) _ _ _); k_dflt (refine' con_use (truth_c _ _) (by k_asm) (by k_asm) (by k_asm) (by k_asm) (by k_asm) (by first | exact rfl | assumption) (by ktr_room) (by ktr_units) ?_; k_whole; intro zr9 ztl9 zh9 ztk9 zF9 zN9 zho9; obtain ⟨ze9, ze8⟩ := zho9; subst ze9; subst ze8; (try simp only [List.nil_append, List.cons_append] at zN9); (try dsimp only); (try k_fold))) | ((with_reducible show wpAny _ _ (call (Value.ref 99) _ _) _ _ _); k_dflt (refine' con_use (ascii_buffer_c _ _ _ _) (by k_asm) (by k_asm) (by k_asm) (by k_asm) (by k_asm) (by first | exact rfl | assumption) (by ktr_room) (by ktr_units) ?_; k_whole; intro zr9 ztl9 zh9 ztk9 zF9 zN9 zho9; obtain ⟨ze9, ze8⟩ := zho9; subst ze9; subst ze8; (try simp only [List.nil_append, List.cons_append] at zN9); (try dsimp only); (try k_fold)))) | walk1) | (leave1; walk_say "STEP leave1"; try dsimp only)) | fail "no step")
  rename_i l9 _ l1 _ _ _ _ _ F1 N1
  refine' KStb.kst_bytes (σ := DecSt) (fun c => (l9, listOf c.vs.toArray c.n) :: news) (fun c => [(Str.ofString "quad_pos", .int c.q c.t1), (Str.ofString "leftchar", .int c.lc c.t2), (Str.ofString "pads", .int c.pads c.t3), (Str.ofString "i", .int c.i c.t4)]) (fun c => IntsAre c.vs c.out) [] (fun pre c => DecInv pre c.q c.lc c.pads c.out)
    ⟨0, ?t1, 0, ?t2, 0, ?t3, 0, ?t4, [], [], 0⟩ rfl (KBw.ints_length b) rfl F1 N1 .nil ?hk decInv_start ?turn ?done
  case hk => exact List.forall_mem_cons.mpr ⟨by with_unfolding_all rfl, List.forall_mem_cons.mpr ⟨by with_unfolding_all rfl, List.forall_mem_cons.mpr ⟨by with_unfolding_all rfl, List.forall_mem_cons.mpr ⟨by with_unfolding_all rfl, List.forall_mem_nil _⟩⟩⟩⟩
  case turn =>
    rintro ⟨q, t1, lc, t2, pads, t3, i, t4, out, vs, n⟩ pre post k tk u h tk2 own e hlen hk0 hk1 hoff hf hP F2 N2
    dsimp only at hf hP F2 N2 ⊢
    have hne : ∀ p ∈ news ++ own, p.1 ≠ l9 := by
      intro p hp
      rcases List.mem_append.mp hp with h1 | h1
      · exact Nat.ne_of_lt (l1 p h1)
      · exact hoff p h1 l9 (by simp)
    clear hoff
    obtain ⟨hin, hp0, h3, hol⟩ := decInv_ok hP
    have hvs : vs.length ≤ 3000 := by
      have h1 := hf.length
      omega
    have hbv := b64v_range k
    have hlc : 0 ≤ lc ∧ lc < 64 := by omega
    have hqq : q ≠ 0 → q ≠ 1 → q ≠ 2 → q = 3 := by omega
    have hq0 : 0 ≤ q := by omega
    clear h3
    repeat' (first | (k_unfold; (try dsimp only)) | (k_end; wrow_close) | ((with_reducible show wpAny _ _ (call _ _ _) _ _ _); first | (k_here; (with_reducible show wpAny _ _ (call (Value.type "bytes") [Value.ref _]) _ _ _); k_dflt (refine' make_L (by k_asm) (by k_asm) (by rfl) (by first | exact (by assumption) | exact intsAre_push (by assumption) _ _ | exact intsAre_push (intsAre_push (by assumption) _ _) _ _ | exact intsAre_push (intsAre_push (intsAre_push (by assumption) _ _) _ _) _ _) (by repeat' (first | assumption | refine in_snoc ?_ (b64c_in (and3_sh_lo _) (and3_sh_hi _)) | refine in_snoc ?_ (b64c_in (and15_sh_lo _) (and15_sh_hi _)) | refine in_snoc ?_ ⟨by decide, by decide⟩)) (by (simp only [List.length_append, List.length_cons, List.length_nil]; omega)) ?_); intro _ _ _ zF' zN') | (k_here; (with_reducible show wpAny _ _ (call (Value.builtin _) [Value.ref _, _]) _ _ _); k_dflt (refine' append_L (by k_asm) (by k_asm) (by assumption) (by ((simp only [List.length_append, List.length_cons, List.length_nil]); rw [sizeLine_eq]; omega)) ?_; k_whole); intro zh' zF' zN') | ((with_reducible show wpAny _ _ (call (Value.ref 120) _ _) _ _ _); k_dflt (refine' con_use (b64_value_c _ _ _ _) (by k_asm) (by k_asm) (by k_asm) (by k_asm) (by k_asm) (by first | exact rfl | assumption) (by ktr_room) (by ktr_units) ?_; k_whole; intro zr9 ztl9 zh9 ztk9 zF9 zN9 zho9; obtain ⟨ze9, zt8, ze8⟩ := zho9; subst ze9; subst ze8; (try simp only [List.nil_append, List.cons_append] at zN9); (try dsimp only); (try k_fold))) | ((with_reducible show wpAny _ _ (call (Value.ref 113) _ _) _ _ _); k_dflt (refine' con_use (truth_c _ _) (by k_asm) (by k_asm) (by k_asm) (by k_asm) (by k_asm) (by first | exact rfl | assumption) (by ktr_room) (by ktr_units) ?_; k_whole; intro zr9 ztl9 zh9 ztk9 zF9 zN9 zho9; obtain ⟨ze9, ze8⟩ := zho9; subst ze9; subst ze8; (try simp only [List.nil_append, List.cons_append] at zN9); (try dsimp only); (try k_fold))) | ((with_reducible show wpAny _ _ (call (Value.ref 99) _ _) _ _ _); k_dflt (refine' con_use (ascii_buffer_c _ _ _ _) (by k_asm) (by k_asm) (by k_asm) (by k_asm) (by k_asm) (by first | exact rfl | assumption) (by ktr_room) (by ktr_units) ?_; k_whole; intro zr9 ztl9 zh9 ztk9 zF9 zN9 zho9; obtain ⟨ze9, ze8⟩ := zho9; subst ze9; subst ze8; (try simp only [List.nil_append, List.cons_append] at zN9); (try dsimp only); (try k_fold)))) | walk1 | (dsimp only; first | ((with_reducible show wpAny _ _ (call _ _ _) _ _ _); first | (k_here; (with_reducible show wpAny _ _ (call (Value.type "bytes") [Value.ref _]) _ _ _); k_dflt (refine' make_L (by k_asm) (by k_asm) (by rfl) (by first | exact (by assumption) | exact intsAre_push (by assumption) _ _ | exact intsAre_push (intsAre_push (by assumption) _ _) _ _ | exact intsAre_push (intsAre_push (intsAre_push (by assumption) _ _) _ _) _ _) (by repeat' (first | assumption | refine in_snoc ?_ (b64c_in (and3_sh_lo _) (and3_sh_hi _)) | refine in_snoc ?_ (b64c_in (and15_sh_lo _) (and15_sh_hi _)) | refine in_snoc ?_ ⟨by decide, by decide⟩)) (by (simp only [List.length_append, List.length_cons, List.length_nil]; omega)) ?_); intro _ _ _ zF' zN') | (k_here; (with_reducible show wpAny _ _ (call (Value.builtin _) [Value.ref _, _]) _ _ _); k_dflt (refine' append_L (by k_asm) (by k_asm) (by assumption) (by ((simp only [List.length_append, List.length_cons, List.length_nil]); rw [sizeLine_eq]; omega)) ?_; k_whole); intro zh' zF' zN') | ((with_reducible show wpAny _ _ (call (Value.ref 120) _ _) _ _ _); k_dflt (refine' con_use (b64_value_c _ _ _ _) (by k_asm) (by k_asm) (by k_asm) (by k_asm) (by k_asm) (by first | exact rfl | assumption) (by ktr_room) (by ktr_units) ?_; k_whole; intro zr9 ztl9 zh9 ztk9 zF9 zN9 zho9; obtain ⟨ze9, zt8, ze8⟩ := zho9; subst ze9; subst ze8; (try simp only [List.nil_append, List.cons_append] at zN9); (try dsimp only); (try k_fold))) | ((with_reducible show wpAny _ _ (call (Value.ref 113) _ _) _ _ _); k_dflt (refine' con_use (truth_c _ _) (by k_asm) (by k_asm) (by k_asm) (by k_asm) (by k_asm) (by first | exact rfl | assumption) (by ktr_room) (by ktr_units) ?_; k_whole; intro zr9 ztl9 zh9 ztk9 zF9 zN9 zho9; obtain ⟨ze9, ze8⟩ := zho9; subst ze9; subst ze8; (try simp only [List.nil_append, List.cons_append] at zN9); (try dsimp only); (try k_fold))) | ((with_reducible show wpAny _ _ (call (Value.ref 99) _ _) _ _ _); k_dflt (refine' con_use (ascii_buffer_c _ _ _ _) (by k_asm) (by k_asm) (by k_asm) (by k_asm) (by k_asm) (by first | exact rfl | assumption) (by ktr_room) (by ktr_units) ?_; k_whole; intro zr9 ztl9 zh9 ztk9 zF9 zN9 zho9; obtain ⟨ze9, ze8⟩ := zho9; subst ze9; subst ze8; (try simp only [List.nil_append, List.cons_append] at zN9); (try dsimp only); (try k_fold)))) | walk1) | (leave1; walk_say "STEP leave1"; try dsimp only) | fail "no step")
    all_goals (try (have e9 : q = 0 := (by assumption); subst e9))
    all_goals (try (have e9 : q = 1 := (by assumption); subst e9))
    all_goals (try (have e9 : q = 2 := (by assumption); subst e9))
    all_goals (try (have e9 : q = 3 := hqq (by assumption) (by assumption) (by assumption); subst e9))
    all_goals (
      exact dec_end (by k_asm) (by k_asm) (by with_unfolding_all rfl) (by with_unfolding_all rfl) (by with_unfolding_all rfl) (by with_unfolding_all rfl)
        (by intro z hz h1 h2 h3 h4; (repeat refine (if_neg (by assumption)).trans ?_); refine Eq.symm ?_; (repeat refine (if_neg (by assumption)).trans ?_); with_unfolding_all rfl)
        (by first | exact decInv_pad hP (by assumption) | exact decInv_skip hP (by assumption) (by assumption) | exact decInv0 hP (by assumption) (by assumption) | exact decInv1 hP (by assumption) (by assumption) | exact decInv2 hP (by assumption) (by assumption) | exact decInv3 hP (by assumption) (by assumption))
        (by repeat' (first | exact hf | refine intsAre_push ?_ _ _)))
  case done =>
    rintro ⟨q', t1, lc', t2, pads', t3, i, t4, out', vs, n⟩ u h tk2 hlen hf hP F2 N2
    dsimp only at hf hP F2 N2 ⊢
    have hne : ∀ p ∈ news, p.1 ≠ l9 := fun p hp => Nat.ne_of_lt (l1 p hp)
    obtain ⟨hin, hp0, h3, hol⟩ := decInv_ok hP
    have h9 : (out, q, lc, pads) = (out', q', lc', pads') := hd9.symm.trans hP
    cases h9
    rw [KBw.ints_length] at hol
    have hvs : vs.length ≤ 3000 := by rw [hf.length]; omega
    have hf' : IntsAre (vs.toArray).toList out := hf
    have hpq : q = 0 ∨ (q = 2 ∧ 4 ≤ 2 + pads) ∨ (q = 3 ∧ 4 ≤ 3 + pads) := by omega
    clear hq
    rcases hpq with h4 | ⟨h4, h5⟩ | ⟨h4, h5⟩
    all_goals subst h4
    all_goals repeat' (first | (k_unfold; (try dsimp only)) | (k_end; wrow_close) | ((with_reducible show wpAny _ _ (call _ _ _) _ _ _); first | (k_here; (with_reducible show wpAny _ _ (call (Value.type "bytes") [Value.ref _]) _ _ _); k_dflt (refine' make_L (by k_asm) (by k_asm) (by rfl) (by first | exact (by assumption) | exact intsAre_push (by assumption) _ _ | exact intsAre_push (intsAre_push (by assumption) _ _) _ _ | exact intsAre_push (intsAre_push (intsAre_push (by assumption) _ _) _ _) _ _) (by repeat' (first | assumption | refine in_snoc ?_ (b64c_in (and3_sh_lo _) (and3_sh_hi _)) | refine in_snoc ?_ (b64c_in (and15_sh_lo _) (and15_sh_hi _)) | refine in_snoc ?_ ⟨by decide, by decide⟩)) (by (simp only [List.length_append, List.length_cons, List.length_nil]; omega)) ?_); intro _ _ _ zF' zN') | (k_here; (with_reducible show wpAny _ _ (call (Value.builtin _) [Value.ref _, _]) _ _ _); k_dflt (refine' append_L (by k_asm) (by k_asm) (by assumption) (by ((simp only [List.length_append, List.length_cons, List.length_nil]); rw [sizeLine_eq]; omega)) ?_; k_whole); intro zh' zF' zN') | ((with_reducible show wpAny _ _ (call (Value.ref 120) _ _) _ _ _); k_dflt (refine' con_use (b64_value_c _ _ _ _) (by k_asm) (by k_asm) (by k_asm) (by k_asm) (by k_asm) (by first | exact rfl | assumption) (by ktr_room) (by ktr_units) ?_; k_whole; intro zr9 ztl9 zh9 ztk9 zF9 zN9 zho9; obtain ⟨ze9, zt8, ze8⟩ := zho9; subst ze9; subst ze8; (try simp only [List.nil_append, List.cons_append] at zN9); (try dsimp only); (try k_fold))) | ((with_reducible show wpAny _ _ (call (Value.ref 113) _ _) _ _ _); k_dflt (refine' con_use (truth_c _ _) (by k_asm) (by k_asm) (by k_asm) (by k_asm) (by k_asm) (by first | exact rfl | assumption) (by ktr_room) (by ktr_units) ?_; k_whole; intro zr9 ztl9 zh9 ztk9 zF9 zN9 zho9; obtain ⟨ze9, ze8⟩ := zho9; subst ze9; subst ze8; (try simp only [List.nil_append, List.cons_append] at zN9); (try dsimp only); (try k_fold))) | ((with_reducible show wpAny _ _ (call (Value.ref 99) _ _) _ _ _); k_dflt (refine' con_use (ascii_buffer_c _ _ _ _) (by k_asm) (by k_asm) (by k_asm) (by k_asm) (by k_asm) (by first | exact rfl | assumption) (by ktr_room) (by ktr_units) ?_; k_whole; intro zr9 ztl9 zh9 ztk9 zF9 zN9 zho9; obtain ⟨ze9, ze8⟩ := zho9; subst ze9; subst ze8; (try simp only [List.nil_append, List.cons_append] at zN9); (try dsimp only); (try k_fold)))) | walk1 | (dsimp only; first | ((with_reducible show wpAny _ _ (call _ _ _) _ _ _); first | (k_here; (with_reducible show wpAny _ _ (call (Value.type "bytes") [Value.ref _]) _ _ _); k_dflt (refine' make_L (by k_asm) (by k_asm) (by rfl) (by first | exact (by assumption) | exact intsAre_push (by assumption) _ _ | exact intsAre_push (intsAre_push (by assumption) _ _) _ _ | exact intsAre_push (intsAre_push (intsAre_push (by assumption) _ _) _ _) _ _) (by repeat' (first | assumption | refine in_snoc ?_ (b64c_in (and3_sh_lo _) (and3_sh_hi _)) | refine in_snoc ?_ (b64c_in (and15_sh_lo _) (and15_sh_hi _)) | refine in_snoc ?_ ⟨by decide, by decide⟩)) (by (simp only [List.length_append, List.length_cons, List.length_nil]; omega)) ?_); intro _ _ _ zF' zN') | (k_here; (with_reducible show wpAny _ _ (call (Value.builtin _) [Value.ref _, _]) _ _ _); k_dflt (refine' append_L (by k_asm) (by k_asm) (by assumption) (by ((simp only [List.length_append, List.length_cons, List.length_nil]); rw [sizeLine_eq]; omega)) ?_; k_whole); intro zh' zF' zN') | ((with_reducible show wpAny _ _ (call (Value.ref 120) _ _) _ _ _); k_dflt (refine' con_use (b64_value_c _ _ _ _) (by k_asm) (by k_asm) (by k_asm) (by k_asm) (by k_asm) (by first | exact rfl | assumption) (by ktr_room) (by ktr_units) ?_; k_whole; intro zr9 ztl9 zh9 ztk9 zF9 zN9 zho9; obtain ⟨ze9, zt8, ze8⟩ := zho9; subst ze9; subst ze8; (try simp only [List.nil_append, List.cons_append] at zN9); (try dsimp only); (try k_fold))) | ((with_reducible show wpAny _ _ (call (Value.ref 113) _ _) _ _ _); k_dflt (refine' con_use (truth_c _ _) (by k_asm) (by k_asm) (by k_asm) (by k_asm) (by k_asm) (by first | exact rfl | assumption) (by ktr_room) (by ktr_units) ?_; k_whole; intro zr9 ztl9 zh9 ztk9 zF9 zN9 zho9; obtain ⟨ze9, ze8⟩ := zho9; subst ze9; subst ze8; (try simp only [List.nil_append, List.cons_append] at zN9); (try dsimp only); (try k_fold))) | ((with_reducible show wpAny _ _ (call (Value.ref 99) _ _) _ _ _); k_dflt (refine' con_use (ascii_buffer_c _ _ _ _) (by k_asm) (by k_asm) (by k_asm) (by k_asm) (by k_asm) (by first | exact rfl | assumption) (by ktr_room) (by ktr_units) ?_; k_whole; intro zr9 ztl9 zh9 ztk9 zF9 zN9 zho9; obtain ⟨ze9, ze8⟩ := zho9; subst ze9; subst ze8; (try simp only [List.nil_append, List.cons_append] at zN9); (try dsimp only); (try k_fold)))) | walk1) | (leave1; walk_say "STEP leave1"; try dsimp only) | fail "no step")
    all_goals exact hret _ [_] _ _ (by assumption) (by assumption) ⟨_, rfl⟩
end

end
section
open PySem PySem.W PyProof.Rows PySem.Calls
set_option maxRecDepth 100000
theorem slot_translate : Slot "bytes" "translate" "bytes.translate" :=
  .of (owner := "bytes") (n := "translate") (by rw [typeLookup_type, builtinLookup_eq_fast]; kernel_rfl) (by decide +kernel) (by decide +kernel) (by decide +kernel)
    (by first | exact .inl (by decide +kernel) | exact .inr (by decide +kernel)) (by rw [isSubtype_type]; kernel_rfl)
theorem type_translate : typeOf (.builtin "bytes.translate") = pure (.type "method_descriptor") := by show builtinType _ = _; rw [builtinType_eq_fast]; kernel_rfl
theorem entry_translate : entryFor table "bytes.translate" = some Builtin.«bytes.translate» := entryFor_of_tree (by kernel_rfl)
theorem args_translate (a b : Value) : argsOk "bytes.translate" ⟨[a, b], []⟩ := by
  unfold argsOk; kernel_rfl
theorem check_maketrans (a b : Value) : checkBuiltinCall "bytes.maketrans" ⟨[a, b], []⟩ = pure () := by kernel_rfl
theorem entry_maketrans : entryFor table "bytes.maketrans" = some Builtin.«bytes.maketrans» := entryFor_of_tree (by kernel_rfl)
theorem plain_maketrans : plainId "bytes.maketrans" = true := by decide +kernel
open Builtin
def ident256 : Array UInt8 := (Array.range 256).map (·.toUInt8)
def mkTab (x y : Array UInt8) : Array UInt8 := (x.toList.zip y.toList).foldl (fun t (f, c) => t.setIfInBounds f.toNat c) ident256
def trans (tab b : Array UInt8) : Array UInt8 := b.map fun c => tab.getD c.toNat c
theorem mkTab_size (x y : Array UInt8) : (mkTab x y).size = 256 := by
  have all : ∀ (l : List (UInt8 × UInt8)) (t : Array UInt8), (l.foldl (fun t (p : UInt8 × UInt8) => t.setIfInBounds p.1.toNat p.2) t).size = t.size := by
    intro l
    induction l with
    | nil => intro t; rfl
    | cons p r ih => intro t; rw [List.foldl_cons, ih]; simp
  have h := all (x.toList.zip y.toList) ident256
  have h2 : ident256.size = 256 := by simp [ident256]
  rw [← h2, ← h]
  rfl
section
variable {prog : Program} {w : World} {M : Model} {A : Around} {E : Value → Shared → Prop} {s : Shared} {b x y tab : Array UInt8} {t u : Tok}
theorem ident_get {c : Nat} (h : c < 256) : ident256[c]? = some c.toUInt8 := by
  simp [ident256, h]
theorem mkTab_get (x0 x1 y0 y1 d : UInt8) {c : Nat} (h : c < 256) : (mkTab #[x0, x1] #[y0, y1]).getD c d = if x1.toNat = c then y1 else if x0.toNat = c then y0 else c.toUInt8 := by
  have hs : ident256.size = 256 := by simp [ident256]
  have e : mkTab #[x0, x1] #[y0, y1] = (ident256.setIfInBounds x0.toNat y0).setIfInBounds x1.toNat y1 := rfl
  rw [e, Array.getD_eq_getD_getElem?, Array.getElem?_setIfInBounds, Array.getElem?_setIfInBounds, ident_get h, Array.size_setIfInBounds, hs]
  by_cases h1 : x1.toNat = c
  · rw [if_pos h1, if_pos h1, if_pos (by omega)]; rfl
  · rw [if_neg h1, if_neg h1]
    by_cases h0 : x0.toNat = c
    · rw [if_pos h0, if_pos h0, if_pos (by omega)]; rfl
    · rw [if_neg h0, if_neg h0]; rfl
theorem like_eq {id : String} : Bytes.bytesLike id (.bytes b t) = pure b := by
  unfold Bytes.bytesLike
  rw [KBy.buffer_eq]
  rfl
theorem mkBytes_run {Q : Value → Shared → Prop} (hsz : b.size ≤ sizeLine) (h : Q (.bytes b s.toks) { s with toks := s.toks + 1 }) : wpAny M A (mkBytes b) Q E s := by
  unfold mkBytes
  rw [if_neg (Nat.not_lt.mpr hsz)]
  exact wpAny_bind (wpAny_fresh (wpAny_pure h))
theorem maketrans_run {Q : Value → Shared → Prop} (hxy : x.size = y.size) (h : Q (.bytes (mkTab x y) s.toks) { s with toks := s.toks + 1 }) :
    wpAny M A (Builtin.«bytes.maketrans» ⟨[.bytes x t, .bytes y u], []⟩) (fun fin s' => ∃ v, fin = Fin.done (.ret v) ∧ Q v s') E s := by
  show wpAny M A (noKeywords _ ⟨[.bytes x t, .bytes y u], []⟩ >>= fun _ => checkCount "maketrans" 2 2 2 >>= fun _ => Bytes.bytesLike _ (.bytes x t) >>= fun frm => Bytes.bytesLike _ (.bytes y u) >>= fun to => _) _ E s
  refine wpAny_bind (wpAny_pure (wpAny_bind (wpAny_pure ?_)))
  refine wpAny_bind ?_
  rw [like_eq]
  refine wpAny_pure (wpAny_bind ?_)
  rw [like_eq]
  refine wpAny_pure ?_
  rw [hxy]
  simp only [bne_self_eq_false, Bool.false_eq_true, if_false]
  refine wpAny_bind (mkBytes_run (by rw [show ((x.toList.zip y.toList).foldl (fun t (f, c) => t.setIfInBounds f.toNat c) ((Array.range 256).map (·.toUInt8))) = mkTab x y from rfl, mkTab_size, sizeLine_eq]; decide) (wpAny_pure ⟨_, rfl, h⟩))
theorem maketrans {Q : Value → Shared → Prop} (hxy : x.size = y.size) (h : ∀ t' k, Q (.bytes (mkTab x y) t') { s with toks := k }) :
    wpAny (model prog w) A (call (.builtin "bytes.maketrans") [.bytes x t, .bytes y u]) Q E s := by
  refine wpAny_call (codeAny_call_builtin plain_maketrans entry_maketrans ?_)
  rw [check_maketrans]
  refine wpAny_pure ?_
  refine wpAny_mono (maketrans_run hxy (h _ _)) (fun fin s' h' => ?_) fun _ _ h' => h'
  obtain ⟨v, rfl, hv⟩ := h'
  exact hv
theorem same_run {Q : Value → Shared → Prop} (h : Q (.bytes b t) s) : wpAny M A (Bytes.Kind.same .bytes (.bytes b t)) Q E s := by
  unfold Bytes.Kind.same
  refine wpAny_bind (m := typeOf (.bytes b t)) ?_
  exact wpAny_pure (wpAny_pure h)
theorem trans_filter (tab : Array UInt8) : ((b.filter fun c => !(#[] : Array UInt8).contains c).map fun c => match some tab with | some t => t.getD c.toNat c | none => c) = trans tab b := by
  have e : (b.filter fun c => !(#[] : Array UInt8).contains c) = b := by
    apply Array.filter_eq_self.mpr
    intro a _; simp
  rw [e]; rfl
theorem translate_run {Q : Value → Shared → Prop} (ht : tab.size = 256) (hb : b.size ≤ sizeLine) (h : ∀ t' k, Q (.bytes (trans tab b) t') { s with toks := k }) :
    wpAny M A (Builtin.«bytes.translate» ⟨[.bytes b t, .bytes tab u], []⟩) (fun fin s' => ∃ v, fin = Fin.done (.ret v) ∧ Q v s') E s := by
  unfold Builtin.«bytes.translate» Bytes.translateM
  dsimp only
  refine wpAny_bind ?_
  rw [like_eq]
  refine wpAny_pure ?_
  rw [ht]
  simp only [bne_self_eq_false, Bool.false_eq_true, if_false]
  refine wpAny_bind (wpAny_pure ?_)
  refine wpAny_bind (m := pure #[]) (wpAny_pure ?_)
  refine wpAny_bind (m := Bytes.payload (.bytes b t)) (wpAny_pure ?_)
  rw [trans_filter]
  have hsz : (trans tab b).size ≤ sizeLine := by simpa [trans] using hb
  by_cases he : (trans tab b == b) = true
  · rw [if_pos he]
    have e := eq_of_beq he
    refine wpAny_bind (m := rule _) (wpAny_rule (wpAny_bind (same_run (wpAny_pure ⟨_, rfl, ?_⟩))))
    have := h t s.toks
    rw [e] at this
    exact this
  · rw [if_neg he]
    exact wpAny_bind (m := Bytes.Kind.new .bytes _) (mkBytes_run hsz (wpAny_pure ⟨_, rfl, h _ _⟩))
end

end
section
open PySem PySem.W PyProof.Rows PySem.Calls
set_option maxRecDepth 100000
open Builtin Builtin._codecs
theorem forIn_steps {α β : Type} (F : α → β → Sem (ForInStep β)) (st : Nat → β) : ∀ (l : List α) (k : Nat), (∀ i, k ≤ i → i < k + l.length → ∀ a, F a (st i) = pure (.yield (st (i + 1)))) → forIn l (st k) F = pure (st (k + l.length))
  | [], k, _ => rfl
  | a :: l, k, h => by
    rw [List.forIn_cons, h k (Nat.le_refl _) (by simp) a]
    simp only [pure_bind]
    rw [forIn_steps F st l (k + 1) (fun i h1 h2 a => h i (by omega) (by rw [List.length_cons]; omega) a)]
    rw [List.length_cons]
    congr 2
    omega
theorem forIn_bind {α β γ : Type} {F : α → β → Sem (ForInStep β)} {l : List α} {s₀ : β} {g : β → Sem γ} {r : Sem γ} (st : Nat → β) (h0 : s₀ = st 0) (h : ∀ i, i < l.length → ∀ a, F a (st i) = pure (.yield (st (i + 1)))) (hr : g (st l.length) = r) : (forIn l s₀ F >>= g) = r := by
  rw [h0, forIn_steps F st l 0 (fun i _ hi a => h i (by omega) a), pure_bind, Nat.zero_add, hr]
theorem forIn_once {α β : Type} (F : α → β → Sem (ForInStep β)) (s₀ s₁ : β) (l : List α) (hl : l ≠ []) (h0 : ∀ a, F a s₀ = pure (.yield s₁)) (h1 : ∀ a, F a s₁ = pure (.done s₁)) : forIn l s₀ F = pure s₁ := by
  cases l with
  | nil => exact absurd rfl hl
  | cons a l =>
    rw [List.forIn_cons, h0]
    simp only [pure_bind]
    cases l with
    | nil => rfl
    | cons a l => rw [List.forIn_cons, h1]; rfl
theorem runDecoder_ascii {id : String} {b : Array UInt8} (h : ∀ c ∈ b.toList, c.toNat < 128) (hsz : b.size ≤ sizeLine) :
    runDecoder id asciiDecoder none true b 0 [] = pure (b.map (·.toNat), b.size) := by
  unfold runDecoder
  simp only [Std.Legacy.Range.forIn_eq_forIn_range', Std.Legacy.Range.size]
  refine forIn_bind (fun i => (i, ((b.toList.take i).map (·.toNat)).toArray, ({} : Faults))) (by simp) ?_ ?_
  · intro i hi a
    have hi' : i < b.size := by simpa using hi
    have hsz' : ¬ (((b.toList.take i).map (·.toNat)).toArray.size > sizeLine) := by simp; omega
    dsimp only
    rw [if_neg hsz', if_neg (by omega)]
    have hc : (b.getD i 0).toNat < 128 := by
      have e1 : b.getD i 0 = b[i] := by simp [Array.getD, hi']
      rw [e1]
      exact h _ (by simp)
    have hf : asciiDecoder.find true b i = .text [(b.getD i 0).toNat] (i + 1) := by
      show (if (b.getD i 0).toNat < 128 then Found.char (b.getD i 0).toNat (i + 1) else _) = _
      rw [if_pos hc]; rfl
    rw [hf]
    dsimp only
    congr 3
    have e1 : b.getD i 0 = b[i] := by simp [Array.getD, hi']
    rw [e1]
    have e3 : b.toList[i]? = some b[i] := by simp [hi']
    refine congrArg (fun z => (z, ({} : Faults))) (Array.ext' ?_)
    simp [List.take_add_one, e3, hi']
  · have e : (List.range' 0 ((b.size - 0 + 1 - 1) / 1)).length = b.size := by simp
    rw [e]
    dsimp only
    congr 2
    apply Array.ext'
    rw [List.take_of_length_le (by simp)]
    simp
theorem encodeNarrow_ascii {id : String} {x : Str} {v : Value} (h : ∀ c ∈ x.cps.toList, c < 128) (hsz : x.length ≤ sizeLine) :
    encodeNarrow id asciiCodec none v x = pure (x.cps.map (·.toUInt8)) := by
  unfold encodeNarrow
  simp only [Std.Legacy.Range.forIn_eq_forIn_range', Std.Legacy.Range.size]
  have hx : x.length = x.cps.size := rfl
  by_cases h0 : x.cps.size = 0
  · have e : List.range' 0 ((x.length - 0 + 1 - 1) / 1) = [] := by rw [hx, h0]; rfl
    rw [e]
    simp only [List.forIn_nil, pure_bind]
    congr 1
    apply Array.ext'
    have : x.cps = #[] := Array.eq_empty_of_size_eq_zero h0
    rw [this]; simp
  · refine (congrArg (fun z => z >>= _) (forIn_once _ _ (x.cps.size, x.cps.map (·.toUInt8), ({} : Faults)) _ ?_ ?_ ?_)).trans ?_
    · intro he
      have := congrArg List.length he
      simp at this
      omega
    · intro a
      dsimp only
      have hall : Array.findIdx? asciiCodec.bad x.cps = none := by
        rw [Array.findIdx?_eq_none_iff]
        intro c hc
        have := h c (by simpa using hc)
        show decide (c ≥ 128) = false
        simp; omega
      have hx0 : x.cps[0]? = some (x.cps[0]'(by omega)) := by simp [Nat.pos_of_ne_zero h0]
      have hb0 : (!asciiCodec.bad (x.cps[0]'(by omega))) = true := by
        have := h (x.cps[0]'(by omega)) (by simp)
        show (!decide (x.cps[0]'(by omega) ≥ 128)) = true
        simp; omega
      rw [if_neg (by simp), hx0]
      dsimp only
      rw [if_pos hb0]
      have ee : x.cps.extract 0 = x.cps := by simp
      rw [ee, hall]
      simp only [Option.getD_none, Nat.zero_add]
      refine congrArg (fun z => (pure (ForInStep.yield (x.cps.size, z, ({} : Faults))) : Sem _)) ?_
      rw [ee]
      have hfold : ∀ (l : List Nat) (acc : Array UInt8), l.foldl (fun acc y => acc ++ (asciiCodec.bytesOf y).toArray) acc = acc ++ (l.map (·.toUInt8)).toArray := by
        intro l
        induction l with
        | nil => intro acc; simp
        | cons c r ih =>
          intro acc
          rw [List.foldl_cons, ih]
          apply Array.ext'
          simp [asciiCodec]
      rw [← Array.foldl_toList, hfold]
      apply Array.ext'
      simp
    · intro a
      dsimp only
      have hx1 : x.cps[x.cps.size]? = none := by simp
      have hsz' : x.cps.size ≤ sizeLine := hsz
      rw [if_neg (by simpa using hsz'), hx1]
    · simp only [pure_bind]
theorem decode_tree (c : UInt8) (cs : List UInt8) (t u : Tok) : «bytes.decode» ⟨[.bytes (c :: cs).toArray t, .str (Str.ofString "ascii") u], []⟩ = (mkStr (Str.ofString "utf-8") >>= fun e => mkStr (Str.ofString "ascii") >>= fun e => mkStr (Str.ofString "bytes.decode") >>= fun d =>
    call (.builtin "_codecs.decode.text") [.bytes (c :: cs).toArray t, e, .none, d] >>= fun v => ret v) := by kernel_rfl
theorem decode_tree0 (t u : Tok) : «bytes.decode» ⟨[.bytes #[] t, .str (Str.ofString "ascii") u], []⟩ = (do rule "bytes.decode.empty"; retStr Str.empty) := by kernel_rfl
theorem encode_tree (x : Str) (t u : Tok) : «str.encode» ⟨[.str x t, .str (Str.ofString "ascii") u], []⟩ = (do ret (← encodeRoad "str.encode" (.str x t) x (Str.ofString "ascii") none)) := by kernel_rfl
theorem encodeRoad_ascii (id : String) (self : Value) (x : Str) (errors : Option Str) : encodeRoad id self x (Str.ofString "ascii") errors = (do mkBytes (← encodeNarrow id asciiCodec errors self x)) := by
  first | rfl | (unfold encodeRoad; rfl) | kernel_rfl
theorem decodeRoad_ascii {id : String} {b : Array UInt8} : decodeRoad id b (Str.ofString "ascii") none [] = (runDecoder id asciiDecoder none true b 0 [] >>= fun r => mkStr ⟨r.1⟩) := by
  first | rfl | (unfold decodeRoad; rfl) | kernel_rfl
theorem args_decode2 (a b : Value) : argsOk "bytes.decode" ⟨[a, b], []⟩ := by unfold argsOk; kernel_rfl
theorem args_encode2 (a b : Value) : argsOk "str.encode" ⟨[a, b], []⟩ := by unfold argsOk; kernel_rfl
section
variable {prog : Program} {w : World} {A : Around} {E : Value → Shared → Prop} {s : Shared} {b tab : Array UInt8} {t u : Tok} {x : Str}
theorem meets_text_ascii {t1 t2 : Tok} {d : Str} (h : ∀ c ∈ b.toList, c.toNat < 128) (hsz : b.size ≤ sizeLine) :
    Meets («_codecs.decode.text» ⟨[.bytes b t, .str (Str.ofString "ascii") t1, .none, .str d t2], []⟩) (fun _ R s => R (.ok (.ret (.str ⟨b.map (·.toNat)⟩ s.toks))) { s with toks := s.toks + 1 }) := by
  refine .of_wp fun prog w A R s hS => ?_
  show wpAny _ _ (Bytes.bytesLike _ (.bytes b t) >>= fun r => _) _ _ s
  refine wpAny_bind (wpAny_of_eq KBd.like_eq ?_)
  refine wpAny_bind (wpAny_of_eq KBd.held_eq ?_)
  show wpAny _ _ (decodeRoad _ b (Str.ofString "ascii") none [] >>= fun v => _) _ _ s
  rw [decodeRoad_ascii, runDecoder_ascii h hsz]
  refine wpAny_bind (wpAny_bind (wpAny_pure ?_))
  exact wpAny_mkStr (wpAny_pure ⟨_, rfl, hS⟩) (by show (b.map (·.toNat)).size ≤ sizeLine; simpa using hsz)
theorem meets_decode_ascii (h : ∀ c ∈ b.toList, c.toNat < 128) (hsz : b.size ≤ sizeLine) :
    Meets («bytes.decode» ⟨[.bytes b t, .str (Str.ofString "ascii") u], []⟩) (fun _ R s => ∀ t' k, R (.ok (.ret (.str ⟨b.map (·.toNat)⟩ t'))) { s with toks := k }) := by
  refine .of_wp fun prog w A R s hS => ?_
  obtain ⟨l⟩ := b
  cases l with
  | nil =>
    rw [decode_tree0]
    refine wpAny_bind (wpAny_rule ?_)
    have e : (⟨(⟨[]⟩ : Array UInt8).map (·.toNat)⟩ : Str) = Str.empty := by
      show (⟨(#[] : Array UInt8).map (·.toNat)⟩ : Str) = Str.empty
      rw [Array.map_empty]; rfl
    rw [e] at hS
    exact wpAny_bind (wpAny_mkStr (wpAny_pure ⟨_, rfl, hS _ _⟩) (by decide))
  | cons c cs =>
    show wpAny _ _ («bytes.decode» ⟨[.bytes (c :: cs).toArray t, .str (Str.ofString "ascii") u], []⟩) _ _ s
    rw [decode_tree]
    refine wpAny_bind (wpAny_mkStr ?_ (by decide))
    refine wpAny_bind (wpAny_mkStr ?_ (by decide))
    refine wpAny_bind (wpAny_mkStr ?_ (by decide))
    exact wpAny_bind (call_function_meets KBd.kind_text KBd.plain_text KBd.entry_text (KBd.args_text _ _ _ _) (meets_text_ascii h hsz) (wpAny_pure ⟨_, rfl, hS _ _⟩))
theorem decode_ascii {Q : Value → Shared → Prop} (h : ∀ c ∈ b.toList, c.toNat < 128) (hsz : b.size ≤ sizeLine) (hq : ∀ t' k, Q (.str ⟨b.map (·.toNat)⟩ t') { s with toks := k }) :
    wpAny (model prog w) A (call (.builtin "bytes.decode") [.bytes b t, .str (Str.ofString "ascii") u]) Q E s :=
  call_meets FB.slot_bytes_decode (typeIs_bytes _ _ _) FB.entry_bytes_decode (args_decode2 _ _) (meets_decode_ascii h hsz) hq
theorem meets_encode_ascii (h : ∀ c ∈ x.cps.toList, c < 128) (hsz : x.length ≤ sizeLine) :
    Meets («str.encode» ⟨[.str x t, .str (Str.ofString "ascii") u], []⟩) (fun _ R s => ∀ t' k, R (.ok (.ret (.bytes (x.cps.map (·.toUInt8)) t'))) { s with toks := k }) := by
  refine .of_wp fun prog w A R s hS => ?_
  rw [encode_tree, encodeRoad_ascii, encodeNarrow_ascii h hsz]
  refine wpAny_bind ?_
  refine wpAny_bind (wpAny_pure ?_)
  exact mkBytes_run (by have : x.cps.size ≤ sizeLine := hsz; simpa using this) (wpAny_pure ⟨_, rfl, hS _ _⟩)
theorem encode_ascii {Q : Value → Shared → Prop} (h : ∀ c ∈ x.cps.toList, c < 128) (hsz : x.length ≤ sizeLine) (hq : ∀ t' k, Q (.bytes (x.cps.map (·.toUInt8)) t') { s with toks := k }) :
    wpAny (model prog w) A (call (.builtin "str.encode") [.str x t, .str (Str.ofString "ascii") u]) Q E s :=
  call_meets PySem.F.slot_str_encode (typeIs_str _ _ _) PySem.F.entry_str_encode (args_encode2 _ _) (meets_encode_ascii h hsz) hq
theorem meets_translate (ht : tab.size = 256) (hb : b.size ≤ sizeLine) :
    Meets («bytes.translate» ⟨[.bytes b t, .bytes tab u], []⟩) (fun _ R s => ∀ t' k, R (.ok (.ret (.bytes (trans tab b) t'))) { s with toks := k }) :=
  .of_wp fun _ _ _ R _ hS => translate_run (Q := fun v s' => R (.ok (.ret v)) s') ht hb hS
theorem translate {Q : Value → Shared → Prop} (ht : tab.size = 256) (hb : b.size ≤ sizeLine) (hq : ∀ t' k, Q (.bytes (trans tab b) t') { s with toks := k }) :
    wpAny (model prog w) A (call (.builtin "bytes.translate") [.bytes b t, .bytes tab u]) Q E s :=
  call_meets slot_translate (typeIs_bytes _ _ _) entry_translate (args_translate _ _) (meets_translate ht hb) hq
theorem method_encode {M : Model} {pl : Sem Bool} {Q : Value × List Value → Shared → Prop} (h : Q (.builtin "str.encode", [.str x t]) s) : wpAny M A (getMethod (.str x t) (Str.ofString "encode") pl) Q E s := by
  with_reducible exact GM.of (.str x t) (typeIs_str _ _ _) PySem.F.slot_str_encode PySem.F.type_str_encode GM.noRef h
theorem method_translate {M : Model} {pl : Sem Bool} {Q : Value × List Value → Shared → Prop} (h : Q (.builtin "bytes.translate", [.bytes b t]) s) : wpAny M A (getMethod (.bytes b t) (Str.ofString "translate") pl) Q E s := by
  with_reducible exact KBd.method_of (.bytes b t) (typeIs_bytes _ _ _) slot_translate type_translate KBd.noRef h
end

end
section
open PySem PySem.W PyProof.Rows
section
set_option maxRecDepth 100000 in
set_option maxHeartbeats 8000000 in
theorem b64encode_c (w : World) (b : Array UInt8) (hb : b.size ≤ 1000) (t : Tok) (a0 a1 : UInt8) (t2 : Tok) (news : List (Addr × Obj)) :
    Con w 144 3 24 [.bytes b t, .bytes #[a0, a1] t2] [] news (fun _ r => ∃ t', r = .bytes (trans (mkTab #[43, 47] #[a0, a1]) (byteArr (encBytes (KBw.bInts b)))) t') := by
  w_top off; unfold Con; k_fill
  intro dp un gd cn cs a ccd cl outer A₀ base h₀ L m s mean mg mb Q E B F X N T hk hd hu hret
  refine wpAny_call ?_
  have hsz : (byteArr (encBytes (KBw.bInts b))).size ≤ sizeLine := by
    have h := encBytes_length (KBw.bInts b)
    rw [KBw.ints_length] at h
    rw [byteArr_size, sizeLine_eq]
    omega
  k_dflt (refine' code_def ?k1 ?k2 ?k3 ?k4 ?k5 ?kA ?kF ?kK ?k6 ?k7 ?k8 ?k9 ?kB ?_ ?c2 ?c3 ?c4 ?c5; (case kA => exact rfl); (case kF => exact rfl); (case kK => first | assumption | exact rfl); (case k1 => k_asm); (case k2 => k_asm); (case k3 => k_asm); (case k4 => k_asm); (case k5 => k_asm); (case k6 => k_is); (case k7 => k_is); (case k8 => ktr_room); (case k9 => first | exact BindsTo.of_eq rfl | exact binds_K (by k_in) rfl (by k_is) rfl rfl rfl); (case c5 => decide); (case kB => exact locs rfl); (case c2 => exact rfl); (case c3 => exact rfl); (case c4 => exact rfl); k_whole; intro g' L' h' FG' F' N' B' X' T'; (try dsimp only); (try k_lift B'); (try k_fold))
  repeat' (first | (k_unfold; (try dsimp only)) | (k_end; wrow_close) | ((with_reducible show wpAny _ _ (call _ _ _) _ _ _); first | ((with_reducible show wpAny _ _ (call (Value.builtin _) [Value.bytes _ _, Value.bytes _ _]) _ _ _); k_dflt (refine' translate (by exact mkTab_size _ _) (by assumption) ?_; k_whole); intro zt9 zk9) | ((with_reducible show wpAny _ _ (call (Value.builtin _) [Value.bytes _ _, Value.bytes _ _]) _ _ _); k_dflt (refine' maketrans (by rfl) ?_; k_whole); intro zt9 zk9) | ((with_reducible show wpAny _ _ (call (Value.ref 136) _ _) _ _ _); k_dflt (refine' con_use (b2a_c _ _ (by assumption) _ _) (by k_asm) (by k_asm) (by k_asm) (by k_asm) (by k_asm) (by first | exact rfl | assumption) (by ktr_room) (by ktr_units) ?_; k_whole; intro zr9 ztl9 zh9 ztk9 zF9 zN9 zho9; obtain ⟨zt8, ze8⟩ := zho9; subst ze8; (try simp only [List.nil_append, List.cons_append] at zN9); (try dsimp only); (try k_fold)))) | ((with_reducible show wpAny _ _ (getMethod _ _ _) _ _ _); first | ((with_reducible show wpAny _ _ (getMethod (Value.bytes _ _) _ _) _ _ _); k_dflt (refine method_translate ?_)) | ((with_reducible show wpAny _ _ (getMethod (Value.type "bytes") _ _) _ _ _); (k_here; refine' method_type (by k_asm) (by k_asm) (by first | rfl | kernel_rfl) (by decide +kernel) (by k_dflt k_is) (by k_handed) ?_))) | walk1 | (dsimp only; first | ((with_reducible show wpAny _ _ (call _ _ _) _ _ _); first | ((with_reducible show wpAny _ _ (call (Value.builtin _) [Value.bytes _ _, Value.bytes _ _]) _ _ _); k_dflt (refine' translate (by exact mkTab_size _ _) (by assumption) ?_; k_whole); intro zt9 zk9) | ((with_reducible show wpAny _ _ (call (Value.builtin _) [Value.bytes _ _, Value.bytes _ _]) _ _ _); k_dflt (refine' maketrans (by rfl) ?_; k_whole); intro zt9 zk9) | ((with_reducible show wpAny _ _ (call (Value.ref 136) _ _) _ _ _); k_dflt (refine' con_use (b2a_c _ _ (by assumption) _ _) (by k_asm) (by k_asm) (by k_asm) (by k_asm) (by k_asm) (by first | exact rfl | assumption) (by ktr_room) (by ktr_units) ?_; k_whole; intro zr9 ztl9 zh9 ztk9 zF9 zN9 zho9; obtain ⟨zt8, ze8⟩ := zho9; subst ze8; (try simp only [List.nil_append, List.cons_append] at zN9); (try dsimp only); (try k_fold)))) | ((with_reducible show wpAny _ _ (getMethod _ _ _) _ _ _); first | ((with_reducible show wpAny _ _ (getMethod (Value.bytes _ _) _ _) _ _ _); k_dflt (refine method_translate ?_)) | ((with_reducible show wpAny _ _ (getMethod (Value.type "bytes") _ _) _ _ _); (k_here; refine' method_type (by k_asm) (by k_asm) (by first | rfl | kernel_rfl) (by decide +kernel) (by k_dflt k_is) (by k_handed) ?_))) | walk1) | (leave1; walk_say "STEP leave1"; try dsimp only) | fail "no step")
  all_goals (try w_report)
  all_goals exact hret _ _ _ _ (by assumption) (by assumption) ⟨_, rfl⟩
end

end
section
open PySem PySem.W PyProof.Rows
section
set_option maxRecDepth 100000 in
set_option maxHeartbeats 8000000 in
theorem fromdata_str_c (w : World) (x : Str) (t : Tok) (hx : ∀ c ∈ x.cps.toList, c < 128) (hsz : x.length ≤ sizeLine) (news : List (Addr × Obj)) :
    Con w 79 2 16 [.str x t] [] news (fun tl r => tl = [] ∧ ∃ t', r = .bytes (x.cps.map (·.toUInt8)) t') := by
  w_top off; unfold Con; k_fill
  intro dp un gd cn cs a ccd cl outer A₀ base h₀ L m s mean mg mb Q E B F X N T hk hd hu hret
  refine wpAny_call ?_
  k_dflt (refine' code_def ?k1 ?k2 ?k3 ?k4 ?k5 ?kA ?kF ?kK ?k6 ?k7 ?k8 ?k9 ?kB ?_ ?c2 ?c3 ?c4 ?c5; (case kA => exact rfl); (case kF => exact rfl); (case kK => first | assumption | exact rfl); (case k1 => k_asm); (case k2 => k_asm); (case k3 => k_asm); (case k4 => k_asm); (case k5 => k_asm); (case k6 => k_is); (case k7 => k_is); (case k8 => ktr_room); (case k9 => first | exact BindsTo.of_eq rfl | exact binds_K (by k_in) rfl (by k_is) rfl rfl rfl); (case c5 => decide); (case kB => exact locs rfl); (case c2 => exact rfl); (case c3 => exact rfl); (case c4 => exact rfl); k_whole; intro g' L' h' FG' F' N' B' X' T'; (try dsimp only); (try k_lift B'); (try k_fold))
  repeat' (first | (k_unfold; (try dsimp only)) | (k_end; wrow_close) | ((with_reducible show wpAny _ _ (getMethod _ _ _) _ _ _); first | ((with_reducible show wpAny _ _ (getMethod (Value.str _ _) _ _) _ _ _); (with_reducible refine method_encode ?_))) | ((with_reducible show wpAny _ _ (call _ _ _) _ _ _); first | ((with_reducible show wpAny _ _ (call (Value.builtin _) [Value.str _ _, Value.str _ _]) _ _ _); k_dflt (refine' encode_ascii (by assumption) (by assumption) ?_; k_whole); intro zt9 zk9)) | walk1 | (dsimp only; first | ((with_reducible show wpAny _ _ (getMethod _ _ _) _ _ _); first | ((with_reducible show wpAny _ _ (getMethod (Value.str _ _) _ _) _ _ _); (with_reducible refine method_encode ?_))) | ((with_reducible show wpAny _ _ (call _ _ _) _ _ _); first | ((with_reducible show wpAny _ _ (call (Value.builtin _) [Value.str _ _, Value.str _ _]) _ _ _); k_dflt (refine' encode_ascii (by assumption) (by assumption) ?_; k_whole); intro zt9 zk9)) | walk1) | (leave1; walk_say "STEP leave1"; try dsimp only) | fail "no step")
  all_goals (try w_report)
  all_goals exact hret _ [] _ _ (by assumption) (by assumption) ⟨rfl, _, rfl⟩
set_option maxRecDepth 100000 in
set_option maxHeartbeats 8000000 in
theorem fromdata_bytes_c (w : World) (b : Array UInt8) (t : Tok) (news : List (Addr × Obj)) :
    Con w 79 2 16 [.bytes b t] [] news (fun tl r => tl = [] ∧ r = .bytes b t) := by
  w_top off; unfold Con; k_fill
  intro dp un gd cn cs a ccd cl outer A₀ base h₀ L m s mean mg mb Q E B F X N T hk hd hu hret
  refine wpAny_call ?_
  k_dflt (refine' code_def ?k1 ?k2 ?k3 ?k4 ?k5 ?kA ?kF ?kK ?k6 ?k7 ?k8 ?k9 ?kB ?_ ?c2 ?c3 ?c4 ?c5; (case kA => exact rfl); (case kF => exact rfl); (case kK => first | assumption | exact rfl); (case k1 => k_asm); (case k2 => k_asm); (case k3 => k_asm); (case k4 => k_asm); (case k5 => k_asm); (case k6 => k_is); (case k7 => k_is); (case k8 => ktr_room); (case k9 => first | exact BindsTo.of_eq rfl | exact binds_K (by k_in) rfl (by k_is) rfl rfl rfl); (case c5 => decide); (case kB => exact locs rfl); (case c2 => exact rfl); (case c3 => exact rfl); (case c4 => exact rfl); k_whole; intro g' L' h' FG' F' N' B' X' T'; (try dsimp only); (try k_lift B'); (try k_fold))
  repeat' (first | (k_unfold; (try dsimp only)) | (k_end; wrow_close) | ((with_reducible show wpAny _ _ (getMethod _ _ _) _ _ _); first | ((with_reducible show wpAny _ _ (getMethod (Value.str _ _) _ _) _ _ _); (with_reducible refine method_encode ?_))) | ((with_reducible show wpAny _ _ (call _ _ _) _ _ _); first | ((with_reducible show wpAny _ _ (call (Value.builtin _) [Value.str _ _, Value.str _ _]) _ _ _); k_dflt (refine' encode_ascii (by assumption) (by assumption) ?_; k_whole); intro zt9 zk9)) | walk1 | (dsimp only; first | ((with_reducible show wpAny _ _ (getMethod _ _ _) _ _ _); first | ((with_reducible show wpAny _ _ (getMethod (Value.str _ _) _ _) _ _ _); (with_reducible refine method_encode ?_))) | ((with_reducible show wpAny _ _ (call _ _ _) _ _ _); first | ((with_reducible show wpAny _ _ (call (Value.builtin _) [Value.str _ _, Value.str _ _]) _ _ _); k_dflt (refine' encode_ascii (by assumption) (by assumption) ?_; k_whole); intro zt9 zk9)) | walk1) | (leave1; walk_say "STEP leave1"; try dsimp only) | fail "no step")
  all_goals (try w_report)
  all_goals exact hret _ [] _ _ (by assumption) (by assumption) ⟨rfl, rfl⟩
set_option maxRecDepth 100000 in
set_option maxHeartbeats 8000000 in
theorem b64decode_c (w : World) (x : Str) (t : Tok) (hx : ∀ c ∈ x.cps.toList, c < 128) (hlen : x.length ≤ 1500) (a0 a1 : UInt8) (t2 : Tok) (q lc pads : Int) (out : List Int)
    (hd9 : decState (KBw.bInts (trans (mkTab #[a0, a1] #[43, 47]) (x.cps.map (·.toUInt8)))) = (out, q, lc, pads)) (hq : q = 0 ∨ (2 ≤ q ∧ 4 ≤ q + pads)) (news : List (Addr × Obj)) :
    Con w 152 3 24 [.str x t, .bytes #[a0, a1] t2] [] news (fun _ r => ∃ t', r = .bytes (byteArr out) t') := by
  w_top off; unfold Con; k_fill
  intro dp un gd cn cs a ccd cl outer A₀ base h₀ L m s mean mg mb Q E B F X N T hk hd hu hret
  refine wpAny_call ?_
  have hsz : x.length ≤ sizeLine := by rw [sizeLine_eq]; omega
  have hsz2 : (x.cps.map (·.toUInt8)).size ≤ sizeLine := by have : x.cps.size = x.length := rfl; rw [Array.size_map, this]; exact hsz
  have hsz3 : (trans (mkTab #[a0, a1] #[43, 47]) (x.cps.map (·.toUInt8))).size ≤ 2000 := by have : x.cps.size = x.length := rfl; rw [trans, Array.size_map, Array.size_map, this]; omega
  k_dflt (refine' code_def ?k1 ?k2 ?k3 ?k4 ?k5 ?kA ?kF ?kK ?k6 ?k7 ?k8 ?k9 ?kB ?_ ?c2 ?c3 ?c4 ?c5; (case kA => exact rfl); (case kF => exact rfl); (case kK => first | assumption | exact rfl); (case k1 => k_asm); (case k2 => k_asm); (case k3 => k_asm); (case k4 => k_asm); (case k5 => k_asm); (case k6 => k_is); (case k7 => k_is); (case k8 => ktr_room); (case k9 => first | exact BindsTo.of_eq rfl | exact binds_K (by k_in) rfl (by k_is) rfl rfl rfl); (case c5 => decide); (case kB => exact locs rfl); (case c2 => exact rfl); (case c3 => exact rfl); (case c4 => exact rfl); k_whole; intro g' L' h' FG' F' N' B' X' T'; (try dsimp only); (try k_lift B'); (try k_fold))
  repeat' (first | (k_unfold; (try dsimp only)) | (k_end; wrow_close) | ((with_reducible show wpAny _ _ (call _ _ _) _ _ _); first | ((with_reducible show wpAny _ _ (call (Value.builtin _) [Value.bytes _ _, Value.bytes _ _]) _ _ _); k_dflt (refine' translate (by exact mkTab_size _ _) (by assumption) ?_; k_whole); intro zt9 zk9) | ((with_reducible show wpAny _ _ (call (Value.builtin _) [Value.bytes _ _, Value.bytes _ _]) _ _ _); k_dflt (refine' maketrans (by rfl) ?_; k_whole); intro zt9 zk9) | ((with_reducible show wpAny _ _ (call (Value.ref 128) _ _) _ _ _); k_dflt (refine' con_use (a2b_c _ _ (by assumption) _ _ _ _ _ (by assumption) (by assumption) _) (by k_asm) (by k_asm) (by k_asm) (by k_asm) (by k_asm) (by first | exact rfl | assumption) (by ktr_room) (by ktr_units) ?_; k_whole; intro zr9 ztl9 zh9 ztk9 zF9 zN9 zho9; obtain ⟨zt8, ze8⟩ := zho9; subst ze8; (try simp only [List.nil_append, List.cons_append] at zN9); (try dsimp only); (try k_fold))) | ((with_reducible show wpAny _ _ (call (Value.ref 79) [Value.bytes _ _] _) _ _ _); k_dflt (refine' con_use (fromdata_bytes_c _ _ _ _) (by k_asm) (by k_asm) (by k_asm) (by k_asm) (by k_asm) (by first | exact rfl | assumption) (by ktr_room) (by ktr_units) ?_; k_whole; intro zr9 ztl9 zh9 ztk9 zF9 zN9 zho9; obtain ⟨ze9, ze8⟩ := zho9; subst ze9; subst ze8; (try simp only [List.nil_append, List.cons_append] at zN9); (try dsimp only); (try k_fold))) | ((with_reducible show wpAny _ _ (call (Value.ref 79) [Value.str _ _] _) _ _ _); k_dflt (refine' con_use (fromdata_str_c _ _ _ (by assumption) (by assumption) _) (by k_asm) (by k_asm) (by k_asm) (by k_asm) (by k_asm) (by first | exact rfl | assumption) (by ktr_room) (by ktr_units) ?_; k_whole; intro zr9 ztl9 zh9 ztk9 zF9 zN9 zho9; obtain ⟨ze9, zt8, ze8⟩ := zho9; subst ze9; subst ze8; (try simp only [List.nil_append, List.cons_append] at zN9); (try dsimp only); (try k_fold))) | ((with_reducible show wpAny _ _ (call (Value.builtin _) [Value.str _ _, Value.str _ _]) _ _ _); k_dflt (refine' encode_ascii (by assumption) (by assumption) ?_; k_whole); intro zt9 zk9)) | ((with_reducible show wpAny _ _ (getMethod _ _ _) _ _ _); first | ((with_reducible show wpAny _ _ (getMethod (Value.bytes _ _) _ _) _ _ _); k_dflt (refine method_translate ?_)) | ((with_reducible show wpAny _ _ (getMethod (Value.type "bytes") _ _) _ _ _); (k_here; refine' method_type (by k_asm) (by k_asm) (by first | rfl | kernel_rfl) (by decide +kernel) (by k_dflt k_is) (by k_handed) ?_)) | ((with_reducible show wpAny _ _ (getMethod (Value.str _ _) _ _) _ _ _); (with_reducible refine method_encode ?_))) | walk1 | (dsimp only; first | ((with_reducible show wpAny _ _ (call _ _ _) _ _ _); first | ((with_reducible show wpAny _ _ (call (Value.builtin _) [Value.bytes _ _, Value.bytes _ _]) _ _ _); k_dflt (refine' translate (by exact mkTab_size _ _) (by assumption) ?_; k_whole); intro zt9 zk9) | ((with_reducible show wpAny _ _ (call (Value.builtin _) [Value.bytes _ _, Value.bytes _ _]) _ _ _); k_dflt (refine' maketrans (by rfl) ?_; k_whole); intro zt9 zk9) | ((with_reducible show wpAny _ _ (call (Value.ref 128) _ _) _ _ _); k_dflt (refine' con_use (a2b_c _ _ (by assumption) _ _ _ _ _ (by assumption) (by assumption) _) (by k_asm) (by k_asm) (by k_asm) (by k_asm) (by k_asm) (by first | exact rfl | assumption) (by ktr_room) (by ktr_units) ?_; k_whole; intro zr9 ztl9 zh9 ztk9 zF9 zN9 zho9; obtain ⟨zt8, ze8⟩ := zho9; subst ze8; (try simp only [List.nil_append, List.cons_append] at zN9); (try dsimp only); (try k_fold))) | ((with_reducible show wpAny _ _ (call (Value.ref 79) [Value.bytes _ _] _) _ _ _); k_dflt (refine' con_use (fromdata_bytes_c _ _ _ _) (by k_asm) (by k_asm) (by k_asm) (by k_asm) (by k_asm) (by first | exact rfl | assumption) (by ktr_room) (by ktr_units) ?_; k_whole; intro zr9 ztl9 zh9 ztk9 zF9 zN9 zho9; obtain ⟨ze9, ze8⟩ := zho9; subst ze9; subst ze8; (try simp only [List.nil_append, List.cons_append] at zN9); (try dsimp only); (try k_fold))) | ((with_reducible show wpAny _ _ (call (Value.ref 79) [Value.str _ _] _) _ _ _); k_dflt (refine' con_use (fromdata_str_c _ _ _ (by assumption) (by assumption) _) (by k_asm) (by k_asm) (by k_asm) (by k_asm) (by k_asm) (by first | exact rfl | assumption) (by ktr_room) (by ktr_units) ?_; k_whole; intro zr9 ztl9 zh9 ztk9 zF9 zN9 zho9; obtain ⟨ze9, zt8, ze8⟩ := zho9; subst ze9; subst ze8; (try simp only [List.nil_append, List.cons_append] at zN9); (try dsimp only); (try k_fold))) | ((with_reducible show wpAny _ _ (call (Value.builtin _) [Value.str _ _, Value.str _ _]) _ _ _); k_dflt (refine' encode_ascii (by assumption) (by assumption) ?_; k_whole); intro zt9 zk9)) | ((with_reducible show wpAny _ _ (getMethod _ _ _) _ _ _); first | ((with_reducible show wpAny _ _ (getMethod (Value.bytes _ _) _ _) _ _ _); k_dflt (refine method_translate ?_)) | ((with_reducible show wpAny _ _ (getMethod (Value.type "bytes") _ _) _ _ _); (k_here; refine' method_type (by k_asm) (by k_asm) (by first | rfl | kernel_rfl) (by decide +kernel) (by k_dflt k_is) (by k_handed) ?_)) | ((with_reducible show wpAny _ _ (getMethod (Value.str _ _) _ _) _ _ _); (with_reducible refine method_encode ?_))) | walk1) | (leave1; walk_say "STEP leave1"; try dsimp only) | fail "no step")
  all_goals (try w_report)
  all_goals exact hret _ _ _ _ (by assumption) (by assumption) ⟨_, rfl⟩
end

end
section
open PySem PySem.W PyProof.Rows
section
abbrev pairO (x y : Value) : Obj := { cls := .type "tuple", data := .seq [x, y].toArray 0 }
theorem shaped_ss {x y : Str} (hx : PyData.strOk x = true) (hy : PyData.strOk y = true) : PySem.SeqAt.shaped (.tuple [.str x, .str y]) = true := by
  simp [SeqAt.shaped, PyData.canLay0, PyData.canLayAll0, PyData.depth, PyData.depthAll, hx, hy]
def Asc (x : Str) : Prop := ∀ c ∈ x.cps.toList, c < 128
theorem Asc.ok {x : Str} (h : Asc x) : PyData.strOk x = true := by
  unfold PyData.strOk
  rw [Array.all_eq_true']
  intro c hc
  have := h c (by simpa using hc)
  simp; omega
theorem eq_pair_strs {prog : Program} {w : World} {A : Around} {E : Value → Shared → Prop} {s : Shared} {b c : Addr} {h1 p1 h2 p2 : Str} {t1 t2 t3 t4 : Tok} {Q : Value → Shared → Prop}
    (hb : s.heap.get? b = some (pairO (.str h1 t1) (.str p1 t2))) (hc : s.heap.get? c = some (pairO (.str h2 t3) (.str p2 t4))) (hu : A.units + 64 < cLine) (a1 : Asc h1) (a2 : Asc p1) (a3 : Asc h2) (a4 : Asc p2)
    (h : Q (.bool (decide (h1 = h2 ∧ p1 = p2))) s) : wpAny (model prog w) A (compareOp .Eq (.ref b) (.ref c)) Q E s := by
  refine eq_dataH (reads_tuple_at hb rfl rfl (.cons (.str _ _) (.cons (.str _ _) .nil))) (reads_tuple_at hc rfl rfl (.cons (.str _ _) (.cons (.str _ _) .nil))) (shaped_ss a1.ok a2.ok) (shaped_ss a3.ok a4.ok) hu ?_
  have e : PyData.eqv (.tuple [.str h1, .str p1]) (.tuple [.str h2, .str p2]) = decide (h1 = h2 ∧ p1 = p2) := by
    by_cases e1 : h1 = h2 <;> by_cases e2 : p1 = p2 <;> simp [PyData.eqv, PyData.eqvAll, e1, e2]
  rw [e]
  exact h
def isSub (h1 p1 h2 p2 : Str) : Bool :=
  if h1 = h2 ∧ p1 = p2 then true else if (h1 != h2) = true then false else if (Txt.slice p1 (some (-1)) none != Str.ofString "/") = true then Txt.startswith p2 (p1 ++ Str.ofString "/") else Txt.startswith p2 p1
local macro_rules | `(tactic| size_fits) => `(tactic| assumption)
set_option maxRecDepth 100000 in
set_option maxHeartbeats 8000000 in
theorem suburi_c (w : World) (self : Value) (h1 p1 h2 p2 : Str) (t1 t2 t3 t4 : Tok) (b c : Addr) (a1 : Asc h1) (a2 : Asc p1) (a3 : Asc h2) (a4 : Asc p2) (l1 : p1.length ≤ 2000) (l2 : p2.length ≤ 2000) (news : List (Addr × Obj)) (hb : (b, pairO (.str h1 t1) (.str p1 t2)) ∈ news) (hc : (c, pairO (.str h2 t3) (.str p2 t4)) ∈ news) :
    Con w 64 2 100 [self, .ref b, .ref c] [] news (fun _ r => r = .bool (isSub h1 p1 h2 p2)) := by
  w_top off; unfold Con; k_fill
  intro dp un gd cn cs a ccd cl outer A₀ base h₀ L m s mean mg mb Q E B F X N T hk hd hu hret
  refine wpAny_call ?_
  have ls1 : p1.length ≤ sizeLine := by rw [sizeLine_eq]; omega
  have ls3 : (p1 ++ Str.ofString "/").length ≤ sizeLine := by rw [Str.length_append, sizeLine_eq]; have : (Str.ofString "/").length = 1 := rfl; omega
  k_dflt (refine' code_def ?k1 ?k2 ?k3 ?k4 ?k5 ?kA ?kF ?kK ?k6 ?k7 ?k8 ?k9 ?kB ?_ ?c2 ?c3 ?c4 ?c5; (case kA => exact rfl); (case kF => exact rfl); (case kK => first | assumption | exact rfl); (case k1 => k_asm); (case k2 => k_asm); (case k3 => k_asm); (case k4 => k_asm); (case k5 => k_asm); (case k6 => k_is); (case k7 => k_is); (case k8 => ktr_room); (case k9 => first | exact BindsTo.of_eq rfl | exact binds_K (by k_in) rfl (by k_is) rfl rfl rfl); (case c5 => decide); (case kB => exact locs rfl); (case c2 => exact rfl); (case c3 => exact rfl); (case c4 => exact rfl); k_whole; intro g' L' h' FG' F' N' B' X' T'; (try dsimp only); (try k_lift B'); (try k_fold))
  repeat' (first | (k_unfold; (try dsimp only)) | (k_end; wrow_close) | ((with_reducible show wpAny _ _ (compareOp _ _ _) _ _ _); first | ((with_reducible show wpAny _ _ (compareOp CmpOp.Eq (Value.ref _) (Value.ref _)) _ _ _); k_dflt (refine' eq_pair_strs (by exact News.get (by k_asm) (by k_mem)) (by exact News.get (by k_asm) (by k_mem)) (by ktr_units) (by assumption) (by assumption) (by assumption) (by assumption) ?_; k_whole))) | walk1 | (dsimp only; first | ((with_reducible show wpAny _ _ (compareOp _ _ _) _ _ _); first | ((with_reducible show wpAny _ _ (compareOp CmpOp.Eq (Value.ref _) (Value.ref _)) _ _ _); k_dflt (refine' eq_pair_strs (by exact News.get (by k_asm) (by k_mem)) (by exact News.get (by k_asm) (by k_mem)) (by ktr_units) (by assumption) (by assumption) (by assumption) (by assumption) ?_; k_whole))) | walk1) | (leave1; walk_say "STEP leave1"; try dsimp only) | fail "no step")
  · refine hret _ [] _ _ (by assumption) (by assumption) ?_
    simp only [isSub]
    rw [if_pos (by assumption)]
  · refine hret _ [] _ _ (by assumption) (by assumption) ?_
    simp only [isSub]
    rw [if_neg (by assumption), if_pos (by assumption)]
  · refine hret _ [] _ _ (by assumption) (by assumption) ?_
    simp only [isSub]
    rw [if_neg (by assumption), if_neg (by simp_all), if_pos (by assumption)]
  · refine hret _ [] _ _ (by assumption) (by assumption) ?_
    simp only [isSub]
    rw [if_neg (by assumption), if_neg (by simp_all), if_neg (by simp_all)]
end

end
section
open PySem PySem.W PyProof.Rows
theorem shaped_sl {x : Str} (hx : PyData.strOk x = true) (ns : List Int) : PySem.SeqAt.shaped (.tuple [.str x, .list (ns.map PyData.int)]) = true := by
  simp [SeqAt.shaped, PyData.canLay0, PyData.canLayAll0, PyData.depth, PyData.depthAll, hx, ke_canLayAll0, ke_depthAll]
section
variable {prog : Program} {w : World} {A : Around} {E : Value → Shared → Prop} {s : Shared} {b c r1 r2 : Addr} {h1 h2 : Str} {t1 t2 : Tok} {v1 v2 : List Value} {o1 o2 : List Int} {n1 n2 : Nat} {Q : Value → Shared → Prop}
theorem eq_pair_lists (hb : s.heap.get? b = some (pairO (.str h1 t1) (.ref r1))) (hc : s.heap.get? c = some (pairO (.str h2 t2) (.ref r2))) (hr1 : s.heap.get? r1 = some (listOf v1.toArray n1)) (hr2 : s.heap.get? r2 = some (listOf v2.toArray n2))
    (i1 : IntsAre v1 o1) (i2 : IntsAre v2 o2) (hu : A.units + 64 < cLine) (a1 : Asc h1) (a2 : Asc h2)
    (h : Q (.bool (decide (h1 = h2 ∧ o1 = o2))) s) : wpAny (model prog w) A (compareOp .Eq (.ref b) (.ref c)) Q E s := by
  refine eq_dataH (reads_tuple_at hb rfl rfl (.cons (.str _ _) (.cons (reads_newData ⟨_, hr1, rfl, n1, rfl⟩ (ke_carried i1)) .nil))) (reads_tuple_at hc rfl rfl (.cons (.str _ _) (.cons (reads_newData ⟨_, hr2, rfl, n2, rfl⟩ (ke_carried i2)) .nil))) (shaped_sl a1.ok _) (shaped_sl a2.ok _) hu ?_
  have e : PyData.eqv (.tuple [.str h1, .list (o1.map PyData.int)]) (.tuple [.str h2, .list (o2.map PyData.int)]) = decide (h1 = h2 ∧ o1 = o2) := by
    by_cases e1 : h1 = h2 <;> by_cases e2 : o1 = o2 <;> simp [PyData.eqv, PyData.eqvAll, ked_eqvAll, e1, e2]
  rw [e]
  exact h
theorem item_pair0 {value slice : Expr} {x y : Value} {u : Tok} (hb : s.heap.get? b = some (pairO x y)) (h : Q x s)
    (hs : subscripted slice false (.ref b) (.int 0 u) = operate [.ref b, .int 0 u] (getItem (.ref b) (.int 0 u)) := by with_unfolding_all rfl) (hg : ∀ r, letTemporaryGo value (.ref b) r = pure () := by intro _; with_unfolding_all rfl) :
    wpAny (model prog w) A (subscriptTail value slice (.ref b) (.int 0 u)) Q E s :=
  item_tupleL (l := [x, y]) (j := 0) ⟨_, hb, rfl, 0, rfl⟩ (by decide) (by decide) (by show seqIndex? 0 2 = some 0; decide) rfl h hs hg
theorem item_pair1 {value slice : Expr} {x y : Value} {u : Tok} (hb : s.heap.get? b = some (pairO x y)) (h : Q y s)
    (hs : subscripted slice false (.ref b) (.int 1 u) = operate [.ref b, .int 1 u] (getItem (.ref b) (.int 1 u)) := by with_unfolding_all rfl) (hg : ∀ r, letTemporaryGo value (.ref b) r = pure () := by intro _; with_unfolding_all rfl) :
    wpAny (model prog w) A (subscriptTail value slice (.ref b) (.int 1 u)) Q E s :=
  item_tupleL (l := [x, y]) (j := 1) ⟨_, hb, rfl, 0, rfl⟩ (by decide) (by decide) (by show seqIndex? 1 2 = some 1; decide) rfl h hs hg
theorem eq_lists (hr1 : s.heap.get? r1 = some (listOf v1.toArray n1)) (hr2 : s.heap.get? r2 = some (listOf v2.toArray n2)) (i1 : IntsAre v1 o1) (i2 : IntsAre v2 o2) (hu : A.units + 64 < cLine)
    (h : Q (.bool (decide (o1 = o2))) s) : wpAny (model prog w) A (compareOp .Eq (.ref r1) (.ref r2)) Q E s := ke_eq_ints ⟨_, hr1, rfl, n1, rfl⟩ ⟨_, hr2, rfl, n2, rfl⟩ i1 i2 hu h
theorem ne_lists (hr1 : s.heap.get? r1 = some (listOf v1.toArray n1)) (hr2 : s.heap.get? r2 = some (listOf v2.toArray n2)) (i1 : IntsAre v1 o1) (i2 : IntsAre v2 o2) (hu : A.units + 64 < cLine)
    (h : Q (.bool (!decide (o1 = o2))) s) : wpAny (model prog w) A (compareOp .NotEq (.ref r1) (.ref r2)) Q E s := ke_ne_ints ⟨_, hr1, rfl, n1, rfl⟩ ⟨_, hr2, rfl, n2, rfl⟩ i1 i2 hu h
end
section
variable {prog : Program} {w : World} {A : Around} {E : Value → Shared → Prop} {s : Shared} {r L : Addr} {h₀ : Heap} {m : Str → Option Value} {news : List (Addr × Obj)} {vs : List Value} {ns : List Int} {n : Nat} {Q : Value → Shared → Prop} {value slice : Expr} {k : Int} {u : Tok}
theorem isList_of (hr : s.heap.get? r = some (listOf vs.toArray n)) : s.heap.IsList r vs.toArray := ⟨_, hr, rfl, n, rfl⟩
theorem len_L (hr : s.heap.get? r = some (listOf vs.toArray n)) (i : IntsAre vs ns) (hl : ns.length ≤ 1000) (h : Q (.int ns.length (s.toks + 1)) { s with toks := s.toks + 1 + 1 }) : wpAny (model prog w) A (call (.builtin "len") [.ref r]) Q E s := by
  have e : vs.toArray.size = ns.length := by simp [i.length]
  refine len_list (isList_of hr) (by rw [e]; omega) ?_
  rw [e]
  exact h
theorem slice_L (F : Fr h₀ L s.heap m) (N : News h₀ L s.heap news) (hr : s.heap.get? r = some (listOf vs.toArray n)) (i : IntsAre vs ns) (hl : ns.length ≤ 1000) (hk : 0 ≤ k)
    (h : ∀ D ws h', Fr h₀ L h' m → News h₀ L h' ((D, listOf (List.toArray ws) 0) :: news) → (∀ p ∈ news, p.1 < D) → IntsAre ws (ns.take k.toNat) → Q (.ref D) { s with heap := h' })
    (hs : subscripted slice false (.ref r) (.ref s.heap.objs.size) = operate [.ref s.heap.objs.size, .ref r] (getItem (.ref r) (.ref s.heap.objs.size)) := by with_unfolding_all rfl) (ht : ∀ q, letTemporaryGo value (.ref r) q = pure () := by intro _; with_unfolding_all rfl) :
    wpAny (model prog w) A (subscriptTail value slice (.ref r) (.ref s.heap.objs.size)) Q E { s with heap := s.heap.push { cls := .type "slice", data := .fields #[.none, .int k u, .none] } } :=
  kmk_slice_ints (c := (ns.take k.toNat).length) F N (isList_of hr) .none (.int _ _) i (kmk_upto i hk) rfl (fun D ws h' F' N' l1 hI _ _ => h D ws h' F' N' l1 hI) hs ht (by rw [List.size_toArray, i.length, sizeLine_eq]; omega)
theorem item_L (hr : s.heap.get? r = some (listOf vs.toArray n)) (i : IntsAre vs ns) (hl : ns.length ≤ 1000) (h0 : 0 ≤ k) (h1 : k < ns.length) (h : ∀ t, Q (.int (ns.getD k.toNat 0) t) s)
    (hs : subscripted slice false (.ref r) (.int k u) = operate [.ref r, .int k u] (getItem (.ref r) (.int k u)) := by with_unfolding_all rfl) :
    wpAny (model prog w) A (subscriptTail value slice (.ref r) (.int k u)) Q E s := item_list_intsR (isList_of hr) i h0 h1 (by omega) h hs
theorem item_last (hr : s.heap.get? r = some (listOf vs.toArray n)) (i : IntsAre vs ns) (hl : ns.length ≤ 1000) (h0 : ns ≠ []) (h : ∀ t, Q (.int (ns.getLastD 0) t) s)
    (hs : subscripted slice false (.ref r) (.int (-1) u) = operate [.ref r, .int (-1) u] (getItem (.ref r) (.int (-1) u)) := by with_unfolding_all rfl) (hg : ∀ q, letTemporaryGo value (.ref r) q = pure () := by intro _; with_unfolding_all rfl) :
    wpAny (model prog w) A (subscriptTail value slice (.ref r) (.int (-1) u)) Q E s := by
  have hpos : 0 < ns.length := List.length_pos_iff.mpr h0
  have e : ns[ns.length - 1]? = some (ns.getLastD 0) := by
    rw [← List.getLast?_eq_getElem?, List.getLastD_eq_getLast?]
    cases hc : ns.getLast? with
    | none => exact absurd (List.getLast?_eq_none_iff.mp hc) h0
    | some x => rfl
  obtain ⟨t, hx⟩ := i.get _ _ e
  refine subscriptTail_builtin (isList_of hr).typeIs slot_list_getitem.lookup (wpAny_getItem_list_neg (isList_of hr) (by decide) ?_ (by decide) ?_ (h t)) hs hg
  · rw [List.size_toArray, i.length]; omega
  · have e2 : ((-1 : Int) + ((vs.toArray.size : Nat) : Int)).toNat = ns.length - 1 := by rw [List.size_toArray, i.length]; omega
    rw [e2]
    simpa using hx
end

end
section
open PySem PySem.W PyProof.Rows
section
theorem ne_of_dec {o : List Int} (h : (!decide (o = [])) = true) : o ≠ [] := by simpa using h
theorem ne_of_dec2 {o : List Int} (h : decide (o = []) = false) : o ≠ [] := by simpa using h
theorem below_lt {h1 h2 : Str} {o1 o2 : List Int} (a : ¬ (h1 = h2 ∧ o1 = o2)) (b : (h1 != h2) = false) (c : o2.take (o1.length : Int).toNat = o1) : (o1.length : Int) < o2.length := by
  have e : h1 = h2 := by simpa using b
  have c' : o2.take o1.length = o1 := by simpa using c
  have hl := congrArg List.length c'
  rw [List.length_take] at hl
  by_cases h : o1.length < o2.length
  · omega
  · exfalso
    rw [List.take_of_length_le (by omega)] at c'
    exact a ⟨e, c'.symm⟩
def below (h1 : Str) (o1 : List Int) (h2 : Str) (o2 : List Int) (slash : Int) (lead : Str) : Bool :=
  if h1 = h2 ∧ o1 = o2 then true
  else if (h1 != h2) = true then false
  else if 0 < (o1.length : Int).fmod 3 then false
  else if ¬ o2.take (o1.length : Int).toNat = o1 then false
  else if decide (o1 = []) = true then (if (lead == Str.ofString "/") = true then true else (o2.getD (o1.length : Int).toNat 0).fdiv 4 == slash)
  else if (o1.getLastD 0).fmod 64 = slash then true else (o2.getD (o1.length : Int).toNat 0).fdiv 4 == slash
section
variable {h1 h2 lead : Str} {o1 o2 : List Int} {slash : Int}
theorem below1 (a : h1 = h2 ∧ o1 = o2) : true = below h1 o1 h2 o2 slash lead := by rw [below, if_pos a]
theorem below2 (a : ¬ (h1 = h2 ∧ o1 = o2)) (b : (h1 != h2) = true) : false = below h1 o1 h2 o2 slash lead := by rw [below, if_neg a, if_pos b]
theorem bf {x : Bool} (h : x = false) : ¬ x = true := by rw [h]; decide
theorem below3 (a : ¬ (h1 = h2 ∧ o1 = o2)) (b : (h1 != h2) = false) (c : 0 < (o1.length : Int).fmod 3) : false = below h1 o1 h2 o2 slash lead := by rw [below, if_neg a, if_neg (bf b), if_pos c]
theorem below4 (a : ¬ (h1 = h2 ∧ o1 = o2)) (b : (h1 != h2) = false) (c : ¬ 0 < (o1.length : Int).fmod 3) (d : ¬ o2.take (o1.length : Int).toNat = o1) : false = below h1 o1 h2 o2 slash lead := by rw [below, if_neg a, if_neg (bf b), if_neg c, if_pos d]
theorem below5 (a : ¬ (h1 = h2 ∧ o1 = o2)) (b : (h1 != h2) = false) (c : ¬ 0 < (o1.length : Int).fmod 3) (d : o2.take (o1.length : Int).toNat = o1) (e : decide (o1 = []) = true) (f : (lead == Str.ofString "/") = true) : true = below h1 o1 h2 o2 slash lead := by
  rw [below, if_neg a, if_neg (bf b), if_neg c, if_neg (fun n => n d), if_pos e, if_pos f]
theorem below6 (a : ¬ (h1 = h2 ∧ o1 = o2)) (b : (h1 != h2) = false) (c : ¬ 0 < (o1.length : Int).fmod 3) (d : o2.take (o1.length : Int).toNat = o1) (e : decide (o1 = []) = true) (f : (lead == Str.ofString "/") = false) :
    ((o2.getD (o1.length : Int).toNat 0).fdiv 4 == slash) = below h1 o1 h2 o2 slash lead := by
  rw [below, if_neg a, if_neg (bf b), if_neg c, if_neg (fun n => n d), if_pos e, if_neg (bf f)]
theorem below7 (a : ¬ (h1 = h2 ∧ o1 = o2)) (b : (h1 != h2) = false) (c : ¬ 0 < (o1.length : Int).fmod 3) (d : o2.take (o1.length : Int).toNat = o1) (e : decide (o1 = []) = false) (f : (o1.getLastD 0).fmod 64 = slash) : true = below h1 o1 h2 o2 slash lead := by
  rw [below, if_neg a, if_neg (bf b), if_neg c, if_neg (fun n => n d), if_neg (bf e), if_pos f]
theorem below8 (a : ¬ (h1 = h2 ∧ o1 = o2)) (b : (h1 != h2) = false) (c : ¬ 0 < (o1.length : Int).fmod 3) (d : o2.take (o1.length : Int).toNat = o1) (e : decide (o1 = []) = false) (f : (o1.getLastD 0).fmod 64 ≠ slash) :
    ((o2.getD (o1.length : Int).toNat 0).fdiv 4 == slash) = below h1 o1 h2 o2 slash lead := by
  rw [below, if_neg a, if_neg (bf b), if_neg c, if_neg (fun n => n d), if_neg (bf e), if_neg f]
end
local macro_rules | `(tactic| k_mem) => `(tactic| first | assumption | (refine List.mem_cons_of_mem _ ?_; k_mem) | (refine List.mem_append_right _ ?_; k_mem))
set_option maxRecDepth 100000 in
set_option maxHeartbeats 8000000 in
theorem below_c (w : World) (h1 h2 lead : Str) (o1 o2 : List Int) (slash : Int) (t1 t2 t3 t4 : Tok) (b c r1 r2 : Addr) (v1 v2 : List Value) (n1 n2 : Nat) (a1 : Asc h1) (a2 : Asc h2) (b1 : KBa.In o1) (b2 : KBa.In o2) (l1 : o1.length ≤ 1000) (l2 : o2.length ≤ 1000)
    (i1 : IntsAre v1 o1) (i2 : IntsAre v2 o2) (news : List (Addr × Obj)) (hb : (b, pairO (.str h1 t1) (.ref r1)) ∈ news) (hc : (c, pairO (.str h2 t2) (.ref r2)) ∈ news)
    (hr1 : (r1, listOf v1.toArray n1) ∈ news) (hr2 : (r2, listOf v2.toArray n2) ∈ news) :
    Con w 164 2 100 [.ref b, .ref c, .int slash t3, .str lead t4] [] news (fun _ r => r = .bool (below h1 o1 h2 o2 slash lead)) := by
  w_top off; unfold Con; k_fill
  intro dp un gd cn cs a ccd cl outer A₀ base h₀ L m s mean mg mb Q E B F X N T hk hd hu hret
  refine wpAny_call ?_
  k_dflt (refine' code_def ?k1 ?k2 ?k3 ?k4 ?k5 ?kA ?kF ?kK ?k6 ?k7 ?k8 ?k9 ?kB ?_ ?c2 ?c3 ?c4 ?c5; (case kA => exact rfl); (case kF => exact rfl); (case kK => first | assumption | exact rfl); (case k1 => k_asm); (case k2 => k_asm); (case k3 => k_asm); (case k4 => k_asm); (case k5 => k_asm); (case k6 => k_is); (case k7 => k_is); (case k8 => ktr_room); (case k9 => first | exact BindsTo.of_eq rfl | exact binds_K (by k_in) rfl (by k_is) rfl rfl rfl); (case c5 => decide); (case kB => exact locs rfl); (case c2 => exact rfl); (case c3 => exact rfl); (case c4 => exact rfl); k_whole; intro g' L' h' FG' F' N' B' X' T'; (try dsimp only); (try k_lift B'); (try k_fold))
  repeat' (first | (k_unfold; (try dsimp only)) | (k_end; wrow_close) | ((with_reducible show wpAny _ _ (subscriptTail _ _ _ _) _ _ _); first | (first | ((with_reducible show wpAny _ _ (subscriptTail _ _ (Value.ref _) (Value.int (-1) _)) _ _ _); k_dflt (refine' item_last (by exact News.get (by k_asm) (by k_mem)) (by assumption) (by assumption) (by first | assumption | exact ne_of_dec (by assumption) | exact ne_of_dec2 (by assumption)) ?_; k_whole); intro zt9) | ((with_reducible show wpAny _ _ (subscriptTail _ _ (Value.ref _) (Value.int (Nat.cast _) _)) _ _ _); k_dflt (refine' item_L (by exact News.get (by k_asm) (by k_mem)) (by assumption) (by assumption) (by exact Int.natCast_nonneg _) (by exact below_lt (by assumption) (by assumption) (by assumption)) ?_; k_whole); intro zt9)) | ((with_reducible show wpAny _ _ (subscriptTail _ (PySem.Expr.Slice none (some _) none _) (Value.ref _) (Value.ref _)) _ _ _); k_dflt (refine' slice_L (by k_asm) (by k_asm) (by exact News.get (by k_asm) (by k_mem)) (by assumption) (by assumption) (by first | omega | exact Int.natCast_nonneg _) ?_; k_whole); intro zD9 zws9 zh9 zF9 zN9 zl9 zi9; (try k_lt zl9)) | (first | ((with_reducible show wpAny _ _ (subscriptTail _ _ (Value.ref _) (Value.int 0 _)) _ _ _); k_dflt (refine' item_pair0 (by exact News.get (by k_asm) (by k_mem)) ?_; k_whole)) | ((with_reducible show wpAny _ _ (subscriptTail _ _ (Value.ref _) (Value.int 1 _)) _ _ _); k_dflt (refine' item_pair1 (by exact News.get (by k_asm) (by k_mem)) ?_; k_whole)))) | ((with_reducible show wpAny _ _ (call _ _ _) _ _ _); first | ((with_reducible show wpAny _ _ (call (Value.builtin "len") [Value.ref _]) _ _ _); k_dflt (refine' len_L (by exact News.get (by k_asm) (by k_mem)) (by assumption) (by first | assumption | (simp only [List.length_take] at *; omega)) ?_; k_whole))) | ((with_reducible show wpAny _ _ (compareOp _ _ _) _ _ _); first | ((with_reducible show wpAny _ _ (compareOp CmpOp.NotEq (Value.ref _) (Value.ref _)) _ _ _); k_dflt (refine' ne_lists (by exact News.get (by k_asm) (by k_mem)) (by exact News.get (by k_asm) (by k_mem)) (by first | assumption | exact IntsAre.nil) (by first | assumption | exact IntsAre.nil) (by ktr_units) ?_; k_whole)) | ((with_reducible show wpAny _ _ (compareOp CmpOp.Eq (Value.ref _) (Value.ref _)) _ _ _); k_dflt (first | (refine' eq_pair_lists (by exact News.get (by k_asm) (by k_mem)) (by exact News.get (by k_asm) (by k_mem)) (by exact News.get (by k_asm) (by k_mem)) (by exact News.get (by k_asm) (by k_mem)) (by assumption) (by assumption) (by ktr_units) (by assumption) (by assumption) ?_; k_whole) | (refine' eq_lists (by exact News.get (by k_asm) (by k_mem)) (by exact News.get (by k_asm) (by k_mem)) (by first | assumption | exact IntsAre.nil) (by first | assumption | exact IntsAre.nil) (by ktr_units) ?_; k_whole)))) | walk1 | (dsimp only; first | ((with_reducible show wpAny _ _ (subscriptTail _ _ _ _) _ _ _); first | (first | ((with_reducible show wpAny _ _ (subscriptTail _ _ (Value.ref _) (Value.int (-1) _)) _ _ _); k_dflt (refine' item_last (by exact News.get (by k_asm) (by k_mem)) (by assumption) (by assumption) (by first | assumption | exact ne_of_dec (by assumption) | exact ne_of_dec2 (by assumption)) ?_; k_whole); intro zt9) | ((with_reducible show wpAny _ _ (subscriptTail _ _ (Value.ref _) (Value.int (Nat.cast _) _)) _ _ _); k_dflt (refine' item_L (by exact News.get (by k_asm) (by k_mem)) (by assumption) (by assumption) (by exact Int.natCast_nonneg _) (by exact below_lt (by assumption) (by assumption) (by assumption)) ?_; k_whole); intro zt9)) | ((with_reducible show wpAny _ _ (subscriptTail _ (PySem.Expr.Slice none (some _) none _) (Value.ref _) (Value.ref _)) _ _ _); k_dflt (refine' slice_L (by k_asm) (by k_asm) (by exact News.get (by k_asm) (by k_mem)) (by assumption) (by assumption) (by first | omega | exact Int.natCast_nonneg _) ?_; k_whole); intro zD9 zws9 zh9 zF9 zN9 zl9 zi9; (try k_lt zl9)) | (first | ((with_reducible show wpAny _ _ (subscriptTail _ _ (Value.ref _) (Value.int 0 _)) _ _ _); k_dflt (refine' item_pair0 (by exact News.get (by k_asm) (by k_mem)) ?_; k_whole)) | ((with_reducible show wpAny _ _ (subscriptTail _ _ (Value.ref _) (Value.int 1 _)) _ _ _); k_dflt (refine' item_pair1 (by exact News.get (by k_asm) (by k_mem)) ?_; k_whole)))) | ((with_reducible show wpAny _ _ (call _ _ _) _ _ _); first | ((with_reducible show wpAny _ _ (call (Value.builtin "len") [Value.ref _]) _ _ _); k_dflt (refine' len_L (by exact News.get (by k_asm) (by k_mem)) (by assumption) (by first | assumption | (simp only [List.length_take] at *; omega)) ?_; k_whole))) | ((with_reducible show wpAny _ _ (compareOp _ _ _) _ _ _); first | ((with_reducible show wpAny _ _ (compareOp CmpOp.NotEq (Value.ref _) (Value.ref _)) _ _ _); k_dflt (refine' ne_lists (by exact News.get (by k_asm) (by k_mem)) (by exact News.get (by k_asm) (by k_mem)) (by first | assumption | exact IntsAre.nil) (by first | assumption | exact IntsAre.nil) (by ktr_units) ?_; k_whole)) | ((with_reducible show wpAny _ _ (compareOp CmpOp.Eq (Value.ref _) (Value.ref _)) _ _ _); k_dflt (first | (refine' eq_pair_lists (by exact News.get (by k_asm) (by k_mem)) (by exact News.get (by k_asm) (by k_mem)) (by exact News.get (by k_asm) (by k_mem)) (by exact News.get (by k_asm) (by k_mem)) (by assumption) (by assumption) (by ktr_units) (by assumption) (by assumption) ?_; k_whole) | (refine' eq_lists (by exact News.get (by k_asm) (by k_mem)) (by exact News.get (by k_asm) (by k_mem)) (by first | assumption | exact IntsAre.nil) (by first | assumption | exact IntsAre.nil) (by ktr_units) ?_; k_whole)))) | walk1) | (leave1; walk_say "STEP leave1"; try dsimp only) | fail "no step")
  all_goals (
    have hf := fun v tl h' tk' (e : v = below h1 o1 h2 o2 slash lead) F N => hret (.bool v) tl h' tk' F N (congrArg Value.bool e)
    first
    | (refine hf _ [] _ _ ?_ (by assumption) (by assumption); first | exact below1 (by assumption))
    | (refine hf _ [_] _ _ ?_ (by assumption) (by assumption); first | exact below2 (by assumption) (by assumption) | exact below3 (by assumption) (by assumption) (by assumption))
    | (refine hf _ [_, _] _ _ ?_ (by assumption) (by assumption); exact below4 (by assumption) (by assumption) (by assumption) (by assumption))
    | (refine hf _ [_, _, _] _ _ ?_ (by assumption) (by assumption); exact below5 (by assumption) (by assumption) (by assumption) (by assumption) (by assumption) (by assumption))
    | (refine hf _ [_, _, _, _] _ _ ?_ (by assumption) (by assumption); first | exact below6 (by assumption) (by assumption) (by assumption) (by assumption) (by assumption) (by assumption) | exact below7 (by assumption) (by assumption) (by assumption) (by assumption) (by assumption) (by assumption) | exact below8 (by assumption) (by assumption) (by assumption) (by assumption) (by assumption) (by assumption)))
end

end
section
open PySem PySem.W PyProof.Rows PySem.Calls PyProof.V PySem.Spec
section
variable {prog : Program} {w : World} {A : Around} {E : Value → Shared → Prop} {s : Shared} {env : Env} {h₀ : Heap} {target : Expr} {body : List Stmt} {Q : Flow → Shared → Prop}
def TurnEnd (Inv : Shared → Prop) (Q : Flow → Shared → Prop) (f : Flow) (s₂ : Shared) : Prop :=
  match f with
  | .ret v => Q (.ret v) s₂
  | .brk => Q .next s₂
  | _ => Inv s₂
def ForAt (prog : Program) (w : World) (A : Around) (env : Env) (target : Expr) (body : List Stmt) (Q : Flow → Shared → Prop) (E : Value → Shared → Prop) (it : Value) (s₂ : Shared) : Prop :=
  ∃ (I : Addr) (fp wr : List Addr) (n : Nat) (P : Nat → Value → Prop) (St : Nat → Heap → Prop) (Inv : Nat → Shared → Prop),
    it = .ref I ∧ Walks prog w A I fp wr n P St ∧ Inv 0 s₂ ∧ (∀ i s', Inv i s' → St i s'.heap) ∧
    (∀ i v s' h' tk, i < n → P i v → Inv i s' → St (i + 1) h' → (∀ b o, b ∉ wr → s'.heap.get? b = some o → h'.get? b = some o) →
      wpAny (model prog w) A (assign target env v) (fun _ s₄ => wpAny (model prog w) A (execs body env) (TurnEnd (Inv (i + 1)) Q) E s₄) E { s' with heap := h', toks := tk }) ∧
    (∀ s' h' tk, Inv n s' → (∀ b o, b ∉ wr → s'.heap.get? b = some o → h'.get? b = some o) → Q .next { s' with heap := h', toks := tk })
theorem For_any {iter : Expr} {pos : Pos} (h : wpAny (model prog w) A (eval iter env) (fun xv s₁ => wpAny (model prog w) A (pyIter xv) (fun it s₂ => ForAt prog w A env target body Q E it s₂) E s₁) E s)
    (hs : ∀ x, foldedSetIterable iter env x = pure x := by intro _; rfl) (ht : ∀ it v, letOwnedTupleGo target it v = pure () := by intro _ _; rfl)
    (hE : PassesOwn (model prog w) A env E := by passes_own) :
    wpAny (model prog w) A (exec (.For target iter body [] pos) env) Q E s := by
  refine wpAny_For (wpAny_mono h (fun xv s₁ h₁ => wpAny_mono h₁ (fun it s₂ h₂ => ?_) fun _ _ e => e) fun _ _ e => e) hs
  obtain ⟨I, fp, wr, n, P, St, Inv, rfl, W, h0, hst, step, done⟩ := h₂
  refine codeAny_forLoop (R := fun r s' => match r with | .ok f => Q f s' | .error e => cameBackBy (model prog w) A env E e s') (fun k s' => ∃ i, Inv i s' ∧ i ≤ n ∧ k = n + 1 - i) ?_ (n + 1) ⟨0, h0, Nat.zero_le _, rfl⟩ (ht _)
  rintro k s' ⟨i, hI, hi, rfl⟩
  by_cases hlt : i < n
  · refine W.item i _ _ _ hlt (hst _ _ hI) fun v h₁ tk₁ hP hst₁ hk₁ => ?_
    refine wpAny_passesOwn hE (wpAny_mono (step i v s' h₁ tk₁ hlt hP hI hst₁ hk₁) (fun _ s₄ h₄ => wpAny_passesOwn hE (wpAny_mono h₄ (fun f s₃ h₃ => ?_) fun _ _ e => e)) fun _ _ e => e)
    cases f with
    | ret v => exact h₃
    | brk => exact h₃
    | cont => exact ⟨n + 1 - (i + 1), by omega, i + 1, h₃, hlt, rfl⟩
    | next => exact ⟨n + 1 - (i + 1), by omega, i + 1, h₃, hlt, rfl⟩
  · have hin : i = n := by omega
    subst hin
    exact W.done _ _ _ (hst _ _ hI) fun h₁ tk₁ hk₁ => wpAny_execs_nil (done s' h₁ tk₁ hI hk₁)
def EndH (h₀ : Heap) (L : Addr) (J : (Str → Option Value) → List (Addr × Obj) → Prop) (I : List (Addr × Obj)) (s₁ s₂ : Shared) : Prop :=
  ∃ h' tk m' nx, s₂ = { s₁ with heap := h', toks := tk } ∧ Fr h₀ L h' m' ∧ News h₀ L h' (I ++ nx) ∧ (∀ p ∈ nx, ∀ q ∈ I, p.1 ≠ q.1) ∧ J m' nx
def PostH (h₀ : Heap) (L : Addr) (J : (Str → Option Value) → List (Addr × Obj) → Prop) (I : List (Addr × Obj)) (s₁ : Shared) (Q : Flow → Shared → Prop) (f : Flow) (s₂ : Shared) : Prop :=
  match f with
  | .ret v => Q (.ret v) s₂
  | .brk => Q .next s₂
  | _ => EndH h₀ L J I s₁ s₂
theorem forAt_list {l : Addr} {its : Array Value} {nn : Nat} {m₀ : Str → Option Value} {news : List (Addr × Obj)} (J : Nat → (Str → Option Value) → List (Addr × Obj) → Prop)
    (hh : A.handled = none) (hl : (l, listOf its nn) ∈ news) (hJl : ∀ i m nx, J i m nx → (l, listOf its nn) ∈ nx) (F : Fr h₀ env.locals s.heap m₀) (N : News h₀ env.locals s.heap news) (hj : J 0 m₀ news)
    (turn : ∀ i v m₁ news₁ h tk I oI, its[i]? = some v → (∀ p ∈ news₁, p.1 ≠ I) → J i m₁ news₁ → Fr h₀ env.locals h m₁ → News h₀ env.locals h ((I, oI) :: news₁) →
      wpAny (model prog w) A (assign target env v) (fun _ s₄ => wpAny (model prog w) A (execs body env) (PostH h₀ env.locals (J (i + 1)) [(I, oI)] s Q) E s₄) E { s with heap := h, toks := tk })
    (done : ∀ m₁ news₁ h tk, J its.size m₁ news₁ → Fr h₀ env.locals h m₁ → News h₀ env.locals h news₁ → Q .next { s with heap := h, toks := tk }) :
    wpAny (model prog w) A (pyIter (.ref l)) (fun it s₂ => ForAt prog w A env target body Q E it s₂) E s := by
  have hol : s.heap.get? l = some (listOf its nn) := (N _ hl).1
  have hls : s.heap.IsList l its := ⟨_, hol, rfl, nn, rfl⟩
  have hne : l ≠ s.heap.objs.size := Nat.ne_of_lt (Heap.lt_size hol)
  refine wpAny_pyIter_list hls ?_
  have W := Walks.list (prog := prog) (w := w) hh s.heap.objs.size l hne its
  have hI0 : h₀.get? s.heap.objs.size = none := next_is_new F
  have hIL : s.heap.objs.size ≠ env.locals := fun e => absurd F.ns.lt (e ▸ Nat.lt_irrefl _)
  refine ⟨_, _, _, its.size, _, _, fun i s' => ∃ h tk m nx, s' = { s with heap := h, toks := tk } ∧ h.IsListIter s.heap.objs.size l i ∧ Fr h₀ env.locals h m ∧ News h₀ env.locals h nx ∧ (∀ p ∈ nx, p.1 ≠ s.heap.objs.size) ∧ J i m nx,
    rfl, W, ⟨_, s.toks, m₀, news, rfl, ⟨_, Heap.get?_push_size _ rfl, rfl, rfl⟩, F.push _, (fun p hp => ⟨Heap.get?_push_of_some _ (N p hp).1, (N p hp).2⟩), (fun p hp e => absurd (Heap.lt_size (N p hp).1) (e ▸ Nat.lt_irrefl _)), hj⟩, ?_, ?_, ?_⟩
  · rintro i s' ⟨h, tk, m, nx, rfl, hit, F', N', hoff, hJ⟩
    exact ⟨hit, ⟨_, (N' _ (hJl _ _ _ hJ)).1, rfl, nn, rfl⟩⟩
  · rintro i v s' h' tk' hin hP ⟨h, tk, m, nx, rfl, hit, F', N', hoff, hJ⟩ hst hk
    obtain ⟨⟨oI, hoI, hcI, hdI⟩, _⟩ := hst
    have keep : ∀ b o, b ≠ s.heap.objs.size → h.get? b = some o → h'.get? b = some o := fun b o hb e => hk b o (fun hm => hb (List.mem_singleton.mp hm)) e
    have F₁ : Fr h₀ env.locals h' m := ⟨F'.ns.at' fun o e => keep _ o hIL.symm e, fun b o e => keep b o (fun eq => by rw [eq, hI0] at e; cases e) (F'.keep b o e), F'.above⟩
    have N₁ : News h₀ env.locals h' ((s.heap.objs.size, oI) :: nx) := by
      intro p hp
      rcases List.mem_cons.mp hp with rfl | hp
      · exact ⟨hoI, hIL, hI0⟩
      · exact ⟨keep _ _ (hoff p hp) (N' p hp).1, (N' p hp).2⟩
    refine wpAny_mono (turn i v m nx h' tk' _ oI (by simpa using hP) hoff hJ F₁ N₁) (fun _ s₄ h₄ => wpAny_mono h₄ (fun f s₂ p => ?_) fun _ _ e => e) fun _ _ e => e
    have fin : EndH h₀ env.locals (J (i + 1)) [(s.heap.objs.size, oI)] s s₂ → ∃ h tk m nx, s₂ = { s with heap := h, toks := tk } ∧ h.IsListIter s.heap.objs.size l (i + 1) ∧ Fr h₀ env.locals h m ∧ News h₀ env.locals h nx ∧ (∀ p ∈ nx, p.1 ≠ s.heap.objs.size) ∧ J (i + 1) m nx := by
      rintro ⟨h₂, tk₂, m₂, nx₂, e, F₂, N₂, hn, hm⟩
      exact ⟨h₂, tk₂, m₂, nx₂, e, ⟨oI, (N₂ _ List.mem_cons_self).1, hcI, hdI⟩, F₂, fun p hp => N₂ p (List.mem_cons_of_mem _ hp), fun p hp => hn p hp _ List.mem_cons_self, hm⟩
    cases f with
    | ret v => exact p
    | brk => exact p
    | next => exact fin p
    | cont => exact fin p
  · rintro s' h' tk' ⟨h, tk, m, nx, rfl, hit, F', N', hoff, hJ⟩ hk
    have keep : ∀ b o, b ≠ s.heap.objs.size → h.get? b = some o → h'.get? b = some o := fun b o hb e => hk b o (fun hm => hb (List.mem_singleton.mp hm)) e
    exact done m nx h' tk' hJ ⟨F'.ns.at' fun o e => keep _ o hIL.symm e, fun b o e => keep b o (fun eq => by rw [eq, hI0] at e; cases e) (F'.keep b o e), F'.above⟩ fun p hp => ⟨keep _ _ (hoff p hp) (N' p hp).1, (N' p hp).2⟩
end

end
section
open PySem PySem.W PyProof.Rows
def menuI : List Int := [255, 252, 248, 251, 190, 63, 0, 77]
def tailOf (n : Int) : List Int := (List.range (1 + n / 16 % 6).toNat).map fun k => menuI.getD (n / 96 / 8 ^ k % 8).toNat 0
def rows0 : List (Str × List Int) := [(Str.ofString "h", []), (Str.ofString "h", [0, 16, 131]), (Str.ofString "h", [0, 16, 131, 252]), (Str.ofString "h", [0, 16, 131, 248])]
def growStep (rows : List (Str × List Int)) (n : Int) : List (Str × List Int) :=
  rows ++ [(if n / 7 % 5 = 4 then Str.ofString "g" else (rows.getD (n % rows.length).toNat (Str.empty, [])).1,
    (rows.getD (n % rows.length).toNat (Str.empty, [])).2.take ((rows.getD (n % rows.length).toNat (Str.empty, [])).2.length / 3 * 3) ++ tailOf n)]
def grown (ns : List Int) : List (Str × List Int) := ns.foldl growStep rows0
theorem grown_snoc (ns : List Int) (n : Int) : grown (ns ++ [n]) = growStep (grown ns) n := by simp [grown, List.foldl_append]
theorem tailOf_length (n : Int) : (tailOf n).length ≤ 6 := by
  simp only [tailOf, List.length_map, List.length_range]; omega
theorem tailOf_in (n : Int) : KBa.In (tailOf n) := by
  intro x hx
  obtain ⟨k, _, rfl⟩ := List.mem_map.mp hx
  have all : ∀ j < 8, 0 ≤ menuI.getD j 0 ∧ menuI.getD j 0 < 256 := by decide
  exact all _ (by omega)
def RowOk (c : Nat) (r : Str × List Int) : Prop := (r.1 = Str.ofString "h" ∨ r.1 = Str.ofString "g") ∧ KBa.In r.2 ∧ r.2.length ≤ c
theorem RowOk.mono {c d : Nat} {r : Str × List Int} (h : RowOk c r) (hcd : c ≤ d) : RowOk d r := ⟨h.1, h.2.1, Nat.le_trans h.2.2 hcd⟩
theorem rows0_ok : ∀ r ∈ rows0, RowOk 4 r := by
  intro r hr
  simp only [rows0, List.mem_cons, List.not_mem_nil, or_false] at hr
  rcases hr with rfl | rfl | rfl | rfl
  all_goals refine ⟨.inl rfl, ?_, by decide⟩
  all_goals (unfold KBa.In; decide)
theorem growStep_ok {c : Nat} {rows : List (Str × List Int)} (h : ∀ r ∈ rows, RowOk c r) (hne : 0 < rows.length) (n : Int) : ∀ r ∈ growStep rows n, RowOk (c + 6) r := by
  intro r hr
  rcases List.mem_append.mp hr with hr | hr
  · exact (h r hr).mono (by omega)
  · rw [List.mem_singleton.mp hr]
    have hlt : (n % rows.length).toNat < rows.length := by
      have h1 := Int.emod_nonneg n (b := (rows.length : Int)) (by omega)
      have h2 := Int.emod_lt_of_pos n (b := (rows.length : Int)) (by omega)
      omega
    have hm : rows.getD (n % rows.length).toNat (Str.empty, []) ∈ rows := by
      rw [List.getD_eq_getElem?_getD, List.getElem?_eq_getElem hlt]
      exact List.getElem_mem _
    obtain ⟨h1, h2, h3⟩ := h _ hm
    refine ⟨?_, ?_, ?_⟩
    · show (if n / 7 % 5 = 4 then Str.ofString "g" else _) = _ ∨ (if n / 7 % 5 = 4 then Str.ofString "g" else _) = _
      by_cases e : n / 7 % 5 = 4
      · rw [if_pos e]; exact .inr rfl
      · rw [if_neg e]; exact h1
    · intro x hx
      rcases List.mem_append.mp hx with hx | hx
      · exact h2 x (List.mem_of_mem_take hx)
      · exact tailOf_in n x hx
    · have := tailOf_length n
      show (List.length (_ ++ _)) ≤ _
      rw [List.length_append, List.length_take]
      omega
theorem grown_length (ns : List Int) : (grown ns).length = 4 + ns.length := by
  have all : ∀ (ns : List Int) rows, (ns.foldl growStep rows).length = rows.length + ns.length := by
    intro ns
    induction ns with
    | nil => intro rows; rfl
    | cons n r ih => intro rows; rw [List.foldl_cons, ih, growStep, List.length_append, List.length_cons, List.length_cons, List.length_nil]; omega
  rw [grown, all]; rfl
theorem grown_ok (ns : List Int) : ∀ r ∈ grown ns, RowOk (4 + 6 * ns.length) r := by
  have all : ∀ (ns : List Int) c rows, 0 < rows.length → (∀ r ∈ rows, RowOk c r) → ∀ r ∈ ns.foldl growStep rows, RowOk (c + 6 * ns.length) r := by
    intro ns
    induction ns with
    | nil => intro c rows _ h r hr; exact (h r hr).mono (by simp)
    | cons n r ih =>
      intro c rows h0 h x hx
      have := ih (c + 6) (growStep rows n) (by rw [growStep, List.length_append, List.length_singleton]; omega) (growStep_ok h h0 n) x hx
      exact this.mono (by rw [List.length_cons]; omega)
  exact all ns 4 rows0 (by decide) rows0_ok

/-- the ledger bears a row -/
def RowAt (L : List (Addr × Obj)) (v : Value) (r : Str × List Int) : Prop :=
  ∃ a t l vs n, v = .ref a ∧ (a, pairO (.str r.1 t) (.ref l)) ∈ L ∧ (l, listOf (List.toArray vs) n) ∈ L ∧ IntsAre vs r.2
theorem RowAt.mono {L L' : List (Addr × Obj)} {v : Value} {r : Str × List Int} (h : RowAt L v r) (hs : ∀ p ∈ L, p ∈ L') : RowAt L' v r :=
  let ⟨a, t, l, vs, n, e, h1, h2, h3⟩ := h
  ⟨a, t, l, vs, n, e, hs _ h1, hs _ h2, h3⟩
inductive RowsIn (L : List (Addr × Obj)) : List Value → List (Str × List Int) → Prop
  | nil : RowsIn L [] []
  | cons {v r vs rs} : RowAt L v r → RowsIn L vs rs → RowsIn L (v :: vs) (r :: rs)
theorem RowsIn.mono {L L' : List (Addr × Obj)} {vs : List Value} {rs : List (Str × List Int)} (h : RowsIn L vs rs) (hs : ∀ p ∈ L, p ∈ L') : RowsIn L' vs rs := by
  induction h with
  | nil => exact .nil
  | cons h _ ih => exact .cons (h.mono hs) ih
theorem RowsIn.length {L : List (Addr × Obj)} {vs : List Value} {rs : List (Str × List Int)} (h : RowsIn L vs rs) : vs.length = rs.length := by
  induction h with
  | nil => rfl
  | cons _ _ ih => simp [ih]
theorem RowsIn.snoc {L : List (Addr × Obj)} {vs : List Value} {rs : List (Str × List Int)} {v : Value} {r : Str × List Int} (h : RowsIn L vs rs) (hv : RowAt L v r) : RowsIn L (vs ++ [v]) (rs ++ [r]) := by
  induction h with
  | nil => exact .cons hv .nil
  | cons h' _ ih => exact .cons h' ih
theorem RowsIn.get {L : List (Addr × Obj)} {vs : List Value} {rs : List (Str × List Int)} (h : RowsIn L vs rs) : ∀ (k : Nat) r, rs[k]? = some r → ∃ v, vs[k]? = some v ∧ RowAt L v r := by
  induction h with
  | nil => intro k r hr; simp at hr
  | cons h' _ ih =>
    intro k r hr
    cases k with
    | zero => simp at hr; subst hr; exact ⟨_, rfl, h'⟩
    | succ k => simpa using ih k r (by simpa using hr)
theorem RowsIn.get' {L : List (Addr × Obj)} {vs : List Value} {rs : List (Str × List Int)} (h : RowsIn L vs rs) : ∀ (k : Nat) v, vs[k]? = some v → ∃ r, rs[k]? = some r ∧ RowAt L v r := by
  induction h with
  | nil => intro k r hr; simp at hr
  | cons h' _ ih =>
    intro k r hr
    cases k with
    | zero => simp at hr; subst hr; exact ⟨_, rfl, h'⟩
    | succ k => simpa using ih k r (by simpa using hr)

end
section
open PySem PySem.W PyProof.Rows
def GrowJ (rl Lc : Addr) (news : List (Addr × Obj)) (ns : List Int) (i : Nat) (m : Str → Option Value) (nx : List (Addr × Obj)) : Prop :=
  ∃ oc c0 vsR cnt rest, nx = (Lc, oc) :: (rl, listOf (List.toArray vsR) cnt) :: rest ∧ oc.data = .cell c0 ∧ m (Str.ofString "rows") = some (.ref rl) ∧ Lc ≠ rl ∧ (∀ p ∈ rest, p.1 ≠ rl) ∧ (∀ p ∈ rest, p.1 ≠ Lc) ∧ RowsIn rest vsR (grown (ns.take i)) ∧ (∀ p ∈ news, p ∈ rest)
theorem fdivE (a : Int) {b : Int} (h : 0 ≤ b) : a.fdiv b = a / b := Int.fdiv_eq_ediv_of_nonneg a h
theorem fmodE (a : Int) {b : Int} (h : 0 ≤ b) : a.fmod b = a % b := Int.fmod_eq_emod_of_nonneg a h
theorem tail_eq (num : Int) :
    ((rangeKs 0 (1 + (num.fdiv 16).fmod 6 - 0).toNat).map fun k' => if 0 ≤ ((num.fdiv 96).fdiv (8 ^ k'.toNat)).fmod 8 ∧ ((num.fdiv 96).fdiv (8 ^ k'.toNat)).fmod 8 < 8 then ([255, 252, 248, 251, 190, 63, 0, 77] : List Int).getD (((num.fdiv 96).fdiv (8 ^ k'.toNat)).fmod 8).toNat 0 else k') = tailOf num := by
  rw [tailOf, rangeKs, List.map_map, fdivE num (by decide : (0 : Int) ≤ 16), fmodE _ (by decide : (0 : Int) ≤ 6), Int.sub_zero]
  refine List.map_congr_left fun k _ => ?_
  simp only [Function.comp]
  rw [show (0 + (k : Int)).toNat = k by omega, fdivE num (by decide : (0 : Int) ≤ 96), fdivE _ (show (0 : Int) ≤ 8 ^ k from Int.pow_nonneg (by decide)), fmodE _ (by decide : (0 : Int) ≤ 8), if_pos (by omega)]
  rfl
theorem take_eq (o : List Int) : (((o.length : Int).fdiv 3) * 3).toNat = o.length / 3 * 3 := by
  rw [fdivE _ (by decide : (0 : Int) ≤ 3)]; omega
theorem growStep_eq {rows : List (Str × List Int)} {num : Int} {hst : Str} {o : List Int} (e9 : rows[(num.fmod (rows.length : Int)).toNat]? = some (hst, o)) :
    growStep rows num = rows ++ [(if (num.fdiv 7).fmod 5 = 4 then Str.ofString "g" else hst, o.take (((o.length : Int).fdiv 3) * 3).toNat ++ tailOf num)] := by
  rw [fmodE num (Int.natCast_nonneg _)] at e9
  rw [growStep, List.getD_eq_getElem?_getD, e9, take_eq, fdivE num (by decide : (0 : Int) ≤ 7), fmodE _ (by decide : (0 : Int) ≤ 5)]
  rfl
theorem grow_end {g' h' : Heap} {L' Dt Dc Ds Dk I lR Lc : Nat} {hst hs : Str} {th t : Tok} {vc : List Value} {nc cnt tk i : Nat} {num : Int} {o9 : List Int} {oDs oDk oI o' : Obj} {vsR : List Value} {rest news : List (Addr × Obj)} {m : Str → Option Value} {rows : List (Str × List Int)} {ns : List Int} {s₁ : Shared} {Q : Flow → Shared → Prop}
    (F : Fr g' L' h' m) (N : News g' L' h' ((Dt, pairO (.str hs th) (.ref Dc)) :: (Dc, listOf vc.toArray nc) :: (Ds, oDs) :: (Dk, oDk) :: (I, oI) :: (Lc, o') :: (lR, listOf (vsR.toArray.push (.ref Dt)) cnt) :: rest))
    (hm : m (Str.ofString "rows") = some (.ref lR)) (d : o'.data = .cell (some (.int num t)))
    (hi : IntsAre vc (o9.take (((o9.length : Int).fdiv 3) * 3).toNat ++ ((rangeKs 0 (1 + (num.fdiv 16).fmod 6 - 0).toNat).map fun k' => if 0 ≤ ((num.fdiv 96).fdiv (8 ^ k'.toNat)).fmod 8 ∧ ((num.fdiv 96).fdiv (8 ^ k'.toNat)).fmod 8 < 8 then ([255, 252, 248, 251, 190, 63, 0, 77] : List Int).getD (((num.fdiv 96).fdiv (8 ^ k'.toNat)).fmod 8).toNat 0 else k')))
    (e9 : rows[(num.fmod (rows.length : Int)).toNat]? = some (hst, o9)) (hil : i < ns.length) (hnn : ns[i] = num) (hgg : grown (ns.take i) = rows) (hh : hs = if (num.fdiv 7).fmod 5 = 4 then Str.ofString "g" else hst)
    (hI1 : @Ne Nat I Lc) (hI2 : @Ne Nat I lR) (hI3 : ∀ p ∈ rest, p.1 ≠ I) (hLr : @Ne Nat Lc lR) (hr1 : ∀ p ∈ rest, p.1 ≠ lR) (hr2 : ∀ p ∈ rest, p.1 ≠ Lc) (hR : RowsIn rest vsR rows) (hsub : ∀ p ∈ news, p ∈ rest)
    {R1 R2 R3 R4 : Prop} (q1 : I ≠ Dk ∧ Lc ≠ Dk ∧ lR ≠ Dk ∧ R1) (q2 : Dk < Ds ∧ I < Ds ∧ Lc < Ds ∧ lR < Ds ∧ R2) (q3 : Ds < Dc ∧ Dk < Dc ∧ I < Dc ∧ Lc < Dc ∧ lR < Dc ∧ R3) (q4 : Dc < Dt ∧ Ds < Dt ∧ Dk < Dt ∧ I < Dt ∧ Lc < Dt ∧ lR < Dt ∧ R4) :
    PostH g' L' (GrowJ lR Lc news ns (i + 1)) [(I, oI)] s₁ Q .next { s₁ with heap := h', toks := tk } := by
  refine ⟨h', tk, m, (Lc, o') :: (lR, listOf (List.toArray (vsR ++ [.ref Dt])) cnt) :: (Dt, pairO (.str hs th) (.ref Dc)) :: (Dc, listOf vc.toArray nc) :: (Ds, oDs) :: (Dk, oDk) :: rest, rfl, F, ?_, ?_, o', _, vsR ++ [.ref Dt], cnt, (Dt, pairO (.str hs th) (.ref Dc)) :: (Dc, listOf vc.toArray nc) :: (Ds, oDs) :: (Dk, oDk) :: rest, rfl, d, hm, hLr, ?_, ?_, ?_, ?_⟩
  · intro p hp
    have e : vsR.toArray.push (.ref Dt) = List.toArray (vsR ++ [.ref Dt]) := by simp
    rw [e] at N
    refine N p ?_
    simp only [List.mem_cons, List.mem_append, List.not_mem_nil, or_false] at hp ⊢
    rcases hp with hp | hp | hp | hp | hp | hp | hp | hp
    all_goals (repeat (first | exact Or.inl hp | exact hp | refine Or.inr ?_))
  · intro p hp q hq
    rw [List.mem_singleton.mp hq]
    simp only [List.mem_cons] at hp
    rcases hp with rfl | rfl | rfl | rfl | rfl | rfl | hp
    · exact fun e => hI1 e.symm
    · exact fun e => hI2 e.symm
    · exact Nat.ne_of_gt q4.2.2.2.1
    · exact Nat.ne_of_gt q3.2.2.1
    · exact Nat.ne_of_gt q2.2.1
    · exact q1.1.symm
    · exact hI3 _ hp
  · intro p hp
    simp only [List.mem_cons] at hp
    rcases hp with rfl | rfl | rfl | rfl | hp
    · exact Nat.ne_of_gt q4.2.2.2.2.2.1
    · exact Nat.ne_of_gt q3.2.2.2.2.1
    · exact Nat.ne_of_gt q2.2.2.2.1
    · exact q1.2.2.1.symm
    · exact hr1 _ hp
  · intro p hp
    simp only [List.mem_cons] at hp
    rcases hp with rfl | rfl | rfl | rfl | hp
    · exact Nat.ne_of_gt q4.2.2.2.2.1
    · exact Nat.ne_of_gt q3.2.2.2.1
    · exact Nat.ne_of_gt q2.2.2.1
    · exact q1.2.1.symm
    · exact hr2 _ hp
  · have e : grown (ns.take (i + 1)) = rows ++ [(hs, o9.take (((o9.length : Int).fdiv 3) * 3).toNat ++ tailOf num)] := by
      rw [List.take_succ_eq_append_getElem hil, grown_snoc, hgg, hnn, growStep_eq e9, hh]
    rw [e]
    rw [tail_eq] at hi
    refine (hR.mono fun p hp => ?_).snoc ⟨Dt, th, Dc, vc, nc, rfl, List.mem_cons_self, List.mem_cons_of_mem _ List.mem_cons_self, hi⟩
    exact List.mem_cons_of_mem _ (List.mem_cons_of_mem _ (List.mem_cons_of_mem _ (List.mem_cons_of_mem _ hp)))
  · intro p hp
    exact List.mem_cons_of_mem _ (List.mem_cons_of_mem _ (List.mem_cons_of_mem _ (List.mem_cons_of_mem _ (hsub p hp))))

end
section
open PySem PySem.W PyProof.Rows
section
local macro_rules | `(tactic| k_mem) => `(tactic| ((repeat (first | assumption | exact List.mem_cons_self | refine List.mem_cons_of_mem _ ?_ | refine List.mem_append_right _ ?_)); done))
section
variable {prog : Program} {w : World} {A : Around} {E : Value → Shared → Prop} {s : Shared} {r L : Addr} {h₀ : Heap} {ledger rest : List (Addr × Obj)} {vsR : List Value} {cnt : Nat} {Q : Value → Shared → Prop} {value slice : Expr} {k : Int} {u : Tok} {rows : List (Str × List Int)}
theorem len_R (N : News h₀ L s.heap ledger) (hr : (r, listOf vsR.toArray cnt) ∈ ledger) (hR : RowsIn rest vsR rows) (hl : rows.length ≤ 1000) (h : Q (.int rows.length (s.toks + 1)) { s with toks := s.toks + 1 + 1 }) : wpAny (model prog w) A (call (.builtin "len") [.ref r]) Q E s := by
  have e : vsR.toArray.size = rows.length := by simp [hR.length]
  refine len_list (isList_of (N _ hr).1) (by rw [e]; omega) ?_
  rw [e]
  exact h
theorem item_row (N : News h₀ L s.heap ledger) (hr : (r, listOf vsR.toArray cnt) ∈ ledger) (hR : RowsIn rest vsR rows) (h0 : 0 ≤ k) (h1 : k < rows.length) (hl : rows.length ≤ 1000) (hok : ∀ r ∈ rows, RowOk 900 r)
    (h : ∀ a hst t l vs n o, rows[k.toNat]? = some (hst, o) → o.length ≤ 1000 → (a, pairO (.str hst t) (.ref l)) ∈ rest → (l, listOf (List.toArray vs) n) ∈ rest → IntsAre vs o → Q (.ref a) s)
    (hs : subscripted slice false (.ref r) (.int k u) = operate [.ref r, .int k u] (getItem (.ref r) (.int k u)) := by with_unfolding_all rfl) (hg : ∀ q, letTemporaryGo value (.ref r) q = pure () := by intro _; with_unfolding_all rfl) :
    wpAny (model prog w) A (subscriptTail value slice (.ref r) (.int k u)) Q E s := by
  have hlt : k.toNat < rows.length := by omega
  obtain ⟨v, hv, a, t, l, vs, n, rfl, ha, hl', hi⟩ := hR.get k.toNat rows[k.toNat] (by simp [hlt])
  exact item_listL (isList_of (N _ hr).1) h0 (by omega) hv (h a rows[k.toNat].1 t l vs n rows[k.toNat].2 (by simp [hlt]) (Nat.le_trans (hok _ (List.getElem_mem hlt)).2.2 (by decide)) ha hl' hi) hs hg
theorem floordiv_pow8 {k a : Int} {t u : Tok} (h0 : 0 ≤ k) (h1 : k < 6) (h : Q (.int (a.fdiv (8 ^ k.toNat)) s.toks) { s with toks := s.toks + 1 }) : wpAny (model prog w) A (binaryOp .FloorDiv (.int a t) (.int (8 ^ k.toNat) u)) Q E s := by
  obtain ⟨j, rfl⟩ := Int.eq_ofNat_of_zero_le h0
  have hj : j < 6 := by omega
  refine floordiv_int ?_ h (Or.inl (PyProof.noPylong_of_log2 ?_))
  · show (8 : Int) ^ j ≠ 0
    exact Int.pow_ne_zero (by decide)
  · show ((8 : Int) ^ j).natAbs.log2 < 9000
    have all : ∀ j < 6, ((8 : Int) ^ j).natAbs.log2 < 9000 := by decide
    exact all j hj
theorem add_L {r2 : Addr} {v1 v2 : List Value} {n1 n2 : Nat} {o1 o2 : List Int} {m : Str → Option Value} (F : Fr h₀ L s.heap m) (N : News h₀ L s.heap ledger) (h1 : (r, listOf v1.toArray n1) ∈ ledger) (h2 : (r2, listOf v2.toArray n2) ∈ ledger) (i1 : IntsAre v1 o1) (i2 : IntsAre v2 o2) (hl : o1.length ≤ 1000) (hl2 : o2.length ≤ 1000)
    (h : ∀ D vs h', Fr h₀ L h' m → News h₀ L h' ((D, listOf (List.toArray vs) 0) :: ledger) → (∀ p ∈ ledger, p.1 < D) → IntsAre vs (o1 ++ o2) → Q (.ref D) { s with heap := h' }) :
    wpAny (model prog w) A (binaryOp .Add (.ref r) (.ref r2)) Q E s :=
  add_arrays_ints F N (isList_of (N _ h1).1) (isList_of (N _ h2).1) i1 i2 (fun h' F' N' hi => h _ _ h' F' N' (fun p hp => Heap.lt_size (N p hp).1) hi) (by rw [sizeLine_eq]; omega)
theorem rows_size {rest : List (Addr × Obj)} {vsR : List Value} {rows : List (Str × List Int)} (hR : RowsIn rest vsR rows) (hl : rows.length ≤ 1000) : vsR.toArray.size ≤ sizeLine := by
  rw [List.size_toArray, hR.length, sizeLine_eq]; omega
theorem fdiv3_lo {n : Nat} : 0 ≤ (n : Int).fdiv 3 * 3 := by
  have := Int.fdiv_nonneg (a := (n : Int)) (b := 3) (by omega) (by omega)
  omega
theorem fmod_lo' {n : Int} {c : Nat} (h : 0 < c) : 0 ≤ n.fmod (c : Int) := Int.fmod_nonneg_of_pos n (by omega)
theorem fmod_hi' {n : Int} {c : Nat} (h : 0 < c) : n.fmod (c : Int) < c := Int.fmod_lt_of_pos n (by omega)
end
local macro_rules | `(tactic| k_all) => `(tactic| assumption)
theorem grow_start {g' h' : Heap} {L' Lc lA DA lB DB lC DC lD DD lR : Nat} {tA tB tC tD t1 t2 t3 t4 t5 t6 t7 t8 t9 ta tb : Tok} {o0 : Obj} {c0 : Option Value} {m₀ : Str → Option Value} {news : List (Addr × Obj)} {ns : List Int}
    (N : News g' L' h' ((lR, listOf [Value.ref DA, .ref DB, .ref DC, .ref DD].toArray 0) :: (DD, pairO (.str (Str.ofString "h") tD) (.ref lD)) :: (lD, listOf [Value.int 0 t8, .int 16 t9, .int 131 ta, .int 248 tb].toArray 0) :: (DC, pairO (.str (Str.ofString "h") tC) (.ref lC)) ::
      (lC, listOf [Value.int 0 t4, .int 16 t5, .int 131 t6, .int 252 t7].toArray 0) :: (DB, pairO (.str (Str.ofString "h") tB) (.ref lB)) :: (lB, listOf [Value.int 0 t1, .int 16 t2, .int 131 t3].toArray 0) :: (DA, pairO (.str (Str.ofString "h") tA) (.ref lA)) :: (lA, listOf ([] : List Value).toArray 0) :: (Lc, o0) :: news))
    (F : Fr g' L' h' m₀) (d0 : o0.data = .cell c0) (hm : m₀ (Str.ofString "rows") = some (.ref lR)) (h0 : ∀ p ∈ news, @LT.lt Nat _ p.1 Lc) {R1 R2 R3 R4 R5 R6 R7 R8 R9 : Prop} (a1 : Lc < lA ∧ R1) (a2 : lA < DA ∧ Lc < DA ∧ R2) (a3 : DA < lB ∧ lA < lB ∧ Lc < lB ∧ R3) (a4 : lB < DB ∧ DA < DB ∧ lA < DB ∧ Lc < DB ∧ R4) (a5 : DB < lC ∧ lB < lC ∧ DA < lC ∧ lA < lC ∧ Lc < lC ∧ R5) (a6 : lC < DC ∧ DB < DC ∧ lB < DC ∧ DA < DC ∧ lA < DC ∧ Lc < DC ∧ R6) (a7 : DC < lD ∧ lC < lD ∧ DB < lD ∧ lB < lD ∧ DA < lD ∧ lA < lD ∧ Lc < lD ∧ R7) (a8 : lD < DD ∧ DC < DD ∧ lC < DD ∧ DB < DD ∧ lB < DD ∧ DA < DD ∧ lA < DD ∧ Lc < DD ∧ R8) (a9 : DD < lR ∧ lD < lR ∧ DC < lR ∧ lC < lR ∧ DB < lR ∧ lB < lR ∧ DA < lR ∧ lA < lR ∧ Lc < lR ∧ R9) :
    ∃ nx, News g' L' h' nx ∧ GrowJ lR Lc news ns 0 m₀ nx := by
  refine ⟨(Lc, o0) :: (lR, listOf [Value.ref DA, .ref DB, .ref DC, .ref DD].toArray 0) :: (DD, pairO (.str (Str.ofString "h") tD) (.ref lD)) :: (lD, listOf [Value.int 0 t8, .int 16 t9, .int 131 ta, .int 248 tb].toArray 0) :: (DC, pairO (.str (Str.ofString "h") tC) (.ref lC)) :: (lC, listOf [Value.int 0 t4, .int 16 t5, .int 131 t6, .int 252 t7].toArray 0) :: (DB, pairO (.str (Str.ofString "h") tB) (.ref lB)) :: (lB, listOf [Value.int 0 t1, .int 16 t2, .int 131 t3].toArray 0) :: (DA, pairO (.str (Str.ofString "h") tA) (.ref lA)) :: (lA, listOf ([] : List Value).toArray 0) :: news, ?_, o0, c0, [Value.ref DA, .ref DB, .ref DC, .ref DD], 0, _, rfl, d0, hm, Nat.ne_of_lt a9.2.2.2.2.2.2.2.2.1, ?_, ?_, ?_, ?_⟩
  rotate_left
  · intro p hp
    simp only [List.mem_cons] at hp
    rcases hp with rfl | rfl | rfl | rfl | rfl | rfl | rfl | rfl | hp
    · exact Nat.ne_of_lt a9.1
    · exact Nat.ne_of_lt a9.2.1
    · exact Nat.ne_of_lt a9.2.2.1
    · exact Nat.ne_of_lt a9.2.2.2.1
    · exact Nat.ne_of_lt a9.2.2.2.2.1
    · exact Nat.ne_of_lt a9.2.2.2.2.2.1
    · exact Nat.ne_of_lt a9.2.2.2.2.2.2.1
    · exact Nat.ne_of_lt a9.2.2.2.2.2.2.2.1
    · exact Nat.ne_of_lt (Nat.lt_trans (h0 _ hp) a9.2.2.2.2.2.2.2.2.1)
  · intro p hp
    simp only [List.mem_cons] at hp
    rcases hp with rfl | rfl | rfl | rfl | rfl | rfl | rfl | rfl | hp
    · exact Nat.ne_of_gt a8.2.2.2.2.2.2.2.1
    · exact Nat.ne_of_gt a7.2.2.2.2.2.2.1
    · exact Nat.ne_of_gt a6.2.2.2.2.2.1
    · exact Nat.ne_of_gt a5.2.2.2.2.1
    · exact Nat.ne_of_gt a4.2.2.2.1
    · exact Nat.ne_of_gt a3.2.2.1
    · exact Nat.ne_of_gt a2.2.1
    · exact Nat.ne_of_gt a1.1
    · exact Nat.ne_of_lt (h0 _ hp)
  · show RowsIn _ _ rows0
    exact .cons ⟨DA, _, lA, _, _, rfl, by k_mem, by k_mem, .nil⟩ (.cons ⟨DB, _, lB, _, _, rfl, by k_mem, by k_mem, .cons _ _ (.cons _ _ (.cons _ _ .nil))⟩ (.cons ⟨DC, _, lC, _, _, rfl, by k_mem, by k_mem, .cons _ _ (.cons _ _ (.cons _ _ (.cons _ _ .nil)))⟩
      (.cons ⟨DD, _, lD, _, _, rfl, by k_mem, by k_mem, .cons _ _ (.cons _ _ (.cons _ _ (.cons _ _ .nil)))⟩ .nil)))
  · intro p hp
    exact List.mem_cons_of_mem _ (List.mem_cons_of_mem _ (List.mem_cons_of_mem _ (List.mem_cons_of_mem _ (List.mem_cons_of_mem _ (List.mem_cons_of_mem _ (List.mem_cons_of_mem _ (List.mem_cons_of_mem _ hp)))))))
  · intro p hp
    refine N p ?_
    simp only [List.mem_cons] at hp ⊢
    rcases hp with hp | hp | hp | hp | hp | hp | hp | hp | hp | hp | hp
    all_goals (repeat (first | exact Or.inl hp | exact hp | refine Or.inr ?_))
theorem addr_ne {a b : Addr} (h : a ≠ b) : @Ne Nat a b := h
set_option maxRecDepth 100000 in
set_option maxHeartbeats 8000000 in
theorem grown_c (w : World) (ln : Addr) (vs : List Value) (nn : Nat) (ns : List Int) (hi : IntsAre vs ns) (hl : ns.length ≤ 5) (hb : ∀ n ∈ ns, 0 ≤ n ∧ n < 100000000) (news : List (Addr × Obj)) (hln : (ln, listOf vs.toArray nn) ∈ news) :
    Con w 157 2 100 [.ref ln] [] news (fun tl r => ∃ rl cnt vsR, r = .ref rl ∧ (rl, listOf (List.toArray vsR) cnt) ∈ tl ∧ RowsIn tl vsR (grown ns)) := by
  w_top off; unfold Con; k_fill
  intro dp un gd cn cs a ccd cl outer A₀ base h₀ L m s mean mg mb Q E B F X N T hk hd hu hret
  refine wpAny_call ?_
  k_dflt (refine' code_defC ?k1 ?k2 ?k3 ?k4 ?k5 ?kA ?kF ?kK ?k6 ?k7 ?k8 ?k9 ?kB ?kD ?_ ?c2 ?c3 ?c4; (case kA => exact rfl); (case kF => exact rfl); (case kK => first | assumption | exact rfl); (case k1 => k_asm); (case k2 => k_asm); (case k3 => k_asm); (case k4 => k_asm); (case k5 => k_asm); (case k6 => k_is); (case k7 => k_is); (case k8 => ktr_room); (case k9 => first | exact BindsTo.of_eq rfl | exact binds_K (by k_in) rfl (by k_is) rfl rfl rfl); (case kB => exact rfl); (case kD => decide +kernel); (case c2 => exact rfl); (case c3 => exact rfl); (case c4 => exact rfl); k_whole; intro g' L' h' tk' cells' FG' F' N' Y' B' X' T' l1; (try k_lt l1); k_cells Y'; (try simp only [List.cons_append, List.nil_append] at N'); (try dsimp only); (try k_lift B'); (try k_fold))
  repeat' (first | ((fail_if_success (with_reducible show wpAny _ _ (exec (PySem.Stmt.For _ _ _ _ _) _) _ _ _)); first | (k_unfold; (try dsimp only)) | (k_end; wrow_close) | ((with_reducible show wpAny _ _ (call _ _ _) _ _ _); first | (k_here; (with_reducible show wpAny _ _ (call (Value.builtin _) [Value.ref _, _]) _ _ _); k_dflt (refine' append_K (by k_asm) (by k_asm) (by k_upd) ?_ (by exact rows_size (by assumption) (by assumption)); k_whole); intro zh' zF' zN') | ((with_reducible show wpAny _ _ (call (Value.builtin "len") [Value.ref _]) _ _ _); k_dflt (refine' len_R (by k_asm) (by k_mem) (by assumption) (by assumption) ?_; k_whole)) | ((with_reducible show wpAny _ _ (call (Value.builtin "len") [Value.ref _]) _ _ _); k_dflt (refine' len_L (by exact News.get (by k_asm) (by k_mem)) (by assumption) (by first | assumption | (simp only [List.length_take] at *; omega)) ?_; k_whole))) | ((with_reducible show wpAny _ _ (binaryOp _ _ _) _ _ _); first | ((with_reducible show wpAny _ _ (binaryOp _ (Value.ref _) (Value.ref _)) _ _ _); k_dflt (refine' add_L (by k_asm) (by k_asm) (by k_mem) (by k_mem) (by assumption) (by assumption) (by (rw [List.length_take]; omega)) (by (rw [List.length_map, rangeKs_length]; omega)) ?_; k_whole); intro zD9 zws9 zh9 zF9 zN9 zl9 zi9; (try k_lt zl9)) | ((with_reducible show wpAny _ _ (binaryOp _ (Value.int _ _) (Value.int (8 ^ Int.toNat _) _)) _ _ _); k_dflt (refine' floordiv_pow8 (by omega) (by omega) ?_; k_whole))) | ((with_reducible show wpAny _ _ (subscriptTail _ _ _ _) _ _ _); first | ((with_reducible show wpAny _ _ (subscriptTail _ (PySem.Expr.Slice none (some _) none _) (Value.ref _) (Value.ref _)) _ _ _); k_dflt (refine' slice_L (by k_asm) (by k_asm) (by exact News.get (by k_asm) (by k_mem)) (by assumption) (by assumption) (by exact fdiv3_lo) ?_; k_whole); intro zD9 zws9 zh9 zF9 zN9 zl9 zi9; (try k_lt zl9)) | ((with_reducible show wpAny _ _ (subscriptTail _ _ (Value.ref _) (Value.int (Int.fmod _ _) _)) _ _ _); k_dflt (refine' item_row (by k_asm) (by k_mem) (by assumption) (by exact fmod_lo' (by assumption)) (by exact fmod_hi' (by assumption)) (by assumption) (by assumption) ?_; k_whole); intro za9 zhst9 zt9 zl9 zvs9 zn9 zo9 ze9 zel9 zha9 zhl9 zhi9)) | walk1 | (dsimp only; first | ((with_reducible show wpAny _ _ (call _ _ _) _ _ _); first | (k_here; (with_reducible show wpAny _ _ (call (Value.builtin _) [Value.ref _, _]) _ _ _); k_dflt (refine' append_K (by k_asm) (by k_asm) (by k_upd) ?_ (by exact rows_size (by assumption) (by assumption)); k_whole); intro zh' zF' zN') | ((with_reducible show wpAny _ _ (call (Value.builtin "len") [Value.ref _]) _ _ _); k_dflt (refine' len_R (by k_asm) (by k_mem) (by assumption) (by assumption) ?_; k_whole)) | ((with_reducible show wpAny _ _ (call (Value.builtin "len") [Value.ref _]) _ _ _); k_dflt (refine' len_L (by exact News.get (by k_asm) (by k_mem)) (by assumption) (by first | assumption | (simp only [List.length_take] at *; omega)) ?_; k_whole))) | ((with_reducible show wpAny _ _ (binaryOp _ _ _) _ _ _); first | ((with_reducible show wpAny _ _ (binaryOp _ (Value.ref _) (Value.ref _)) _ _ _); k_dflt (refine' add_L (by k_asm) (by k_asm) (by k_mem) (by k_mem) (by assumption) (by assumption) (by (rw [List.length_take]; omega)) (by (rw [List.length_map, rangeKs_length]; omega)) ?_; k_whole); intro zD9 zws9 zh9 zF9 zN9 zl9 zi9; (try k_lt zl9)) | ((with_reducible show wpAny _ _ (binaryOp _ (Value.int _ _) (Value.int (8 ^ Int.toNat _) _)) _ _ _); k_dflt (refine' floordiv_pow8 (by omega) (by omega) ?_; k_whole))) | ((with_reducible show wpAny _ _ (subscriptTail _ _ _ _) _ _ _); first | ((with_reducible show wpAny _ _ (subscriptTail _ (PySem.Expr.Slice none (some _) none _) (Value.ref _) (Value.ref _)) _ _ _); k_dflt (refine' slice_L (by k_asm) (by k_asm) (by exact News.get (by k_asm) (by k_mem)) (by assumption) (by assumption) (by exact fdiv3_lo) ?_; k_whole); intro zD9 zws9 zh9 zF9 zN9 zl9 zi9; (try k_lt zl9)) | ((with_reducible show wpAny _ _ (subscriptTail _ _ (Value.ref _) (Value.int (Int.fmod _ _) _)) _ _ _); k_dflt (refine' item_row (by k_asm) (by k_mem) (by assumption) (by exact fmod_lo' (by assumption)) (by exact fmod_hi' (by assumption)) (by assumption) (by assumption) ?_; k_whole); intro za9 zhst9 zt9 zl9 zvs9 zn9 zo9 ze9 zel9 zha9 zhl9 zhi9)) | walk1) | (leave1; walk_say "STEP leave1"; try dsimp only)) | fail "no step")
  rename_i o0 d0 lA _ x1 DA _ x2 lB _ x3 DB _ x4 lC _ x5 DC _ x6 lD _ x7 DD _ x8 lR _ cR _ F1 N1
  refine For_any ?_
  repeat' (first | ((fail_if_success (with_reducible show wpAny _ _ (pyIter _) _ _ _)); first | (k_unfold; (try dsimp only)) | (k_end; wrow_close) | ((with_reducible show wpAny _ _ (call _ _ _) _ _ _); first | (k_here; (with_reducible show wpAny _ _ (call (Value.builtin _) [Value.ref _, _]) _ _ _); k_dflt (refine' append_K (by k_asm) (by k_asm) (by k_upd) ?_ (by exact rows_size (by assumption) (by assumption)); k_whole); intro zh' zF' zN') | ((with_reducible show wpAny _ _ (call (Value.builtin "len") [Value.ref _]) _ _ _); k_dflt (refine' len_R (by k_asm) (by k_mem) (by assumption) (by assumption) ?_; k_whole)) | ((with_reducible show wpAny _ _ (call (Value.builtin "len") [Value.ref _]) _ _ _); k_dflt (refine' len_L (by exact News.get (by k_asm) (by k_mem)) (by assumption) (by first | assumption | (simp only [List.length_take] at *; omega)) ?_; k_whole))) | ((with_reducible show wpAny _ _ (binaryOp _ _ _) _ _ _); first | ((with_reducible show wpAny _ _ (binaryOp _ (Value.ref _) (Value.ref _)) _ _ _); k_dflt (refine' add_L (by k_asm) (by k_asm) (by k_mem) (by k_mem) (by assumption) (by assumption) (by (rw [List.length_take]; omega)) (by (rw [List.length_map, rangeKs_length]; omega)) ?_; k_whole); intro zD9 zws9 zh9 zF9 zN9 zl9 zi9; (try k_lt zl9)) | ((with_reducible show wpAny _ _ (binaryOp _ (Value.int _ _) (Value.int (8 ^ Int.toNat _) _)) _ _ _); k_dflt (refine' floordiv_pow8 (by omega) (by omega) ?_; k_whole))) | ((with_reducible show wpAny _ _ (subscriptTail _ _ _ _) _ _ _); first | ((with_reducible show wpAny _ _ (subscriptTail _ (PySem.Expr.Slice none (some _) none _) (Value.ref _) (Value.ref _)) _ _ _); k_dflt (refine' slice_L (by k_asm) (by k_asm) (by exact News.get (by k_asm) (by k_mem)) (by assumption) (by assumption) (by exact fdiv3_lo) ?_; k_whole); intro zD9 zws9 zh9 zF9 zN9 zl9 zi9; (try k_lt zl9)) | ((with_reducible show wpAny _ _ (subscriptTail _ _ (Value.ref _) (Value.int (Int.fmod _ _) _)) _ _ _); k_dflt (refine' item_row (by k_asm) (by k_mem) (by assumption) (by exact fmod_lo' (by assumption)) (by exact fmod_hi' (by assumption)) (by assumption) (by assumption) ?_; k_whole); intro za9 zhst9 zt9 zl9 zvs9 zn9 zo9 ze9 zel9 zha9 zhl9 zhi9)) | walk1 | (dsimp only; first | ((with_reducible show wpAny _ _ (call _ _ _) _ _ _); first | (k_here; (with_reducible show wpAny _ _ (call (Value.builtin _) [Value.ref _, _]) _ _ _); k_dflt (refine' append_K (by k_asm) (by k_asm) (by k_upd) ?_ (by exact rows_size (by assumption) (by assumption)); k_whole); intro zh' zF' zN') | ((with_reducible show wpAny _ _ (call (Value.builtin "len") [Value.ref _]) _ _ _); k_dflt (refine' len_R (by k_asm) (by k_mem) (by assumption) (by assumption) ?_; k_whole)) | ((with_reducible show wpAny _ _ (call (Value.builtin "len") [Value.ref _]) _ _ _); k_dflt (refine' len_L (by exact News.get (by k_asm) (by k_mem)) (by assumption) (by first | assumption | (simp only [List.length_take] at *; omega)) ?_; k_whole))) | ((with_reducible show wpAny _ _ (binaryOp _ _ _) _ _ _); first | ((with_reducible show wpAny _ _ (binaryOp _ (Value.ref _) (Value.ref _)) _ _ _); k_dflt (refine' add_L (by k_asm) (by k_asm) (by k_mem) (by k_mem) (by assumption) (by assumption) (by (rw [List.length_take]; omega)) (by (rw [List.length_map, rangeKs_length]; omega)) ?_; k_whole); intro zD9 zws9 zh9 zF9 zN9 zl9 zi9; (try k_lt zl9)) | ((with_reducible show wpAny _ _ (binaryOp _ (Value.int _ _) (Value.int (8 ^ Int.toNat _) _)) _ _ _); k_dflt (refine' floordiv_pow8 (by omega) (by omega) ?_; k_whole))) | ((with_reducible show wpAny _ _ (subscriptTail _ _ _ _) _ _ _); first | ((with_reducible show wpAny _ _ (subscriptTail _ (PySem.Expr.Slice none (some _) none _) (Value.ref _) (Value.ref _)) _ _ _); k_dflt (refine' slice_L (by k_asm) (by k_asm) (by exact News.get (by k_asm) (by k_mem)) (by assumption) (by assumption) (by exact fdiv3_lo) ?_; k_whole); intro zD9 zws9 zh9 zF9 zN9 zl9 zi9; (try k_lt zl9)) | ((with_reducible show wpAny _ _ (subscriptTail _ _ (Value.ref _) (Value.int (Int.fmod _ _) _)) _ _ _); k_dflt (refine' item_row (by k_asm) (by k_mem) (by assumption) (by exact fmod_lo' (by assumption)) (by exact fmod_hi' (by assumption)) (by assumption) (by assumption) ?_; k_whole); intro za9 zhst9 zt9 zl9 zvs9 zn9 zo9 ze9 zel9 zha9 zhl9 zhi9)) | walk1) | (leave1; walk_say "STEP leave1"; try dsimp only)) | fail "no step")
  have h0 : ∀ p ∈ news, @LT.lt Nat _ p.1 (L' + 1) := fun p hp => Nat.lt_succ_of_lt (l1 p hp)
  obtain ⟨nx, N2, J0⟩ := grow_start (ns := ns) N1 F1 d0 (by with_unfolding_all rfl) h0 (by assumption) (by assumption) (by assumption) (by assumption) (by assumption) (by assumption) (by assumption) (by assumption) (by assumption)
  refine forAt_list (its := vs.toArray) (nn := nn) (GrowJ lR (L' + 1) news ns) rfl ?hl ?hJ F1 N2 J0 ?turn ?done
  case hl =>
    obtain ⟨oc, c0, vsR, cnt, rest, rfl, _, _, _, _, _, _, h⟩ := J0
    exact List.mem_cons_of_mem _ (List.mem_cons_of_mem _ (h _ hln))
  case hJ =>
    rintro i m nx ⟨oc, c0, vsR, cnt, rest, rfl, _, _, _, _, _, _, h⟩
    exact List.mem_cons_of_mem _ (List.mem_cons_of_mem _ (h _ hln))
  case turn =>
    rintro i v m₁ nx h tk I oI hv hoff ⟨oc, c0, vsR, cnt, rest, rfl, hoc, hm, hLr, hr1, hr2, hR, hsub⟩ F2 N2
    have hil : i < ns.length := by
      have := (List.getElem?_eq_some_iff.mp (show vs[i]? = some v by simpa using hv)).1
      rw [hi.length] at this
      exact this
    obtain ⟨t, ht⟩ := hi.get i ns[i] (by simp [hil])
    have hv' : v = .int ns[i] t := by
      have h2 : vs[i]? = some v := by simpa using hv
      rw [ht] at h2; exact (Option.some.inj h2).symm
    subst hv'
    have F3 : Fr g' L' h (fun y => if y = Str.ofString "rows" then some (.ref lR) else m₁ y) := by
      have e : (fun y => if y = Str.ofString "rows" then some (Value.ref lR) else m₁ y) = m₁ := funext fun y => by
        by_cases e : y = Str.ofString "rows"
        · rw [if_pos e, e, hm]
        · rw [if_neg e]
      rw [e]; exact F2
    clear F2 F1 N1 hv ht x1 x2 x3 x4 x5 x6 x7 x8 cR h0
    have hI1 : @Ne Nat I (L' + 1) := fun e => hoff _ List.mem_cons_self e.symm
    have hI2 : @Ne Nat I lR := fun e => hoff _ (List.mem_cons_of_mem _ List.mem_cons_self) e.symm
    have hI3 : ∀ p ∈ rest, p.1 ≠ I := fun p hp => hoff p (List.mem_cons_of_mem _ (List.mem_cons_of_mem _ hp))
    have hLr' : @Ne Nat (L' + 1) lR := hLr
    clear hoff
    have hgl : (grown (ns.take i)).length ≤ 1000 := by rw [grown_length, List.length_take]; omega
    have hgp : 0 < (grown (ns.take i)).length := by rw [grown_length]; omega
    have hn := hb ns[i] (List.getElem_mem _)
    have hgo : ∀ r ∈ grown (ns.take i), RowOk 900 r := fun r hr => (grown_ok (ns.take i) r hr).mono (by rw [List.length_take]; omega)
    generalize hnn : ns[i] = num at *
    generalize hgg : grown (ns.take i) = rows at *
    repeat' (first | (k_unfold; (try dsimp only)) | (k_end; wrow_close) | ((with_reducible show wpAny _ _ (call _ _ _) _ _ _); first | (k_here; (with_reducible show wpAny _ _ (call (Value.builtin _) [Value.ref _, _]) _ _ _); k_dflt (refine' append_K (by k_asm) (by k_asm) (by k_upd) ?_ (by exact rows_size (by assumption) (by assumption)); k_whole); intro zh' zF' zN') | ((with_reducible show wpAny _ _ (call (Value.builtin "len") [Value.ref _]) _ _ _); k_dflt (refine' len_R (by k_asm) (by k_mem) (by assumption) (by assumption) ?_; k_whole)) | ((with_reducible show wpAny _ _ (call (Value.builtin "len") [Value.ref _]) _ _ _); k_dflt (refine' len_L (by exact News.get (by k_asm) (by k_mem)) (by assumption) (by first | assumption | (simp only [List.length_take] at *; omega)) ?_; k_whole))) | ((with_reducible show wpAny _ _ (binaryOp _ _ _) _ _ _); first | ((with_reducible show wpAny _ _ (binaryOp _ (Value.ref _) (Value.ref _)) _ _ _); k_dflt (refine' add_L (by k_asm) (by k_asm) (by k_mem) (by k_mem) (by assumption) (by assumption) (by (rw [List.length_take]; omega)) (by (rw [List.length_map, rangeKs_length]; omega)) ?_; k_whole); intro zD9 zws9 zh9 zF9 zN9 zl9 zi9; (try k_lt zl9)) | ((with_reducible show wpAny _ _ (binaryOp _ (Value.int _ _) (Value.int (8 ^ Int.toNat _) _)) _ _ _); k_dflt (refine' floordiv_pow8 (by omega) (by omega) ?_; k_whole))) | ((with_reducible show wpAny _ _ (subscriptTail _ _ _ _) _ _ _); first | ((with_reducible show wpAny _ _ (subscriptTail _ (PySem.Expr.Slice none (some _) none _) (Value.ref _) (Value.ref _)) _ _ _); k_dflt (refine' slice_L (by k_asm) (by k_asm) (by exact News.get (by k_asm) (by k_mem)) (by assumption) (by assumption) (by exact fdiv3_lo) ?_; k_whole); intro zD9 zws9 zh9 zF9 zN9 zl9 zi9; (try k_lt zl9)) | ((with_reducible show wpAny _ _ (subscriptTail _ _ (Value.ref _) (Value.int (Int.fmod _ _) _)) _ _ _); k_dflt (refine' item_row (by k_asm) (by k_mem) (by assumption) (by exact fmod_lo' (by assumption)) (by exact fmod_hi' (by assumption)) (by assumption) (by assumption) ?_; k_whole); intro za9 zhst9 zt9 zl9 zvs9 zn9 zo9 ze9 zel9 zha9 zhl9 zhi9)) | walk1 | (dsimp only; first | ((with_reducible show wpAny _ _ (call _ _ _) _ _ _); first | (k_here; (with_reducible show wpAny _ _ (call (Value.builtin _) [Value.ref _, _]) _ _ _); k_dflt (refine' append_K (by k_asm) (by k_asm) (by k_upd) ?_ (by exact rows_size (by assumption) (by assumption)); k_whole); intro zh' zF' zN') | ((with_reducible show wpAny _ _ (call (Value.builtin "len") [Value.ref _]) _ _ _); k_dflt (refine' len_R (by k_asm) (by k_mem) (by assumption) (by assumption) ?_; k_whole)) | ((with_reducible show wpAny _ _ (call (Value.builtin "len") [Value.ref _]) _ _ _); k_dflt (refine' len_L (by exact News.get (by k_asm) (by k_mem)) (by assumption) (by first | assumption | (simp only [List.length_take] at *; omega)) ?_; k_whole))) | ((with_reducible show wpAny _ _ (binaryOp _ _ _) _ _ _); first | ((with_reducible show wpAny _ _ (binaryOp _ (Value.ref _) (Value.ref _)) _ _ _); k_dflt (refine' add_L (by k_asm) (by k_asm) (by k_mem) (by k_mem) (by assumption) (by assumption) (by (rw [List.length_take]; omega)) (by (rw [List.length_map, rangeKs_length]; omega)) ?_; k_whole); intro zD9 zws9 zh9 zF9 zN9 zl9 zi9; (try k_lt zl9)) | ((with_reducible show wpAny _ _ (binaryOp _ (Value.int _ _) (Value.int (8 ^ Int.toNat _) _)) _ _ _); k_dflt (refine' floordiv_pow8 (by omega) (by omega) ?_; k_whole))) | ((with_reducible show wpAny _ _ (subscriptTail _ _ _ _) _ _ _); first | ((with_reducible show wpAny _ _ (subscriptTail _ (PySem.Expr.Slice none (some _) none _) (Value.ref _) (Value.ref _)) _ _ _); k_dflt (refine' slice_L (by k_asm) (by k_asm) (by exact News.get (by k_asm) (by k_mem)) (by assumption) (by assumption) (by exact fdiv3_lo) ?_; k_whole); intro zD9 zws9 zh9 zF9 zN9 zl9 zi9; (try k_lt zl9)) | ((with_reducible show wpAny _ _ (subscriptTail _ _ (Value.ref _) (Value.int (Int.fmod _ _) _)) _ _ _); k_dflt (refine' item_row (by k_asm) (by k_mem) (by assumption) (by exact fmod_lo' (by assumption)) (by exact fmod_hi' (by assumption)) (by assumption) (by assumption) ?_; k_whole); intro za9 zhst9 zt9 zl9 zvs9 zn9 zo9 ze9 zel9 zha9 zhl9 zhi9)) | walk1) | (leave1; walk_say "STEP leave1"; try dsimp only) | fail "no step")
    all_goals (
      refine grow_end (num := num) (by assumption) (by assumption) ?_ (by assumption) ?_ (by assumption) hil hnn hgg ?_ hI1 hI2 hI3 hLr' hr1 hr2 hR hsub (by assumption) (by assumption) (by assumption) (by assumption)
      · with_unfolding_all rfl
      · first | assumption | exact absurd fdiv3_lo (Int.not_le.mpr (by assumption))
      · first | exact (if_pos (by assumption)).symm | exact (if_neg (by assumption)).symm)
  case done =>
    rintro m₁ nx h tk ⟨oc, c0, vsR, cnt, rest, rfl, hoc, hm, hLr, hr1, hr2, hR, hsub⟩ F2 N2
    have F3 : Fr g' L' h (fun y => if y = Str.ofString "rows" then some (.ref lR) else m₁ y) := by
      have e : (fun y => if y = Str.ofString "rows" then some (Value.ref lR) else m₁ y) = m₁ := funext fun y => by
        by_cases e : y = Str.ofString "rows"
        · rw [if_pos e, e, hm]
        · rw [if_neg e]
      rw [e]; exact F2
    clear F2 F1 N1
    rw [show vs.toArray.size = ns.length by rw [List.size_toArray, hi.length], List.take_length] at hR
    repeat' (first | (k_unfold; (try dsimp only)) | (k_end; wrow_close) | ((with_reducible show wpAny _ _ (call _ _ _) _ _ _); first | (k_here; (with_reducible show wpAny _ _ (call (Value.builtin _) [Value.ref _, _]) _ _ _); k_dflt (refine' append_K (by k_asm) (by k_asm) (by k_upd) ?_ (by exact rows_size (by assumption) (by assumption)); k_whole); intro zh' zF' zN') | ((with_reducible show wpAny _ _ (call (Value.builtin "len") [Value.ref _]) _ _ _); k_dflt (refine' len_R (by k_asm) (by k_mem) (by assumption) (by assumption) ?_; k_whole)) | ((with_reducible show wpAny _ _ (call (Value.builtin "len") [Value.ref _]) _ _ _); k_dflt (refine' len_L (by exact News.get (by k_asm) (by k_mem)) (by assumption) (by first | assumption | (simp only [List.length_take] at *; omega)) ?_; k_whole))) | ((with_reducible show wpAny _ _ (binaryOp _ _ _) _ _ _); first | ((with_reducible show wpAny _ _ (binaryOp _ (Value.ref _) (Value.ref _)) _ _ _); k_dflt (refine' add_L (by k_asm) (by k_asm) (by k_mem) (by k_mem) (by assumption) (by assumption) (by (rw [List.length_take]; omega)) (by (rw [List.length_map, rangeKs_length]; omega)) ?_; k_whole); intro zD9 zws9 zh9 zF9 zN9 zl9 zi9; (try k_lt zl9)) | ((with_reducible show wpAny _ _ (binaryOp _ (Value.int _ _) (Value.int (8 ^ Int.toNat _) _)) _ _ _); k_dflt (refine' floordiv_pow8 (by omega) (by omega) ?_; k_whole))) | ((with_reducible show wpAny _ _ (subscriptTail _ _ _ _) _ _ _); first | ((with_reducible show wpAny _ _ (subscriptTail _ (PySem.Expr.Slice none (some _) none _) (Value.ref _) (Value.ref _)) _ _ _); k_dflt (refine' slice_L (by k_asm) (by k_asm) (by exact News.get (by k_asm) (by k_mem)) (by assumption) (by assumption) (by exact fdiv3_lo) ?_; k_whole); intro zD9 zws9 zh9 zF9 zN9 zl9 zi9; (try k_lt zl9)) | ((with_reducible show wpAny _ _ (subscriptTail _ _ (Value.ref _) (Value.int (Int.fmod _ _) _)) _ _ _); k_dflt (refine' item_row (by k_asm) (by k_mem) (by assumption) (by exact fmod_lo' (by assumption)) (by exact fmod_hi' (by assumption)) (by assumption) (by assumption) ?_; k_whole); intro za9 zhst9 zt9 zl9 zvs9 zn9 zo9 ze9 zel9 zha9 zhl9 zhi9)) | walk1 | (dsimp only; first | ((with_reducible show wpAny _ _ (call _ _ _) _ _ _); first | (k_here; (with_reducible show wpAny _ _ (call (Value.builtin _) [Value.ref _, _]) _ _ _); k_dflt (refine' append_K (by k_asm) (by k_asm) (by k_upd) ?_ (by exact rows_size (by assumption) (by assumption)); k_whole); intro zh' zF' zN') | ((with_reducible show wpAny _ _ (call (Value.builtin "len") [Value.ref _]) _ _ _); k_dflt (refine' len_R (by k_asm) (by k_mem) (by assumption) (by assumption) ?_; k_whole)) | ((with_reducible show wpAny _ _ (call (Value.builtin "len") [Value.ref _]) _ _ _); k_dflt (refine' len_L (by exact News.get (by k_asm) (by k_mem)) (by assumption) (by first | assumption | (simp only [List.length_take] at *; omega)) ?_; k_whole))) | ((with_reducible show wpAny _ _ (binaryOp _ _ _) _ _ _); first | ((with_reducible show wpAny _ _ (binaryOp _ (Value.ref _) (Value.ref _)) _ _ _); k_dflt (refine' add_L (by k_asm) (by k_asm) (by k_mem) (by k_mem) (by assumption) (by assumption) (by (rw [List.length_take]; omega)) (by (rw [List.length_map, rangeKs_length]; omega)) ?_; k_whole); intro zD9 zws9 zh9 zF9 zN9 zl9 zi9; (try k_lt zl9)) | ((with_reducible show wpAny _ _ (binaryOp _ (Value.int _ _) (Value.int (8 ^ Int.toNat _) _)) _ _ _); k_dflt (refine' floordiv_pow8 (by omega) (by omega) ?_; k_whole))) | ((with_reducible show wpAny _ _ (subscriptTail _ _ _ _) _ _ _); first | ((with_reducible show wpAny _ _ (subscriptTail _ (PySem.Expr.Slice none (some _) none _) (Value.ref _) (Value.ref _)) _ _ _); k_dflt (refine' slice_L (by k_asm) (by k_asm) (by exact News.get (by k_asm) (by k_mem)) (by assumption) (by assumption) (by exact fdiv3_lo) ?_; k_whole); intro zD9 zws9 zh9 zF9 zN9 zl9 zi9; (try k_lt zl9)) | ((with_reducible show wpAny _ _ (subscriptTail _ _ (Value.ref _) (Value.int (Int.fmod _ _) _)) _ _ _); k_dflt (refine' item_row (by k_asm) (by k_mem) (by assumption) (by exact fmod_lo' (by assumption)) (by exact fmod_hi' (by assumption)) (by assumption) (by assumption) ?_; k_whole); intro za9 zhst9 zt9 zl9 zvs9 zn9 zo9 ze9 zel9 zha9 zhl9 zhi9)) | walk1) | (leave1; walk_say "STEP leave1"; try dsimp only) | fail "no step")
    refine hret _ ((L' + 1, oc) :: (lR, listOf vsR.toArray cnt) :: rest) _ _ (by assumption) ?_ ⟨lR, cnt, vsR, rfl, List.mem_cons_of_mem _ List.mem_cons_self, hR.mono fun p hp => List.mem_cons_of_mem _ (List.mem_cons_of_mem _ hp)⟩
    intro p hp
    rcases List.mem_append.mp hp with hp | hp
    · exact (by assumption : News _ _ _ _) p hp
    · exact (by assumption : News _ _ _ _) p (List.mem_cons_of_mem _ (List.mem_cons_of_mem _ (hsub p hp)))
end

end
section
open PySem PySem.W PyProof.Rows PySem.Calls PyProof.V PySem.Spec
theorem allObj_mono : ∀ {ws : List (Addr × String)} {k k' : List (Addr × Obj) → Prop}, AllObj ws k → (∀ its, k its → k' its) → AllObj ws k'
  | [], _, _, h, f => f _ h
  | _ :: _, _, _, h, f => fun o ho => allObj_mono (h o ho) fun _ x => f _ x
section
variable {prog : Program} {w : World} {A : Around} {E : Value → Shared → Prop} {s : Shared} {env : Env} {h₀ : Heap} {target : Expr} {body : List Stmt} {Q : Flow → Shared → Prop}
theorem unr_mono {L : Addr} {s₁ s₂ : Shared} {its : List (Addr × Obj)} {r r' : (Str → Option Value) → List (Addr × Obj) → Prop} {f : Flow} (h : UnrPostW h₀ L s₁ its r Q f s₂) (hr : ∀ m n, r m n → r' m n) : UnrPostW h₀ L s₁ its r' Q f s₂ := by
  have fin : UnrEndW h₀ L s₁ its r s₂ → UnrEndW h₀ L s₁ its r' s₂ := fun ⟨h', tk, m', news', e, F, N, o, x⟩ => ⟨h', tk, m', news', e, F, N, o, hr _ _ x⟩
  cases f with
  | ret v => exact h
  | brk => exact h
  | next => exact fin h
  | cont => exact fin h
theorem itemsRest_of {ws : List (Addr × String)} {keep : List (Addr × Obj)} (J : Nat → (Str → Option Value) → List (Addr × Obj) → Prop) (xs : List Itm) {m : Str → Option Value} {news : List (Addr × Obj)} (hJ : J 0 m news)
    (step : ∀ i a m news v h tk, xs[i]? = some a → a.Is v h → J i m news → Fr h₀ env.locals h m → AllObj ws (fun its => News h₀ env.locals h (its ++ news) →
      wpAny (model prog w) A (assign target env v) (fun _ s₂ => wpAny (model prog w) A (execs body env) (UnrPostW h₀ env.locals { s with heap := h, toks := tk } its (fun m' n' => SubL keep n' ∧ J (i + 1) m' n') Q) E s₂) E { s with heap := h, toks := tk }))
    (done : ∀ m news h tk, J xs.length m news → Fr h₀ env.locals h m → News h₀ env.locals h news → Q .next { s with heap := h, toks := tk }) :
    ItemsRest prog w A E h₀ env target body Q s ws keep xs m news := by
  have all : ∀ k i m news, xs.length - i = k → i ≤ xs.length → J i m news → ItemsRest prog w A E h₀ env target body Q s ws keep (xs.drop i) m news := by
    intro k
    induction k with
    | zero =>
      intro i m news hk hi hJ
      have e : i = xs.length := by omega
      subst e
      rw [List.drop_length]
      exact fun h tk F N => done m news h tk hJ F N
    | succ k ih =>
      intro i m news hk hi hJ
      have hlt : i < xs.length := by omega
      rw [List.drop_eq_getElem_cons hlt]
      intro v h tk ha F
      refine allObj_mono (step i _ m news v h tk (List.getElem?_eq_getElem hlt) ha hJ F) fun its x N => wpAny_mono (x N) (fun _ s₂ y => wpAny_mono y (fun f s₃ z => unr_mono z fun m' n' q => ⟨q.1, ih (i + 1) m' n' (by omega) hlt q.2⟩) fun _ _ e => e) fun _ _ e => e
  simpa using all _ 0 m news rfl (Nat.zero_le _) hJ
end
section
open LCp LCg
variable {prog : Program} {w : World} {A : Around} {s : Shared} {h₀ : Heap} {L : Addr} {m : Str → Option Value} {env : Env}
theorem compRestP_of {elt : Expr} {x x₂ : Str} {scope : Scope} {cl : List (Str × Addr)} {S : List (Addr × Obj) → Prop} {P : Nat → Value → Prop} {Fin : List Value → List (Addr × Obj) → Prop} {n : Nat} (J : Nat → List Value → List (Addr × Obj) → Prop)
    (turn : ∀ i ys news v, i < n → J i ys news → P i v → ∃ (t : Addr) (ot : Obj) (v₁ v₂ : Value) (nt : Nat), v = .ref t ∧ (t, ot) ∈ news ∧ ot.cls = .type "tuple" ∧ ot.data = .seq #[v₁, v₂] nt ∧
      ∀ I oI C oC D m₂ h tk (E' : Value → Shared → Prop), NsObj oC m₂ → m₂ x = some v₁ → m₂ x₂ = some v₂ → Fr h₀ L h m → News h₀ L h ((I, oI) :: (C, oC) :: (D, lst ys) :: news) → Off3 I C D news → ((@Ne Nat I C) ∧ (@Ne Nat I D) ∧ (@Ne Nat C D)) →
      wpAny (model prog w) A (eval elt (compEnvC scope cl C env)) (CompEnd h₀ L m { s with heap := h, toks := tk } I oI C oC D (lst ys) S (fun y news' => J (i + 1) (ys ++ [y]) news')) E' { s with heap := h, toks := tk })
    (fin : ∀ ys news, J n ys news → Fin ys news) {news : List (Addr × Obj)} (hJ : J 0 [] news) : CompRestP prog w A h₀ L m env elt x x₂ scope cl s S P Fin n 0 [] news := by
  have all : ∀ k i ys news, i + k = n → J i ys news → CompRestP prog w A h₀ L m env elt x x₂ scope cl s S P Fin k i ys news := by
    intro k
    induction k with
    | zero => intro i ys news e hJ; exact CompRestP.zero (fin _ _ (by rw [← e]; exact hJ))
    | succ k ih =>
      intro i ys news e hJ
      refine CompRestP.succ fun v hv => ?_
      obtain ⟨t, ot, v₁, v₂, nt, h1, h2, h3, h4, h5⟩ := turn i ys news v (by omega) hJ hv
      refine ⟨t, ot, v₁, v₂, nt, h1, h2, h3, h4, fun I oI C oC D m₂ h tk E' a b c d e' f g => wpAny_mono (h5 I oI C oC D m₂ h tk E' a b c d e' f g) (fun y s₂ p => ?_) fun _ _ e => e⟩
      obtain ⟨h', tk', news', q1, q2, q3, q4, q5, q6⟩ := p
      exact ⟨h', tk', news', q1, q2, q3, q4, q5, ih (i + 1) _ _ (by omega) q6⟩
  exact all n 0 [] news (by omega) hJ
end

end
section
open PySem PySem.W PyProof.Rows
theorem news_ne {h₀ h : Heap} {L : Addr} {all : List (Addr × Obj)} (N : News h₀ L h all) {a : Addr} {o : Obj} (ha : (a, o) ∈ all) {p : Addr × Obj} (hp : p ∈ all) (hne : p.2 ≠ o) : p.1 ≠ a := fun e =>
  hne (by have h1 := (N p hp).1; rw [e, (N _ ha).1] at h1; exact (Option.some.inj h1).symm)
def isCell (o : Obj) : Prop := ∃ c, o.data = .cell c
theorem data_ne {o o' : Obj} (h : isCell o) (h' : ∃ its n, o'.data = .seq its n) : o' ≠ o := fun e => by
  obtain ⟨c, hc⟩ := h
  obtain ⟨its, n, h'⟩ := h'
  rw [e, hc] at h'
  cases h'
theorem RowsIn.via {L L' : List (Addr × Obj)} {vs : List Value} {rs : List (Str × List Int)} (h : RowsIn L vs rs) (hs : ∀ p ∈ L, (∃ its n, p.2.data = .seq its n) → p ∈ L') : RowsIn L' vs rs := by
  induction h with
  | nil => exact .nil
  | cons h _ ih =>
    obtain ⟨a, t, l, vs, n, e, h1, h2, h3⟩ := h
    exact .cons ⟨a, t, l, vs, n, e, hs _ h1 ⟨_, _, rfl⟩, hs _ h2 ⟨_, _, rfl⟩, h3⟩ ih
theorem clean {h₀ h : Heap} {L cA cL rl D : Addr} {oA oL oD : Obj} {cnt : Nat} {vsR : List Value} {rows : List (Str × List Int)} {tl news : List (Addr × Obj)} (N : News h₀ L h (tl ++ (D, oD) :: news)) (hA : (cA, oA) ∈ news) (hL : (cL, oL) ∈ news) (dA : isCell oA) (dL : isCell oL)
    (hrl : (rl, listOf vsR.toArray cnt) ∈ tl) (hR : RowsIn tl vsR rows) :
    ∃ rest, News h₀ L h ((cA, oA) :: (cL, oL) :: (rl, listOf vsR.toArray cnt) :: rest) ∧ (∀ p ∈ rest, p.1 ≠ cA) ∧ (∀ p ∈ rest, p.1 ≠ cL) ∧ @Ne Nat rl cA ∧ @Ne Nat rl cL ∧ RowsIn rest vsR rows := by
  have hA' : (cA, oA) ∈ tl ++ (D, oD) :: news := List.mem_append_right _ (List.mem_cons_of_mem _ hA)
  have hL' : (cL, oL) ∈ tl ++ (D, oD) :: news := List.mem_append_right _ (List.mem_cons_of_mem _ hL)
  have offA : ∀ p ∈ tl, (∃ its n, p.2.data = .seq its n) → p.1 ≠ cA := fun p hp hd => news_ne N hA' (List.mem_append_left _ hp) (data_ne dA hd)
  have offL : ∀ p ∈ tl, (∃ its n, p.2.data = .seq its n) → p.1 ≠ cL := fun p hp hd => news_ne N hL' (List.mem_append_left _ hp) (data_ne dL hd)
  have hd : ∀ p ∈ tl.filter (fun p => decide (p.1 ≠ cA ∧ p.1 ≠ cL)), p ∈ tl ∧ p.1 ≠ cA ∧ p.1 ≠ cL := fun p hp => by
    have := List.mem_filter.mp hp
    exact ⟨this.1, by simpa using this.2⟩
  refine ⟨tl.filter (fun p => decide (p.1 ≠ cA ∧ p.1 ≠ cL)), fun p hp => ?_, fun p hp => (hd p hp).2.1, fun p hp => (hd p hp).2.2, offA _ hrl ⟨_, _, rfl⟩, offL _ hrl ⟨_, _, rfl⟩, hR.via fun p hp h => List.mem_filter.mpr ⟨hp, by simpa using ⟨offA p hp h, offL p hp h⟩⟩⟩
  rcases List.mem_cons.mp hp with rfl | hp
  · exact N _ hA'
  rcases List.mem_cons.mp hp with rfl | hp
  · exact N _ hL'
  rcases List.mem_cons.mp hp with rfl | hp
  · exact N _ (List.mem_append_left _ hrl)
  exact N _ (List.mem_append_left _ (hd p hp).1)
theorem nums_len {script : List Int} : ((script.take 5).map fun k => k.fmod (10 ^ (8 : Int).toNat)).length ≤ 5 := by rw [List.length_map, List.length_take]; omega
theorem nums_in {script : List Int} : ∀ n ∈ (script.take 5).map fun k => k.fmod (10 ^ (8 : Int).toNat), 0 ≤ n ∧ n < 100000000 := by
  intro n hn
  obtain ⟨k, _, rfl⟩ := List.mem_map.mp hn
  have e : (10 : Int) ^ (8 : Int).toNat = 100000000 := by decide
  rw [e]
  exact ⟨Int.fmod_nonneg_of_pos _ (by decide), Int.fmod_lt_of_pos _ (by decide)⟩

end
section
open PySem PySem.W PyProof.Rows PySem.Calls PyProof.V PySem.Spec
abbrev tripO (a b c : Value) : Obj := { cls := .type "tuple", data := .seq #[a, b, c] 0 }
def Par (a0 a1 : UInt8) (slash : Int) (lead : Str) : Prop := (a0 = 43 ∧ a1 = 47 ∧ slash = 63 ∧ lead = Str.ofString "") ∨ (a0 = 47 ∧ a1 = 43 ∧ slash = 62 ∧ lead = Str.ofString "/")
def OutJ (cL cA rl x : Addr) (K : List (Addr × Obj)) (m : Str → Option Value) (nx : List (Addr × Obj)) : Prop :=
  ∃ oL oA, nx = (cL, oL) :: (cA, oA) :: K ∧ isCell oL ∧ isCell oA ∧ m (Str.ofString "rows") = some (.ref rl) ∧ m (Str.ofString "manager") = some (.ref x)
section
variable {prog : Program} {w : World} {A : Around} {E : Value → Shared → Prop} {s : Shared} {env : Env} {h₀ : Heap} {target : Expr} {body : List Stmt} {Q : Flow → Shared → Prop} {m : Str → Option Value}
theorem outer_of {T T1 T0 d1 x d cL cA rl : Addr} {o1 ox od oL oA oR : Obj} {base : List (Addr × Obj)} {u1 u2 u3 t1 t2 t3 : Tok} (hh : A.handled = none) (F : Fr h₀ env.locals s.heap m)
    (N : News h₀ env.locals s.heap ((T, ({ cls := .type "tuple", data := .seq #[.ref T0, .ref T1] 0 } : Obj)) :: (T1, tripO (.bytes #[47, 43] u1) (.int 62 u2) (.str (Str.ofString "/") u3)) :: (T0, tripO (.bytes #[43, 47] t1) (.int 63 t2) (.str (Str.ofString "") t3)) :: (d1, o1) :: (x, ox) :: (d, od) :: (cL, oL) :: (cA, oA) :: (rl, oR) :: base))
    (dL : isCell oL) (dA : isCell oA) (hm1 : m (Str.ofString "rows") = some (.ref rl)) (hm2 : m (Str.ofString "manager") = some (.ref x))
    (qL : @Ne Nat T cL ∧ @Ne Nat T1 cL ∧ @Ne Nat T0 cL ∧ @Ne Nat d1 cL ∧ @Ne Nat x cL ∧ @Ne Nat d cL ∧ @Ne Nat rl cL) (qA : @Ne Nat T cA ∧ @Ne Nat T1 cA ∧ @Ne Nat T0 cA ∧ @Ne Nat d1 cA ∧ @Ne Nat x cA ∧ @Ne Nat d cA ∧ @Ne Nat rl cA) (hbL : ∀ p ∈ base, p.1 ≠ cL) (hbA : ∀ p ∈ base, p.1 ≠ cA)
    (step : ∀ K a0 a1 slash lead u1 u2 u3 Tk I oI m₁ oL oA h tk, (∀ p ∈ K, p.1 ≠ cL) → (∀ p ∈ K, p.1 ≠ cA) → (T, ({ cls := .type "tuple", data := .seq #[.ref T0, .ref T1] 0 } : Obj)) ∈ K → (∀ p ∈ base, p ∈ K) → K = (x, ox) :: (d, od) :: (rl, oR) :: (T, ({ cls := .type "tuple", data := .seq #[.ref T0, .ref T1] 0 } : Obj)) :: (T1, tripO (.bytes #[47, 43] u1) (.int 62 u2) (.str (Str.ofString "/") u3)) :: (T0, tripO (.bytes #[43, 47] t1) (.int 63 t2) (.str (Str.ofString "") t3)) :: (d1, o1) :: base →
      Par a0 a1 slash lead → isCell oL → isCell oA → m₁ (Str.ofString "rows") = some (.ref rl) → m₁ (Str.ofString "manager") = some (.ref x) → (∀ p ∈ K, @LT.lt Nat _ p.1 I) → @LT.lt Nat _ cL I → @LT.lt Nat _ cA I → (∃ v1 v2 v3, (Tk, tripO (.bytes #[a0, a1] v1) (.int slash v2) (.str lead v3)) ∈ K) →
      Fr h₀ env.locals h m₁ → News h₀ env.locals h ((I, oI) :: (cL, oL) :: (cA, oA) :: (x, ox) :: (d, od) :: (rl, oR) :: K) →
      wpAny (model prog w) A (assign target env (.ref Tk)) (fun _ s₂ => wpAny (model prog w) A (execs body env) (UnrPostW h₀ env.locals { s with heap := h, toks := tk } [(I, oI)]
        (fun m' n' => SubL [(T, ({ cls := .type "tuple", data := .seq #[.ref T0, .ref T1] 0 } : Obj))] n' ∧ OutJ cL cA rl x K m' n') Q) E s₂) E { s with heap := h, toks := tk })
    (done : ∀ m h tk, Fr h₀ env.locals h m → Q .next { s with heap := h, toks := tk }) :
    wpAny (model prog w) A (pyIter (.ref T)) (fun it s₂ => TurnsAt prog w A h₀ env target body Q E it s₂) E s := by
  let K := (x, ox) :: (d, od) :: (rl, oR) :: (T, ({ cls := .type "tuple", data := .seq #[.ref T0, .ref T1] 0 } : Obj)) :: (T1, tripO (.bytes #[47, 43] u1) (.int 62 u2) (.str (Str.ofString "/") u3)) :: (T0, tripO (.bytes #[43, 47] t1) (.int 63 t2) (.str (Str.ofString "") t3)) :: (d1, o1) :: base
  have N2 : News h₀ env.locals s.heap ((cL, oL) :: (cA, oA) :: K) := by
    intro p hp
    refine N p ?_
    simp only [K, List.mem_cons] at hp ⊢
    rcases hp with hp | hp | hp | hp | hp | hp | hp | hp | hp | hp
    all_goals (repeat (first | exact Or.inl hp | exact hp | refine Or.inr ?_))
  refine iter_tupTurns (lo := ({ cls := .type "tuple", data := .seq #[.ref T0, .ref T1] 0 } : Obj)) (vs := [.ref T0, .ref T1]) hh F N2 (by simp [K]) rfl rfl fun I hI => ?_
  refine itemsRest_of (fun _ m nx => OutJ cL cA rl x K m nx) _ ⟨oL, oA, rfl, dL, dA, hm1, hm2⟩ ?_ ?_
  · rintro i a m₁ news v h tk ha hav ⟨oL, oA, rfl, dL, dA, hm1, hm2⟩ F₁
    intro oI hc N₁
    have hI0 : ∀ p ∈ K, @LT.lt Nat _ p.1 I := fun p hp => hI p (List.mem_cons_of_mem _ (List.mem_cons_of_mem _ hp))
    have N₃ : News h₀ env.locals h ((I, oI) :: (cL, oL) :: (cA, oA) :: (x, ox) :: (d, od) :: (rl, oR) :: K) := by
      intro p hp
      refine N₁ p ?_
      simp only [List.cons_append, List.nil_append, K, List.mem_cons] at hp ⊢
      rcases hp with hp | hp | hp | hp | hp | hp | hp | hp | hp | hp | hp | hp | hp | hp
      all_goals (repeat (first | exact Or.inl hp | exact hp | refine Or.inr ?_))
    have off : ∀ {c : Addr}, (@Ne Nat T c ∧ @Ne Nat T1 c ∧ @Ne Nat T0 c ∧ @Ne Nat d1 c ∧ @Ne Nat x c ∧ @Ne Nat d c ∧ @Ne Nat rl c) → (∀ p ∈ base, p.1 ≠ c) → ∀ p ∈ K, p.1 ≠ c := by
      rintro c ⟨q1, q2, q3, q4, q5, q6, q7⟩ hb p hp
      simp only [K, List.mem_cons] at hp
      rcases hp with rfl | rfl | rfl | rfl | rfl | rfl | rfl | hp
      · exact q5
      · exact q6
      · exact q7
      · exact q1
      · exact q2
      · exact q3
      · exact q4
      · exact hb p hp
    have key : ∀ Tk, v = .ref Tk → (∃ a0 a1 slash lead v1 v2 v3, Par a0 a1 slash lead ∧ (Tk, tripO (.bytes #[a0, a1] v1) (.int slash v2) (.str lead v3)) ∈ K) → _ := fun Tk e ⟨a0, a1, slash, lead, v1, v2, v3, hp, hk⟩ =>
      step K a0 a1 slash lead u1 u2 u3 Tk I oI m₁ oL oA h tk (off qL hbL) (off qA hbA) (by simp [K]) (fun p hp => List.mem_cons_of_mem _ (List.mem_cons_of_mem _ (List.mem_cons_of_mem _ (List.mem_cons_of_mem _ (List.mem_cons_of_mem _ (List.mem_cons_of_mem _ (List.mem_cons_of_mem _ hp))))))) rfl hp dL dA hm1 hm2 hI0 (hI (cL, _) List.mem_cons_self) (hI (cA, _) (List.mem_cons_of_mem _ List.mem_cons_self)) ⟨v1, v2, v3, hk⟩ F₁ N₃
    match i, ha with
    | 0, ha =>
      have e : a = .val (.ref T0) := by simpa using ha.symm
      subst e
      have e : v = .ref T0 := hav
      subst e
      exact key _ rfl ⟨43, 47, 63, _, _, _, _, .inl ⟨rfl, rfl, rfl, rfl⟩, by simp only [K, List.mem_cons]; exact .inr (.inr (.inr (.inr (.inr (.inl rfl)))))⟩
    | 1, ha =>
      have e : a = .val (.ref T1) := by simpa using ha.symm
      subst e
      have e : v = .ref T1 := hav
      subst e
      exact key _ rfl ⟨47, 43, 62, _, _, _, _, .inr ⟨rfl, rfl, rfl, rfl⟩, by simp only [K, List.mem_cons]; exact .inr (.inr (.inr (.inr (.inl rfl))))⟩
    | i + 2, ha => simp at ha
  · rintro m nx h tk _ F' _
    exact done m h tk F'
theorem outer_end {L T cL cA rl x I : Addr} {oT oI oL oA : Obj} {K all : List (Addr × Obj)} {m' : Str → Option Value} {s₁ : Shared} {h' : Heap} {tk : Nat} (F : Fr h₀ L h' m') (N : News h₀ L h' all) (h1 : (I, oI) ∈ all) (h2 : (cL, oL) ∈ all) (h3 : (cA, oA) ∈ all) (hK : ∀ p ∈ K, p ∈ all)
    (dL : isCell oL) (dA : isCell oA) (hm1 : m' (Str.ofString "rows") = some (.ref rl)) (hm2 : m' (Str.ofString "manager") = some (.ref x)) (hI : ∀ p ∈ K, @LT.lt Nat _ p.1 I) (hI1 : @LT.lt Nat _ cL I) (hI2 : @LT.lt Nat _ cA I) (hT : (T, oT) ∈ K) :
    UnrEndW h₀ L s₁ [(I, oI)] (fun m' n' => SubL [(T, oT)] n' ∧ OutJ cL cA rl x K m' n') { s₁ with heap := h', toks := tk } := by
  refine ⟨h', tk, m', (cL, oL) :: (cA, oA) :: K, rfl, F, ?_, ?_, ⟨List.mem_cons_of_mem _ (List.mem_cons_of_mem _ hT), trivial⟩, oL, oA, rfl, dL, dA, hm1, hm2⟩
  · intro p hp
    refine N p ?_
    rcases List.mem_cons.mp hp with rfl | hp
    · exact h1
    rcases List.mem_cons.mp hp with rfl | hp
    · exact h2
    rcases List.mem_cons.mp hp with rfl | hp
    · exact h3
    exact hK p hp
  · intro p hp q hq
    rw [List.mem_singleton.mp hq]
    rcases List.mem_cons.mp hp with rfl | hp
    · exact Nat.ne_of_lt hI1
    rcases List.mem_cons.mp hp with rfl | hp
    · exact Nat.ne_of_lt hI2
    exact Nat.ne_of_lt (hI p hp)
theorem zip_of {elts : List Expr} {k : Nat} {pos : Pos} {l1 l2 : Addr} {xs ys : List Value} {n1 n2 : Nat} {news : List (Addr × Obj)} (M : (Str → Option Value) → Prop) (hh : A.handled = none) (F : Fr h₀ env.locals s.heap m) (N : News h₀ env.locals s.heap news)
    (h1 : (l1, listOf xs.toArray n1) ∈ news) (h2 : (l2, listOf ys.toArray n2) ∈ news) (hM : M m)
    (step : ∀ (i : Nat) x y T I o1 o2 o3 o4 o5 m₁ h tk, xs[i]? = some x → ys[i]? = some y → M m₁ → (∀ p ∈ news, @LT.lt Nat _ p.1 I) → IsTup h T #[x, y] → Fr h₀ env.locals h m₁ → News h₀ env.locals h ((I + 4, o1) :: (I + 2, o2) :: (I + 3, o3) :: (I, o4) :: (I + 1, o5) :: news) →
      wpAny (model prog w) A (assign (.Tuple elts k pos) env (.ref T)) (fun _ s₂ => wpAny (model prog w) A (execs body env) (UnrPostW h₀ env.locals { s with heap := h, toks := tk } [(I + 4, o1), (I + 2, o2), (I + 3, o3), (I, o4), (I + 1, o5)]
        (fun m' n' => SubL [(l1, listOf xs.toArray n1), (l2, listOf ys.toArray n2)] n' ∧ n' = news ∧ M m') Q) E s₂) E { s with heap := h, toks := tk })
    (done : ∀ m h tk, M m → Fr h₀ env.locals h m → News h₀ env.locals h news → Q .next { s with heap := h, toks := tk }) :
    wpAny (model prog w) A (call (.type "zip") [.ref l1, .ref l2]) (fun xv s₁ => wpAny (model prog w) A (pyIter xv) (fun it s₂ => TurnsAt prog w A h₀ env (.Tuple elts k pos) body Q E it s₂) E s₁) E s := by
  refine ktu_zip (xs := xs) (ys := ys) hh F N h1 rfl rfl h2 rfl rfl fun I hI => ?_
  refine itemsRest_of (fun _ m nx => nx = news ∧ M m) _ ⟨rfl, hM⟩ ?_ ?_
  · rintro i a m₁ news' v h tk ha hav ⟨rfl, hM₁⟩ F₁
    intro o1 _ o2 _ o3 _ o4 _ o5 _ N₁
    have hi : i < (zipItems xs ys).length := (List.getElem?_eq_some_iff.mp ha).1
    rw [zipItems_length] at hi
    have hx : xs[i]? = some xs[i] := List.getElem?_eq_getElem (by omega)
    have hy : ys[i]? = some ys[i] := List.getElem?_eq_getElem (by omega)
    rw [zipItems_get xs ys i hx hy] at ha
    have e := Option.some.inj ha
    subst e
    obtain ⟨T, t, rfl, hT⟩ := hav
    exact step i _ _ T I o1 o2 o3 o4 o5 m₁ h tk hx hy hM₁ hI hT F₁ N₁
  · rintro m nx h tk ⟨rfl, hM'⟩ F' N'
    exact done m h tk hM' F' N'
theorem zip_end {L l1 l2 I : Addr} {o1 o2 o3 o4 o5 lo1 lo2 : Obj} {news all : List (Addr × Obj)} {M : (Str → Option Value) → Prop} {m' : Str → Option Value} {s₁ : Shared} {h' : Heap} {tk : Nat} (F : Fr h₀ L h' m') (N : News h₀ L h' all)
    (hs : ∀ p ∈ (I + 4, o1) :: (I + 2, o2) :: (I + 3, o3) :: (I, o4) :: (I + 1, o5) :: news, p ∈ all) (hM : M m') (hI : ∀ p ∈ news, @LT.lt Nat _ p.1 I) (h1 : (l1, lo1) ∈ news) (h2 : (l2, lo2) ∈ news) :
    UnrEndW h₀ L s₁ [(I + 4, o1), (I + 2, o2), (I + 3, o3), (I, o4), (I + 1, o5)] (fun m' n' => SubL [(l1, lo1), (l2, lo2)] n' ∧ n' = news ∧ M m') { s₁ with heap := h', toks := tk } := by
  refine ⟨h', tk, m', news, rfl, F, fun p hp => N p (hs p hp), ?_, ⟨h1, h2, trivial⟩, rfl, hM⟩
  intro p hp q hq
  have := hI p hp
  simp only [List.mem_cons, List.not_mem_nil, or_false] at hq
  rcases hq with rfl | rfl | rfl | rfl | rfl
  all_goals (refine neN ?_; (try dsimp only); omega)
end
theorem fr_know2 {h₀ h : Heap} {L : Addr} {m : Str → Option Value} {n1 n2 : Str} {v1 v2 : Value} (h1 : m n1 = some v1) (h2 : m n2 = some v2) (F : Fr h₀ L h m) : Fr h₀ L h (fun y => if y = n1 then some v1 else if y = n2 then some v2 else m y) := by
  have e : (fun y => if y = n1 then some v1 else if y = n2 then some v2 else m y) = m := funext fun y => by
    by_cases e : y = n1
    · rw [if_pos e, e, h1]
    · rw [if_neg e]
      by_cases e : y = n2
      · rw [if_pos e, e, h2]
      · rw [if_neg e]
  rw [e]; exact F
theorem fr_know {h₀ h : Heap} {L : Addr} {m : Str → Option Value} {n : Str} {v : Value} (hm : m n = some v) (F : Fr h₀ L h m) : Fr h₀ L h (fun y => if y = n then some v else m y) := by
  have e : (fun y => if y = n then some v else m y) = m := funext fun y => by
    by_cases e : y = n
    · rw [if_pos e, e, hm]
    · rw [if_neg e]
  rw [e]; exact F

end
section
open PySem PySem.W PyProof.Rows PySem.Calls PyProof.V PySem.Spec
/-- what b64encode writes of octets -/
def pathB (a0 a1 : UInt8) (o : List Int) : Array UInt8 := trans (mkTab #[43, 47] #[a0, a1]) (byteArr (encBytes o))
def pathS (a0 a1 : UInt8) (o : List Int) : Str := ⟨(pathB a0 a1 o).map (·.toNat)⟩
def pathOf (a0 a1 : UInt8) (lead : Str) (o : List Int) : Str := lead ++ pathS a0 a1 o
theorem pathB_size (a0 a1 : UInt8) (o : List Int) : (pathB a0 a1 o).size ≤ 2 * o.length + 3 := by
  have h := encBytes_length o
  rw [pathB, trans, Array.size_map, byteArr_size]; exact h
theorem mem_ident {t : Array UInt8} {f : UInt8} {v : UInt8} {c : Nat} (ht : ∀ c < 128, (t.getD c 0).toNat < 128) (hv : v.toNat < 128) (hc : c < 128) : ((t.setIfInBounds f.toNat v).getD c 0).toNat < 128 := by
  have h := ht c hc
  simp only [Array.getD_eq_getD_getElem?, Array.getElem?_setIfInBounds] at h ⊢
  split
  · split
    · simpa using hv
    · simp
  · exact h
theorem b64c_ascii {i : Int} (h0 : 0 ≤ i) (h1 : i < 64) : 0 ≤ b64c i ∧ b64c i < 128 := by unfold b64c; (repeat' split) <;> omega
def AscI (l : List Int) : Prop := ∀ n ∈ l, 0 ≤ n ∧ n < 128
theorem AscI.snoc {l : List Int} {i : Int} (h : AscI l) (hi : 0 ≤ i ∧ i < 128) : AscI (l ++ [i]) := by
  intro n hn
  rcases List.mem_append.mp hn with h1 | h1
  · exact h n h1
  · rw [List.mem_singleton.mp h1]; exact hi
def EncA (a : List Int × Int × Int) : Prop := AscI a.1 ∧ (a.2.1 = 0 ∨ (a.2.1 = 2 ∧ 0 ≤ a.2.2 ∧ a.2.2 < 4) ∨ (a.2.1 = 4 ∧ 0 ≤ a.2.2 ∧ a.2.2 < 16))
theorem encA_step {a : List Int × Int × Int} {b : Int} (h : EncA a) (h0 : 0 ≤ b) (h1 : b < 256) : EncA (encStep a b) := by
  obtain ⟨hi, h⟩ := h
  unfold encStep
  rcases h with h | ⟨h, h2, h3⟩ | ⟨h, h2, h3⟩
  · rw [if_pos h]
    exact ⟨hi.snoc (b64c_ascii (by omega) (by omega)), .inr (.inl ⟨rfl, by show 0 ≤ b % 4; omega, by show b % 4 < 4; omega⟩)⟩
  · rw [if_neg (by omega), if_pos h]
    exact ⟨hi.snoc (b64c_ascii (by omega) (by omega)), .inr (.inr ⟨rfl, by show 0 ≤ b % 16; omega, by show b % 16 < 16; omega⟩)⟩
  · rw [if_neg (by omega), if_neg (by omega)]
    refine ⟨?_, .inl rfl⟩
    have := (hi.snoc (b64c_ascii (i := a.2.2 * 4 + b / 64) (by omega) (by omega))).snoc (b64c_ascii (i := b % 64) (by omega) (by omega))
    simpa using this
theorem encA_state {bs : List Int} (h : KBa.In bs) : EncA (encState bs) := by
  have all : ∀ (bs : List Int) a, KBa.In bs → EncA a → EncA (bs.foldl encStep a) := by
    intro bs
    induction bs with
    | nil => intro a _ h; exact h
    | cons b r ih =>
      intro a h h'
      have hb := h b List.mem_cons_self
      exact ih _ (fun n hn => h n (List.mem_cons_of_mem _ hn)) (encA_step h' hb.1 hb.2)
  exact all bs ([], 0, 0) h ⟨(by intro n hn; cases hn), Or.inl rfl⟩
theorem enc_ascii {bs : List Int} (h : KBa.In bs) : AscI (encBytes bs) := by
  obtain ⟨h1, h2⟩ := encA_state h
  unfold encBytes
  split
  · exact ((h1.snoc (b64c_ascii (by omega) (by omega))).snoc (by decide)).snoc (by decide)
  · split
    · exact (h1.snoc (b64c_ascii (by omega) (by omega))).snoc (by decide)
    · exact h1
theorem tab_ascii {a0 a1 : UInt8} {slash : Int} {lead : Str} (hp : Par a0 a1 slash lead) : ∀ c < 128, ((mkTab #[43, 47] #[a0, a1]).getD c 0).toNat < 128 := by
  intro c hc
  rw [mkTab_get _ _ _ _ _ (by omega)]
  revert c
  rcases hp with ⟨rfl, rfl, -, -⟩ | ⟨rfl, rfl, -, -⟩ <;> decide +kernel
theorem pathB_ascii {a0 a1 : UInt8} {slash : Int} {lead : Str} (hp : Par a0 a1 slash lead) {o : List Int} (ho : KBa.In o) : ∀ c ∈ (pathB a0 a1 o).toList, c.toNat < 128 := by
  intro c hc
  have hA := enc_ascii ho
  rw [pathB, trans, byteArr] at hc
  simp only [List.map_toArray, List.mem_map] at hc
  obtain ⟨d, ⟨n, hn, rfl⟩, rfl⟩ := hc
  obtain ⟨h0, h1⟩ := hA n hn
  have e : n.toNat.toUInt8.toNat = n.toNat := by simp; omega
  have hs : n.toNat.toUInt8.toNat < (mkTab #[43, 47] #[a0, a1]).size := by rw [mkTab_size, e]; omega
  have := tab_ascii hp n.toNat (by omega)
  rw [e]
  rw [e] at hs
  rw [Array.getD_eq_getD_getElem?, Array.getElem?_eq_getElem hs] at this ⊢
  exact this
theorem pathOf_ascii {a0 a1 : UInt8} {slash : Int} {lead : Str} (hp : Par a0 a1 slash lead) {o : List Int} (ho : KBa.In o) : Asc (pathOf a0 a1 lead o) := by
  have hl : Asc lead := by
    rcases hp with ⟨-, -, -, rfl⟩ | ⟨-, -, -, rfl⟩ <;> (unfold Asc; decide +kernel)
  intro c hc
  have e : (pathOf a0 a1 lead o).cps.toList = lead.cps.toList ++ (pathS a0 a1 o).cps.toList := Array.toList_append
  rw [e] at hc
  rcases List.mem_append.mp hc with hc | hc
  · exact hl c hc
  · rw [pathS] at hc
    simp only [Array.toList_map, List.mem_map] at hc
    obtain ⟨d, hd, rfl⟩ := hc
    exact pathB_ascii hp ho d hd
theorem pathOf_length {a0 a1 : UInt8} {slash : Int} {lead : Str} (hp : Par a0 a1 slash lead) {o : List Int} (ho : o.length ≤ 400) : (pathOf a0 a1 lead o).length ≤ 1000 := by
  have h := pathB_size a0 a1 o
  have hl : lead.length ≤ 1 := by rcases hp with ⟨-, -, -, rfl⟩ | ⟨-, -, -, rfl⟩ <;> decide +kernel
  have e : (pathOf a0 a1 lead o).length = lead.length + (pathB a0 a1 o).size := by
    show (lead.cps ++ (pathB a0 a1 o).map (·.toNat)).size = _
    rw [Array.size_append, Array.size_map]; rfl
  omega
theorem path_fits {a0 a1 : UInt8} {slash : Int} {lead : Str} (hp : Par a0 a1 slash lead) {o : List Int} (ho : o.length ≤ 400) : lead.length + (pathS a0 a1 o).length ≤ sizeLine := by
  have h := pathOf_length hp ho
  have e : (pathOf a0 a1 lead o).length = lead.length + (pathS a0 a1 o).length := by
    show (lead.cps ++ (pathS a0 a1 o).cps).size = _
    rw [Array.size_append]; rfl
  rw [sizeLine_eq]; omega
section
variable {prog : Program} {w : World} {A : Around} {E : Value → Shared → Prop} {s : Shared}
theorem decode_path {Q : Value → Shared → Prop} {a0 a1 : UInt8} {slash : Int} {lead : Str} {t u : Tok} (hp : Par a0 a1 slash lead) {o : List Int} (ho : KBa.In o) (hl : o.length ≤ 400) (hq : ∀ t' k, Q (.str (pathS a0 a1 o) t') { s with toks := k }) :
    wpAny (model prog w) A (call (.builtin "bytes.decode") [.bytes (pathB a0 a1 o) t, .str (Str.ofString "ascii") u]) Q E s :=
  decode_ascii (pathB_ascii hp ho) (by have := pathB_size a0 a1 o; rw [sizeLine_eq]; omega) hq
theorem make_M {h₀ : Heap} {L D : Addr} {m : Str → Option Value} {ledger : List (Addr × Obj)} {vs : List Value} {n : Nat} {ns : List Int} {Q : Value → Shared → Prop}
    (F : Fr h₀ L s.heap m) (N : News h₀ L s.heap ledger) (hh : A.handled = none) (hm : (D, listOf vs.toArray n) ∈ ledger) (hi : IntsAre vs ns) (hr : KBa.In ns) (hn : ns.length ≤ 400)
    (h : ∀ h' t' k, Fr h₀ L h' m → News h₀ L h' ledger → Q (.bytes (byteArr ns) t') { s with heap := h', toks := k }) : wpAny (model prog w) A (call (.type "bytes") [.ref D]) Q E s :=
  KBa.make_K F N hh ⟨_, (N _ hm).1, rfl, n, rfl⟩ (by simpa using hi) hr (by omega) fun h' t' k F' N' _ => h h' t' k F' N'
end
theorem b64encode_p (w : World) (o : List Int) (ho : KBa.In o) (hl : o.length ≤ 400) (t : Tok) (a0 a1 : UInt8) (t2 : Tok) (news : List (Addr × Obj)) :
    Con w 144 3 24 [.bytes (byteArr o) t, .bytes #[a0, a1] t2] [] news (fun _ r => ∃ t', r = .bytes (pathB a0 a1 o) t') := by
  have h := b64encode_c w (byteArr o) (by rw [byteArr_size]; omega) t a0 a1 t2 news
  rw [KBa.ints_make ho] at h
  exact h
def StrsAre (ys : List Value) (ps : List Str) : Prop := ys.length = ps.length ∧ ∀ (i : Nat) p, ps[i]? = some p → ∃ t, ys[i]? = some (Value.str p t)
theorem StrsAre.nil : StrsAre [] [] := ⟨rfl, fun i p h => by simp at h⟩
theorem StrsAre.snoc {ys : List Value} {ps : List Str} (h : StrsAre ys ps) (p : Str) (t : Tok) : StrsAre (ys ++ [.str p t]) (ps ++ [p]) := by
  refine ⟨by simp [h.1], fun i q hq => ?_⟩
  by_cases hi : i < ps.length
  · rw [List.getElem?_append_left hi] at hq
    obtain ⟨t', ht⟩ := h.2 i q hq
    exact ⟨t', by rw [List.getElem?_append_left (by rw [h.1]; exact hi)]; exact ht⟩
  · have hi' : i < (ps ++ [p]).length := (List.getElem?_eq_some_iff.mp hq).1
    have e : i = ps.length := by simp at hi'; omega
    subst e
    simp at hq
    subst hq
    exact ⟨t, by rw [← h.1]; simp⟩
section
open LCp LCg
variable {prog : Program} {w : World} {A : Around} {s : Shared} {h₀ : Heap} {L : Addr} {m : Str → Option Value} {env : Env}
theorem paths_of {elt : Expr} {x x₂ : Str} {scope : Scope} {cl : List (Str × Addr)} {Fin : Shared → List Value → List (Addr × Obj) → Prop} {rl : Addr} {vsR : List Value} {cnt : Nat} {ledger : List (Addr × Obj)} {rows : List (Str × List Int)}
    (hh : A.handled = none) (F : Fr h₀ L s.heap m) (N : News h₀ L s.heap ledger) (hm : (rl, listOf vsR.toArray cnt) ∈ ledger) (hR : RowsIn ledger vsR rows) (hl : rows.length ≤ 1000) (path : (Str × List Int) → Str)
    (turn : ∀ (i : Nat) r a t l vs n I oI C oC D ys m₂ h tk (E' : Value → Shared → Prop), rows[i]? = some r → (a, pairO (.str r.1 t) (.ref l)) ∈ ledger → (l, listOf (List.toArray vs) n) ∈ ledger → IntsAre vs r.2 → NsObj oC m₂ → m₂ x = some (.str r.1 t) → m₂ x₂ = some (.ref l) → Fr h₀ L h m →
      News h₀ L h ((I, oI) :: (C, oC) :: (D, lst ys) :: ledger) → Off3 I C D ledger → ((@Ne Nat I C) ∧ (@Ne Nat I D) ∧ (@Ne Nat C D)) →
      wpAny (model prog w) A (eval elt (compEnvC scope cl C env)) (fun y s₂ => ∃ h' tk' all t', y = .str (path r) t' ∧ s₂ = { s with heap := h', toks := tk' } ∧ Fr h₀ L h' m ∧ News h₀ L h' all ∧ ∀ p ∈ (I, oI) :: (C, oC) :: (D, lst ys) :: ledger, p ∈ all) E' { s with heap := h, toks := tk })
    (fin : ∀ g ys, StrsAre ys (rows.map path) → Fin { s with heap := g } ys ledger) : SrcLP prog w A h₀ L m env elt x x₂ scope cl Fin (.ref rl) s := by
  refine SrcLP.ledger hh F N hm (rows_size hR hl) fun g => ?_
  have e : vsR.toArray.size = rows.length := by rw [List.size_toArray, hR.length]
  refine compRestP_of (fun i ys nx => nx = ledger ∧ StrsAre ys ((rows.take i).map path)) ?_ ?_ ⟨rfl, by simpa using StrsAre.nil⟩
  · rintro i ys news v hi ⟨rfl, hys⟩ hv
    obtain ⟨r, hr, a, t, l, vs, n, rfl, ha, hl', hvi⟩ := hR.get' i v (by simpa using hv)
    refine ⟨a, _, .str r.1 t, .ref l, 0, rfl, ha, rfl, rfl, ?_⟩
    intro I oI C oC D m₂ h tk E' hC hx hx2 F' N' off ne
    refine wpAny_mono (turn i r a t l vs n I oI C oC D ys m₂ h tk E' hr ha hl' hvi hC hx hx2 F' N' off ne) (fun y s₂ p => ?_) fun _ _ e => e
    obtain ⟨h', tk', all, t', rfl, rfl, F₂, N₂, sub⟩ := p
    refine CompEnd.intro F₂ N₂ _ sub off (.inr ⟨_, hm, rfl, _, rfl⟩) ⟨rfl, ?_⟩
    have hlt : i < rows.length := (List.getElem?_eq_some_iff.mp hr).1
    have er : rows[i] = r := (List.getElem?_eq_some_iff.mp hr).2
    rw [List.take_succ_eq_append_getElem hlt, List.map_append, er]
    exact hys.snoc (path r) t'
  · rintro ys news ⟨rfl, hys⟩
    rw [e, List.take_length] at hys
    exact fin g ys hys
end

end
section
open PySem PySem.W PyProof.Rows
/-- chunks: the induction of the plain law -/
theorem chunks {P : List Int → Prop} (h0 : P []) (h1 : ∀ a, P [a]) (h2 : ∀ a b, P [a, b]) (h3 : ∀ a b c r, P r → P (a :: b :: c :: r)) : ∀ l, P l := by
  have all : ∀ n l, l.length ≤ n → P l := by
    intro n
    induction n with
    | zero => intro l hl; rw [show l = [] from List.eq_nil_of_length_eq_zero (by omega)]; exact h0
    | succ n ih =>
      intro l hl
      match l, hl with
      | [], _ => exact h0
      | [a], _ => exact h1 a
      | [a, b], _ => exact h2 a b
      | a :: b :: c :: r, hl => exact h3 a b c r (ih r (by simp at hl; omega))
  exact fun l => all l.length l (Nat.le_refl _)
theorem encStep_pre (p : List Int) (x : List Int × Int × Int) (b : Int) : encStep (p ++ x.1, x.2) b = (p ++ (encStep x b).1, (encStep x b).2) := by
  unfold encStep
  dsimp only
  split
  · simp
  · split <;> simp
theorem encFold_pre (p : List Int) : ∀ (bs : List Int) (x : List Int × Int × Int), bs.foldl encStep (p ++ x.1, x.2) = (p ++ (bs.foldl encStep x).1, (bs.foldl encStep x).2)
  | [], x => rfl
  | b :: r, x => by
    rw [List.foldl_cons, List.foldl_cons, encStep_pre]
    exact encFold_pre p r (encStep x b)
def quad (a b c : Int) : List Int := [b64c (a / 4), b64c (a % 4 * 16 + b / 16), b64c (b % 16 * 4 + c / 64), b64c (c % 64)]
theorem encState_quad (a b c : Int) (r : List Int) : encState (a :: b :: c :: r) = (quad a b c ++ (encState r).1, (encState r).2) := by
  have e : encState (a :: b :: c :: r) = r.foldl encStep (quad a b c ++ (([] : List Int), (0 : Int), (0 : Int)).1, (([] : List Int), (0 : Int), (0 : Int)).2) := by
    simp [encState, encStep, quad]
  rw [e, encFold_pre]
  rfl
theorem enc_quad (a b c : Int) (r : List Int) : encBytes (a :: b :: c :: r) = quad a b c ++ encBytes r := by
  unfold encBytes
  rw [encState_quad]
  dsimp only
  split
  · simp
  · split <;> simp
theorem enc_nil : encBytes [] = [] := by simp [encBytes, encState]
theorem enc_one (a : Int) : encBytes [a] = [b64c (a / 4), b64c (a % 4 * 16), 61, 61] := by simp [encBytes, encState, encStep]
theorem enc_two (a b : Int) : encBytes [a, b] = [b64c (a / 4), b64c (a % 4 * 16 + b / 16), b64c (b % 16 * 4), 61] := by simp [encBytes, encState, encStep]
theorem b64c_facts : ∀ k < 64, b64c (k : Nat) ≠ 61 ∧ b64v (b64c (k : Nat)) = (k : Int) ∧ 0 ≤ b64c (k : Nat) ∧ b64c (k : Nat) < 128 ∧ b64c (k : Nat) ≠ 61 := by decide +kernel
theorem b64c_at {s : Int} (h0 : 0 ≤ s) (h1 : s < 64) : b64c s ≠ 61 ∧ b64v (b64c s) = s ∧ 0 ≤ b64c s ∧ b64c s < 128 := by
  have h := b64c_facts s.toNat (by omega)
  have e : ((s.toNat : Nat) : Int) = s := by omega
  rw [e] at h
  exact ⟨h.1, h.2.1, h.2.2.1, h.2.2.2.1⟩
theorem b64c_inj {s t : Int} (h0 : 0 ≤ s) (h1 : s < 64) (k0 : 0 ≤ t) (k1 : t < 64) (h : b64c s = b64c t) : s = t := by
  have a := (b64c_at h0 h1).2.1
  have b := (b64c_at k0 k1).2.1
  rw [h, b] at a; exact a.symm
def R (s : Int) : Prop := 0 ≤ s ∧ s < 64
theorem r1 {a : Int} (h : 0 ≤ a ∧ a < 256) : R (a / 4) := by unfold R; omega
theorem r2 {a b : Int} (h : 0 ≤ b ∧ b < 256) : R (a % 4 * 16 + b / 16) := by unfold R; omega
theorem r2' {a : Int} : R (a % 4 * 16) := by unfold R; omega
theorem r3 {b c : Int} (h : 0 ≤ c ∧ c < 256) : R (b % 16 * 4 + c / 64) := by unfold R; omega
theorem r3' {b : Int} : R (b % 16 * 4) := by unfold R; omega
theorem r4 {c : Int} : R (c % 64) := by unfold R; omega
theorem dd1 {a b : Int} (hb : 0 ≤ b ∧ b < 256) : a / 4 * 4 + (a % 4 * 16 + b / 16) / 16 = a := by omega
theorem ff1 {a : Int} : a / 4 * 4 + a % 4 = a := by omega
theorem ff2 {b : Int} (hb : 0 ≤ b ∧ b < 256) : b / 16 % 16 * 16 + b % 16 = b := by omega
theorem ff3 {b c : Int} (hb : 0 ≤ b ∧ b < 256) (hc : 0 ≤ c ∧ c < 256) : b / 16 % 16 * 16 + (b % 16 * 4 + c / 64) / 4 = b := by omega
theorem ff4 {c : Int} (hc : 0 ≤ c ∧ c < 256) : c / 64 % 4 * 64 + c % 64 = c := by omega
/-- the decoder undoes the encoder -/
theorem dec_enc : ∀ (o : List Int), KBa.In o → ∀ out p, ∃ q lc pads, (encBytes o).foldl decStep (out, 0, 0, p) = (out ++ o, q, lc, pads) ∧ (q = 0 ∨ (2 ≤ q ∧ 4 ≤ q + pads)) := by
  have st : ∀ (a : List Int × Int × Int × Int) (s : Int), R s → decStep a (b64c s) = if a.2.1 = 0 then (a.1, 1, s, 0) else if a.2.1 = 1 then (a.1 ++ [a.2.2.1 * 4 + s / 16], 2, s % 16, 0) else if a.2.1 = 2 then (a.1 ++ [a.2.2.1 * 16 + s / 4], 3, s % 4, 0) else (a.1 ++ [a.2.2.1 * 64 + s], 0, 0, 0) := by
    intro a s h0
    obtain ⟨n61, hv, _⟩ := b64c_at h0.1 h0.2
    unfold decStep
    rw [if_neg n61, hv, if_neg (Int.not_le.mpr h0.2)]
  have pad : ∀ (a : List Int × Int × Int × Int), decStep a 61 = (a.1, a.2.1, a.2.2.1, a.2.2.2 + 1) := fun a => by unfold decStep; rw [if_pos rfl]
  intro o
  induction o using chunks with
  | h0 => intro _ out p; exact ⟨0, 0, p, by simp [enc_nil], .inl rfl⟩
  | h1 a =>
    intro hi out p
    have ha := hi a (by simp)
    rw [enc_one]
    refine ⟨2, a % 4 * 16 % 16, 2, ?_, .inr ⟨by decide, by decide⟩⟩
    simp only [List.foldl_cons, List.foldl_nil]
    rw [st _ (a / 4) (r1 ha), st _ (a % 4 * 16) r2', pad, pad]
    simp
    exact ff1
  | h2 a b =>
    intro hi out p
    have ha := hi a (by simp)
    have hb := hi b (by simp)
    rw [enc_two]
    refine ⟨3, b % 16 * 4 % 4, 1, ?_, .inr ⟨by decide, by decide⟩⟩
    simp only [List.foldl_cons, List.foldl_nil]
    rw [st _ (a / 4) (r1 ha), st _ (a % 4 * 16 + b / 16) (r2 hb), st _ (b % 16 * 4) r3', pad]
    simp [dd1 hb]
    exact ff2 hb
  | h3 a b c r ih =>
    intro hi out p
    have ha := hi a (by simp)
    have hb := hi b (by simp)
    have hc := hi c (by simp)
    rw [enc_quad, List.foldl_append]
    obtain ⟨q, lc, pads, e, hq⟩ := ih (fun n hn => hi n (by simp [hn])) (out ++ [a, b, c]) 0
    refine ⟨q, lc, pads, ?_, hq⟩
    have e1 : (quad a b c).foldl decStep (out, 0, 0, p) = (out ++ [a, b, c], 0, 0, 0) := by
      simp only [quad, List.foldl_cons, List.foldl_nil]
      rw [st _ (a / 4) (r1 ha), st _ (a % 4 * 16 + b / 16) (r2 hb), st _ (b % 16 * 4 + c / 64) (r3 hc), st _ (c % 64) r4]
      simp [dd1 hb]
      exact ⟨ff3 hb hc, ff4 hc⟩
    rw [e1, e]
    simp
theorem enc_append : ∀ (o r : List Int), o.length % 3 = 0 → encBytes (o ++ r) = encBytes o ++ encBytes r := by
  intro o
  induction o using chunks with
  | h0 => intro r _; simp [enc_nil]
  | h1 a => intro r h; simp at h
  | h2 a b => intro r h; simp at h
  | h3 a b c r ih =>
    intro r2 h
    rw [List.cons_append, List.cons_append, List.cons_append, enc_quad, enc_quad, ih r2 (by simp at h; omega), List.append_assoc]

end
section
open PySem PySem.W PyProof.Rows
structure Good (f : Int → Nat) (slash : Int) : Prop where
  inj : ∀ s t, 0 ≤ s → s < 64 → 0 ≤ t → t < 64 → f (b64c s) = f (b64c t) → s = t
  no : ∀ s, 0 ≤ s → s < 64 → f (b64c s) ≠ 61
  eq : f 61 = 61
  sl : ∀ s, 0 ≤ s → s < 64 → (f (b64c s) = 47 ↔ s = slash)
section
variable {f : Int → Nat} {slash : Int}
theorem no' {f : Int → Nat} {slash : Int} (G : Good f slash) {s : Int} (h : R s) : f (b64c s) ≠ 61 := G.no s h.1 h.2
theorem inj' {f : Int → Nat} {slash : Int} (G : Good f slash) {s t : Int} (h : R s) (k : R t) (e : f (b64c s) = f (b64c t)) : s = t := G.inj s t h.1 h.2 k.1 k.2 e
theorem quads {a b c a' b' c' : Int} (q1 : a / 4 = a' / 4) (q2 : a % 4 * 16 + b / 16 = a' % 4 * 16 + b' / 16) (q3 : b % 16 * 4 + c / 64 = b' % 16 * 4 + c' / 64) (q4 : c % 64 = c' % 64)
    (hb : 0 ≤ b ∧ b < 256) (hc : 0 ≤ c ∧ c < 256) (hb' : 0 ≤ b' ∧ b' < 256) (hc' : 0 ≤ c' ∧ c' < 256) : a = a' ∧ b = b' ∧ c = c' := by
  have x : a % 4 = a' % 4 ∧ b / 16 = b' / 16 := by clear q1 q3 q4; omega
  have y : b % 16 = b' % 16 ∧ c / 64 = c' / 64 := by clear q1 q2 q4 x; omega
  clear q2 q3
  refine ⟨?_, ?_, ?_⟩
  · clear q4 hb hc hb' hc' y; omega
  · clear q1 q4 hc hc'; omega
  · clear q1 x; omega
theorem in3 {a b c : Int} {r : List Int} (h : KBa.In (a :: b :: c :: r)) : (0 ≤ a ∧ a < 256) ∧ (0 ≤ b ∧ b < 256) ∧ (0 ≤ c ∧ c < 256) ∧ KBa.In r :=
  ⟨h a (by simp), h b (by simp), h c (by simp), fun n hn => h n (by simp [hn])⟩
theorem quad_inj (G : Good f slash) {a b c a' b' c' : Int} (ha : 0 ≤ a ∧ a < 256) (hb : 0 ≤ b ∧ b < 256) (hc : 0 ≤ c ∧ c < 256) (ha' : 0 ≤ a' ∧ a' < 256) (hb' : 0 ≤ b' ∧ b' < 256) (hc' : 0 ≤ c' ∧ c' < 256)
    (e1 : f (b64c (a / 4)) = f (b64c (a' / 4))) (e2 : f (b64c (a % 4 * 16 + b / 16)) = f (b64c (a' % 4 * 16 + b' / 16))) (e3 : f (b64c (b % 16 * 4 + c / 64)) = f (b64c (b' % 16 * 4 + c' / 64))) (e4 : f (b64c (c % 64)) = f (b64c (c' % 64))) : a = a' ∧ b = b' ∧ c = c' := by
  have q1 := inj' G (by first | exact r1 (by assumption) | exact r2 (by assumption) | exact r2' | exact r3 (by assumption) | exact r3' | exact r4) (by first | exact r1 (by assumption) | exact r2 (by assumption) | exact r2' | exact r3 (by assumption) | exact r3' | exact r4) e1
  have q2 := inj' G (by first | exact r1 (by assumption) | exact r2 (by assumption) | exact r2' | exact r3 (by assumption) | exact r3' | exact r4) (by first | exact r1 (by assumption) | exact r2 (by assumption) | exact r2' | exact r3 (by assumption) | exact r3' | exact r4) e2
  have q3 := inj' G (by first | exact r1 (by assumption) | exact r2 (by assumption) | exact r2' | exact r3 (by assumption) | exact r3' | exact r4) (by first | exact r1 (by assumption) | exact r2 (by assumption) | exact r2' | exact r3 (by assumption) | exact r3' | exact r4) e3
  have q4 := inj' G (by first | exact r1 (by assumption) | exact r2 (by assumption) | exact r2' | exact r3 (by assumption) | exact r3' | exact r4) (by first | exact r1 (by assumption) | exact r2 (by assumption) | exact r2' | exact r3 (by assumption) | exact r3' | exact r4) e4
  exact quads q1 q2 q3 q4 hb hc hb' hc'
theorem pre_app (G : Good f slash) : ∀ o1, KBa.In o1 → ∀ o2, KBa.In o2 → o1.length % 3 = 0 → (encBytes o1).map f <+: (encBytes o2).map f → ∃ r, o2 = o1 ++ r := by
  intro o1
  induction o1 using chunks with
  | h0 => intro _ o2 _ _ _; exact ⟨o2, rfl⟩
  | h1 a => intro _ o2 _ h; simp at h
  | h2 a b => intro _ o2 _ h; simp at h
  | h3 a b c r ih =>
    intro i1 o2 i2 hl hp
    obtain ⟨ha, hb, hc, ir⟩ := in3 i1
    rw [enc_quad, List.map_append] at hp
    match o2, i2, hp with
    | [], _, hp => simp [enc_nil, quad] at hp
    | [a'], _, hp =>
      rw [enc_one] at hp
      simp only [quad, List.map_cons, List.map_nil, List.cons_append, List.nil_append, List.cons_prefix_cons, G.eq] at hp
      exact absurd hp.2.2.1 (no' G (by first | exact r1 (by assumption) | exact r2 (by assumption) | exact r2' | exact r3 (by assumption) | exact r3' | exact r4))
    | [a', b'], _, hp =>
      rw [enc_two] at hp
      simp only [quad, List.map_cons, List.map_nil, List.cons_append, List.nil_append, List.cons_prefix_cons, G.eq] at hp
      exact absurd hp.2.2.2.1 (no' G (by first | exact r1 (by assumption) | exact r2 (by assumption) | exact r2' | exact r3 (by assumption) | exact r3' | exact r4))
    | a' :: b' :: c' :: r', i2, hp =>
      obtain ⟨ha', hb', hc', ir'⟩ := in3 i2
      rw [enc_quad, List.map_append] at hp
      simp only [quad, List.map_cons, List.map_nil, List.cons_append, List.nil_append, List.cons_prefix_cons] at hp
      obtain ⟨e1, e2, e3, e4, hp⟩ := hp
      obtain ⟨rfl, rfl, rfl⟩ := quad_inj G ha hb hc ha' hb' hc' e1 e2 e3 e4
      obtain ⟨x, rfl⟩ := ih ir r' ir' (by simp at hl; omega) hp
      exact ⟨x, rfl⟩
theorem pre_not (G : Good f slash) : ∀ o1, KBa.In o1 → ∀ o2, KBa.In o2 → o1.length % 3 ≠ 0 → ¬ ((encBytes o1).map f ++ [47] <+: (encBytes o2).map f) := by
  intro o1
  induction o1 using chunks with
  | h0 => intro _ o2 _ h; simp at h
  | h1 a =>
    intro i1 o2 i2 _ hp
    have ha := i1 a (by simp)
    rw [enc_one] at hp
    match o2, i2, hp with
    | [], _, hp => simp [enc_nil] at hp
    | [a'], _, hp =>
      rw [enc_one] at hp
      simp [List.cons_prefix_cons] at hp
    | [a', b'], i2, hp =>
      have hb' := i2 b' (by simp)
      rw [enc_two] at hp
      simp only [List.map_cons, List.map_nil, List.cons_append, List.nil_append, List.cons_prefix_cons, G.eq] at hp
      exact absurd hp.2.2.1.symm (no' G (by first | exact r1 (by assumption) | exact r2 (by assumption) | exact r2' | exact r3 (by assumption) | exact r3' | exact r4))
    | a' :: b' :: c' :: r', i2, hp =>
      obtain ⟨ha', hb', hc', ir'⟩ := in3 i2
      rw [enc_quad, List.map_append] at hp
      simp only [quad, List.map_cons, List.map_nil, List.cons_append, List.nil_append, List.cons_prefix_cons, G.eq] at hp
      exact absurd hp.2.2.1.symm (no' G (by first | exact r1 (by assumption) | exact r2 (by assumption) | exact r2' | exact r3 (by assumption) | exact r3' | exact r4))
  | h2 a b =>
    intro i1 o2 i2 _ hp
    have ha := i1 a (by simp)
    have hb := i1 b (by simp)
    rw [enc_two] at hp
    match o2, i2, hp with
    | [], _, hp => simp [enc_nil] at hp
    | [a'], _, hp =>
      rw [enc_one] at hp
      simp only [List.map_cons, List.map_nil, List.cons_append, List.nil_append, List.cons_prefix_cons, G.eq] at hp
      exact absurd hp.2.2.1 (no' G (by first | exact r1 (by assumption) | exact r2 (by assumption) | exact r2' | exact r3 (by assumption) | exact r3' | exact r4))
    | [a', b'], i2, hp =>
      rw [enc_two] at hp
      simp [List.cons_prefix_cons] at hp
    | a' :: b' :: c' :: r', i2, hp =>
      obtain ⟨ha', hb', hc', ir'⟩ := in3 i2
      rw [enc_quad, List.map_append] at hp
      simp only [quad, List.map_cons, List.map_nil, List.cons_append, List.nil_append, List.cons_prefix_cons, G.eq] at hp
      exact absurd hp.2.2.2.1.symm (no' G (by first | exact r1 (by assumption) | exact r2 (by assumption) | exact r2' | exact r3 (by assumption) | exact r3' | exact r4))
  | h3 a b c r ih =>
    intro i1 o2 i2 hl hp
    obtain ⟨ha, hb, hc, ir⟩ := in3 i1
    rw [enc_quad, List.map_append] at hp
    match o2, i2, hp with
    | [], _, hp => simp [enc_nil, quad] at hp
    | [a'], _, hp =>
      rw [enc_one] at hp
      simp only [quad, List.map_cons, List.map_nil, List.cons_append, List.nil_append, List.append_assoc, List.cons_prefix_cons, G.eq] at hp
      exact absurd hp.2.2.1 (no' G (by first | exact r1 (by assumption) | exact r2 (by assumption) | exact r2' | exact r3 (by assumption) | exact r3' | exact r4))
    | [a', b'], _, hp =>
      rw [enc_two] at hp
      simp only [quad, List.map_cons, List.map_nil, List.cons_append, List.nil_append, List.append_assoc, List.cons_prefix_cons, G.eq] at hp
      exact absurd hp.2.2.2.1 (no' G (by first | exact r1 (by assumption) | exact r2 (by assumption) | exact r2' | exact r3 (by assumption) | exact r3' | exact r4))
    | a' :: b' :: c' :: r', i2, hp =>
      obtain ⟨ha', hb', hc', ir'⟩ := in3 i2
      rw [enc_quad, List.map_append] at hp
      simp only [quad, List.map_cons, List.map_nil, List.cons_append, List.nil_append, List.append_assoc, List.cons_prefix_cons] at hp
      obtain ⟨e1, e2, e3, e4, hp⟩ := hp
      exact ih ir r' ir' (by simp at hl; omega) hp
theorem enc_inj (G : Good f slash) : ∀ o1, KBa.In o1 → ∀ o2, KBa.In o2 → (encBytes o1).map f = (encBytes o2).map f → o1 = o2 := by
  intro o1
  induction o1 using chunks with
  | h0 =>
    intro _ o2 i2 he
    match o2, i2, he with
    | [], _, _ => rfl
    | [a'], _, he => simp [enc_nil, enc_one] at he
    | [a', b'], _, he => simp [enc_nil, enc_two] at he
    | a' :: b' :: c' :: r', i2, he => rw [enc_quad] at he; simp [enc_nil, quad] at he
  | h1 a =>
    intro i1 o2 i2 he
    have ha := i1 a (by simp)
    match o2, i2, he with
    | [], _, he => simp [enc_nil, enc_one] at he
    | [a'], i2, he =>
      have ha' := i2 a' (by simp)
      rw [enc_one, enc_one] at he
      simp only [List.map_cons, List.map_nil, List.cons.injEq] at he
      have q1 := inj' G (by first | exact r1 (by assumption) | exact r2 (by assumption) | exact r2' | exact r3 (by assumption) | exact r3' | exact r4) (by first | exact r1 (by assumption) | exact r2 (by assumption) | exact r2' | exact r3 (by assumption) | exact r3' | exact r4) he.1
      have q2 := inj' G (by first | exact r1 (by assumption) | exact r2 (by assumption) | exact r2' | exact r3 (by assumption) | exact r3' | exact r4) (by first | exact r1 (by assumption) | exact r2 (by assumption) | exact r2' | exact r3 (by assumption) | exact r3' | exact r4) he.2.1
      rw [show a = a' by omega]
    | [a', b'], i2, he =>
      have hb' := i2 b' (by simp)
      rw [enc_one, enc_two] at he
      simp only [List.map_cons, List.map_nil, List.cons.injEq, G.eq] at he
      exact absurd he.2.2.1.symm (no' G (by first | exact r1 (by assumption) | exact r2 (by assumption) | exact r2' | exact r3 (by assumption) | exact r3' | exact r4))
    | a' :: b' :: c' :: r', i2, he =>
      obtain ⟨ha', hb', hc', ir'⟩ := in3 i2
      rw [enc_one, enc_quad] at he
      simp only [quad, List.map_cons, List.map_nil, List.cons_append, List.nil_append, List.cons.injEq, G.eq] at he
      exact absurd he.2.2.1.symm (no' G (by first | exact r1 (by assumption) | exact r2 (by assumption) | exact r2' | exact r3 (by assumption) | exact r3' | exact r4))
  | h2 a b =>
    intro i1 o2 i2 he
    have ha := i1 a (by simp)
    have hb := i1 b (by simp)
    match o2, i2, he with
    | [], _, he => simp [enc_nil, enc_two] at he
    | [a'], i2, he =>
      rw [enc_one, enc_two] at he
      simp only [List.map_cons, List.map_nil, List.cons.injEq, G.eq] at he
      exact absurd he.2.2.1 (no' G (by first | exact r1 (by assumption) | exact r2 (by assumption) | exact r2' | exact r3 (by assumption) | exact r3' | exact r4))
    | [a', b'], i2, he =>
      have ha' := i2 a' (by simp)
      have hb' := i2 b' (by simp)
      rw [enc_two, enc_two] at he
      simp only [List.map_cons, List.map_nil, List.cons.injEq] at he
      have q1 := inj' G (by first | exact r1 (by assumption) | exact r2 (by assumption) | exact r2' | exact r3 (by assumption) | exact r3' | exact r4) (by first | exact r1 (by assumption) | exact r2 (by assumption) | exact r2' | exact r3 (by assumption) | exact r3' | exact r4) he.1
      have q2 := inj' G (by first | exact r1 (by assumption) | exact r2 (by assumption) | exact r2' | exact r3 (by assumption) | exact r3' | exact r4) (by first | exact r1 (by assumption) | exact r2 (by assumption) | exact r2' | exact r3 (by assumption) | exact r3' | exact r4) he.2.1
      have q3 := inj' G (by first | exact r1 (by assumption) | exact r2 (by assumption) | exact r2' | exact r3 (by assumption) | exact r3' | exact r4) (by first | exact r1 (by assumption) | exact r2 (by assumption) | exact r2' | exact r3 (by assumption) | exact r3' | exact r4) he.2.2.1
      rw [show a = a' by omega, show b = b' by omega]
    | a' :: b' :: c' :: r', i2, he =>
      obtain ⟨ha', hb', hc', ir'⟩ := in3 i2
      rw [enc_two, enc_quad] at he
      simp only [quad, List.map_cons, List.map_nil, List.cons_append, List.nil_append, List.cons.injEq, G.eq] at he
      exact absurd he.2.2.2.1.symm (no' G (by first | exact r1 (by assumption) | exact r2 (by assumption) | exact r2' | exact r3 (by assumption) | exact r3' | exact r4))
  | h3 a b c r ih =>
    intro i1 o2 i2 he
    obtain ⟨ha, hb, hc, ir⟩ := in3 i1
    rw [enc_quad] at he
    match o2, i2, he with
    | [], _, he => simp [enc_nil, quad] at he
    | [a'], _, he =>
      rw [enc_one] at he
      simp only [quad, List.map_append, List.map_cons, List.map_nil, List.cons_append, List.nil_append, List.cons.injEq, G.eq] at he
      exact absurd he.2.2.1 (no' G (by first | exact r1 (by assumption) | exact r2 (by assumption) | exact r2' | exact r3 (by assumption) | exact r3' | exact r4))
    | [a', b'], _, he =>
      rw [enc_two] at he
      simp only [quad, List.map_append, List.map_cons, List.map_nil, List.cons_append, List.nil_append, List.cons.injEq, G.eq] at he
      exact absurd he.2.2.2.1 (no' G (by first | exact r1 (by assumption) | exact r2 (by assumption) | exact r2' | exact r3 (by assumption) | exact r3' | exact r4))
    | a' :: b' :: c' :: r', i2, he =>
      obtain ⟨ha', hb', hc', ir'⟩ := in3 i2
      rw [enc_quad] at he
      simp only [quad, List.map_append, List.map_cons, List.map_nil, List.cons_append, List.nil_append, List.cons.injEq] at he
      obtain ⟨e1, e2, e3, e4, he⟩ := he
      obtain ⟨rfl, rfl, rfl⟩ := quad_inj G ha hb hc ha' hb' hc' e1 e2 e3 e4
      rw [ih ir r' ir' he]
/-- the first sign -/
theorem enc_head {a : Int} {r : List Int} : ∃ t, encBytes (a :: r) = b64c (a / 4) :: t := by
  match r with
  | [] => exact ⟨_, enc_one a⟩
  | [b] => exact ⟨_, enc_two a b⟩
  | b :: c :: r => exact ⟨_, enc_quad a b c r⟩
theorem head47 (G : Good f slash) {r : List Int} (i : KBa.In r) : ([47] <+: (encBytes r).map f) ↔ ∃ a t, r = a :: t ∧ a / 4 = slash := by
  match r, i with
  | [], _ => simp [enc_nil]
  | a :: t, i =>
    have ha := i a (by simp)
    obtain ⟨x, hx⟩ := enc_head (a := a) (r := t)
    rw [hx, List.map_cons, List.cons_prefix_cons]
    have := G.sl (a / 4) (by omega) (by omega)
    constructor
    · rintro ⟨e, _⟩; exact ⟨a, t, rfl, this.mp e.symm⟩
    · rintro ⟨a', t', e, hs⟩
      cases e
      exact ⟨(this.mpr hs).symm, List.nil_prefix⟩
theorem last_not (G : Good f slash) : ∀ o : List Int, o.length % 3 ≠ 0 → ((encBytes o).map f).getLast? = some 61 := by
  intro o
  induction o using chunks with
  | h0 => intro h; simp at h
  | h1 a => intro _; rw [enc_one]; simp [G.eq]
  | h2 a b => intro _; rw [enc_two]; simp [G.eq]
  | h3 a b c r ih =>
    intro h
    have e := ih (by simp at h; omega)
    rw [enc_quad, List.map_append, List.getLast?_append, e]
    rfl
theorem last_three (f : Int → Nat) : ∀ o : List Int, o.length % 3 = 0 → o ≠ [] → ((encBytes o).map f).getLast? = some (f (b64c (o.getLastD 0 % 64))) := by
  intro o
  induction o using chunks with
  | h0 => intro _ h; exact absurd rfl h
  | h1 a => intro h; simp at h
  | h2 a b => intro h; simp at h
  | h3 a b c r ih =>
    intro h _
    rw [enc_quad, List.map_append, List.getLast?_append]
    by_cases hr : r = []
    · subst hr
      simp [enc_nil, quad]
    · rw [ih (by simp at h; omega) hr]
      obtain ⟨x, y, rfl⟩ : ∃ x y, r = x :: y := by
        cases r with
        | nil => exact absurd rfl hr
        | cons x y => exact ⟨x, y, rfl⟩
      simp [List.getLastD]
end

end
section
open PySem PySem.W PyProof.Rows PySem.Calls PyProof.V PySem.Spec PySem.Builtin PySem.Builtin.Str PySem.StrLaws
def fO (a0 a1 : UInt8) (n : Int) : Nat := ((mkTab #[43, 47] #[a0, a1]).getD n.toNat.toUInt8.toNat n.toNat.toUInt8).toNat
def bO (a0 a1 : UInt8) (c : Nat) : Int := (((mkTab #[a0, a1] #[43, 47]).getD c.toUInt8.toNat c.toUInt8).toNat : Int)
theorem pathS_list (a0 a1 : UInt8) (o : List Int) : (pathS a0 a1 o).cps.toList = (encBytes o).map (fO a0 a1) := by
  show _ = (encBytes o).map (fun n => ((mkTab #[43, 47] #[a0, a1]).getD n.toNat.toUInt8.toNat n.toNat.toUInt8).toNat)
  unfold pathS pathB
  generalize mkTab #[43, 47] #[a0, a1] = tab
  simp [trans, byteArr, Function.comp]
theorem pathOf_list (a0 a1 : UInt8) (lead : Str) (o : List Int) : (pathOf a0 a1 lead o).cps.toList = lead.cps.toList ++ (encBytes o).map (fO a0 a1) := by
  rw [← pathS_list]; exact Array.toList_append
def inv2 (c : Nat) : Int := if c = 43 then 63 else if c = 47 then 62 else b64v c
theorem fO_eq {a0 a1 : UInt8} {n : Int} : fO a0 a1 n = (if (47 : UInt8).toNat = n.toNat.toUInt8.toNat then a1 else if (43 : UInt8).toNat = n.toNat.toUInt8.toNat then a0 else n.toNat.toUInt8.toNat.toUInt8).toNat := by
  unfold fO; rw [mkTab_get _ _ _ _ _ (UInt8.toNat_lt _)]
theorem bO_eq {a0 a1 : UInt8} {c : Nat} : bO a0 a1 c = ((if a1.toNat = c.toUInt8.toNat then (47 : UInt8) else if a0.toNat = c.toUInt8.toNat then 43 else c.toUInt8.toNat.toUInt8).toNat : Int) := by
  unfold bO; rw [mkTab_get _ _ _ _ _ (UInt8.toNat_lt _)]
theorem f1_at : ∀ k < 64, b64v (fO 43 47 (b64c (k : Nat)) : Nat) = (k : Int) ∧ fO 43 47 (b64c (k : Nat)) ≠ 61 ∧ bO 43 47 (fO 43 47 (b64c (k : Nat))) = b64c (k : Nat) := by simp only [fO_eq, bO_eq]; decide +kernel
theorem f2_at : ∀ k < 64, inv2 (fO 47 43 (b64c (k : Nat))) = (k : Int) ∧ fO 47 43 (b64c (k : Nat)) ≠ 61 ∧ bO 47 43 (fO 47 43 (b64c (k : Nat))) = b64c (k : Nat) := by simp only [fO_eq, bO_eq]; decide +kernel
theorem f61 : fO 43 47 61 = 61 ∧ fO 47 43 61 = 61 ∧ bO 43 47 61 = 61 ∧ bO 47 43 61 = 61 ∧ fO 43 47 (b64c 63) = 47 ∧ fO 47 43 (b64c 62) = 47 := by simp only [fO_eq, bO_eq]; decide +kernel
theorem nat_of {s : Int} (h0 : 0 ≤ s) (h1 : s < 64) : ∃ k : Nat, k < 64 ∧ s = (k : Int) := ⟨s.toNat, by omega, by omega⟩
theorem good {a0 a1 : UInt8} {slash : Int} {lead : Str} (hp : Par a0 a1 slash lead) : Good (fO a0 a1) slash := by
  rcases hp with ⟨rfl, rfl, rfl, -⟩ | ⟨rfl, rfl, rfl, -⟩
  · have inj : ∀ s t, 0 ≤ s → s < 64 → 0 ≤ t → t < 64 → fO 43 47 (b64c s) = fO 43 47 (b64c t) → s = t := by
      intro s t h0 h1 k0 k1 e
      obtain ⟨k, hk, rfl⟩ := nat_of h0 h1
      obtain ⟨j, hj, rfl⟩ := nat_of k0 k1
      have a := (f1_at k hk).1
      rw [e, (f1_at j hj).1] at a
      exact a.symm
    refine ⟨inj, fun s h0 h1 => ?_, f61.1, fun s h0 h1 => ⟨fun e => inj s 63 h0 h1 (by decide) (by decide) (e.trans f61.2.2.2.2.1.symm), fun e => e ▸ f61.2.2.2.2.1⟩⟩
    obtain ⟨k, hk, rfl⟩ := nat_of h0 h1
    exact (f1_at k hk).2.1
  · have inj : ∀ s t, 0 ≤ s → s < 64 → 0 ≤ t → t < 64 → fO 47 43 (b64c s) = fO 47 43 (b64c t) → s = t := by
      intro s t h0 h1 k0 k1 e
      obtain ⟨k, hk, rfl⟩ := nat_of h0 h1
      obtain ⟨j, hj, rfl⟩ := nat_of k0 k1
      have a := (f2_at k hk).1
      rw [e, (f2_at j hj).1] at a
      exact a.symm
    refine ⟨inj, fun s h0 h1 => ?_, f61.2.1, fun s h0 h1 => ⟨fun e => inj s 62 h0 h1 (by decide) (by decide) (e.trans f61.2.2.2.2.2.symm), fun e => e ▸ f61.2.2.2.2.2⟩⟩
    obtain ⟨k, hk, rfl⟩ := nat_of h0 h1
    exact (f2_at k hk).2.1
theorem back {a0 a1 : UInt8} {slash : Int} {lead : Str} (hp : Par a0 a1 slash lead) : (∀ s, 0 ≤ s → s < 64 → bO a0 a1 (fO a0 a1 (b64c s)) = b64c s) ∧ bO a0 a1 (fO a0 a1 61) = 61 := by
  rcases hp with ⟨rfl, rfl, rfl, -⟩ | ⟨rfl, rfl, rfl, -⟩
  · refine ⟨fun s h0 h1 => ?_, by rw [f61.1, f61.2.2.1]⟩
    obtain ⟨k, hk, rfl⟩ := nat_of h0 h1
    exact (f1_at k hk).2.2
  · refine ⟨fun s h0 h1 => ?_, by rw [f61.2.1, f61.2.2.2.1]⟩
    obtain ⟨k, hk, rfl⟩ := nat_of h0 h1
    exact (f2_at k hk).2.2
theorem back_map {a0 a1 : UInt8} {slash : Int} {lead : Str} (hp : Par a0 a1 slash lead) : ∀ o, KBa.In o → ((encBytes o).map (fO a0 a1)).map (bO a0 a1) = encBytes o := by
  obtain ⟨b1, b2⟩ := back hp
  intro o
  induction o using chunks with
  | h0 => intro _; simp [enc_nil]
  | h1 a =>
    intro i
    have ha := i a (by simp)
    rw [enc_one]
    simp only [List.map_cons, List.map_nil]
    rw [b1 _ (by omega) (by omega), b1 _ (by omega) (by omega), b2]
  | h2 a b =>
    intro i
    have ha := i a (by simp)
    have hb := i b (by simp)
    rw [enc_two]
    simp only [List.map_cons, List.map_nil]
    rw [b1 _ (by omega) (by omega), b1 _ (by omega) (by omega), b1 _ (by omega) (by omega), b2]
  | h3 a b c r ih =>
    intro i
    obtain ⟨ha, hb, hc, ir⟩ := in3 i
    rw [enc_quad, List.map_append, List.map_append, ih ir]
    simp only [quad, List.map_cons, List.map_nil]
    rw [b1 _ (by omega) (by omega), b1 _ (by omega) (by omega), b1 _ (by omega) (by omega), b1 _ (by omega) (by omega)]
theorem starts (x y : Str) : Txt.startswith x y = true ↔ y.cps.toList <+: x.cps.toList := by
  have hl : ∀ z : Str, z.length = z.cps.toList.length := fun z => by simp [Str.length]
  unfold Txt.startswith
  rw [subAt_eq, List.drop_zero, hl, hl, List.prefix_iff_eq_take]
  simp only [Bool.and_eq_true, decide_eq_true_eq, beq_iff_eq, Nat.zero_add]
  constructor
  · rintro ⟨_, h⟩; exact h.symm
  · intro h
    refine ⟨?_, h.symm⟩
    have := congrArg List.length h
    rw [List.length_take] at this
    omega
theorem slice_last (p : Str) : Txt.slice p (some (-1)) none = Str.ofString "/" ↔ p.cps.toList.getLast? = some 47 := by
  have hl : p.length = p.cps.toList.length := by simp [Str.length]
  by_cases h0 : p.length = 0
  · have e : p.cps.toList = [] := List.eq_nil_of_length_eq_zero (by omega)
    have ep : p = ⟨#[]⟩ := Str.ext' (by rw [← Array.toList_inj]; simpa using e)
    rw [e, ep]
    simp only [List.getLast?_nil, reduceCtorEq, iff_false]
    decide +kernel
  · have e : Txt.slice p (some (-1)) none = sliceText p (some ((p.length - 1 : Nat) : Int)) (some (p.length : Int)) := by
      have e1 : strSliceIndices (some (-1)) none 1 p.length = strSliceIndices (some ((p.length - 1 : Nat) : Int)) (some (p.length : Int)) 1 p.length := by
        rw [sliceIdx_neg_lo none p.length (by decide) (by omega), sliceIdx_none_hi]
        congr 2
        omega
      unfold Txt.slice sliceText
      rw [e1]
    rw [e, sliceText_nat p (by omega) (Nat.le_refl _)]
    have hnil : p.cps.toList ≠ [] := by intro h; rw [h] at hl; exact h0 hl
    have e2 : ∀ l : List Nat, (hn : l ≠ []) → (l.drop (l.length - 1)).take (l.length - (l.length - 1)) = [l.getLast hn] := by
      intro l hn
      have hpos : 0 < l.length := List.length_pos_iff.mpr hn
      rw [List.drop_eq_getElem_cons (by omega : l.length - 1 < l.length), show l.length - (l.length - 1) = 1 by omega, List.take_succ_cons, List.take_zero, List.getLast_eq_getElem]
    rw [hl, e2 _ hnil, List.getLast?_eq_some_getLast hnil]
    generalize p.cps.toList.getLast _ = z
    constructor
    · intro h
      have h' := congrArg (fun s : Str => s.cps.toList) h
      have e3 : (Str.ofString "/").cps.toList = [47] := by decide +kernel
      simp only [e3] at h'
      simpa using h'
    · intro h
      have : z = 47 := by simpa using h
      subst this
      decide +kernel
theorem slice_at {x y : Str} (h : y.cps.toList <+: x.cps.toList) : (Txt.slice x (some (y.length : Int)) none).cps.toList = x.cps.toList.drop y.cps.toList.length := by
  have hl : ∀ z : Str, z.length = z.cps.toList.length := fun z => by simp [Str.length]
  have hle := h.length_le
  have e : Txt.slice x (some (y.length : Int)) none = sliceText x (some (y.length : Int)) (some (x.length : Int)) := by
    unfold Txt.slice sliceText
    rw [sliceIdx_none_hi]
  rw [e, sliceText_nat x (by rw [hl, hl]; exact hle) (Nat.le_refl _), hl, hl]
  show List.take _ (List.drop _ _) = _
  rw [List.take_of_length_le (by rw [List.length_drop]; exact Nat.le_refl _)]
theorem mod3 (o : List Int) : 0 < (o.length : Int).fmod 3 ↔ o.length % 3 ≠ 0 := by
  rw [fmodE _ (by decide : (0 : Int) ≤ 3)]; omega
theorem below_app {h1 h2 lead : Str} {o1 o2 : List Int} {slash : Int} (hb : below h1 o1 h2 o2 slash lead = true) : encBytes o2 = encBytes o1 ++ encBytes (o2.drop o1.length) ∧ o2 = o1 ++ o2.drop o1.length := by
  unfold below at hb
  split at hb
  · rename_i h
    obtain ⟨-, rfl⟩ := h
    simp [enc_nil]
  split at hb
  · cases hb
  split at hb
  · cases hb
  rename_i h3
  split at hb
  · cases hb
  rename_i h4
  have h3' : o1.length % 3 = 0 := by
    have := mt (mod3 o1).mpr h3
    omega
  have h4' : o2.take o1.length = o1 := by simpa using h4
  have e : o2 = o1 ++ o2.drop o1.length := by
    conv => lhs; rw [← List.take_append_drop o1.length o2, h4']
  refine ⟨?_, e⟩
  rw [← enc_append _ _ h3', ← e]
theorem plain_dec {a0 a1 : UInt8} {slash : Int} {lead : Str} (hp : Par a0 a1 slash lead) {o1 o2 : List Int} (i1 : KBa.In o1) (i2 : KBa.In o2) {h1 h2 : Str} (hb : below h1 o1 h2 o2 slash lead = true) :
    ∃ q lc pads, decState (KBw.bInts (trans (mkTab #[a0, a1] #[43, 47]) ((Txt.slice (pathOf a0 a1 lead o2) (some ((pathOf a0 a1 lead o1).length : Int)) none).cps.map (·.toUInt8)))) = (o2.drop (o1.length : Int).toNat, q, lc, pads) ∧ (q = 0 ∨ (2 ≤ q ∧ 4 ≤ q + pads)) := by
  obtain ⟨e1, e2⟩ := below_app hb
  have ir : KBa.In (o2.drop o1.length) := fun n hn => i2 n (List.mem_of_mem_drop hn)
  have hx : (pathOf a0 a1 lead o2).cps.toList = (pathOf a0 a1 lead o1).cps.toList ++ (encBytes (o2.drop o1.length)).map (fO a0 a1) := by
    rw [pathOf_list, pathOf_list, e1, List.map_append, List.append_assoc]
  have hs := slice_at (x := pathOf a0 a1 lead o2) (y := pathOf a0 a1 lead o1) (by rw [hx]; exact List.prefix_append _ _)
  rw [hx, List.drop_left] at hs
  have ht : ∀ z : Str, KBw.bInts (trans (mkTab #[a0, a1] #[43, 47]) (z.cps.map (·.toUInt8))) = z.cps.toList.map (bO a0 a1) := by
    intro z
    show _ = z.cps.toList.map (fun c => (((mkTab #[a0, a1] #[43, 47]).getD c.toUInt8.toNat c.toUInt8).toNat : Int))
    generalize mkTab #[a0, a1] #[43, 47] = tab
    simp [KBw.bInts, trans, Function.comp]
  rw [ht, hs, back_map hp _ ir]
  obtain ⟨q, lc, pads, e, hq⟩ := dec_enc _ ir [] 0
  refine ⟨q, lc, pads, ?_, hq⟩
  rw [decState, e, List.nil_append]
  rfl
theorem plain_sub {a0 a1 : UInt8} {slash : Int} {lead : Str} (hp : Par a0 a1 slash lead) {o1 o2 : List Int} (i1 : KBa.In o1) (i2 : KBa.In o2) (h1 h2 : Str) :
    isSub h1 (pathOf a0 a1 lead o1) h2 (pathOf a0 a1 lead o2) = below h1 o1 h2 o2 slash lead := by
  have G := good hp
  have hpath : pathOf a0 a1 lead o1 = pathOf a0 a1 lead o2 ↔ o1 = o2 := by
    constructor
    · intro e
      have e' := congrArg (fun s : Str => s.cps.toList) e
      simp only [pathOf_list, List.append_cancel_left_eq] at e'
      exact enc_inj G o1 i1 o2 i2 e'
    · rintro rfl; rfl
  have slash1 : (Str.ofString "/").cps.toList = [47] := by decide +kernel
  have st1 : Txt.startswith (pathOf a0 a1 lead o2) (pathOf a0 a1 lead o1) = true ↔ (encBytes o1).map (fO a0 a1) <+: (encBytes o2).map (fO a0 a1) := by
    rw [starts, pathOf_list, pathOf_list, List.prefix_append_right_inj]
  have st2 : Txt.startswith (pathOf a0 a1 lead o2) (pathOf a0 a1 lead o1 ++ Str.ofString "/") = true ↔ (encBytes o1).map (fO a0 a1) ++ [47] <+: (encBytes o2).map (fO a0 a1) := by
    have e : (pathOf a0 a1 lead o1 ++ Str.ofString "/").cps.toList = (pathOf a0 a1 lead o1).cps.toList ++ (Str.ofString "/").cps.toList := Array.toList_append
    rw [starts, e, pathOf_list, pathOf_list, slash1, List.append_assoc, List.prefix_append_right_inj]
  have sl : (Txt.slice (pathOf a0 a1 lead o1) (some (-1)) none != Str.ofString "/") = true ↔ (lead.cps.toList ++ (encBytes o1).map (fO a0 a1)).getLast? ≠ some 47 := by
    rw [bne_iff_ne, ne_eq, slice_last, pathOf_list]
  unfold isSub below
  simp only [hpath]
  by_cases c1 : h1 = h2 ∧ o1 = o2
  · rw [if_pos c1, if_pos c1]
  rw [if_neg c1, if_neg c1]
  by_cases c2 : (h1 != h2) = true
  · rw [if_pos c2, if_pos c2]
  rw [if_neg c2, if_neg c2]
  have hh : h1 = h2 := by simpa using c2
  by_cases c3 : 0 < (o1.length : Int).fmod 3
  · rw [if_pos c3]
    have c3' := (mod3 o1).mp c3
    have hl := last_not G o1 c3'
    rw [if_pos (sl.mpr (by rw [List.getLast?_append, hl]; simp))]
    exact Bool.eq_false_iff.mpr fun h => pre_not G o1 i1 o2 i2 c3' (st2.mp h)
  rw [if_neg c3]
  have c3' : o1.length % 3 = 0 := by have := mt (mod3 o1).mpr c3; omega
  by_cases c4 : o2.take (o1.length : Int).toNat = o1
  · rw [if_neg (show ¬¬ (o2.take (o1.length : Int).toNat = o1) from fun n => n c4)]
    have c4' : o2.take o1.length = o1 := by simpa using c4
    have e2 : o2 = o1 ++ o2.drop o1.length := by
      conv => lhs; rw [← List.take_append_drop o1.length o2, c4']
    have e1 : encBytes o2 = encBytes o1 ++ encBytes (o2.drop o1.length) := by rw [← enc_append _ _ c3', ← e2]
    have ir : KBa.In (o2.drop o1.length) := fun n hn => i2 n (List.mem_of_mem_drop hn)
    have hne : o2.drop o1.length ≠ [] := by
      intro h
      rw [h, List.append_nil] at e2
      exact c1 ⟨hh, e2.symm⟩
    have pre : (encBytes o1).map (fO a0 a1) <+: (encBytes o2).map (fO a0 a1) := by rw [e1, List.map_append]; exact List.prefix_append _ _
    have next : Txt.startswith (pathOf a0 a1 lead o2) (pathOf a0 a1 lead o1 ++ Str.ofString "/") = ((o2.getD (o1.length : Int).toNat 0).fdiv 4 == slash) := by
      obtain ⟨x, y, hxy⟩ : ∃ x y, o2.drop o1.length = x :: y := by
        cases h : o2.drop o1.length with
        | nil => exact absurd h hne
        | cons x y => exact ⟨x, y, rfl⟩
      have hg : o2.getD (o1.length : Int).toNat 0 = x := by
        have : o2[o1.length]? = some x := by
          have h := congrArg (fun l : List Int => l[0]?) hxy
          simpa using h
        rw [List.getD_eq_getElem?_getD, Int.toNat_natCast, this]; rfl
      rw [hg, fdivE _ (by decide : (0 : Int) ≤ 4), Bool.eq_iff_iff, st2, e1, List.map_append, List.prefix_append_right_inj, head47 G ir, hxy, beq_iff_eq]
      constructor
      · rintro ⟨a, t, e, h⟩; cases e; exact h
      · intro h; exact ⟨x, y, rfl, h⟩
    by_cases c5 : o1 = []
    · rw [if_pos (show decide (o1 = []) = true by simpa using c5)]
      subst c5
      rcases hp with ⟨rfl, rfl, rfl, rfl⟩ | ⟨rfl, rfl, rfl, rfl⟩
      · rw [if_neg (show ¬ (Str.ofString "" == Str.ofString "/") = true by decide), if_pos (sl.mpr (by rw [enc_nil]; decide +kernel))]
        exact next
      · rw [if_pos (show (Str.ofString "/" == Str.ofString "/") = true by decide), if_neg (fun h => sl.mp h (by rw [enc_nil]; decide +kernel))]
        exact st1.mpr pre
    · rw [if_neg (show ¬ decide (o1 = []) = true by simpa using c5)]
      have hl := last_three (fO a0 a1) o1 c3' c5
      have hlast : 0 ≤ o1.getLastD 0 % 64 ∧ o1.getLastD 0 % 64 < 64 := by omega
      have hs := G.sl _ hlast.1 hlast.2
      rw [fmodE _ (by decide : (0 : Int) ≤ 64)]
      by_cases c6 : o1.getLastD 0 % 64 = slash
      · rw [if_pos c6, if_neg (fun h => sl.mp h (by rw [List.getLast?_append, hl]; show some (fO a0 a1 _) = some 47; rw [hs.mpr c6]))]
        exact st1.mpr pre
      · rw [if_neg c6, if_pos (sl.mpr (by rw [List.getLast?_append, hl]; show some (fO a0 a1 _) ≠ some 47; exact fun h => c6 (hs.mp (Option.some.inj h))))]
        exact next
  · rw [if_pos (show ¬ (o2.take (o1.length : Int).toNat = o1) from c4)]
    have no : ¬ ((encBytes o1).map (fO a0 a1) <+: (encBytes o2).map (fO a0 a1)) := by
      intro h
      obtain ⟨r, rfl⟩ := pre_app G o1 i1 o2 i2 c3' h
      exact c4 (by simp)
    split
    · exact Bool.eq_false_iff.mpr fun h => no ((List.prefix_append _ _).trans (st2.mp h))
    · exact Bool.eq_false_iff.mpr fun h => no (st1.mp h)

end
section
open PySem PySem.W PyProof.Rows PySem.Calls PyProof.V PySem.Spec
theorem slice_asc {x : Str} (h : Asc x) (l u : Option Int) : Asc (Txt.slice x l u) := by
  intro c hc
  unfold Txt.slice at hc
  split at hc
  · exact h c hc
  · simp only [List.mem_filterMap] at hc
    obtain ⟨i, _, hi⟩ := hc
    exact h c (by rw [Array.getElem?_eq_some_iff] at hi; obtain ⟨hlt, rfl⟩ := hi; exact Array.getElem_mem_toList hlt)
theorem b64decode_p (w : World) {a0 a1 : UInt8} {slash : Int} {lead : Str} (hp : Par a0 a1 slash lead) {o1 o2 : List Int} (i1 : KBa.In o1) (i2 : KBa.In o2) (l2 : o2.length ≤ 400) {h1 h2 : Str} (hb : below h1 o1 h2 o2 slash lead = true) (t t2 : Tok) (news : List (Addr × Obj)) :
    Con w 152 3 24 [.str (Txt.slice (pathOf a0 a1 lead o2) (some ((pathOf a0 a1 lead o1).length : Int)) none) t, .bytes #[a0, a1] t2] [] news (fun _ r => ∃ t', r = .bytes (byteArr (o2.drop (o1.length : Int).toNat)) t') := by
  obtain ⟨q, lc, pads, hd9, hq⟩ := plain_dec hp i1 i2 hb
  exact b64decode_c w _ t (slice_asc (pathOf_ascii hp i2) _ _) (by have := Txt.slice_le (pathOf a0 a1 lead o2) (some ((pathOf a0 a1 lead o1).length : Int)) none; have := pathOf_length hp l2; omega) a0 a1 t2 q lc pads _ hd9 hq news
section
variable {prog : Program} {w : World} {A : Around} {E : Value → Shared → Prop} {s : Shared} {h₀ : Heap} {L : Addr} {m : Str → Option Value} {news : List (Addr × Obj)} {r : Addr} {vs : List Value} {ns : List Int} {n : Nat} {k : Int} {u : Tok} {value slice : Expr} {Q : Value → Shared → Prop}
theorem slice_D (F : Fr h₀ L s.heap m) (N : News h₀ L s.heap news) (hr : s.heap.get? r = some (listOf vs.toArray n)) (i : IntsAre vs ns) (hl : ns.length ≤ 1000) (hk : 0 ≤ k)
    (h : ∀ D ws h', Fr h₀ L h' m → News h₀ L h' ((D, listOf (List.toArray ws) 0) :: news) → (∀ p ∈ news, p.1 < D) → IntsAre ws (ns.drop k.toNat) → Q (.ref D) { s with heap := h' })
    (hs : subscripted slice false (.ref r) (.ref s.heap.objs.size) = operate [.ref s.heap.objs.size, .ref r] (getItem (.ref r) (.ref s.heap.objs.size)) := by with_unfolding_all rfl) (ht : ∀ q, letTemporaryGo value (.ref r) q = pure () := by intro _; with_unfolding_all rfl) :
    wpAny (model prog w) A (subscriptTail value slice (.ref r) (.ref s.heap.objs.size)) Q E { s with heap := s.heap.push { cls := .type "slice", data := .fields #[.int k u, .none, .none] } } :=
  kmk_slice_ints (c := (ns.drop k.toNat).length) F N (isList_of hr) (.int _ _) .none i (kmk_from i hk) rfl (fun D ws h' F' N' l1 hI _ _ => h D ws h' F' N' l1 hI) hs ht (by rw [List.size_toArray, i.length, sizeLine_eq]; omega)
end
theorem ne_same {prog : Program} {w : World} {A : Around} {E : Value → Shared → Prop} {s : Shared} {b : Array UInt8} {t u : Tok} {Q : Value → Shared → Prop} (h : Q (.bool false) s) : wpAny (model prog w) A (compareOp .NotEq (.bytes b t) (.bytes b u)) Q E s :=
  ne_bytes (by rw [bne_self_eq_false]; exact h)
theorem fr_know4 {h₀ h : Heap} {L : Addr} {m : Str → Option Value} {n1 n2 n3 n4 : Str} {v1 v2 v3 v4 : Value} (h1 : m n1 = some v1) (h2 : m n2 = some v2) (h3 : m n3 = some v3) (h4 : m n4 = some v4) (F : Fr h₀ L h m) :
    Fr h₀ L h (fun y => if y = n1 then some v1 else if y = n2 then some v2 else if y = n3 then some v3 else if y = n4 then some v4 else m y) := by
  have e : (fun y => if y = n1 then some v1 else if y = n2 then some v2 else if y = n3 then some v3 else if y = n4 then some v4 else m y) = m := funext fun y => by
    by_cases e : y = n1
    · rw [if_pos e, e, h1]
    rw [if_neg e]
    by_cases e : y = n2
    · rw [if_pos e, e, h2]
    rw [if_neg e]
    by_cases e : y = n3
    · rw [if_pos e, e, h3]
    rw [if_neg e]
    by_cases e : y = n4
    · rw [if_pos e, e, h4]
    rw [if_neg e]
  rw [e]; exact F
theorem fr_know6 {h₀ h : Heap} {L : Addr} {m : Str → Option Value} {n1 n2 n3 n4 n5 n6 : Str} {v1 v2 v3 v4 v5 v6 : Value} (h1 : m n1 = some v1) (h2 : m n2 = some v2) (h3 : m n3 = some v3) (h4 : m n4 = some v4) (h5 : m n5 = some v5) (h6 : m n6 = some v6) (F : Fr h₀ L h m) :
    Fr h₀ L h (fun y => if y = n1 then some v1 else if y = n2 then some v2 else if y = n3 then some v3 else if y = n4 then some v4 else if y = n5 then some v5 else if y = n6 then some v6 else m y) := by
  have e : (fun y => if y = n1 then some v1 else if y = n2 then some v2 else if y = n3 then some v3 else if y = n4 then some v4 else if y = n5 then some v5 else if y = n6 then some v6 else m y) = m := funext fun y => by
    by_cases e : y = n1
    · rw [if_pos e, e, h1]
    rw [if_neg e]
    by_cases e : y = n2
    · rw [if_pos e, e, h2]
    rw [if_neg e]
    by_cases e : y = n3
    · rw [if_pos e, e, h3]
    rw [if_neg e]
    by_cases e : y = n4
    · rw [if_pos e, e, h4]
    rw [if_neg e]
    by_cases e : y = n5
    · rw [if_pos e, e, h5]
    rw [if_neg e]
    by_cases e : y = n6
    · rw [if_pos e, e, h6]
    rw [if_neg e]
  rw [e]; exact F
def PathEnd (s₀ : Shared) (h₀ : Heap) (L : Addr) (m : Str → Option Value) (must : List (Addr × Obj)) (p : Str) (y : Value) (s₂ : Shared) : Prop :=
  ∃ h' tk' all t', y = .str p t' ∧ s₂ = { s₀ with heap := h', toks := tk' } ∧ Fr h₀ L h' m ∧ News h₀ L h' all ∧ ∀ q ∈ must, q ∈ all
theorem pathEnd_of {s₀ : Shared} {h₀ : Heap} {L : Addr} {m : Str → Option Value} {must all : List (Addr × Obj)} {p : Str} {t' : Tok} {h' : Heap} {tk' : Nat} (F : Fr h₀ L h' m) (N : News h₀ L h' all) (sub : ∀ q ∈ must, q ∈ all) :
    PathEnd s₀ h₀ L m must p (.str p t') { s₀ with heap := h', toks := tk' } := ⟨h', tk', all, t', rfl, rfl, F, N, sub⟩
theorem StrsAre.at {ys : List Value} {rows : List (Str × List Int)} {f : Str × List Int → Str} (h : StrsAre ys (rows.map f)) {i : Nat} {r : Str × List Int} {y : Value} (hr : rows[i]? = some r) (hy : ys[i]? = some y) : ∃ t, y = .str (f r) t := by
  obtain ⟨t, ht⟩ := h.2 i (f r) (by simp [hr])
  rw [hy] at ht
  exact ⟨t, Option.some.inj ht⟩
theorem len_drop {o : List Int} {k : Int} {c : Nat} (h : o.length ≤ c) : (o.drop k.toNat).length ≤ c := by rw [List.length_drop]; omega
theorem in_drop {o : List Int} {k : Int} (h : KBa.In o) : KBa.In (o.drop k.toNat) := fun n hn => h n (List.mem_of_mem_drop hn)
theorem RowOk.asc {c : Nat} {r : Str × List Int} (h : RowOk c r) : Asc r.1 := by
  rcases h.1 with e | e
  all_goals (rw [e]; unfold Asc; decide +kernel)

end
section
open PySem PySem.W PyProof.Rows
section
local macro_rules | `(tactic| k_mem) => `(tactic| ((repeat (first | assumption | exact List.mem_cons_self | refine List.mem_cons_of_mem _ ?_ | refine List.mem_append_right _ ?_)); done))
local macro_rules | `(tactic| k_all) => `(tactic| assumption)
theorem bne_absurd {x : Bool} (h : (x != x) = true) : False := by simp at h
set_option maxRecDepth 100000 in
set_option maxHeartbeats 8000000 in
theorem law_holds : PySem.Challenge.rw_il0038_01.Holds := hd (by
  w_top off
  k_go0
  repeat' (first | ((fail_if_success (with_reducible show wpAny _ _ (call (Value.ref 157) _ _) _ _ _)); first | (k_unfold; (try dsimp only)) | (k_end; wrow_close) | ((with_reducible show wpAny _ _ (compareOp _ _ _) _ _ _); first | ((with_reducible show wpAny _ _ (compareOp CmpOp.NotEq (Value.bytes _ _) (Value.bytes _ _)) _ _ _); refine ne_same ?_)) | ((with_reducible show wpAny _ _ (call _ _ _) _ _ _); first | ((with_reducible show wpAny _ _ (call (Value.ref 152) _ _) _ _ _); k_dflt (refine' con_use (b64decode_p _ (by assumption) (by assumption) (by assumption) (by assumption) (by assumption) _ _ _) (by k_asm) (by k_asm) (by k_asm) (by k_asm) (by k_asm) (by first | exact rfl | assumption) (by ktr_room) (by ktr_units) ?_; k_whole; intro zr9 ztl9 zh9 ztk9 zF9 zN9 zho9; obtain ⟨zt8, ze8⟩ := zho9; subst ze8; (try simp only [List.nil_append, List.cons_append] at zN9); (try dsimp only); (try k_fold))) | ((with_reducible show wpAny _ _ (call (Value.ref 164) _ _) _ _ _); k_dflt (refine' con_use (below_c _ _ _ _ _ _ _ _ _ _ _ _ _ _ _ _ _ _ _ ?_ ?_ ?_ ?_ ?_ ?_ ?_ ?_ _ ?_ ?_ ?_ ?_) (by k_asm) (by k_asm) (by k_asm) (by k_asm) (by k_asm) (by first | exact rfl | assumption) (by ktr_room) (by ktr_units) ?_; (any_goals ((with_reducible show (_ : Addr × Obj) ∈ (_ : List (Addr × Obj))); k_mem)); (any_goals ((with_reducible show IntsAre _ _); assumption)); (· assumption); (· assumption); (· assumption); (· assumption); (· assumption); (· assumption); k_whole; intro zr9 ztl9 zh9 ztk9 zF9 zN9 zho9; have ze8 := zho9; subst ze8; (try simp only [List.nil_append, List.cons_append] at zN9); (try dsimp only); (try k_fold))) | ((with_reducible show wpAny _ _ (call (Value.ref 64) _ _) _ _ _); k_dflt (refine' con_use (suburi_c _ _ _ _ _ _ _ _ _ _ _ _ ?_ ?_ ?_ ?_ ?_ ?_ _ ?_ ?_) (by k_asm) (by k_asm) (by k_asm) (by k_asm) (by k_asm) (by first | exact rfl | assumption) (by ktr_room) (by ktr_units) ?_; (any_goals ((with_reducible show (_ : Addr × Obj) ∈ (_ : List (Addr × Obj))); k_mem)); (· assumption); (· assumption); (· assumption); (· assumption); (· assumption); (· assumption); k_whole; intro zr9 ztl9 zh9 ztk9 zF9 zN9 zho9; have ze8 := zho9; rw [‹isSub _ _ _ _ = _›] at ze8; subst ze8; (try simp only [List.nil_append, List.cons_append] at zN9); (try dsimp only); (try k_fold))) | ((with_reducible show wpAny _ _ (call (Value.builtin "len") [Value.ref _]) _ _ _); k_dflt (refine' len_L (by exact News.get (by k_asm) (by k_mem)) (by assumption) (by first | assumption | (simp only [List.length_take] at *; omega)) ?_; k_whole)) | ((with_reducible show wpAny _ _ (call (Value.builtin _) [Value.bytes (pathB _ _ _) _, Value.str _ _]) _ _ _); k_dflt (refine' decode_path (by assumption) (by assumption) (by assumption) ?_; k_whole); intro zt9 zk9) | (k_here; (with_reducible show wpAny _ _ (call (Value.type "bytes") [Value.ref _]) _ _ _); k_dflt (refine' make_M (by k_asm) (by k_asm) (by exact rfl) (by k_mem) (by assumption) (by assumption) (by assumption) ?_; k_whole); intro zh9 zt9 zk9 zF9 zN9) | ((with_reducible show wpAny _ _ (call (Value.ref 144) _ _) _ _ _); k_dflt (refine' con_use (b64encode_p _ _ (by assumption) (by assumption) _ _ _ _ _) (by k_asm) (by k_asm) (by k_asm) (by k_asm) (by k_asm) (by first | exact rfl | assumption) (by ktr_room) (by ktr_units) ?_; k_whole; intro zr9 ztl9 zh9 ztk9 zF9 zN9 zho9; obtain ⟨zt8, ze8⟩ := zho9; subst ze8; (try simp only [List.nil_append, List.cons_append] at zN9); (try dsimp only); (try k_fold)))) | ((with_reducible show wpAny _ _ (subscriptTail _ _ _ _) _ _ _); first | ((with_reducible show wpAny _ _ (subscriptTail _ (PySem.Expr.Slice (some _) none none _) (Value.ref _) (Value.ref _)) _ _ _); k_dflt (refine kba_turn (value' := PySem.Expr.Name (PySem.Str.ofString "_") ⟨0, 0, 0, 0⟩) (fun _ => rfl) ?_; refine' slice_D (by k_asm) (by k_asm) (by exact News.get (by k_asm) (by k_mem)) (by assumption) (by assumption) (by exact Int.natCast_nonneg _) ?_; k_whole); intro zD9 zws9 zh9 zF9 zN9 zl9 zi9; (try k_lt zl9)) | (first | ((with_reducible show wpAny _ _ (subscriptTail _ _ (Value.ref _) (Value.int 0 _)) _ _ _); k_dflt (refine' item_pair0 (by exact News.get (by k_asm) (by k_mem)) ?_; k_whole)) | ((with_reducible show wpAny _ _ (subscriptTail _ _ (Value.ref _) (Value.int 1 _)) _ _ _); k_dflt (refine' item_pair1 (by exact News.get (by k_asm) (by k_mem)) ?_; k_whole)))) | walk1 | (dsimp only; first | ((with_reducible show wpAny _ _ (compareOp _ _ _) _ _ _); first | ((with_reducible show wpAny _ _ (compareOp CmpOp.NotEq (Value.bytes _ _) (Value.bytes _ _)) _ _ _); refine ne_same ?_)) | ((with_reducible show wpAny _ _ (call _ _ _) _ _ _); first | ((with_reducible show wpAny _ _ (call (Value.ref 152) _ _) _ _ _); k_dflt (refine' con_use (b64decode_p _ (by assumption) (by assumption) (by assumption) (by assumption) (by assumption) _ _ _) (by k_asm) (by k_asm) (by k_asm) (by k_asm) (by k_asm) (by first | exact rfl | assumption) (by ktr_room) (by ktr_units) ?_; k_whole; intro zr9 ztl9 zh9 ztk9 zF9 zN9 zho9; obtain ⟨zt8, ze8⟩ := zho9; subst ze8; (try simp only [List.nil_append, List.cons_append] at zN9); (try dsimp only); (try k_fold))) | ((with_reducible show wpAny _ _ (call (Value.ref 164) _ _) _ _ _); k_dflt (refine' con_use (below_c _ _ _ _ _ _ _ _ _ _ _ _ _ _ _ _ _ _ _ ?_ ?_ ?_ ?_ ?_ ?_ ?_ ?_ _ ?_ ?_ ?_ ?_) (by k_asm) (by k_asm) (by k_asm) (by k_asm) (by k_asm) (by first | exact rfl | assumption) (by ktr_room) (by ktr_units) ?_; (any_goals ((with_reducible show (_ : Addr × Obj) ∈ (_ : List (Addr × Obj))); k_mem)); (any_goals ((with_reducible show IntsAre _ _); assumption)); (· assumption); (· assumption); (· assumption); (· assumption); (· assumption); (· assumption); k_whole; intro zr9 ztl9 zh9 ztk9 zF9 zN9 zho9; have ze8 := zho9; subst ze8; (try simp only [List.nil_append, List.cons_append] at zN9); (try dsimp only); (try k_fold))) | ((with_reducible show wpAny _ _ (call (Value.ref 64) _ _) _ _ _); k_dflt (refine' con_use (suburi_c _ _ _ _ _ _ _ _ _ _ _ _ ?_ ?_ ?_ ?_ ?_ ?_ _ ?_ ?_) (by k_asm) (by k_asm) (by k_asm) (by k_asm) (by k_asm) (by first | exact rfl | assumption) (by ktr_room) (by ktr_units) ?_; (any_goals ((with_reducible show (_ : Addr × Obj) ∈ (_ : List (Addr × Obj))); k_mem)); (· assumption); (· assumption); (· assumption); (· assumption); (· assumption); (· assumption); k_whole; intro zr9 ztl9 zh9 ztk9 zF9 zN9 zho9; have ze8 := zho9; rw [‹isSub _ _ _ _ = _›] at ze8; subst ze8; (try simp only [List.nil_append, List.cons_append] at zN9); (try dsimp only); (try k_fold))) | ((with_reducible show wpAny _ _ (call (Value.builtin "len") [Value.ref _]) _ _ _); k_dflt (refine' len_L (by exact News.get (by k_asm) (by k_mem)) (by assumption) (by first | assumption | (simp only [List.length_take] at *; omega)) ?_; k_whole)) | ((with_reducible show wpAny _ _ (call (Value.builtin _) [Value.bytes (pathB _ _ _) _, Value.str _ _]) _ _ _); k_dflt (refine' decode_path (by assumption) (by assumption) (by assumption) ?_; k_whole); intro zt9 zk9) | (k_here; (with_reducible show wpAny _ _ (call (Value.type "bytes") [Value.ref _]) _ _ _); k_dflt (refine' make_M (by k_asm) (by k_asm) (by exact rfl) (by k_mem) (by assumption) (by assumption) (by assumption) ?_; k_whole); intro zh9 zt9 zk9 zF9 zN9) | ((with_reducible show wpAny _ _ (call (Value.ref 144) _ _) _ _ _); k_dflt (refine' con_use (b64encode_p _ _ (by assumption) (by assumption) _ _ _ _ _) (by k_asm) (by k_asm) (by k_asm) (by k_asm) (by k_asm) (by first | exact rfl | assumption) (by ktr_room) (by ktr_units) ?_; k_whole; intro zr9 ztl9 zh9 ztk9 zF9 zN9 zho9; obtain ⟨zt8, ze8⟩ := zho9; subst ze8; (try simp only [List.nil_append, List.cons_append] at zN9); (try dsimp only); (try k_fold)))) | ((with_reducible show wpAny _ _ (subscriptTail _ _ _ _) _ _ _); first | ((with_reducible show wpAny _ _ (subscriptTail _ (PySem.Expr.Slice (some _) none none _) (Value.ref _) (Value.ref _)) _ _ _); k_dflt (refine kba_turn (value' := PySem.Expr.Name (PySem.Str.ofString "_") ⟨0, 0, 0, 0⟩) (fun _ => rfl) ?_; refine' slice_D (by k_asm) (by k_asm) (by exact News.get (by k_asm) (by k_mem)) (by assumption) (by assumption) (by exact Int.natCast_nonneg _) ?_; k_whole); intro zD9 zws9 zh9 zF9 zN9 zl9 zi9; (try k_lt zl9)) | (first | ((with_reducible show wpAny _ _ (subscriptTail _ _ (Value.ref _) (Value.int 0 _)) _ _ _); k_dflt (refine' item_pair0 (by exact News.get (by k_asm) (by k_mem)) ?_; k_whole)) | ((with_reducible show wpAny _ _ (subscriptTail _ _ (Value.ref _) (Value.int 1 _)) _ _ _); k_dflt (refine' item_pair1 (by exact News.get (by k_asm) (by k_mem)) ?_; k_whole)))) | walk1) | (leave1; walk_say "STEP leave1"; try dsimp only)) | fail "no step")
  refine' con_use (grown_c _ _ _ _ _ ?ki nums_len nums_in _ ?km) ?k1 ?k2 ?k3 ?k4 ?k5 ?kK ?kd ?ku ?_
  case k1 => k_asm
  case k2 => k_asm
  case k3 => k_asm
  case k4 => k_asm
  case k5 => k_asm
  case ki => assumption
  case km => exact List.mem_cons_self
  case kK => exact rfl
  case kd => ktr_room
  case ku => ktr_units
  rintro r9 tl9 h9 tk9 F9 N9 ⟨rl, cnt, vsR, rfl, hrl, hR⟩
  (try dsimp only)
  (try k_fold)
  obtain ⟨base, N1, hbA, hbL, hrA, hrL, hR1⟩ := clean N9 (List.mem_cons_of_mem _ List.mem_cons_self) (List.mem_cons_of_mem _ (List.mem_cons_of_mem _ List.mem_cons_self)) ⟨_, by assumption⟩ ⟨_, by assumption⟩ hrl hR
  clear N9 hrl hR
  repeat' (first | ((fail_if_success (with_reducible show wpAny _ _ (exec (PySem.Stmt.For _ _ _ _ _) _) _ _ _)); first | (k_unfold; (try dsimp only)) | (k_end; wrow_close) | ((with_reducible show wpAny _ _ (compareOp _ _ _) _ _ _); first | ((with_reducible show wpAny _ _ (compareOp CmpOp.NotEq (Value.bytes _ _) (Value.bytes _ _)) _ _ _); refine ne_same ?_)) | ((with_reducible show wpAny _ _ (call _ _ _) _ _ _); first | ((with_reducible show wpAny _ _ (call (Value.ref 152) _ _) _ _ _); k_dflt (refine' con_use (b64decode_p _ (by assumption) (by assumption) (by assumption) (by assumption) (by assumption) _ _ _) (by k_asm) (by k_asm) (by k_asm) (by k_asm) (by k_asm) (by first | exact rfl | assumption) (by ktr_room) (by ktr_units) ?_; k_whole; intro zr9 ztl9 zh9 ztk9 zF9 zN9 zho9; obtain ⟨zt8, ze8⟩ := zho9; subst ze8; (try simp only [List.nil_append, List.cons_append] at zN9); (try dsimp only); (try k_fold))) | ((with_reducible show wpAny _ _ (call (Value.ref 164) _ _) _ _ _); k_dflt (refine' con_use (below_c _ _ _ _ _ _ _ _ _ _ _ _ _ _ _ _ _ _ _ ?_ ?_ ?_ ?_ ?_ ?_ ?_ ?_ _ ?_ ?_ ?_ ?_) (by k_asm) (by k_asm) (by k_asm) (by k_asm) (by k_asm) (by first | exact rfl | assumption) (by ktr_room) (by ktr_units) ?_; (any_goals ((with_reducible show (_ : Addr × Obj) ∈ (_ : List (Addr × Obj))); k_mem)); (any_goals ((with_reducible show IntsAre _ _); assumption)); (· assumption); (· assumption); (· assumption); (· assumption); (· assumption); (· assumption); k_whole; intro zr9 ztl9 zh9 ztk9 zF9 zN9 zho9; have ze8 := zho9; subst ze8; (try simp only [List.nil_append, List.cons_append] at zN9); (try dsimp only); (try k_fold))) | ((with_reducible show wpAny _ _ (call (Value.ref 64) _ _) _ _ _); k_dflt (refine' con_use (suburi_c _ _ _ _ _ _ _ _ _ _ _ _ ?_ ?_ ?_ ?_ ?_ ?_ _ ?_ ?_) (by k_asm) (by k_asm) (by k_asm) (by k_asm) (by k_asm) (by first | exact rfl | assumption) (by ktr_room) (by ktr_units) ?_; (any_goals ((with_reducible show (_ : Addr × Obj) ∈ (_ : List (Addr × Obj))); k_mem)); (· assumption); (· assumption); (· assumption); (· assumption); (· assumption); (· assumption); k_whole; intro zr9 ztl9 zh9 ztk9 zF9 zN9 zho9; have ze8 := zho9; rw [‹isSub _ _ _ _ = _›] at ze8; subst ze8; (try simp only [List.nil_append, List.cons_append] at zN9); (try dsimp only); (try k_fold))) | ((with_reducible show wpAny _ _ (call (Value.builtin "len") [Value.ref _]) _ _ _); k_dflt (refine' len_L (by exact News.get (by k_asm) (by k_mem)) (by assumption) (by first | assumption | (simp only [List.length_take] at *; omega)) ?_; k_whole)) | ((with_reducible show wpAny _ _ (call (Value.builtin _) [Value.bytes (pathB _ _ _) _, Value.str _ _]) _ _ _); k_dflt (refine' decode_path (by assumption) (by assumption) (by assumption) ?_; k_whole); intro zt9 zk9) | (k_here; (with_reducible show wpAny _ _ (call (Value.type "bytes") [Value.ref _]) _ _ _); k_dflt (refine' make_M (by k_asm) (by k_asm) (by exact rfl) (by k_mem) (by assumption) (by assumption) (by assumption) ?_; k_whole); intro zh9 zt9 zk9 zF9 zN9) | ((with_reducible show wpAny _ _ (call (Value.ref 144) _ _) _ _ _); k_dflt (refine' con_use (b64encode_p _ _ (by assumption) (by assumption) _ _ _ _ _) (by k_asm) (by k_asm) (by k_asm) (by k_asm) (by k_asm) (by first | exact rfl | assumption) (by ktr_room) (by ktr_units) ?_; k_whole; intro zr9 ztl9 zh9 ztk9 zF9 zN9 zho9; obtain ⟨zt8, ze8⟩ := zho9; subst ze8; (try simp only [List.nil_append, List.cons_append] at zN9); (try dsimp only); (try k_fold)))) | ((with_reducible show wpAny _ _ (subscriptTail _ _ _ _) _ _ _); first | ((with_reducible show wpAny _ _ (subscriptTail _ (PySem.Expr.Slice (some _) none none _) (Value.ref _) (Value.ref _)) _ _ _); k_dflt (refine kba_turn (value' := PySem.Expr.Name (PySem.Str.ofString "_") ⟨0, 0, 0, 0⟩) (fun _ => rfl) ?_; refine' slice_D (by k_asm) (by k_asm) (by exact News.get (by k_asm) (by k_mem)) (by assumption) (by assumption) (by exact Int.natCast_nonneg _) ?_; k_whole); intro zD9 zws9 zh9 zF9 zN9 zl9 zi9; (try k_lt zl9)) | (first | ((with_reducible show wpAny _ _ (subscriptTail _ _ (Value.ref _) (Value.int 0 _)) _ _ _); k_dflt (refine' item_pair0 (by exact News.get (by k_asm) (by k_mem)) ?_; k_whole)) | ((with_reducible show wpAny _ _ (subscriptTail _ _ (Value.ref _) (Value.int 1 _)) _ _ _); k_dflt (refine' item_pair1 (by exact News.get (by k_asm) (by k_mem)) ?_; k_whole)))) | walk1 | (dsimp only; first | ((with_reducible show wpAny _ _ (compareOp _ _ _) _ _ _); first | ((with_reducible show wpAny _ _ (compareOp CmpOp.NotEq (Value.bytes _ _) (Value.bytes _ _)) _ _ _); refine ne_same ?_)) | ((with_reducible show wpAny _ _ (call _ _ _) _ _ _); first | ((with_reducible show wpAny _ _ (call (Value.ref 152) _ _) _ _ _); k_dflt (refine' con_use (b64decode_p _ (by assumption) (by assumption) (by assumption) (by assumption) (by assumption) _ _ _) (by k_asm) (by k_asm) (by k_asm) (by k_asm) (by k_asm) (by first | exact rfl | assumption) (by ktr_room) (by ktr_units) ?_; k_whole; intro zr9 ztl9 zh9 ztk9 zF9 zN9 zho9; obtain ⟨zt8, ze8⟩ := zho9; subst ze8; (try simp only [List.nil_append, List.cons_append] at zN9); (try dsimp only); (try k_fold))) | ((with_reducible show wpAny _ _ (call (Value.ref 164) _ _) _ _ _); k_dflt (refine' con_use (below_c _ _ _ _ _ _ _ _ _ _ _ _ _ _ _ _ _ _ _ ?_ ?_ ?_ ?_ ?_ ?_ ?_ ?_ _ ?_ ?_ ?_ ?_) (by k_asm) (by k_asm) (by k_asm) (by k_asm) (by k_asm) (by first | exact rfl | assumption) (by ktr_room) (by ktr_units) ?_; (any_goals ((with_reducible show (_ : Addr × Obj) ∈ (_ : List (Addr × Obj))); k_mem)); (any_goals ((with_reducible show IntsAre _ _); assumption)); (· assumption); (· assumption); (· assumption); (· assumption); (· assumption); (· assumption); k_whole; intro zr9 ztl9 zh9 ztk9 zF9 zN9 zho9; have ze8 := zho9; subst ze8; (try simp only [List.nil_append, List.cons_append] at zN9); (try dsimp only); (try k_fold))) | ((with_reducible show wpAny _ _ (call (Value.ref 64) _ _) _ _ _); k_dflt (refine' con_use (suburi_c _ _ _ _ _ _ _ _ _ _ _ _ ?_ ?_ ?_ ?_ ?_ ?_ _ ?_ ?_) (by k_asm) (by k_asm) (by k_asm) (by k_asm) (by k_asm) (by first | exact rfl | assumption) (by ktr_room) (by ktr_units) ?_; (any_goals ((with_reducible show (_ : Addr × Obj) ∈ (_ : List (Addr × Obj))); k_mem)); (· assumption); (· assumption); (· assumption); (· assumption); (· assumption); (· assumption); k_whole; intro zr9 ztl9 zh9 ztk9 zF9 zN9 zho9; have ze8 := zho9; rw [‹isSub _ _ _ _ = _›] at ze8; subst ze8; (try simp only [List.nil_append, List.cons_append] at zN9); (try dsimp only); (try k_fold))) | ((with_reducible show wpAny _ _ (call (Value.builtin "len") [Value.ref _]) _ _ _); k_dflt (refine' len_L (by exact News.get (by k_asm) (by k_mem)) (by assumption) (by first | assumption | (simp only [List.length_take] at *; omega)) ?_; k_whole)) | ((with_reducible show wpAny _ _ (call (Value.builtin _) [Value.bytes (pathB _ _ _) _, Value.str _ _]) _ _ _); k_dflt (refine' decode_path (by assumption) (by assumption) (by assumption) ?_; k_whole); intro zt9 zk9) | (k_here; (with_reducible show wpAny _ _ (call (Value.type "bytes") [Value.ref _]) _ _ _); k_dflt (refine' make_M (by k_asm) (by k_asm) (by exact rfl) (by k_mem) (by assumption) (by assumption) (by assumption) ?_; k_whole); intro zh9 zt9 zk9 zF9 zN9) | ((with_reducible show wpAny _ _ (call (Value.ref 144) _ _) _ _ _); k_dflt (refine' con_use (b64encode_p _ _ (by assumption) (by assumption) _ _ _ _ _) (by k_asm) (by k_asm) (by k_asm) (by k_asm) (by k_asm) (by first | exact rfl | assumption) (by ktr_room) (by ktr_units) ?_; k_whole; intro zr9 ztl9 zh9 ztk9 zF9 zN9 zho9; obtain ⟨zt8, ze8⟩ := zho9; subst ze8; (try simp only [List.nil_append, List.cons_append] at zN9); (try dsimp only); (try k_fold)))) | ((with_reducible show wpAny _ _ (subscriptTail _ _ _ _) _ _ _); first | ((with_reducible show wpAny _ _ (subscriptTail _ (PySem.Expr.Slice (some _) none none _) (Value.ref _) (Value.ref _)) _ _ _); k_dflt (refine kba_turn (value' := PySem.Expr.Name (PySem.Str.ofString "_") ⟨0, 0, 0, 0⟩) (fun _ => rfl) ?_; refine' slice_D (by k_asm) (by k_asm) (by exact News.get (by k_asm) (by k_mem)) (by assumption) (by assumption) (by exact Int.natCast_nonneg _) ?_; k_whole); intro zD9 zws9 zh9 zF9 zN9 zl9 zi9; (try k_lt zl9)) | (first | ((with_reducible show wpAny _ _ (subscriptTail _ _ (Value.ref _) (Value.int 0 _)) _ _ _); k_dflt (refine' item_pair0 (by exact News.get (by k_asm) (by k_mem)) ?_; k_whole)) | ((with_reducible show wpAny _ _ (subscriptTail _ _ (Value.ref _) (Value.int 1 _)) _ _ _); k_dflt (refine' item_pair1 (by exact News.get (by k_asm) (by k_mem)) ?_; k_whole)))) | walk1) | (leave1; walk_say "STEP leave1"; try dsimp only)) | fail "no step")
  have hgl : (grown (List.map (fun k => k.fmod (10 ^ (8 : Int).toNat)) (List.take 5 ‹List Int›))).length ≤ 1000 := by rw [grown_length]; have := nums_len (script := ‹List Int›); omega
  have hok : ∀ r ∈ grown (List.map (fun k => k.fmod (10 ^ (8 : Int).toNat)) (List.take 5 ‹List Int›)), RowOk 400 r := fun r hr => (grown_ok _ r hr).mono (by have := nums_len (script := ‹List Int›); omega)
  generalize grown (List.map (fun k => k.fmod (10 ^ (8 : Int).toNat)) (List.take 5 ‹List Int›)) = rows at hgl hok hR1
  refine For_turns (by assumption) ?_
  repeat' (first | ((fail_if_success (with_reducible show wpAny _ _ (pyIter _) _ _ _)); first | (k_unfold; (try dsimp only)) | (k_end; wrow_close) | ((with_reducible show wpAny _ _ (compareOp _ _ _) _ _ _); first | ((with_reducible show wpAny _ _ (compareOp CmpOp.NotEq (Value.bytes _ _) (Value.bytes _ _)) _ _ _); refine ne_same ?_)) | ((with_reducible show wpAny _ _ (call _ _ _) _ _ _); first | ((with_reducible show wpAny _ _ (call (Value.ref 152) _ _) _ _ _); k_dflt (refine' con_use (b64decode_p _ (by assumption) (by assumption) (by assumption) (by assumption) (by assumption) _ _ _) (by k_asm) (by k_asm) (by k_asm) (by k_asm) (by k_asm) (by first | exact rfl | assumption) (by ktr_room) (by ktr_units) ?_; k_whole; intro zr9 ztl9 zh9 ztk9 zF9 zN9 zho9; obtain ⟨zt8, ze8⟩ := zho9; subst ze8; (try simp only [List.nil_append, List.cons_append] at zN9); (try dsimp only); (try k_fold))) | ((with_reducible show wpAny _ _ (call (Value.ref 164) _ _) _ _ _); k_dflt (refine' con_use (below_c _ _ _ _ _ _ _ _ _ _ _ _ _ _ _ _ _ _ _ ?_ ?_ ?_ ?_ ?_ ?_ ?_ ?_ _ ?_ ?_ ?_ ?_) (by k_asm) (by k_asm) (by k_asm) (by k_asm) (by k_asm) (by first | exact rfl | assumption) (by ktr_room) (by ktr_units) ?_; (any_goals ((with_reducible show (_ : Addr × Obj) ∈ (_ : List (Addr × Obj))); k_mem)); (any_goals ((with_reducible show IntsAre _ _); assumption)); (· assumption); (· assumption); (· assumption); (· assumption); (· assumption); (· assumption); k_whole; intro zr9 ztl9 zh9 ztk9 zF9 zN9 zho9; have ze8 := zho9; subst ze8; (try simp only [List.nil_append, List.cons_append] at zN9); (try dsimp only); (try k_fold))) | ((with_reducible show wpAny _ _ (call (Value.ref 64) _ _) _ _ _); k_dflt (refine' con_use (suburi_c _ _ _ _ _ _ _ _ _ _ _ _ ?_ ?_ ?_ ?_ ?_ ?_ _ ?_ ?_) (by k_asm) (by k_asm) (by k_asm) (by k_asm) (by k_asm) (by first | exact rfl | assumption) (by ktr_room) (by ktr_units) ?_; (any_goals ((with_reducible show (_ : Addr × Obj) ∈ (_ : List (Addr × Obj))); k_mem)); (· assumption); (· assumption); (· assumption); (· assumption); (· assumption); (· assumption); k_whole; intro zr9 ztl9 zh9 ztk9 zF9 zN9 zho9; have ze8 := zho9; rw [‹isSub _ _ _ _ = _›] at ze8; subst ze8; (try simp only [List.nil_append, List.cons_append] at zN9); (try dsimp only); (try k_fold))) | ((with_reducible show wpAny _ _ (call (Value.builtin "len") [Value.ref _]) _ _ _); k_dflt (refine' len_L (by exact News.get (by k_asm) (by k_mem)) (by assumption) (by first | assumption | (simp only [List.length_take] at *; omega)) ?_; k_whole)) | ((with_reducible show wpAny _ _ (call (Value.builtin _) [Value.bytes (pathB _ _ _) _, Value.str _ _]) _ _ _); k_dflt (refine' decode_path (by assumption) (by assumption) (by assumption) ?_; k_whole); intro zt9 zk9) | (k_here; (with_reducible show wpAny _ _ (call (Value.type "bytes") [Value.ref _]) _ _ _); k_dflt (refine' make_M (by k_asm) (by k_asm) (by exact rfl) (by k_mem) (by assumption) (by assumption) (by assumption) ?_; k_whole); intro zh9 zt9 zk9 zF9 zN9) | ((with_reducible show wpAny _ _ (call (Value.ref 144) _ _) _ _ _); k_dflt (refine' con_use (b64encode_p _ _ (by assumption) (by assumption) _ _ _ _ _) (by k_asm) (by k_asm) (by k_asm) (by k_asm) (by k_asm) (by first | exact rfl | assumption) (by ktr_room) (by ktr_units) ?_; k_whole; intro zr9 ztl9 zh9 ztk9 zF9 zN9 zho9; obtain ⟨zt8, ze8⟩ := zho9; subst ze8; (try simp only [List.nil_append, List.cons_append] at zN9); (try dsimp only); (try k_fold)))) | ((with_reducible show wpAny _ _ (subscriptTail _ _ _ _) _ _ _); first | ((with_reducible show wpAny _ _ (subscriptTail _ (PySem.Expr.Slice (some _) none none _) (Value.ref _) (Value.ref _)) _ _ _); k_dflt (refine kba_turn (value' := PySem.Expr.Name (PySem.Str.ofString "_") ⟨0, 0, 0, 0⟩) (fun _ => rfl) ?_; refine' slice_D (by k_asm) (by k_asm) (by exact News.get (by k_asm) (by k_mem)) (by assumption) (by assumption) (by exact Int.natCast_nonneg _) ?_; k_whole); intro zD9 zws9 zh9 zF9 zN9 zl9 zi9; (try k_lt zl9)) | (first | ((with_reducible show wpAny _ _ (subscriptTail _ _ (Value.ref _) (Value.int 0 _)) _ _ _); k_dflt (refine' item_pair0 (by exact News.get (by k_asm) (by k_mem)) ?_; k_whole)) | ((with_reducible show wpAny _ _ (subscriptTail _ _ (Value.ref _) (Value.int 1 _)) _ _ _); k_dflt (refine' item_pair1 (by exact News.get (by k_asm) (by k_mem)) ?_; k_whole)))) | walk1 | (dsimp only; first | ((with_reducible show wpAny _ _ (compareOp _ _ _) _ _ _); first | ((with_reducible show wpAny _ _ (compareOp CmpOp.NotEq (Value.bytes _ _) (Value.bytes _ _)) _ _ _); refine ne_same ?_)) | ((with_reducible show wpAny _ _ (call _ _ _) _ _ _); first | ((with_reducible show wpAny _ _ (call (Value.ref 152) _ _) _ _ _); k_dflt (refine' con_use (b64decode_p _ (by assumption) (by assumption) (by assumption) (by assumption) (by assumption) _ _ _) (by k_asm) (by k_asm) (by k_asm) (by k_asm) (by k_asm) (by first | exact rfl | assumption) (by ktr_room) (by ktr_units) ?_; k_whole; intro zr9 ztl9 zh9 ztk9 zF9 zN9 zho9; obtain ⟨zt8, ze8⟩ := zho9; subst ze8; (try simp only [List.nil_append, List.cons_append] at zN9); (try dsimp only); (try k_fold))) | ((with_reducible show wpAny _ _ (call (Value.ref 164) _ _) _ _ _); k_dflt (refine' con_use (below_c _ _ _ _ _ _ _ _ _ _ _ _ _ _ _ _ _ _ _ ?_ ?_ ?_ ?_ ?_ ?_ ?_ ?_ _ ?_ ?_ ?_ ?_) (by k_asm) (by k_asm) (by k_asm) (by k_asm) (by k_asm) (by first | exact rfl | assumption) (by ktr_room) (by ktr_units) ?_; (any_goals ((with_reducible show (_ : Addr × Obj) ∈ (_ : List (Addr × Obj))); k_mem)); (any_goals ((with_reducible show IntsAre _ _); assumption)); (· assumption); (· assumption); (· assumption); (· assumption); (· assumption); (· assumption); k_whole; intro zr9 ztl9 zh9 ztk9 zF9 zN9 zho9; have ze8 := zho9; subst ze8; (try simp only [List.nil_append, List.cons_append] at zN9); (try dsimp only); (try k_fold))) | ((with_reducible show wpAny _ _ (call (Value.ref 64) _ _) _ _ _); k_dflt (refine' con_use (suburi_c _ _ _ _ _ _ _ _ _ _ _ _ ?_ ?_ ?_ ?_ ?_ ?_ _ ?_ ?_) (by k_asm) (by k_asm) (by k_asm) (by k_asm) (by k_asm) (by first | exact rfl | assumption) (by ktr_room) (by ktr_units) ?_; (any_goals ((with_reducible show (_ : Addr × Obj) ∈ (_ : List (Addr × Obj))); k_mem)); (· assumption); (· assumption); (· assumption); (· assumption); (· assumption); (· assumption); k_whole; intro zr9 ztl9 zh9 ztk9 zF9 zN9 zho9; have ze8 := zho9; rw [‹isSub _ _ _ _ = _›] at ze8; subst ze8; (try simp only [List.nil_append, List.cons_append] at zN9); (try dsimp only); (try k_fold))) | ((with_reducible show wpAny _ _ (call (Value.builtin "len") [Value.ref _]) _ _ _); k_dflt (refine' len_L (by exact News.get (by k_asm) (by k_mem)) (by assumption) (by first | assumption | (simp only [List.length_take] at *; omega)) ?_; k_whole)) | ((with_reducible show wpAny _ _ (call (Value.builtin _) [Value.bytes (pathB _ _ _) _, Value.str _ _]) _ _ _); k_dflt (refine' decode_path (by assumption) (by assumption) (by assumption) ?_; k_whole); intro zt9 zk9) | (k_here; (with_reducible show wpAny _ _ (call (Value.type "bytes") [Value.ref _]) _ _ _); k_dflt (refine' make_M (by k_asm) (by k_asm) (by exact rfl) (by k_mem) (by assumption) (by assumption) (by assumption) ?_; k_whole); intro zh9 zt9 zk9 zF9 zN9) | ((with_reducible show wpAny _ _ (call (Value.ref 144) _ _) _ _ _); k_dflt (refine' con_use (b64encode_p _ _ (by assumption) (by assumption) _ _ _ _ _) (by k_asm) (by k_asm) (by k_asm) (by k_asm) (by k_asm) (by first | exact rfl | assumption) (by ktr_room) (by ktr_units) ?_; k_whole; intro zr9 ztl9 zh9 ztk9 zF9 zN9 zho9; obtain ⟨zt8, ze8⟩ := zho9; subst ze8; (try simp only [List.nil_append, List.cons_append] at zN9); (try dsimp only); (try k_fold)))) | ((with_reducible show wpAny _ _ (subscriptTail _ _ _ _) _ _ _); first | ((with_reducible show wpAny _ _ (subscriptTail _ (PySem.Expr.Slice (some _) none none _) (Value.ref _) (Value.ref _)) _ _ _); k_dflt (refine kba_turn (value' := PySem.Expr.Name (PySem.Str.ofString "_") ⟨0, 0, 0, 0⟩) (fun _ => rfl) ?_; refine' slice_D (by k_asm) (by k_asm) (by exact News.get (by k_asm) (by k_mem)) (by assumption) (by assumption) (by exact Int.natCast_nonneg _) ?_; k_whole); intro zD9 zws9 zh9 zF9 zN9 zl9 zi9; (try k_lt zl9)) | (first | ((with_reducible show wpAny _ _ (subscriptTail _ _ (Value.ref _) (Value.int 0 _)) _ _ _); k_dflt (refine' item_pair0 (by exact News.get (by k_asm) (by k_mem)) ?_; k_whole)) | ((with_reducible show wpAny _ _ (subscriptTail _ _ (Value.ref _) (Value.int 1 _)) _ _ _); k_dflt (refine' item_pair1 (by exact News.get (by k_asm) (by k_mem)) ?_; k_whole)))) | walk1) | (leave1; walk_say "STEP leave1"; try dsimp only)) | fail "no step")
  refine outer_of rfl (by assumption) (by assumption) ⟨_, by assumption⟩ ⟨_, by assumption⟩ (by with_unfolding_all rfl) (by with_unfolding_all rfl) ?qL ?qA hbA hbL ?step ?done
  case qL => refine ⟨?_, ?_, ?_, ?_, ?_, ?_, ?_⟩ <;> omega
  case qA => refine ⟨?_, ?_, ?_, ?_, ?_, ?_, ?_⟩ <;> omega
  case done =>
    rintro m h tk F2
    dsimp only
    repeat' (first | (k_unfold; (try dsimp only)) | (k_end; wrow_close) | ((with_reducible show wpAny _ _ (compareOp _ _ _) _ _ _); first | ((with_reducible show wpAny _ _ (compareOp CmpOp.NotEq (Value.bytes _ _) (Value.bytes _ _)) _ _ _); refine ne_same ?_)) | ((with_reducible show wpAny _ _ (call _ _ _) _ _ _); first | ((with_reducible show wpAny _ _ (call (Value.ref 152) _ _) _ _ _); k_dflt (refine' con_use (b64decode_p _ (by assumption) (by assumption) (by assumption) (by assumption) (by assumption) _ _ _) (by k_asm) (by k_asm) (by k_asm) (by k_asm) (by k_asm) (by first | exact rfl | assumption) (by ktr_room) (by ktr_units) ?_; k_whole; intro zr9 ztl9 zh9 ztk9 zF9 zN9 zho9; obtain ⟨zt8, ze8⟩ := zho9; subst ze8; (try simp only [List.nil_append, List.cons_append] at zN9); (try dsimp only); (try k_fold))) | ((with_reducible show wpAny _ _ (call (Value.ref 164) _ _) _ _ _); k_dflt (refine' con_use (below_c _ _ _ _ _ _ _ _ _ _ _ _ _ _ _ _ _ _ _ ?_ ?_ ?_ ?_ ?_ ?_ ?_ ?_ _ ?_ ?_ ?_ ?_) (by k_asm) (by k_asm) (by k_asm) (by k_asm) (by k_asm) (by first | exact rfl | assumption) (by ktr_room) (by ktr_units) ?_; (any_goals ((with_reducible show (_ : Addr × Obj) ∈ (_ : List (Addr × Obj))); k_mem)); (any_goals ((with_reducible show IntsAre _ _); assumption)); (· assumption); (· assumption); (· assumption); (· assumption); (· assumption); (· assumption); k_whole; intro zr9 ztl9 zh9 ztk9 zF9 zN9 zho9; have ze8 := zho9; subst ze8; (try simp only [List.nil_append, List.cons_append] at zN9); (try dsimp only); (try k_fold))) | ((with_reducible show wpAny _ _ (call (Value.ref 64) _ _) _ _ _); k_dflt (refine' con_use (suburi_c _ _ _ _ _ _ _ _ _ _ _ _ ?_ ?_ ?_ ?_ ?_ ?_ _ ?_ ?_) (by k_asm) (by k_asm) (by k_asm) (by k_asm) (by k_asm) (by first | exact rfl | assumption) (by ktr_room) (by ktr_units) ?_; (any_goals ((with_reducible show (_ : Addr × Obj) ∈ (_ : List (Addr × Obj))); k_mem)); (· assumption); (· assumption); (· assumption); (· assumption); (· assumption); (· assumption); k_whole; intro zr9 ztl9 zh9 ztk9 zF9 zN9 zho9; have ze8 := zho9; rw [‹isSub _ _ _ _ = _›] at ze8; subst ze8; (try simp only [List.nil_append, List.cons_append] at zN9); (try dsimp only); (try k_fold))) | ((with_reducible show wpAny _ _ (call (Value.builtin "len") [Value.ref _]) _ _ _); k_dflt (refine' len_L (by exact News.get (by k_asm) (by k_mem)) (by assumption) (by first | assumption | (simp only [List.length_take] at *; omega)) ?_; k_whole)) | ((with_reducible show wpAny _ _ (call (Value.builtin _) [Value.bytes (pathB _ _ _) _, Value.str _ _]) _ _ _); k_dflt (refine' decode_path (by assumption) (by assumption) (by assumption) ?_; k_whole); intro zt9 zk9) | (k_here; (with_reducible show wpAny _ _ (call (Value.type "bytes") [Value.ref _]) _ _ _); k_dflt (refine' make_M (by k_asm) (by k_asm) (by exact rfl) (by k_mem) (by assumption) (by assumption) (by assumption) ?_; k_whole); intro zh9 zt9 zk9 zF9 zN9) | ((with_reducible show wpAny _ _ (call (Value.ref 144) _ _) _ _ _); k_dflt (refine' con_use (b64encode_p _ _ (by assumption) (by assumption) _ _ _ _ _) (by k_asm) (by k_asm) (by k_asm) (by k_asm) (by k_asm) (by first | exact rfl | assumption) (by ktr_room) (by ktr_units) ?_; k_whole; intro zr9 ztl9 zh9 ztk9 zF9 zN9 zho9; obtain ⟨zt8, ze8⟩ := zho9; subst ze8; (try simp only [List.nil_append, List.cons_append] at zN9); (try dsimp only); (try k_fold)))) | ((with_reducible show wpAny _ _ (subscriptTail _ _ _ _) _ _ _); first | ((with_reducible show wpAny _ _ (subscriptTail _ (PySem.Expr.Slice (some _) none none _) (Value.ref _) (Value.ref _)) _ _ _); k_dflt (refine kba_turn (value' := PySem.Expr.Name (PySem.Str.ofString "_") ⟨0, 0, 0, 0⟩) (fun _ => rfl) ?_; refine' slice_D (by k_asm) (by k_asm) (by exact News.get (by k_asm) (by k_mem)) (by assumption) (by assumption) (by exact Int.natCast_nonneg _) ?_; k_whole); intro zD9 zws9 zh9 zF9 zN9 zl9 zi9; (try k_lt zl9)) | (first | ((with_reducible show wpAny _ _ (subscriptTail _ _ (Value.ref _) (Value.int 0 _)) _ _ _); k_dflt (refine' item_pair0 (by exact News.get (by k_asm) (by k_mem)) ?_; k_whole)) | ((with_reducible show wpAny _ _ (subscriptTail _ _ (Value.ref _) (Value.int 1 _)) _ _ _); k_dflt (refine' item_pair1 (by exact News.get (by k_asm) (by k_mem)) ?_; k_whole)))) | walk1 | (dsimp only; first | ((with_reducible show wpAny _ _ (compareOp _ _ _) _ _ _); first | ((with_reducible show wpAny _ _ (compareOp CmpOp.NotEq (Value.bytes _ _) (Value.bytes _ _)) _ _ _); refine ne_same ?_)) | ((with_reducible show wpAny _ _ (call _ _ _) _ _ _); first | ((with_reducible show wpAny _ _ (call (Value.ref 152) _ _) _ _ _); k_dflt (refine' con_use (b64decode_p _ (by assumption) (by assumption) (by assumption) (by assumption) (by assumption) _ _ _) (by k_asm) (by k_asm) (by k_asm) (by k_asm) (by k_asm) (by first | exact rfl | assumption) (by ktr_room) (by ktr_units) ?_; k_whole; intro zr9 ztl9 zh9 ztk9 zF9 zN9 zho9; obtain ⟨zt8, ze8⟩ := zho9; subst ze8; (try simp only [List.nil_append, List.cons_append] at zN9); (try dsimp only); (try k_fold))) | ((with_reducible show wpAny _ _ (call (Value.ref 164) _ _) _ _ _); k_dflt (refine' con_use (below_c _ _ _ _ _ _ _ _ _ _ _ _ _ _ _ _ _ _ _ ?_ ?_ ?_ ?_ ?_ ?_ ?_ ?_ _ ?_ ?_ ?_ ?_) (by k_asm) (by k_asm) (by k_asm) (by k_asm) (by k_asm) (by first | exact rfl | assumption) (by ktr_room) (by ktr_units) ?_; (any_goals ((with_reducible show (_ : Addr × Obj) ∈ (_ : List (Addr × Obj))); k_mem)); (any_goals ((with_reducible show IntsAre _ _); assumption)); (· assumption); (· assumption); (· assumption); (· assumption); (· assumption); (· assumption); k_whole; intro zr9 ztl9 zh9 ztk9 zF9 zN9 zho9; have ze8 := zho9; subst ze8; (try simp only [List.nil_append, List.cons_append] at zN9); (try dsimp only); (try k_fold))) | ((with_reducible show wpAny _ _ (call (Value.ref 64) _ _) _ _ _); k_dflt (refine' con_use (suburi_c _ _ _ _ _ _ _ _ _ _ _ _ ?_ ?_ ?_ ?_ ?_ ?_ _ ?_ ?_) (by k_asm) (by k_asm) (by k_asm) (by k_asm) (by k_asm) (by first | exact rfl | assumption) (by ktr_room) (by ktr_units) ?_; (any_goals ((with_reducible show (_ : Addr × Obj) ∈ (_ : List (Addr × Obj))); k_mem)); (· assumption); (· assumption); (· assumption); (· assumption); (· assumption); (· assumption); k_whole; intro zr9 ztl9 zh9 ztk9 zF9 zN9 zho9; have ze8 := zho9; rw [‹isSub _ _ _ _ = _›] at ze8; subst ze8; (try simp only [List.nil_append, List.cons_append] at zN9); (try dsimp only); (try k_fold))) | ((with_reducible show wpAny _ _ (call (Value.builtin "len") [Value.ref _]) _ _ _); k_dflt (refine' len_L (by exact News.get (by k_asm) (by k_mem)) (by assumption) (by first | assumption | (simp only [List.length_take] at *; omega)) ?_; k_whole)) | ((with_reducible show wpAny _ _ (call (Value.builtin _) [Value.bytes (pathB _ _ _) _, Value.str _ _]) _ _ _); k_dflt (refine' decode_path (by assumption) (by assumption) (by assumption) ?_; k_whole); intro zt9 zk9) | (k_here; (with_reducible show wpAny _ _ (call (Value.type "bytes") [Value.ref _]) _ _ _); k_dflt (refine' make_M (by k_asm) (by k_asm) (by exact rfl) (by k_mem) (by assumption) (by assumption) (by assumption) ?_; k_whole); intro zh9 zt9 zk9 zF9 zN9) | ((with_reducible show wpAny _ _ (call (Value.ref 144) _ _) _ _ _); k_dflt (refine' con_use (b64encode_p _ _ (by assumption) (by assumption) _ _ _ _ _) (by k_asm) (by k_asm) (by k_asm) (by k_asm) (by k_asm) (by first | exact rfl | assumption) (by ktr_room) (by ktr_units) ?_; k_whole; intro zr9 ztl9 zh9 ztk9 zF9 zN9 zho9; obtain ⟨zt8, ze8⟩ := zho9; subst ze8; (try simp only [List.nil_append, List.cons_append] at zN9); (try dsimp only); (try k_fold)))) | ((with_reducible show wpAny _ _ (subscriptTail _ _ _ _) _ _ _); first | ((with_reducible show wpAny _ _ (subscriptTail _ (PySem.Expr.Slice (some _) none none _) (Value.ref _) (Value.ref _)) _ _ _); k_dflt (refine kba_turn (value' := PySem.Expr.Name (PySem.Str.ofString "_") ⟨0, 0, 0, 0⟩) (fun _ => rfl) ?_; refine' slice_D (by k_asm) (by k_asm) (by exact News.get (by k_asm) (by k_mem)) (by assumption) (by assumption) (by exact Int.natCast_nonneg _) ?_; k_whole); intro zD9 zws9 zh9 zF9 zN9 zl9 zi9; (try k_lt zl9)) | (first | ((with_reducible show wpAny _ _ (subscriptTail _ _ (Value.ref _) (Value.int 0 _)) _ _ _); k_dflt (refine' item_pair0 (by exact News.get (by k_asm) (by k_mem)) ?_; k_whole)) | ((with_reducible show wpAny _ _ (subscriptTail _ _ (Value.ref _) (Value.int 1 _)) _ _ _); k_dflt (refine' item_pair1 (by exact News.get (by k_asm) (by k_mem)) ?_; k_whole)))) | walk1) | (leave1; walk_say "STEP leave1"; try dsimp only) | fail "no step")
  case step =>
    rintro K a0 a1 slash lead u1 u2 u3 Tk I oI m₁ oL oA h tk hKL hKA hTK hbK hKe hpar ⟨cl0, hcl⟩ ⟨ca0, hca⟩ hm1 hm2 hKI hLI hAI ⟨v1, v2, v3, hTk⟩ F2 N2
    have F3 := fr_know2 hm1 hm2 F2
    have hR2 := hR1.mono hbK
    clear F2 hKe
    repeat' (first | ((fail_if_success (with_reducible show wpAny _ _ (exec (PySem.Stmt.Assign _ (PySem.Expr.ListComp _ _ _ _) _) _) _ _ _)); first | (k_unfold; (try dsimp only)) | (k_end; wrow_close) | ((with_reducible show wpAny _ _ (compareOp _ _ _) _ _ _); first | ((with_reducible show wpAny _ _ (compareOp CmpOp.NotEq (Value.bytes _ _) (Value.bytes _ _)) _ _ _); refine ne_same ?_)) | ((with_reducible show wpAny _ _ (call _ _ _) _ _ _); first | ((with_reducible show wpAny _ _ (call (Value.ref 152) _ _) _ _ _); k_dflt (refine' con_use (b64decode_p _ (by assumption) (by assumption) (by assumption) (by assumption) (by assumption) _ _ _) (by k_asm) (by k_asm) (by k_asm) (by k_asm) (by k_asm) (by first | exact rfl | assumption) (by ktr_room) (by ktr_units) ?_; k_whole; intro zr9 ztl9 zh9 ztk9 zF9 zN9 zho9; obtain ⟨zt8, ze8⟩ := zho9; subst ze8; (try simp only [List.nil_append, List.cons_append] at zN9); (try dsimp only); (try k_fold))) | ((with_reducible show wpAny _ _ (call (Value.ref 164) _ _) _ _ _); k_dflt (refine' con_use (below_c _ _ _ _ _ _ _ _ _ _ _ _ _ _ _ _ _ _ _ ?_ ?_ ?_ ?_ ?_ ?_ ?_ ?_ _ ?_ ?_ ?_ ?_) (by k_asm) (by k_asm) (by k_asm) (by k_asm) (by k_asm) (by first | exact rfl | assumption) (by ktr_room) (by ktr_units) ?_; (any_goals ((with_reducible show (_ : Addr × Obj) ∈ (_ : List (Addr × Obj))); k_mem)); (any_goals ((with_reducible show IntsAre _ _); assumption)); (· assumption); (· assumption); (· assumption); (· assumption); (· assumption); (· assumption); k_whole; intro zr9 ztl9 zh9 ztk9 zF9 zN9 zho9; have ze8 := zho9; subst ze8; (try simp only [List.nil_append, List.cons_append] at zN9); (try dsimp only); (try k_fold))) | ((with_reducible show wpAny _ _ (call (Value.ref 64) _ _) _ _ _); k_dflt (refine' con_use (suburi_c _ _ _ _ _ _ _ _ _ _ _ _ ?_ ?_ ?_ ?_ ?_ ?_ _ ?_ ?_) (by k_asm) (by k_asm) (by k_asm) (by k_asm) (by k_asm) (by first | exact rfl | assumption) (by ktr_room) (by ktr_units) ?_; (any_goals ((with_reducible show (_ : Addr × Obj) ∈ (_ : List (Addr × Obj))); k_mem)); (· assumption); (· assumption); (· assumption); (· assumption); (· assumption); (· assumption); k_whole; intro zr9 ztl9 zh9 ztk9 zF9 zN9 zho9; have ze8 := zho9; rw [‹isSub _ _ _ _ = _›] at ze8; subst ze8; (try simp only [List.nil_append, List.cons_append] at zN9); (try dsimp only); (try k_fold))) | ((with_reducible show wpAny _ _ (call (Value.builtin "len") [Value.ref _]) _ _ _); k_dflt (refine' len_L (by exact News.get (by k_asm) (by k_mem)) (by assumption) (by first | assumption | (simp only [List.length_take] at *; omega)) ?_; k_whole)) | ((with_reducible show wpAny _ _ (call (Value.builtin _) [Value.bytes (pathB _ _ _) _, Value.str _ _]) _ _ _); k_dflt (refine' decode_path (by assumption) (by assumption) (by assumption) ?_; k_whole); intro zt9 zk9) | (k_here; (with_reducible show wpAny _ _ (call (Value.type "bytes") [Value.ref _]) _ _ _); k_dflt (refine' make_M (by k_asm) (by k_asm) (by exact rfl) (by k_mem) (by assumption) (by assumption) (by assumption) ?_; k_whole); intro zh9 zt9 zk9 zF9 zN9) | ((with_reducible show wpAny _ _ (call (Value.ref 144) _ _) _ _ _); k_dflt (refine' con_use (b64encode_p _ _ (by assumption) (by assumption) _ _ _ _ _) (by k_asm) (by k_asm) (by k_asm) (by k_asm) (by k_asm) (by first | exact rfl | assumption) (by ktr_room) (by ktr_units) ?_; k_whole; intro zr9 ztl9 zh9 ztk9 zF9 zN9 zho9; obtain ⟨zt8, ze8⟩ := zho9; subst ze8; (try simp only [List.nil_append, List.cons_append] at zN9); (try dsimp only); (try k_fold)))) | ((with_reducible show wpAny _ _ (subscriptTail _ _ _ _) _ _ _); first | ((with_reducible show wpAny _ _ (subscriptTail _ (PySem.Expr.Slice (some _) none none _) (Value.ref _) (Value.ref _)) _ _ _); k_dflt (refine kba_turn (value' := PySem.Expr.Name (PySem.Str.ofString "_") ⟨0, 0, 0, 0⟩) (fun _ => rfl) ?_; refine' slice_D (by k_asm) (by k_asm) (by exact News.get (by k_asm) (by k_mem)) (by assumption) (by assumption) (by exact Int.natCast_nonneg _) ?_; k_whole); intro zD9 zws9 zh9 zF9 zN9 zl9 zi9; (try k_lt zl9)) | (first | ((with_reducible show wpAny _ _ (subscriptTail _ _ (Value.ref _) (Value.int 0 _)) _ _ _); k_dflt (refine' item_pair0 (by exact News.get (by k_asm) (by k_mem)) ?_; k_whole)) | ((with_reducible show wpAny _ _ (subscriptTail _ _ (Value.ref _) (Value.int 1 _)) _ _ _); k_dflt (refine' item_pair1 (by exact News.get (by k_asm) (by k_mem)) ?_; k_whole)))) | walk1 | (dsimp only; first | ((with_reducible show wpAny _ _ (compareOp _ _ _) _ _ _); first | ((with_reducible show wpAny _ _ (compareOp CmpOp.NotEq (Value.bytes _ _) (Value.bytes _ _)) _ _ _); refine ne_same ?_)) | ((with_reducible show wpAny _ _ (call _ _ _) _ _ _); first | ((with_reducible show wpAny _ _ (call (Value.ref 152) _ _) _ _ _); k_dflt (refine' con_use (b64decode_p _ (by assumption) (by assumption) (by assumption) (by assumption) (by assumption) _ _ _) (by k_asm) (by k_asm) (by k_asm) (by k_asm) (by k_asm) (by first | exact rfl | assumption) (by ktr_room) (by ktr_units) ?_; k_whole; intro zr9 ztl9 zh9 ztk9 zF9 zN9 zho9; obtain ⟨zt8, ze8⟩ := zho9; subst ze8; (try simp only [List.nil_append, List.cons_append] at zN9); (try dsimp only); (try k_fold))) | ((with_reducible show wpAny _ _ (call (Value.ref 164) _ _) _ _ _); k_dflt (refine' con_use (below_c _ _ _ _ _ _ _ _ _ _ _ _ _ _ _ _ _ _ _ ?_ ?_ ?_ ?_ ?_ ?_ ?_ ?_ _ ?_ ?_ ?_ ?_) (by k_asm) (by k_asm) (by k_asm) (by k_asm) (by k_asm) (by first | exact rfl | assumption) (by ktr_room) (by ktr_units) ?_; (any_goals ((with_reducible show (_ : Addr × Obj) ∈ (_ : List (Addr × Obj))); k_mem)); (any_goals ((with_reducible show IntsAre _ _); assumption)); (· assumption); (· assumption); (· assumption); (· assumption); (· assumption); (· assumption); k_whole; intro zr9 ztl9 zh9 ztk9 zF9 zN9 zho9; have ze8 := zho9; subst ze8; (try simp only [List.nil_append, List.cons_append] at zN9); (try dsimp only); (try k_fold))) | ((with_reducible show wpAny _ _ (call (Value.ref 64) _ _) _ _ _); k_dflt (refine' con_use (suburi_c _ _ _ _ _ _ _ _ _ _ _ _ ?_ ?_ ?_ ?_ ?_ ?_ _ ?_ ?_) (by k_asm) (by k_asm) (by k_asm) (by k_asm) (by k_asm) (by first | exact rfl | assumption) (by ktr_room) (by ktr_units) ?_; (any_goals ((with_reducible show (_ : Addr × Obj) ∈ (_ : List (Addr × Obj))); k_mem)); (· assumption); (· assumption); (· assumption); (· assumption); (· assumption); (· assumption); k_whole; intro zr9 ztl9 zh9 ztk9 zF9 zN9 zho9; have ze8 := zho9; rw [‹isSub _ _ _ _ = _›] at ze8; subst ze8; (try simp only [List.nil_append, List.cons_append] at zN9); (try dsimp only); (try k_fold))) | ((with_reducible show wpAny _ _ (call (Value.builtin "len") [Value.ref _]) _ _ _); k_dflt (refine' len_L (by exact News.get (by k_asm) (by k_mem)) (by assumption) (by first | assumption | (simp only [List.length_take] at *; omega)) ?_; k_whole)) | ((with_reducible show wpAny _ _ (call (Value.builtin _) [Value.bytes (pathB _ _ _) _, Value.str _ _]) _ _ _); k_dflt (refine' decode_path (by assumption) (by assumption) (by assumption) ?_; k_whole); intro zt9 zk9) | (k_here; (with_reducible show wpAny _ _ (call (Value.type "bytes") [Value.ref _]) _ _ _); k_dflt (refine' make_M (by k_asm) (by k_asm) (by exact rfl) (by k_mem) (by assumption) (by assumption) (by assumption) ?_; k_whole); intro zh9 zt9 zk9 zF9 zN9) | ((with_reducible show wpAny _ _ (call (Value.ref 144) _ _) _ _ _); k_dflt (refine' con_use (b64encode_p _ _ (by assumption) (by assumption) _ _ _ _ _) (by k_asm) (by k_asm) (by k_asm) (by k_asm) (by k_asm) (by first | exact rfl | assumption) (by ktr_room) (by ktr_units) ?_; k_whole; intro zr9 ztl9 zh9 ztk9 zF9 zN9 zho9; obtain ⟨zt8, ze8⟩ := zho9; subst ze8; (try simp only [List.nil_append, List.cons_append] at zN9); (try dsimp only); (try k_fold)))) | ((with_reducible show wpAny _ _ (subscriptTail _ _ _ _) _ _ _); first | ((with_reducible show wpAny _ _ (subscriptTail _ (PySem.Expr.Slice (some _) none none _) (Value.ref _) (Value.ref _)) _ _ _); k_dflt (refine kba_turn (value' := PySem.Expr.Name (PySem.Str.ofString "_") ⟨0, 0, 0, 0⟩) (fun _ => rfl) ?_; refine' slice_D (by k_asm) (by k_asm) (by exact News.get (by k_asm) (by k_mem)) (by assumption) (by assumption) (by exact Int.natCast_nonneg _) ?_; k_whole); intro zD9 zws9 zh9 zF9 zN9 zl9 zi9; (try k_lt zl9)) | (first | ((with_reducible show wpAny _ _ (subscriptTail _ _ (Value.ref _) (Value.int 0 _)) _ _ _); k_dflt (refine' item_pair0 (by exact News.get (by k_asm) (by k_mem)) ?_; k_whole)) | ((with_reducible show wpAny _ _ (subscriptTail _ _ (Value.ref _) (Value.int 1 _)) _ _ _); k_dflt (refine' item_pair1 (by exact News.get (by k_asm) (by k_mem)) ?_; k_whole)))) | walk1) | (leave1; walk_say "STEP leave1"; try dsimp only)) | fail "no step")
    k_dflt (refine LCp.Assign_ListComp_P (F₀ := by k_asm) (by rfl) (by with_unfolding_all rfl) (by with_unfolding_all rfl) (by decide) (by rfl) (by decide) (by rfl) (by rfl) (by decide) (by rfl) (by rfl) ?_)
    repeat' (first | (k_unfold; (try dsimp only)) | (k_end; wrow_close) | ((with_reducible show wpAny _ _ (compareOp _ _ _) _ _ _); first | ((with_reducible show wpAny _ _ (compareOp CmpOp.NotEq (Value.bytes _ _) (Value.bytes _ _)) _ _ _); refine ne_same ?_)) | ((with_reducible show wpAny _ _ (call _ _ _) _ _ _); first | ((with_reducible show wpAny _ _ (call (Value.ref 152) _ _) _ _ _); k_dflt (refine' con_use (b64decode_p _ (by assumption) (by assumption) (by assumption) (by assumption) (by assumption) _ _ _) (by k_asm) (by k_asm) (by k_asm) (by k_asm) (by k_asm) (by first | exact rfl | assumption) (by ktr_room) (by ktr_units) ?_; k_whole; intro zr9 ztl9 zh9 ztk9 zF9 zN9 zho9; obtain ⟨zt8, ze8⟩ := zho9; subst ze8; (try simp only [List.nil_append, List.cons_append] at zN9); (try dsimp only); (try k_fold))) | ((with_reducible show wpAny _ _ (call (Value.ref 164) _ _) _ _ _); k_dflt (refine' con_use (below_c _ _ _ _ _ _ _ _ _ _ _ _ _ _ _ _ _ _ _ ?_ ?_ ?_ ?_ ?_ ?_ ?_ ?_ _ ?_ ?_ ?_ ?_) (by k_asm) (by k_asm) (by k_asm) (by k_asm) (by k_asm) (by first | exact rfl | assumption) (by ktr_room) (by ktr_units) ?_; (any_goals ((with_reducible show (_ : Addr × Obj) ∈ (_ : List (Addr × Obj))); k_mem)); (any_goals ((with_reducible show IntsAre _ _); assumption)); (· assumption); (· assumption); (· assumption); (· assumption); (· assumption); (· assumption); k_whole; intro zr9 ztl9 zh9 ztk9 zF9 zN9 zho9; have ze8 := zho9; subst ze8; (try simp only [List.nil_append, List.cons_append] at zN9); (try dsimp only); (try k_fold))) | ((with_reducible show wpAny _ _ (call (Value.ref 64) _ _) _ _ _); k_dflt (refine' con_use (suburi_c _ _ _ _ _ _ _ _ _ _ _ _ ?_ ?_ ?_ ?_ ?_ ?_ _ ?_ ?_) (by k_asm) (by k_asm) (by k_asm) (by k_asm) (by k_asm) (by first | exact rfl | assumption) (by ktr_room) (by ktr_units) ?_; (any_goals ((with_reducible show (_ : Addr × Obj) ∈ (_ : List (Addr × Obj))); k_mem)); (· assumption); (· assumption); (· assumption); (· assumption); (· assumption); (· assumption); k_whole; intro zr9 ztl9 zh9 ztk9 zF9 zN9 zho9; have ze8 := zho9; rw [‹isSub _ _ _ _ = _›] at ze8; subst ze8; (try simp only [List.nil_append, List.cons_append] at zN9); (try dsimp only); (try k_fold))) | ((with_reducible show wpAny _ _ (call (Value.builtin "len") [Value.ref _]) _ _ _); k_dflt (refine' len_L (by exact News.get (by k_asm) (by k_mem)) (by assumption) (by first | assumption | (simp only [List.length_take] at *; omega)) ?_; k_whole)) | ((with_reducible show wpAny _ _ (call (Value.builtin _) [Value.bytes (pathB _ _ _) _, Value.str _ _]) _ _ _); k_dflt (refine' decode_path (by assumption) (by assumption) (by assumption) ?_; k_whole); intro zt9 zk9) | (k_here; (with_reducible show wpAny _ _ (call (Value.type "bytes") [Value.ref _]) _ _ _); k_dflt (refine' make_M (by k_asm) (by k_asm) (by exact rfl) (by k_mem) (by assumption) (by assumption) (by assumption) ?_; k_whole); intro zh9 zt9 zk9 zF9 zN9) | ((with_reducible show wpAny _ _ (call (Value.ref 144) _ _) _ _ _); k_dflt (refine' con_use (b64encode_p _ _ (by assumption) (by assumption) _ _ _ _ _) (by k_asm) (by k_asm) (by k_asm) (by k_asm) (by k_asm) (by first | exact rfl | assumption) (by ktr_room) (by ktr_units) ?_; k_whole; intro zr9 ztl9 zh9 ztk9 zF9 zN9 zho9; obtain ⟨zt8, ze8⟩ := zho9; subst ze8; (try simp only [List.nil_append, List.cons_append] at zN9); (try dsimp only); (try k_fold)))) | ((with_reducible show wpAny _ _ (subscriptTail _ _ _ _) _ _ _); first | ((with_reducible show wpAny _ _ (subscriptTail _ (PySem.Expr.Slice (some _) none none _) (Value.ref _) (Value.ref _)) _ _ _); k_dflt (refine kba_turn (value' := PySem.Expr.Name (PySem.Str.ofString "_") ⟨0, 0, 0, 0⟩) (fun _ => rfl) ?_; refine' slice_D (by k_asm) (by k_asm) (by exact News.get (by k_asm) (by k_mem)) (by assumption) (by assumption) (by exact Int.natCast_nonneg _) ?_; k_whole); intro zD9 zws9 zh9 zF9 zN9 zl9 zi9; (try k_lt zl9)) | (first | ((with_reducible show wpAny _ _ (subscriptTail _ _ (Value.ref _) (Value.int 0 _)) _ _ _); k_dflt (refine' item_pair0 (by exact News.get (by k_asm) (by k_mem)) ?_; k_whole)) | ((with_reducible show wpAny _ _ (subscriptTail _ _ (Value.ref _) (Value.int 1 _)) _ _ _); k_dflt (refine' item_pair1 (by exact News.get (by k_asm) (by k_mem)) ?_; k_whole)))) | walk1 | (dsimp only; first | ((with_reducible show wpAny _ _ (compareOp _ _ _) _ _ _); first | ((with_reducible show wpAny _ _ (compareOp CmpOp.NotEq (Value.bytes _ _) (Value.bytes _ _)) _ _ _); refine ne_same ?_)) | ((with_reducible show wpAny _ _ (call _ _ _) _ _ _); first | ((with_reducible show wpAny _ _ (call (Value.ref 152) _ _) _ _ _); k_dflt (refine' con_use (b64decode_p _ (by assumption) (by assumption) (by assumption) (by assumption) (by assumption) _ _ _) (by k_asm) (by k_asm) (by k_asm) (by k_asm) (by k_asm) (by first | exact rfl | assumption) (by ktr_room) (by ktr_units) ?_; k_whole; intro zr9 ztl9 zh9 ztk9 zF9 zN9 zho9; obtain ⟨zt8, ze8⟩ := zho9; subst ze8; (try simp only [List.nil_append, List.cons_append] at zN9); (try dsimp only); (try k_fold))) | ((with_reducible show wpAny _ _ (call (Value.ref 164) _ _) _ _ _); k_dflt (refine' con_use (below_c _ _ _ _ _ _ _ _ _ _ _ _ _ _ _ _ _ _ _ ?_ ?_ ?_ ?_ ?_ ?_ ?_ ?_ _ ?_ ?_ ?_ ?_) (by k_asm) (by k_asm) (by k_asm) (by k_asm) (by k_asm) (by first | exact rfl | assumption) (by ktr_room) (by ktr_units) ?_; (any_goals ((with_reducible show (_ : Addr × Obj) ∈ (_ : List (Addr × Obj))); k_mem)); (any_goals ((with_reducible show IntsAre _ _); assumption)); (· assumption); (· assumption); (· assumption); (· assumption); (· assumption); (· assumption); k_whole; intro zr9 ztl9 zh9 ztk9 zF9 zN9 zho9; have ze8 := zho9; subst ze8; (try simp only [List.nil_append, List.cons_append] at zN9); (try dsimp only); (try k_fold))) | ((with_reducible show wpAny _ _ (call (Value.ref 64) _ _) _ _ _); k_dflt (refine' con_use (suburi_c _ _ _ _ _ _ _ _ _ _ _ _ ?_ ?_ ?_ ?_ ?_ ?_ _ ?_ ?_) (by k_asm) (by k_asm) (by k_asm) (by k_asm) (by k_asm) (by first | exact rfl | assumption) (by ktr_room) (by ktr_units) ?_; (any_goals ((with_reducible show (_ : Addr × Obj) ∈ (_ : List (Addr × Obj))); k_mem)); (· assumption); (· assumption); (· assumption); (· assumption); (· assumption); (· assumption); k_whole; intro zr9 ztl9 zh9 ztk9 zF9 zN9 zho9; have ze8 := zho9; rw [‹isSub _ _ _ _ = _›] at ze8; subst ze8; (try simp only [List.nil_append, List.cons_append] at zN9); (try dsimp only); (try k_fold))) | ((with_reducible show wpAny _ _ (call (Value.builtin "len") [Value.ref _]) _ _ _); k_dflt (refine' len_L (by exact News.get (by k_asm) (by k_mem)) (by assumption) (by first | assumption | (simp only [List.length_take] at *; omega)) ?_; k_whole)) | ((with_reducible show wpAny _ _ (call (Value.builtin _) [Value.bytes (pathB _ _ _) _, Value.str _ _]) _ _ _); k_dflt (refine' decode_path (by assumption) (by assumption) (by assumption) ?_; k_whole); intro zt9 zk9) | (k_here; (with_reducible show wpAny _ _ (call (Value.type "bytes") [Value.ref _]) _ _ _); k_dflt (refine' make_M (by k_asm) (by k_asm) (by exact rfl) (by k_mem) (by assumption) (by assumption) (by assumption) ?_; k_whole); intro zh9 zt9 zk9 zF9 zN9) | ((with_reducible show wpAny _ _ (call (Value.ref 144) _ _) _ _ _); k_dflt (refine' con_use (b64encode_p _ _ (by assumption) (by assumption) _ _ _ _ _) (by k_asm) (by k_asm) (by k_asm) (by k_asm) (by k_asm) (by first | exact rfl | assumption) (by ktr_room) (by ktr_units) ?_; k_whole; intro zr9 ztl9 zh9 ztk9 zF9 zN9 zho9; obtain ⟨zt8, ze8⟩ := zho9; subst ze8; (try simp only [List.nil_append, List.cons_append] at zN9); (try dsimp only); (try k_fold)))) | ((with_reducible show wpAny _ _ (subscriptTail _ _ _ _) _ _ _); first | ((with_reducible show wpAny _ _ (subscriptTail _ (PySem.Expr.Slice (some _) none none _) (Value.ref _) (Value.ref _)) _ _ _); k_dflt (refine kba_turn (value' := PySem.Expr.Name (PySem.Str.ofString "_") ⟨0, 0, 0, 0⟩) (fun _ => rfl) ?_; refine' slice_D (by k_asm) (by k_asm) (by exact News.get (by k_asm) (by k_mem)) (by assumption) (by assumption) (by exact Int.natCast_nonneg _) ?_; k_whole); intro zD9 zws9 zh9 zF9 zN9 zl9 zi9; (try k_lt zl9)) | (first | ((with_reducible show wpAny _ _ (subscriptTail _ _ (Value.ref _) (Value.int 0 _)) _ _ _); k_dflt (refine' item_pair0 (by exact News.get (by k_asm) (by k_mem)) ?_; k_whole)) | ((with_reducible show wpAny _ _ (subscriptTail _ _ (Value.ref _) (Value.int 1 _)) _ _ _); k_dflt (refine' item_pair1 (by exact News.get (by k_asm) (by k_mem)) ?_; k_whole)))) | walk1) | (leave1; walk_say "STEP leave1"; try dsimp only) | fail "no step")
    refine paths_of rfl (by assumption) (by assumption) (List.mem_cons_of_mem _ (List.mem_cons_of_mem _ (List.mem_cons_of_mem _ (List.mem_cons_of_mem _ (List.mem_cons_of_mem _ List.mem_cons_self))))) (hR2.mono fun p hp => List.mem_cons_of_mem _ (List.mem_cons_of_mem _ (List.mem_cons_of_mem _ (List.mem_cons_of_mem _ (List.mem_cons_of_mem _ (List.mem_cons_of_mem _ hp)))))) hgl (fun r => pathOf a0 a1 lead r.2) ?turn ?fin
    case turn =>
      intro i r a t l vs n I2 oI2 C oC D ys m₂ h tk E' hr ha hl hi hC hx1 hx2 F4 N4 off ne1
      have hro := hok r (List.mem_of_getElem? hr)
      have hin := hro.2.1
      have hlen := hro.2.2
      have hadd : lead.length + (pathS a0 a1 r.2).length ≤ sizeLine := path_fits hpar hlen
      change wpAny _ _ _ (PathEnd _ _ _ _ ((I2, oI2) :: (C, oC) :: (D, LCg.lst ys) :: _) (pathOf a0 a1 lead r.2)) _ _
      repeat' (first | (k_unfold; (try dsimp only)) | (k_end; wrow_close) | ((with_reducible show wpAny _ _ (compareOp _ _ _) _ _ _); first | ((with_reducible show wpAny _ _ (compareOp CmpOp.NotEq (Value.bytes _ _) (Value.bytes _ _)) _ _ _); refine ne_same ?_)) | ((with_reducible show wpAny _ _ (call _ _ _) _ _ _); first | ((with_reducible show wpAny _ _ (call (Value.ref 152) _ _) _ _ _); k_dflt (refine' con_use (b64decode_p _ (by assumption) (by assumption) (by assumption) (by assumption) (by assumption) _ _ _) (by k_asm) (by k_asm) (by k_asm) (by k_asm) (by k_asm) (by first | exact rfl | assumption) (by ktr_room) (by ktr_units) ?_; k_whole; intro zr9 ztl9 zh9 ztk9 zF9 zN9 zho9; obtain ⟨zt8, ze8⟩ := zho9; subst ze8; (try simp only [List.nil_append, List.cons_append] at zN9); (try dsimp only); (try k_fold))) | ((with_reducible show wpAny _ _ (call (Value.ref 164) _ _) _ _ _); k_dflt (refine' con_use (below_c _ _ _ _ _ _ _ _ _ _ _ _ _ _ _ _ _ _ _ ?_ ?_ ?_ ?_ ?_ ?_ ?_ ?_ _ ?_ ?_ ?_ ?_) (by k_asm) (by k_asm) (by k_asm) (by k_asm) (by k_asm) (by first | exact rfl | assumption) (by ktr_room) (by ktr_units) ?_; (any_goals ((with_reducible show (_ : Addr × Obj) ∈ (_ : List (Addr × Obj))); k_mem)); (any_goals ((with_reducible show IntsAre _ _); assumption)); (· assumption); (· assumption); (· assumption); (· assumption); (· assumption); (· assumption); k_whole; intro zr9 ztl9 zh9 ztk9 zF9 zN9 zho9; have ze8 := zho9; subst ze8; (try simp only [List.nil_append, List.cons_append] at zN9); (try dsimp only); (try k_fold))) | ((with_reducible show wpAny _ _ (call (Value.ref 64) _ _) _ _ _); k_dflt (refine' con_use (suburi_c _ _ _ _ _ _ _ _ _ _ _ _ ?_ ?_ ?_ ?_ ?_ ?_ _ ?_ ?_) (by k_asm) (by k_asm) (by k_asm) (by k_asm) (by k_asm) (by first | exact rfl | assumption) (by ktr_room) (by ktr_units) ?_; (any_goals ((with_reducible show (_ : Addr × Obj) ∈ (_ : List (Addr × Obj))); k_mem)); (· assumption); (· assumption); (· assumption); (· assumption); (· assumption); (· assumption); k_whole; intro zr9 ztl9 zh9 ztk9 zF9 zN9 zho9; have ze8 := zho9; rw [‹isSub _ _ _ _ = _›] at ze8; subst ze8; (try simp only [List.nil_append, List.cons_append] at zN9); (try dsimp only); (try k_fold))) | ((with_reducible show wpAny _ _ (call (Value.builtin "len") [Value.ref _]) _ _ _); k_dflt (refine' len_L (by exact News.get (by k_asm) (by k_mem)) (by assumption) (by first | assumption | (simp only [List.length_take] at *; omega)) ?_; k_whole)) | ((with_reducible show wpAny _ _ (call (Value.builtin _) [Value.bytes (pathB _ _ _) _, Value.str _ _]) _ _ _); k_dflt (refine' decode_path (by assumption) (by assumption) (by assumption) ?_; k_whole); intro zt9 zk9) | (k_here; (with_reducible show wpAny _ _ (call (Value.type "bytes") [Value.ref _]) _ _ _); k_dflt (refine' make_M (by k_asm) (by k_asm) (by exact rfl) (by k_mem) (by assumption) (by assumption) (by assumption) ?_; k_whole); intro zh9 zt9 zk9 zF9 zN9) | ((with_reducible show wpAny _ _ (call (Value.ref 144) _ _) _ _ _); k_dflt (refine' con_use (b64encode_p _ _ (by assumption) (by assumption) _ _ _ _ _) (by k_asm) (by k_asm) (by k_asm) (by k_asm) (by k_asm) (by first | exact rfl | assumption) (by ktr_room) (by ktr_units) ?_; k_whole; intro zr9 ztl9 zh9 ztk9 zF9 zN9 zho9; obtain ⟨zt8, ze8⟩ := zho9; subst ze8; (try simp only [List.nil_append, List.cons_append] at zN9); (try dsimp only); (try k_fold)))) | ((with_reducible show wpAny _ _ (subscriptTail _ _ _ _) _ _ _); first | ((with_reducible show wpAny _ _ (subscriptTail _ (PySem.Expr.Slice (some _) none none _) (Value.ref _) (Value.ref _)) _ _ _); k_dflt (refine kba_turn (value' := PySem.Expr.Name (PySem.Str.ofString "_") ⟨0, 0, 0, 0⟩) (fun _ => rfl) ?_; refine' slice_D (by k_asm) (by k_asm) (by exact News.get (by k_asm) (by k_mem)) (by assumption) (by assumption) (by exact Int.natCast_nonneg _) ?_; k_whole); intro zD9 zws9 zh9 zF9 zN9 zl9 zi9; (try k_lt zl9)) | (first | ((with_reducible show wpAny _ _ (subscriptTail _ _ (Value.ref _) (Value.int 0 _)) _ _ _); k_dflt (refine' item_pair0 (by exact News.get (by k_asm) (by k_mem)) ?_; k_whole)) | ((with_reducible show wpAny _ _ (subscriptTail _ _ (Value.ref _) (Value.int 1 _)) _ _ _); k_dflt (refine' item_pair1 (by exact News.get (by k_asm) (by k_mem)) ?_; k_whole)))) | walk1 | (dsimp only; first | ((with_reducible show wpAny _ _ (compareOp _ _ _) _ _ _); first | ((with_reducible show wpAny _ _ (compareOp CmpOp.NotEq (Value.bytes _ _) (Value.bytes _ _)) _ _ _); refine ne_same ?_)) | ((with_reducible show wpAny _ _ (call _ _ _) _ _ _); first | ((with_reducible show wpAny _ _ (call (Value.ref 152) _ _) _ _ _); k_dflt (refine' con_use (b64decode_p _ (by assumption) (by assumption) (by assumption) (by assumption) (by assumption) _ _ _) (by k_asm) (by k_asm) (by k_asm) (by k_asm) (by k_asm) (by first | exact rfl | assumption) (by ktr_room) (by ktr_units) ?_; k_whole; intro zr9 ztl9 zh9 ztk9 zF9 zN9 zho9; obtain ⟨zt8, ze8⟩ := zho9; subst ze8; (try simp only [List.nil_append, List.cons_append] at zN9); (try dsimp only); (try k_fold))) | ((with_reducible show wpAny _ _ (call (Value.ref 164) _ _) _ _ _); k_dflt (refine' con_use (below_c _ _ _ _ _ _ _ _ _ _ _ _ _ _ _ _ _ _ _ ?_ ?_ ?_ ?_ ?_ ?_ ?_ ?_ _ ?_ ?_ ?_ ?_) (by k_asm) (by k_asm) (by k_asm) (by k_asm) (by k_asm) (by first | exact rfl | assumption) (by ktr_room) (by ktr_units) ?_; (any_goals ((with_reducible show (_ : Addr × Obj) ∈ (_ : List (Addr × Obj))); k_mem)); (any_goals ((with_reducible show IntsAre _ _); assumption)); (· assumption); (· assumption); (· assumption); (· assumption); (· assumption); (· assumption); k_whole; intro zr9 ztl9 zh9 ztk9 zF9 zN9 zho9; have ze8 := zho9; subst ze8; (try simp only [List.nil_append, List.cons_append] at zN9); (try dsimp only); (try k_fold))) | ((with_reducible show wpAny _ _ (call (Value.ref 64) _ _) _ _ _); k_dflt (refine' con_use (suburi_c _ _ _ _ _ _ _ _ _ _ _ _ ?_ ?_ ?_ ?_ ?_ ?_ _ ?_ ?_) (by k_asm) (by k_asm) (by k_asm) (by k_asm) (by k_asm) (by first | exact rfl | assumption) (by ktr_room) (by ktr_units) ?_; (any_goals ((with_reducible show (_ : Addr × Obj) ∈ (_ : List (Addr × Obj))); k_mem)); (· assumption); (· assumption); (· assumption); (· assumption); (· assumption); (· assumption); k_whole; intro zr9 ztl9 zh9 ztk9 zF9 zN9 zho9; have ze8 := zho9; rw [‹isSub _ _ _ _ = _›] at ze8; subst ze8; (try simp only [List.nil_append, List.cons_append] at zN9); (try dsimp only); (try k_fold))) | ((with_reducible show wpAny _ _ (call (Value.builtin "len") [Value.ref _]) _ _ _); k_dflt (refine' len_L (by exact News.get (by k_asm) (by k_mem)) (by assumption) (by first | assumption | (simp only [List.length_take] at *; omega)) ?_; k_whole)) | ((with_reducible show wpAny _ _ (call (Value.builtin _) [Value.bytes (pathB _ _ _) _, Value.str _ _]) _ _ _); k_dflt (refine' decode_path (by assumption) (by assumption) (by assumption) ?_; k_whole); intro zt9 zk9) | (k_here; (with_reducible show wpAny _ _ (call (Value.type "bytes") [Value.ref _]) _ _ _); k_dflt (refine' make_M (by k_asm) (by k_asm) (by exact rfl) (by k_mem) (by assumption) (by assumption) (by assumption) ?_; k_whole); intro zh9 zt9 zk9 zF9 zN9) | ((with_reducible show wpAny _ _ (call (Value.ref 144) _ _) _ _ _); k_dflt (refine' con_use (b64encode_p _ _ (by assumption) (by assumption) _ _ _ _ _) (by k_asm) (by k_asm) (by k_asm) (by k_asm) (by k_asm) (by first | exact rfl | assumption) (by ktr_room) (by ktr_units) ?_; k_whole; intro zr9 ztl9 zh9 ztk9 zF9 zN9 zho9; obtain ⟨zt8, ze8⟩ := zho9; subst ze8; (try simp only [List.nil_append, List.cons_append] at zN9); (try dsimp only); (try k_fold)))) | ((with_reducible show wpAny _ _ (subscriptTail _ _ _ _) _ _ _); first | ((with_reducible show wpAny _ _ (subscriptTail _ (PySem.Expr.Slice (some _) none none _) (Value.ref _) (Value.ref _)) _ _ _); k_dflt (refine kba_turn (value' := PySem.Expr.Name (PySem.Str.ofString "_") ⟨0, 0, 0, 0⟩) (fun _ => rfl) ?_; refine' slice_D (by k_asm) (by k_asm) (by exact News.get (by k_asm) (by k_mem)) (by assumption) (by assumption) (by exact Int.natCast_nonneg _) ?_; k_whole); intro zD9 zws9 zh9 zF9 zN9 zl9 zi9; (try k_lt zl9)) | (first | ((with_reducible show wpAny _ _ (subscriptTail _ _ (Value.ref _) (Value.int 0 _)) _ _ _); k_dflt (refine' item_pair0 (by exact News.get (by k_asm) (by k_mem)) ?_; k_whole)) | ((with_reducible show wpAny _ _ (subscriptTail _ _ (Value.ref _) (Value.int 1 _)) _ _ _); k_dflt (refine' item_pair1 (by exact News.get (by k_asm) (by k_mem)) ?_; k_whole)))) | walk1) | (leave1; walk_say "STEP leave1"; try dsimp only) | fail "no step")
      all_goals (refine pathEnd_of (by assumption) (by assumption) ?_)
      all_goals (intro p hp; repeat' (first | exact hp | refine List.mem_cons_of_mem _ ?_ | refine List.mem_append_right _ ?_))
    case fin =>
      intro g ys hys D h tk F4 N4 off
      dsimp only
      repeat' (first | ((fail_if_success (with_reducible show wpAny _ _ (exec (PySem.Stmt.For _ _ _ _ _) _) _ _ _)); first | (k_unfold; (try dsimp only)) | (k_end; wrow_close) | ((with_reducible show wpAny _ _ (compareOp _ _ _) _ _ _); first | ((with_reducible show wpAny _ _ (compareOp CmpOp.NotEq (Value.bytes _ _) (Value.bytes _ _)) _ _ _); refine ne_same ?_)) | ((with_reducible show wpAny _ _ (call _ _ _) _ _ _); first | ((with_reducible show wpAny _ _ (call (Value.ref 152) _ _) _ _ _); k_dflt (refine' con_use (b64decode_p _ (by assumption) (by assumption) (by assumption) (by assumption) (by assumption) _ _ _) (by k_asm) (by k_asm) (by k_asm) (by k_asm) (by k_asm) (by first | exact rfl | assumption) (by ktr_room) (by ktr_units) ?_; k_whole; intro zr9 ztl9 zh9 ztk9 zF9 zN9 zho9; obtain ⟨zt8, ze8⟩ := zho9; subst ze8; (try simp only [List.nil_append, List.cons_append] at zN9); (try dsimp only); (try k_fold))) | ((with_reducible show wpAny _ _ (call (Value.ref 164) _ _) _ _ _); k_dflt (refine' con_use (below_c _ _ _ _ _ _ _ _ _ _ _ _ _ _ _ _ _ _ _ ?_ ?_ ?_ ?_ ?_ ?_ ?_ ?_ _ ?_ ?_ ?_ ?_) (by k_asm) (by k_asm) (by k_asm) (by k_asm) (by k_asm) (by first | exact rfl | assumption) (by ktr_room) (by ktr_units) ?_; (any_goals ((with_reducible show (_ : Addr × Obj) ∈ (_ : List (Addr × Obj))); k_mem)); (any_goals ((with_reducible show IntsAre _ _); assumption)); (· assumption); (· assumption); (· assumption); (· assumption); (· assumption); (· assumption); k_whole; intro zr9 ztl9 zh9 ztk9 zF9 zN9 zho9; have ze8 := zho9; subst ze8; (try simp only [List.nil_append, List.cons_append] at zN9); (try dsimp only); (try k_fold))) | ((with_reducible show wpAny _ _ (call (Value.ref 64) _ _) _ _ _); k_dflt (refine' con_use (suburi_c _ _ _ _ _ _ _ _ _ _ _ _ ?_ ?_ ?_ ?_ ?_ ?_ _ ?_ ?_) (by k_asm) (by k_asm) (by k_asm) (by k_asm) (by k_asm) (by first | exact rfl | assumption) (by ktr_room) (by ktr_units) ?_; (any_goals ((with_reducible show (_ : Addr × Obj) ∈ (_ : List (Addr × Obj))); k_mem)); (· assumption); (· assumption); (· assumption); (· assumption); (· assumption); (· assumption); k_whole; intro zr9 ztl9 zh9 ztk9 zF9 zN9 zho9; have ze8 := zho9; rw [‹isSub _ _ _ _ = _›] at ze8; subst ze8; (try simp only [List.nil_append, List.cons_append] at zN9); (try dsimp only); (try k_fold))) | ((with_reducible show wpAny _ _ (call (Value.builtin "len") [Value.ref _]) _ _ _); k_dflt (refine' len_L (by exact News.get (by k_asm) (by k_mem)) (by assumption) (by first | assumption | (simp only [List.length_take] at *; omega)) ?_; k_whole)) | ((with_reducible show wpAny _ _ (call (Value.builtin _) [Value.bytes (pathB _ _ _) _, Value.str _ _]) _ _ _); k_dflt (refine' decode_path (by assumption) (by assumption) (by assumption) ?_; k_whole); intro zt9 zk9) | (k_here; (with_reducible show wpAny _ _ (call (Value.type "bytes") [Value.ref _]) _ _ _); k_dflt (refine' make_M (by k_asm) (by k_asm) (by exact rfl) (by k_mem) (by assumption) (by assumption) (by assumption) ?_; k_whole); intro zh9 zt9 zk9 zF9 zN9) | ((with_reducible show wpAny _ _ (call (Value.ref 144) _ _) _ _ _); k_dflt (refine' con_use (b64encode_p _ _ (by assumption) (by assumption) _ _ _ _ _) (by k_asm) (by k_asm) (by k_asm) (by k_asm) (by k_asm) (by first | exact rfl | assumption) (by ktr_room) (by ktr_units) ?_; k_whole; intro zr9 ztl9 zh9 ztk9 zF9 zN9 zho9; obtain ⟨zt8, ze8⟩ := zho9; subst ze8; (try simp only [List.nil_append, List.cons_append] at zN9); (try dsimp only); (try k_fold)))) | ((with_reducible show wpAny _ _ (subscriptTail _ _ _ _) _ _ _); first | ((with_reducible show wpAny _ _ (subscriptTail _ (PySem.Expr.Slice (some _) none none _) (Value.ref _) (Value.ref _)) _ _ _); k_dflt (refine kba_turn (value' := PySem.Expr.Name (PySem.Str.ofString "_") ⟨0, 0, 0, 0⟩) (fun _ => rfl) ?_; refine' slice_D (by k_asm) (by k_asm) (by exact News.get (by k_asm) (by k_mem)) (by assumption) (by assumption) (by exact Int.natCast_nonneg _) ?_; k_whole); intro zD9 zws9 zh9 zF9 zN9 zl9 zi9; (try k_lt zl9)) | (first | ((with_reducible show wpAny _ _ (subscriptTail _ _ (Value.ref _) (Value.int 0 _)) _ _ _); k_dflt (refine' item_pair0 (by exact News.get (by k_asm) (by k_mem)) ?_; k_whole)) | ((with_reducible show wpAny _ _ (subscriptTail _ _ (Value.ref _) (Value.int 1 _)) _ _ _); k_dflt (refine' item_pair1 (by exact News.get (by k_asm) (by k_mem)) ?_; k_whole)))) | walk1 | (dsimp only; first | ((with_reducible show wpAny _ _ (compareOp _ _ _) _ _ _); first | ((with_reducible show wpAny _ _ (compareOp CmpOp.NotEq (Value.bytes _ _) (Value.bytes _ _)) _ _ _); refine ne_same ?_)) | ((with_reducible show wpAny _ _ (call _ _ _) _ _ _); first | ((with_reducible show wpAny _ _ (call (Value.ref 152) _ _) _ _ _); k_dflt (refine' con_use (b64decode_p _ (by assumption) (by assumption) (by assumption) (by assumption) (by assumption) _ _ _) (by k_asm) (by k_asm) (by k_asm) (by k_asm) (by k_asm) (by first | exact rfl | assumption) (by ktr_room) (by ktr_units) ?_; k_whole; intro zr9 ztl9 zh9 ztk9 zF9 zN9 zho9; obtain ⟨zt8, ze8⟩ := zho9; subst ze8; (try simp only [List.nil_append, List.cons_append] at zN9); (try dsimp only); (try k_fold))) | ((with_reducible show wpAny _ _ (call (Value.ref 164) _ _) _ _ _); k_dflt (refine' con_use (below_c _ _ _ _ _ _ _ _ _ _ _ _ _ _ _ _ _ _ _ ?_ ?_ ?_ ?_ ?_ ?_ ?_ ?_ _ ?_ ?_ ?_ ?_) (by k_asm) (by k_asm) (by k_asm) (by k_asm) (by k_asm) (by first | exact rfl | assumption) (by ktr_room) (by ktr_units) ?_; (any_goals ((with_reducible show (_ : Addr × Obj) ∈ (_ : List (Addr × Obj))); k_mem)); (any_goals ((with_reducible show IntsAre _ _); assumption)); (· assumption); (· assumption); (· assumption); (· assumption); (· assumption); (· assumption); k_whole; intro zr9 ztl9 zh9 ztk9 zF9 zN9 zho9; have ze8 := zho9; subst ze8; (try simp only [List.nil_append, List.cons_append] at zN9); (try dsimp only); (try k_fold))) | ((with_reducible show wpAny _ _ (call (Value.ref 64) _ _) _ _ _); k_dflt (refine' con_use (suburi_c _ _ _ _ _ _ _ _ _ _ _ _ ?_ ?_ ?_ ?_ ?_ ?_ _ ?_ ?_) (by k_asm) (by k_asm) (by k_asm) (by k_asm) (by k_asm) (by first | exact rfl | assumption) (by ktr_room) (by ktr_units) ?_; (any_goals ((with_reducible show (_ : Addr × Obj) ∈ (_ : List (Addr × Obj))); k_mem)); (· assumption); (· assumption); (· assumption); (· assumption); (· assumption); (· assumption); k_whole; intro zr9 ztl9 zh9 ztk9 zF9 zN9 zho9; have ze8 := zho9; rw [‹isSub _ _ _ _ = _›] at ze8; subst ze8; (try simp only [List.nil_append, List.cons_append] at zN9); (try dsimp only); (try k_fold))) | ((with_reducible show wpAny _ _ (call (Value.builtin "len") [Value.ref _]) _ _ _); k_dflt (refine' len_L (by exact News.get (by k_asm) (by k_mem)) (by assumption) (by first | assumption | (simp only [List.length_take] at *; omega)) ?_; k_whole)) | ((with_reducible show wpAny _ _ (call (Value.builtin _) [Value.bytes (pathB _ _ _) _, Value.str _ _]) _ _ _); k_dflt (refine' decode_path (by assumption) (by assumption) (by assumption) ?_; k_whole); intro zt9 zk9) | (k_here; (with_reducible show wpAny _ _ (call (Value.type "bytes") [Value.ref _]) _ _ _); k_dflt (refine' make_M (by k_asm) (by k_asm) (by exact rfl) (by k_mem) (by assumption) (by assumption) (by assumption) ?_; k_whole); intro zh9 zt9 zk9 zF9 zN9) | ((with_reducible show wpAny _ _ (call (Value.ref 144) _ _) _ _ _); k_dflt (refine' con_use (b64encode_p _ _ (by assumption) (by assumption) _ _ _ _ _) (by k_asm) (by k_asm) (by k_asm) (by k_asm) (by k_asm) (by first | exact rfl | assumption) (by ktr_room) (by ktr_units) ?_; k_whole; intro zr9 ztl9 zh9 ztk9 zF9 zN9 zho9; obtain ⟨zt8, ze8⟩ := zho9; subst ze8; (try simp only [List.nil_append, List.cons_append] at zN9); (try dsimp only); (try k_fold)))) | ((with_reducible show wpAny _ _ (subscriptTail _ _ _ _) _ _ _); first | ((with_reducible show wpAny _ _ (subscriptTail _ (PySem.Expr.Slice (some _) none none _) (Value.ref _) (Value.ref _)) _ _ _); k_dflt (refine kba_turn (value' := PySem.Expr.Name (PySem.Str.ofString "_") ⟨0, 0, 0, 0⟩) (fun _ => rfl) ?_; refine' slice_D (by k_asm) (by k_asm) (by exact News.get (by k_asm) (by k_mem)) (by assumption) (by assumption) (by exact Int.natCast_nonneg _) ?_; k_whole); intro zD9 zws9 zh9 zF9 zN9 zl9 zi9; (try k_lt zl9)) | (first | ((with_reducible show wpAny _ _ (subscriptTail _ _ (Value.ref _) (Value.int 0 _)) _ _ _); k_dflt (refine' item_pair0 (by exact News.get (by k_asm) (by k_mem)) ?_; k_whole)) | ((with_reducible show wpAny _ _ (subscriptTail _ _ (Value.ref _) (Value.int 1 _)) _ _ _); k_dflt (refine' item_pair1 (by exact News.get (by k_asm) (by k_mem)) ?_; k_whole)))) | walk1) | (leave1; walk_say "STEP leave1"; try dsimp only)) | fail "no step")
      refine For_turns (by assumption) ?_
      repeat' (first | ((fail_if_success (with_reducible show wpAny _ _ (call (Value.type "zip") _ _) _ _ _)); first | (k_unfold; (try dsimp only)) | (k_end; wrow_close) | ((with_reducible show wpAny _ _ (compareOp _ _ _) _ _ _); first | ((with_reducible show wpAny _ _ (compareOp CmpOp.NotEq (Value.bytes _ _) (Value.bytes _ _)) _ _ _); refine ne_same ?_)) | ((with_reducible show wpAny _ _ (call _ _ _) _ _ _); first | ((with_reducible show wpAny _ _ (call (Value.ref 152) _ _) _ _ _); k_dflt (refine' con_use (b64decode_p _ (by assumption) (by assumption) (by assumption) (by assumption) (by assumption) _ _ _) (by k_asm) (by k_asm) (by k_asm) (by k_asm) (by k_asm) (by first | exact rfl | assumption) (by ktr_room) (by ktr_units) ?_; k_whole; intro zr9 ztl9 zh9 ztk9 zF9 zN9 zho9; obtain ⟨zt8, ze8⟩ := zho9; subst ze8; (try simp only [List.nil_append, List.cons_append] at zN9); (try dsimp only); (try k_fold))) | ((with_reducible show wpAny _ _ (call (Value.ref 164) _ _) _ _ _); k_dflt (refine' con_use (below_c _ _ _ _ _ _ _ _ _ _ _ _ _ _ _ _ _ _ _ ?_ ?_ ?_ ?_ ?_ ?_ ?_ ?_ _ ?_ ?_ ?_ ?_) (by k_asm) (by k_asm) (by k_asm) (by k_asm) (by k_asm) (by first | exact rfl | assumption) (by ktr_room) (by ktr_units) ?_; (any_goals ((with_reducible show (_ : Addr × Obj) ∈ (_ : List (Addr × Obj))); k_mem)); (any_goals ((with_reducible show IntsAre _ _); assumption)); (· assumption); (· assumption); (· assumption); (· assumption); (· assumption); (· assumption); k_whole; intro zr9 ztl9 zh9 ztk9 zF9 zN9 zho9; have ze8 := zho9; subst ze8; (try simp only [List.nil_append, List.cons_append] at zN9); (try dsimp only); (try k_fold))) | ((with_reducible show wpAny _ _ (call (Value.ref 64) _ _) _ _ _); k_dflt (refine' con_use (suburi_c _ _ _ _ _ _ _ _ _ _ _ _ ?_ ?_ ?_ ?_ ?_ ?_ _ ?_ ?_) (by k_asm) (by k_asm) (by k_asm) (by k_asm) (by k_asm) (by first | exact rfl | assumption) (by ktr_room) (by ktr_units) ?_; (any_goals ((with_reducible show (_ : Addr × Obj) ∈ (_ : List (Addr × Obj))); k_mem)); (· assumption); (· assumption); (· assumption); (· assumption); (· assumption); (· assumption); k_whole; intro zr9 ztl9 zh9 ztk9 zF9 zN9 zho9; have ze8 := zho9; rw [‹isSub _ _ _ _ = _›] at ze8; subst ze8; (try simp only [List.nil_append, List.cons_append] at zN9); (try dsimp only); (try k_fold))) | ((with_reducible show wpAny _ _ (call (Value.builtin "len") [Value.ref _]) _ _ _); k_dflt (refine' len_L (by exact News.get (by k_asm) (by k_mem)) (by assumption) (by first | assumption | (simp only [List.length_take] at *; omega)) ?_; k_whole)) | ((with_reducible show wpAny _ _ (call (Value.builtin _) [Value.bytes (pathB _ _ _) _, Value.str _ _]) _ _ _); k_dflt (refine' decode_path (by assumption) (by assumption) (by assumption) ?_; k_whole); intro zt9 zk9) | (k_here; (with_reducible show wpAny _ _ (call (Value.type "bytes") [Value.ref _]) _ _ _); k_dflt (refine' make_M (by k_asm) (by k_asm) (by exact rfl) (by k_mem) (by assumption) (by assumption) (by assumption) ?_; k_whole); intro zh9 zt9 zk9 zF9 zN9) | ((with_reducible show wpAny _ _ (call (Value.ref 144) _ _) _ _ _); k_dflt (refine' con_use (b64encode_p _ _ (by assumption) (by assumption) _ _ _ _ _) (by k_asm) (by k_asm) (by k_asm) (by k_asm) (by k_asm) (by first | exact rfl | assumption) (by ktr_room) (by ktr_units) ?_; k_whole; intro zr9 ztl9 zh9 ztk9 zF9 zN9 zho9; obtain ⟨zt8, ze8⟩ := zho9; subst ze8; (try simp only [List.nil_append, List.cons_append] at zN9); (try dsimp only); (try k_fold)))) | ((with_reducible show wpAny _ _ (subscriptTail _ _ _ _) _ _ _); first | ((with_reducible show wpAny _ _ (subscriptTail _ (PySem.Expr.Slice (some _) none none _) (Value.ref _) (Value.ref _)) _ _ _); k_dflt (refine kba_turn (value' := PySem.Expr.Name (PySem.Str.ofString "_") ⟨0, 0, 0, 0⟩) (fun _ => rfl) ?_; refine' slice_D (by k_asm) (by k_asm) (by exact News.get (by k_asm) (by k_mem)) (by assumption) (by assumption) (by exact Int.natCast_nonneg _) ?_; k_whole); intro zD9 zws9 zh9 zF9 zN9 zl9 zi9; (try k_lt zl9)) | (first | ((with_reducible show wpAny _ _ (subscriptTail _ _ (Value.ref _) (Value.int 0 _)) _ _ _); k_dflt (refine' item_pair0 (by exact News.get (by k_asm) (by k_mem)) ?_; k_whole)) | ((with_reducible show wpAny _ _ (subscriptTail _ _ (Value.ref _) (Value.int 1 _)) _ _ _); k_dflt (refine' item_pair1 (by exact News.get (by k_asm) (by k_mem)) ?_; k_whole)))) | walk1 | (dsimp only; first | ((with_reducible show wpAny _ _ (compareOp _ _ _) _ _ _); first | ((with_reducible show wpAny _ _ (compareOp CmpOp.NotEq (Value.bytes _ _) (Value.bytes _ _)) _ _ _); refine ne_same ?_)) | ((with_reducible show wpAny _ _ (call _ _ _) _ _ _); first | ((with_reducible show wpAny _ _ (call (Value.ref 152) _ _) _ _ _); k_dflt (refine' con_use (b64decode_p _ (by assumption) (by assumption) (by assumption) (by assumption) (by assumption) _ _ _) (by k_asm) (by k_asm) (by k_asm) (by k_asm) (by k_asm) (by first | exact rfl | assumption) (by ktr_room) (by ktr_units) ?_; k_whole; intro zr9 ztl9 zh9 ztk9 zF9 zN9 zho9; obtain ⟨zt8, ze8⟩ := zho9; subst ze8; (try simp only [List.nil_append, List.cons_append] at zN9); (try dsimp only); (try k_fold))) | ((with_reducible show wpAny _ _ (call (Value.ref 164) _ _) _ _ _); k_dflt (refine' con_use (below_c _ _ _ _ _ _ _ _ _ _ _ _ _ _ _ _ _ _ _ ?_ ?_ ?_ ?_ ?_ ?_ ?_ ?_ _ ?_ ?_ ?_ ?_) (by k_asm) (by k_asm) (by k_asm) (by k_asm) (by k_asm) (by first | exact rfl | assumption) (by ktr_room) (by ktr_units) ?_; (any_goals ((with_reducible show (_ : Addr × Obj) ∈ (_ : List (Addr × Obj))); k_mem)); (any_goals ((with_reducible show IntsAre _ _); assumption)); (· assumption); (· assumption); (· assumption); (· assumption); (· assumption); (· assumption); k_whole; intro zr9 ztl9 zh9 ztk9 zF9 zN9 zho9; have ze8 := zho9; subst ze8; (try simp only [List.nil_append, List.cons_append] at zN9); (try dsimp only); (try k_fold))) | ((with_reducible show wpAny _ _ (call (Value.ref 64) _ _) _ _ _); k_dflt (refine' con_use (suburi_c _ _ _ _ _ _ _ _ _ _ _ _ ?_ ?_ ?_ ?_ ?_ ?_ _ ?_ ?_) (by k_asm) (by k_asm) (by k_asm) (by k_asm) (by k_asm) (by first | exact rfl | assumption) (by ktr_room) (by ktr_units) ?_; (any_goals ((with_reducible show (_ : Addr × Obj) ∈ (_ : List (Addr × Obj))); k_mem)); (· assumption); (· assumption); (· assumption); (· assumption); (· assumption); (· assumption); k_whole; intro zr9 ztl9 zh9 ztk9 zF9 zN9 zho9; have ze8 := zho9; rw [‹isSub _ _ _ _ = _›] at ze8; subst ze8; (try simp only [List.nil_append, List.cons_append] at zN9); (try dsimp only); (try k_fold))) | ((with_reducible show wpAny _ _ (call (Value.builtin "len") [Value.ref _]) _ _ _); k_dflt (refine' len_L (by exact News.get (by k_asm) (by k_mem)) (by assumption) (by first | assumption | (simp only [List.length_take] at *; omega)) ?_; k_whole)) | ((with_reducible show wpAny _ _ (call (Value.builtin _) [Value.bytes (pathB _ _ _) _, Value.str _ _]) _ _ _); k_dflt (refine' decode_path (by assumption) (by assumption) (by assumption) ?_; k_whole); intro zt9 zk9) | (k_here; (with_reducible show wpAny _ _ (call (Value.type "bytes") [Value.ref _]) _ _ _); k_dflt (refine' make_M (by k_asm) (by k_asm) (by exact rfl) (by k_mem) (by assumption) (by assumption) (by assumption) ?_; k_whole); intro zh9 zt9 zk9 zF9 zN9) | ((with_reducible show wpAny _ _ (call (Value.ref 144) _ _) _ _ _); k_dflt (refine' con_use (b64encode_p _ _ (by assumption) (by assumption) _ _ _ _ _) (by k_asm) (by k_asm) (by k_asm) (by k_asm) (by k_asm) (by first | exact rfl | assumption) (by ktr_room) (by ktr_units) ?_; k_whole; intro zr9 ztl9 zh9 ztk9 zF9 zN9 zho9; obtain ⟨zt8, ze8⟩ := zho9; subst ze8; (try simp only [List.nil_append, List.cons_append] at zN9); (try dsimp only); (try k_fold)))) | ((with_reducible show wpAny _ _ (subscriptTail _ _ _ _) _ _ _); first | ((with_reducible show wpAny _ _ (subscriptTail _ (PySem.Expr.Slice (some _) none none _) (Value.ref _) (Value.ref _)) _ _ _); k_dflt (refine kba_turn (value' := PySem.Expr.Name (PySem.Str.ofString "_") ⟨0, 0, 0, 0⟩) (fun _ => rfl) ?_; refine' slice_D (by k_asm) (by k_asm) (by exact News.get (by k_asm) (by k_mem)) (by assumption) (by assumption) (by exact Int.natCast_nonneg _) ?_; k_whole); intro zD9 zws9 zh9 zF9 zN9 zl9 zi9; (try k_lt zl9)) | (first | ((with_reducible show wpAny _ _ (subscriptTail _ _ (Value.ref _) (Value.int 0 _)) _ _ _); k_dflt (refine' item_pair0 (by exact News.get (by k_asm) (by k_mem)) ?_; k_whole)) | ((with_reducible show wpAny _ _ (subscriptTail _ _ (Value.ref _) (Value.int 1 _)) _ _ _); k_dflt (refine' item_pair1 (by exact News.get (by k_asm) (by k_mem)) ?_; k_whole)))) | walk1) | (leave1; walk_say "STEP leave1"; try dsimp only)) | fail "no step")
      refine zip_of (fun m => m (Str.ofString "rows") = some (.ref rl) ∧ m (Str.ofString "paths") = some (.ref D) ∧ m (Str.ofString "manager") = some _ ∧ m (Str.ofString "slash") = some (.int slash v2)) rfl (by assumption) (by assumption)
        (List.mem_cons_of_mem _ (List.mem_cons_of_mem _ (List.mem_cons_of_mem _ (List.mem_cons_of_mem _ (List.mem_cons_of_mem _ (List.mem_cons_of_mem _ List.mem_cons_self)))))) List.mem_cons_self ⟨by with_unfolding_all rfl, by with_unfolding_all rfl, by with_unfolding_all rfl, by with_unfolding_all rfl⟩ ?step ?done
      case done =>
        rintro m2 h2 tk2 ⟨hM1, hM2, hM3, hM4⟩ F5 N5
        dsimp only
        repeat' (first | (k_unfold; (try dsimp only)) | (k_end; wrow_close) | ((with_reducible show wpAny _ _ (compareOp _ _ _) _ _ _); first | ((with_reducible show wpAny _ _ (compareOp CmpOp.NotEq (Value.bytes _ _) (Value.bytes _ _)) _ _ _); refine ne_same ?_)) | ((with_reducible show wpAny _ _ (call _ _ _) _ _ _); first | ((with_reducible show wpAny _ _ (call (Value.ref 152) _ _) _ _ _); k_dflt (refine' con_use (b64decode_p _ (by assumption) (by assumption) (by assumption) (by assumption) (by assumption) _ _ _) (by k_asm) (by k_asm) (by k_asm) (by k_asm) (by k_asm) (by first | exact rfl | assumption) (by ktr_room) (by ktr_units) ?_; k_whole; intro zr9 ztl9 zh9 ztk9 zF9 zN9 zho9; obtain ⟨zt8, ze8⟩ := zho9; subst ze8; (try simp only [List.nil_append, List.cons_append] at zN9); (try dsimp only); (try k_fold))) | ((with_reducible show wpAny _ _ (call (Value.ref 164) _ _) _ _ _); k_dflt (refine' con_use (below_c _ _ _ _ _ _ _ _ _ _ _ _ _ _ _ _ _ _ _ ?_ ?_ ?_ ?_ ?_ ?_ ?_ ?_ _ ?_ ?_ ?_ ?_) (by k_asm) (by k_asm) (by k_asm) (by k_asm) (by k_asm) (by first | exact rfl | assumption) (by ktr_room) (by ktr_units) ?_; (any_goals ((with_reducible show (_ : Addr × Obj) ∈ (_ : List (Addr × Obj))); k_mem)); (any_goals ((with_reducible show IntsAre _ _); assumption)); (· assumption); (· assumption); (· assumption); (· assumption); (· assumption); (· assumption); k_whole; intro zr9 ztl9 zh9 ztk9 zF9 zN9 zho9; have ze8 := zho9; subst ze8; (try simp only [List.nil_append, List.cons_append] at zN9); (try dsimp only); (try k_fold))) | ((with_reducible show wpAny _ _ (call (Value.ref 64) _ _) _ _ _); k_dflt (refine' con_use (suburi_c _ _ _ _ _ _ _ _ _ _ _ _ ?_ ?_ ?_ ?_ ?_ ?_ _ ?_ ?_) (by k_asm) (by k_asm) (by k_asm) (by k_asm) (by k_asm) (by first | exact rfl | assumption) (by ktr_room) (by ktr_units) ?_; (any_goals ((with_reducible show (_ : Addr × Obj) ∈ (_ : List (Addr × Obj))); k_mem)); (· assumption); (· assumption); (· assumption); (· assumption); (· assumption); (· assumption); k_whole; intro zr9 ztl9 zh9 ztk9 zF9 zN9 zho9; have ze8 := zho9; rw [‹isSub _ _ _ _ = _›] at ze8; subst ze8; (try simp only [List.nil_append, List.cons_append] at zN9); (try dsimp only); (try k_fold))) | ((with_reducible show wpAny _ _ (call (Value.builtin "len") [Value.ref _]) _ _ _); k_dflt (refine' len_L (by exact News.get (by k_asm) (by k_mem)) (by assumption) (by first | assumption | (simp only [List.length_take] at *; omega)) ?_; k_whole)) | ((with_reducible show wpAny _ _ (call (Value.builtin _) [Value.bytes (pathB _ _ _) _, Value.str _ _]) _ _ _); k_dflt (refine' decode_path (by assumption) (by assumption) (by assumption) ?_; k_whole); intro zt9 zk9) | (k_here; (with_reducible show wpAny _ _ (call (Value.type "bytes") [Value.ref _]) _ _ _); k_dflt (refine' make_M (by k_asm) (by k_asm) (by exact rfl) (by k_mem) (by assumption) (by assumption) (by assumption) ?_; k_whole); intro zh9 zt9 zk9 zF9 zN9) | ((with_reducible show wpAny _ _ (call (Value.ref 144) _ _) _ _ _); k_dflt (refine' con_use (b64encode_p _ _ (by assumption) (by assumption) _ _ _ _ _) (by k_asm) (by k_asm) (by k_asm) (by k_asm) (by k_asm) (by first | exact rfl | assumption) (by ktr_room) (by ktr_units) ?_; k_whole; intro zr9 ztl9 zh9 ztk9 zF9 zN9 zho9; obtain ⟨zt8, ze8⟩ := zho9; subst ze8; (try simp only [List.nil_append, List.cons_append] at zN9); (try dsimp only); (try k_fold)))) | ((with_reducible show wpAny _ _ (subscriptTail _ _ _ _) _ _ _); first | ((with_reducible show wpAny _ _ (subscriptTail _ (PySem.Expr.Slice (some _) none none _) (Value.ref _) (Value.ref _)) _ _ _); k_dflt (refine kba_turn (value' := PySem.Expr.Name (PySem.Str.ofString "_") ⟨0, 0, 0, 0⟩) (fun _ => rfl) ?_; refine' slice_D (by k_asm) (by k_asm) (by exact News.get (by k_asm) (by k_mem)) (by assumption) (by assumption) (by exact Int.natCast_nonneg _) ?_; k_whole); intro zD9 zws9 zh9 zF9 zN9 zl9 zi9; (try k_lt zl9)) | (first | ((with_reducible show wpAny _ _ (subscriptTail _ _ (Value.ref _) (Value.int 0 _)) _ _ _); k_dflt (refine' item_pair0 (by exact News.get (by k_asm) (by k_mem)) ?_; k_whole)) | ((with_reducible show wpAny _ _ (subscriptTail _ _ (Value.ref _) (Value.int 1 _)) _ _ _); k_dflt (refine' item_pair1 (by exact News.get (by k_asm) (by k_mem)) ?_; k_whole)))) | walk1 | (dsimp only; first | ((with_reducible show wpAny _ _ (compareOp _ _ _) _ _ _); first | ((with_reducible show wpAny _ _ (compareOp CmpOp.NotEq (Value.bytes _ _) (Value.bytes _ _)) _ _ _); refine ne_same ?_)) | ((with_reducible show wpAny _ _ (call _ _ _) _ _ _); first | ((with_reducible show wpAny _ _ (call (Value.ref 152) _ _) _ _ _); k_dflt (refine' con_use (b64decode_p _ (by assumption) (by assumption) (by assumption) (by assumption) (by assumption) _ _ _) (by k_asm) (by k_asm) (by k_asm) (by k_asm) (by k_asm) (by first | exact rfl | assumption) (by ktr_room) (by ktr_units) ?_; k_whole; intro zr9 ztl9 zh9 ztk9 zF9 zN9 zho9; obtain ⟨zt8, ze8⟩ := zho9; subst ze8; (try simp only [List.nil_append, List.cons_append] at zN9); (try dsimp only); (try k_fold))) | ((with_reducible show wpAny _ _ (call (Value.ref 164) _ _) _ _ _); k_dflt (refine' con_use (below_c _ _ _ _ _ _ _ _ _ _ _ _ _ _ _ _ _ _ _ ?_ ?_ ?_ ?_ ?_ ?_ ?_ ?_ _ ?_ ?_ ?_ ?_) (by k_asm) (by k_asm) (by k_asm) (by k_asm) (by k_asm) (by first | exact rfl | assumption) (by ktr_room) (by ktr_units) ?_; (any_goals ((with_reducible show (_ : Addr × Obj) ∈ (_ : List (Addr × Obj))); k_mem)); (any_goals ((with_reducible show IntsAre _ _); assumption)); (· assumption); (· assumption); (· assumption); (· assumption); (· assumption); (· assumption); k_whole; intro zr9 ztl9 zh9 ztk9 zF9 zN9 zho9; have ze8 := zho9; subst ze8; (try simp only [List.nil_append, List.cons_append] at zN9); (try dsimp only); (try k_fold))) | ((with_reducible show wpAny _ _ (call (Value.ref 64) _ _) _ _ _); k_dflt (refine' con_use (suburi_c _ _ _ _ _ _ _ _ _ _ _ _ ?_ ?_ ?_ ?_ ?_ ?_ _ ?_ ?_) (by k_asm) (by k_asm) (by k_asm) (by k_asm) (by k_asm) (by first | exact rfl | assumption) (by ktr_room) (by ktr_units) ?_; (any_goals ((with_reducible show (_ : Addr × Obj) ∈ (_ : List (Addr × Obj))); k_mem)); (· assumption); (· assumption); (· assumption); (· assumption); (· assumption); (· assumption); k_whole; intro zr9 ztl9 zh9 ztk9 zF9 zN9 zho9; have ze8 := zho9; rw [‹isSub _ _ _ _ = _›] at ze8; subst ze8; (try simp only [List.nil_append, List.cons_append] at zN9); (try dsimp only); (try k_fold))) | ((with_reducible show wpAny _ _ (call (Value.builtin "len") [Value.ref _]) _ _ _); k_dflt (refine' len_L (by exact News.get (by k_asm) (by k_mem)) (by assumption) (by first | assumption | (simp only [List.length_take] at *; omega)) ?_; k_whole)) | ((with_reducible show wpAny _ _ (call (Value.builtin _) [Value.bytes (pathB _ _ _) _, Value.str _ _]) _ _ _); k_dflt (refine' decode_path (by assumption) (by assumption) (by assumption) ?_; k_whole); intro zt9 zk9) | (k_here; (with_reducible show wpAny _ _ (call (Value.type "bytes") [Value.ref _]) _ _ _); k_dflt (refine' make_M (by k_asm) (by k_asm) (by exact rfl) (by k_mem) (by assumption) (by assumption) (by assumption) ?_; k_whole); intro zh9 zt9 zk9 zF9 zN9) | ((with_reducible show wpAny _ _ (call (Value.ref 144) _ _) _ _ _); k_dflt (refine' con_use (b64encode_p _ _ (by assumption) (by assumption) _ _ _ _ _) (by k_asm) (by k_asm) (by k_asm) (by k_asm) (by k_asm) (by first | exact rfl | assumption) (by ktr_room) (by ktr_units) ?_; k_whole; intro zr9 ztl9 zh9 ztk9 zF9 zN9 zho9; obtain ⟨zt8, ze8⟩ := zho9; subst ze8; (try simp only [List.nil_append, List.cons_append] at zN9); (try dsimp only); (try k_fold)))) | ((with_reducible show wpAny _ _ (subscriptTail _ _ _ _) _ _ _); first | ((with_reducible show wpAny _ _ (subscriptTail _ (PySem.Expr.Slice (some _) none none _) (Value.ref _) (Value.ref _)) _ _ _); k_dflt (refine kba_turn (value' := PySem.Expr.Name (PySem.Str.ofString "_") ⟨0, 0, 0, 0⟩) (fun _ => rfl) ?_; refine' slice_D (by k_asm) (by k_asm) (by exact News.get (by k_asm) (by k_mem)) (by assumption) (by assumption) (by exact Int.natCast_nonneg _) ?_; k_whole); intro zD9 zws9 zh9 zF9 zN9 zl9 zi9; (try k_lt zl9)) | (first | ((with_reducible show wpAny _ _ (subscriptTail _ _ (Value.ref _) (Value.int 0 _)) _ _ _); k_dflt (refine' item_pair0 (by exact News.get (by k_asm) (by k_mem)) ?_; k_whole)) | ((with_reducible show wpAny _ _ (subscriptTail _ _ (Value.ref _) (Value.int 1 _)) _ _ _); k_dflt (refine' item_pair1 (by exact News.get (by k_asm) (by k_mem)) ?_; k_whole)))) | walk1) | (leave1; walk_say "STEP leave1"; try dsimp only) | fail "no step")
        all_goals
          (refine outer_end (by assumption) (by assumption) (by k_mem) (by k_mem) (by k_mem) ?_ ⟨_, by assumption⟩ ⟨_, by assumption⟩ hM1 hM3 hKI hLI hAI hTK; (intro p hp; repeat' (first | exact hp | refine List.mem_cons_of_mem _ ?_)))
      case step =>
        rintro i x y T J p1 p2 p3 p4 p5 m2 h2 tk2 hx hy ⟨hM1, hM2, hM3, hM4⟩ hJ hT F5 N5
        have F6 := fr_know4 hM1 hM2 hM3 hM4 F5
        clear F5 F4
        obtain ⟨r1, hr1, b1, tt1, c1, w1, n1, rfl, hb1, hc1, hw1⟩ := hR2.get' i x hx
        obtain ⟨tt2, rfl⟩ := hys.at hr1 hy
        repeat' (first | ((fail_if_success (with_reducible show wpAny _ _ (exec (PySem.Stmt.For _ _ _ _ _) _) _ _ _)); first | (k_unfold; (try dsimp only)) | (k_end; wrow_close) | ((with_reducible show wpAny _ _ (compareOp _ _ _) _ _ _); first | ((with_reducible show wpAny _ _ (compareOp CmpOp.NotEq (Value.bytes _ _) (Value.bytes _ _)) _ _ _); refine ne_same ?_)) | ((with_reducible show wpAny _ _ (call _ _ _) _ _ _); first | ((with_reducible show wpAny _ _ (call (Value.ref 152) _ _) _ _ _); k_dflt (refine' con_use (b64decode_p _ (by assumption) (by assumption) (by assumption) (by assumption) (by assumption) _ _ _) (by k_asm) (by k_asm) (by k_asm) (by k_asm) (by k_asm) (by first | exact rfl | assumption) (by ktr_room) (by ktr_units) ?_; k_whole; intro zr9 ztl9 zh9 ztk9 zF9 zN9 zho9; obtain ⟨zt8, ze8⟩ := zho9; subst ze8; (try simp only [List.nil_append, List.cons_append] at zN9); (try dsimp only); (try k_fold))) | ((with_reducible show wpAny _ _ (call (Value.ref 164) _ _) _ _ _); k_dflt (refine' con_use (below_c _ _ _ _ _ _ _ _ _ _ _ _ _ _ _ _ _ _ _ ?_ ?_ ?_ ?_ ?_ ?_ ?_ ?_ _ ?_ ?_ ?_ ?_) (by k_asm) (by k_asm) (by k_asm) (by k_asm) (by k_asm) (by first | exact rfl | assumption) (by ktr_room) (by ktr_units) ?_; (any_goals ((with_reducible show (_ : Addr × Obj) ∈ (_ : List (Addr × Obj))); k_mem)); (any_goals ((with_reducible show IntsAre _ _); assumption)); (· assumption); (· assumption); (· assumption); (· assumption); (· assumption); (· assumption); k_whole; intro zr9 ztl9 zh9 ztk9 zF9 zN9 zho9; have ze8 := zho9; subst ze8; (try simp only [List.nil_append, List.cons_append] at zN9); (try dsimp only); (try k_fold))) | ((with_reducible show wpAny _ _ (call (Value.ref 64) _ _) _ _ _); k_dflt (refine' con_use (suburi_c _ _ _ _ _ _ _ _ _ _ _ _ ?_ ?_ ?_ ?_ ?_ ?_ _ ?_ ?_) (by k_asm) (by k_asm) (by k_asm) (by k_asm) (by k_asm) (by first | exact rfl | assumption) (by ktr_room) (by ktr_units) ?_; (any_goals ((with_reducible show (_ : Addr × Obj) ∈ (_ : List (Addr × Obj))); k_mem)); (· assumption); (· assumption); (· assumption); (· assumption); (· assumption); (· assumption); k_whole; intro zr9 ztl9 zh9 ztk9 zF9 zN9 zho9; have ze8 := zho9; rw [‹isSub _ _ _ _ = _›] at ze8; subst ze8; (try simp only [List.nil_append, List.cons_append] at zN9); (try dsimp only); (try k_fold))) | ((with_reducible show wpAny _ _ (call (Value.builtin "len") [Value.ref _]) _ _ _); k_dflt (refine' len_L (by exact News.get (by k_asm) (by k_mem)) (by assumption) (by first | assumption | (simp only [List.length_take] at *; omega)) ?_; k_whole)) | ((with_reducible show wpAny _ _ (call (Value.builtin _) [Value.bytes (pathB _ _ _) _, Value.str _ _]) _ _ _); k_dflt (refine' decode_path (by assumption) (by assumption) (by assumption) ?_; k_whole); intro zt9 zk9) | (k_here; (with_reducible show wpAny _ _ (call (Value.type "bytes") [Value.ref _]) _ _ _); k_dflt (refine' make_M (by k_asm) (by k_asm) (by exact rfl) (by k_mem) (by assumption) (by assumption) (by assumption) ?_; k_whole); intro zh9 zt9 zk9 zF9 zN9) | ((with_reducible show wpAny _ _ (call (Value.ref 144) _ _) _ _ _); k_dflt (refine' con_use (b64encode_p _ _ (by assumption) (by assumption) _ _ _ _ _) (by k_asm) (by k_asm) (by k_asm) (by k_asm) (by k_asm) (by first | exact rfl | assumption) (by ktr_room) (by ktr_units) ?_; k_whole; intro zr9 ztl9 zh9 ztk9 zF9 zN9 zho9; obtain ⟨zt8, ze8⟩ := zho9; subst ze8; (try simp only [List.nil_append, List.cons_append] at zN9); (try dsimp only); (try k_fold)))) | ((with_reducible show wpAny _ _ (subscriptTail _ _ _ _) _ _ _); first | ((with_reducible show wpAny _ _ (subscriptTail _ (PySem.Expr.Slice (some _) none none _) (Value.ref _) (Value.ref _)) _ _ _); k_dflt (refine kba_turn (value' := PySem.Expr.Name (PySem.Str.ofString "_") ⟨0, 0, 0, 0⟩) (fun _ => rfl) ?_; refine' slice_D (by k_asm) (by k_asm) (by exact News.get (by k_asm) (by k_mem)) (by assumption) (by assumption) (by exact Int.natCast_nonneg _) ?_; k_whole); intro zD9 zws9 zh9 zF9 zN9 zl9 zi9; (try k_lt zl9)) | (first | ((with_reducible show wpAny _ _ (subscriptTail _ _ (Value.ref _) (Value.int 0 _)) _ _ _); k_dflt (refine' item_pair0 (by exact News.get (by k_asm) (by k_mem)) ?_; k_whole)) | ((with_reducible show wpAny _ _ (subscriptTail _ _ (Value.ref _) (Value.int 1 _)) _ _ _); k_dflt (refine' item_pair1 (by exact News.get (by k_asm) (by k_mem)) ?_; k_whole)))) | walk1 | (dsimp only; first | ((with_reducible show wpAny _ _ (compareOp _ _ _) _ _ _); first | ((with_reducible show wpAny _ _ (compareOp CmpOp.NotEq (Value.bytes _ _) (Value.bytes _ _)) _ _ _); refine ne_same ?_)) | ((with_reducible show wpAny _ _ (call _ _ _) _ _ _); first | ((with_reducible show wpAny _ _ (call (Value.ref 152) _ _) _ _ _); k_dflt (refine' con_use (b64decode_p _ (by assumption) (by assumption) (by assumption) (by assumption) (by assumption) _ _ _) (by k_asm) (by k_asm) (by k_asm) (by k_asm) (by k_asm) (by first | exact rfl | assumption) (by ktr_room) (by ktr_units) ?_; k_whole; intro zr9 ztl9 zh9 ztk9 zF9 zN9 zho9; obtain ⟨zt8, ze8⟩ := zho9; subst ze8; (try simp only [List.nil_append, List.cons_append] at zN9); (try dsimp only); (try k_fold))) | ((with_reducible show wpAny _ _ (call (Value.ref 164) _ _) _ _ _); k_dflt (refine' con_use (below_c _ _ _ _ _ _ _ _ _ _ _ _ _ _ _ _ _ _ _ ?_ ?_ ?_ ?_ ?_ ?_ ?_ ?_ _ ?_ ?_ ?_ ?_) (by k_asm) (by k_asm) (by k_asm) (by k_asm) (by k_asm) (by first | exact rfl | assumption) (by ktr_room) (by ktr_units) ?_; (any_goals ((with_reducible show (_ : Addr × Obj) ∈ (_ : List (Addr × Obj))); k_mem)); (any_goals ((with_reducible show IntsAre _ _); assumption)); (· assumption); (· assumption); (· assumption); (· assumption); (· assumption); (· assumption); k_whole; intro zr9 ztl9 zh9 ztk9 zF9 zN9 zho9; have ze8 := zho9; subst ze8; (try simp only [List.nil_append, List.cons_append] at zN9); (try dsimp only); (try k_fold))) | ((with_reducible show wpAny _ _ (call (Value.ref 64) _ _) _ _ _); k_dflt (refine' con_use (suburi_c _ _ _ _ _ _ _ _ _ _ _ _ ?_ ?_ ?_ ?_ ?_ ?_ _ ?_ ?_) (by k_asm) (by k_asm) (by k_asm) (by k_asm) (by k_asm) (by first | exact rfl | assumption) (by ktr_room) (by ktr_units) ?_; (any_goals ((with_reducible show (_ : Addr × Obj) ∈ (_ : List (Addr × Obj))); k_mem)); (· assumption); (· assumption); (· assumption); (· assumption); (· assumption); (· assumption); k_whole; intro zr9 ztl9 zh9 ztk9 zF9 zN9 zho9; have ze8 := zho9; rw [‹isSub _ _ _ _ = _›] at ze8; subst ze8; (try simp only [List.nil_append, List.cons_append] at zN9); (try dsimp only); (try k_fold))) | ((with_reducible show wpAny _ _ (call (Value.builtin "len") [Value.ref _]) _ _ _); k_dflt (refine' len_L (by exact News.get (by k_asm) (by k_mem)) (by assumption) (by first | assumption | (simp only [List.length_take] at *; omega)) ?_; k_whole)) | ((with_reducible show wpAny _ _ (call (Value.builtin _) [Value.bytes (pathB _ _ _) _, Value.str _ _]) _ _ _); k_dflt (refine' decode_path (by assumption) (by assumption) (by assumption) ?_; k_whole); intro zt9 zk9) | (k_here; (with_reducible show wpAny _ _ (call (Value.type "bytes") [Value.ref _]) _ _ _); k_dflt (refine' make_M (by k_asm) (by k_asm) (by exact rfl) (by k_mem) (by assumption) (by assumption) (by assumption) ?_; k_whole); intro zh9 zt9 zk9 zF9 zN9) | ((with_reducible show wpAny _ _ (call (Value.ref 144) _ _) _ _ _); k_dflt (refine' con_use (b64encode_p _ _ (by assumption) (by assumption) _ _ _ _ _) (by k_asm) (by k_asm) (by k_asm) (by k_asm) (by k_asm) (by first | exact rfl | assumption) (by ktr_room) (by ktr_units) ?_; k_whole; intro zr9 ztl9 zh9 ztk9 zF9 zN9 zho9; obtain ⟨zt8, ze8⟩ := zho9; subst ze8; (try simp only [List.nil_append, List.cons_append] at zN9); (try dsimp only); (try k_fold)))) | ((with_reducible show wpAny _ _ (subscriptTail _ _ _ _) _ _ _); first | ((with_reducible show wpAny _ _ (subscriptTail _ (PySem.Expr.Slice (some _) none none _) (Value.ref _) (Value.ref _)) _ _ _); k_dflt (refine kba_turn (value' := PySem.Expr.Name (PySem.Str.ofString "_") ⟨0, 0, 0, 0⟩) (fun _ => rfl) ?_; refine' slice_D (by k_asm) (by k_asm) (by exact News.get (by k_asm) (by k_mem)) (by assumption) (by assumption) (by exact Int.natCast_nonneg _) ?_; k_whole); intro zD9 zws9 zh9 zF9 zN9 zl9 zi9; (try k_lt zl9)) | (first | ((with_reducible show wpAny _ _ (subscriptTail _ _ (Value.ref _) (Value.int 0 _)) _ _ _); k_dflt (refine' item_pair0 (by exact News.get (by k_asm) (by k_mem)) ?_; k_whole)) | ((with_reducible show wpAny _ _ (subscriptTail _ _ (Value.ref _) (Value.int 1 _)) _ _ _); k_dflt (refine' item_pair1 (by exact News.get (by k_asm) (by k_mem)) ?_; k_whole)))) | walk1) | (leave1; walk_say "STEP leave1"; try dsimp only)) | fail "no step")
        refine For_turns (by assumption) ?_
        repeat' (first | ((fail_if_success (with_reducible show wpAny _ _ (call (Value.type "zip") _ _) _ _ _)); first | (k_unfold; (try dsimp only)) | (k_end; wrow_close) | ((with_reducible show wpAny _ _ (compareOp _ _ _) _ _ _); first | ((with_reducible show wpAny _ _ (compareOp CmpOp.NotEq (Value.bytes _ _) (Value.bytes _ _)) _ _ _); refine ne_same ?_)) | ((with_reducible show wpAny _ _ (call _ _ _) _ _ _); first | ((with_reducible show wpAny _ _ (call (Value.ref 152) _ _) _ _ _); k_dflt (refine' con_use (b64decode_p _ (by assumption) (by assumption) (by assumption) (by assumption) (by assumption) _ _ _) (by k_asm) (by k_asm) (by k_asm) (by k_asm) (by k_asm) (by first | exact rfl | assumption) (by ktr_room) (by ktr_units) ?_; k_whole; intro zr9 ztl9 zh9 ztk9 zF9 zN9 zho9; obtain ⟨zt8, ze8⟩ := zho9; subst ze8; (try simp only [List.nil_append, List.cons_append] at zN9); (try dsimp only); (try k_fold))) | ((with_reducible show wpAny _ _ (call (Value.ref 164) _ _) _ _ _); k_dflt (refine' con_use (below_c _ _ _ _ _ _ _ _ _ _ _ _ _ _ _ _ _ _ _ ?_ ?_ ?_ ?_ ?_ ?_ ?_ ?_ _ ?_ ?_ ?_ ?_) (by k_asm) (by k_asm) (by k_asm) (by k_asm) (by k_asm) (by first | exact rfl | assumption) (by ktr_room) (by ktr_units) ?_; (any_goals ((with_reducible show (_ : Addr × Obj) ∈ (_ : List (Addr × Obj))); k_mem)); (any_goals ((with_reducible show IntsAre _ _); assumption)); (· assumption); (· assumption); (· assumption); (· assumption); (· assumption); (· assumption); k_whole; intro zr9 ztl9 zh9 ztk9 zF9 zN9 zho9; have ze8 := zho9; subst ze8; (try simp only [List.nil_append, List.cons_append] at zN9); (try dsimp only); (try k_fold))) | ((with_reducible show wpAny _ _ (call (Value.ref 64) _ _) _ _ _); k_dflt (refine' con_use (suburi_c _ _ _ _ _ _ _ _ _ _ _ _ ?_ ?_ ?_ ?_ ?_ ?_ _ ?_ ?_) (by k_asm) (by k_asm) (by k_asm) (by k_asm) (by k_asm) (by first | exact rfl | assumption) (by ktr_room) (by ktr_units) ?_; (any_goals ((with_reducible show (_ : Addr × Obj) ∈ (_ : List (Addr × Obj))); k_mem)); (· assumption); (· assumption); (· assumption); (· assumption); (· assumption); (· assumption); k_whole; intro zr9 ztl9 zh9 ztk9 zF9 zN9 zho9; have ze8 := zho9; rw [‹isSub _ _ _ _ = _›] at ze8; subst ze8; (try simp only [List.nil_append, List.cons_append] at zN9); (try dsimp only); (try k_fold))) | ((with_reducible show wpAny _ _ (call (Value.builtin "len") [Value.ref _]) _ _ _); k_dflt (refine' len_L (by exact News.get (by k_asm) (by k_mem)) (by assumption) (by first | assumption | (simp only [List.length_take] at *; omega)) ?_; k_whole)) | ((with_reducible show wpAny _ _ (call (Value.builtin _) [Value.bytes (pathB _ _ _) _, Value.str _ _]) _ _ _); k_dflt (refine' decode_path (by assumption) (by assumption) (by assumption) ?_; k_whole); intro zt9 zk9) | (k_here; (with_reducible show wpAny _ _ (call (Value.type "bytes") [Value.ref _]) _ _ _); k_dflt (refine' make_M (by k_asm) (by k_asm) (by exact rfl) (by k_mem) (by assumption) (by assumption) (by assumption) ?_; k_whole); intro zh9 zt9 zk9 zF9 zN9) | ((with_reducible show wpAny _ _ (call (Value.ref 144) _ _) _ _ _); k_dflt (refine' con_use (b64encode_p _ _ (by assumption) (by assumption) _ _ _ _ _) (by k_asm) (by k_asm) (by k_asm) (by k_asm) (by k_asm) (by first | exact rfl | assumption) (by ktr_room) (by ktr_units) ?_; k_whole; intro zr9 ztl9 zh9 ztk9 zF9 zN9 zho9; obtain ⟨zt8, ze8⟩ := zho9; subst ze8; (try simp only [List.nil_append, List.cons_append] at zN9); (try dsimp only); (try k_fold)))) | ((with_reducible show wpAny _ _ (subscriptTail _ _ _ _) _ _ _); first | ((with_reducible show wpAny _ _ (subscriptTail _ (PySem.Expr.Slice (some _) none none _) (Value.ref _) (Value.ref _)) _ _ _); k_dflt (refine kba_turn (value' := PySem.Expr.Name (PySem.Str.ofString "_") ⟨0, 0, 0, 0⟩) (fun _ => rfl) ?_; refine' slice_D (by k_asm) (by k_asm) (by exact News.get (by k_asm) (by k_mem)) (by assumption) (by assumption) (by exact Int.natCast_nonneg _) ?_; k_whole); intro zD9 zws9 zh9 zF9 zN9 zl9 zi9; (try k_lt zl9)) | (first | ((with_reducible show wpAny _ _ (subscriptTail _ _ (Value.ref _) (Value.int 0 _)) _ _ _); k_dflt (refine' item_pair0 (by exact News.get (by k_asm) (by k_mem)) ?_; k_whole)) | ((with_reducible show wpAny _ _ (subscriptTail _ _ (Value.ref _) (Value.int 1 _)) _ _ _); k_dflt (refine' item_pair1 (by exact News.get (by k_asm) (by k_mem)) ?_; k_whole)))) | walk1 | (dsimp only; first | ((with_reducible show wpAny _ _ (compareOp _ _ _) _ _ _); first | ((with_reducible show wpAny _ _ (compareOp CmpOp.NotEq (Value.bytes _ _) (Value.bytes _ _)) _ _ _); refine ne_same ?_)) | ((with_reducible show wpAny _ _ (call _ _ _) _ _ _); first | ((with_reducible show wpAny _ _ (call (Value.ref 152) _ _) _ _ _); k_dflt (refine' con_use (b64decode_p _ (by assumption) (by assumption) (by assumption) (by assumption) (by assumption) _ _ _) (by k_asm) (by k_asm) (by k_asm) (by k_asm) (by k_asm) (by first | exact rfl | assumption) (by ktr_room) (by ktr_units) ?_; k_whole; intro zr9 ztl9 zh9 ztk9 zF9 zN9 zho9; obtain ⟨zt8, ze8⟩ := zho9; subst ze8; (try simp only [List.nil_append, List.cons_append] at zN9); (try dsimp only); (try k_fold))) | ((with_reducible show wpAny _ _ (call (Value.ref 164) _ _) _ _ _); k_dflt (refine' con_use (below_c _ _ _ _ _ _ _ _ _ _ _ _ _ _ _ _ _ _ _ ?_ ?_ ?_ ?_ ?_ ?_ ?_ ?_ _ ?_ ?_ ?_ ?_) (by k_asm) (by k_asm) (by k_asm) (by k_asm) (by k_asm) (by first | exact rfl | assumption) (by ktr_room) (by ktr_units) ?_; (any_goals ((with_reducible show (_ : Addr × Obj) ∈ (_ : List (Addr × Obj))); k_mem)); (any_goals ((with_reducible show IntsAre _ _); assumption)); (· assumption); (· assumption); (· assumption); (· assumption); (· assumption); (· assumption); k_whole; intro zr9 ztl9 zh9 ztk9 zF9 zN9 zho9; have ze8 := zho9; subst ze8; (try simp only [List.nil_append, List.cons_append] at zN9); (try dsimp only); (try k_fold))) | ((with_reducible show wpAny _ _ (call (Value.ref 64) _ _) _ _ _); k_dflt (refine' con_use (suburi_c _ _ _ _ _ _ _ _ _ _ _ _ ?_ ?_ ?_ ?_ ?_ ?_ _ ?_ ?_) (by k_asm) (by k_asm) (by k_asm) (by k_asm) (by k_asm) (by first | exact rfl | assumption) (by ktr_room) (by ktr_units) ?_; (any_goals ((with_reducible show (_ : Addr × Obj) ∈ (_ : List (Addr × Obj))); k_mem)); (· assumption); (· assumption); (· assumption); (· assumption); (· assumption); (· assumption); k_whole; intro zr9 ztl9 zh9 ztk9 zF9 zN9 zho9; have ze8 := zho9; rw [‹isSub _ _ _ _ = _›] at ze8; subst ze8; (try simp only [List.nil_append, List.cons_append] at zN9); (try dsimp only); (try k_fold))) | ((with_reducible show wpAny _ _ (call (Value.builtin "len") [Value.ref _]) _ _ _); k_dflt (refine' len_L (by exact News.get (by k_asm) (by k_mem)) (by assumption) (by first | assumption | (simp only [List.length_take] at *; omega)) ?_; k_whole)) | ((with_reducible show wpAny _ _ (call (Value.builtin _) [Value.bytes (pathB _ _ _) _, Value.str _ _]) _ _ _); k_dflt (refine' decode_path (by assumption) (by assumption) (by assumption) ?_; k_whole); intro zt9 zk9) | (k_here; (with_reducible show wpAny _ _ (call (Value.type "bytes") [Value.ref _]) _ _ _); k_dflt (refine' make_M (by k_asm) (by k_asm) (by exact rfl) (by k_mem) (by assumption) (by assumption) (by assumption) ?_; k_whole); intro zh9 zt9 zk9 zF9 zN9) | ((with_reducible show wpAny _ _ (call (Value.ref 144) _ _) _ _ _); k_dflt (refine' con_use (b64encode_p _ _ (by assumption) (by assumption) _ _ _ _ _) (by k_asm) (by k_asm) (by k_asm) (by k_asm) (by k_asm) (by first | exact rfl | assumption) (by ktr_room) (by ktr_units) ?_; k_whole; intro zr9 ztl9 zh9 ztk9 zF9 zN9 zho9; obtain ⟨zt8, ze8⟩ := zho9; subst ze8; (try simp only [List.nil_append, List.cons_append] at zN9); (try dsimp only); (try k_fold)))) | ((with_reducible show wpAny _ _ (subscriptTail _ _ _ _) _ _ _); first | ((with_reducible show wpAny _ _ (subscriptTail _ (PySem.Expr.Slice (some _) none none _) (Value.ref _) (Value.ref _)) _ _ _); k_dflt (refine kba_turn (value' := PySem.Expr.Name (PySem.Str.ofString "_") ⟨0, 0, 0, 0⟩) (fun _ => rfl) ?_; refine' slice_D (by k_asm) (by k_asm) (by exact News.get (by k_asm) (by k_mem)) (by assumption) (by assumption) (by exact Int.natCast_nonneg _) ?_; k_whole); intro zD9 zws9 zh9 zF9 zN9 zl9 zi9; (try k_lt zl9)) | (first | ((with_reducible show wpAny _ _ (subscriptTail _ _ (Value.ref _) (Value.int 0 _)) _ _ _); k_dflt (refine' item_pair0 (by exact News.get (by k_asm) (by k_mem)) ?_; k_whole)) | ((with_reducible show wpAny _ _ (subscriptTail _ _ (Value.ref _) (Value.int 1 _)) _ _ _); k_dflt (refine' item_pair1 (by exact News.get (by k_asm) (by k_mem)) ?_; k_whole)))) | walk1) | (leave1; walk_say "STEP leave1"; try dsimp only)) | fail "no step")
        refine zip_of (fun m => m (Str.ofString "rows") = some (.ref rl) ∧ m (Str.ofString "paths") = some (.ref D) ∧ m (Str.ofString "manager") = some _ ∧ m (Str.ofString "slash") = some (.int slash v2) ∧ m (Str.ofString "upper") = some (.ref b1) ∧ m (Str.ofString "path") = some (.str (pathOf a0 a1 lead r1.2) tt2)) rfl (by assumption) (by assumption)
          (List.mem_cons_of_mem _ (List.mem_cons_of_mem _ (List.mem_cons_of_mem _ (List.mem_cons_of_mem _ (List.mem_cons_of_mem _ (List.mem_cons_of_mem _ (List.mem_cons_of_mem _ (List.mem_cons_of_mem _ (List.mem_cons_of_mem _ (List.mem_cons_of_mem _ (List.mem_cons_of_mem _ List.mem_cons_self)))))))))))
          (List.mem_cons_of_mem _ (List.mem_cons_of_mem _ (List.mem_cons_of_mem _ (List.mem_cons_of_mem _ (List.mem_cons_of_mem _ List.mem_cons_self))))) ⟨by with_unfolding_all rfl, by with_unfolding_all rfl, by with_unfolding_all rfl, by with_unfolding_all rfl, by with_unfolding_all rfl, by with_unfolding_all rfl⟩ ?step ?done
        case done =>
          rintro m3 h3 tk3 ⟨hM1, hM2, hM3, hM4, hM5, hM6⟩ F7 N7
          dsimp only
          repeat' (first | (k_unfold; (try dsimp only)) | (k_end; wrow_close) | ((with_reducible show wpAny _ _ (compareOp _ _ _) _ _ _); first | ((with_reducible show wpAny _ _ (compareOp CmpOp.NotEq (Value.bytes _ _) (Value.bytes _ _)) _ _ _); refine ne_same ?_)) | ((with_reducible show wpAny _ _ (call _ _ _) _ _ _); first | ((with_reducible show wpAny _ _ (call (Value.ref 152) _ _) _ _ _); k_dflt (refine' con_use (b64decode_p _ (by assumption) (by assumption) (by assumption) (by assumption) (by assumption) _ _ _) (by k_asm) (by k_asm) (by k_asm) (by k_asm) (by k_asm) (by first | exact rfl | assumption) (by ktr_room) (by ktr_units) ?_; k_whole; intro zr9 ztl9 zh9 ztk9 zF9 zN9 zho9; obtain ⟨zt8, ze8⟩ := zho9; subst ze8; (try simp only [List.nil_append, List.cons_append] at zN9); (try dsimp only); (try k_fold))) | ((with_reducible show wpAny _ _ (call (Value.ref 164) _ _) _ _ _); k_dflt (refine' con_use (below_c _ _ _ _ _ _ _ _ _ _ _ _ _ _ _ _ _ _ _ ?_ ?_ ?_ ?_ ?_ ?_ ?_ ?_ _ ?_ ?_ ?_ ?_) (by k_asm) (by k_asm) (by k_asm) (by k_asm) (by k_asm) (by first | exact rfl | assumption) (by ktr_room) (by ktr_units) ?_; (any_goals ((with_reducible show (_ : Addr × Obj) ∈ (_ : List (Addr × Obj))); k_mem)); (any_goals ((with_reducible show IntsAre _ _); assumption)); (· assumption); (· assumption); (· assumption); (· assumption); (· assumption); (· assumption); k_whole; intro zr9 ztl9 zh9 ztk9 zF9 zN9 zho9; have ze8 := zho9; subst ze8; (try simp only [List.nil_append, List.cons_append] at zN9); (try dsimp only); (try k_fold))) | ((with_reducible show wpAny _ _ (call (Value.ref 64) _ _) _ _ _); k_dflt (refine' con_use (suburi_c _ _ _ _ _ _ _ _ _ _ _ _ ?_ ?_ ?_ ?_ ?_ ?_ _ ?_ ?_) (by k_asm) (by k_asm) (by k_asm) (by k_asm) (by k_asm) (by first | exact rfl | assumption) (by ktr_room) (by ktr_units) ?_; (any_goals ((with_reducible show (_ : Addr × Obj) ∈ (_ : List (Addr × Obj))); k_mem)); (· assumption); (· assumption); (· assumption); (· assumption); (· assumption); (· assumption); k_whole; intro zr9 ztl9 zh9 ztk9 zF9 zN9 zho9; have ze8 := zho9; rw [‹isSub _ _ _ _ = _›] at ze8; subst ze8; (try simp only [List.nil_append, List.cons_append] at zN9); (try dsimp only); (try k_fold))) | ((with_reducible show wpAny _ _ (call (Value.builtin "len") [Value.ref _]) _ _ _); k_dflt (refine' len_L (by exact News.get (by k_asm) (by k_mem)) (by assumption) (by first | assumption | (simp only [List.length_take] at *; omega)) ?_; k_whole)) | ((with_reducible show wpAny _ _ (call (Value.builtin _) [Value.bytes (pathB _ _ _) _, Value.str _ _]) _ _ _); k_dflt (refine' decode_path (by assumption) (by assumption) (by assumption) ?_; k_whole); intro zt9 zk9) | (k_here; (with_reducible show wpAny _ _ (call (Value.type "bytes") [Value.ref _]) _ _ _); k_dflt (refine' make_M (by k_asm) (by k_asm) (by exact rfl) (by k_mem) (by assumption) (by assumption) (by assumption) ?_; k_whole); intro zh9 zt9 zk9 zF9 zN9) | ((with_reducible show wpAny _ _ (call (Value.ref 144) _ _) _ _ _); k_dflt (refine' con_use (b64encode_p _ _ (by assumption) (by assumption) _ _ _ _ _) (by k_asm) (by k_asm) (by k_asm) (by k_asm) (by k_asm) (by first | exact rfl | assumption) (by ktr_room) (by ktr_units) ?_; k_whole; intro zr9 ztl9 zh9 ztk9 zF9 zN9 zho9; obtain ⟨zt8, ze8⟩ := zho9; subst ze8; (try simp only [List.nil_append, List.cons_append] at zN9); (try dsimp only); (try k_fold)))) | ((with_reducible show wpAny _ _ (subscriptTail _ _ _ _) _ _ _); first | ((with_reducible show wpAny _ _ (subscriptTail _ (PySem.Expr.Slice (some _) none none _) (Value.ref _) (Value.ref _)) _ _ _); k_dflt (refine kba_turn (value' := PySem.Expr.Name (PySem.Str.ofString "_") ⟨0, 0, 0, 0⟩) (fun _ => rfl) ?_; refine' slice_D (by k_asm) (by k_asm) (by exact News.get (by k_asm) (by k_mem)) (by assumption) (by assumption) (by exact Int.natCast_nonneg _) ?_; k_whole); intro zD9 zws9 zh9 zF9 zN9 zl9 zi9; (try k_lt zl9)) | (first | ((with_reducible show wpAny _ _ (subscriptTail _ _ (Value.ref _) (Value.int 0 _)) _ _ _); k_dflt (refine' item_pair0 (by exact News.get (by k_asm) (by k_mem)) ?_; k_whole)) | ((with_reducible show wpAny _ _ (subscriptTail _ _ (Value.ref _) (Value.int 1 _)) _ _ _); k_dflt (refine' item_pair1 (by exact News.get (by k_asm) (by k_mem)) ?_; k_whole)))) | walk1 | (dsimp only; first | ((with_reducible show wpAny _ _ (compareOp _ _ _) _ _ _); first | ((with_reducible show wpAny _ _ (compareOp CmpOp.NotEq (Value.bytes _ _) (Value.bytes _ _)) _ _ _); refine ne_same ?_)) | ((with_reducible show wpAny _ _ (call _ _ _) _ _ _); first | ((with_reducible show wpAny _ _ (call (Value.ref 152) _ _) _ _ _); k_dflt (refine' con_use (b64decode_p _ (by assumption) (by assumption) (by assumption) (by assumption) (by assumption) _ _ _) (by k_asm) (by k_asm) (by k_asm) (by k_asm) (by k_asm) (by first | exact rfl | assumption) (by ktr_room) (by ktr_units) ?_; k_whole; intro zr9 ztl9 zh9 ztk9 zF9 zN9 zho9; obtain ⟨zt8, ze8⟩ := zho9; subst ze8; (try simp only [List.nil_append, List.cons_append] at zN9); (try dsimp only); (try k_fold))) | ((with_reducible show wpAny _ _ (call (Value.ref 164) _ _) _ _ _); k_dflt (refine' con_use (below_c _ _ _ _ _ _ _ _ _ _ _ _ _ _ _ _ _ _ _ ?_ ?_ ?_ ?_ ?_ ?_ ?_ ?_ _ ?_ ?_ ?_ ?_) (by k_asm) (by k_asm) (by k_asm) (by k_asm) (by k_asm) (by first | exact rfl | assumption) (by ktr_room) (by ktr_units) ?_; (any_goals ((with_reducible show (_ : Addr × Obj) ∈ (_ : List (Addr × Obj))); k_mem)); (any_goals ((with_reducible show IntsAre _ _); assumption)); (· assumption); (· assumption); (· assumption); (· assumption); (· assumption); (· assumption); k_whole; intro zr9 ztl9 zh9 ztk9 zF9 zN9 zho9; have ze8 := zho9; subst ze8; (try simp only [List.nil_append, List.cons_append] at zN9); (try dsimp only); (try k_fold))) | ((with_reducible show wpAny _ _ (call (Value.ref 64) _ _) _ _ _); k_dflt (refine' con_use (suburi_c _ _ _ _ _ _ _ _ _ _ _ _ ?_ ?_ ?_ ?_ ?_ ?_ _ ?_ ?_) (by k_asm) (by k_asm) (by k_asm) (by k_asm) (by k_asm) (by first | exact rfl | assumption) (by ktr_room) (by ktr_units) ?_; (any_goals ((with_reducible show (_ : Addr × Obj) ∈ (_ : List (Addr × Obj))); k_mem)); (· assumption); (· assumption); (· assumption); (· assumption); (· assumption); (· assumption); k_whole; intro zr9 ztl9 zh9 ztk9 zF9 zN9 zho9; have ze8 := zho9; rw [‹isSub _ _ _ _ = _›] at ze8; subst ze8; (try simp only [List.nil_append, List.cons_append] at zN9); (try dsimp only); (try k_fold))) | ((with_reducible show wpAny _ _ (call (Value.builtin "len") [Value.ref _]) _ _ _); k_dflt (refine' len_L (by exact News.get (by k_asm) (by k_mem)) (by assumption) (by first | assumption | (simp only [List.length_take] at *; omega)) ?_; k_whole)) | ((with_reducible show wpAny _ _ (call (Value.builtin _) [Value.bytes (pathB _ _ _) _, Value.str _ _]) _ _ _); k_dflt (refine' decode_path (by assumption) (by assumption) (by assumption) ?_; k_whole); intro zt9 zk9) | (k_here; (with_reducible show wpAny _ _ (call (Value.type "bytes") [Value.ref _]) _ _ _); k_dflt (refine' make_M (by k_asm) (by k_asm) (by exact rfl) (by k_mem) (by assumption) (by assumption) (by assumption) ?_; k_whole); intro zh9 zt9 zk9 zF9 zN9) | ((with_reducible show wpAny _ _ (call (Value.ref 144) _ _) _ _ _); k_dflt (refine' con_use (b64encode_p _ _ (by assumption) (by assumption) _ _ _ _ _) (by k_asm) (by k_asm) (by k_asm) (by k_asm) (by k_asm) (by first | exact rfl | assumption) (by ktr_room) (by ktr_units) ?_; k_whole; intro zr9 ztl9 zh9 ztk9 zF9 zN9 zho9; obtain ⟨zt8, ze8⟩ := zho9; subst ze8; (try simp only [List.nil_append, List.cons_append] at zN9); (try dsimp only); (try k_fold)))) | ((with_reducible show wpAny _ _ (subscriptTail _ _ _ _) _ _ _); first | ((with_reducible show wpAny _ _ (subscriptTail _ (PySem.Expr.Slice (some _) none none _) (Value.ref _) (Value.ref _)) _ _ _); k_dflt (refine kba_turn (value' := PySem.Expr.Name (PySem.Str.ofString "_") ⟨0, 0, 0, 0⟩) (fun _ => rfl) ?_; refine' slice_D (by k_asm) (by k_asm) (by exact News.get (by k_asm) (by k_mem)) (by assumption) (by assumption) (by exact Int.natCast_nonneg _) ?_; k_whole); intro zD9 zws9 zh9 zF9 zN9 zl9 zi9; (try k_lt zl9)) | (first | ((with_reducible show wpAny _ _ (subscriptTail _ _ (Value.ref _) (Value.int 0 _)) _ _ _); k_dflt (refine' item_pair0 (by exact News.get (by k_asm) (by k_mem)) ?_; k_whole)) | ((with_reducible show wpAny _ _ (subscriptTail _ _ (Value.ref _) (Value.int 1 _)) _ _ _); k_dflt (refine' item_pair1 (by exact News.get (by k_asm) (by k_mem)) ?_; k_whole)))) | walk1) | (leave1; walk_say "STEP leave1"; try dsimp only) | fail "no step")
          all_goals
            exact zip_end (by assumption) (by assumption) (fun p hp => hp) ⟨hM1, hM2, hM3, hM4⟩ hJ (by k_mem) (by k_mem)
        case step =>
          rintro i2 x2 y2 T2 J2 q1 q2 q3 q4 q5 m3 h3 tk3 hx2 hy2 ⟨hM1, hM2, hM3, hM4, hM5, hM6⟩ hJ2 hT2 F7 N7
          have F8 := fr_know6 hM1 hM2 hM3 hM4 hM5 hM6 F7
          clear F7
          obtain ⟨r2, hr2, b2, tt3, c2, w2, n2, rfl, hb2, hc2, hw2⟩ := hR2.get' i2 x2 hx2
          obtain ⟨tt4, rfl⟩ := hys.at hr2 hy2
          have ok1 := hok r1 (List.mem_of_getElem? hr1)
          have ok2 := hok r2 (List.mem_of_getElem? hr2)
          have A1 := ok1.asc
          have A2 := ok2.asc
          have A3 := pathOf_ascii hpar ok1.2.1
          have A4 := pathOf_ascii hpar ok2.2.1
          have L1 := Nat.le_trans (pathOf_length hpar ok1.2.2) (by decide : 1000 ≤ 2000)
          have L2 := Nat.le_trans (pathOf_length hpar ok2.2.2) (by decide : 1000 ≤ 2000)
          have hplain := plain_sub hpar ok1.2.1 ok2.2.1 r1.1 r2.1
          have B1 := ok1.2.1
          have B2 := ok2.2.1
          have G1 := ok1.2.2
          have G2 := ok2.2.2
          have H1 := Nat.le_trans G1 (by decide : 400 ≤ 1000)
          have H2 := Nat.le_trans G2 (by decide : 400 ≤ 1000)
          have D1 : KBa.In (r2.2.drop (r1.2.length : Int).toNat) := in_drop B2
          have D2 : (r2.2.drop (r1.2.length : Int).toNat).length ≤ 400 := len_drop G2
          repeat' (first | (k_unfold; (try dsimp only)) | ((fail_if_success (with_reducible show wpAny _ _ _ _ _ _)); exact (bne_absurd (by with_reducible assumption)).elim) | (k_end; wrow_close) | ((with_reducible show wpAny _ _ (compareOp _ _ _) _ _ _); first | ((with_reducible show wpAny _ _ (compareOp CmpOp.NotEq (Value.bytes _ _) (Value.bytes _ _)) _ _ _); refine ne_same ?_)) | ((with_reducible show wpAny _ _ (call _ _ _) _ _ _); first | ((with_reducible show wpAny _ _ (call (Value.ref 152) _ _) _ _ _); k_dflt (refine' con_use (b64decode_p _ (by assumption) (by assumption) (by assumption) (by assumption) (by assumption) _ _ _) (by k_asm) (by k_asm) (by k_asm) (by k_asm) (by k_asm) (by first | exact rfl | assumption) (by ktr_room) (by ktr_units) ?_; k_whole; intro zr9 ztl9 zh9 ztk9 zF9 zN9 zho9; obtain ⟨zt8, ze8⟩ := zho9; subst ze8; (try simp only [List.nil_append, List.cons_append] at zN9); (try dsimp only); (try k_fold))) | ((with_reducible show wpAny _ _ (call (Value.ref 164) _ _) _ _ _); k_dflt (refine' con_use (below_c _ _ _ _ _ _ _ _ _ _ _ _ _ _ _ _ _ _ _ ?_ ?_ ?_ ?_ ?_ ?_ ?_ ?_ _ ?_ ?_ ?_ ?_) (by k_asm) (by k_asm) (by k_asm) (by k_asm) (by k_asm) (by first | exact rfl | assumption) (by ktr_room) (by ktr_units) ?_; (any_goals ((with_reducible show (_ : Addr × Obj) ∈ (_ : List (Addr × Obj))); k_mem)); (any_goals ((with_reducible show IntsAre _ _); assumption)); (· assumption); (· assumption); (· assumption); (· assumption); (· assumption); (· assumption); k_whole; intro zr9 ztl9 zh9 ztk9 zF9 zN9 zho9; have ze8 := zho9; subst ze8; (try simp only [List.nil_append, List.cons_append] at zN9); (try dsimp only); (try k_fold))) | ((with_reducible show wpAny _ _ (call (Value.ref 64) _ _) _ _ _); k_dflt (refine' con_use (suburi_c _ _ _ _ _ _ _ _ _ _ _ _ ?_ ?_ ?_ ?_ ?_ ?_ _ ?_ ?_) (by k_asm) (by k_asm) (by k_asm) (by k_asm) (by k_asm) (by first | exact rfl | assumption) (by ktr_room) (by ktr_units) ?_; (any_goals ((with_reducible show (_ : Addr × Obj) ∈ (_ : List (Addr × Obj))); k_mem)); (· assumption); (· assumption); (· assumption); (· assumption); (· assumption); (· assumption); k_whole; intro zr9 ztl9 zh9 ztk9 zF9 zN9 zho9; have ze8 := zho9; rw [‹isSub _ _ _ _ = _›] at ze8; subst ze8; (try simp only [List.nil_append, List.cons_append] at zN9); (try dsimp only); (try k_fold))) | ((with_reducible show wpAny _ _ (call (Value.builtin "len") [Value.ref _]) _ _ _); k_dflt (refine' len_L (by exact News.get (by k_asm) (by k_mem)) (by assumption) (by first | assumption | (simp only [List.length_take] at *; omega)) ?_; k_whole)) | ((with_reducible show wpAny _ _ (call (Value.builtin _) [Value.bytes (pathB _ _ _) _, Value.str _ _]) _ _ _); k_dflt (refine' decode_path (by assumption) (by assumption) (by assumption) ?_; k_whole); intro zt9 zk9) | (k_here; (with_reducible show wpAny _ _ (call (Value.type "bytes") [Value.ref _]) _ _ _); k_dflt (refine' make_M (by k_asm) (by k_asm) (by exact rfl) (by k_mem) (by assumption) (by assumption) (by assumption) ?_; k_whole); intro zh9 zt9 zk9 zF9 zN9) | ((with_reducible show wpAny _ _ (call (Value.ref 144) _ _) _ _ _); k_dflt (refine' con_use (b64encode_p _ _ (by assumption) (by assumption) _ _ _ _ _) (by k_asm) (by k_asm) (by k_asm) (by k_asm) (by k_asm) (by first | exact rfl | assumption) (by ktr_room) (by ktr_units) ?_; k_whole; intro zr9 ztl9 zh9 ztk9 zF9 zN9 zho9; obtain ⟨zt8, ze8⟩ := zho9; subst ze8; (try simp only [List.nil_append, List.cons_append] at zN9); (try dsimp only); (try k_fold)))) | ((with_reducible show wpAny _ _ (subscriptTail _ _ _ _) _ _ _); first | ((with_reducible show wpAny _ _ (subscriptTail _ (PySem.Expr.Slice (some _) none none _) (Value.ref _) (Value.ref _)) _ _ _); k_dflt (refine kba_turn (value' := PySem.Expr.Name (PySem.Str.ofString "_") ⟨0, 0, 0, 0⟩) (fun _ => rfl) ?_; refine' slice_D (by k_asm) (by k_asm) (by exact News.get (by k_asm) (by k_mem)) (by assumption) (by assumption) (by exact Int.natCast_nonneg _) ?_; k_whole); intro zD9 zws9 zh9 zF9 zN9 zl9 zi9; (try k_lt zl9)) | (first | ((with_reducible show wpAny _ _ (subscriptTail _ _ (Value.ref _) (Value.int 0 _)) _ _ _); k_dflt (refine' item_pair0 (by exact News.get (by k_asm) (by k_mem)) ?_; k_whole)) | ((with_reducible show wpAny _ _ (subscriptTail _ _ (Value.ref _) (Value.int 1 _)) _ _ _); k_dflt (refine' item_pair1 (by exact News.get (by k_asm) (by k_mem)) ?_; k_whole)))) | walk1 | (dsimp only; first | ((with_reducible show wpAny _ _ (compareOp _ _ _) _ _ _); first | ((with_reducible show wpAny _ _ (compareOp CmpOp.NotEq (Value.bytes _ _) (Value.bytes _ _)) _ _ _); refine ne_same ?_)) | ((with_reducible show wpAny _ _ (call _ _ _) _ _ _); first | ((with_reducible show wpAny _ _ (call (Value.ref 152) _ _) _ _ _); k_dflt (refine' con_use (b64decode_p _ (by assumption) (by assumption) (by assumption) (by assumption) (by assumption) _ _ _) (by k_asm) (by k_asm) (by k_asm) (by k_asm) (by k_asm) (by first | exact rfl | assumption) (by ktr_room) (by ktr_units) ?_; k_whole; intro zr9 ztl9 zh9 ztk9 zF9 zN9 zho9; obtain ⟨zt8, ze8⟩ := zho9; subst ze8; (try simp only [List.nil_append, List.cons_append] at zN9); (try dsimp only); (try k_fold))) | ((with_reducible show wpAny _ _ (call (Value.ref 164) _ _) _ _ _); k_dflt (refine' con_use (below_c _ _ _ _ _ _ _ _ _ _ _ _ _ _ _ _ _ _ _ ?_ ?_ ?_ ?_ ?_ ?_ ?_ ?_ _ ?_ ?_ ?_ ?_) (by k_asm) (by k_asm) (by k_asm) (by k_asm) (by k_asm) (by first | exact rfl | assumption) (by ktr_room) (by ktr_units) ?_; (any_goals ((with_reducible show (_ : Addr × Obj) ∈ (_ : List (Addr × Obj))); k_mem)); (any_goals ((with_reducible show IntsAre _ _); assumption)); (· assumption); (· assumption); (· assumption); (· assumption); (· assumption); (· assumption); k_whole; intro zr9 ztl9 zh9 ztk9 zF9 zN9 zho9; have ze8 := zho9; subst ze8; (try simp only [List.nil_append, List.cons_append] at zN9); (try dsimp only); (try k_fold))) | ((with_reducible show wpAny _ _ (call (Value.ref 64) _ _) _ _ _); k_dflt (refine' con_use (suburi_c _ _ _ _ _ _ _ _ _ _ _ _ ?_ ?_ ?_ ?_ ?_ ?_ _ ?_ ?_) (by k_asm) (by k_asm) (by k_asm) (by k_asm) (by k_asm) (by first | exact rfl | assumption) (by ktr_room) (by ktr_units) ?_; (any_goals ((with_reducible show (_ : Addr × Obj) ∈ (_ : List (Addr × Obj))); k_mem)); (· assumption); (· assumption); (· assumption); (· assumption); (· assumption); (· assumption); k_whole; intro zr9 ztl9 zh9 ztk9 zF9 zN9 zho9; have ze8 := zho9; rw [‹isSub _ _ _ _ = _›] at ze8; subst ze8; (try simp only [List.nil_append, List.cons_append] at zN9); (try dsimp only); (try k_fold))) | ((with_reducible show wpAny _ _ (call (Value.builtin "len") [Value.ref _]) _ _ _); k_dflt (refine' len_L (by exact News.get (by k_asm) (by k_mem)) (by assumption) (by first | assumption | (simp only [List.length_take] at *; omega)) ?_; k_whole)) | ((with_reducible show wpAny _ _ (call (Value.builtin _) [Value.bytes (pathB _ _ _) _, Value.str _ _]) _ _ _); k_dflt (refine' decode_path (by assumption) (by assumption) (by assumption) ?_; k_whole); intro zt9 zk9) | (k_here; (with_reducible show wpAny _ _ (call (Value.type "bytes") [Value.ref _]) _ _ _); k_dflt (refine' make_M (by k_asm) (by k_asm) (by exact rfl) (by k_mem) (by assumption) (by assumption) (by assumption) ?_; k_whole); intro zh9 zt9 zk9 zF9 zN9) | ((with_reducible show wpAny _ _ (call (Value.ref 144) _ _) _ _ _); k_dflt (refine' con_use (b64encode_p _ _ (by assumption) (by assumption) _ _ _ _ _) (by k_asm) (by k_asm) (by k_asm) (by k_asm) (by k_asm) (by first | exact rfl | assumption) (by ktr_room) (by ktr_units) ?_; k_whole; intro zr9 ztl9 zh9 ztk9 zF9 zN9 zho9; obtain ⟨zt8, ze8⟩ := zho9; subst ze8; (try simp only [List.nil_append, List.cons_append] at zN9); (try dsimp only); (try k_fold)))) | ((with_reducible show wpAny _ _ (subscriptTail _ _ _ _) _ _ _); first | ((with_reducible show wpAny _ _ (subscriptTail _ (PySem.Expr.Slice (some _) none none _) (Value.ref _) (Value.ref _)) _ _ _); k_dflt (refine kba_turn (value' := PySem.Expr.Name (PySem.Str.ofString "_") ⟨0, 0, 0, 0⟩) (fun _ => rfl) ?_; refine' slice_D (by k_asm) (by k_asm) (by exact News.get (by k_asm) (by k_mem)) (by assumption) (by assumption) (by exact Int.natCast_nonneg _) ?_; k_whole); intro zD9 zws9 zh9 zF9 zN9 zl9 zi9; (try k_lt zl9)) | (first | ((with_reducible show wpAny _ _ (subscriptTail _ _ (Value.ref _) (Value.int 0 _)) _ _ _); k_dflt (refine' item_pair0 (by exact News.get (by k_asm) (by k_mem)) ?_; k_whole)) | ((with_reducible show wpAny _ _ (subscriptTail _ _ (Value.ref _) (Value.int 1 _)) _ _ _); k_dflt (refine' item_pair1 (by exact News.get (by k_asm) (by k_mem)) ?_; k_whole)))) | walk1) | (leave1; walk_say "STEP leave1"; try dsimp only) | fail "no step")
          all_goals
            (refine zip_end (by assumption) (by assumption) ?_ ⟨by with_unfolding_all rfl, by with_unfolding_all rfl, by with_unfolding_all rfl, by with_unfolding_all rfl, by with_unfolding_all rfl, by with_unfolding_all rfl⟩ hJ2 (by k_mem) (by k_mem); (intro p hp; repeat' (first | exact hp | refine List.mem_cons_of_mem _ ?_ | refine List.mem_append_right _ ?_))))
end

end
end Mine
set_option maxRecDepth 100000 in
set_option maxHeartbeats 8000000 in
theorem PySem.Challenge.cw_il0038_01_holds : PySem.Challenge.rw_il0038_01.Holds :=
  Mine.law_holds
