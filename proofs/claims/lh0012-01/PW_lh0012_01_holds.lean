import PyProof.Rows.All
import Wide.All
import OpenK.AllK
import Wide.FinOn
import PySem.Challenge.RW_lh0012_01
open PySem PySem.W PyProof.Rows
set_option Elab.async false
set_option maxRecDepth 100000
namespace Mine
set_option maxRecDepth 100000 in
set_option maxHeartbeats 8000000 in
open_top hd for PySem.Challenge.rw_lh0012_01
section
open PySem.Calls
/-! ## bytes: += and bytes(n) -/
theorem noI_bytes_add : typeLookup (.type "bytes") (dunderI "add") = pure none := by rw [typeLookup_type, builtinLookup_eq_fast]; kernel_rfl
theorem type_bytes : isType (.type "bytes") = pure true := by first | rfl | kernel_rfl | (unfold isType; rw [isSubtype_type]; kernel_rfl)
theorem int_no_bytes : typeLookup (.type "int") "__bytes__" = pure none := by rw [typeLookup_type, builtinLookup_eq_fast]; kernel_rfl
theorem int_index : typeLookup (.type "int") "__index__" = pure (some (.builtin "int.__index__")) := by rw [typeLookup_type, builtinLookup_eq_fast]; kernel_rfl
section
variable {prog : Program} {w : World} {A : Around} {E : Value → Shared → Prop} {s : Shared}
theorem iadd_bytes {b c : Array UInt8} {t u : Tok} {Q : Value → Shared → Prop} (hsz : b.size + c.size ≤ 16777216) (h : ∀ t' k, Q (.bytes (b ++ c) t') { s with toks := k }) :
    wpAny (model prog w) A (inplaceOp .Add (.bytes b t) (.bytes c u)) Q E s := by
  refine iconcat_gives (typeIs_bytes s b t) (typeIs_bytes s c u) noI_bytes_add KBy.noFill_bytes_add KBy.seq_bytes_add FB.slot_bytes_add FB.entry_bytes_add (FB.args_bytes_add_2 _ _) (KBy.gives_bytes_add (KBy.tooLong_not hsz)) ?_
  by_cases hb : b.isEmpty = true
  · rw [if_pos hb]
    have e : b = #[] := Array.isEmpty_iff.1 hb
    have h' := h u s.toks
    rw [e, Array.empty_append] at h'
    exact h'
  · rw [if_neg hb]
    by_cases hc : c.isEmpty = true
    · rw [if_pos hc]
      have e : c = #[] := Array.isEmpty_iff.1 hc
      have h' := h t s.toks
      rw [e, Array.append_empty] at h'
      exact h'
    · rw [if_neg hc]
      exact ⟨by rw [Array.size_append, sizeLine_eq]; exact hsz, h s.toks (s.toks + 1)⟩

theorem bytes_new_v {v ix : Value} {n : Int} {Q : Value → Shared → Prop} (hb : specialOf v "__bytes__" = pure none) (hs : asStr? v = pure none) (hi : specialOf v "__index__" = pure (some ix)) (hx : asIndex v = pure n)
    (h0 : 0 ≤ n) (hz : n ≤ 16777216) (hQ : ∀ u k, Q (.bytes (Array.replicate n.toNat 0) u) { s with toks := k }) :
    codeAny (model prog w) A (.call (.builtin "bytes.__new__") ⟨[.type "bytes", v], []⟩) (wants Q E) s := by
  refine codeAny_of_tree ?_
  show wpAny _ A.in1 (do checkBuiltinCall "bytes.__new__" ⟨[.type "bytes", v], []⟩; again (.builtin "bytes.__new__" ⟨[.type "bytes", v], []⟩)) _ _ s
  refine wpAny_bind (wpAny_of_eq (F.bm_newCall _) (wpAny_pure ⟨plainId_quiet F.bm_plain _, codeAny_builtin F.bm_entry ?_⟩))
  rw [Around.under_plainId F.bm_plain _]
  unfold Builtin.«bytes.__new__»
  refine wpAny_bind (wpAny_of_eq (a := true) rfl ?_)
  refine bm_if_false rfl ?_
  refine wpAny_bind (wpAny_of_eq F.bm_sub ?_)
  refine bm_if_false rfl ?_
  refine wpAny_bind (wpAny_of_eq (F.bm_bind _) ?_)
  refine wpAny_bind (wpAny_of_eq (a := ()) rfl ?_)
  refine wpAny_bind (wpAny_of_eq (a := ()) rfl ?_)
  refine bm_if_false rfl ?_
  refine wpAny_bind (wpAny_of_eq hb ?_)
  refine wpAny_bind (wpAny_of_eq (a := false) (by show (asStr? v >>= fun r => pure r.isSome) = _; rw [hs]; rfl) ?_)
  refine bm_if_false rfl ?_
  refine wpAny_bind (wpAny_of_eq hi ?_)
  refine bm_if_false rfl ?_
  refine wpAny_bind (wpAny_attempt (wpAny_of_eq hx ?_))
  dsimp only
  have hfit : Builtin.Bytes.fitsIndex n = true := by simp only [Builtin.Bytes.fitsIndex, Bool.and_eq_true, decide_eq_true_eq]; omega
  rw [hfit]
  refine bm_if_false rfl ?_
  refine wpAny_ite_false (decide_eq_false (by omega)) ?_
  refine wpAny_ite_false (decide_eq_false (by omega)) ?_
  refine bm_if_false (KBy.tooLong_not (by omega)) ?_
  refine wpAny_bind (wpAny_rule ?_)
  refine wpAny_bind (wpAny_mkBytes ?_ (by rw [Array.size_replicate, sizeLine_eq]; omega))
  show wpAny _ _ (if (Value.type "bytes" == Value.type "bytes") = true then _ else _) _ _ _
  refine bm_if_true (by decide) ?_
  exact wpAny_pure (hQ _ _)

theorem call_bytes_int {n : Int} {t : Tok} {Q : Value → Shared → Prop} (h0 : 0 ≤ n) (hz : n ≤ 16777216) (hQ : ∀ u k, Q (.bytes (Array.replicate n.toNat 0) u) { s with toks := k }) :
    wpAny (model prog w) A (call (.type "bytes") [.int n t]) Q E s := by
  refine callType_codes (Q₁ := fun obj s₁ => s₁.TypeIs obj "bytes" ∧ Q obj s₁) F.bm_called (F.bm_typeCall _) F.entry_object_init
    (bytes_new_v (v := .int n t) (show specialOf (.int n t) "__bytes__" = pure none from int_no_bytes) rfl (show specialOf (.int n t) "__index__" = _ from int_index) rfl h0 hz fun u k => ⟨PySem.W.typeIs_bytes _ _ _, hQ u k⟩) fun obj s₁ h₁ => ?_
  exact ⟨h₁.1, F.args_object_init_2 obj _, object_init_meets F.bm_called.init.lookup F.bm_called.made (by decide) prog w A.in1 _ s₁ ⟨h₁.1, rfl, h₁.2⟩⟩

theorem add_bytes_44 {b c : Array UInt8} {t u : Tok} {Q : Value → Shared → Prop} (hb : b.size = 4) (hc : c.size = 4) (h : ∀ t' k, (b ++ c).size = 8 → Q (.bytes (b ++ c) t') { s with toks := k }) :
    wpAny (model prog w) A (binaryOp .Add (.bytes b t) (.bytes c u)) Q E s :=
  KBy.add_bytes (by omega) fun t' k => h t' k (by rw [Array.size_append, hb, hc])
theorem sub_refl {α : Type} {l : List α} : ∀ p ∈ l, p ∈ l := fun _ h => h
theorem sub_app {α : Type} {l r : List α} : ∀ p ∈ l, p ∈ l ++ r := fun _ h => List.mem_append_left _ h
theorem sub_cons {α : Type} {a : α} {l r : List α} (h : ∀ p ∈ l, p ∈ r) : ∀ p ∈ a :: l, p ∈ a :: r := fun p hp => by
  rcases List.mem_cons.mp hp with rfl | hp
  · exact List.mem_cons_self ..
  · exact List.mem_cons_of_mem _ (h p hp)
theorem sub_skip {α : Type} {a : α} {l r : List α} (h : ∀ p ∈ l, p ∈ r) : ∀ p ∈ l, p ∈ a :: r := fun p hp => List.mem_cons_of_mem _ (h p hp)
theorem allNe_of {d : Addr} {l : List (Addr × Obj)} (h : AllLt d l) : ∀ p ∈ l, p.1 ≠ d := fun p hp => Nat.ne_of_lt (kst_ltOf h p hp)
theorem lookup1 (n : Str) (v : Value) : (fun y => List.lookup y [(n, v)]) = fun y => if y = n then some v else none := by
  funext y
  rw [List.lookup_cons]
  by_cases h : y = n
  · rw [if_pos h, beq_iff_eq.mpr h]
  · rw [if_neg h, beq_eq_false_iff_ne.mpr h]; rfl
theorem lookup2 (n n' : Str) (v v' : Value) : (fun y => List.lookup y [(n, v), (n', v')]) = fun y => if y = n then some v else if y = n' then some v' else none := by
  funext y
  rw [List.lookup_cons]
  by_cases h : y = n
  · rw [if_pos h, beq_iff_eq.mpr h]
  · rw [if_neg h, beq_eq_false_iff_ne.mpr h]
    exact congrFun (lookup1 n' v') y
theorem gen_toks {α : Type} {M : Model} {t : Sem α} {Q : α → Shared → Prop} {h : Heap} {g : Array GenState} {d : Drawn} {tk : Nat} {os : OsState} (H : ∀ k, wpAny M A t Q E ⟨h, g, d, k, os⟩) :
    wpAny M A t Q E ⟨h, g, d, tk, os⟩ := H tk
theorem told_lo (x : Int) : 0 ≤ (if x > 0 then x else 0) := by split <;> omega
theorem told_hi {n i : Nat} (h : n ≤ 1000000) : (if (n : Int) + [0, 0, -1, 1].getD i 0 > 0 then (n : Int) + [0, 0, -1, 1].getD i 0 else 0) < 4294967296 := by
  have : ([0, 0, -1, 1] : List Int).getD i 0 ≤ 1 := by
    rcases i with _ | _ | _ | _ | i <;> simp
  split <;> omega
/-! ## to_bytes: the size and the number -/
theorem value_snoc (l : List Int) (k : Int) : KFB.value (l ++ [k]) = KFB.value l * 256 + k := by
  simp [KFB.value, List.foldl_append]
theorem value_little : ∀ (k : Nat) (x : Int), 0 ≤ x → KFB.value (KTBy.little k x).reverse = x % 256 ^ k
  | 0, x, _ => by simp [KTBy.little, KFB.value]
  | k + 1, x, h => by
    show KFB.value (x % 256 :: KTBy.little k (x / 256)).reverse = _
    rw [List.reverse_cons, value_snoc, value_little k (x / 256) (by omega)]
    have e : (256 : Int) ^ (k + 1) = 256 * 256 ^ k := by rw [Int.pow_succ, Int.mul_comm]
    have hp : (0 : Int) < 256 ^ k := Int.pow_pos (by decide)
    rw [e]
    generalize (256 : Int) ^ k = P at hp
    have h1 : x / 256 % P + P * (x / 256 / P) = x / 256 := Int.emod_add_mul_ediv _ _
    have h2 : x % (256 * P) + 256 * P * (x / (256 * P)) = x := Int.emod_add_mul_ediv _ _
    have h3 : x / 256 / P = x / (256 * P) := by rw [Int.ediv_ediv_of_nonneg (by decide)]
    rw [h3] at h1
    have h4 : 256 * P * (x / (256 * P)) = 256 * (P * (x / (256 * P))) := Int.mul_assoc _ _ _
    omega
theorem value_little_lt {k : Nat} {x : Int} (h0 : 0 ≤ x) (h1 : x < 256 ^ k) : KFB.value (KTBy.little k x).reverse = x := by
  rw [value_little k x h0, Int.emod_eq_of_lt h0 h1]
theorem to_big_v {x B : Int} {k : Nat} {t u v : Tok} {Q : Value → Shared → Prop} (hk : k ≤ 8) (hB : (256 : Int) ^ k = B) (h0 : 0 ≤ x) (h1 : x < B)
    (h : ∀ (b : Array UInt8) t' k', b.size = k → KFB.value (KBw.bInts b) = x → Q (.bytes b t') { s with toks := k' }) :
    wpAny (model prog w) A (call (.builtin "int.to_bytes") [.int x t, .int (k : Int) u, .str (PySem.Str.ofString "big") v]) Q E s :=
  KTBy.to_big hk hB h0 h1 fun b t' k' hb hl => h b t' k' (by rw [← KBw.ints_length, hb]; exact hl) (by rw [hb]; exact value_little_lt h0 (by rw [hB]; exact h1))
end
end
local macro_rules | `(tactic| kst_facts) => `(tactic| first | exact True.intro | exact IntsAre.nil | exact IntsAre.append (by with_reducible assumption) (.cons _ _ .nil) | with_reducible assumption)
local macro_rules | `(tactic| kst_allIn) => `(tactic| ((repeat (first | exact sub_refl | exact sub_app | refine sub_cons ?_ | refine sub_skip ?_)); done))
local macro_rules | `(tactic| k_all) => `(tactic| exact allNe_of (by assumption))
local macro_rules | `(tactic| k_all) => `(tactic| assumption)
local macro_rules | `(tactic| walk_at $s:str) => `(tactic| k_extra $s)
section
/-! ## what the octets tell, in plain Lean -/
def cntOf (ks : List Int) : Int := KFB.value (ks.take 4)
def toldOf (ks : List Int) : Int := KFB.value ((ks.drop 4).take 4)
def wordAt (ks : List Int) (k : Nat) : Int := KFB.value ((ks.drop (8 + 8 * k)).take 8)
def nw (ks : List Int) : Nat := min (toldOf ks).toNat ((ks.length - 8) / 8)
def wordsOf (ks : List Int) : List Int := (List.range (nw ks)).map (wordAt ks)
def roomOf (ks : List Int) : Int := (cntOf ks + 63).fdiv 64
def lits : Int → Int → List Int → Int
  | _, num, [] => num
  | at_, num, w :: ws => lits (at_ + 1) (num + w * 2 ^ (64 * at_).toNat) ws
def runOf (h : Int) : Int := (h.fdiv 2).fmod (2 ^ 32)
def litOf (h : Int) : Int := h.fdiv (2 ^ 33)
def num1 (h at_ num : Int) : Int := if h.fmod 2 = 1 then num + (2 ^ (64 * (at_ + runOf h)).toNat - 2 ^ (64 * at_).toNat) else num
def dec (room : Int) (W : List Int) (at_ num : Int) : Option Int :=
  match W with
  | [] => some num
  | h :: r =>
    if at_ + runOf h > room then none
    else if at_ + runOf h + ((r.take (litOf h).toNat).length : Int) > room then none
    else dec room (r.drop (litOf h).toNat) (at_ + runOf h + ((r.take (litOf h).toNat).length : Int)) (lits (at_ + runOf h) (num1 h at_ num) (r.take (litOf h).toNat))
  termination_by W.length
  decreasing_by simp only [List.length_drop, List.length_cons]; omega

def readOf (ks : List Int) : Option (Int × Int) :=
  if ks.length < 8 then some (0, 0) else (dec (roomOf ks) (wordsOf ks) 0 0).map fun n => (cntOf ks, n)

theorem lits_snoc : ∀ (ws : List Int) (a n w : Int), lits a n (ws ++ [w]) = lits a n ws + w * 2 ^ (64 * (a + (ws.length : Int))).toNat
  | [], a, n, w => by simp [lits]
  | v :: ws, a, n, w => by
    rw [List.cons_append, lits, lits, lits_snoc ws, List.length_cons]
    have e : a + 1 + (ws.length : Int) = a + ((ws.length + 1 : Nat) : Int) := by omega
    rw [e]

/-! ## bounds of a number made of octets -/
theorem value_bound_rev : ∀ (l : List Int), (∀ k ∈ l, 0 ≤ k ∧ k < 256) → 0 ≤ KFB.value l.reverse ∧ KFB.value l.reverse < 256 ^ l.length
  | [], _ => by simp [KFB.value]
  | k :: l, h => by
    have h1 := value_bound_rev l fun x hx => h x (List.mem_cons_of_mem _ hx)
    have h2 := h k (List.mem_cons_self ..)
    rw [List.reverse_cons, value_snoc, List.length_cons, Int.pow_succ]
    generalize (256 : Int) ^ l.length = P at h1
    omega
theorem value_bound (l : List Int) (h : ∀ k ∈ l, 0 ≤ k ∧ k < 256) : 0 ≤ KFB.value l ∧ KFB.value l < 256 ^ l.length := by
  have := value_bound_rev l.reverse fun k hk => h k (List.mem_reverse.mp hk)
  simpa using this
def Octs (ks : List Int) : Prop := ∀ k ∈ ks, 0 ≤ k ∧ k < 256
theorem octs_of {b : Array UInt8} {ks : List Int} (h : KBw.bInts b = ks) : Octs ks := by
  subst h
  exact fun k hk => KBw.ints_in hk
theorem Octs.cut {ks : List Int} (h : Octs ks) (i n : Nat) : Octs ((ks.drop i).take n) := fun k hk => h k (List.mem_of_mem_drop (List.mem_of_mem_take hk))
theorem Octs.cut0 {ks : List Int} (h : Octs ks) (n : Nat) : Octs (ks.take n) := fun k hk => h k (List.mem_of_mem_take hk)
theorem value_lt {l : List Int} {n : Nat} (h : Octs l) (hl : l.length ≤ n) : 0 ≤ KFB.value l ∧ KFB.value l < 256 ^ n := by
  have h1 := value_bound l h
  refine ⟨h1.1, Int.lt_of_lt_of_le h1.2 ?_⟩
  exact_mod_cast Nat.pow_le_pow_right (by decide : 0 < 256) hl
theorem word_bound {ks : List Int} (h : Octs ks) (k : Nat) : 0 ≤ wordAt ks k ∧ wordAt ks k < 18446744073709551616 :=
  value_lt (n := 8) (h.cut _ _) (by rw [List.length_take]; omega)
theorem words_bound {ks : List Int} (h : Octs ks) : ∀ x ∈ wordsOf ks, 0 ≤ x ∧ x < 18446744073709551616 := by
  intro x hx
  obtain ⟨k, _, rfl⟩ := List.mem_map.mp hx
  exact word_bound h k
theorem cnt_lo {ks : List Int} (h : Octs ks) : 0 ≤ cntOf ks := (value_lt (n := 4) (h.cut0 _) (by rw [List.length_take]; omega)).1
theorem told_nat {ks : List Int} (h : Octs ks) : 0 ≤ toldOf ks ∧ toldOf ks < 4294967296 := value_lt (n := 4) (h.cut _ _) (by rw [List.length_take]; omega)

theorem st_words0 (ks : List Int) : ([] : List Int).length = ([] : List Int).length ∧ ([] : List Int) = (List.range ([] : List Int).length).map (wordAt ks) := ⟨rfl, rfl⟩
theorem st_words {ks ws pre : List Int} {k : Int} (hl : ws.length = pre.length) (h : ws = (List.range pre.length).map (wordAt ks)) (hk : k = 0 + (pre.length : Int)) :
    (ws ++ [wordAt ks k.toNat]).length = (pre ++ [k]).length ∧ ws ++ [wordAt ks k.toNat] = (List.range (pre ++ [k]).length).map (wordAt ks) := by
  refine ⟨by simp [hl], ?_⟩
  rw [List.length_append, List.length_singleton, List.range_succ, List.map_append, ← h, hk, Int.zero_add, Int.toNat_natCast]
  rfl
def WordsSoFar (ks : List Int) (pre ws : List Int) (pl : Int) : Prop := ws = (List.range pre.length).map (wordAt ks) ∧ pl = 8 + 8 * (pre.length : Int) ∧ 8 + 8 * pre.length ≤ ks.length
theorem st_v0 {ks : List Int} (h8 : 8 ≤ ks.length) {pl : Int} (hp : pl = 8) : ([] : List Int).length = ([] : List Int).length ∧ ([] : List Int) = (List.range ([] : List Int).length).map (wordAt ks) ∧ pl = 8 + 8 * ((([] : List Int).length : Nat) : Int) ∧ 8 + 8 * ([] : List Int).length ≤ ks.length :=
  ⟨rfl, rfl, by simpa using hp, by simpa using h8⟩
theorem st_v1 {ks ws pre : List Int} {k pl : Int} (hl : ws.length = pre.length) (h : ws = (List.range pre.length).map (wordAt ks)) (hp : pl = 8 + 8 * (pre.length : Int)) (h8 : ¬ ((min 8 (ks.length - pl.toNat) : Nat) : Int) < 8) :
    (ws ++ [wordAt ks pre.length]).length = (pre ++ [k]).length ∧ ws ++ [wordAt ks pre.length] = (List.range (pre ++ [k]).length).map (wordAt ks) ∧ pl + ((min 8 (ks.length - pl.toNat) : Nat) : Int) = 8 + 8 * (((pre ++ [k]).length : Nat) : Int) ∧ 8 + 8 * (pre ++ [k]).length ≤ ks.length := by
  refine ⟨by simp [hl], ?_, by rw [List.length_append, List.length_singleton]; omega, by rw [List.length_append, List.length_singleton]; omega⟩
  rw [List.length_append, List.length_singleton, List.range_succ, List.map_append, ← h]
  rfl
theorem words_brk {ks ws pre : List Int} {pl : Int} (h : ws = (List.range pre.length).map (wordAt ks)) (hp : pl = 8 + 8 * (pre.length : Int)) (h2 : 8 + 8 * pre.length ≤ ks.length) (hlt : pre.length < (toldOf ks - 0).toNat) (h8 : ((min 8 (ks.length - pl.toNat) : Nat) : Int) < 8) : ws = wordsOf ks := by
  have e1 : pl.toNat = 8 + 8 * pre.length := by rw [hp]; exact Int.toNat_natCast (8 + 8 * pre.length)
  rw [e1] at h8
  have e2 : (ks.length - 8) / 8 = pre.length := by clear h hp hlt e1; omega
  have e : nw ks = pre.length := by
    rw [nw, e2]
    rw [Int.sub_zero] at hlt
    exact Nat.min_eq_right (Nat.le_of_lt hlt)
  rw [h, wordsOf, e]
theorem words_all {ks ws : List Int} (h : ws = (List.range (rangeKs 0 (toldOf ks - 0).toNat).length).map (wordAt ks)) (h2 : 8 + 8 * (rangeKs 0 (toldOf ks - 0).toNat).length ≤ ks.length) : ws = wordsOf ks := by
  rw [rangeKs_length] at h h2
  rw [Int.sub_zero] at h h2
  have e2 : (toldOf ks).toNat ≤ (ks.length - 8) / 8 := by
    generalize (toldOf ks).toNat = n at h2
    clear h
    omega
  have e : nw ks = (toldOf ks).toNat := by rw [nw]; exact Nat.min_eq_left e2
  rw [h, wordsOf, e]
theorem st_w0 {room : Int} {ws : List Int} (h : 0 ≤ room) : (0 : Int) ≤ 0 ∧ (0 : Int) ≤ 0 ∧ 0 ≤ room ∧ dec room ws 0 0 = dec room (List.drop (Int.toNat 0) ws) 0 0 :=
  ⟨by decide, by decide, h, rfl⟩
theorem room_bound {ks : List Int} (h0 : 0 ≤ cntOf ks) (h1 : cntOf ks < 500) : 0 ≤ roomOf ks ∧ roomOf ks ≤ 8 := by
  unfold roomOf
  rw [Int.fdiv_eq_ediv_of_nonneg _ (by decide)]
  omega
theorem run_bound (x : Int) : 0 ≤ runOf x ∧ runOf x < 4294967296 := by
  have e : (2 : Int) ^ 32 = 4294967296 := by decide
  unfold runOf
  rw [e]
  exact ⟨fmod_lo _ (by decide), fmod_hi _ (by decide)⟩
theorem lit_lo {x : Int} (h : 0 ≤ x) : 0 ≤ litOf x := by
  unfold litOf
  rw [Int.fdiv_eq_ediv_of_nonneg _ (by decide)]
  exact Int.ediv_nonneg h (by decide)
theorem st_l0 (a n : Int) : a = a + ((([] : List Int).length : Nat) : Int) ∧ n = lits a n [] := ⟨by simp, rfl⟩
theorem st_l1 {a₀ n₀ a n w : Int} {pre : List Int} (h1 : a = a₀ + (pre.length : Int)) (h2 : n = lits a₀ n₀ pre) :
    a + 1 = a₀ + (((pre ++ [w]).length : Nat) : Int) ∧ n + w * 2 ^ (64 * a).toNat = lits a₀ n₀ (pre ++ [w]) := by
  refine ⟨by rw [List.length_append, List.length_singleton]; omega, ?_⟩
  rw [lits_snoc, ← h2, ← h1]
theorem dec_nil (room a n : Int) : dec room [] a n = some n := by rw [dec]
theorem dec_cons (room x a n : Int) (r : List Int) : dec room (x :: r) a n = if a + runOf x > room then none
    else if a + runOf x + ((r.take (litOf x).toNat).length : Int) > room then none
    else dec room (r.drop (litOf x).toNat) (a + runOf x + ((r.take (litOf x).toNat).length : Int)) (lits (a + runOf x) (num1 x a n) (r.take (litOf x).toNat)) := by rw [dec]
section
variable {room place a n x : Int} {ws : List Int} {o : Option Int}
theorem dec_none1 (hd : o = dec room (ws.drop place.toNat) a n) (hx : ws.drop place.toNat = x :: ws.drop (place + 1).toNat) (h : a + runOf x > room) : o = none := by
  rw [hd, hx, dec_cons, if_pos h]
theorem cut_lits (hp : 0 ≤ place) (hl : 0 ≤ litOf x) : (place + 1 + litOf x).toNat - (place + 1).toNat = (litOf x).toNat := by
  rw [Int.toNat_add (by omega) hl, Nat.add_sub_cancel_left]
theorem dec_none2 (hd : o = dec room (ws.drop place.toNat) a n) (hx : ws.drop place.toNat = x :: ws.drop (place + 1).toNat) (hp : 0 ≤ place) (hl : 0 ≤ litOf x) (h0 : ¬ a + runOf x > room)
    (h : a + runOf x + (((ws.drop (place + 1).toNat).take ((place + 1 + litOf x).toNat - (place + 1).toNat)).length : Int) > room) : o = none := by
  rw [cut_lits hp hl] at h
  rw [hd, hx, dec_cons, if_neg h0, if_pos h]
theorem dec_end (hd : o = dec room (ws.drop place.toNat) a n) (h : ¬ place < (ws.length : Int)) (hp : 0 ≤ place) : o = some n := by
  rw [hd, List.drop_of_length_le (by omega), dec_nil]
theorem st_w1 {a' n' : Int} (hd : o = dec room (ws.drop place.toNat) a n) (hx : ws.drop place.toNat = x :: ws.drop (place + 1).toNat) (hp : 0 ≤ place) (ha : 0 ≤ a) (hl : 0 ≤ litOf x) (h0 : ¬ a + runOf x > room)
    (h : ¬ a + runOf x + (((ws.drop (place + 1).toNat).take ((place + 1 + litOf x).toNat - (place + 1).toNat)).length : Int) > room)
    (ea : a' = a + runOf x + (((ws.drop (place + 1).toNat).take ((place + 1 + litOf x).toNat - (place + 1).toNat)).length : Int))
    (en : n' = lits (a + runOf x) (num1 x a n) ((ws.drop (place + 1).toNat).take ((place + 1 + litOf x).toNat - (place + 1).toNat))) :
    0 ≤ place + (1 + litOf x) ∧ 0 ≤ a' ∧ a' ≤ room ∧ o = dec room (ws.drop (place + (1 + litOf x)).toNat) a' n' := by
  have hr := run_bound x
  refine ⟨by omega, by omega, by omega, ?_⟩
  rw [cut_lits hp hl] at h ea en
  have e : (ws.drop (place + 1).toNat).drop (litOf x).toNat = ws.drop (place + (1 + litOf x)).toNat := by
    rw [List.drop_drop]
    congr 1
    omega
  rw [hd, hx, dec_cons, if_neg h0, if_neg h, e, ← ea, ← en]
theorem num1_yes (h : x.fmod 2 = 1) : num1 x a n = n + (2 ^ (64 * (a + runOf x)).toNat - 2 ^ (64 * a).toNat) := by rw [num1, if_pos h]
theorem num1_no (h : ¬ x.fmod 2 = 1) : num1 x a n = n := by rw [num1, if_neg h]
end
theorem meas1 {l : Nat} {p q : Int} (h0 : 0 ≤ p) (h1 : p < (l : Int)) (hq : 0 ≤ q) : l - (p + (1 + q)).toNat < l - p.toNat := by omega
theorem meas2 {l n : Nat} {p i : Int} (h0 : 0 ≤ p) (h1 : p < (l : Int)) (hi : i = p + 1 + (n : Int)) : l - i.toNat < l - p.toNat := by omega
theorem cut16 {ks : List Int} {i : Nat} {k : Int} (h : 0 ≤ k) : ((ks.drop i).take ((16 + 8 * k).toNat - (8 + 8 * k).toNat)).length ≤ 8 := by
  have e : (16 + 8 * k).toNat - (8 + 8 * k).toNat = 8 := by omega
  rw [e, List.length_take]
  exact Nat.min_le_left _ _
theorem cut_small {ws : List Int} {i j n : Nat} (h : ws.length ≤ n) : ((ws.drop i).take j).length ≤ n := by
  rw [List.length_take, List.length_drop]
  exact Nat.le_trans (Nat.min_le_right _ _) (Nat.le_trans (Nat.sub_le _ _) h)
theorem words_len {ks : List Int} (h : ks.length ≤ 80) : (wordsOf ks).length ≤ 9 := by
  rw [wordsOf, List.length_map, List.length_range]
  exact Nat.le_trans (Nat.min_le_right _ _) (by omega)
theorem eight_le {pl : Int} {n m : Nat} (h : pl = 8 + 8 * (n : Int)) : 8 ≤ pl + (m : Int) := by omega
theorem words_eq {ks ws : List Int} (hw : ws = (List.range (rangeKs 0 ((nw ks : Int) - 0).toNat).length).map (wordAt ks)) : ws = wordsOf ks := by
  rw [hw, rangeKs_length]
  have e : ((nw ks : Int) - 0).toNat = nw ks := by omega
  rw [e]
  rfl
theorem read_none {ks ws : List Int} (h8 : ¬ (ks.length : Int) < 8) (hw : ws = (List.range (rangeKs 0 ((nw ks : Int) - 0).toNat).length).map (wordAt ks)) (hd : dec (roomOf ks) ws 0 0 = none) : readOf ks = none := by
  rw [words_eq hw] at hd
  rw [readOf, if_neg (by omega), hd]
  rfl
theorem read_some {ks ws : List Int} {n : Int} (h8 : ¬ (ks.length : Int) < 8) (hw : ws = (List.range (rangeKs 0 ((nw ks : Int) - 0).toNat).length).map (wordAt ks)) (hd : dec (roomOf ks) ws 0 0 = some n) : readOf ks = some (cntOf ks, n) := by
  rw [words_eq hw] at hd
  rw [readOf, if_neg (by omega), hd]
  rfl
theorem read_short {ks : List Int} (h8 : (ks.length : Int) < 8) : readOf ks = some (0, 0) := by
  rw [readOf, if_pos (by omega)]
def tup2 (a b : Int) (t u : Tok) : Obj := { cls := .type "tuple", data := .seq #[.int a t, .int b u] }
/-! ## slices of bytes -/
theorem cut_clip {α : Type} (ks : List α) {lo hi : Int} (h0 : 0 ≤ lo) (h1 : 0 ≤ hi) : (ks.drop (clipAt ks.length lo)).take (clipAt ks.length hi - clipAt ks.length lo) = (ks.drop lo.toNat).take (hi.toNat - lo.toNat) := by
  obtain ⟨a, rfl⟩ := Int.eq_ofNat_of_zero_le h0
  obtain ⟨c, rfl⟩ := Int.eq_ofNat_of_zero_le h1
  rw [clipAt_nat, clipAt_nat, Int.toNat_natCast, Int.toNat_natCast]
  by_cases ha : a ≤ ks.length
  · rw [Nat.min_eq_left ha]
    by_cases hc : c ≤ ks.length
    · rw [Nat.min_eq_left hc]
    · rw [Nat.min_eq_right (by omega), List.take_of_length_le (by rw [List.length_drop]; omega), List.take_of_length_le (by rw [List.length_drop]; omega)]
  · have e : min a ks.length = ks.length := by omega
    rw [e, List.drop_of_length_le (Nat.le_refl _), List.drop_of_length_le (by omega)]
    simp
section
variable {prog : Program} {w : World} {A : Around} {E : Value → Shared → Prop} {s : Shared} {value slice : PySem.Expr} {b : Array UInt8} {t tl tu : Tok} {h₀ : Heap} {L : Addr} {m : PySem.Str → Option Value} {news : List (Addr × Obj)} {lo hi hi_ : Int} {Q : Value → Shared → Prop} {ks : List Int}
theorem call_big_z {x : Addr} {u : Tok} {z B : Int} (N : News h₀ L s.heap news) (hm : (x, KFB.bound) ∈ news) (hb : KBw.bInts b = ks) (hl : ks.length ≤ 8) (hz : KFB.value ks = z ∧ 0 ≤ z ∧ z < B)
    (h : ∀ t' k, 0 ≤ z → z < B → Q (.int z t') { s with toks := k }) : wpAny (model prog w) A (call (.ref x) [.bytes b t, .str (PySem.Str.ofString "big") u]) Q E s :=
  KFB.call_big N hm hb hl fun t' k => by rw [hz.1]; exact h t' k hz.2.1 hz.2.2
theorem cnt_z {b₀ : Array UInt8} (h : KBw.bInts b₀ = ks) : KFB.value (ks.take 4) = cntOf ks ∧ 0 ≤ cntOf ks ∧ cntOf ks < 4294967296 := ⟨rfl, value_lt (n := 4) ((octs_of h).cut0 _) (by rw [List.length_take]; omega)⟩
theorem told_z {b₀ : Array UInt8} (h : KBw.bInts b₀ = ks) : KFB.value ((ks.drop 4).take 4) = toldOf ks ∧ 0 ≤ toldOf ks ∧ toldOf ks < 4294967296 := ⟨rfl, told_nat (octs_of h)⟩
theorem word_z {b₀ : Array UInt8} {k : Int} (h : KBw.bInts b₀ = ks) (hk : 0 ≤ k) : KFB.value ((ks.drop (8 + 8 * k).toNat).take ((16 + 8 * k).toNat - (8 + 8 * k).toNat)) = wordAt ks k.toNat ∧ 0 ≤ wordAt ks k.toNat ∧ wordAt ks k.toNat < 18446744073709551616 := by
  refine ⟨?_, word_bound (octs_of h) _⟩
  have e1 : (8 + 8 * k).toNat = 8 + 8 * k.toNat := by omega
  have e2 : (16 + 8 * k).toNat - (8 + 8 * k.toNat) = 8 := by omega
  rw [e1, e2]
  rfl
theorem min_nw {u : Tok} (hh : A.handled = none) (F : Fr h₀ L s.heap m) (N : News h₀ L s.heap news) {b₀ : Array UInt8} (hb : KBw.bInts b₀ = ks) (h8 : ¬ (ks.length : Int) < 8) (hl : ks.length ≤ 80)
    (h : ∀ h' tk t', Fr h₀ L h' m → News h₀ L h' news → nw ks ≤ 9 → Q (.int (nw ks : Int) t') { s with heap := h', toks := tk }) :
    wpAny (model prog w) A (call (.builtin "min") [.int (toldOf ks) t, .int (((ks.length : Int) - 8).fdiv 8) u]) Q E s := by
  refine min_two_N hh F N fun h' tk F' N' => ?_
  have ht := told_nat (octs_of hb)
  have e1 : ((ks.length : Int) - 8).fdiv 8 = (((ks.length - 8) / 8 : Nat) : Int) := by
    rw [Int.fdiv_eq_ediv_of_nonneg _ (by decide)]
    omega
  have e2 : (if ((ks.length : Int) - 8).fdiv 8 < toldOf ks then ((ks.length : Int) - 8).fdiv 8 else toldOf ks) = (nw ks : Int) := by
    rw [e1]
    unfold nw
    generalize (ks.length - 8) / 8 = q
    clear e1 h8 hl h
    split
    · rw [Nat.min_eq_right (by omega)]
    · rw [Nat.min_eq_left (by omega)]; omega
  rw [e2]
  exact h _ _ _ F' N' (Nat.le_trans (Nat.min_le_right _ _) (by clear h e1 e2 ht h8; omega))
theorem drop_at {ns : List Int} {i : Nat} (h : i < ns.length) : ns.drop i = ns[i] :: ns.drop (i + 1) := by rw [List.drop_eq_getElem_cons h]
theorem item_list {l : Addr} {vs : List Value} {ns : List Int} {c : Nat} {k : Int} {u : Tok} (N : News h₀ L s.heap news) (hm : (l, listOf vs.toArray c) ∈ news) (hi : IntsAre vs ns) (h0 : 0 ≤ k) (h1 : k < (ns.length : Int)) (hz : ns.length ≤ 1000000)
    (h : ∀ x t', x ∈ ns → ns.drop k.toNat = x :: ns.drop (k + 1).toNat → Q (.int x t') s)
    (hs : subscripted slice false (.ref l) (.int k u) = operate [.ref l, .int k u] (getItem (.ref l) (.int k u)) := by with_unfolding_all rfl) :
    wpAny (model prog w) A (subscriptTail value slice (.ref l) (.int k u)) Q E s := by
  have hl : s.heap.IsList l vs.toArray := ⟨_, (N _ hm).1, rfl, c, rfl⟩
  have hk : k.toNat < ns.length := by omega
  obtain ⟨t', hx⟩ := hi.get k.toNat ns[k.toNat] (by simp [hk])
  have e2 : (k + 1).toNat = k.toNat + 1 := by omega
  exact tail_any hl.typeIs slot_list_getitem.lookup (wpAny_getItem_list hl h0 (by omega) (by simpa using hx) (h _ _ (List.getElem_mem hk) (by rw [e2]; exact drop_at hk))) hs
theorem lslice {l : Addr} {vs : List Value} {ns : List Int} {c : Nat} (F : Fr h₀ L s.heap m) (N : News h₀ L s.heap news) (hm : (l, listOf vs.toArray c) ∈ news) (hi : IntsAre vs ns) (h0 : 0 ≤ lo) (h1 : 0 ≤ hi_) (hz : ns.length ≤ 1000000)
    (h : ∀ D ws h', Fr h₀ L h' m → News h₀ L h' ((D, listOf (List.toArray ws) 0) :: news) → (∀ p ∈ news, p.1 < D) → IntsAre ws ((ns.drop lo.toNat).take (hi_.toNat - lo.toNat)) → Q (.ref D) { s with heap := h' })
    (hs : subscripted slice false (.ref l) (.ref s.heap.objs.size) = operate [.ref s.heap.objs.size, .ref l] (getItem (.ref l) (.ref s.heap.objs.size)) := by with_unfolding_all rfl)
    (ht : ∀ r, letTemporaryGo value (.ref l) r = pure () := by intro _; with_unfolding_all rfl) :
    wpAny (model prog w) A (subscriptTail value slice (.ref l) (.ref s.heap.objs.size)) Q E { s with heap := s.heap.push { cls := .type "slice", data := .fields #[.int lo tl, .int hi_ tu, .none] } } := by
  have hl : s.heap.IsList l vs.toArray := ⟨_, (N _ hm).1, rfl, c, rfl⟩
  have e : (slicePick vs.toArray (some lo) (some hi_) none).toList = (vs.drop lo.toNat).take (hi_.toNat - lo.toNat) := by
    rw [slicePick_plain]
    simp only [Option.elim, List.size_toArray]
    exact cut_clip vs h0 h1
  refine kmk_slice F N hl (by constructor) (by constructor) (fun D h' F' N' l1 => h D ((vs.drop lo.toNat).take (hi_.toNat - lo.toNat)) h' F' ?_ l1 ((hi.drop _).take _)) hs ht (by rw [List.size_toArray, hi.length, sizeLine_eq]; omega)
  rw [← e, Array.toArray_toList]
  exact N'
theorem mod_run {x : Int} {u : Tok} (h : ∀ t', 0 ≤ runOf x → Q (.int (runOf x) t') { s with toks := s.toks + 1 }) : wpAny (model prog w) A (binaryOp .Mod (.int (x.fdiv 2) t) (.int (2 ^ Int.toNat 32) u)) Q E s :=
  mod_int' (by decide) (h _ (run_bound x).1)
theorem div_lit {x : Int} {u : Tok} (h0 : 0 ≤ x) (h : ∀ t', 0 ≤ litOf x → Q (.int (litOf x) t') { s with toks := s.toks + 1 }) : wpAny (model prog w) A (binaryOp .FloorDiv (.int x t) (.int (2 ^ Int.toNat 33) u)) Q E s :=
  floordiv_int (by decide) (h _ (lit_lo h0)) (Or.inl (PyProof.noPylong_of_log2 (by decide +kernel)))
theorem div_room {u : Tok} (h0 : 0 ≤ cntOf ks) (h1 : cntOf ks < 500) (h : ∀ t', 0 ≤ roomOf ks → roomOf ks ≤ 8 → Q (.int (roomOf ks) t') { s with toks := s.toks + 1 }) : wpAny (model prog w) A (binaryOp .FloorDiv (.int (cntOf ks + 63) t) (.int 64 u)) Q E s :=
  floordiv_int (by decide) (h _ (room_bound h0 h1).1 (room_bound h0 h1).2) (Or.inl (PyProof.noPylong_of_log2 (by decide +kernel)))
theorem wmem {b₀ : Array UInt8} {ws : List Int} {n : Nat} {x : Int} (hw : ws = (List.range n).map (wordAt ks)) (hx : x ∈ ws) (hb : KBw.bInts b₀ = ks) : 0 ≤ x ∧ x < 18446744073709551616 := by
  rw [hw] at hx
  obtain ⟨k, _, rfl⟩ := List.mem_map.mp hx
  exact word_bound (octs_of hb) k
theorem wmem_cut {b₀ : Array UInt8} {ws : List Int} {n i j : Nat} {x : Int} (hw : ws = (List.range n).map (wordAt ks)) (hx : x ∈ (ws.drop i).take j) (hb : KBw.bInts b₀ = ks) : 0 ≤ x ∧ x < 18446744073709551616 :=
  wmem hw (List.mem_of_mem_drop (List.mem_of_mem_take hx)) hb
theorem abs64 {x : Int} (h0 : 0 ≤ x) (h1 : x < 18446744073709551616) : x.natAbs < 2 ^ 64 := by
  have e : (2 : Nat) ^ 64 = 18446744073709551616 := by decide
  rw [e]
  omega
theorem mul_word {x y : Int} {u : Tok} (hx : 0 ≤ x ∧ x < 18446744073709551616) (h : ∀ t', Q (.int (x * y) t') { s with toks := s.toks + 1 }) : wpAny (model prog w) A (binaryOp .Mult (.int x t) (.int y u)) Q E s :=
  PyProof.Rows.mul_int (h _) (IntMulOk.of_left (intBits_le_iff.mpr (abs64 hx.1 hx.2)))
theorem len_ints {l : Addr} {vs : List Value} {ns : List Int} {c : Nat} (N : News h₀ L s.heap news) (hm : (l, listOf vs.toArray c) ∈ news) (hi : IntsAre vs ns) (hz : ns.length ≤ 1000000)
    (h : ∀ t' k, Q (.int (ns.length : Int) t') { s with toks := k }) : wpAny (model prog w) A (call (.builtin "len") [.ref l]) Q E s := by
  have hl : s.heap.IsList l vs.toArray := ⟨_, (N _ hm).1, rfl, c, rfl⟩
  have e2 : vs.toArray.size = ns.length := by rw [List.size_toArray, hi.length]
  exact len_list hl (by rw [e2]; omega) (by rw [e2]; exact h _ _)
theorem word_z2 {b₀ : Array UInt8} {pl : Int} {i : Nat} (hp : pl = 8 + 8 * (i : Int)) (h : KBw.bInts b₀ = ks) : KFB.value ((ks.drop pl.toNat).take 8) = wordAt ks i ∧ 0 ≤ wordAt ks i ∧ wordAt ks i < 18446744073709551616 := by
  refine ⟨?_, word_bound (octs_of h) _⟩
  have e1 : pl.toNat = 8 + 8 * i := by omega
  rw [e1]
  rfl
theorem slice_n {n : Int} (hF : Fr h₀ L s.heap m) (hN : News h₀ L s.heap news) (hk : KBw.bInts b = ks) (h0 : 0 ≤ lo) (h1 : 0 ≤ n) (hz : ks.length ≤ 16777216)
    (h : ∀ b' h' t' k, Fr h₀ L h' m → News h₀ L h' news → KBw.bInts b' = (ks.drop lo.toNat).take n.toNat → Q (.bytes b' t') { s with heap := h', toks := k })
    (hs : subscripted slice false (.bytes b t) (.ref s.heap.objs.size) = operate [.ref s.heap.objs.size, .bytes b t] (getItem (.bytes b t) (.ref s.heap.objs.size)) := by with_unfolding_all rfl)
    (ht : ∀ r, letTemporaryGo value (.bytes b t) r = pure () := by intro _; with_unfolding_all rfl) :
    wpAny (model prog w) A (subscriptTail value slice (.bytes b t) (.ref s.heap.objs.size)) Q E { s with heap := s.heap.push { cls := .type "slice", data := .fields #[.int lo tl, .int (lo + n) tu, .none] } } :=
  KBc.slice_K hF hN hk (by constructor) (by constructor) hz (fun h' t' k F' N' e => h _ h' t' k F' N' (by
    rw [e]
    have e2 : (lo + n).toNat - lo.toNat = n.toNat := by rw [Int.toNat_add h0 h1, Nat.add_sub_cancel_left]
    have := cut_clip ks (lo := lo) (hi := lo + n) h0 (Int.add_nonneg h0 h1)
    rw [e2] at this
    exact this)) hs ht
theorem len_cut {i n : Nat} {z : Int} (hn : (n : Int) = z) (hb : KBw.bInts b = (ks.drop i).take n) (h : i + n ≤ ks.length) (hz : ks.length ≤ 1000000) (hQ : ∀ t' k, Q (.int z t') { s with toks := k }) : wpAny (model prog w) A (call (.builtin "len") [.bytes b t]) Q E s := by
  have e : b.size = n := by rw [← KBw.ints_length, hb, List.length_take, List.length_drop]; omega
  refine len_bytes (by omega) ?_
  rw [e, hn]
  exact hQ _ _
theorem len_cut0 {n : Nat} {z : Int} (hn : (n : Int) = z) (hb : KBw.bInts b = ks.take n) (h : n ≤ ks.length) (hz : ks.length ≤ 1000000) (hQ : ∀ t' k, Q (.int z t') { s with toks := k }) : wpAny (model prog w) A (call (.builtin "len") [.bytes b t]) Q E s :=
  len_cut (i := 0) hn (by simpa using hb) (by omega) hz hQ
theorem slice2 (hF : Fr h₀ L s.heap m) (hN : News h₀ L s.heap news) (hk : KBw.bInts b = ks) (h0 : 0 ≤ lo) (h1 : 0 ≤ hi) (hz : ks.length ≤ 16777216)
    (h : ∀ b' h' t' k, Fr h₀ L h' m → News h₀ L h' news → KBw.bInts b' = (ks.drop lo.toNat).take (hi.toNat - lo.toNat) → Q (.bytes b' t') { s with heap := h', toks := k })
    (hs : subscripted slice false (.bytes b t) (.ref s.heap.objs.size) = operate [.ref s.heap.objs.size, .bytes b t] (getItem (.bytes b t) (.ref s.heap.objs.size)) := by with_unfolding_all rfl)
    (ht : ∀ r, letTemporaryGo value (.bytes b t) r = pure () := by intro _; with_unfolding_all rfl) :
    wpAny (model prog w) A (subscriptTail value slice (.bytes b t) (.ref s.heap.objs.size)) Q E { s with heap := s.heap.push { cls := .type "slice", data := .fields #[.int lo tl, .int hi tu, .none] } } :=
  KBc.slice_K hF hN hk (by constructor) (by constructor) hz (fun h' t' k F' N' e => h _ h' t' k F' N' (by rw [e]; exact cut_clip ks h0 h1)) hs ht
theorem slice1 (hF : Fr h₀ L s.heap m) (hN : News h₀ L s.heap news) (hk : KBw.bInts b = ks) (h1 : 0 ≤ hi) (hz : ks.length ≤ 16777216)
    (h : ∀ b' h' t' k, Fr h₀ L h' m → News h₀ L h' news → KBw.bInts b' = ks.take hi.toNat → Q (.bytes b' t') { s with heap := h', toks := k })
    (hs : subscripted slice false (.bytes b t) (.ref s.heap.objs.size) = operate [.ref s.heap.objs.size, .bytes b t] (getItem (.bytes b t) (.ref s.heap.objs.size)) := by with_unfolding_all rfl)
    (ht : ∀ r, letTemporaryGo value (.bytes b t) r = pure () := by intro _; with_unfolding_all rfl) :
    wpAny (model prog w) A (subscriptTail value slice (.bytes b t) (.ref s.heap.objs.size)) Q E { s with heap := s.heap.push { cls := .type "slice", data := .fields #[.none, .int hi tu, .none] } } :=
  KBc.slice_K hF hN hk (by constructor) (by constructor) hz (fun h' t' k F' N' e => h _ h' t' k F' N' (by
    rw [e]
    have := cut_clip ks (lo := 0) (Int.le_refl 0) h1
    simpa [Option.elim, show clipAt ks.length 0 = 0 from clipAt_nat _ 0 |>.trans (Nat.zero_min _)] using this)) hs ht
end
end
section
def GoodO (b : Array UInt8) : Prop := (KBw.bInts b).length ≤ 80 ∧ (4 ≤ (KBw.bInts b).length → KFB.value ((KBw.bInts b).take 4) < 500)

theorem fmod_small {x k : Int} (hk : 0 < k) (hk2 : k ≤ 1000000) : (Int.fmod x k).natAbs < 2 ^ 64 := by
  have h1 := fmod_lo x (n := k) hk
  have h2 := fmod_hi x (n := k) hk
  have e : (2 : Nat) ^ 64 = 18446744073709551616 := by decide
  rw [e]
  omega
theorem st_nil : ([] : List Int).length ≤ ([] : List Int).length ∧ ∀ x ∈ ([] : List Int), 0 ≤ x ∧ x < 18446744073709551616 := ⟨Nat.le_refl _, fun _ h => nomatch h⟩
theorem st_push {pre ws : List Int} {n e : Int} (h1 : ws.length ≤ pre.length) (h2 : ∀ x ∈ ws, 0 ≤ x ∧ x < 18446744073709551616) (he : 0 ≤ e ∧ e < 18446744073709551616) :
    (ws ++ [e]).length ≤ (pre ++ [n]).length ∧ ∀ x ∈ (ws ++ [e]), 0 ≤ x ∧ x < 18446744073709551616 := by
  refine ⟨by simp only [List.length_append, List.length_cons, List.length_nil]; omega, fun x hx => ?_⟩
  rcases List.mem_append.mp hx with hx | hx
  · exact h2 x hx
  · rw [List.mem_singleton.mp hx]; exact he

theorem w_bound1 (a b c : Int) : 0 ≤ a.fmod 3 * 2 ^ Int.toNat 33 + b.fmod 4 * 2 ^ Int.toNat 1 + c.fmod 2 ∧ a.fmod 3 * 2 ^ Int.toNat 33 + b.fmod 4 * 2 ^ Int.toNat 1 + c.fmod 2 < 18446744073709551616 := by
  have e1 : (2 : Int) ^ Int.toNat 33 = 8589934592 := by decide
  have e2 : (2 : Int) ^ Int.toNat 1 = 2 := by decide
  have h1 := fmod_lo a (n := 3) (by decide)
  have h2 := fmod_hi a (n := 3) (by decide)
  have h3 := fmod_lo b (n := 4) (by decide)
  have h4 := fmod_hi b (n := 4) (by decide)
  have h5 := fmod_lo c (n := 2) (by decide)
  have h6 := fmod_hi c (n := 2) (by decide)
  rw [e1, e2]
  omega
theorem f500_hi (a : Int) : a.fmod 500 < 4294967296 := by
  have := fmod_hi a (n := 500) (by decide)
  omega
theorem mem_word {l : List Int} {x : Int} (h : ∀ x ∈ l, 0 ≤ x ∧ x < 18446744073709551616) (hx : x ∈ l) : 0 ≤ x ∧ x < 18446744073709551616 := h x hx
theorem st_oct0 {o : Array UInt8} : o.size = o.size + 8 * ([] : List Int).length ∧ (KBw.bInts o).take 4 = (KBw.bInts o).take 4 := ⟨rfl, rfl⟩
theorem st_oct {o o₀ b : Array UInt8} {pre : List Int} {n : Int} (h1 : o.size = o₀.size + 8 * pre.length) (h2 : (KBw.bInts o).take 4 = (KBw.bInts o₀).take 4) (h0 : o₀.size = 8) (hb : b.size = 8) :
    (o ++ b).size = o₀.size + 8 * (pre ++ [n]).length ∧ (KBw.bInts (o ++ b)).take 4 = (KBw.bInts o₀).take 4 := by
  refine ⟨by rw [Array.size_append, List.length_append, h1, hb]; simp only [List.length_cons, List.length_nil]; omega, ?_⟩
  rw [KBw.ints_app rfl rfl, List.take_append_of_le_length (by rw [KBw.ints_length]; omega), h2]
theorem good_end {o b c : Array UInt8} {n : Nat} {x : Int} {hi : Option Int} (h1 : o.size = (b ++ c).size + 8 * n) (h2 : (KBw.bInts o).take 4 = (KBw.bInts (b ++ c)).take 4) (hb : b.size = 4) (hc : c.size = 4)
    (hv : KFB.value (KBw.bInts b) = x) (hx : x < 500) (hn : n ≤ 7) : GoodO (KBy.picked (o ++ Array.replicate (Int.toNat 4) 0) none hi) := by
  have hs : (b ++ c).size = 8 := by rw [Array.size_append, hb, hc]
  have hl : (KBw.bInts (o ++ Array.replicate (Int.toNat 4) 0)).length = o.size + 4 := by rw [KBw.ints_length, Array.size_append, Array.size_replicate]; rfl
  have h3 : (KBw.bInts (o ++ Array.replicate (Int.toNat 4) 0)).take 4 = KBw.bInts b := by
    rw [KBw.ints_app rfl rfl, List.take_append_of_le_length (by rw [KBw.ints_length]; omega), h2, KBw.ints_app rfl rfl, List.take_append_of_le_length (by rw [KBw.ints_length]; omega), List.take_of_length_le (by rw [KBw.ints_length]; omega)]
  unfold GoodO
  rw [KBc.ints_picked rfl]
  simp only [Option.elim, List.drop_zero, Nat.sub_zero]
  refine ⟨by rw [List.length_take]; omega, fun h4 => ?_⟩
  rw [List.take_take, Nat.min_eq_left (by rw [List.length_take] at h4; omega), h3, hv]
  exact hx
theorem f500_lt (a : Int) : a.fmod 500 < 500 := fmod_hi a (by decide)
theorem w_bound2 (a : Int) : 0 ≤ a.fmod (2 ^ Int.toNat 64) ∧ a.fmod (2 ^ Int.toNat 64) < 18446744073709551616 := by
  have e1 : (2 : Int) ^ Int.toNat 64 = 18446744073709551616 := by decide
  rw [e1]
  exact ⟨fmod_lo _ (by decide), fmod_hi _ (by decide)⟩
theorem w_bound3 (i : Nat) : 0 ≤ [0, 2 ^ Int.toNat 64 - 1].getD i (0 : Int) ∧ [0, 2 ^ Int.toNat 64 - 1].getD i (0 : Int) < 18446744073709551616 := by
  have e1 : (2 : Int) ^ Int.toNat 64 = 18446744073709551616 := by decide
  rw [e1]
  rcases i with _ | _ | i <;> simp

set_option maxHeartbeats 8000000 in
theorem octets_call {w : World} {h₀ : Heap} {L : Addr} {m mg mb : Str → Option Value} {news : List (Addr × Obj)} {loose : List Str} {mean : ExcName → Option Value} {env : Env} {s : Shared} {Q : Value → Shared → Prop} {E : Value → Shared → Prop} {l : Addr} {vs : List Value} {ns : List Int}
    (KX : (hd.heap_39 w.params).In h₀) (T : Top hd.view_39 loose mean mg mb h₀) (B : Below callerA h₀ [] h₀) (F : Fr h₀ L s.heap m) (N : News h₀ L s.heap news)
    (hf : env.frame = some L) (hke : env.scope.kind = .function) (hL : h₀.IsList l vs.toArray) (hI : IntsAre vs ns) (hlen : ns.length ≤ 63)
    (hQ : ∀ b t h' tk, Fr h₀ L h' m → News h₀ L h' news → GoodO b → Q (.bytes b t) { s with heap := h', toks := tk }) :
    wpAny (model Challenge.rw_lh0012_01.row.prog w) (callerA.deeper env) (call (.ref 186) [.ref l]) Q E s := by
  k_with_none
  w_top off
  k_with "pyIter ref" => k_state (fun pre ws => ws.length ≤ pre.length ∧ ∀ x ∈ ws, 0 ≤ x ∧ x < 18446744073709551616) "words"
  k_with "pyIter ref" => k_state_given ["octets!"] (fun o₀ pre o => o.size = o₀.size + 8 * pre.length ∧ (KBw.bInts o).take 4 = (KBw.bInts o₀).take 4) "octets"
  k_with "state" => (first | exact st_nil | exact st_oct0 | exact st_oct (by assumption) (by assumption) (by assumption) (by assumption) | (refine st_push (by assumption) (by assumption) ?_; first | exact w_bound1 _ _ _ | exact w_bound2 _ | exact w_bound3 _))
  k_with "callWith" => (k_here; (try dsimp only); (with_reducible show wpAny _ _ (callWith _ (Value.builtin _) (_ :: _) _ _) _ _ _); refine callWith_method1 ?_)
  k_with "binaryOp LShift int int" => (k_here; (with_reducible refine lshift_int_small ?ka ?kb ?kc ?_); (case ka => decide); (case kb => decide); (case kc => exact fmod_small (by decide) (by decide)))
  k_with "execs cons" => (k_here; (with_reducible show wpAny _ _ _ _ _ (Shared.mk _ _ _ (_ + 1) _)); (refine gen_toks ?_); intro tk'; (try dsimp only))
  k_with "execs nil" => (k_here; (with_reducible show wpAny _ _ _ _ _ (Shared.mk _ _ _ (_ + 1) _)); (refine gen_toks ?_); intro tk'; (try dsimp only))
  k_with "binaryOp Add bytes bytes" => (k_here; (refine add_bytes_44 ?ka ?kb ?_); (case ka => assumption); (case kb => assumption); intro _ _ _)
  k_with "inplaceOp Add bytes bytes" => (k_here; (refine iadd_bytes ?ksz ?_); (case ksz => first | omega | (simp only [Array.size_replicate, Array.size_append, List.length_take, List.length_drop] at *; omega)); intro _ _)
  k_with "call builtin:len" => (k_here; (with_reducible show wpAny _ _ (call (Value.builtin "len") [Value.bytes _ _]) _ _ _); (refine len_bytes ?ksz ?_); (case ksz => (simp only [Array.size_replicate, Array.size_append, List.length_take, List.length_drop] at *; omega)))
  k_with "subscriptTail" => (k_here; (with_reducible show wpAny _ _ (subscriptTail _ (Expr.Slice _ _ none _) (Value.bytes _ _) (Value.ref _)) _ _ _); (with_reducible rename Fr _ _ _ _ => F'); (with_reducible rename News _ _ _ _ => N'); (refine KBc.slice_K (s := ⟨_, _, _, _, _⟩) F' N' rfl (by constructor) (by constructor) ?kz ?_); (case kz => (simp only [KBw.ints_length, Array.size_replicate, Array.size_append, List.length_take, List.length_drop] at *; omega)); clear F' N'; intro _ _ _ F' N' kbcK)
  k_with "call type:bytes" => (k_here; (with_reducible refine call_bytes_int ?ka ?kb ?_); (case ka => decide); (case kb => decide); intro _ _)
  k_with "call builtin:int.to_bytes" => (k_here; (with_unfolding_all refine to_big_v (k := 8) (B := 18446744073709551616) (by decide) (by decide) ?ka ?kb ?_); (case ka => first | omega | exact (mem_word (by assumption) (by assumption)).1); (case kb => first | omega | exact (mem_word (by assumption) (by assumption)).2); intro _ _ _ _ _)
  k_with "call builtin:int.to_bytes" => (k_here; (with_unfolding_all refine to_big_v (k := 4) (B := 4294967296) (by decide) (by decide) ?ka ?kb ?_); (case ka => first | exact fmod_lo _ (by decide) | exact told_lo _ | omega); (case kb => first | exact f500_hi _ | exact told_hi (by omega) | omega); intro _ _ _ _ _)
  revert KX
  k_fill
  intro KX
  refine wpAny_call ?_
  refine' code_def ?k1 ?k2 ?k3 ?k4 ?k5 ?kA ?kF ?kK ?k6 ?k7 ?k8 ?k9 ?kB ?_ ?c2 ?c3 ?c4 ?c5
  case kA => exact rfl
  case kF => exact hf
  case kK => exact hke
  case k1 => k_asm
  case k2 => k_asm
  case k3 => k_asm
  case k4 => k_asm
  case k5 => k_asm
  case k6 => k_is
  case k7 => k_is
  case k8 => k_room
  case k9 => exact BindsTo.of_eq rfl
  case c5 => decide
  case kB => exact locs rfl
  case c2 => exact rfl
  case c3 => exact rfl
  case c4 => exact rfl
  k_whole
  intro g' L' h' FG' F' N' B' X' T'
  (try dsimp only)
  (try k_lift B')
  (try k_fold)
  k_steps
  all_goals (rename News _ _ _ _ => nX)
  all_goals (refine hQ _ _ _ _ (by assumption) (kst_newsOf nX (by intro p hp; repeat (first | exact hp | apply List.mem_cons_of_mem))) (good_end (by assumption) (by assumption) (by assumption) (by assumption) (by assumption) ?_ ?_))
  all_goals first
    | exact f500_lt _
    | decide
    | (simp only [List.length_take, List.length_drop] at *; omega)
end
section


set_option maxHeartbeats 8000000 in
theorem read_call {w : World} {h₀ : Heap} {L : Addr} {m mg mb : Str → Option Value} {news : List (Addr × Obj)} {loose : List Str} {mean : ExcName → Option Value} {env : Env} {s : Shared} {Q : Value → Shared → Prop} {E : Value → Shared → Prop} {b : Array UInt8} {t : Tok} {ks : List Int}
    (KX : (hd.heap_39 w.params).In h₀) (T : Top hd.view_39 loose mean mg mb h₀) (B : Below callerA h₀ [] h₀) (F : Fr h₀ L s.heap m) (N : News h₀ L s.heap news)
    (hf : env.frame = some L) (hke : env.scope.kind = .function) (hb : KBw.bInts b = ks) (hlen : ks.length ≤ 80) (hc : 8 ≤ ks.length → cntOf ks < 500)
    (hN : ∀ h' tk, Fr h₀ L h' m → News h₀ L h' news → readOf ks = none → Q .none { s with heap := h', toks := tk })
    (hS : ∀ D c n t1 t2 h' tk, Fr h₀ L h' m → News h₀ L h' ((D, tup2 c n t1 t2) :: news) → (∀ p ∈ news, p.1 < D) → readOf ks = some (c, n) → Q (.ref D) { s with heap := h', toks := tk }) :
    wpAny (model Challenge.rw_lh0012_01.row.prog w) (callerA.deeper env) (call (.ref 193) [.bytes b t]) Q E s := by
  k_with_none
  w_top off
  k_with "pyIter ref" => k_state (fun pre ws => ws.length = pre.length ∧ ws = (List.range pre.length).map (wordAt ks)) "words"
  k_with "exec While Compare cons nil" => k_while_given ["words", "room"] (fun ws room script place at_ number => 0 ≤ place ∧ 0 ≤ at_ ∧ at_ ≤ room ∧ dec room ws 0 0 = dec room (ws.drop place.toNat) at_ number) (fun ws room script place at_ number => ws.length - place.toNat) "place" "at" "number"
  k_with "pyIter ref" => (k_of "word" => k_state_given ["at!", "number!"] (fun a₀ n₀ pre a n => a = a₀ + (pre.length : Int) ∧ n = lits a₀ n₀ pre) "at" "number")
  k_with "state" => (first | exact st_words0 _ | exact st_words (by assumption) (by assumption) (by assumption) | exact st_w0 (by assumption) | exact st_l0 _ _ | exact st_l1 (by assumption) (by assumption) | exact st_w1 (by assumption) (by assumption) (by assumption) (by assumption) (by assumption) (by assumption) (by assumption) (by assumption) (by rw [num1_yes (by assumption)]; assumption) | exact st_w1 (by assumption) (by assumption) (by assumption) (by assumption) (by assumption) (by assumption) (by assumption) (by assumption) (by rw [num1_no (by assumption)]; assumption) | fail "x")
  k_with "measure" => exact meas1 (by assumption) (by assumption) (by assumption)
  k_with "InvEndN" => (k_dflt kst_close)
  k_with "KswEnd" => (k_dflt ksw_close)
  k_with "callWith" => (k_here; k_dflt ((try dsimp only); (with_reducible show wpAny _ _ (callWith _ (Value.builtin _) (_ :: _) _ _) _ _ _); refine callWith_method1 ?_))
  k_with "execs cons" => (k_here; k_dflt ((with_reducible show wpAny _ _ _ _ _ (Shared.mk _ _ _ (_ + 1) _)); (refine gen_toks ?_); intro tk'; (try dsimp only)))
  k_with "execs nil" => (k_here; k_dflt ((with_reducible show wpAny _ _ _ _ _ (Shared.mk _ _ _ (_ + 1) _)); (refine gen_toks ?_); intro tk'; (try dsimp only)))
  k_with "subscriptTail" => (k_here; k_dflt ((with_reducible show wpAny _ _ (subscriptTail _ (Expr.Slice _ _ none _) (Value.bytes _ _) (Value.ref _)) _ _ _); (with_reducible rename Fr _ _ _ _ => F'); (with_reducible rename News _ _ _ _ => N'); (first | refine slice1 (s := ⟨_, _, _, _, _⟩) F' N' (by assumption) ?ka ?kz ?_ | refine slice2 (s := ⟨_, _, _, _, _⟩) F' N' (by assumption) ?ka ?kb ?kz ?_); (case ka => first | decide | omega); (try (case kb => first | decide | omega)); (case kz => omega); clear F' N'; intro b' h' t' k' F' N' kbcK; (try simp only [Int.reduceToNat, Nat.reduceSub] at kbcK)))
  k_with "call ref" => (k_here; k_dflt ((with_reducible show wpAny _ _ (call (Value.ref _) [Value.bytes _ _, Value.str _ _]) _ _ _); kfb_any; k_dflt (refine' call_big_z ?kn ?km ?kb ?kz ?ke ?_); (case kn => k_asm); (case km => k_mem); (case kb => assumption); (case kz => first | exact cut16 (by omega) | (simp only [List.length_take, List.length_drop]; omega)); (case ke => first | exact cnt_z (by assumption) | exact told_z (by assumption) | exact word_z (by assumption) (by omega)); intro _ _ zLo zHi))
  k_with "call builtin:min" => (k_here; k_dflt ((with_reducible rename Fr _ _ _ _ => F'); (with_reducible rename News _ _ _ _ => N'); (refine min_nw rfl F' N' (by assumption) (by assumption) (by assumption) ?_); clear F' N'; intro h' tk' t' F' N' nw9))
  k_with "subscriptTail" => (k_here; k_dflt ((with_reducible show wpAny _ _ (subscriptTail _ (Expr.Name _ _) (Value.ref _) (Value.int _ _)) _ _ _); k_dflt (refine' item_list ?kn ?km ?ki ?ka ?kb ?kz ?_); (case kn => k_asm); (case km => k_mem); (case ki => with_reducible assumption); (case ka => omega); (case kb => omega); (case kz => first | omega | (simp only [rangeKs_length] at *; omega)); intro x' t' xMem xDrop; (have xB := wmem (by assumption) xMem (by assumption)); obtain ⟨xLo, xHi⟩ := xB))
  k_with "subscriptTail Name Slice ref ref" => (k_here; k_dflt ((with_reducible show wpAny _ _ (subscriptTail _ (Expr.Slice _ _ none _) (Value.ref _) (Value.ref _)) _ _ _); (with_reducible rename Fr _ _ _ _ => F'); (with_reducible rename News _ _ _ _ => N'); k_dflt (refine' lslice (s := ⟨_, _, _, _, _⟩) F' N' ?km ?ki ?ka ?kb ?kz ?_); (case km => k_mem); (case ki => with_reducible assumption); (case ka => omega); (case kb => omega); (case kz => first | omega | (simp only [rangeKs_length] at *; omega)); clear F' N'; intro D' ws' h' F' N' l1 hI'; (try k_lt l1)))
  k_with "binaryOp Mod int int" => (k_here; k_dflt ((with_reducible refine mod_run ?_); intro t' rLo))
  k_with "binaryOp FloorDiv int int" => (k_here; k_dflt ((with_reducible refine div_lit ?ka ?_); (case ka => assumption); intro t' lLo))
  k_with "binaryOp FloorDiv int int" => (k_here; k_dflt ((with_reducible refine div_room ?ka ?kb ?_); (case ka => assumption); (case kb => ((rename 8 ≤ _ → cntOf _ < 500 => hcX); exact hcX (by omega))); intro t' roomLo roomHi))
  k_with "binaryOp Pow int int" => (k_here; k_dflt ((with_reducible refine pow_int_small ?ka ?kb ?kc ?_); (case ka => first | decide | omega); (case kb => first | decide | omega); (case kc => decide)))
  k_with "binaryOp Mult int int" => (k_here; k_dflt ((with_reducible refine mul_word ?ka ?_); (case ka => exact wmem_cut (by assumption) (by assumption) (by assumption)); intro t'))
  k_with "call builtin:len" => (k_here; k_dflt ((with_reducible show wpAny _ _ (call (Value.builtin "len") [Value.ref _]) _ _ _); (refine' len_ints ?kn ?km ?ki ?kz ?_); (case kn => k_asm); (case km => k_mem); (case ki => with_reducible assumption); (case kz => first | exact cut_small (by (try simp only [rangeKs_length] at *); omega) | omega | (simp only [List.length_take, List.length_drop, rangeKs_length] at *; omega)); intro t' k'))
  revert KX
  k_fill
  intro KX
  refine wpAny_call ?_
  refine' code_def ?k1 ?k2 ?k3 ?k4 ?k5 ?kA ?kF ?kK ?k6 ?k7 ?k8 ?k9 ?kB ?_ ?c2 ?c3 ?c4 ?c5
  case kA => exact rfl
  case kF => exact hf
  case kK => exact hke
  case k1 => k_asm
  case k2 => k_asm
  case k3 => k_asm
  case k4 => k_asm
  case k5 => k_asm
  case k6 => k_is
  case k7 => k_is
  case k8 => k_room
  case k9 => exact BindsTo.of_eq rfl
  case c5 => decide
  case kB => exact locs rfl
  case c2 => exact rfl
  case c3 => exact rfl
  case c4 => exact rfl
  k_whole
  intro g' L' h' FG' F' N' B' X' T'
  replace F' : Fr g' L' h' (fun y => List.lookup y [(PySem.Str.ofString "octets", Value.bytes b t)]) := F'
  rw [lookup1] at F'
  (try dsimp only)
  (try k_lift B')
  (try k_fold)
  k_steps
  · exact hS _ _ _ _ _ _ _ (by assumption) (by assumption) (by assumption) (read_short (by assumption))
  all_goals (rename News _ _ _ _ => nX)
  · exact hN _ _ (by assumption) (kst_newsOf nX (by intro p hp; repeat (first | exact hp | apply List.mem_cons_of_mem))) (read_none (by assumption) (by assumption) (dec_none1 (by assumption) (by assumption) (by assumption)))
  · exact hN _ _ (by assumption) (kst_newsOf nX (by intro p hp; repeat (first | exact hp | apply List.mem_cons_of_mem))) (read_none (by assumption) (by assumption) (dec_none2 (by assumption) (by assumption) (by assumption) (by assumption) (by assumption) (by assumption)))
  · exact hN _ _ (by assumption) (kst_newsOf nX (by intro p hp; repeat (first | exact hp | apply List.mem_cons_of_mem))) (read_none (by assumption) (by assumption) (dec_none2 (by assumption) (by assumption) (by assumption) (by assumption) (by assumption) (by assumption)))
  · exact hS _ _ _ _ _ _ _ (by assumption) (kst_newsOf nX (by refine sub_cons ?_; intro p hp; repeat (first | exact hp | apply List.mem_cons_of_mem))) (fun p hp => kst_ltOf (by simp_all) p hp) (read_some (by assumption) (by assumption) (dec_end (by assumption) (by assumption) (by assumption)))
end
section
open PySem.Calls
section
variable {prog : Program} {w : World} {A : Around} {E : Value → Shared → Prop} {s : Shared}
theorem if_true' {α : Type} {M : Model} {c : Bool} {a b : Sem α} {Q : α → Shared → Prop} (hc : c = true) (h : wpAny M A a Q E s) : wpAny M A (if c = true then a else b) Q E s := by
  subst hc; exact h
theorem if_false' {α : Type} {M : Model} {c : Bool} {a b : Sem α} {Q : α → Shared → Prop} (hc : c = false) (h : wpAny M A b Q E s) : wpAny M A (if c = true then a else b) Q E s := by
  subst hc; exact h
/-- a list walked to its end, each turn going on -/
theorem wpAny_forIn_go {M : Model} {α β : Type} {f : α → β → Sem (ForInStep β)} {b : β} {Q : β → Shared → Prop} : ∀ (l : List α), (∀ x ∈ l, ∀ R : ForInStep β → Shared → Prop, R (.yield b) s → wpAny M A (f x b) R E s) → Q b s → wpAny M A (forIn l b f) Q E s
  | [], _, h => by rw [List.forIn_nil]; exact wpAny_pure h
  | x :: l, hf, h => by
    rw [List.forIn_cons]
    refine wpAny_bind (hf x (List.mem_cons_self ..) _ ?_)
    exact wpAny_forIn_go l (fun y hy => hf y (List.mem_cons_of_mem _ hy)) h
theorem set_entry_eq : entryFor table "set.__eq__" = some Builtin.«frozenset.__eq__» := entryFor_alias (id' := "frozenset.__eq__") (by kernel_rfl) rfl (by decide +kernel) (by kernel_rfl)
theorem sub_set_set : isSubtype (.type "set") (.type "set") = pure true := by rw [isSubtype_type]; kernel_rfl
theorem sub_set_frozen : isSubtype (.type "set") (.type "frozenset") = pure false := by rw [isSubtype_type]; kernel_rfl
theorem setOf_typeIs {a : Addr} {S : Int → Bool} {n : Nat} (h : s.heap.SetOf (intKind prog w) a S n) : s.TypeIs (.ref a) "set" := by
  obtain ⟨o, es, ep, t, ho, hex, _⟩ := h
  exact ⟨o, ho, hex.1⟩
theorem sizeOf_set {a : Addr} {S : Int → Bool} {n : Nat} {Q : Nat → Shared → Prop} (hS : s.heap.SetOf (intKind prog w) a S n) (h : Q n s) : wpAny (model prog w) A (Builtin.Frozenset.sizeOf a) Q E s := by
  obtain ⟨o, es, ep, t, ho, _, hd, hel, hmem, hb, hf, hn⟩ := hS
  unfold Builtin.Frozenset.sizeOf setEntries
  refine wpAny_bind (wpAny_bind (wpAny_setState_of ho hd hf (wpAny_pure (wpAny_pure ?_))))
  rw [← hn] at h
  exact h
theorem quiet_of {v : Value} {k : Int} (h : Value.isInt k v = true) : Builtin.Frozenset.quietEq v = pure true := by
  obtain ⟨t, rfl⟩ := Value.isInt_shape h
  rfl
theorem walkUnseen_set {a b : Addr} {S S' : Int → Bool} {n n' : Nat} {Q : List (Int × Value) → Shared → Prop} (hS : s.heap.SetOf (intKind prog w) a S n) (hS' : s.heap.SetOf (intKind prog w) b S' n')
    (h : ∀ l, (∀ e ∈ l, (∃ k, Value.isInt k e.2 = true ∧ e.1 = hashInt k ∧ S k = true) ∧ e.2.scannable = true) → Q l s) : wpAny (model prog w) A (Builtin.Frozenset.walkUnseen a b) Q E s := by
  obtain ⟨o, es, ep, t, ho, _, hd, hel, hmem, hb, hf, hn⟩ := hS
  obtain ⟨o', es', ep', t', ho', _, hd', hel', hmem', hb', hf', hn'⟩ := hS'
  unfold Builtin.Frozenset.walkUnseen setEntries
  refine wpAny_bind (wpAny_bind (wpAny_setState_of ho hd hf (wpAny_pure ?_)))
  refine wpAny_bind (wpAny_bind (wpAny_setState_of ho' hd' hf' (wpAny_pure ?_)))
  have key : ∀ e ∈ es.toList ++ es'.toList, Builtin.Frozenset.quietEq e.2 = pure true := by
    intro e he
    rcases List.mem_append.mp he with he | he
    · obtain ⟨⟨k, hk, _⟩, _⟩ := hel e he; exact quiet_of hk
    · obtain ⟨⟨k, hk, _⟩, _⟩ := hel' e he; exact quiet_of hk
  have hfin : Q es.toList s := h _ fun e he => by
    obtain ⟨⟨k, hk, hh⟩, hs⟩ := hel e he
    exact ⟨⟨k, hk, hh, (hmem k).mpr ⟨e, he, hk⟩⟩, hs⟩
  refine wpAny_bind (wpAny_forIn_go (b := _) _ (fun x hx R hR => ?_) ?_)
  · obtain ⟨y, v⟩ := x
    show wpAny _ _ (Builtin.Frozenset.quietEq v >>= fun r => _) _ _ _
    refine wpAny_bind (wpAny_of_eq (key (y, v) hx) ?_)
    exact if_false' rfl (wpAny_pure hR)
  · exact wpAny_pure hfin
theorem subset_true {id : String} {a b : Addr} {S S' : Int → Bool} {n n' : Nat} {Q : Bool → Shared → Prop} (hS : s.heap.SetOf (intKind prog w) a S n) (hS' : s.heap.SetOf (intKind prog w) b S' n') (hn : n ≤ n') (hsub : ∀ k, S k = true → S' k = true)
    (h : Q true s) : wpAny (model prog w) A (Builtin.Frozenset.subsetOf id a b) Q E s := by
  unfold Builtin.Frozenset.subsetOf
  refine wpAny_bind (sizeOf_set hS ?_)
  refine wpAny_bind (sizeOf_set hS' ?_)
  refine wpAny_ite_false (decide_eq_false (Nat.not_lt.mpr hn)) ?_
  have hS₁ := hS
  obtain ⟨o, es, ep, t, ho, _, hd, hel, hmem, hb, hf, hn₁⟩ := hS₁
  refine wpAny_bind (wpAny_setEpoch_of ho hd hf ?_)
  refine wpAny_bind (walkUnseen_set hS hS' fun l hl => ?_)
  refine wpAny_bind (wpAny_forIn_go (b := _) _ (fun x hx R hR => ?_) ?_)
  · obtain ⟨y, v⟩ := x
    obtain ⟨⟨k, hk, hh, hSk⟩, hsc⟩ := hl _ hx
    dsimp only at hk hh hsc
    subst hh
    refine wpAny_bind (wpAny_holding (wpAny_setFind_of (knd := intKind prog w) hk hsc hS' fun r hr => ?_))
    have hr' : r.isNone = false := by
      rw [hsub k hSk] at hr
      cases r with
      | none => cases hr
      | some _ => rfl
    refine if_false' hr' ?_
    unfold Builtin.Frozenset.unchanged
    refine wpAny_bind (wpAny_bind (wpAny_setEpoch_of ho hd hf ?_))
    refine if_false' (by simp) (wpAny_pure (wpAny_pure hR))
  · exact wpAny_pure h
theorem set_eq_true {a b : Addr} {S S' : Int → Bool} {n n' : Nat} {Q : Value → Shared → Prop} (hS : s.heap.SetOf (intKind prog w) a S n) (hS' : s.heap.SetOf (intKind prog w) b S' n') (hn : n = n') (hsub : ∀ k, S k = true → S' k = true)
    (hu : A.units < cLine) (h : Q (.bool true) s) : wpAny (model prog w) A (compareOp .Eq (.ref a) (.ref b)) Q E s := by
  have ta := setOf_typeIs hS
  have tb := setOf_typeIs hS'
  refine wpAny_richCompare_same_room (op := .Eq) ta tb F.slot_set_eq (wpAny_call_entry F.slot_set_eq ta set_entry_eq ?_ (F.args_set_eq_2 _ _)) hu
  show wpAny _ _ (Builtin.Frozenset.slot1 "__eq__" ⟨[.ref a, .ref b], []⟩ >>= fun x => _) _ _ s
  refine wpAny_bind (wpAny_of_eq (a := (.ref a, .ref b)) rfl ?_)
  show wpAny _ _ (Builtin.Frozenset.isAnySet (.ref b) >>= fun x => _) _ _ s
  refine wpAny_bind ?_
  unfold Builtin.Frozenset.isAnySet
  refine wpAny_bind (wpAny_isInstance tb sub_set_set ?_)
  refine wpAny_pure (a := true) ?_
  refine if_false' rfl ?_
  refine wpAny_bind (wpAny_of_eq (a := a) rfl ?_)
  refine wpAny_bind (wpAny_of_eq (a := b) rfl ?_)
  refine wpAny_bind (sizeOf_set hS ?_)
  refine wpAny_bind (sizeOf_set hS' ?_)
  subst hn
  show wpAny _ _ (_ >>= fun r => ret (.bool r)) _ _ s
  refine wpAny_bind (if_false' (by simp) ?_)
  refine wpAny_bind (wpAny_bind (wpAny_isInstance ta sub_set_frozen (wpAny_pure (a := false) ?_)))
  refine if_false' rfl ?_
  exact subset_true hS hS' (Nat.le_refl _) hsub (wpAny_pure ⟨_, rfl, ⟨(by intro x; cases x), h⟩⟩)
end
end
section
/-! ## the bits of a number -/
def bitI (num k : Int) : Bool := decide (0 ≤ k) && num.toNat.testBit k.toNat
theorem tb_add {n x a k : Nat} (h : n < 2 ^ a) : (n + x * 2 ^ a).testBit k = if k < a then n.testBit k else x.testBit (k - a) := by
  rw [Nat.add_comm, Nat.mul_comm, Nat.testBit_two_pow_mul_add _ h]
theorem bitI_zero (k : Int) : bitI 0 k = false := by
  unfold bitI
  simp
theorem bitI_nat (n : Nat) (k : Nat) : bitI (n : Int) (k : Int) = n.testBit k := by
  unfold bitI
  simp
theorem bitI_high {num k : Int} {a : Nat} (h1 : num < ((2 ^ a : Nat) : Int)) (hb : bitI num k = true) : 0 ≤ k ∧ k < (a : Int) := by
  unfold bitI at hb
  simp only [Bool.and_eq_true, decide_eq_true_eq] at hb
  refine ⟨hb.1, ?_⟩
  by_cases hk : k.toNat < a
  · omega
  · have hlt : num.toNat < 2 ^ k.toNat := by
      have h2 : num.toNat < 2 ^ a := by have := Nat.pow_pos (n := a) (by decide : 0 < 2); omega
      exact Nat.lt_of_lt_of_le h2 (Nat.pow_le_pow_right (by decide) (by omega))
    rw [Nat.testBit_lt_two_pow hlt] at hb
    exact absurd hb.2 (by decide)
/-- a number with x laid on top at the place a -/
theorem bitI_put {num x : Int} {a : Nat} (h0 : 0 ≤ num) (h1 : num < ((2 ^ a : Nat) : Int)) (hx : 0 ≤ x) (k : Int) :
    bitI (num + x * ((2 ^ a : Nat) : Int)) k = (bitI num k || (decide ((a : Int) ≤ k) && x.toNat.testBit (k.toNat - a))) := by
  obtain ⟨n, rfl⟩ := Int.eq_ofNat_of_zero_le h0
  obtain ⟨y, rfl⟩ := Int.eq_ofNat_of_zero_le hx
  have hn : n < 2 ^ a := by omega
  have e : ((n : Int) + (y : Int) * ((2 ^ a : Nat) : Int)) = ((n + y * 2 ^ a : Nat) : Int) := by push_cast; rfl
  rw [e]
  unfold bitI
  rw [Int.toNat_natCast, Int.toNat_natCast, Int.toNat_natCast, tb_add hn]
  by_cases hk : 0 ≤ k
  · by_cases ha : k.toNat < a
    · have h3 : ¬ (a : Int) ≤ k := by omega
      simp [ha, h3, hk]
    · have h3 : (a : Int) ≤ k := by omega
      have hlt : n < 2 ^ k.toNat := Nat.lt_of_lt_of_le hn (Nat.pow_le_pow_right (by decide) (by omega))
      simp [ha, h3, hk, Nat.testBit_lt_two_pow hlt]
  · have h3 : ¬ (a : Int) ≤ k := by omega
    simp [hk, h3]
theorem pow_nat (e : Int) : (2 : Int) ^ e.toNat = ((2 ^ e.toNat : Nat) : Int) := by push_cast; rfl
/-- a run of ones from 64 * at to 64 * (at + run) -/
theorem bitI_run {num at_ run : Int} (ha : 0 ≤ at_) (hr : 0 ≤ run) (h0 : 0 ≤ num) (h1 : num < 2 ^ (64 * at_).toNat) (k : Int) :
    bitI (num + (2 ^ (64 * (at_ + run)).toNat - 2 ^ (64 * at_).toNat)) k = (bitI num k || (decide (64 * at_ ≤ k) && decide (k < 64 * at_ + run * 64))) := by
  rw [pow_nat] at h1
  have e1 : (64 * (at_ + run)).toNat = (64 * run).toNat + (64 * at_).toNat := by
    rw [Int.mul_add, Int.add_comm, Int.toNat_add (by omega) (by omega)]
  have e : (2 : Int) ^ (64 * (at_ + run)).toNat - 2 ^ (64 * at_).toNat = ((2 ^ (64 * run).toNat - 1 : Nat) : Int) * ((2 ^ (64 * at_).toNat : Nat) : Int) := by
    have hp : 1 ≤ 2 ^ (64 * run).toNat := Nat.pow_pos (by decide)
    rw [e1, pow_nat, Int.pow_add, Int.natCast_sub hp, Int.sub_mul]
    push_cast
    rw [Int.one_mul]
  rw [e, bitI_put h0 h1 (Int.natCast_nonneg _)]
  congr 1
  rw [Int.toNat_natCast, Nat.testBit_two_pow_sub_one]
  have e3 : (((64 * at_).toNat : Nat) : Int) = 64 * at_ := by omega
  rw [e3]
  by_cases hk : 64 * at_ ≤ k
  · rw [decide_eq_true hk, Bool.true_and, Bool.true_and, decide_eq_decide]
    omega
  · rw [decide_eq_false hk, Bool.false_and, Bool.false_and]
/-- a literal word at 64 * at -/
theorem bitI_word {num at_ x : Int} (ha : 0 ≤ at_) (hx : 0 ≤ x) (h0 : 0 ≤ num) (h1 : num < 2 ^ (64 * at_).toNat) (k : Int) :
    bitI (num + x * 2 ^ (64 * at_).toNat) k = (bitI num k || (decide (64 * at_ ≤ k) && x.toNat.testBit (k - 64 * at_).toNat)) := by
  rw [pow_nat] at h1
  rw [pow_nat, bitI_put h0 h1 hx]
  congr 1
  have e3 : (((64 * at_).toNat : Nat) : Int) = 64 * at_ := by omega
  rw [e3]
  by_cases hk : 64 * at_ ≤ k
  · have e4 : k.toNat - (64 * at_).toNat = (k - 64 * at_).toNat := by omega
    rw [e4]
  · rw [decide_eq_false hk, Bool.false_and, Bool.false_and]
/-! ## sizes -/
theorem pow64_step {a : Int} (ha : 0 ≤ a) : (2 : Int) ^ (64 * (a + 1)).toNat = 18446744073709551616 * 2 ^ (64 * a).toNat := by
  have e : (64 * (a + 1)).toNat = (64 * a).toNat + 64 := by omega
  rw [e, Int.pow_add, Int.mul_comm]
  rfl
theorem pow64_pos (a : Int) : (0 : Int) < 2 ^ (64 * a).toNat := Int.pow_pos (by decide)
theorem word_size {num a x : Int} (ha : 0 ≤ a) (hx : 0 ≤ x ∧ x < 18446744073709551616) (h0 : 0 ≤ num) (h1 : num < 2 ^ (64 * a).toNat) :
    0 ≤ num + x * 2 ^ (64 * a).toNat ∧ num + x * 2 ^ (64 * a).toNat < 2 ^ (64 * (a + 1)).toNat := by
  rw [pow64_step ha]
  have hp := pow64_pos a
  generalize (2 : Int) ^ (64 * a).toNat = P at *
  have h2 : 0 ≤ x * P := Int.mul_nonneg hx.1 (by omega)
  have h3 : (x + 1) * P ≤ 18446744073709551616 * P := Int.mul_le_mul_of_nonneg_right (by omega) (by omega)
  rw [Int.add_mul, Int.one_mul] at h3
  omega
theorem pow64_mono {a c : Int} (h : a ≤ c) : (2 : Int) ^ (64 * a).toNat ≤ 2 ^ (64 * c).toNat := by
  rw [pow_nat, pow_nat]
  exact Int.ofNat_le.mpr (Nat.pow_le_pow_right (by decide) (by omega))
theorem run_size {num a r : Int} (hr : 0 ≤ r) (h0 : 0 ≤ num) (h1 : num < 2 ^ (64 * a).toNat) :
    0 ≤ num + (2 ^ (64 * (a + r)).toNat - 2 ^ (64 * a).toNat) ∧ num + (2 ^ (64 * (a + r)).toNat - 2 ^ (64 * a).toNat) < 2 ^ (64 * (a + r)).toNat := by
  have h2 := pow64_mono (a := a) (c := a + r) (by omega)
  generalize (2 : Int) ^ (64 * (a + r)).toNat = P at *
  generalize (2 : Int) ^ (64 * a).toNat = R at *
  omega
theorem num1_size {x num a : Int} (h0 : 0 ≤ num) (h1 : num < 2 ^ (64 * a).toNat) : 0 ≤ num1 x a num ∧ num1 x a num < 2 ^ (64 * (a + runOf x)).toNat := by
  unfold num1
  split
  · exact run_size (run_bound x).1 h0 h1
  · exact ⟨h0, Int.lt_of_lt_of_le h1 (pow64_mono (by have := run_bound x; omega))⟩
end
section
open PySem.Calls PyProof.V PySem.Spec
/-! ## loops that turn one object of the ledger (a set): the ledger is g of the object -/
theorem news_upd {h₀ h : Heap} {L sa : Addr} {so : Obj} {news : List (Addr × Obj)} {g : Obj → List (Addr × Obj)} (U : UpdF sa so news g) (N : News h₀ L h news) : News h₀ L h (g so) := by
  obtain ⟨pre, post, rfl, hg, _, _⟩ := U.split
  rw [hg]
  exact N
section
variable {prog : Program} {w : World} {A : Around} {E : Value → Shared → Prop} {s : Shared} {env : Env} {h₀ : Heap} {x : Str} {body : List Stmt} {Q : Flow → Shared → Prop}
theorem kst_rangeU {σ : Type} {r sa : Addr} {a₀ b₀ : Int} {t₀ u₀ v₀ : Tok} {n : Nat} {m₀ : Str → Option Value} {news : List (Addr × Obj)} {g : Obj → List (Addr × Obj)} (so : σ → Obj) (ps : σ → List (Str × Value)) (stored : List Str) (P : List Int → σ → Prop) (c₀ : σ)
    (U : UpdF sa (so c₀) news g) (hh : A.handled = none) (hr : IsRange s.heap r a₀ b₀ 1 t₀ u₀ v₀) (hsmall : Builtin.Range.small a₀ b₀ 1 = true) (hn : Builtin.Range.rangeSize a₀ b₀ 1 = (n : Int)) (F : Fr h₀ env.locals s.heap m₀) (N : News h₀ env.locals s.heap news) (hk : ∀ p ∈ ps c₀, m₀ p.1 = some p.2) (hp : P [] c₀)
    (turn : ∀ (c : σ) (pre : List Int) (k : Int) t (u : Str → Option Value) h tk own, k = a₀ + (pre.length : Int) → pre.length < n → OwnOff own ((g (so c₀)).map (·.1)) → P pre c →
      Fr h₀ env.locals h (fun y => if y = x then some (.int k t) else kstB (fun z => if stored.contains z then u z else m₀ z) (ps c) y) → News h₀ env.locals h (g (so c) ++ own) →
      wpAny (model prog w) A (execs body env) (InvPostN h₀ env.locals (KstS (fun c => g (so c)) ps (fun _ => True) x stored m₀ P (pre ++ [k])) own ((g (so c₀)).map (·.1)) { s with heap := h, toks := tk } Q) E { s with heap := h, toks := tk })
    (done : ∀ (c : σ) (u : Str → Option Value) h tk, P (rangeKs a₀ n) c → Fr h₀ env.locals h (fun y => if y = x then u y else kstB (fun z => if stored.contains z then u z else m₀ z) (ps c) y) → News h₀ env.locals h (g (so c)) → Q .next { s with heap := h, toks := tk }) :
    wpAny (model prog w) A (pyIter (.ref r)) (fun it s₂ => LoopAtV prog w A h₀ env x body Q E it s₂) E s :=
  kst_range (fun c => g (so c)) ps (fun _ => True) stored P c₀ hh hr hsmall hn F (news_upd U N) trivial hk hp (fun c pre k t u h tk own e1 e2 e3 _ hP F' N' => turn c pre k t u h tk own e1 e2 e3 hP F' N') (fun c u h tk _ hP F' N' => done c u h tk hP F' N')
theorem ksw_whileU {σ : Type} {L sa : Addr} {test : Expr} {pos : Pos} {m₀ : Str → Option Value} {news : List (Addr × Obj)} {g : Obj → List (Addr × Obj)} (so : σ → Obj) (ps : σ → List (Str × Value)) (stored : List Str) (P : σ → Prop) (μ : σ → Nat) (c₀ : σ)
    (U : UpdF sa (so c₀) news g) (F : Fr h₀ L s.heap m₀) (N : News h₀ L s.heap news) (hk : ∀ p ∈ ps c₀, m₀ p.1 = some p.2) (hp : P c₀)
    (turn : ∀ (c : σ) (u : Str → Option Value) h tk, P c → Fr h₀ L h (kstB (fun z => if stored.contains z then u z else m₀ z) (ps c)) → News h₀ L h (g (so c)) →
      wpAny (model prog w) A (isTrue test env (eval test env)) (fun b s₂ =>
        if b = true then wpAny (model prog w) A (execs body env) (KswPost h₀ L s (fun c => g (so c)) ps (fun _ => True) stored m₀ P μ Q c) E s₂ else Q .next s₂) E { s with heap := h, toks := tk })
    (hE : PassesOwn (model prog w) A env E := by passes_own) :
    wpAny (model prog w) A (exec (.While test body [] pos) env) Q E s :=
  ksw_while (fun c => g (so c)) ps (fun _ => True) stored P μ c₀ F (news_upd U N) trivial hk hp (fun c u h tk _ hP F' N' => turn c u h tk hP F' N') hE
end

/-! ## sets of ints with their size -/
def FinS (S : Int → Bool) (n : Nat) : Prop := ∃ l : List Int, l.Nodup ∧ l.length = n ∧ ∀ k, S k = true ↔ k ∈ l
theorem finS_nil : FinS (fun _ => false) 0 := ⟨[], List.nodup_nil, rfl, fun k => by simp⟩
theorem finS_add {S : Int → Bool} {n : Nat} (h : FinS S n) (k : Int) : FinS (fun k' => S k' || decide (k' = k)) (if S k then n else n + 1) := by
  obtain ⟨l, hn, hl, hm⟩ := h
  by_cases hk : S k = true
  · rw [if_pos hk]
    refine ⟨l, hn, hl, fun k' => ?_⟩
    rw [Bool.or_eq_true, decide_eq_true_eq, hm]
    exact ⟨fun h => h.elim id fun e => e ▸ (hm k).mp hk, .inl⟩
  · rw [if_neg hk]
    have hk' : k ∉ l := fun h => hk ((hm k).mpr h)
    refine ⟨k :: l, List.nodup_cons.mpr ⟨hk', hn⟩, by rw [List.length_cons, hl], fun k' => ?_⟩
    rw [Bool.or_eq_true, decide_eq_true_eq, hm, List.mem_cons]
    exact Or.comm
theorem finS_eq {S S' : Int → Bool} {n n' : Nat} (h : FinS S n) (h' : FinS S' n') (e : ∀ k, S k = true ↔ S' k = true) : n = n' := by
  obtain ⟨l, hn, hl, hm⟩ := h
  obtain ⟨l', hn', hl', hm'⟩ := h'
  have h1 := List.Nodup.length_le_of_subset hn (l₂ := l') fun k hk => (hm' k).mp ((e k).mp ((hm k).mpr hk))
  have h2 := List.Nodup.length_le_of_subset hn' (l₂ := l) fun k hk => (hm k).mp ((e k).mpr ((hm' k).mpr hk))
  omega
/-- a set within 0 .. b has at most b members -/
theorem finS_le {S : Int → Bool} {n b : Nat} (h : FinS S n) (hb : ∀ k, S k = true → 0 ≤ k ∧ k < (b : Int)) : n ≤ b := by
  obtain ⟨l, hn, hl, hm⟩ := h
  have h1 := List.Nodup.length_le_of_subset hn (l₂ := (List.range b).map fun i : Nat => (i : Int)) fun k hk => by
    obtain ⟨h0, h1⟩ := hb k ((hm k).mpr hk)
    exact List.mem_map.mpr ⟨k.toNat, List.mem_range.mpr (by omega), by omega⟩
  rw [List.length_map, List.length_range] at h1
  omega
/-! ## the while's word -/
section
variable (prog : Program) (w : World)
/-- the set's object bears just the bits of num -/
def SetNum (so : Obj) (num : Int) : Prop := ∃ S n, so.SetObjOf (intKind prog w) S n ∧ FinS S n ∧ ∀ k, S k = bitI num k
def WP (ks : List Int) (so : Obj) (idx cb : Int) : Prop :=
  0 ≤ idx ∧ ∃ a num, cb = 64 * a ∧ 0 ≤ a ∧ a ≤ roomOf ks ∧ 0 ≤ num ∧ num < 2 ^ (64 * a).toNat ∧ SetNum prog w so num ∧
    dec (roomOf ks) (wordsOf ks) 0 0 = dec (roomOf ks) ((wordsOf ks).drop idx.toNat) a num
theorem wp_start {ks : List Int} {so : Obj} (hr : 0 ≤ roomOf ks) (h : so.SetObjOf (intKind prog w) (fun _ => false) 0) : WP prog w ks so 0 0 :=
  ⟨Int.le_refl _, 0, 0, rfl, Int.le_refl _, hr, Int.le_refl _, by decide, ⟨_, 0, h, finS_nil, fun k => (bitI_zero k).symm⟩, rfl⟩
end
end
section
open PySem.Calls PyProof.V PySem.Spec
/-! ## where several ways of a statement meet: one state behind it -/
def JEnd {σ : Type} (h₀ : Heap) (L : Addr) (s : Shared) (Led : σ → List (Addr × Obj)) (ps : σ → List (Str × Value)) (stored : List Str) (m₀ : Str → Option Value) (P : σ → Prop) (s₂ : Shared) : Prop :=
  ∃ (c' : σ) (h' : Heap) (tk : Nat) (m' : Str → Option Value) (news' : List (Addr × Obj)), s₂ = { s with heap := h', toks := tk } ∧ Fr h₀ L h' m' ∧ News h₀ L h' news' ∧ (∀ p ∈ Led c', p ∈ news') ∧ (∀ p ∈ ps c', m' p.1 = some p.2) ∧ (∀ z, (∀ p ∈ ps c', z ≠ p.1) → stored.contains z = false → m' z = m₀ z) ∧ P c'
def JPost {σ : Type} (h₀ : Heap) (L : Addr) (s : Shared) (Led : σ → List (Addr × Obj)) (ps : σ → List (Str × Value)) (stored : List Str) (m₀ : Str → Option Value) (P : σ → Prop) (Q : Flow → Shared → Prop) (f : Flow) (s₂ : Shared) : Prop :=
  match f with
  | .next => JEnd h₀ L s Led ps stored m₀ P s₂
  | .ret v => Q (.ret v) s₂
  | .brk => Q .brk s₂
  | .cont => Q .cont s₂
theorem j_end {σ : Type} {h₀ : Heap} {L : Addr} {s : Shared} {Led : σ → List (Addr × Obj)} {ps : σ → List (Str × Value)} {stored : List Str} {m₀ m' : Str → Option Value} {P : σ → Prop} {h' : Heap} {tk : Nat} {news' : List (Addr × Obj)} (c' : σ)
    (F : Fr h₀ L h' m') (N : News h₀ L h' news') (hn : ∀ p ∈ Led c', p ∈ news') (hk : ∀ p ∈ ps c', m' p.1 = some p.2) (hr : ∀ z, (∀ p ∈ ps c', z ≠ p.1) → stored.contains z = false → m' z = m₀ z) (hp : P c') :
    JEnd h₀ L s Led ps stored m₀ P { s with heap := h', toks := tk } := ⟨c', h', tk, m', news', rfl, F, N, hn, hk, hr, hp⟩
section
variable {M : Model} {A : Around} {E : Value → Shared → Prop} {Q : Flow → Shared → Prop} {s : Shared} {h₀ : Heap} {L : Addr}
theorem join {σ : Type} {tree : Sem Flow} (Led : σ → List (Addr × Obj)) (ps : σ → List (Str × Value)) (stored : List Str) {m₀ : Str → Option Value} (P : σ → Prop)
    (h1 : wpAny M A tree (JPost h₀ L s Led ps stored m₀ P Q) E s)
    (h2 : ∀ (c : σ) (u : Str → Option Value) h tk, P c → Fr h₀ L h (kstB (fun z => if stored.contains z then u z else m₀ z) (ps c)) → News h₀ L h (Led c) → Q .next { s with heap := h, toks := tk }) :
    wpAny M A tree Q E s := by
  refine wpAny_mono h1 (fun f s₂ p => ?_) fun _ _ x => x
  cases f with
  | ret v => exact p
  | brk => exact p
  | cont => exact p
  | next =>
    obtain ⟨c, h', tk, m', news', rfl, F, N, hn, hk, hr, hp⟩ := p
    exact h2 c m' h' tk hp (ksw_fr hk hr F) fun p hp => N p (hn p hp)
/-- the words' loop: what stands behind it -/
theorem join_words {tree : Sem Flow} {l l1 l2 xf df : Addr} {o0 o1 o3 fo : Obj} {ed : DictEntry} {hp : Int} {kp : Value} {p0 : Int} {tp : Tok} {tail : List (Addr × Obj)} {m₀ : Str → Option Value} (stored : List Str) (ws : List Int)
    (F : Fr h₀ L s.heap m₀) (N : News h₀ L s.heap ((l, o0) :: (l1, o1) :: (l2, o3) :: (xf, fo) :: (df, dictOf [ed, ⟨hp, kp, .int p0 tp⟩] 2) :: tail))
    (h1 : wpAny M A tree (JPost h₀ L s (fun c : List Value × Nat × Int × Tok => (l, listOf c.1.toArray c.2.1) :: (xf, fo) :: (df, dictOf [ed, ⟨hp, kp, .int c.2.2.1 c.2.2.2⟩] 2) :: tail) (fun _ => []) stored m₀ (fun c => IntsAre c.1 ws ∧ 8 ≤ c.2.2.1) Q) E s)
    (h2 : ∀ (vs : List Value) (n : Nat) (p : Int) (t : Tok) (u : Str → Option Value) h tk, IntsAre vs ws → 8 ≤ p → Fr h₀ L h (fun z => if stored.contains z then u z else m₀ z) → News h₀ L h ((l, listOf vs.toArray n) :: (xf, fo) :: (df, dictOf [ed, ⟨hp, kp, .int p t⟩] 2) :: tail) → Q .next { s with heap := h, toks := tk }) :
    wpAny M A tree Q E s :=
  join _ _ stored _ h1 fun ⟨vs, n, p, t⟩ u h tk hP F' N' => h2 vs n p t u h tk hP.1 hP.2 F' N'
end
end
section
open PySem.Calls PyProof.V PySem.Spec
/-! ## a set that is known by its members -/
section
variable (prog : Program) (w : World)
def SetIs (so : Obj) (f : Int → Bool) : Prop := ∃ S n, so.SetObjOf (intKind prog w) S n ∧ FinS S n ∧ n ≤ 512 ∧ (∀ k, S k = f k) ∧ ∀ k, f k = true → 0 ≤ k ∧ k < 512
theorem setIs_new (led : Bool) : SetIs prog w { cls := .type "set", dict := none, data := .set #[] 0 (.fresh 0 0 led) } (bitI 0) :=
  ⟨_, 0, PyProof.Rows.setObjOf_fresh _, finS_nil, by decide, fun k => (bitI_zero k).symm, fun k h => by rw [bitI_zero] at h; cases h⟩
end
section
variable {prog : Program} {w : World} {so : Obj} {f : Int → Bool}
theorem setIs_congr {g : Int → Bool} (h : SetIs prog w so f) (e : ∀ k, g k = f k) : SetIs prog w so g := by
  obtain ⟨S, n, h1, h2, h3, h4, h5⟩ := h
  exact ⟨S, n, h1, h2, h3, fun k => by rw [h4, e], fun k hk => h5 k (by rw [← e]; exact hk)⟩
theorem setIs_add {S : Int → Bool} {n : Nat} {k : Int} (h1 : so.SetObjOf (intKind prog w) (fun k' => S k' || decide (k' = k)) (if S k then n else n + 1)) (h2 : FinS S n) (h4 : ∀ k, S k = f k) (h5 : ∀ k, f k = true → 0 ≤ k ∧ k < 512) (hk : 0 ≤ k ∧ k < 512) :
    SetIs prog w so (fun k' => f k' || decide (k' = k)) := by
  have h6 : ∀ k', (f k' || decide (k' = k)) = true → 0 ≤ k' ∧ k' < 512 := by
    intro k' h
    rcases Bool.or_eq_true _ _ |>.mp h with h | h
    · exact h5 k' h
    · rw [of_decide_eq_true h]; exact hk
  refine ⟨_, _, h1, finS_add h2 k, finS_le (b := 512) (finS_add h2 k) ?_, fun k' => by rw [h4], h6⟩
  intro k' h
  refine h6 k' ?_
  rw [← h4]
  exact h
end
/-! ## the words of the loops -/
def runF (num a : Int) (n : Nat) : Int → Bool := fun k => bitI num k || (decide (64 * a ≤ k) && decide (k < 64 * a + (n : Int)))
def bitF (num a x : Int) (n : Nat) : Int → Bool := fun k => bitI num k || (decide (64 * a ≤ k) && (decide (k < 64 * a + (n : Int)) && x.toNat.testBit (k - 64 * a).toNat))
theorem runF_zero (num a : Int) (k : Int) : runF num a 0 k = bitI num k := by
  unfold runF
  have e : (decide (64 * a ≤ k) && decide (k < 64 * a + ((0 : Nat) : Int))) = false := by
    rw [Bool.and_eq_false_iff]
    by_cases h : 64 * a ≤ k
    · exact .inr (decide_eq_false (by omega))
    · exact .inl (decide_eq_false h)
  rw [e, Bool.or_false]
theorem runF_succ (num a : Int) (n : Nat) (k : Int) : runF num a (n + 1) k = (runF num a n k || decide (k = 64 * a + (n : Int))) := by
  unfold runF
  rw [Bool.or_assoc]
  congr 1
  by_cases h : 64 * a ≤ k
  · rw [decide_eq_true h, Bool.true_and, Bool.true_and]
    by_cases h2 : k < 64 * a + (n : Int)
    · rw [decide_eq_true h2, decide_eq_true (by omega), Bool.true_or]
    · rw [decide_eq_false h2, Bool.false_or, decide_eq_decide]
      omega
  · rw [decide_eq_false h, Bool.false_and, Bool.false_and, Bool.false_or, eq_comm, decide_eq_false_iff_not]
    omega
theorem runF_end {num a r : Int} {n : Nat} (ha : 0 ≤ a) (hr : 0 ≤ r) (h0 : 0 ≤ num) (h1 : num < 2 ^ (64 * a).toNat) (hn : (n : Int) = r * 64) (k : Int) :
    bitI (num + (2 ^ (64 * (a + r)).toNat - 2 ^ (64 * a).toNat)) k = runF num a n k := by
  rw [bitI_run ha hr h0 h1]
  unfold runF
  rw [hn]
theorem bitF_zero (num a x : Int) (k : Int) : bitF num a x 0 k = bitI num k := by
  unfold bitF
  by_cases h : 64 * a ≤ k
  · rw [decide_eq_false (by omega : ¬ k < 64 * a + ((0 : Nat) : Int)), Bool.false_and, Bool.and_false, Bool.or_false]
  · rw [decide_eq_false h, Bool.false_and, Bool.or_false]
theorem bitF_succ_yes {num a x : Int} {n : Nat} (ht : x.toNat.testBit n = true) (k : Int) : bitF num a x (n + 1) k = (bitF num a x n k || decide (k = 64 * a + (n : Int))) := by
  unfold bitF
  rw [Bool.or_assoc]
  congr 1
  by_cases h : 64 * a ≤ k
  · rw [decide_eq_true h, Bool.true_and, Bool.true_and]
    by_cases h2 : k < 64 * a + (n : Int)
    · rw [decide_eq_true h2, decide_eq_true (by omega), decide_eq_false (by omega), Bool.or_false]
    · rw [decide_eq_false h2, Bool.false_and, Bool.false_or]
      by_cases h3 : k = 64 * a + (n : Int)
      · rw [decide_eq_true h3, decide_eq_true (by omega), Bool.true_and]
        have e : (k - 64 * a).toNat = n := by omega
        rw [e]
        exact ht
      · rw [decide_eq_false h3, decide_eq_false (by omega), Bool.false_and]
  · rw [decide_eq_false h, Bool.false_and, Bool.false_and, Bool.false_or, eq_comm, decide_eq_false_iff_not]
    omega
theorem bitF_succ_no {num a x : Int} {n : Nat} (ht : x.toNat.testBit n = false) (k : Int) : bitF num a x (n + 1) k = bitF num a x n k := by
  unfold bitF
  congr 1
  by_cases h : 64 * a ≤ k
  · rw [decide_eq_true h, Bool.true_and, Bool.true_and]
    by_cases h2 : k < 64 * a + (n : Int)
    · rw [decide_eq_true h2, decide_eq_true (by omega)]
    · rw [decide_eq_false h2, Bool.false_and]
      by_cases h3 : k = 64 * a + (n : Int)
      · have e : (k - 64 * a).toNat = n := by omega
        rw [e, ht, Bool.and_false]
      · rw [decide_eq_false (by omega), Bool.false_and]
  · rw [decide_eq_false h, Bool.false_and, Bool.false_and]
theorem bitF_end {num a x : Int} {n : Nat} (ha : 0 ≤ a) (hx : 0 ≤ x ∧ x < 18446744073709551616) (h0 : 0 ≤ num) (h1 : num < 2 ^ (64 * a).toNat) (hn : n = 64) (k : Int) :
    bitI (num + x * 2 ^ (64 * a).toNat) k = bitF num a x n k := by
  rw [bitI_word ha hx.1 h0 h1]
  unfold bitF
  congr 1
  by_cases h : 64 * a ≤ k
  · rw [decide_eq_true h, Bool.true_and, Bool.true_and]
    by_cases h2 : k < 64 * a + (n : Int)
    · rw [decide_eq_true h2, Bool.true_and]
    · rw [decide_eq_false h2, Bool.false_and]
      refine Nat.testBit_lt_two_pow ?_
      have h3 : (2 : Nat) ^ 64 ≤ 2 ^ (k - 64 * a).toNat := Nat.pow_le_pow_right (by decide) (by omega)
      have e : (2 : Nat) ^ 64 = 18446744073709551616 := by decide
      omega
  · rw [decide_eq_false h, Bool.false_and, Bool.false_and]
/-! ## bits of ints -/
section
variable {prog : Program} {w : World} {A : Around} {E : Value → Shared → Prop} {s : Shared} {t u : Tok} {Q : Value → Shared → Prop} {x i : Int}
theorem lit_hi {x : Int} (h0 : 0 ≤ x) (h : x < 18446744073709551616) : litOf x < 2147483648 := by
  unfold litOf
  have e : (2 : Int) ^ 33 = 8589934592 := by decide
  rw [e, Int.fdiv_eq_ediv_of_nonneg _ (by decide)]
  omega
theorem and_one (h : ∀ t', Q (.int (x.fmod 2) t') { s with toks := s.toks + 1 }) : wpAny (model prog w) A (binaryOp .BitAnd (.int x t) (.int 1 u)) Q E s := by
  refine and_int ?_
  rw [bitAnd_m1, ← Int.fmod_eq_emod_of_nonneg _ (by decide)]
  exact h _
theorem shr_one (h : ∀ t', Q (.int (x.fdiv 2) t') { s with toks := s.toks + 1 }) : wpAny (model prog w) A (binaryOp .RShift (.int x t) (.int 1 u)) Q E s :=
  rshift_int (by decide) (h _)
theorem shr_33 (h0 : 0 ≤ x) (h1 : x < 18446744073709551616) (h : ∀ t', 0 ≤ litOf x → litOf x < 2147483648 → Q (.int (litOf x) t') { s with toks := s.toks + 1 }) : wpAny (model prog w) A (binaryOp .RShift (.int x t) (.int 33 u)) Q E s :=
  rshift_int (by decide) (h _ (lit_lo h0) (lit_hi h0 h1))
theorem and_run (h : ∀ t', 0 ≤ runOf x → runOf x < 4294967296 → Q (.int (runOf x) t') { s with toks := s.toks + 1 }) : wpAny (model prog w) A (binaryOp .BitAnd (.int (x.fdiv 2) t) (.int 4294967295 u)) Q E s := by
  refine and_int ?_
  have e : (4294967295 : Int) = 2 ^ 32 - 1 := by decide
  rw [e, kbt_mask, ← Int.fmod_eq_emod_of_nonneg _ (by decide)]
  exact h _ (run_bound x).1 (run_bound x).2
theorem shl_one (h0 : 0 ≤ i) (h1 : i < 64) (h : ∀ t', Q (.int (2 ^ i.toNat) t') { s with toks := s.toks + 1 }) : wpAny (model prog w) A (binaryOp .LShift (.int 1 t) (.int i u)) Q E s := by
  refine lshift_int_small (a := 1) h0 (by omega) (by decide) ?_
  rw [Int.one_mul]
  exact h _
theorem tb_and {n k : Nat} : (n &&& 2 ^ k = 0) ↔ n.testBit k = false := by
  rw [kbt_nat, Nat.testBit_eq_decide_div_mod_eq, decide_eq_false_iff_not]
  have hp : 0 < 2 ^ k := Nat.pow_pos (by decide)
  constructor
  · intro h
    rcases Nat.mul_eq_zero.mp h with h | h <;> omega
  · intro h
    have e : n / 2 ^ k % 2 = 0 := by omega
    rw [e, Nat.zero_mul]
theorem and_bit (hx : 0 ≤ x) (h1 : x.toNat.testBit i.toNat = true → ∀ v t', v ≠ 0 → Q (.int v t') { s with toks := s.toks + 1 }) (h0 : x.toNat.testBit i.toNat = false → ∀ t', Q (.int 0 t') { s with toks := s.toks + 1 }) :
    wpAny (model prog w) A (binaryOp .BitAnd (.int x t) (.int (2 ^ i.toNat) u)) Q E s := by
  refine and_int ?_
  have hp : (0 : Int) ≤ 2 ^ i.toNat := Int.le_of_lt (kbt_pos _)
  have e : Builtin.bitAnd x (2 ^ i.toNat) = ((x.toNat &&& 2 ^ i.toNat : Nat) : Int) := by
    rw [bitAnd_pp hx hp, pow_nat, Int.toNat_natCast]
  rw [e]
  cases hb : x.toNat.testBit i.toNat with
  | true =>
    refine h1 hb _ _ fun h => ?_
    rw [tb_and.mp (Int.ofNat_eq_zero.mp h)] at hb
    cases hb
  | false =>
    rw [tb_and.mpr hb]
    exact h0 hb _
theorem mul_run (h : ∀ t', Q (.int (runOf x * 64) t') { s with toks := s.toks + 1 }) : wpAny (model prog w) A (binaryOp .Mult (.int (runOf x) t) (.int 64 u)) Q E s :=
  mul_word ⟨(run_bound x).1, by have := (run_bound x).2; omega⟩ h
end
/-! ## the while's word -/
section
variable (prog : Program) (w : World)
def WQ (ks : List Int) (so : Obj) (idx cb : Int) : Prop :=
  ∃ a num, 0 ≤ idx ∧ cb = 64 * a ∧ 0 ≤ a ∧ a ≤ roomOf ks ∧ 0 ≤ num ∧ num < 2 ^ (64 * a).toNat ∧ SetIs prog w so (bitI num) ∧
    dec (roomOf ks) (wordsOf ks) 0 0 = dec (roomOf ks) ((wordsOf ks).drop idx.toNat) a num
theorem wq_start {ks : List Int} {led : Bool} (hr : 0 ≤ roomOf ks) : WQ prog w ks { cls := .type "set", dict := none, data := .set #[] 0 (.fresh 0 0 led) } 0 0 :=
  ⟨0, 0, Int.le_refl _, rfl, Int.le_refl _, hr, Int.le_refl _, by decide, setIs_new prog w led, rfl⟩
/-- behind the run of the head x -/
def RQ (ks : List Int) (x a num : Int) (so : Obj) (cb : Int) : Prop :=
  cb = 64 * (a + runOf x) ∧ a + runOf x ≤ roomOf ks ∧ SetIs prog w so (bitI (num1 x a num))
/-- within the literals behind the head: n of them are taken -/
def LQ (ks : List Int) (i1 a1 n1 : Int) (n : Nat) (so : Obj) (idx cb : Int) : Prop :=
  ∃ num, idx = i1 + (n : Int) ∧ cb = 64 * (a1 + (n : Int)) ∧ n ≤ ((wordsOf ks).drop i1.toNat).length ∧ a1 + (n : Int) ≤ roomOf ks ∧
    num = lits a1 n1 (((wordsOf ks).drop i1.toNat).take n) ∧ 0 ≤ num ∧ num < 2 ^ (64 * (a1 + (n : Int))).toNat ∧ SetIs prog w so (bitI num)
end
section
variable {prog : Program} {w : World} {ks : List Int} {so : Obj} {x a num idx cb i1 a1 n1 : Int}
theorem rq_none (hr : runOf x = 0) (ha : a ≤ roomOf ks) (hcb : cb = 64 * a) (h : SetIs prog w so (bitI num)) : RQ prog w ks x a num so cb := by
  refine ⟨by omega, by omega, setIs_congr h fun k => ?_⟩
  unfold num1
  rw [hr, Int.add_zero]
  split <;> simp
theorem rq_zero {r : Int} (hr : r * 64 = runOf x * 64) (hf : ¬ x.fmod 2 = 1) (hle : ¬ cb + r * 64 > roomOf ks * 64) (hcb : cb = 64 * a) (h : SetIs prog w so (bitI num)) : RQ prog w ks x a num so (cb + r * 64) := by
  refine ⟨by omega, by omega, setIs_congr h fun k => ?_⟩
  rw [num1_no hf]
theorem rq_ones {n : Nat} (hf : x.fmod 2 = 1) (hle : ¬ cb + runOf x * 64 > roomOf ks * 64) (hcb : cb = 64 * a) (ha : 0 ≤ a) (h0 : 0 ≤ num) (h1 : num < 2 ^ (64 * a).toNat) (hn : (n : Int) = runOf x * 64)
    (h : SetIs prog w so (runF num a n)) : RQ prog w ks x a num so (cb + runOf x * 64) := by
  refine ⟨by omega, by omega, setIs_congr h fun k => ?_⟩
  rw [num1_yes hf]
  exact runF_end ha (run_bound x).1 h0 h1 hn k
theorem lq_start (hi : i1 = idx + 1) (ha : a1 = a + runOf x) (hn1 : n1 = num1 x a num) (h0 : 0 ≤ num) (h1 : num < 2 ^ (64 * a).toNat) (h : RQ prog w ks x a num so cb) : LQ prog w ks i1 a1 n1 0 so (idx + 1) cb := by
  obtain ⟨e, h2, h3⟩ := h
  have h4 := num1_size (x := x) h0 h1
  refine ⟨n1, by omega, by omega, Nat.zero_le _, by omega, by rw [List.take_zero, lits], by rw [hn1]; exact h4.1, ?_, by rw [hn1]; exact h3⟩
  rw [hn1, ha]
  simpa using h4.2
theorem lq_step {n : Nat} {y : Int} (hi : idx = i1 + (n : Int)) (hi0 : 0 ≤ i1) (hcb : cb = 64 * (a1 + (n : Int))) (ha : 0 ≤ a1) (hlt : ¬ idx ≥ ((wordsOf ks).length : Int)) (hle : ¬ cb + 64 > roomOf ks * 64)
    (hy : (wordsOf ks).drop idx.toNat = y :: (wordsOf ks).drop (idx + 1).toNat) (hb : 0 ≤ y ∧ y < 18446744073709551616)
    (hn : num = lits a1 n1 (((wordsOf ks).drop i1.toNat).take n)) (h0 : 0 ≤ num) (h1 : num < 2 ^ (64 * (a1 + (n : Int))).toNat) (h : SetIs prog w so (bitF num (a1 + (n : Int)) y 64)) :
    LQ prog w ks i1 a1 n1 (n + 1) so (idx + 1) (cb + 64) := by
  have hs := word_size (a := a1 + (n : Int)) (by omega) hb h0 h1
  have e1 : a1 + ((n + 1 : Nat) : Int) = a1 + (n : Int) + 1 := by omega
  have hlen : n < ((wordsOf ks).drop i1.toNat).length := by rw [List.length_drop]; omega
  have hget : ((wordsOf ks).drop i1.toNat)[n]'hlen = y := by
    have h2 : ((wordsOf ks).drop i1.toNat).drop n = y :: (wordsOf ks).drop (idx + 1).toNat := by
      rw [List.drop_drop, ← hy]
      congr 1
      omega
    have h3 := List.drop_eq_getElem_cons hlen
    rw [h2] at h3
    exact (List.cons.inj h3).1.symm
  refine ⟨num + y * 2 ^ (64 * (a1 + (n : Int))).toNat, by omega, by omega, hlen, by omega, ?_, hs.1, by rw [e1]; exact hs.2, setIs_congr h fun k => bitF_end (by omega) hb h0 h1 rfl k⟩
  rw [List.take_succ_eq_append_getElem hlen, lits_snoc, ← hn, hget, List.length_take, Nat.min_eq_left (Nat.le_of_lt hlen)]
theorem wq_turn {n : Nat} {idx' cb' : Int} (hx : (wordsOf ks).drop idx.toNat = x :: (wordsOf ks).drop (idx + 1).toNat) (hi0 : 0 ≤ idx) (ha : 0 ≤ a) (hl : 0 ≤ litOf x)
    (hd : dec (roomOf ks) (wordsOf ks) 0 0 = dec (roomOf ks) ((wordsOf ks).drop idx.toNat) a num) (h : LQ prog w ks (idx + 1) (a + runOf x) (num1 x a num) n so idx' cb')
    (hn : n = (litOf x).toNat ∨ (n ≤ (litOf x).toNat ∧ idx' ≥ ((wordsOf ks).length : Int))) : WQ prog w ks so idx' cb' := by
  obtain ⟨m, e1, e2, h3, h4, h5, h6, h7, h8⟩ := h
  have hr := run_bound x
  refine ⟨a + runOf x + (n : Int), m, by omega, e2, by omega, h4, h6, h7, h8, ?_⟩
  have ht : ((wordsOf ks).drop (idx + 1).toNat).take (litOf x).toNat = ((wordsOf ks).drop (idx + 1).toNat).take n := by
    rcases hn with hn | ⟨hn, hge⟩
    · rw [hn]
    · have : ((wordsOf ks).drop (idx + 1).toNat).length ≤ n := by rw [List.length_drop]; omega
      rw [List.take_of_length_le this, List.take_of_length_le (by omega)]
  have hdr : ((wordsOf ks).drop (idx + 1).toNat).drop (litOf x).toNat = (wordsOf ks).drop idx'.toNat := by
    rw [List.drop_drop]
    rcases hn with hn | ⟨hn, hge⟩
    · congr 1
      omega
    · rw [List.drop_of_length_le (by omega), List.drop_of_length_le (by omega)]
  have hlen : ((((wordsOf ks).drop (idx + 1).toNat).take n).length : Int) = (n : Int) := by
    rw [List.length_take, Nat.min_eq_left h3]
  rw [hd, hx, dec_cons, if_neg (by omega), ht, hlen, if_neg (by omega), hdr, ← h5]
theorem dec_runs_over (hx : (wordsOf ks).drop idx.toNat = x :: (wordsOf ks).drop (idx + 1).toNat) (hd : dec (roomOf ks) (wordsOf ks) 0 0 = dec (roomOf ks) ((wordsOf ks).drop idx.toNat) a num) (hcb : cb = 64 * a) (h : cb + runOf x * 64 > roomOf ks * 64) :
    dec (roomOf ks) (wordsOf ks) 0 0 = none := by
  rw [hd, hx, dec_cons, if_pos (by omega)]
theorem dec_lits_over {n : Nat} {idx' cb' : Int} (hx : (wordsOf ks).drop idx.toNat = x :: (wordsOf ks).drop (idx + 1).toNat) (hi0 : 0 ≤ idx) (hd : dec (roomOf ks) (wordsOf ks) 0 0 = dec (roomOf ks) ((wordsOf ks).drop idx.toNat) a num)
    (hi : idx' = idx + 1 + (n : Int)) (hcb : cb' = 64 * (a + runOf x + (n : Int))) (hn : n < (litOf x).toNat) (hlt : ¬ idx' ≥ ((wordsOf ks).length : Int)) (h : cb' + 64 > roomOf ks * 64) :
    dec (roomOf ks) (wordsOf ks) 0 0 = none := by
  have hlen : n < (((wordsOf ks).drop (idx + 1).toNat).take (litOf x).toNat).length := by
    rw [List.length_take, List.length_drop]; omega
  rw [hd, hx, dec_cons]
  by_cases h1 : a + runOf x > roomOf ks
  · rw [if_pos h1]
  · rw [if_neg h1, if_pos (by omega)]
theorem read_no (h8 : 8 ≤ ks.length) (h : dec (roomOf ks) (wordsOf ks) 0 0 = none) : readOf ks = none := by
  rw [readOf, if_neg (by omega), h]; rfl
theorem read_yes (h8 : 8 ≤ ks.length) (hlt : ¬ idx < ((wordsOf ks).length : Int)) (h0 : 0 ≤ idx) (hd : dec (roomOf ks) (wordsOf ks) 0 0 = dec (roomOf ks) ((wordsOf ks).drop idx.toNat) a num) : readOf ks = some (cntOf ks, num) := by
  rw [readOf, if_neg (by omega), hd, List.drop_of_length_le (by omega), dec_nil]; rfl
theorem wq_done (h8 : 8 ≤ ks.length) (hlt : ¬ idx < ((wordsOf ks).length : Int)) (h : WQ prog w ks so idx cb) : ∃ n, readOf ks = some (cntOf ks, n) ∧ 0 ≤ n ∧ SetIs prog w so (bitI n) := by
  obtain ⟨a, n, h0, _, _, _, hn, _, hS, hd⟩ := h
  refine ⟨n, ?_, hn, hS⟩
  rw [readOf, if_neg (by omega), hd, List.drop_of_length_le (by omega), dec_nil]; rfl
end
end
section
open PySem.Calls PyProof.V PySem.Spec
section
variable {prog : Program} {w : World} {A : Around} {E : Value → Shared → Prop} {s : Shared} {env : Env} {h₀ : Heap} {v : Str} {body : List Stmt} {Q : Flow → Shared → Prop} {sa r : Addr} {so : Obj} {news : List (Addr × Obj)} {g : Obj → List (Addr × Obj)} {m₀ : Str → Option Value} {ks : List Int} {x num a : Int} {t₀ u₀ v₀ : Tok}
/-- for i in range(run_bits): the bits of a run -/
theorem run_loop (U : UpdF sa so news g) (hh : A.handled = none) (rg : IsRange s.heap r 0 (runOf x * 64) 1 t₀ u₀ v₀) (F : Fr h₀ env.locals s.heap m₀) (N : News h₀ env.locals s.heap news) (hS : SetIs prog w so (bitI num))
    (turn : ∀ (c : Obj) (S : Int → Bool) (n : Nat) (pre : List Int) (k : Int) t h tk own, c.SetObjOf (intKind prog w) S n → FinS S n → n ≤ 512 → (∀ k, S k = runF num a pre.length k) → (∀ k, runF num a pre.length k = true → 0 ≤ k ∧ k < 512) → k = (pre.length : Int) → k < runOf x * 64 → OwnOff own ((g so).map (·.1)) →
      Fr h₀ env.locals h (fun y => if y = v then some (.int k t) else m₀ y) → News h₀ env.locals h (g c ++ own) →
      wpAny (model prog w) A (execs body env) (InvPostN h₀ env.locals (KstS (fun c => g c) (fun _ => []) (fun _ => True) v [] m₀ (fun pre c => SetIs prog w c (runF num a pre.length)) (pre ++ [k])) own ((g so).map (·.1)) { s with heap := h, toks := tk } Q) E { s with heap := h, toks := tk })
    (done : ∀ (c : Obj) (u : Str → Option Value) h tk, SetIs prog w c (runF num a (runOf x * 64).toNat) → Fr h₀ env.locals h (fun y => if y = v then u y else m₀ y) → News h₀ env.locals h (g c) → Q .next { s with heap := h, toks := tk }) :
    wpAny (model prog w) A (pyIter (.ref r)) (fun it s₂ => LoopAtV prog w A h₀ env v body Q E it s₂) E s := by
  have hr := run_bound x
  refine kst_rangeU (σ := Obj) (fun c => c) (fun _ => []) [] (fun pre c => SetIs prog w c (runF num a pre.length)) so U hh rg (small_one (by decide) (by decide) (by omega) (by omega)) (rangeSize_nat _ _) F N (fun _ h => nomatch h) (setIs_congr hS fun k => runF_zero _ _ _) ?_ ?_
  · rintro c pre k t u h tk own e1 e2 e3 ⟨S, n, h1, h2, h3, h4, h5⟩ F' N'
    exact turn c S n pre k t h tk own h1 h2 h3 h4 h5 (by omega) (by omega) e3 F' N'
  · intro c u h tk hP F' N'
    rw [rangeKs_length, Int.sub_zero] at hP
    exact done c u h tk hP F' N'
/-- for i in range(64): the bits of a literal -/
theorem bit_loop {y cb idx : Int} (_hcb : cb = 64 * a) (_hy : (wordsOf ks).drop idx.toNat = y :: (wordsOf ks).drop (idx + 1).toNat) (U : UpdF sa so news g) (hh : A.handled = none) (rg : IsRange s.heap r 0 64 1 t₀ u₀ v₀) (F : Fr h₀ env.locals s.heap m₀) (N : News h₀ env.locals s.heap news) (hS : SetIs prog w so (bitI num))
    (turn : ∀ (c : Obj) (S : Int → Bool) (n : Nat) (pre : List Int) (k : Int) t h tk own, c.SetObjOf (intKind prog w) S n → FinS S n → n ≤ 512 → (∀ k, S k = bitF num a y pre.length k) → (∀ k, bitF num a y pre.length k = true → 0 ≤ k ∧ k < 512) → k = (pre.length : Int) → k < 64 → OwnOff own ((g so).map (·.1)) →
      Fr h₀ env.locals h (fun y => if y = v then some (.int k t) else m₀ y) → News h₀ env.locals h (g c ++ own) →
      wpAny (model prog w) A (execs body env) (InvPostN h₀ env.locals (KstS (fun c => g c) (fun _ => []) (fun _ => True) v [] m₀ (fun pre c => SetIs prog w c (bitF num a y pre.length)) (pre ++ [k])) own ((g so).map (·.1)) { s with heap := h, toks := tk } Q) E { s with heap := h, toks := tk })
    (done : ∀ (c : Obj) (u : Str → Option Value) h tk, SetIs prog w c (bitF num a y 64) → Fr h₀ env.locals h (fun y => if y = v then u y else m₀ y) → News h₀ env.locals h (g c) → Q .next { s with heap := h, toks := tk }) :
    wpAny (model prog w) A (pyIter (.ref r)) (fun it s₂ => LoopAtV prog w A h₀ env v body Q E it s₂) E s := by
  refine kst_rangeU (σ := Obj) (fun c => c) (fun _ => []) [] (fun pre c => SetIs prog w c (bitF num a y pre.length)) so U hh rg (by decide) (n := 64) (by rfl) F N (fun _ h => nomatch h) (setIs_congr hS fun k => bitF_zero _ _ _ _) ?_ ?_
  · rintro c pre k t u h tk own e1 e2 e3 ⟨S, n, h1, h2, h3, h4, h5⟩ F' N'
    exact turn c S n pre k t h tk own h1 h2 h3 h4 h5 (by omega) (by omega) e3 F' N'
  · intro c u h tk hP F' N'
    rw [rangeKs_length] at hP
    exact done c u h tk hP F' N'
theorem lq_idx {idx cb i1 a1 n1 : Int} {n : Nat} (h : LQ prog w ks i1 a1 n1 n so idx cb) : idx = i1 + (n : Int) := by
  obtain ⟨_, e, _⟩ := h
  exact e
/-- what a turn of the bits' loop leaves -/
theorem st_run1 {c : Obj} {S : Int → Bool} {n : Nat} {pre : List Int} {k cb : Int} (h1 : c.SetObjOf (intKind prog w) (fun k' => S k' || decide (k' = cb + k)) (if S (cb + k) then n else n + 1)) (h2 : FinS S n) (h4 : ∀ k, S k = runF num a pre.length k) (h5 : ∀ k, runF num a pre.length k = true → 0 ≤ k ∧ k < 512)
    (hk : k = (pre.length : Int)) (hcb : cb = 64 * a) (ha : 0 ≤ a) (hk2 : k < runOf x * 64) (hle : ¬ cb + runOf x * 64 > roomOf ks * 64) (hr : roomOf ks ≤ 8) : SetIs prog w c (runF num a (pre ++ [k]).length) := by
  refine setIs_congr (setIs_add h1 h2 h4 h5 (by omega)) fun k' => ?_
  rw [List.length_append, List.length_singleton, runF_succ, hcb, hk]
theorem st_bit1 {c : Obj} {S : Int → Bool} {n : Nat} {pre : List Int} {k cb y : Int} (h1 : c.SetObjOf (intKind prog w) (fun k' => S k' || decide (k' = cb + k)) (if S (cb + k) then n else n + 1)) (h2 : FinS S n) (h4 : ∀ k, S k = bitF num a y pre.length k) (h5 : ∀ k, bitF num a y pre.length k = true → 0 ≤ k ∧ k < 512)
    (hk : k = (pre.length : Int)) (hcb : cb = 64 * a) (ha : 0 ≤ a) (hk2 : k < 64) (hle : ¬ cb + 64 > roomOf ks * 64) (hr : roomOf ks ≤ 8) (hb : y.toNat.testBit k.toNat = true) : SetIs prog w c (bitF num a y (pre ++ [k]).length) := by
  have e : k.toNat = pre.length := by omega
  rw [e] at hb
  refine setIs_congr (setIs_add h1 h2 h4 h5 (by omega)) fun k' => ?_
  rw [List.length_append, List.length_singleton, bitF_succ_yes hb, hcb, hk]
theorem st_bit0 {c : Obj} {S : Int → Bool} {n : Nat} {pre : List Int} {k y : Int} (h1 : c.SetObjOf (intKind prog w) S n) (h2 : FinS S n) (h3 : n ≤ 512) (h4 : ∀ k, S k = bitF num a y pre.length k) (h5 : ∀ k, bitF num a y pre.length k = true → 0 ≤ k ∧ k < 512)
    (hk : k = (pre.length : Int)) (hb : y.toNat.testBit k.toNat = false) : SetIs prog w c (bitF num a y (pre ++ [k]).length) := by
  have e : k.toNat = pre.length := by omega
  rw [e] at hb
  refine setIs_congr ⟨S, n, h1, h2, h3, h4, h5⟩ fun k' => ?_
  rw [List.length_append, List.length_singleton, bitF_succ_no hb]
/-- for _ in range(literal_words) -/
theorem lit_loop {idx cb a1 n1 : Int} {ti tc : Tok} (stored : List Str) (U : UpdF sa so news g) (hh : A.handled = none) (rg : IsRange s.heap r 0 (litOf x) 1 t₀ u₀ v₀) (F : Fr h₀ env.locals s.heap m₀) (N : News h₀ env.locals s.heap news) (h0 : 0 ≤ litOf x) (h1 : litOf x < 2147483648)
    (hi : m₀ (Str.ofString "idx") = some (.int idx ti)) (hc : m₀ (Str.ofString "current_bit") = some (.int cb tc)) (hS : LQ prog w ks idx a1 n1 0 so idx cb)
    (turn : ∀ (c : Obj) (S : Int → Bool) (n : Nat) (num' : Int) (pre : List Int) (k i b : Int) ti tb t (u : Str → Option Value) h tk own, c.SetObjOf (intKind prog w) S n → FinS S n → n ≤ 512 → (∀ k, S k = bitI num' k) → (∀ k, bitI num' k = true → 0 ≤ k ∧ k < 512) →
      i = idx + (pre.length : Int) → b = 64 * (a1 + (pre.length : Int)) → pre.length ≤ ((wordsOf ks).drop idx.toNat).length → a1 + (pre.length : Int) ≤ roomOf ks → num' = lits a1 n1 (((wordsOf ks).drop idx.toNat).take pre.length) → 0 ≤ num' → num' < 2 ^ (64 * (a1 + (pre.length : Int))).toNat →
      pre.length < (litOf x).toNat → OwnOff own ((g so).map (·.1)) →
      Fr h₀ env.locals h (fun y => if y = v then some (.int k t) else kstB (fun z => if stored.contains z then u z else m₀ z) [(Str.ofString "idx", .int i ti), (Str.ofString "current_bit", .int b tb)] y) → News h₀ env.locals h (g c ++ own) →
      wpAny (model prog w) A (execs body env) (InvPostN h₀ env.locals (KstS (fun c : Obj × Int × Nat × Int × Nat => g c.1) (fun c => [(Str.ofString "idx", .int c.2.1 c.2.2.1), (Str.ofString "current_bit", .int c.2.2.2.1 c.2.2.2.2)]) (fun _ => True) v stored m₀ (fun pre c => LQ prog w ks idx a1 n1 pre.length c.1 c.2.1 c.2.2.2.1) (pre ++ [k])) own ((g so).map (·.1)) { s with heap := h, toks := tk } Q) E { s with heap := h, toks := tk })
    (done : ∀ (c : Obj) (i b : Int) ti tb (u : Str → Option Value) h tk, LQ prog w ks idx a1 n1 (litOf x).toNat c i b → Fr h₀ env.locals h (fun y => if y = v then u y else kstB (fun z => if stored.contains z then u z else m₀ z) [(Str.ofString "idx", .int i ti), (Str.ofString "current_bit", .int b tb)] y) → News h₀ env.locals h (g c) → Q .next { s with heap := h, toks := tk }) :
    wpAny (model prog w) A (pyIter (.ref r)) (fun it s₂ => LoopAtV prog w A h₀ env v body Q E it s₂) E s := by
  refine kst_rangeU (σ := Obj × Int × Nat × Int × Nat) (fun c => c.1) (fun c => [(Str.ofString "idx", .int c.2.1 c.2.2.1), (Str.ofString "current_bit", .int c.2.2.2.1 c.2.2.2.2)]) stored (fun pre c => LQ prog w ks idx a1 n1 pre.length c.1 c.2.1 c.2.2.2.1) ⟨so, idx, ti, cb, tc⟩ U hh rg
    (small_one (by decide) (by decide) (by omega) (by omega)) (rangeSize_nat _ _) F N ?_ hS ?_ ?_
  · intro p hp
    rcases List.mem_cons.mp hp with rfl | hp
    · exact hi
    · rcases List.mem_cons.mp hp with rfl | hp
      · exact hc
      · exact nomatch hp
  · rintro ⟨c, i, ti', b, tb⟩ pre k t u h tk own e1 e2 e3 ⟨num', q1, q2, q3, q4, q5, q6, q7, ⟨S, n, h1, h2, h3, h4, h5⟩⟩ F' N'
    exact turn c S n num' pre k i b ti' tb t u h tk own h1 h2 h3 h4 h5 q1 q2 q3 q4 q5 q6 q7 (by omega) e3 F' N'
  · rintro ⟨c, i, ti', b, tb⟩ u h tk hP F' N'
    rw [rangeKs_length, Int.sub_zero] at hP
    exact done c i b ti' tb u h tk hP F' N'
end
section
variable {prog : Program} {w : World} {A : Around} {E : Value → Shared → Prop} {s : Shared} {env : Env} {h₀ : Heap} {L sa : Addr} {so : Obj} {body : List Stmt} {Q : Flow → Shared → Prop} {news : List (Addr × Obj)} {g : Obj → List (Addr × Obj)} {m₀ : Str → Option Value} {ks : List Int} {x num a : Int}
theorem words_while {test : Expr} {pos : Pos} {ti tc : Tok} {idx cb : Int} (stored : List Str) (U : UpdF sa so news g) (F : Fr h₀ L s.heap m₀) (N : News h₀ L s.heap news)
    (hi : m₀ (Str.ofString "idx") = some (.int idx ti)) (hc : m₀ (Str.ofString "current_bit") = some (.int cb tc)) (hS : WQ prog w ks so idx cb)
    (turn : ∀ (c : Obj) (i b a num : Int) ti tb (u : Str → Option Value) h tk, 0 ≤ i → b = 64 * a → 0 ≤ a → a ≤ roomOf ks → 0 ≤ num → num < 2 ^ (64 * a).toNat → SetIs prog w c (bitI num) → dec (roomOf ks) (wordsOf ks) 0 0 = dec (roomOf ks) ((wordsOf ks).drop i.toNat) a num →
      Fr h₀ L h (kstB (fun z => if stored.contains z then u z else m₀ z) [(Str.ofString "idx", .int i ti), (Str.ofString "current_bit", .int b tb)]) → News h₀ L h (g c) →
      wpAny (model prog w) A (isTrue test env (eval test env)) (fun bb s₂ =>
        if bb = true then wpAny (model prog w) A (execs body env) (KswPost h₀ L s (fun c : Obj × Int × Nat × Int × Nat => g c.1) (fun c => [(Str.ofString "idx", .int c.2.1 c.2.2.1), (Str.ofString "current_bit", .int c.2.2.2.1 c.2.2.2.2)]) (fun _ => True) stored m₀ (fun c => WQ prog w ks c.1 c.2.1 c.2.2.2.1) (fun c => (wordsOf ks).length - c.2.1.toNat) Q (c, i, ti, b, tb)) E s₂ else Q .next s₂) E { s with heap := h, toks := tk })
    (hE : PassesOwn (model prog w) A env E := by passes_own) :
    wpAny (model prog w) A (exec (.While test body [] pos) env) Q E s := by
  refine ksw_whileU (σ := Obj × Int × Nat × Int × Nat) (fun c => c.1) (fun c => [(Str.ofString "idx", .int c.2.1 c.2.2.1), (Str.ofString "current_bit", .int c.2.2.2.1 c.2.2.2.2)]) stored (fun c => WQ prog w ks c.1 c.2.1 c.2.2.2.1) (fun c => (wordsOf ks).length - c.2.1.toNat) ⟨so, idx, ti, cb, tc⟩ U F N ?_ hS ?_ hE
  · intro p hp
    rcases List.mem_cons.mp hp with rfl | hp
    · exact hi
    · rcases List.mem_cons.mp hp with rfl | hp
      · exact hc
      · exact nomatch hp
  · rintro ⟨c, i, ti', b, tb⟩ u h tk ⟨a, num, k1, k2, k3, k4, k5, k6, k7, k8⟩ F' N'
    exact turn c i b a num ti' tb u h tk k1 k2 k3 k4 k5 k6 k7 k8 F' N'
/-- if running_len > 0: the ways meet -/
theorem join_run {tree : Sem Flow} (stored : List Str) (hx : (wordsOf ks).drop (num : Int).toNat = x :: (wordsOf ks).drop (num + 1).toNat) {n : Int} (U : UpdF sa so news g) (F : Fr h₀ L s.heap m₀) (N : News h₀ L s.heap news)
    (h1 : wpAny (model prog w) A tree (JPost h₀ L s (fun c : Obj × Int × Nat => g c.1) (fun c => [(Str.ofString "current_bit", .int c.2.1 c.2.2)]) stored m₀ (fun c => RQ prog w ks x a n c.1 c.2.1) Q) E s)
    (h2 : ∀ (c : Obj) (b : Int) tb (u : Str → Option Value) h tk, RQ prog w ks x a n c b → Fr h₀ L h (kstB (fun z => if stored.contains z then u z else m₀ z) [(Str.ofString "current_bit", .int b tb)]) → News h₀ L h (g c) → Q .next { s with heap := h, toks := tk }) :
    wpAny (model prog w) A tree Q E s :=
  join _ _ stored _ h1 fun ⟨c, b, tb⟩ u h tk hP F' N' => h2 c b tb u h tk hP F' N'
end
end
section
section
variable {prog : Program} {w : World} {A : Around} {E : Value → Shared → Prop} {s : Shared} {b : Array UInt8} {t : Tok} {ks : List Int} {Q : Value → Shared → Prop}
theorem len_part {i n : Nat} (hb : KBw.bInts b = (ks.drop i).take n) (hz : ks.length ≤ 1000000) (hQ : ∀ t' k, Q (.int ((min n (ks.length - i) : Nat) : Int) t') { s with toks := k }) : wpAny (model prog w) A (call (.builtin "len") [.bytes b t]) Q E s := by
  have e : b.size = min n (ks.length - i) := by rw [← KBw.ints_length, hb, List.length_take, List.length_drop]
  refine len_bytes (by omega) ?_
  rw [e]
  exact hQ _ _
end
set_option maxHeartbeats 8000000 in
theorem fread {w : World} {g base : Heap} {L : Addr} {m mg mb : Str → Option Value} {rest : List (Addr × Obj)} {loose : List Str} {mean : ExcName → Option Value} {env₀ env : Env} {s : Shared} {Q : Value → Shared → Prop} {E : Value → Shared → Prop} {b : Array UInt8} {t tn tp k1 k2 : Tok} {ks : List Int} {xf df : Addr} {pl n : Int}
    (KX : (hd.heap_39 w.params).In g) (T : Top hd.view_39 loose mean mg mb g) (B : Below (callerA.deeper env₀) base [env₀] g) (F : Fr g L s.heap m)
    (N : News g L s.heap ((xf, instObj 90 df) :: (df, dictOf [⟨PyData.keyHash w.params (PySem.Str.ofString "data"), .str (PySem.Str.ofString "data") k1, .bytes b t⟩, ⟨PyData.keyHash w.params (PySem.Str.ofString "place"), .str (PySem.Str.ofString "place") k2, .int pl tp⟩] 2) :: rest))
    (l2 : @LT.lt Nat _ df xf) (l3 : ∀ p ∈ rest, p.1 ≠ df)
    (hf : env.frame = some L) (hke : env.scope.kind = .function) (hb : KBw.bInts b = ks) (hlen : ks.length ≤ 80) (h0 : 0 ≤ pl) (hn : 0 ≤ n)
    (hQ : ∀ b' t' tp' h' tk, Fr g L h' m → News g L h' ((xf, instObj 90 df) :: (df, dictOf [⟨PyData.keyHash w.params (PySem.Str.ofString "data"), .str (PySem.Str.ofString "data") k1, .bytes b t⟩, ⟨PyData.keyHash w.params (PySem.Str.ofString "place"), .str (PySem.Str.ofString "place") k2, .int (pl + ((min n.toNat (ks.length - pl.toNat) : Nat) : Int)) tp'⟩] 2) :: rest) → KBw.bInts b' = (ks.drop pl.toNat).take n.toNat → Q (.bytes b' t') { s with heap := h', toks := tk }) :
    wpAny (model Challenge.rw_lh0012_01.row.prog w) ((callerA.deeper env₀).deeper env) (call (.ref 73) [.ref xf, .int n tn]) Q E s := by
  k_with_none
  w_top off
  k_with "callWith" => (k_here; k_dflt ((try dsimp only); (with_reducible show wpAny _ _ (callWith _ (Value.builtin _) (_ :: _) _ _) _ _ _); refine callWith_method1 ?_))
  k_with "execs cons" => (k_here; k_dflt ((with_reducible show wpAny _ _ _ _ _ (Shared.mk _ _ _ (_ + 1) _)); (refine gen_toks ?_); intro tk'; (try dsimp only)))
  k_with "execs nil" => (k_here; k_dflt ((with_reducible show wpAny _ _ _ _ _ (Shared.mk _ _ _ (_ + 1) _)); (refine gen_toks ?_); intro tk'; (try dsimp only)))
  k_with "subscriptTail" => (k_here; k_dflt ((with_reducible show wpAny _ _ (subscriptTail (Expr.Attribute _ _ _) (Expr.Slice _ _ none _) (Value.bytes _ _) (Value.ref _)) _ _ _); (with_reducible rename Fr _ _ _ _ => F'); (with_reducible rename News _ _ _ _ => N'); (refine slice_n (s := ⟨_, _, _, _, _⟩) F' N' (by assumption) ?ka ?kb ?kz ?_); (case ka => first | decide | omega); (case kb => first | decide | omega); (case kz => omega); clear F' N'; intro b' h' t' k' F' N' kbcK; (try simp only [Int.reduceToNat, Int.reduceAdd, Nat.reduceSub, List.drop_zero] at kbcK)))
  k_with "call builtin:len" => (k_here; k_dflt ((with_reducible show wpAny _ _ (call (Value.builtin "len") [Value.bytes _ _]) _ _ _); (refine' len_part ?kb ?kz ?_); (case kb => assumption); (case kz => omega); intro t' k'))
  revert KX
  k_fill
  intro KX
  refine wpAny_call ?_
  refine' code_def ?k1 ?k2 ?k3 ?k4 ?k5 ?kA ?kF ?kK ?k6 ?k7 ?k8 ?k9 ?kB ?_ ?c2 ?c3 ?c4 ?c5
  case kA => exact rfl
  case kF => exact hf
  case kK => exact hke
  case k1 => k_asm
  case k2 => k_asm
  case k3 => k_asm
  case k4 => k_asm
  case k5 => k_asm
  case k6 => k_is
  case k7 => k_is
  case k8 => k_room
  case k9 => exact BindsTo.of_eq rfl
  case c5 => decide
  case kB => exact locs rfl
  case c2 => exact rfl
  case c3 => exact rfl
  case c4 => exact rfl
  k_whole
  intro g' L' h' FG' F' N' B' X' T'
  replace F' : Fr g' L' h' (fun y => List.lookup y [(PySem.Str.ofString "n", Value.int n tn), (PySem.Str.ofString "self", Value.ref xf)]) := F'
  rw [lookup2] at F'
  (try dsimp only)
  (try k_lift B')
  (try k_fold)
  k_steps
  exact hQ _ _ _ _ _ (by assumption) (by assumption) (by assumption)
theorem fread_at {w : World} {g base : Heap} {L : Addr} {m mg mb : Str → Option Value} {news : List (Addr × Obj)} {gg : Obj → List (Addr × Obj)} {loose : List Str} {mean : ExcName → Option Value} {env₀ env : Env} {s : Shared} {Q : Value → Shared → Prop} {E : Value → Shared → Prop} {b : Array UInt8} {t tn tp k1 k2 : Tok} {ks : List Int} {xf df : Addr} {pl n : Int} (k : Nat) (z : Int)
    (KX : (hd.heap_39 w.params).In g) (T : Top hd.view_39 loose mean mg mb g) (B : Below (callerA.deeper env₀) base [env₀] g) (F : Fr g L s.heap m) (N : News g L s.heap news)
    (hx : (xf, instObj 90 df) ∈ news)
    (U : UpdF df (dictOf [⟨PyData.keyHash w.params (PySem.Str.ofString "data"), .str (PySem.Str.ofString "data") k1, .bytes b t⟩, ⟨PyData.keyHash w.params (PySem.Str.ofString "place"), .str (PySem.Str.ofString "place") k2, .int pl tp⟩] 2) news gg)
    (l2 : @LT.lt Nat _ df xf) (hf : env.frame = some L) (hke : env.scope.kind = .function) (hb : KBw.bInts b = ks) (hlen : ks.length ≤ 80) (h0 : 0 ≤ pl) (hn : n = (k : Int)) (hz : ((min k (ks.length - pl.toNat) : Nat) : Int) = z)
    (hQ : ∀ b' t' tp' h' tk, Fr g L h' m → News g L h' (gg (dictOf [⟨PyData.keyHash w.params (PySem.Str.ofString "data"), .str (PySem.Str.ofString "data") k1, .bytes b t⟩, ⟨PyData.keyHash w.params (PySem.Str.ofString "place"), .str (PySem.Str.ofString "place") k2, .int (pl + z) tp'⟩] 2)) → KBw.bInts b' = (ks.drop pl.toNat).take k → Q (.bytes b' t') { s with heap := h', toks := tk }) :
    wpAny (model Challenge.rw_lh0012_01.row.prog w) ((callerA.deeper env₀).deeper env) (call (.ref 73) [.ref xf, .int n tn]) Q E s := by
  obtain ⟨pre, post, rfl, hg, a1, a2⟩ := U.split
  subst hn
  have hx' : (xf, instObj 90 df) ∈ pre ++ post := by
    rcases List.mem_append.mp hx with h | h
    · exact List.mem_append_left _ h
    · rcases List.mem_cons.mp h with h | h
      · exact absurd (congrArg Prod.fst h) (Nat.ne_of_gt l2)
      · exact List.mem_append_right _ h
  refine fread (t := t) (tp := tp) (k1 := k1) (k2 := k2) KX T B F (rest := pre ++ post) (fun p hp => N p ?_) l2 (fun p hp => (List.mem_append.mp hp).elim (a1 p) (a2 p)) hf hke hb hlen h0 (Int.natCast_nonneg _) fun b' t' tp' h' tk F' N' e => ?_
  · rcases List.mem_cons.mp hp with rfl | hp
    · exact hx
    · rcases List.mem_cons.mp hp with rfl | hp
      · exact List.mem_append_right _ (List.mem_cons_self ..)
      · exact (List.mem_append.mp hp).elim (List.mem_append_left _) fun h => List.mem_append_right _ (List.mem_cons_of_mem _ h)
  · rw [Int.toNat_natCast, hz] at N'
    rw [Int.toNat_natCast] at e
    refine hQ b' t' tp' h' tk F' (fun p hp => N' p ?_) e
    rw [hg] at hp
    rcases List.mem_append.mp hp with h | h
    · exact List.mem_cons_of_mem _ (List.mem_cons_of_mem _ (List.mem_append_left _ h))
    · rcases List.mem_cons.mp h with rfl | h
      · exact List.mem_cons_of_mem _ (List.mem_cons_self ..)
      · exact List.mem_cons_of_mem _ (List.mem_cons_of_mem _ (List.mem_append_right _ h))
end
section
theorem val_self {b : Array UInt8} {ks : List Int} (hb : KBw.bInts b = ks) (hl : ks.length ≤ 8) : KFB.value ks = KFB.value ks ∧ 0 ≤ KFB.value ks ∧ KFB.value ks < 256 ^ 8 :=
  ⟨rfl, value_lt (octs_of hb) hl⟩
set_option maxHeartbeats 8000000 in
theorem funpack {w : World} {g base : Heap} {L : Addr} {m mg mb : Str → Option Value} {news : List (Addr × Obj)} {loose : List Str} {mean : ExcName → Option Value} {env₀ env : Env} {s : Shared} {Q : Value → Shared → Prop} {E : Value → Shared → Prop} {b : Array UInt8} {form : Str} {t tf : Tok} {ks : List Int} {z Z : Int}
    (KX : (hd.heap_39 w.params).In g) (T : Top hd.view_39 loose mean mg mb g) (B : Below (callerA.deeper env₀) base [env₀] g) (F : Fr g L s.heap m) (N : News g L s.heap news)
    (hf : env.frame = some L) (hke : env.scope.kind = .function) (hb : KBw.bInts b = ks) (hl : ks.length ≤ 8) (hz : KFB.value ks = z ∧ 0 ≤ z ∧ z < Z)
    (hQ : ∀ D tv h' tk, Fr g L h' m → News g L h' ((D, listOf #[.int z tv] 0) :: news) → (∀ p ∈ news, p.1 < D) → 0 ≤ z → z < Z → Q (.ref D) { s with heap := h', toks := tk }) :
    wpAny (model Challenge.rw_lh0012_01.row.prog w) ((callerA.deeper env₀).deeper env) (call (.ref 35) [.ref 51, .str form tf, .bytes b t]) Q E s := by
  k_with_none
  w_top off
  k_with "callWith" => (k_here; k_dflt ((try dsimp only); (with_reducible show wpAny _ _ (callWith _ (Value.builtin _) (_ :: _) _ _) _ _ _); refine callWith_method1 ?_))
  k_with "execs cons" => (k_here; k_dflt ((with_reducible show wpAny _ _ _ _ _ (Shared.mk _ _ _ (_ + 1) _)); (refine gen_toks ?_); intro tk'; (try dsimp only)))
  k_with "execs nil" => (k_here; k_dflt ((with_reducible show wpAny _ _ _ _ _ (Shared.mk _ _ _ (_ + 1) _)); (refine gen_toks ?_); intro tk'; (try dsimp only)))
  k_with "call ref" => (k_here; k_dflt ((with_reducible show wpAny _ _ (call (Value.ref _) [Value.bytes _ _, Value.str _ _]) _ _ _); kfb_any; k_dflt (refine' call_big_z ?kn ?km ?kb ?kz ?ke ?_); (case kn => k_asm); (case km => k_mem); (case kb => assumption); (case kz => assumption); (case ke => exact val_self (by assumption) (by assumption)); intro _ _ zLo zHi))
  revert KX
  k_fill
  intro KX
  refine wpAny_call ?_
  refine' code_def ?k1 ?k2 ?k3 ?k4 ?k5 ?kA ?kF ?kK ?k6 ?k7 ?k8 ?k9 ?kB ?_ ?c2 ?c3 ?c4 ?c5
  case kA => exact rfl
  case kF => exact hf
  case kK => exact hke
  case k1 => k_asm
  case k2 => k_asm
  case k3 => k_asm
  case k4 => k_asm
  case k5 => k_asm
  case k6 => k_is
  case k7 => k_is
  case k8 => k_room
  case k9 => exact BindsTo.of_eq rfl
  case c5 => decide
  case kB => exact locs rfl
  case c2 => exact rfl
  case c3 => exact rfl
  case c4 => exact rfl
  k_whole
  intro g' L' h' FG' F' N' B' X' T'
  replace F' : Fr g' L' h' (fun y => List.lookup y [(PySem.Str.ofString "octets", Value.bytes b t), (PySem.Str.ofString "form", Value.str form tf), (PySem.Str.ofString "self", Value.ref 51)]) := F'
  (try dsimp only)
  (try k_lift B')
  (try k_fold)
  obtain ⟨zE, z0, zZ⟩ := hz
  subst zE
  k_steps
  (rename News _ _ _ _ => nX)
  (rename _ ∧ AllLt _ _ => lX)
  exact hQ _ _ _ _ (by assumption) (kst_newsOf nX (sub_cons (sub_skip sub_refl))) (fun p hp => kst_ltOf lX.2 p hp) z0 zZ
end
section

set_option maxHeartbeats 8000000 in
theorem decode_call {w : World} {h₀ : Heap} {L : Addr} {m mg mb : Str → Option Value} {rest : List (Addr × Obj)} {loose : List Str} {mean : ExcName → Option Value} {env : Env} {s : Shared} {Q : Value → Shared → Prop} {E : Value → Shared → Prop} {b : Array UInt8} {t k1 k2 t0 : Tok} {ks : List Int} {sa x dx : Addr} {led : Bool}
    (KX : (hd.heap_39 w.params).In h₀) (T : Top hd.view_39 loose mean mg mb h₀) (B : Below callerA h₀ [] h₀) (F : Fr h₀ L s.heap m)
    (N : News h₀ L s.heap ((sa, { cls := .type "set", dict := none, data := .set #[] 0 (.fresh 0 0 led) }) :: (x, instObj 175 dx) :: (dx, dictOf [⟨PyData.keyHash w.params (PySem.Str.ofString "bits"), .str (PySem.Str.ofString "bits") k1, .ref sa⟩, ⟨PyData.keyHash w.params (PySem.Str.ofString "bit_count"), .str (PySem.Str.ofString "bit_count") k2, .int 0 t0⟩] 2) :: rest))
    (l1 : @LT.lt Nat _ dx x ∧ @LT.lt Nat _ x sa) (l2 : ∀ p ∈ rest, p.1 < dx)
    (hf : env.frame = some L) (hke : env.scope.kind = .function) (hb : KBw.bInts b = ks) (hlen : ks.length ≤ 80) (hc : cntOf ks < 500) (h8 : 8 ≤ ks.length)
    (hQ : ∀ so c n t h' tk, readOf ks = some (c, n) → 0 ≤ n → SetIs Challenge.rw_lh0012_01.row.prog w so (bitI n) → Fr h₀ L h' m → News h₀ L h' ((sa, so) :: (x, instObj 175 dx) :: (dx, dictOf [⟨PyData.keyHash w.params (PySem.Str.ofString "bits"), .str (PySem.Str.ofString "bits") k1, .ref sa⟩, ⟨PyData.keyHash w.params (PySem.Str.ofString "bit_count"), .str (PySem.Str.ofString "bit_count") k2, .int c t⟩] 2) :: rest) → Q .none { s with heap := h', toks := tk })
    (hE : ∀ g e news h' tk, Fr h₀ L g m → g.UpToSlots h' → RaisedN h₀ [env] e (.type "ValueError") news h' → readOf ks = none → E (.ref e) { s with heap := h', toks := tk }) :
    wpAny (model Challenge.rw_lh0012_01.row.prog w) (callerA.deeper env) (call (.ref 116) [.ref x, .bytes b t]) Q E s := by
  k_with_none
  w_top off
  k_with "pyIter ref" => k_state (fun pre ws pl => ws.length = pre.length ∧ ws = (List.range pre.length).map (wordAt ks) ∧ pl = 8 + 8 * (pre.length : Int) ∧ 8 + 8 * pre.length ≤ ks.length) "words" "f.place"
  k_with "state" => (first | exact st_v0 (by assumption) (by decide) | exact st_v1 (by assumption) (by assumption) (by assumption) (by assumption) | exact st_run1 (by assumption) kFin kS kB kEq kCb kA kLt (by assumption) (by assumption) | exact st_bit1 (by assumption) kFin4 kS4 kB4 kEq4 kCb3 (by omega) kLt4 (by assumption) (by assumption) (by assumption) | exact st_bit0 kSO4 kFin4 kN4 kS4 kB4 kEq4 (by assumption) | (rw [List.length_append, List.length_singleton]; exact lq_step kI (by omega) kCb3 (by omega) (by assumption) (by assumption) (by assumption) ⟨by assumption, by assumption⟩ kNum kN03 kN13 kSet4) | exact wq_turn (by assumption) kIdx kA (by assumption) kDec kLq (.inl rfl) | exact wq_turn (by assumption) kIdx kA (by assumption) kDec ⟨num3, kI, kCb3, kLen, kRoom, kNum, kN03, kN13, ⟨S3, n3, kSO, kFin, kN, kS, kB⟩⟩ (.inr ⟨by omega, by assumption⟩) | fail "x")
  k_with "my while" => (k_here; (rename Fr _ _ _ _ => lF'); (rename News _ _ _ _ => lN'); (with_unfolding_all refine' words_while (sa := sa) (ks := ks) (so := { cls := .type "set", dict := none, data := .set #[] 0 (.fresh 0 0 led) }) [PySem.Str.ofString "rlw", PySem.Str.ofString "running_bit", PySem.Str.ofString "running_len", PySem.Str.ofString "literal_words", PySem.Str.ofString "run_bits", PySem.Str.ofString "i", PySem.Str.ofString "_", PySem.Str.ofString "literal"] ?kU lF' lN' ?ki ?kc ?kS ?_); (case kU => k_updF); (case ki => rfl); (case kc => rfl); (case kS => exact wq_start _ _ (by assumption)); clear lF' lN'; intro so1 idx1 cb1 a1 num1 ti1 tb1 u1 h1 tk1 kIdx kCb kA kAr kN0 kN1 kSet kDec kFr kNews; (try dsimp only [kstB] at kFr); (try dsimp only at kNews); (have kMark := kstMark); (try k_fold))
  k_with "my if" => ((with_reducible show wpAny _ _ (exec (Stmt.If (Expr.Compare (Expr.Name (PySem.Str.ofString "running_len") _) _ _ _) _ _ _) _) _ _ _); (rename Fr _ _ _ _ => lF'); (rename News _ _ _ _ => lN'); (refine' join_run (sa := sa) (ks := ks) (a := a1) (n := num1) [PySem.Str.ofString "run_bits", PySem.Str.ofString "i"] ?kx ?kU lF' lN' ?_ ?_); (case kx => assumption); (case kU => k_updF); rotate_left; clear lF' lN'; intro so2 cb2 tb2 u2 h2 tk2 kRq kFr kNews; (try dsimp only [kstB] at kFr); (try dsimp only at kNews); (try k_fold); rotate_right)
  k_with "my iter" => ((rename Fr _ _ _ _ => lF'); (rename News _ _ _ _ => lN'); (rename IsRange _ _ _ _ _ _ _ _ => rgX); (with_unfolding_all refine' run_loop (sa := sa) (num := num1) (a := a1) ?kU rfl rgX lF' lN' ?kS ?_ ?_); (case kU => k_updF); (case kS => assumption); (all_goals clear lF' lN' rgX); (focus (intro so3 S3 n3 pre3 k3 t3 h3 tk3 own3 kSO kFin kN kS kB kEq kLt kOff kFr kNews; (try dsimp only at kFr); (try dsimp only at kNews); (try simp only [List.cons_append, List.nil_append] at kNews); (try dsimp only at kOff); (try simp only [List.map_cons, List.map_nil] at kOff); (try k_fold))); rotate_left; (focus (intro so3 u3 h3 tk3 kSet kFr kNews; (try dsimp only at kFr); (try dsimp only at kNews); (try k_fold))); rotate_right)
  k_with "my iter" => ((rename Fr _ _ _ _ => lF'); (rename News _ _ _ _ => lN'); (rename IsRange _ _ _ _ _ _ _ _ => rgX); (with_unfolding_all refine' lit_loop (sa := sa) (ks := ks) [PySem.Str.ofString "literal", PySem.Str.ofString "i"] ?kU rfl rgX lF' lN' ?k0 ?k1 ?ki ?kc (lq_start (idx := idx1) rfl rfl rfl kN0 kN1 kRq) ?_ ?_); (case kU => k_updF); (case k0 => assumption); (case k1 => assumption); (case ki => rfl); (case kc => rfl); (all_goals clear lF' lN' rgX); (focus (intro so3 S3 n3 num3 pre3 k3 i3 b3 ti3 tb3 t3 u3 h3 tk3 own3 kSO kFin kN kS kB kI kCb3 kLen kRoom kNum kN03 kN13 kLt kOff kFr kNews; (try dsimp only [kstB] at kFr); (try dsimp only at kNews); (try simp only [List.cons_append, List.nil_append] at kNews); (try dsimp only at kOff); (try simp only [List.map_cons, List.map_nil] at kOff); (try k_fold))); rotate_left; (focus (intro so3 i3 b3 ti3 tb3 u3 h3 tk3 kLq kFr kNews; (have kI := lq_idx kLq); (try dsimp only [kstB] at kFr); (try dsimp only at kNews); (try k_fold))); rotate_right)
  k_with "my iter" => ((rename Fr _ _ _ _ => lF'); (rename News _ _ _ _ => lN'); (rename IsRange _ _ _ _ _ _ _ _ => rgX); (with_unfolding_all refine' bit_loop (sa := sa) (ks := ks) (num := num3) (idx := i3) kCb3 ?ky ?kU rfl rgX lF' lN' ?kS ?_ ?_); (case ky => assumption); (case kU => k_updF); (case kS => exact ⟨S3, n3, kSO, kFin, kN, kS, kB⟩); (all_goals clear lF' lN' rgX); (focus (intro so4 S4 n4 pre4 k4 t4 h4 tk4 own4 kSO4 kFin4 kN4 kS4 kB4 kEq4 kLt4 kOff4 kFr kNews; (try dsimp only at kFr); (try dsimp only at kNews); (try simp only [List.cons_append, List.nil_append] at kNews); (try dsimp only at kOff4); (try simp only [List.map_cons, List.map_nil] at kOff4); (try k_fold))); rotate_left; (focus (intro so4 u4 h4 tk4 kSet4 kFr kNews; (try dsimp only at kFr); (try dsimp only at kNews); (try k_fold))); rotate_right)
  k_with "my for" => (k_here; (with_reducible rename Fr _ _ _ _ => lF'); (with_reducible rename News _ _ _ _ => lN'); (refine join_words [PySem.Str.ofString "_", PySem.Str.ofString "word_bytes", PySem.Str.ofString "word"] (wordsOf ks) lF' lN' ?_ ?_); rotate_left; clear lF' lN'; intro vs' n' p' t' u' h' tk' ints' p8' F' N'; rotate_right)
  k_with "my end" => (first | ((rename News _ _ _ _ => nE'); (refine j_end ⟨_, _, _, _⟩ (by assumption) nE' (by kst_in) (by kst_all) (by ksw_same) ⟨?_, ?_⟩); (case refine_2 => (dsimp only; first | exact eight_le (by assumption) | omega)); first | (rw [← words_brk (by assumption) (by assumption) (by assumption) (by assumption) (by assumption)]; assumption) | (rw [← words_all (by assumption) (by assumption)]; assumption)))
  k_with "my end" => ((rename News _ _ _ _ => nE'); (refine j_end ⟨_, _, _⟩ (by assumption) nE' (by kst_in) (by kst_all) (by ksw_same) ?_); (dsimp only); first | exact rq_ones (by assumption) (by assumption) kCb kA kN0 kN1 (by omega) kSet | exact rq_zero rfl (by assumption) (by assumption) kCb kSet | exact rq_none (by omega) kAr kCb kSet)
  k_with "measure" => exact meas2 kIdx (by assumption) kI
  have l3 : AllLt sa rest := allLt_of (fun p hp => Nat.lt_trans (l2 p hp) (Nat.lt_trans l1.1 l1.2))
  replace l2 := allLt_of l2
  k_with "InvEndN" => (k_dflt kst_close)
  k_with "KswEnd" => (k_dflt ksw_close)
  k_with "callWith" => (k_here; k_dflt ((try dsimp only); (with_reducible show wpAny _ _ (callWith _ (Value.builtin _) (_ :: _) _ _) _ _ _); refine callWith_method1 ?_))
  k_with "execs cons" => (k_here; k_dflt ((with_reducible show wpAny _ _ _ _ _ (Shared.mk _ _ _ (_ + 1) _)); (refine gen_toks ?_); intro tk'; (try dsimp only)))
  k_with "execs nil" => (k_here; k_dflt ((with_reducible show wpAny _ _ _ _ _ (Shared.mk _ _ _ (_ + 1) _)); (refine gen_toks ?_); intro tk'; (try dsimp only)))
  k_with "subscriptTail" => (k_here; k_dflt ((with_reducible show wpAny _ _ (subscriptTail _ (Expr.Slice _ _ none _) (Value.bytes _ _) (Value.ref _)) _ _ _); (with_reducible rename Fr _ _ _ _ => F'); (with_reducible rename News _ _ _ _ => N'); (first | refine slice1 (s := ⟨_, _, _, _, _⟩) F' N' (by assumption) ?ka ?kz ?_ | refine slice2 (s := ⟨_, _, _, _, _⟩) F' N' (by assumption) ?ka ?kb ?kz ?_); (case ka => first | decide | omega); (try (case kb => first | decide | omega)); (case kz => omega); clear F' N'; intro b' h' t' k' F' N' kbcK; (try simp only [Int.reduceToNat, Nat.reduceSub] at kbcK)))
  k_with "call ref" => (k_here; k_dflt ((with_reducible show wpAny _ _ (call (Value.ref 35) _) _ _ _); (refine' funpack ?k1 ?k2 ?k3 ?k4 ?k5 ?k6 ?k7 ?k8 ?k9 ?ke ?_); (case k1 => assumption); (case k2 => assumption); (case k3 => assumption); (case k4 => assumption); (case k5 => assumption); (case k6 => rfl); (case k7 => rfl); (case k8 => assumption); (case k9 => (simp only [List.length_take, List.length_drop]; omega)); (case ke => first | exact cnt_z (by assumption) | exact told_z (by assumption) | exact word_z2 (by assumption) (by assumption)); intro D' tv' h' tk' F' N' l1 zLo zHi; (try k_lt l1)))
  k_with "call ref" => (k_here; k_dflt ((with_reducible show wpAny _ _ (call (Value.ref 73) _) _ _ _); (with_reducible rename Fr _ _ _ _ => F'); (with_reducible rename News _ _ _ _ => N'); (first | (refine' fread_at 4 4 ?k1 ?k2 ?k3 F' N' ?kx ?kU ?kl rfl rfl ?kb ?kn ?k0 rfl ?kz ?_; (case kx => k_mem); (case kU => k_updF); (case kb => assumption); (case kz => omega)) | (refine' fread_at 8 _ ?k1 ?k2 ?k3 F' N' ?kx ?kU ?kl rfl rfl ?kb ?kn ?k0 rfl ?kz ?_; (case kx => k_mem); (case kU => k_updF); (case kb => assumption); (case kz => rfl)) | (refine' fread_at 4 _ ?k1 ?k2 ?k3 F' N' ?kx ?kU ?kl rfl rfl ?kb ?kn ?k0 rfl ?kz ?_; (case kx => k_mem); (case kU => k_updF); (case kb => assumption); (case kz => rfl))); (case k1 => assumption); (case k2 => assumption); (case k3 => assumption); (case kl => assumption); (case kn => assumption); (case k0 => first | decide | omega); clear F' N'; intro b' t' tp' h' tk' F' N' kbcK; (try dsimp only at N'); (try simp only [Int.reduceToNat, Int.reduceAdd, Nat.reduceSub, List.drop_zero] at kbcK)))
  k_with "subscriptTail Name Name ref int" => (k_here; k_dflt ((with_reducible show wpAny _ _ (subscriptTail _ (Expr.Name _ _) (Value.ref _) (Value.int _ _)) _ _ _); k_dflt (refine' item_list ?kn ?km ?ki ?ka ?kb ?kz ?_); (case kn => k_asm); (case km => k_mem); (case ki => with_reducible assumption); (case ka => omega); (case kb => omega); (case kz => first | omega | (simp only [rangeKs_length] at *; omega)); intro x' t' xMem xDrop; (have xB := words_bound (octs_of (by assumption)) _ xMem); obtain ⟨xLo, xHi⟩ := xB))
  k_with "subscriptTail Name Slice ref ref" => (k_here; k_dflt ((with_reducible show wpAny _ _ (subscriptTail _ (Expr.Slice _ _ none _) (Value.ref _) (Value.ref _)) _ _ _); (with_reducible rename Fr _ _ _ _ => F'); (with_reducible rename News _ _ _ _ => N'); k_dflt (refine' lslice (s := ⟨_, _, _, _, _⟩) F' N' ?km ?ki ?ka ?kb ?kz ?_); (case km => k_mem); (case ki => with_reducible assumption); (case ka => omega); (case kb => omega); (case kz => first | omega | (simp only [rangeKs_length] at *; omega)); clear F' N'; intro D' ws' h' F' N' l1 hI'; (try k_lt l1)))
  k_with "call builtin:len" => (k_here; k_dflt ((with_reducible show wpAny _ _ (call (Value.builtin "len") [Value.ref _]) _ _ _); (refine' len_ints ?kn ?km ?ki ?kz ?_); (case kn => k_asm); (case km => k_mem); (case ki => with_reducible assumption); (case kz => first | omega | (simp only [List.length_take, List.length_drop, rangeKs_length] at *; omega)); intro t' k'))
  k_with "call builtin:len" => (k_here; k_dflt ((with_reducible show wpAny _ _ (call (Value.builtin "len") [Value.bytes _ _]) _ _ _); (first | (refine' len_cut0 (z := 4) ?kn ?kb ?kz ?ky ?_; (case kb => assumption); (case kn => rfl)) | (refine' len_cut (z := 4) ?kn ?kb ?kz ?ky ?_; (case kb => assumption); (case kn => rfl)) | (refine' len_cut (z := 8) ?kn ?kb ?kz ?ky ?_; (case kb => assumption); (case kn => rfl))); (case kz => omega); (case ky => omega); intro t' k'))
  k_with "binaryOp FloorDiv int int" => (k_here; k_dflt ((with_reducible refine div_room ?ka ?kb ?_); (case ka => assumption); (case kb => assumption); intro t' roomLo roomHi))
  k_with "exec For Name Call cons nil" => (k_here; goal_lacks Mine.JPost; k_dflt (k_extra "my for"))
  k_with "JPost" => (dsimp only [Mine.JPost])
  k_with "JEnd" => (k_dflt (k_extra "my end"))
  k_with "binaryOp BitAnd int int" => (k_here; k_dflt (first | (with_reducible refine and_one ?_; intro t') | (with_reducible refine and_run ?_; intro t' rLo rHi) | (with_reducible refine and_bit ?kx ?_ ?_; (case kx => assumption); (focus (intro hBit v' t' vNe)); rotate_left; (focus (intro hBit t')); rotate_right)))
  k_with "binaryOp RShift int int" => (k_here; k_dflt (first | (with_reducible refine shr_one ?_; intro t') | (with_reducible refine shr_33 ?ka ?kb ?_; (case ka => assumption); (case kb => assumption); intro t' lLo lHi)))
  k_with "binaryOp LShift int int" => (k_here; k_dflt (with_reducible refine shl_one ?ka ?kb ?_; (case ka => omega); (case kb => omega); intro t'))
  k_with "binaryOp Mult int int" => (k_here; k_dflt (with_reducible refine mul_run ?_; intro t'))
  k_with "exec If" => (k_here; goal_lacks Mine.JPost; k_dflt (k_extra "my if"))
  k_with "pyIter ref" => (k_here; k_dflt (k_extra "my iter"))
  k_with "exec While Compare cons nil" => (k_here; k_dflt (k_extra "my while"))
  revert KX
  k_fill
  intro KX
  refine wpAny_call ?_
  refine' code_def ?k1 ?k2 ?k3 ?k4 ?k5 ?kA ?kF ?kK ?k6 ?k7 ?k8 ?k9 ?kB ?_ ?c2 ?c3 ?c4 ?c5
  case kA => exact rfl
  case kF => exact hf
  case kK => exact hke
  case k1 => k_asm
  case k2 => k_asm
  case k3 => k_asm
  case k4 => k_asm
  case k5 => k_asm
  case k6 => k_is
  case k7 => k_is
  case k8 => k_room
  case k9 => exact BindsTo.of_eq rfl
  case c5 => decide
  case kB => exact locs rfl
  case c2 => exact rfl
  case c3 => exact rfl
  case c4 => exact rfl
  k_whole
  intro g' L' h' FG' F' N' B' X' T'
  replace F' : Fr g' L' h' (fun y => List.lookup y [(PySem.Str.ofString "data", Value.bytes b t), (PySem.Str.ofString "self", Value.ref x)]) := F'
  rw [lookup2] at F'
  (try dsimp only)
  (try k_lift B')
  (try k_fold)
  have wlen : (wordsOf ks).length ≤ 9 := words_len hlen
  k_steps
  · exact hE _ _ _ _ _ FG' (by assumption) (by assumption) (read_no h8 (dec_runs_over (by assumption) kDec kCb (by assumption)))
  · exact hE _ _ _ _ _ FG' (by assumption) (by assumption) (read_no h8 (dec_lits_over (by assumption) kIdx kDec kI kCb3 kLt (by assumption) (by assumption)))
  · (rename News _ _ _ _ => nX)
    exact hQ so1 (cntOf ks) num1 _ _ _ (read_yes h8 (by assumption) kIdx kDec) kN0 kSet (by assumption) (kst_newsOf nX (by kst_in))
set_option maxHeartbeats 8000000 in
theorem decode_short {w : World} {h₀ : Heap} {L : Addr} {m mg mb : Str → Option Value} {rest : List (Addr × Obj)} {loose : List Str} {mean : ExcName → Option Value} {env : Env} {s : Shared} {Q : Value → Shared → Prop} {E : Value → Shared → Prop} {b : Array UInt8} {t k1 k2 t0 : Tok} {ks : List Int} {sa x dx : Addr} {led : Bool}
    (KX : (hd.heap_39 w.params).In h₀) (T : Top hd.view_39 loose mean mg mb h₀) (B : Below callerA h₀ [] h₀) (F : Fr h₀ L s.heap m)
    (N : News h₀ L s.heap ((sa, { cls := .type "set", dict := none, data := .set #[] 0 (.fresh 0 0 led) }) :: (x, instObj 175 dx) :: (dx, dictOf [⟨PyData.keyHash w.params (PySem.Str.ofString "bits"), .str (PySem.Str.ofString "bits") k1, .ref sa⟩, ⟨PyData.keyHash w.params (PySem.Str.ofString "bit_count"), .str (PySem.Str.ofString "bit_count") k2, .int 0 t0⟩] 2) :: rest))
    (l1 : @LT.lt Nat _ dx x ∧ @LT.lt Nat _ x sa) (l2 : ∀ p ∈ rest, p.1 < dx)
    (hf : env.frame = some L) (hke : env.scope.kind = .function) (hb : KBw.bInts b = ks) (hlen : ks.length ≤ 80) (h8 : ks.length < 8)
    (hQ : ∀ so c n t h' tk, readOf ks = some (c, n) → 0 ≤ n → SetIs Challenge.rw_lh0012_01.row.prog w so (bitI n) → Fr h₀ L h' m → News h₀ L h' ((sa, so) :: (x, instObj 175 dx) :: (dx, dictOf [⟨PyData.keyHash w.params (PySem.Str.ofString "bits"), .str (PySem.Str.ofString "bits") k1, .ref sa⟩, ⟨PyData.keyHash w.params (PySem.Str.ofString "bit_count"), .str (PySem.Str.ofString "bit_count") k2, .int c t⟩] 2) :: rest) → Q .none { s with heap := h', toks := tk }) :
    wpAny (model Challenge.rw_lh0012_01.row.prog w) (callerA.deeper env) (call (.ref 116) [.ref x, .bytes b t]) Q E s := by
  k_with_none
  w_top off
  have l3 : AllLt sa rest := allLt_of (fun p hp => Nat.lt_trans (l2 p hp) (Nat.lt_trans l1.1 l1.2))
  replace l2 := allLt_of l2
  k_with "InvEndN" => (k_dflt kst_close)
  k_with "KswEnd" => (k_dflt ksw_close)
  k_with "callWith" => (k_here; k_dflt ((try dsimp only); (with_reducible show wpAny _ _ (callWith _ (Value.builtin _) (_ :: _) _ _) _ _ _); refine callWith_method1 ?_))
  k_with "execs cons" => (k_here; k_dflt ((with_reducible show wpAny _ _ _ _ _ (Shared.mk _ _ _ (_ + 1) _)); (refine gen_toks ?_); intro tk'; (try dsimp only)))
  k_with "execs nil" => (k_here; k_dflt ((with_reducible show wpAny _ _ _ _ _ (Shared.mk _ _ _ (_ + 1) _)); (refine gen_toks ?_); intro tk'; (try dsimp only)))
  k_with "subscriptTail" => (k_here; k_dflt ((with_reducible show wpAny _ _ (subscriptTail _ (Expr.Slice _ _ none _) (Value.bytes _ _) (Value.ref _)) _ _ _); (with_reducible rename Fr _ _ _ _ => F'); (with_reducible rename News _ _ _ _ => N'); (first | refine slice1 (s := ⟨_, _, _, _, _⟩) F' N' (by assumption) ?ka ?kz ?_ | refine slice2 (s := ⟨_, _, _, _, _⟩) F' N' (by assumption) ?ka ?kb ?kz ?_); (case ka => first | decide | omega); (try (case kb => first | decide | omega)); (case kz => omega); clear F' N'; intro b' h' t' k' F' N' kbcK; (try simp only [Int.reduceToNat, Nat.reduceSub] at kbcK)))
  k_with "call ref" => (k_here; k_dflt ((with_reducible show wpAny _ _ (call (Value.ref 35) _) _ _ _); (refine' funpack ?k1 ?k2 ?k3 ?k4 ?k5 ?k6 ?k7 ?k8 ?k9 ?ke ?_); (case k1 => assumption); (case k2 => assumption); (case k3 => assumption); (case k4 => assumption); (case k5 => assumption); (case k6 => rfl); (case k7 => rfl); (case k8 => assumption); (case k9 => (simp only [List.length_take, List.length_drop]; omega)); (case ke => first | exact cnt_z (by assumption) | exact told_z (by assumption) | exact word_z2 (by assumption) (by assumption)); intro D' tv' h' tk' F' N' l1 zLo zHi; (try k_lt l1)))
  k_with "call ref" => (k_here; k_dflt ((with_reducible show wpAny _ _ (call (Value.ref 73) _) _ _ _); (with_reducible rename Fr _ _ _ _ => F'); (with_reducible rename News _ _ _ _ => N'); (first | (refine' fread_at 4 4 ?k1 ?k2 ?k3 F' N' ?kx ?kU ?kl rfl rfl ?kb ?kn ?k0 rfl ?kz ?_; (case kx => k_mem); (case kU => k_updF); (case kb => assumption); (case kz => omega)) | (refine' fread_at 8 _ ?k1 ?k2 ?k3 F' N' ?kx ?kU ?kl rfl rfl ?kb ?kn ?k0 rfl ?kz ?_; (case kx => k_mem); (case kU => k_updF); (case kb => assumption); (case kz => rfl)) | (refine' fread_at 4 _ ?k1 ?k2 ?k3 F' N' ?kx ?kU ?kl rfl rfl ?kb ?kn ?k0 rfl ?kz ?_; (case kx => k_mem); (case kU => k_updF); (case kb => assumption); (case kz => rfl))); (case k1 => assumption); (case k2 => assumption); (case k3 => assumption); (case kl => assumption); (case kn => assumption); (case k0 => first | decide | omega); clear F' N'; intro b' t' tp' h' tk' F' N' kbcK; (try dsimp only at N'); (try simp only [Int.reduceToNat, Int.reduceAdd, Nat.reduceSub, List.drop_zero] at kbcK)))
  k_with "subscriptTail Name Name ref int" => (k_here; k_dflt ((with_reducible show wpAny _ _ (subscriptTail _ (Expr.Name _ _) (Value.ref _) (Value.int _ _)) _ _ _); k_dflt (refine' item_list ?kn ?km ?ki ?ka ?kb ?kz ?_); (case kn => k_asm); (case km => k_mem); (case ki => with_reducible assumption); (case ka => omega); (case kb => omega); (case kz => first | omega | (simp only [rangeKs_length] at *; omega)); intro x' t' xMem xDrop; (have xB := words_bound (octs_of (by assumption)) _ xMem); obtain ⟨xLo, xHi⟩ := xB))
  k_with "subscriptTail Name Slice ref ref" => (k_here; k_dflt ((with_reducible show wpAny _ _ (subscriptTail _ (Expr.Slice _ _ none _) (Value.ref _) (Value.ref _)) _ _ _); (with_reducible rename Fr _ _ _ _ => F'); (with_reducible rename News _ _ _ _ => N'); k_dflt (refine' lslice (s := ⟨_, _, _, _, _⟩) F' N' ?km ?ki ?ka ?kb ?kz ?_); (case km => k_mem); (case ki => with_reducible assumption); (case ka => omega); (case kb => omega); (case kz => first | omega | (simp only [rangeKs_length] at *; omega)); clear F' N'; intro D' ws' h' F' N' l1 hI'; (try k_lt l1)))
  k_with "call builtin:len" => (k_here; k_dflt ((with_reducible show wpAny _ _ (call (Value.builtin "len") [Value.ref _]) _ _ _); (refine' len_ints ?kn ?km ?ki ?kz ?_); (case kn => k_asm); (case km => k_mem); (case ki => with_reducible assumption); (case kz => first | omega | (simp only [List.length_take, List.length_drop, rangeKs_length] at *; omega)); intro t' k'))
  k_with "call builtin:len" => (k_here; k_dflt ((with_reducible show wpAny _ _ (call (Value.builtin "len") [Value.bytes _ _]) _ _ _); (first | (refine' len_cut0 (z := 4) ?kn ?kb ?kz ?ky ?_; (case kb => assumption); (case kn => rfl)) | (refine' len_cut (z := 4) ?kn ?kb ?kz ?ky ?_; (case kb => assumption); (case kn => rfl)) | (refine' len_cut (z := 8) ?kn ?kb ?kz ?ky ?_; (case kb => assumption); (case kn => rfl))); (case kz => omega); (case ky => omega); intro t' k'))
  k_with "binaryOp FloorDiv int int" => (k_here; k_dflt ((with_reducible refine div_room ?ka ?kb ?_); (case ka => assumption); (case kb => assumption); intro t' roomLo roomHi))
  k_with "exec For Name Call cons nil" => (k_here; goal_lacks Mine.JPost; k_dflt (k_extra "my for"))
  k_with "JPost" => (dsimp only [Mine.JPost])
  k_with "JEnd" => (k_dflt (k_extra "my end"))
  k_with "binaryOp BitAnd int int" => (k_here; k_dflt (first | (with_reducible refine and_one ?_; intro t') | (with_reducible refine and_run ?_; intro t' rLo rHi) | (with_reducible refine and_bit ?kx ?_ ?_; (case kx => assumption); (focus (intro hBit v' t' vNe)); rotate_left; (focus (intro hBit t')); rotate_right)))
  k_with "binaryOp RShift int int" => (k_here; k_dflt (first | (with_reducible refine shr_one ?_; intro t') | (with_reducible refine shr_33 ?ka ?kb ?_; (case ka => assumption); (case kb => assumption); intro t' lLo lHi)))
  k_with "binaryOp LShift int int" => (k_here; k_dflt (with_reducible refine shl_one ?ka ?kb ?_; (case ka => omega); (case kb => omega); intro t'))
  k_with "binaryOp Mult int int" => (k_here; k_dflt (with_reducible refine mul_run ?_; intro t'))
  k_with "exec If" => (k_here; goal_lacks Mine.JPost; k_dflt (k_extra "my if"))
  k_with "pyIter ref" => (k_here; k_dflt (k_extra "my iter"))
  k_with "exec While Compare cons nil" => (k_here; k_dflt (k_extra "my while"))
  revert KX
  k_fill
  intro KX
  refine wpAny_call ?_
  refine' code_def ?k1 ?k2 ?k3 ?k4 ?k5 ?kA ?kF ?kK ?k6 ?k7 ?k8 ?k9 ?kB ?_ ?c2 ?c3 ?c4 ?c5
  case kA => exact rfl
  case kF => exact hf
  case kK => exact hke
  case k1 => k_asm
  case k2 => k_asm
  case k3 => k_asm
  case k4 => k_asm
  case k5 => k_asm
  case k6 => k_is
  case k7 => k_is
  case k8 => k_room
  case k9 => exact BindsTo.of_eq rfl
  case c5 => decide
  case kB => exact locs rfl
  case c2 => exact rfl
  case c3 => exact rfl
  case c4 => exact rfl
  k_whole
  intro g' L' h' FG' F' N' B' X' T'
  replace F' : Fr g' L' h' (fun y => List.lookup y [(PySem.Str.ofString "data", Value.bytes b t), (PySem.Str.ofString "self", Value.ref x)]) := F'
  rw [lookup2] at F'
  (try dsimp only)
  (try k_lift B')
  (try k_fold)
  k_steps
  all_goals (rename News _ _ _ _ => nX)
  all_goals exact hQ _ 0 0 t0 _ _ (read_short (by omega)) (by decide) (setIs_new _ _ led) (by assumption) (kst_newsOf nX (by kst_in))
end
section
theorem decode_any {w : World} {h₀ : Heap} {L : Addr} {m mg mb : Str → Option Value} {rest : List (Addr × Obj)} {loose : List Str} {mean : ExcName → Option Value} {env : Env} {s : Shared} {Q : Value → Shared → Prop} {E : Value → Shared → Prop} {b : Array UInt8} {t k1 k2 t0 : Tok} {ks : List Int} {sa x dx : Addr} {led : Bool}
    (KX : (hd.heap_39 w.params).In h₀) (T : Top hd.view_39 loose mean mg mb h₀) (B : Below callerA h₀ [] h₀) (F : Fr h₀ L s.heap m)
    (N : News h₀ L s.heap ((sa, { cls := .type "set", dict := none, data := .set #[] 0 (.fresh 0 0 led) }) :: (x, instObj 175 dx) :: (dx, dictOf [⟨PyData.keyHash w.params (PySem.Str.ofString "bits"), .str (PySem.Str.ofString "bits") k1, .ref sa⟩, ⟨PyData.keyHash w.params (PySem.Str.ofString "bit_count"), .str (PySem.Str.ofString "bit_count") k2, .int 0 t0⟩] 2) :: rest))
    (l1 : @LT.lt Nat _ dx x ∧ @LT.lt Nat _ x sa) (l2 : ∀ p ∈ rest, p.1 < dx)
    (hf : env.frame = some L) (hke : env.scope.kind = .function) (hb : KBw.bInts b = ks) (hlen : ks.length ≤ 80) (hc : 8 ≤ ks.length → cntOf ks < 500)
    (hQ : ∀ so c n t h' tk, readOf ks = some (c, n) → 0 ≤ n → SetIs Challenge.rw_lh0012_01.row.prog w so (bitI n) → Fr h₀ L h' m → News h₀ L h' ((sa, so) :: (x, instObj 175 dx) :: (dx, dictOf [⟨PyData.keyHash w.params (PySem.Str.ofString "bits"), .str (PySem.Str.ofString "bits") k1, .ref sa⟩, ⟨PyData.keyHash w.params (PySem.Str.ofString "bit_count"), .str (PySem.Str.ofString "bit_count") k2, .int c t⟩] 2) :: rest) → Q .none { s with heap := h', toks := tk })
    (hE : ∀ g e news h' tk, Fr h₀ L g m → g.UpToSlots h' → RaisedN h₀ [env] e (.type "ValueError") news h' → readOf ks = none → E (.ref e) { s with heap := h', toks := tk }) :
    wpAny (model Challenge.rw_lh0012_01.row.prog w) (callerA.deeper env) (call (.ref 116) [.ref x, .bytes b t]) Q E s := by
  by_cases h8 : 8 ≤ ks.length
  · exact decode_call KX T B F N l1 l2 hf hke hb hlen (hc h8) h8 hQ hE
  · exact decode_short KX T B F N l1 l2 hf hke hb hlen (by omega) hQ
end
section
open PySem.Calls PyProof.V PySem.Spec
section
variable {prog : Program} {w : World} {A₀ : Around} {E : Value → Shared → Prop} {s' : Shared} {h₀ h : Heap} {outer : List Env} {L e : Addr} {m : Str → Option Value} {env : Env}
  {b₀ : Stmt} {suite : List Stmt} {pos : Pos} {tn : PySem.Expr} {rest : List ExceptHandler} {Q : Flow → Shared → Prop} {news : List (Addr × Obj)} {X T' : String}
/-- a frame of any kind catches what a callee raised -/
theorem caught_any (K : Below A₀ h₀ outer h₀) (hfr : env.frame = some L) (F : Fr h₀ L h m) (hsm : h.UpToSlots s'.heap) (R : RaisedN h₀ (env :: outer) e (.type X) news s'.heap)
    (hexc : isSubtype (.type T') (.type "BaseException") = pure true) (hnt : isSubtype (.type ((Manifest.find? T').elim "type" fun y => y.metatype)) (.type "tuple") = pure false) (hsub : isSubtype (.type X) (.type T') = pure true)
    (hld : ∀ (h' : Heap) (Q' : Value → Shared → Prop) (E' : Value → Shared → Prop), Fr h₀ L h' m → Q' (.type T') { s' with heap := h' } → wpAny (model prog w) ((A₀.deeper env).mark (some (.ref e))) (eval tn env) Q' E' { s' with heap := h' })
    (k : ∀ h', Fr h₀ L h' m → News h₀ L h' news → wpAny (model prog w) ((A₀.deeper env).mark (some (.ref e))) (execs (b₀ :: suite) env) Q E { s' with heap := h' })
    (hE : PassesOwnAt (model prog w) ((A₀.deeper env).mark (some (.ref e))) (A₀.deeper env) env E := by passes_own) :
    wpAny (model prog w) (A₀.deeper env) (noteFrame (.ref e) env)
      (fun _ s₂ => wpAny (model prog w) (A₀.deeper env) (setFlight (.ref e) none) (fun _ s₃ =>
        wpAny (model prog w) (A₀.deeper env) (handleBy (.ref e) env (.ExceptHandler (some tn) none (b₀ :: suite) pos :: rest)) Q E s₃) E s₂) E s' := by
  obtain ⟨B, a0, hB, hl, hfl⟩ := R
  have hL : B.get? L = none := by
    obtain ⟨_, ⟨L', _, hf, hn', _⟩, _⟩ := hfl.2.2.1
    obtain rfl : L = L' := Option.some.inj (hfr.symm.trans hf)
    exact hn'
  refine wpAny_looks_onW (Around.frames_deeper K.stack) hfr hfl fun h₄ hheld₄ hsm₄ => ?_
  refine wpAny_landsW hheld₄ fun h₅ hheld hsm₅' => ?_
  have hsm₅ := hsm₄.trans hsm₅'
  have hheld' := flyingW_base hB hheld
  have F₅ := F.of_stays hheld'.1 (hsm.trans hsm₅)
  obtain ⟨ob, hob, hobc⟩ := hheld'.there
  refine wpAny_handleBy_builtin (X := X) (T := T') (b := true) hexc hnt hsub (hld _ _ _ F₅ ⟨rfl, ⟨ob, hob, hobc⟩, ?_⟩)
  refine lands_againW hheld fun h₆ hfl₆ hsm₆ => ?_
  have F₆ := F.of_stays (flyingW_base hB hfl₆).1 ((hsm.trans hsm₅).trans hsm₆)
  exact wpAny_passesOwnAt hE (k h₆ F₆ fun q hq => ⟨hfl₆.1 _ _ (hl q hq).1, (fun z => by have := (hl q hq).1; rw [z, hL] at this; cases this), (hl q hq).2⟩)
end
end
section
open PySem.Calls PyProof.V PySem.Spec
/-! ## the law's list of bits -/
def bitsTo (n : Int) (i : Nat) : List Int := ((List.range i).filter fun j => n.toNat.testBit j).map fun j : Nat => (j : Int)
theorem bitsTo_yes {n : Int} {i : Nat} (h : n.toNat.testBit i = true) : bitsTo n (i + 1) = bitsTo n i ++ [(i : Int)] := by
  unfold bitsTo
  rw [List.range_succ, List.filter_append, List.map_append]
  simp [h]
theorem bitsTo_no {n : Int} {i : Nat} (h : n.toNat.testBit i = false) : bitsTo n (i + 1) = bitsTo n i := by
  unfold bitsTo
  rw [List.range_succ, List.filter_append, List.map_append]
  simp [h]
theorem bitsTo_length (n : Int) (i : Nat) : (bitsTo n i).length ≤ i := by
  unfold bitsTo
  rw [List.length_map]
  exact Nat.le_trans (List.length_filter_le _ _) (by rw [List.length_range]; exact Nat.le_refl _)
theorem mem_bitsTo {n : Int} {i : Nat} {k : Int} : k ∈ bitsTo n i ↔ 0 ≤ k ∧ k.toNat < i ∧ n.toNat.testBit k.toNat = true := by
  unfold bitsTo
  rw [List.mem_map]
  constructor
  · rintro ⟨j, hj, rfl⟩
    have h := List.mem_filter.mp hj
    exact ⟨Int.natCast_nonneg _, by simpa using List.mem_range.mp h.1, by simpa using h.2⟩
  · rintro ⟨h0, h1, h2⟩
    exact ⟨k.toNat, List.mem_filter.mpr ⟨List.mem_range.mpr h1, h2⟩, by omega⟩
theorem bits_all {n : Int} (h0 : 0 ≤ n) (k : Int) : k ∈ bitsTo n (Builtin.Int.intBits n) ↔ bitI n k = true := by
  rw [mem_bitsTo]
  unfold bitI
  rw [Bool.and_eq_true, decide_eq_true_eq]
  constructor
  · rintro ⟨a, _, b⟩
    exact ⟨a, b⟩
  · rintro ⟨a, b⟩
    refine ⟨a, ?_, b⟩
    have hlt : n.natAbs < 2 ^ Builtin.Int.intBits n := intBits_le_iff.mp (Nat.le_refl _)
    by_cases hk : k.toNat < Builtin.Int.intBits n
    · exact hk
    · have h1 : n.toNat < 2 ^ k.toNat := by
        have e : n.toNat = n.natAbs := by omega
        rw [e]
        exact Nat.lt_of_lt_of_le hlt (Nat.pow_le_pow_right (by decide) (by omega))
      rw [Nat.testBit_lt_two_pow h1] at b
      cases b
/-- the bits lie below 512 -/
theorem bits_small {n : Int} (h : ∀ k, bitI n k = true → 0 ≤ k ∧ k < 512) (h0 : 0 ≤ n) : Builtin.Int.intBits n ≤ 512 := by
  rw [intBits_le_iff]
  have e : n.natAbs = n.toNat := by omega
  rw [e]
  refine Nat.lt_pow_two_of_testBit _ fun i hi => ?_
  cases hb : n.toNat.testBit i with
  | false => rfl
  | true =>
    have := h (i : Int) (by unfold bitI; simp [hb])
    omega
theorem fmod_bit {n : Int} {i : Nat} (h0 : 0 ≤ n) : (n.fdiv (2 ^ i)).fmod 2 = if n.toNat.testBit i then 1 else 0 := by
  obtain ⟨m, rfl⟩ := Int.eq_ofNat_of_zero_le h0
  have hp : (0 : Int) ≤ 2 ^ i := Int.le_of_lt (kbt_pos i)
  have ec : ((2 ^ i : Nat) : Int) = (2 : Int) ^ i := by push_cast; rfl
  rw [Int.fdiv_eq_ediv_of_nonneg _ hp, Int.fmod_eq_emod_of_nonneg _ (by decide), Int.toNat_natCast, ← ec, Nat.testBit_eq_decide_div_mod_eq]
  have e2 : ((m : Int) / ((2 ^ i : Nat) : Int)) % 2 = ((m / 2 ^ i % 2 : Nat) : Int) := by push_cast; rfl
  rw [e2]
  by_cases h : m / 2 ^ i % 2 = 1
  · rw [if_pos (by simpa using h), h]; rfl
  · rw [if_neg (by simpa using h)]
    omega
section
variable {prog : Program} {w : World} {A : Around} {E : Value → Shared → Prop} {s : Shared} {t u : Tok} {Q : Value → Shared → Prop}
theorem shr_bit {n k : Int} (hk : 0 ≤ k) (h : ∀ t', Q (.int (n.fdiv (2 ^ k.toNat)) t') { s with toks := s.toks + 1 }) : wpAny (model prog w) A (binaryOp .RShift (.int n t) (.int k u)) Q E s :=
  rshift_int hk (h _)
theorem and_tb {n : Int} {i : Nat} (h0 : 0 ≤ n) (h1 : n.toNat.testBit i = true → ∀ t', Q (.int 1 t') { s with toks := s.toks + 1 }) (h2 : n.toNat.testBit i = false → ∀ t', Q (.int 0 t') { s with toks := s.toks + 1 }) :
    wpAny (model prog w) A (binaryOp .BitAnd (.int (n.fdiv (2 ^ i)) t) (.int 1 u)) Q E s := by
  refine and_one fun t' => ?_
  rw [fmod_bit h0]
  cases hb : n.toNat.testBit i with
  | true => exact h1 hb _
  | false => exact h2 hb _
end
/-! ## a comprehension with a test over a range: by induction -/
section
variable {prog : Program} {w : World} {A : Around} {s : Shared} {h₀ : Heap} {L : Addr} {m : Str → Option Value} {env : Env}
theorem rest_ind {ct elt : Expr} {x : Str} {scope : Scope} {cl : List (Str × Addr)} {S : List (Addr × Obj) → Prop} {P : Nat → Value → Prop} {Fin : List Value → List (Addr × Obj) → Prop} {n : Nat} {news : List (Addr × Obj)} (J : Nat → List Value → Prop)
    (h0 : J 0 []) (hfin : ∀ ys, J n ys → Fin ys news)
    (hstep : ∀ i ys v I oI C oC D m₂ h tk (E' : Value → Shared → Prop), i < n → J i ys → P i v → LCg.NsObj oC m₂ → m₂ x = some v → Fr h₀ L h m → News h₀ L h ((I, oI) :: (C, oC) :: (D, LCg.lst ys) :: news) → LCg.Off3 I C D news → ((@Ne Nat I C) ∧ (@Ne Nat I D) ∧ (@Ne Nat C D)) →
      wpAny (model prog w) A (isTrue ct (compEnvC scope cl C env) (eval ct (compEnvC scope cl C env))) (fun ok s' => if ok = true then
        wpAny (model prog w) A (eval elt (compEnvC scope cl C env)) (LCg.CompEnd h₀ L m { s with heap := h, toks := tk } I oI C oC D (LCg.lst ys) S (fun y news' => news' = news ∧ J (i + 1) (ys ++ [y]))) E' s'
        else LCg.CompEnd h₀ L m { s with heap := h, toks := tk } I oI C oC D (LCg.lst ys) S (fun _ news' => news' = news ∧ J (i + 1) ys) Value.none s') E' { s with heap := h, toks := tk }) :
    LCt.CompRestT prog w A h₀ L m env ct elt x scope cl s S P Fin n 0 [] news := by
  have key : ∀ k i ys, i + k = n → J i ys → LCt.CompRestT prog w A h₀ L m env ct elt x scope cl s S P Fin k i ys news := by
    intro k
    induction k with
    | zero =>
      intro i ys e hj
      refine LCt.CompRestT.zero (hfin ys ?_)
      rw [← e]
      exact hj
    | succ k ih =>
      intro i ys e hj
      refine LCt.CompRestT.succ fun v I oI C oC D m₂ h tk E' p1 p2 p3 p4 p5 p6 p7 => ?_
      refine wpAny_mono (hstep i ys v I oI C oC D m₂ h tk E' (by omega) hj p1 p2 p3 p4 p5 p6 p7) (fun ok s' q => ?_) fun _ _ q => q
      cases ok with
      | true =>
        simp only [if_true] at q ⊢
        refine wpAny_mono q (fun y s'' q' => ?_) fun _ _ q' => q'
        obtain ⟨h', tk', news', e1, e2, e3, e4, e5, rfl, e7⟩ := q'
        exact ⟨h', tk', _, e1, e2, e3, e4, e5, ih (i + 1) _ (by omega) e7⟩
      | false =>
        simp only [Bool.false_eq_true, if_false] at q ⊢
        obtain ⟨h', tk', news', e1, e2, e3, e4, e5, rfl, e7⟩ := q
        exact ⟨h', tk', _, e1, e2, e3, e4, e5, ih (i + 1) _ (by omega) e7⟩
  exact key n 0 [] (Nat.zero_add _) h0
theorem src_range {ct elt : Expr} {x : Str} {scope : Scope} {cl : List (Str × Addr)} {Fin : Shared → List Value → List (Addr × Obj) → Prop} {r : Addr} {t u v : Tok} {num : Int} {news : List (Addr × Obj)} {s₁ : Shared}
    (hh : A.handled = none) (F : Fr h₀ L s₁.heap m) (N : News h₀ L s₁.heap news) (hr : IsRange s₁.heap r 0 (Builtin.Int.intBits num : Int) 1 t u v) (hz : Builtin.Int.intBits num ≤ 512)
    (h : ∀ g, LCt.CompRestT prog w A h₀ L m env ct elt x scope cl { s₁ with heap := g } (fun _ => True) (fun i v => ∃ t, v = .int (0 + (i : Int)) t) (Fin { s₁ with heap := g }) (Builtin.Int.intBits num) 0 [] news) :
    LCt.CompSrcT prog w A h₀ L m env ct elt x scope cl Fin (.ref r) s₁ :=
  LCt.CompSrcT.range hh F N hr (small_one (by decide) (by decide) (by omega) (by omega)) (by rw [rangeSize_nat]; omega) (by rw [sizeLine_eq]; omega) h
end
theorem src_bits {prog : Program} {w : World} {A : Around} {h₀ : Heap} {L : Addr} {m : Str → Option Value} {env : Env} {ct elt : Expr} {x : Str} {scope : Scope} {cl : List (Str × Addr)} {Fin : Shared → List Value → List (Addr × Obj) → Prop} {r : Addr} {t u v : Tok} {num : Int} {so : Obj} {news : List (Addr × Obj)} {s₁ : Shared}
    (hh : A.handled = none) (F : Fr h₀ L s₁.heap m) (N : News h₀ L s₁.heap news) (hr : IsRange s₁.heap r 0 (Builtin.Int.intBits num : Int) 1 t u v) (hS : SetIs prog w so (bitI num)) (h0 : 0 ≤ num)
    (hfin : ∀ g ys, Builtin.Int.intBits num ≤ 512 → IntsAre ys (bitsTo num (Builtin.Int.intBits num)) → Fin { s₁ with heap := g } ys news)
    (hstep : ∀ (i : Nat) ys t I oI C oC D m₂ h tk (E' : Value → Shared → Prop), i < Builtin.Int.intBits num → IntsAre ys (bitsTo num i) → LCg.NsObj oC m₂ → m₂ x = some (.int (i : Int) t) → Fr h₀ L h m → News h₀ L h ((I, oI) :: (C, oC) :: (D, LCg.lst ys) :: news) → LCg.Off3 I C D news → ((@Ne Nat I C) ∧ (@Ne Nat I D) ∧ (@Ne Nat C D)) →
      wpAny (model prog w) A (isTrue ct (compEnvC scope cl C env) (eval ct (compEnvC scope cl C env))) (fun ok s' => if ok = true then
        wpAny (model prog w) A (eval elt (compEnvC scope cl C env)) (LCg.CompEnd h₀ L m { s₁ with heap := h, toks := tk } I oI C oC D (LCg.lst ys) (fun _ => True) (fun y news' => news' = news ∧ IntsAre (ys ++ [y]) (bitsTo num (i + 1)))) E' s'
        else LCg.CompEnd h₀ L m { s₁ with heap := h, toks := tk } I oI C oC D (LCg.lst ys) (fun _ => True) (fun _ news' => news' = news ∧ IntsAre ys (bitsTo num (i + 1))) Value.none s') E' { s₁ with heap := h, toks := tk }) :
    LCt.CompSrcT prog w A h₀ L m env ct elt x scope cl Fin (.ref r) s₁ := by
  have hz : Builtin.Int.intBits num ≤ 512 := by
    obtain ⟨_, _, _, _, _, _, h5⟩ := hS
    exact bits_small h5 h0
  refine src_range hh F N hr hz fun g => rest_ind (fun i ys => IntsAre ys (bitsTo num i)) .nil (fun ys hj => hfin g ys hz hj) ?_
  intro i ys v I oI C oC D m₂ h tk E' hi hj hP p2 p3 p4 p5 p6 p7
  obtain ⟨t', rfl⟩ := hP
  rw [Int.zero_add] at p3
  exact hstep i ys t' I oI C oC D m₂ h tk E' hi hj p2 p3 p4 p5 p6 p7
/-! ## set of a list of the ledger -/
theorem step_nodup {σ : List Int} (h : σ.Nodup) (v : Int) : (step_dedup σ v).Nodup := by
  unfold step_dedup
  split
  · exact h
  · rename_i hn
    rw [List.nodup_append]
    refine ⟨h, by simp, ?_⟩
    intro a ha b hb e
    rw [List.mem_singleton] at hb
    subst hb; subst e
    exact hn (List.any_eq_true.mpr ⟨a, ha, by simp⟩)
theorem firstMet_nodup (val : Nat → Int) : ∀ i, (firstMet val i).Nodup
  | 0 => by rw [firstMet_zero]; exact List.nodup_nil
  | i + 1 => by rw [firstMet_succ]; exact step_nodup (firstMet_nodup val i) _
theorem firstMet_fin (val : Nat → Int) (i : Nat) : FinS (fun k' => (firstMet val i).any (· == k')) (firstMet val i).length := by
  refine ⟨firstMet val i, firstMet_nodup val i, rfl, fun k => ?_⟩
  rw [List.any_eq_true]
  exact ⟨fun ⟨a, ha, e⟩ => by rw [beq_iff_eq] at e; exact e ▸ ha, fun h => ⟨k, h, by simp⟩⟩
theorem firstMet_mem (ns : List Int) (k : Int) : (firstMet (fun i => ns.getD i 0) ns.length).any (· == k) = true ↔ k ∈ ns := by
  rw [firstMet_any]
  have e : (List.range ns.length).map (fun i => ns.getD i 0) = ns := by
    refine List.ext_getElem (by simp) fun i h1 h2 => ?_
    simp [List.getElem_map, List.getElem?_eq_getElem h2]
  rw [e, List.any_eq_true]
  exact ⟨fun ⟨a, ha, e⟩ => by rw [beq_iff_eq] at e; exact e ▸ ha, fun h => ⟨k, h, by simp⟩⟩
section
variable {prog : Program} {w : World} {A : Around} {E : Value → Shared → Prop} {s : Shared} {h₀ : Heap} {L : Addr} {m : Str → Option Value} {news : List (Addr × Obj)}
theorem set_of_list {l : Addr} {vs : List Value} {ns : List Int} {c : Nat} {Q : Value → Shared → Prop} (F : Fr h₀ L s.heap m) (N : News h₀ L s.heap news)
    (hh : A.handled = none) (hm : (l, listOf vs.toArray c) ∈ news) (hi : IntsAre vs ns) (hb : ns.length ≤ 600)
    (h : ∀ D h' (tk : Nat) o S n, Fr h₀ L h' m → News h₀ L h' ((D, o) :: news) → (∀ p ∈ news, p.1 < D) → o.SetObjOf (intKind prog w) S n → FinS S n → n ≤ ns.length → (∀ k, S k = true ↔ k ∈ ns) → Q (.ref D) { s with heap := h', toks := tk }) :
    wpAny (model prog w) A (call (.type "set") [.ref l]) Q E s := by
  have hl' : s.heap.IsList l vs.toArray := ⟨_, (N _ hm).1, rfl, c, rfl⟩
  have hvn : vs.length = ns.length := IntsAre.length hi
  have hsz : vs.toArray.size = vs.length := List.size_toArray
  have hb' : ns.length + 1 < scanBound := by unfold scanBound; omega
  rw [← hvn] at hb'
  refine PySem.call_set_list (items := vs.toArray) (ns := ns) hh hl' (by simpa using hi) (by rw [hsz]; exact hb') fun h' tk hS hk => ?_
  rw [hsz, hvn] at hS
  obtain ⟨o, ho, hso⟩ := hS.objOf
  obtain ⟨oL, _, _, hL, _⟩ := F.ns
  have hLlt : L < s.heap.objs.size := Heap.lt_size hL
  refine h s.heap.objs.size h' tk o _ _ ⟨F.ns.at' fun o' e => hk L o' hLlt e, fun b o' e => hk b o' (Heap.lt_size (F.keep b o' e)) (F.keep b o' e), F.above⟩ (fun p hp => ?_) (fun p hp => Heap.lt_size (N p hp).1) hso
    (firstMet_fin _ _) (firstMet_length_le _ _) fun k => firstMet_mem ns k
  rcases List.mem_cons.mp hp with rfl | hp
  · refine ⟨ho, Nat.ne_of_gt hLlt, ?_⟩
    cases hq : h₀.get? s.heap.objs.size with
    | none => rfl
    | some o' => exact absurd (Heap.lt_size (F.keep _ _ hq)) (Nat.lt_irrefl _)
  · exact ⟨hk _ _ (Heap.lt_size (N p hp).1) (N p hp).1, (N p hp).2.1, (N p hp).2.2⟩
/-- the two sets are equal -/
theorem sets_eq {a b : Addr} {so o : Obj} {S : Int → Bool} {n : Nat} {num : Int} {Q : Value → Shared → Prop} (N : News h₀ L s.heap news) (ha : (a, so) ∈ news) (hb : (b, o) ∈ news) (h1 : SetIs prog w so (bitI num)) (h0 : 0 ≤ num)
    (h2 : o.SetObjOf (intKind prog w) S n) (h3 : FinS S n) (hn : n ≤ 512) (h4 : ∀ k, S k = true ↔ k ∈ bitsTo num (Builtin.Int.intBits num)) (hu : A.units < cLine) (h : Q (.bool true) s) :
    wpAny (model prog w) A (compareOp .Eq (.ref a) (.ref b)) Q E s := by
  obtain ⟨S1, n1, e1, e2, e3, e4, e5⟩ := h1
  have hk : ∀ k, S1 k = true ↔ S k = true := fun k => by rw [e4, h4, bits_all h0]
  exact set_eq_true (e1.setOf (N _ ha).1 (by unfold scanBound; omega)) (h2.setOf (N _ hb).1 (by unfold scanBound; omega)) (finS_eq e2 h3 hk) (fun k hk' => (hk k).mp hk') hu h
end
end
section
theorem cnt_good {b : Array UInt8} (h : GoodO b) : (KBw.bInts b).length ≤ 80 ∧ (8 ≤ (KBw.bInts b).length → cntOf (KBw.bInts b) < 500) :=
  ⟨h.1, fun h8 => h.2 (by omega)⟩



set_option maxHeartbeats 8000000 in
theorem law_holds : PySem.Challenge.rw_lh0012_01.Holds := hd (by
  k_with_none
  w_top off
  k_with "InvEndN" => (k_dflt kst_close)
  k_with "KswEnd" => (k_dflt ksw_close)
  k_with "callWith" => (k_here; k_dflt ((try dsimp only); (with_reducible show wpAny _ _ (callWith _ (Value.builtin _) (_ :: _) _ _) _ _ _); refine callWith_method1 ?_))
  k_with "execs cons" => (k_here; k_dflt ((with_reducible show wpAny _ _ _ _ _ (Shared.mk _ _ _ (_ + 1) _)); (refine gen_toks ?_); intro tk'; (try dsimp only)))
  k_with "execs nil" => (k_here; k_dflt ((with_reducible show wpAny _ _ _ _ _ (Shared.mk _ _ _ (_ + 1) _)); (refine gen_toks ?_); intro tk'; (try dsimp only)))
  k_with "call ref" => (k_here; k_dflt ((refine' octets_call ?k1 ?k2 ?k3 ?k4 ?k5 ?k6 ?k7 ?k8 ?k9 ?k10 ?_); (case k1 => assumption); (case k2 => assumption); (case k3 => assumption); (case k4 => assumption); (case k5 => assumption); (case k6 => rfl); (case k7 => rfl); (case k8 => assumption); (case k9 => assumption); (case k10 => omega); intro b' t' h' tk' F' N' good'))
  k_with "call ref" => (k_here; k_dflt ((refine' read_call ?k1 ?k2 ?k3 ?k4 ?k5 ?k6 ?k7 rfl ?k8 ?k9 ?_ ?_); (case k1 => assumption); (case k2 => assumption); (case k3 => assumption); (case k4 => assumption); (case k5 => assumption); (case k6 => rfl); (case k7 => rfl); (case k8 => exact (cnt_good (by assumption)).1); (case k9 => exact (cnt_good (by assumption)).2); (focus (intro h' tk' F' N' noneE)); rotate_left; (focus (intro D' c' n' t1' t2' h' tk' F' N' l1 someE; (try k_lt l1))); rotate_right))
  k_with "eval Name" => (k_here; k_dflt ((with_reducible show wpAny _ _ (eval (Expr.Name _ _) (envOfC _ _ _ _ _)) _ _ _); (refine' nameX_C ?N ?c ?m ?d ?_ ?a ?b); (case a => rfl); (case b => rfl); (case N => k_asm); (case c => rfl); (case m => k_mem); (case d => k_asm)))
  k_with "exec Try" => (k_here; k_dflt (refine wpAny_Try_except ?_))
  k_with "call ref" => (k_here; k_dflt ((refine' decode_any ?k1 ?k2 ?k3 ?k4 ?k5 ?kl ?km ?k6 ?k7 rfl ?k8 ?k9 ?_ ?_); (case k1 => assumption); (case k2 => assumption); (case k3 => assumption); (case k4 => assumption); (case k5 => assumption); (case kl => exact ⟨by assumption, (by assumption : _ ∧ _ ∧ _).1⟩); (case km => first | exact List.forall_mem_singleton.mpr (by assumption) | exact kst_ltOf ⟨(by assumption : _ ∧ _).1, (by assumption : _ ∧ _).2, trivial⟩); (case k6 => rfl); (case k7 => rfl); (case k8 => exact (cnt_good (by assumption)).1); (case k9 => exact (cnt_good (by assumption)).2); (focus ((try (rename readOf _ = some _ => oldE)); intro so' c' n' t' h' tk' someE nLo setE F' N'; (try (obtain ⟨q1, q2⟩ := Prod.mk.inj (Option.some.inj (oldE.symm.trans someE)); subst q1; subst q2)); (try exact absurd ((by assumption : readOf _ = none).symm.trans someE) (by intro h; cases h)))); (try rotate_left); (focus (intro g' e' news' h' tk' FG' U' R' noneE; (try exact absurd (noneE.symm.trans (by assumption : readOf _ = some _)) (by intro h; cases h)))); (try rotate_right)))
  k_with "noteFrame ref" => (k_here; (rename RaisedN _ _ _ _ _ _ => rkX); k_dflt ((refine' caught_any (T' := "ValueError") ?kK rfl ?kF ?kU rkX PySem.F.isExc_ValueError PySem.F.notTuple_ValueError (by rw [isSubtype_type]; kernel_rfl) ?kl ?_); (case kK => assumption); (case kF => assumption); (case kU => assumption); (case kl => (intro h'' Q'' E'' F'' hq; walk1; exact hq)); intro h' F' N'))
  k_with "exec Assign cons ListComp" => (k_here; lct_look; k_dflt (refine LCt.Assign_ListComp_T (F₀ := by k_asm) (by rfl) (by with_unfolding_all rfl) (by with_unfolding_all rfl) (by decide) (by rfl) (by decide) (by rfl) (by rfl) (by rfl) ?_))
  k_with "CompSrcT" => (k_here; k_dflt ((with_reducible rename Fr _ _ _ _ => F'); (with_reducible rename News _ _ _ _ => N'); (refine src_bits rfl F' N' (by assumption) (by assumption) (by assumption) ?_ ?_); (all_goals clear F' N'); (focus (intro g' ys' bitsN bitsI)); rotate_left; (focus (intro i' ys' t' I' oI' C' oC' D' m' h' tk' E' iLt bitsI nsC mX F' N' off' ne'; (have off2 := off'); (try simp only [LCg.Off3, and_true] at off2))); rotate_right))
  k_with "binaryOp RShift int int" => (k_here; k_dflt (with_reducible refine shr_bit ?ka ?_; (case ka => omega); intro t'))
  k_with "binaryOp BitAnd int int" => (k_here; k_dflt ((refine and_tb ?ka ?_ ?_); (case ka => assumption); (focus (intro tbY t')); rotate_left; (focus (intro tbN t')); rotate_right))
  k_with "CompEnd" => (k_dflt ((rename News _ _ _ _ => nE'); (rename LCg.Off3 _ _ _ _ => oE'); (refine LCg.CompEnd.intro (by assumption) nE' _ sub_refl oE' trivial ⟨rfl, ?_⟩); first | (rw [bitsTo_yes (by assumption)]; exact IntsAre.append (by assumption) (.cons _ _ .nil)) | (rw [bitsTo_no (by assumption)]; assumption)))
  k_with "call type:set cons nil" => (k_here; k_dflt ((with_reducible rename Fr _ _ _ _ => F'); (with_reducible rename News _ _ _ _ => N'); (rename IntsAre _ (bitsTo _ _) => bI'); (refine' set_of_list F' N' rfl ?km bI' ?kb ?_); (case km => k_mem); (case kb => exact Nat.le_trans (bitsTo_length _ _) (by omega)); clear F' N'; intro D' h' tk' o' S' n' F' N' l1 hs' fin' nLe mem'; (try k_lt l1)))
  k_with "compareOp Eq ref ref" => (k_here; k_dflt ((rename FinS _ _ => fin'); (with_reducible rename News _ _ _ _ => N'); (refine' sets_eq N' ?ka ?kb (by assumption) (by assumption) (by assumption) fin' ?kn (by assumption) ?ku ?_); (case ka => k_mem); (case kb => k_mem); (case kn => exact Nat.le_trans (by assumption) (Nat.le_trans (bitsTo_length _ _) (by assumption))); (case ku => first | units_room | k_units)))
  k_go0
  (all_goals try k_fold)
  k_steps)
end
end Mine
theorem PySem.Challenge.cw_lh0012_01_holds : PySem.Challenge.rw_lh0012_01.Holds :=
  Mine.law_holds
