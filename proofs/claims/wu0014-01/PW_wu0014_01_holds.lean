import PyProof.Rows.All
import Wide.All
import OpenK.AllK
import Wide.FinOn
import PyProof.IsiBase
import PySem.Challenge.RW_wu0014_01

set_option Elab.async false

section
open PySem PySem.W PyProof.Rows
namespace Mine
set_option maxRecDepth 100000 in
set_option maxHeartbeats 8000000 in
open_top hd for PySem.Challenge.rw_wu0014_01
end Mine
end

section
open PySem PySem.W PyProof.Rows
namespace Mine
def Lw (_ : OpenLaw) (_ : Params → Frag) (P : Prop) : Prop := P

/-- what a contract hands to the walk behind the call: a value by its token, the ledger as it was -/
def RetV (news : List (Addr × Obj)) (R : Tok → Value → Prop) (h₀ : Heap) (L : Addr) (m : Str → Option Value) (s : Shared) (Q : Value → Shared → Prop) : Prop :=
  ∀ (v : Value) (t : Tok) (h' : Heap) (tk' : Nat), R t v → Fr h₀ L h' m → News h₀ L h' news → Q v { s with heap := h', toks := tk' }
/-- a new list of ints at the ledger's head -/
def RetL (news : List (Addr × Obj)) (out : List Int) (h₀ : Heap) (L : Addr) (m : Str → Option Value) (s : Shared) (Q : Value → Shared → Prop) : Prop :=
  ∀ (r : Addr) (ws : List Value) (nn : Nat) (h' : Heap) (tk' : Nat), IntsAre ws out → Fr h₀ L h' m → News h₀ L h' ((r, listOf ws.toArray nn) :: news) → (∀ p ∈ news, p.1 < r) → Q (.ref r) { s with heap := h', toks := tk' }

/-- a call's contract -/
def Con (prog : Program) (w : World) (mean : ExcName → Option Value) (mg mb : Str → Option Value) (dn : Nat) (f : Addr) (news : List (Addr × Obj)) (vs : List Value)
    (Ret : Heap → Addr → (Str → Option Value) → Shared → (Value → Shared → Prop) → Prop) : Prop :=
  ∀ (dp un : Nat) (gd : Option (List Code)) (cn : Str) (cs : Scope) (a : Addr) (ccd : Value) (cl : List (Str × Addr)) (outer : List Env) (A₀ : Around) (base h₀ : Heap) (L : Addr) (m : Str → Option Value) (s : Shared) (Q E : Value → Shared → Prop),
    Below A₀ base outer h₀ → Fr h₀ L s.heap m → (hd.heap_39 w.params).In h₀ → News h₀ L s.heap news →
    Top hd.view_39 (looseW hd.view_39 [Str.ofString "_safe_string", Str.ofString "COMPILER_FLAG_NAMES"]) mean mg mb h₀ → cs.kind = .function →
    dp + dn < recursionLimit → un + 8 * dn < cLine → Ret h₀ L m s Q →
    wpAny (model prog w) (ktrTop dp un gd cn cs L a ccd cl outer) (call (.ref f) vs) Q E s

theorem Con.use {prog : Program} {w : World} {mean : ExcName → Option Value} {mg mb : Str → Option Value} {dn : Nat} {f : Addr} {news : List (Addr × Obj)} {vs : List Value}
    {Ret : Heap → Addr → (Str → Option Value) → Shared → (Value → Shared → Prop) → Prop} (C : Con prog w mean mg mb dn f news vs Ret)
    {dp un : Nat} {gd : Option (List Code)} {cn : Str} {cs : Scope} {a : Addr} {ccd : Value} {cl : List (Str × Addr)} {outer : List Env} {A₀ : Around} {base h₀ : Heap} {L : Addr} {m : Str → Option Value} {s : Shared} {Q E : Value → Shared → Prop}
    (B : Below A₀ base outer h₀) (F : Fr h₀ L s.heap m) (X : (hd.heap_39 w.params).In h₀) (N : News h₀ L s.heap news)
    (T : Top hd.view_39 (looseW hd.view_39 [Str.ofString "_safe_string", Str.ofString "COMPILER_FLAG_NAMES"]) mean mg mb h₀) (hk : cs.kind = .function)
    (hd : dp + dn < recursionLimit) (hu : un + 8 * dn < cLine) (ret : Ret h₀ L m s Q) :
    wpAny (model prog w) (ktrTop dp un gd cn cs L a ccd cl outer) (call (.ref f) vs) Q E s := C _ _ _ _ _ _ _ _ _ _ _ _ _ _ _ _ _ B F X N T hk hd hu ret
/-- a contract for calls that the law itself makes -/
def Con1 (prog : Program) (w : World) (mean : ExcName → Option Value) (mg mb : Str → Option Value) (dn : Nat) (f : Addr) (news : List (Addr × Obj)) (vs : List Value)
    (Ret : Heap → Addr → (Str → Option Value) → Shared → (Value → Shared → Prop) → Prop) : Prop :=
  ∀ (dp un : Nat) (gd : Option (List Code)) (cn : Str) (cs : Scope) (a : Addr) (ccd : Value) (A₀ : Around) (h₀ : Heap) (L : Addr) (m : Str → Option Value) (s : Shared) (Q E : Value → Shared → Prop),
    Below A₀ h₀ [] h₀ → Fr h₀ L s.heap m → (hd.heap_39 w.params).In h₀ → News h₀ L s.heap news →
    Top hd.view_39 (looseW hd.view_39 [Str.ofString "_safe_string", Str.ofString "COMPILER_FLAG_NAMES"]) mean mg mb h₀ → cs.kind = .function →
    dp + dn < recursionLimit → un + 8 * dn < cLine → Ret h₀ L m s Q →
    wpAny (model prog w) (ktrTop dp un gd cn cs L a ccd [] []) (call (.ref f) vs) Q E s
theorem Con1.use {prog : Program} {w : World} {mean : ExcName → Option Value} {mg mb : Str → Option Value} {dn : Nat} {f : Addr} {news : List (Addr × Obj)} {vs : List Value}
    {Ret : Heap → Addr → (Str → Option Value) → Shared → (Value → Shared → Prop) → Prop} (C : Con1 prog w mean mg mb dn f news vs Ret)
    {dp un : Nat} {gd : Option (List Code)} {cn : Str} {cs : Scope} {a : Addr} {ccd : Value} {A₀ : Around} {h₀ : Heap} {L : Addr} {m : Str → Option Value} {s : Shared} {Q E : Value → Shared → Prop}
    (B : Below A₀ h₀ [] h₀) (F : Fr h₀ L s.heap m) (X : (hd.heap_39 w.params).In h₀) (N : News h₀ L s.heap news)
    (T : Top hd.view_39 (looseW hd.view_39 [Str.ofString "_safe_string", Str.ofString "COMPILER_FLAG_NAMES"]) mean mg mb h₀) (hk : cs.kind = .function)
    (hd : dp + dn < recursionLimit) (hu : un + 8 * dn < cLine) (ret : Ret h₀ L m s Q) :
    wpAny (model prog w) (ktrTop dp un gd cn cs L a ccd [] []) (call (.ref f) vs) Q E s := C _ _ _ _ _ _ _ _ _ _ _ _ _ _ B F X N T hk hd hu ret
end Mine
end

section
open PySem PySem.W PyProof.Rows
namespace Mine
theorem Lw.out {l : OpenLaw} {K : Params → Frag} {P : Prop} (h : Lw l K P) : P := h
set_option maxRecDepth 100000 in
set_option maxHeartbeats 8000000 in
theorem c_iadd0 : Lw PySem.Challenge.rw_wu0014_01 hd.heap_39 (∀ w mean mg mb news a ta b tb, Con PySem.Challenge.pw_wu0014_01 w mean mg mb 1 83 news [.int a ta, .int b tb] (RetV news fun t v => v = .int (a+b) t)) := by
  k_fill
  k_with_none
  w_top off
  unfold Lw Con
  intros; rename_i hret
  refine wpAny_call ?_
  k_dflt cell_enter
  k_steps
  exact hret _ _ _ _ rfl (by k_asm) (by k_asm)
set_option maxRecDepth 100000 in
set_option maxHeartbeats 8000000 in
theorem c_isub0 : Lw PySem.Challenge.rw_wu0014_01 hd.heap_39 (∀ w mean mg mb news a ta b tb, Con PySem.Challenge.pw_wu0014_01 w mean mg mb 1 104 news [.int a ta, .int b tb] (RetV news fun t v => v = .int (a-b) t)) := by
  k_fill
  k_with_none
  w_top off
  unfold Lw Con
  intros; rename_i hret
  refine wpAny_call ?_
  k_dflt cell_enter
  k_steps
  exact hret _ _ _ _ rfl (by k_asm) (by k_asm)
set_option maxRecDepth 100000 in
set_option maxHeartbeats 8000000 in
theorem c_iand0 : Lw PySem.Challenge.rw_wu0014_01 hd.heap_39 (∀ w mean mg mb news a ta b tb, Con PySem.Challenge.pw_wu0014_01 w mean mg mb 1 90 news [.int a ta, .int b tb] (RetV news fun t v => v = .int (Builtin.bitAnd a b) t)) := by
  k_fill
  k_with_none
  w_top off
  unfold Lw Con
  intros; rename_i hret
  refine wpAny_call ?_
  k_dflt cell_enter
  k_steps
  exact hret _ _ _ _ rfl (by k_asm) (by k_asm)
set_option maxRecDepth 100000 in
set_option maxHeartbeats 8000000 in
theorem c_ilshift0 : Lw PySem.Challenge.rw_wu0014_01 hd.heap_39 (∀ w mean mg mb news a ta tb, 0 ≤ a → a < 16 → Con PySem.Challenge.pw_wu0014_01 w mean mg mb 1 97 news [.int a ta, .int 1 tb] (RetV news fun t v => v = .int (a*2) t)) := by
  k_fill
  k_with_none
  w_top off
  unfold Lw Con
  intros; rename_i hret
  refine wpAny_call ?_
  k_dflt cell_enter
  k_steps
  exact hret (Value.int _ _) _ _ _ rfl (by k_asm) (by k_asm)
end Mine
end

section
open PySem PySem.W PyProof.Rows
namespace Mine
def bf (wide : Int) (row : List Int) (k : Int) : List Int :=
  if Builtin.bitAnd k wide = 0 then (row.set k.toNat (row.getD k.toNat 0 + row.getD (k+wide).toNat 0)).set (k+wide).toNat (row.getD k.toNat 0 - row.getD (k+wide).toNat 0) else row
theorem bf_length (wide : Int) (row : List Int) (k : Int) : (bf wide row k).length = row.length := by
  unfold bf; split <;> simp
theorem bf_start {ns : List Int} {w : Int} (h : ns.length = 16) : ns.length = 16 ∧ ns = [].foldl (bf w) ns := ⟨h, rfl⟩
theorem bf_skip {row ns pre : List Int} {k w : Int} (h : ¬ Builtin.bitAnd k w = 0) (h1 : row.length = 16) (h2 : row = pre.foldl (bf w) ns) : row.length = 16 ∧ row = (pre ++ [k]).foldl (bf w) ns := by
  refine ⟨h1, ?_⟩
  rw [List.foldl_append, ← h2]
  show row = bf w row k
  unfold bf
  rw [if_neg h]
theorem bf_do {row ns pre : List Int} {k w : Int} (h : Builtin.bitAnd k w = 0) (h1 : row.length = 16) (h2 : row = pre.foldl (bf w) ns) :
    ((row.set k.toNat (row.getD k.toNat 0 + row.getD (k+w).toNat 0)).set (k+w).toNat (row.getD k.toNat 0 - row.getD (k+w).toNat 0)).length = 16 ∧ ((row.set k.toNat (row.getD k.toNat 0 + row.getD (k+w).toNat 0)).set (k+w).toNat (row.getD k.toNat 0 - row.getD (k+w).toNat 0)) = (pre ++ [k]).foldl (bf w) ns := by
  refine ⟨by simp [h1], ?_⟩
  rw [List.foldl_append, ← h2]
  show _ = bf w row k
  unfold bf
  rw [if_pos h]
theorem and_room {k wide : Int} (h0 : 0 ≤ k) (h1 : k < 16) (hw : wide = 1 ∨ wide = 2 ∨ wide = 4 ∨ wide = 8) : Builtin.bitAnd k wide = 0 → k + wide ≤ 15 := by
  have : ∀ n : Fin 16, ∀ w : Fin 4, Builtin.bitAnd ((n.val : Nat) : Int) ((2 ^ w.val : Nat) : Int) = 0 → ((n.val : Nat) : Int) + ((2 ^ w.val : Nat) : Int) ≤ 15 := by decide +kernel
  obtain ⟨n, rfl⟩ := Int.eq_ofNat_of_zero_le h0
  rcases hw with rfl | rfl | rfl | rfl
  · exact this ⟨n, by omega⟩ 0
  · exact this ⟨n, by omega⟩ 1
  · exact this ⟨n, by omega⟩ 2
  · exact this ⟨n, by omega⟩ 3
def CW (ns : List Int) (wide : Int) (row : List Int) : Prop :=
  ∃ i : Nat, i ≤ 4 ∧ wide = 2 ^ i ∧ row = (List.range i).foldl (fun r e => (rangeKs 0 16).foldl (bf (2 ^ e)) r) ns
@[irreducible] def crossed (ns : List Int) : List Int := (List.range 4).foldl (fun r e => (rangeKs 0 16).foldl (bf (2 ^ e)) r) ns
theorem CW.start (ns : List Int) : CW ns 1 ns := ⟨0, by decide, rfl, rfl⟩
theorem CW.next {ns row row' : List Int} {wide : Int} (h : CW ns wide row) (hl : wide < 16) (e : row' = (rangeKs 0 16).foldl (bf wide) row) : CW ns (wide * 2) row' := by
  obtain ⟨i, hi, rfl, rfl⟩ := h
  have : i ≠ 4 := by rintro rfl; exact absurd hl (by decide)
  refine ⟨i + 1, by omega, by rw [Int.pow_succ], ?_⟩
  rw [e, List.range_succ, List.foldl_append]; rfl
theorem CW.four {ns row : List Int} {wide : Int} (h : CW ns wide row) (hl : wide < 16) : wide = 1 ∨ wide = 2 ∨ wide = 4 ∨ wide = 8 := by
  obtain ⟨i, hi, rfl, rfl⟩ := h
  have : i = 0 ∨ i = 1 ∨ i = 2 ∨ i = 3 ∨ i = 4 := by omega
  rcases this with rfl | rfl | rfl | rfl | rfl <;> first | (exact absurd hl (by decide)) | decide
theorem CW.turn {ns row row' : List Int} {wide : Int} (h1 : 1 ≤ wide) (h : CW ns wide row) (hl : wide < 16) (hn : row'.length = 16) (e : row' = (rangeKs 0 16).foldl (bf wide) row) : 1 ≤ wide * 2 ∧ wide * 2 ≤ 16 ∧ row'.length = 16 ∧ CW ns (wide * 2) row' := by
  have := h.four hl
  exact ⟨by omega, by omega, hn, h.next hl e⟩
theorem CW.done {ns row : List Int} {wide : Int} (h : CW ns wide row) (hl : ¬ wide < 16) : row = crossed ns := by
  unfold crossed
  obtain ⟨i, hi, rfl, rfl⟩ := h
  have : i = 0 ∨ i = 1 ∨ i = 2 ∨ i = 3 ∨ i = 4 := by omega
  rcases this with rfl | rfl | rfl | rfl | rfl <;> first | (exact absurd (by decide) hl) | rfl
theorem and_room9 {ns row : List Int} {k wide : Int} {v : Value} {t : Tok} (_ : v = .int (Builtin.bitAnd k wide) t) (h0 : 0 ≤ k) (h1 : k < 16) (hw : CW ns wide row) (hl : wide < 16) : Builtin.bitAnd k wide = 0 → k + wide ≤ 15 := and_room h0 h1 (hw.four hl)
local macro_rules | `(tactic| walk_at "call ref") => `(tactic| (k_here; (with_reducible show wpAny _ _ (call (Value.ref 83) [Value.int _ _, Value.int _ _]) _ _ _); k_dflt (refine' Con.use (Lw.out c_iadd0 _ _ _ _ _ _ _ _ _) ?cuB ?cuF ?cuX ?cuN ?cuT ?cuk ?cud ?cuu ?_; (case cuB => k_asm); (case cuF => k_asm); (case cuX => k_asm); (case cuN => k_asm); (case cuT => k_asm); (case cuk => first | exact rfl | assumption); (case cud => ktr_room); (case cuu => ktr_units)); intro v9 t9 h9 tk9 e9 F9 N9; subst e9; (try dsimp only); (try k_fold)))
local macro_rules | `(tactic| walk_at "call ref") => `(tactic| (k_here; (with_reducible show wpAny _ _ (call (Value.ref 104) [Value.int _ _, Value.int _ _]) _ _ _); k_dflt (refine' Con.use (Lw.out c_isub0 _ _ _ _ _ _ _ _ _) ?cuB ?cuF ?cuX ?cuN ?cuT ?cuk ?cud ?cuu ?_; (case cuB => k_asm); (case cuF => k_asm); (case cuX => k_asm); (case cuN => k_asm); (case cuT => k_asm); (case cuk => first | exact rfl | assumption); (case cud => ktr_room); (case cuu => ktr_units)); intro v9 t9 h9 tk9 e9 F9 N9; subst e9; (try dsimp only); (try k_fold)))
local macro_rules | `(tactic| walk_at "call ref") => `(tactic| (k_here; (with_reducible show wpAny _ _ (call (Value.ref 90) [Value.int _ _, Value.int _ _]) _ _ _); k_dflt (refine' Con.use (Lw.out c_iand0 _ _ _ _ _ _ _ _ _) ?cuB ?cuF ?cuX ?cuN ?cuT ?cuk ?cud ?cuu ?_; (case cuB => k_asm); (case cuF => k_asm); (case cuX => k_asm); (case cuN => k_asm); (case cuT => k_asm); (case cuk => first | exact rfl | assumption); (case cud => ktr_room); (case cuu => ktr_units)); intro v9 t9 h9 tk9 e9 F9 N9; (first | (have r9 := and_room9 e9 (by omega) (by omega) (by assumption) (by omega)) | skip); subst e9; (try dsimp only); (try k_fold)))
local macro_rules | `(tactic| walk_at "call ref") => `(tactic| (k_here; (with_reducible show wpAny _ _ (call (Value.ref 97) [Value.int _ _, Value.int _ _]) _ _ _); k_dflt (refine' Con.use (Lw.out c_ilshift0 _ _ _ _ _ _ _ _ ?cu0 ?cu1) ?cuB ?cuF ?cuX ?cuN ?cuT ?cuk ?cud ?cuu ?_; (case cu0 => omega); (case cu1 => omega); (case cuB => k_asm); (case cuF => k_asm); (case cuX => k_asm); (case cuN => k_asm); (case cuT => k_asm); (case cuk => first | exact rfl | assumption); (case cud => ktr_room); (case cuu => ktr_units)); intro v9 t9 h9 tk9 e9 F9 N9; subst e9; (try dsimp only); (try k_fold)))
set_option maxRecDepth 100000 in
set_option maxHeartbeats 8000000 in
theorem c_crossed0 : Lw PySem.Challenge.rw_wu0014_01 hd.heap_39 (∀ w mean mg mb news l vs ns nn, IntsAre vs ns → ns.length = 16 → Con PySem.Challenge.pw_wu0014_01 w mean mg mb 2 118 ((l, listOf vs.toArray nn)::news) [.ref l] (RetL ((l, listOf vs.toArray nn)::news) (crossed ns))) := by
  k_fill
  k_with_none
  w_top off
  unfold Lw
  intro w mean mg mb news l vs ns nn hi hlen
  unfold Con
  intros; rename_i hret
  refine wpAny_call ?_
  k_dflt cell_enter
  (k_with "exec While Compare cons nil" => k_while (fun _ wide row => 1 ≤ wide ∧ wide ≤ 16 ∧ row.length = 16 ∧ CW ns wide row) (fun _ wide row => (16 - wide).toNat) "wide" "row")
  (k_with "pyIter ref" => k_state_given ["wide", "row!"] (fun wide row0 pre row => row.length = 16 ∧ row = pre.foldl (bf wide) row0) "row")
  (k_with "state" => (first | exact bf_start (by assumption) | exact bf_skip (by assumption) (by assumption) (by assumption) | exact bf_do (by assumption) (by assumption) (by assumption) | exact ⟨by omega, by omega, by assumption, CW.start _⟩ | exact CW.turn (by assumption) (by assumption) (by omega) (by assumption) (by assumption)))
  k_steps
  rename CW _ _ _ => hc9
  have hd9 := hc9.done (by omega)
  rename IntsAre _ _ => hi9
  rw [hd9] at hi9
  rename _ ∧ AllLt _ _ => hlt9
  exact hret _ _ _ _ _ hi9 (by k_asm) (by k_asm) (kst_ltOf (l := (l, listOf vs.toArray nn) :: news) hlt9)
end Mine
end

section
open PySem PySem.W PyProof.Rows
namespace Mine
def IsLet (c : Nat) : Prop := (65 ≤ c ∧ c ≤ 90) ∨ (97 ≤ c ∧ c ≤ 122)
def lowc (c : Nat) : Nat := if c < 97 then c + 32 else c
def costOf (c d : Nat) : Int := if c = d then 0 else if lowc c = lowc d then 1 else 2
theorem lower_let {c : Nat} (h : IsLet c) : Txt.lower ⟨#[c]⟩ = ⟨#[lowc c]⟩ := by
  have : ∀ n : Fin 26, Txt.lower ⟨#[65 + n.val]⟩ = ⟨#[lowc (65 + n.val)]⟩ ∧ Txt.lower ⟨#[97 + n.val]⟩ = ⟨#[lowc (97 + n.val)]⟩ := by decide +kernel
  rcases h with ⟨h1, h2⟩ | ⟨h1, h2⟩
  · obtain ⟨n, rfl⟩ := Nat.exists_eq_add_of_le h1
    exact (this ⟨n, by omega⟩).1
  · obtain ⟨n, rfl⟩ := Nat.exists_eq_add_of_le h1
    exact (this ⟨n, by omega⟩).2
theorem str1_eq {c d : Nat} : (((⟨#[c]⟩ : Str) == ⟨#[d]⟩) = true) ↔ c = d := by simp
theorem str1_eqf {c d : Nat} : (((⟨#[c]⟩ : Str) == ⟨#[d]⟩) = false) ↔ ¬ c = d := by simp
theorem cost0 {c d : Nat} (h : ((⟨#[c]⟩ : Str) == ⟨#[d]⟩) = true) : 0 = costOf c d := by
  unfold costOf; rw [if_pos (str1_eq.1 h)]
theorem cost1 {c d : Nat} (h : ((⟨#[c]⟩ : Str) == ⟨#[d]⟩) = false) (h' : ((⟨#[lowc c]⟩ : Str) == ⟨#[lowc d]⟩) = true) : 1 = costOf c d := by
  unfold costOf; rw [if_neg (str1_eqf.1 h), if_pos (str1_eq.1 h')]
theorem cost2 {c d : Nat} (h : ((⟨#[c]⟩ : Str) == ⟨#[d]⟩) = false) (h' : ((⟨#[lowc c]⟩ : Str) == ⟨#[lowc d]⟩) = false) : 2 = costOf c d := by
  unfold costOf; rw [if_neg (str1_eqf.1 h), if_neg (str1_eqf.1 h')]
theorem lower_call {prog : Program} {w : World} {A : Around} {E : Value → Shared → Prop} {s : Shared} {c : Nat} {t : Tok} {Q : Value → Shared → Prop} (H : IsLet c) (h : ∀ t' k, Q (.str ⟨#[lowc c]⟩ t') { s with toks := k }) : wpAny (model prog w) A (call (.builtin "str.lower") [.str ⟨#[c]⟩ t]) Q E s :=
  KXw.lower (lower_let H) (by rw [lower_let H]; rfl) h
local macro_rules | `(tactic| walk_at "call") => `(tactic| (k_here; (show wpAny _ _ (call (Value.builtin "str.lower") [Value.str _ _]) _ _ _); (refine lower_call (by assumption) ?_); intro _ _))
set_option maxRecDepth 100000 in
set_option maxHeartbeats 8000000 in
theorem c_cost0 : Lw PySem.Challenge.rw_wu0014_01 hd.heap_39 (∀ w mean mg mb news (c d : Nat) ta tb, IsLet c → IsLet d → Con PySem.Challenge.pw_wu0014_01 w mean mg mb 1 29 news [.str ⟨#[c]⟩ ta, .str ⟨#[d]⟩ tb] (RetV news fun t v => v = .int (costOf c d) t)) := by
  k_fill
  k_with_none
  w_top off
  unfold Lw Con
  intros; rename_i hret
  refine wpAny_call ?_
  k_dflt cell_enter
  k_steps
  · exact hret (Value.int _ _) _ _ _ (congrArg (fun x => Value.int x _) (cost0 (by assumption))) (by k_asm) (by k_asm)
  · exact hret (Value.int _ _) _ _ _ (congrArg (fun x => Value.int x _) (cost1 (by assumption) (by assumption))) (by k_asm) (by k_asm)
  · exact hret (Value.int _ _) _ _ _ (congrArg (fun x => Value.int x _) (cost2 (by assumption) (by assumption))) (by k_asm) (by k_asm)
end Mine
end

section
open PySem PySem.W PyProof.Rows
namespace Mine
structure LetF (c d : Nat) : Prop where
  c : c ≠ 34
  d : d ≠ 34
theorem str1_ne {c d : Nat} (h : c ≠ d) : ((⟨#[c]⟩ : Str) == ⟨#[d]⟩) = false := by
  have : (⟨#[c]⟩ : Str) ≠ ⟨#[d]⟩ := by
    intro e
    have := congrArg (fun s : Str => s.cps.toList) e
    simp at this
    exact h this
  simp [this]
theorem LetF.ceq {c d : Nat} (H : LetF c d) : ((⟨#[c]⟩ : Str) == ⟨#[34]⟩) = false := str1_ne H.c
theorem LetF.deq {c d : Nat} (H : LetF c d) : ((⟨#[d]⟩ : Str) == ⟨#[34]⟩) = false := str1_ne H.d
theorem ite_t9 {b : Bool} {p q : Prop} (h : b = true) (hq : p) : if b = true then p else q := by rw [h]; exact hq
theorem ite_f9 {b : Bool} {p q : Prop} (h : b = false) (hq : q) : if b = true then p else q := by rw [h]; exact hq
theorem len25 {prog : Program} {w : World} {A : Around} {E : Value → Shared → Prop} {s : Shared} {x : Str} {t : Tok} {Q : Value → Shared → Prop} (e : x.length = 25) (h : Q (.int 25 (s.toks + 1)) { s with toks := s.toks + 1 + 1 }) : wpAny (model prog w) A (call (.builtin "len") [.str x t]) Q E s :=
  P.len_str (by rw [e]; decide) (by rw [e]; exact h)
local macro_rules | `(tactic| walk_at "ite") => `(tactic| (k_here; (rename LetF _ _ => hL9); first | (refine ite_t9 (by kernel_rfl!) ?_) | (refine ite_f9 (by kernel_rfl!) ?_) | (refine ite_f9 (Eq.trans (by kernel_rfl!) hL9.ceq) ?_) | (refine ite_f9 (Eq.trans (by kernel_rfl!) hL9.deq) ?_)))
local macro_rules | `(tactic| walk_at "call builtin:len") => `(tactic| (k_here; (rename LetF _ _ => hL9); (with_reducible show wpAny _ _ (call (Value.builtin "len") [Value.str _ _]) _ _ _); (refine len25 (by kernel_rfl!) ?_)))
local macro_rules | `(tactic| walk_at "subscriptTail Name Name str int") => `(tactic| (k_here; (rename LetF _ _ => hL9); (with_reducible show wpAny _ _ (subscriptTail _ _ (Value.str _ _) (Value.int _ _)) _ _ _); (refine KXi.item (n := 25) (by kernel_rfl!) (by decide) (by decide) (by decide) ?_); intro kxiE))
set_option maxRecDepth 100000 in
set_option maxHeartbeats 8000000 in
theorem c_parse0 : Lw PySem.Challenge.rw_wu0014_01 hd.heap_39 (∀ w mean mg mb news (c d : Nat) ta , LetF c d → Con PySem.Challenge.pw_wu0014_01 w mean mg mb 1 69 news [.str (⟨#[50,53,55,32,34,c,34,34,d,34,32,97,110,100,32,34,34,32,110,111,32,109,111,114,101]⟩) ta] (RetV news fun t v => v = .str ⟨#[c,34,d]⟩ t)) := by
  k_fill
  k_with_none
  w_top off
  unfold Lw Con
  intros; rename_i hret
  refine wpAny_call ?_
  k_dflt cell_enter
  k_steps
  refine hret (Value.str _ _) _ _ _ (congrArg (fun x => Value.str x _) ?e9) (by k_asm) (by k_asm)
  kernel_rfl!
end Mine
end

section
open PySem PySem.W PyProof.Rows
namespace Mine
set_option maxRecDepth 100000 in
set_option maxHeartbeats 8000000 in
theorem c_letters0 : Lw PySem.Challenge.rw_wu0014_01 hd.heap_39 (∀ w mean mg mb news a ta , Con PySem.Challenge.pw_wu0014_01 w mean mg mb 1 111 news [.int a ta] (RetV news fun t v => v = .str ⟨#[(97 + a.fmod 26).toNat, (65 + a.fmod 26).toNat, (97 + (a.fmod 26 + 1 + (a.fdiv 26).fmod 25).fmod 26).toNat, (65 + (a.fmod 26 + 1 + (a.fdiv 26).fmod 25).fmod 26).toNat]⟩ t)) := by
  k_fill
  k_with_none
  w_top off
  unfold Lw Con
  intros; rename_i hret
  refine wpAny_call ?_
  k_dflt cell_enter
  k_steps
  exact hret (Value.str _ _) _ _ _ rfl (by k_asm) (by k_asm)
end Mine
end

section
open PySem PySem.W PyProof.Rows
namespace Mine
/-- what is owed to the turns of a range from the i-th on, k of them, and to the else behind them -/
def ElseRest (prog : Program) (w : World) (A : Around) (E : Value → Shared → Prop) (h₀ : Heap) (env : Env) (x : Str) (body orelse : List Stmt) (Q : Flow → Shared → Prop) (s : Shared) (I : Addr) (a : Int) (n : Nat) : Nat → Nat → (Str → Option Value) → List (Addr × Obj) → Prop
  | 0, _, m, news => ∀ h tk, Fr h₀ env.locals h m → News h₀ env.locals h news → wpAny (model prog w) A (execs orelse env) Q E { s with heap := h, toks := tk }
  | k + 1, i, m, news => ∀ t h tk, Fr h₀ env.locals h (fun y => if y = x then some (.int (a + (i : Int)) t) else m y) →
      News h₀ env.locals h ((I, itR (a + ((i + 1 : Nat) : Int)) ((n : Int) - ((i + 1 : Nat) : Int))) :: news) →
      wpAny (model prog w) A (execs body env) (UnrPost h₀ env.locals { s with heap := h, toks := tk } I (itR (a + ((i + 1 : Nat) : Int)) ((n : Int) - ((i + 1 : Nat) : Int))) (ElseRest prog w A E h₀ env x body orelse Q s I a n k (i + 1)) Q) E { s with heap := h, toks := tk }
section
variable {prog : Program} {w : World} {A : Around} {E : Value → Shared → Prop} {s : Shared} {env : Env} {h₀ : Heap} {x : Str} {body orelse : List Stmt} {Q : Flow → Shared → Prop}
theorem ElseRest.zero {I : Addr} {a : Int} {n i : Nat} {m : Str → Option Value} {news : List (Addr × Obj)} (h : ∀ h tk, Fr h₀ env.locals h m → News h₀ env.locals h news → wpAny (model prog w) A (execs orelse env) Q E { s with heap := h, toks := tk }) :
    ElseRest prog w A E h₀ env x body orelse Q s I a n 0 i m news := h
theorem ElseRest.succ {I : Addr} {a : Int} {n k i : Nat} {m : Str → Option Value} {news : List (Addr × Obj)}
    (h : ∀ t h tk, Fr h₀ env.locals h (fun y => if y = x then some (.int (a + (i : Int)) t) else m y) → News h₀ env.locals h ((I, itR (a + ((i + 1 : Nat) : Int)) ((n : Int) - ((i + 1 : Nat) : Int))) :: news) →
      wpAny (model prog w) A (execs body env) (UnrPost h₀ env.locals { s with heap := h, toks := tk } I (itR (a + ((i + 1 : Nat) : Int)) ((n : Int) - ((i + 1 : Nat) : Int))) (ElseRest prog w A E h₀ env x body orelse Q s I a n k (i + 1)) Q) E { s with heap := h, toks := tk }) :
    ElseRest prog w A E h₀ env x body orelse Q s I a n (k + 1) i m news := h
def ElseAt (prog : Program) (w : World) (A : Around) (h₀ : Heap) (env : Env) (x : Str) (px : Pos) (body orelse : List Stmt) (Q : Flow → Shared → Prop) (E : Value → Shared → Prop) (it : Value) (s : Shared) : Prop :=
  h₀ = h₀ → codeAny (model prog w) A (.forLoop (.Name x px) it body orelse env) (fun r s' => match r with | .ok f => Q f s' | .error e => cameBackBy (model prog w) A env E e s') s
theorem For_else {iter : Expr} {px pos : Pos} {m : Str → Option Value} (_F : Fr h₀ env.locals s.heap m)
    (h : wpAny (model prog w) A (eval iter env) (fun xv s₁ => wpAny (model prog w) A (pyIter xv) (fun it s₂ => ElseAt prog w A h₀ env x px body orelse Q E it s₂) E s₁) E s)
    (hs : ∀ x, foldedSetIterable iter env x = pure x := by intro _; rfl) :
    wpAny (model prog w) A (exec (.For (.Name x px) iter body orelse pos) env) Q E s :=
  wpAny_For (wpAny_mono h (fun _ _ h₁ => wpAny_mono h₁ (fun _ _ h₂ => h₂ rfl) fun _ _ e => e) fun _ _ e => e) hs
theorem iter_else {r : Addr} {px : Pos} {a₀ b₀ : Int} {t₀ u₀ v₀ : Tok} {n : Nat} {m₀ : Str → Option Value} {news : List (Addr × Obj)}
    (hh : A.handled = none) (hr : IsRange s.heap r a₀ b₀ 1 t₀ u₀ v₀) (hsmall : Builtin.Range.small a₀ b₀ 1 = true) (hn : Builtin.Range.rangeSize a₀ b₀ 1 = (n : Int))
    (hx : env.kindOf x = some .local) (hp : (env.scope.kind == .class || (env.scope.kind == .module && env.locals != env.globals)) = false)
    (F : Fr h₀ env.locals s.heap m₀) (N : News h₀ env.locals s.heap news)
    (rest₀ : ∀ I : Addr, (∀ p ∈ news, p.1 < I) → ElseRest prog w A E h₀ env x body orelse Q s I a₀ n n 0 m₀ news)
    (hE : PassesOwn (model prog w) A env E := by passes_own) :
    wpAny (model prog w) A (pyIter (.ref r)) (fun it s₂ => ElseAt prog w A h₀ env x px body orelse Q E it s₂) E s := by
  refine wpAny_pyIter_range hr hsmall fun _ => ?_
  have rest := rest₀ s.heap.objs.size fun p hp => Heap.lt_size (N p hp).1
  have W := Walks.range (prog := prog) (w := w) hh s.heap.objs.size a₀ 1 n
  have hnew : h₀.get? s.heap.objs.size = none := next_is_new F
  have hIL : s.heap.objs.size ≠ env.locals := fun e => absurd F.ns.lt (by rw [e]; exact Nat.lt_irrefl _)
  refine codeAny_forLoop (fun k s' => ∃ h' tk m' news' i, s' = { s with heap := h', toks := tk } ∧ IsRangeIter h' s.heap.objs.size (a₀ + (i : Nat) * 1) ((n : Int) - (i : Nat)) 1 ∧ Fr h₀ env.locals h' m' ∧ News h₀ env.locals h' news' ∧ (∀ p ∈ news', p.1 ≠ s.heap.objs.size) ∧ ElseRest prog w A E h₀ env x body orelse Q s s.heap.objs.size a₀ n (n - i) i m' news' ∧ i ≤ n ∧ k = n - i) ?_ n
    ⟨_, s.toks, m₀, news, 0, rfl, by rw [hn]; simpa using Heap.get?_push_size _ rfl, F.push _, (fun p hp => ⟨Heap.get?_push_of_some _ (N p hp).1, (N p hp).2⟩), fun p hp => Nat.ne_of_lt (Heap.lt_size (N p hp).1), rest, Nat.zero_le _, rfl⟩
  rintro k s' ⟨h', tk, m', news', i, rfl, hst, F', N', hoff, hJ, hi, rfl⟩
  have next : ∀ h₁ : Heap, (∀ b o, b ∉ [s.heap.objs.size] → h'.get? b = some o → h₁.get? b = some o) → Fr h₀ env.locals h₁ m' ∧ News h₀ env.locals h₁ news' := fun h₁ hk₁ =>
    ⟨⟨F'.ns.at' fun o e => hk₁ _ o (fun q => hIL (List.mem_singleton.mp q).symm) e, fun b o e => hk₁ b o (fun q => by rw [List.mem_singleton.mp q, hnew] at e; cases e) (F'.keep b o e), F'.above⟩,
      fun p hp => ⟨hk₁ _ _ (fun q => hoff p hp (List.mem_singleton.mp q)) (N' p hp).1, (N' p hp).2⟩⟩
  by_cases hlt : i < n
  · refine W.item i _ _ _ hlt hst fun v h₁ tk₁ hP hst₁ hk₁ => ?_
    obtain ⟨t, rfl⟩ := hP
    obtain ⟨F₁, N₁⟩ := next h₁ hk₁
    refine wpAny_assign_Name (wpAny_storeName_local hx F₁.ns (fun h₂ hn₂ hs₂ => ?_) hp)
    have F₂ := F₁.set hn₂ hs₂
    have e1 : a₀ + (i : Int) * 1 = a₀ + (i : Int) := by rw [Int.mul_one]
    rw [e1] at F₂
    have hI₂ : h₂.get? s.heap.objs.size = some (itR (a₀ + ((i + 1 : Nat) : Int)) ((n : Int) - ((i + 1 : Nat) : Int))) := by
      rw [hs₂.2 _ hIL]
      have q : IsRangeIter h₁ s.heap.objs.size (a₀ + ((i + 1 : Nat) : Int) * 1) ((n : Int) - ((i + 1 : Nat) : Int)) 1 := hst₁
      rw [Int.mul_one] at q
      exact q
    have N₂ : News h₀ env.locals h₂ ((s.heap.objs.size, itR (a₀ + ((i + 1 : Nat) : Int)) ((n : Int) - ((i + 1 : Nat) : Int))) :: news') := fun p hp => by
      rcases List.mem_cons.mp hp with rfl | hp
      · exact ⟨hI₂, hIL, hnew⟩
      · exact (N₁.set hs₂) p hp
    have hkk : n - i = (n - (i + 1)) + 1 := by omega
    rw [hkk] at hJ
    refine wpAny_passesOwn hE (wpAny_mono (hJ t h₂ (tk₁ + 1) F₂ N₂) (fun f s₃ p => ?_) fun _ _ e => e)
    have fin : UnrEnd h₀ env.locals { s with heap := h₂, toks := tk₁ + 1 } s.heap.objs.size (itR (a₀ + ((i + 1 : Nat) : Int)) ((n : Int) - ((i + 1 : Nat) : Int))) (ElseRest prog w A E h₀ env x body orelse Q s s.heap.objs.size a₀ n (n - (i + 1)) (i + 1)) s₃ →
        ∃ m, m < n - i ∧ ∃ h' tk m' news' j, s₃ = { s with heap := h', toks := tk } ∧ IsRangeIter h' s.heap.objs.size (a₀ + (j : Nat) * 1) ((n : Int) - (j : Nat)) 1 ∧ Fr h₀ env.locals h' m' ∧ News h₀ env.locals h' news' ∧ (∀ p ∈ news', p.1 ≠ s.heap.objs.size) ∧ ElseRest prog w A E h₀ env x body orelse Q s s.heap.objs.size a₀ n (n - j) j m' news' ∧ j ≤ n ∧ m = n - j := by
      rintro ⟨h₃, tk₃, m₃, news₃, rfl, F₃, N₃, off₃, r⟩
      refine ⟨n - (i + 1), by omega, h₃, tk₃, m₃, news₃, i + 1, rfl, ?_, F₃, fun p hp => N₃ p (List.mem_cons_of_mem _ hp), off₃, r, hlt, rfl⟩
      have q := (N₃ _ (List.mem_cons_self ..)).1
      rw [Int.mul_one]
      exact q
    cases f with
    | ret v => exact p
    | brk => exact p
    | next => exact fin p
    | cont => exact fin p
  · have hin : i = n := by omega
    subst hin
    refine W.done _ _ _ hst fun h₁ tk₁ hk₁ => ?_
    obtain ⟨F₁, N₁⟩ := next h₁ hk₁
    rw [Nat.sub_self] at hJ
    exact wpAny_passesOwn hE (hJ h₁ tk₁ F₁ N₁)
end
end Mine
namespace Mine
section
variable {prog : Program} {w : World} {A : Around} {E : Value → Shared → Prop} {s : Shared} {env : Env} {h₀ : Heap} {x : Str} {body orelse : List Stmt} {Q : Flow → Shared → Prop}
theorem elseRest_of {I : Addr} {a : Int} {n : Nat} (J : Nat → (Str → Option Value) → List (Addr × Obj) → Prop)
    (turn : ∀ i t m₁ nx h tk it, i < n → J i m₁ nx → Fr h₀ env.locals h (fun y => if y = x then some (.int (a + (i : Int)) t) else m₁ y) → News h₀ env.locals h ((I, it) :: nx) →
      wpAny (model prog w) A (execs body env) (UnrPost h₀ env.locals { s with heap := h, toks := tk } I it (J (i + 1)) Q) E { s with heap := h, toks := tk })
    (done : ∀ m₁ nx h tk, J n m₁ nx → Fr h₀ env.locals h m₁ → News h₀ env.locals h nx → wpAny (model prog w) A (execs orelse env) Q E { s with heap := h, toks := tk }) :
    ∀ k i m nx, i + k = n → J i m nx → ElseRest prog w A E h₀ env x body orelse Q s I a n k i m nx := by
  intro k
  induction k with
  | zero =>
    intro i m nx hi hJ
    obtain rfl : i = n := hi
    exact fun h tk F N => done m nx h tk hJ F N
  | succ k ih =>
    intro i m nx hi hJ t h tk F N
    refine wpAny_mono (turn i t m nx h tk _ (by omega) hJ F N) (fun f s₂ p => ?_) fun _ _ e => e
    have fin : UnrEnd h₀ env.locals { s with heap := h, toks := tk } I (itR (a + ((i + 1 : Nat) : Int)) ((n : Int) - ((i + 1 : Nat) : Int))) (J (i + 1)) s₂ →
        UnrEnd h₀ env.locals { s with heap := h, toks := tk } I (itR (a + ((i + 1 : Nat) : Int)) ((n : Int) - ((i + 1 : Nat) : Int))) (ElseRest prog w A E h₀ env x body orelse Q s I a n k (i + 1)) s₂ := by
      rintro ⟨h', tk', m', nx', e, F', N', off, r2⟩
      exact ⟨h', tk', m', nx', e, F', N', off, ih (i + 1) m' nx' (by omega) r2⟩
    cases f with
    | ret v => exact p
    | brk => exact p
    | next => exact fin p
    | cont => exact fin p
theorem strs_values : ∀ {vs : List Value} {names : List Str}, StrsAre vs names → ∃ l : List (Str × Tok), vs = strValues l ∧ l.map (·.1) = names
  | _, _, .nil => ⟨[], rfl, rfl⟩
  | _, _, .cons y t h => by
    obtain ⟨l, rfl, rfl⟩ := strs_values h
    exact ⟨(y, t) :: l, rfl, rfl⟩
theorem strs_snoc {vs : List Value} {names : List Str} {y : Str} {t : Tok} (h : StrsAre vs names) : StrsAre (vs ++ [.str y t]) (names ++ [y]) := by
  induction h with
  | nil => exact .cons _ _ .nil
  | cons z u _ ih => exact .cons z u ih
theorem join_strs {D : Addr} {vs : List Value} {names : List Str} {y : Str} {t : Tok} {Q : Value → Shared → Prop} (hl : s.heap.IsList D vs.toArray) (hs : StrsAre vs names) (hok : JoinOk y names = true)
    (hq : ∀ t' k, Q (.str (Txt.join y names) t') { s with toks := k }) : wpAny (model prog w) A (call (.builtin "str.join") [.str y t, .ref D]) Q E s := by
  obtain ⟨l, rfl, rfl⟩ := strs_values hs
  exact SC.join hl rfl hok hq
theorem join_led {L D : Addr} {news : List (Addr × Obj)} {vs : List Value} {n : Nat} {names : List Str} {y : Str} {t : Tok} {Q : Value → Shared → Prop} (N : News h₀ L s.heap news) (hs : StrsAre vs names) (hok : JoinOk y names = true) (hm : (D, listOf vs.toArray n) ∈ news)
    (hq : ∀ t' k, Q (.str (Txt.join y names) t') { s with toks := k }) : wpAny (model prog w) A (call (.builtin "str.join") [.str y t, .ref D]) Q E s :=
  join_strs ⟨_, (N _ hm).1, rfl, _, rfl⟩ hs hok hq
end
end Mine
end

section
open PySem PySem.W PyProof.Rows
namespace Mine
def nameOf (i : Nat) : Str := match i with | 0 => Str.ofString "OPTIMIZED" | 1 => Str.ofString "NEWLOCALS" | 2 => Str.ofString "VARARGS" | _ => Str.ofString "VARKEYWORDS"
def flAt (b i : Nat) : Int := ((b / 2 ^ i * 2 ^ i : Nat) : Int)
def nmAt (b i : Nat) : List Str := (List.range i).filterMap fun j => if b / 2 ^ j % 2 = 1 then some (nameOf j) else none
def ftext (b : Nat) : Str := if b = 0 then Str.ofString "0x0" else Txt.join (Str.ofString ", ") (nmAt b 4)
def Sp (b i : Nat) (names : List Str) (f : Int) : Prop := (b = 0 ∧ f = 0 ∧ names = []) ∨ (0 < b ∧ b < 16 ∧ i < 4 ∧ f = flAt b i ∧ f ≠ 0 ∧ names = nmAt b i)
theorem bitAnd0 (x : Int) : Builtin.bitAnd 0 x = 0 := by
  unfold Builtin.bitAnd
  rw [show decide ((0 : Int) ≤ 0) = true from rfl]
  cases decide (0 ≤ x) <;> simp
theorem Sp.start {b : Nat} (hb : b < 16) : Sp b 0 [] (b : Int) := by
  by_cases h : b = 0
  · subst h; exact .inl ⟨rfl, rfl, rfl⟩
  · refine .inr ⟨by omega, hb, by decide, ?_, by omega, rfl⟩
    simp [flAt]
theorem fl_facts : ∀ b : Fin 16, ∀ i : Fin 4, 0 < b.val → flAt b.val i.val ≠ 0 →
    (Builtin.bitAnd (flAt b.val i.val) (1 * 2 ^ ((0 : Int) + ((i.val : Nat) : Int)).toNat) = 0 → i.val + 1 < 4 ∧ flAt b.val (i.val + 1) = flAt b.val i.val ∧ nmAt b.val (i.val + 1) = nmAt b.val i.val) ∧
    (¬ Builtin.bitAnd (flAt b.val i.val) (1 * 2 ^ ((0 : Int) + ((i.val : Nat) : Int)).toNat) = 0 →
      (¬ Builtin.bitXor (flAt b.val i.val) (1 * 2 ^ ((0 : Int) + ((i.val : Nat) : Int)).toNat) = 0 → i.val + 1 < 4 ∧ Builtin.bitXor (flAt b.val i.val) (1 * 2 ^ ((0 : Int) + ((i.val : Nat) : Int)).toNat) = flAt b.val (i.val + 1) ∧ nmAt b.val (i.val + 1) = nmAt b.val i.val ++ [nameOf i.val]) ∧
      (Builtin.bitXor (flAt b.val i.val) (1 * 2 ^ ((0 : Int) + ((i.val : Nat) : Int)).toNat) = 0 → Txt.join (Str.ofString ", ") (nmAt b.val i.val ++ [nameOf i.val]) = ftext b.val) ∧ JoinOk (Str.ofString ", ") (nmAt b.val i.val ++ [nameOf i.val]) = true) := by decide +kernel
theorem Sp.skip {b i : Nat} {names : List Str} {f : Int} (h : Sp b i names f) (e : Builtin.bitAnd f (1 * 2 ^ ((0 : Int) + (i : Int)).toNat) = 0) : Sp b (i + 1) names f := by
  rcases h with ⟨h1, h2, h3⟩ | ⟨h0, h1, h2, rfl, h4, rfl⟩
  · exact .inl ⟨h1, h2, h3⟩
  · obtain ⟨a1, a2, a3⟩ := (fl_facts ⟨b, h1⟩ ⟨i, h2⟩ h0 h4).1 e
    exact .inr ⟨h0, h1, a1, a2.symm, h4, a3.symm⟩
theorem Sp.four {b i : Nat} {names : List Str} {f : Int} (h : Sp b i names f) (e : ¬ Builtin.bitAnd f (1 * 2 ^ ((0 : Int) + (i : Int)).toNat) = 0) : i = 0 ∨ i = 1 ∨ i = 2 ∨ i = 3 := by
  rcases h with ⟨h1, rfl, h3⟩ | ⟨h0, h1, h2, _⟩
  · exact absurd (bitAnd0 _) e
  · omega
theorem Sp.next {b i : Nat} {names : List Str} {f : Int} (h : Sp b i names f) (e : ¬ Builtin.bitAnd f (1 * 2 ^ ((0 : Int) + (i : Int)).toNat) = 0) (e' : ¬ Builtin.bitXor f (1 * 2 ^ ((0 : Int) + (i : Int)).toNat) = 0) :
    Sp b (i + 1) (names ++ [nameOf i]) (Builtin.bitXor f (1 * 2 ^ ((0 : Int) + (i : Int)).toNat)) := by
  rcases h with ⟨h1, rfl, h3⟩ | ⟨h0, h1, h2, rfl, h4, rfl⟩
  · exact absurd (bitAnd0 _) e
  · obtain ⟨a1, a2, a3⟩ := ((fl_facts ⟨b, h1⟩ ⟨i, h2⟩ h0 h4).2 e).1 e'
    exact .inr ⟨h0, h1, a1, a2, e', a3.symm⟩
theorem Sp.brk {b i : Nat} {names : List Str} {f : Int} (h : Sp b i names f) (e : ¬ Builtin.bitAnd f (1 * 2 ^ ((0 : Int) + (i : Int)).toNat) = 0) :
    JoinOk (Str.ofString ", ") (names ++ [nameOf i]) = true := by
  rcases h with ⟨h1, rfl, h3⟩ | ⟨h0, h1, h2, rfl, h4, rfl⟩
  · exact absurd (bitAnd0 _) e
  · exact ((fl_facts ⟨b, h1⟩ ⟨i, h2⟩ h0 h4).2 e).2.2
theorem Sp.fin {b i : Nat} {names : List Str} {f : Int} (h : Sp b i names f) (e : ¬ Builtin.bitAnd f (1 * 2 ^ ((0 : Int) + (i : Int)).toNat) = 0) (e' : Builtin.bitXor f (1 * 2 ^ ((0 : Int) + (i : Int)).toNat) = 0) :
    Txt.join (Str.ofString ", ") (names ++ [nameOf i]) = ftext b := by
  rcases h with ⟨h1, rfl, h3⟩ | ⟨h0, h1, h2, rfl, h4, rfl⟩
  · exact absurd (bitAnd0 _) e
  · exact ((fl_facts ⟨b, h1⟩ ⟨i, h2⟩ h0 h4).2 e).2.1 e'
theorem Sp.len {b i : Nat} {names : List Str} {f : Int} {ws : List Value} (h : Sp b i names f) (hs : StrsAre ws names) : ws.length ≤ 4 := by
  rw [StrsAre.length hs]
  rcases h with ⟨_, _, rfl⟩ | ⟨_, _, h2, _, _, rfl⟩
  · decide
  · exact Nat.le_trans (List.length_filterMap_le _ _) (by rw [List.length_range]; omega)
theorem Sp.out {b : Nat} {names : List Str} {f : Int} (h : Sp b 32 names f) : b = 0 ∧ f = 0 ∧ names = [] := by
  rcases h with h | ⟨_, _, h, _⟩
  · exact h
  · omega

def PJ (b : Nat) (l : Addr) (news : List (Addr × Obj)) (m₀ : Str → Option Value) (i : Nat) (m' : Str → Option Value) (nx' : List (Addr × Obj)) : Prop :=
  ∃ (ws : List Value) (names : List Str) (nn : Nat) (f : Int) (tf : Tok), StrsAre ws names ∧ nx' = (l, listOf ws.toArray nn) :: news ∧ (∀ p ∈ [(Str.ofString "flags", Value.int f tf)], m' p.1 = some p.2) ∧
    (∀ z, z ≠ Str.ofString "i" → (∀ p ∈ [(Str.ofString "flags", Value.int f tf)], z ≠ p.1) → [Str.ofString "flag"].contains z = false → m' z = m₀ z) ∧ Sp b i names f
theorem pretty_iter {prog : Program} {w : World} {A : Around} {E : Value → Shared → Prop} {s : Shared} {env : Env} {h₀ : Heap} {body orelse : List Stmt} {Q : Flow → Shared → Prop} {news : List (Addr × Obj)} {l r : Addr} {m₀ : Str → Option Value} {b : Nat} {ta : Tok} {t₀ u₀ v₀ : Tok} {px : Pos}
    (hh : A.handled = none) (hr : IsRange s.heap r 0 32 1 t₀ u₀ v₀) (hx : env.kindOf (Str.ofString "i") = some .local) (hp : (env.scope.kind == .class || (env.scope.kind == .module && env.locals != env.globals)) = false)
    (F : Fr h₀ env.locals s.heap m₀) (N : News h₀ env.locals s.heap ((l, listOf #[] 0) :: news)) (hb : b < 16) (hf : m₀ (Str.ofString "flags") = some (.int (b : Int) ta))
    (turn : ∀ (i : Nat) (ws : List Value) (names : List Str) (nn : Nat) (f : Int) (tf t : Tok) (u : Str → Option Value) (h : Heap) (tk : Nat) (I : Addr) (it : Obj), i < 32 → Sp b i names f → StrsAre ws names → ws.length ≤ 4 → (@LT.lt Nat _ l I ∧ AllLt I news) →
      Fr h₀ env.locals h (fun y => if y = Str.ofString "i" then some (.int (0 + (i : Int)) t) else if y = Str.ofString "flags" then some (Value.int f tf) else if [Str.ofString "flag"].contains y then u y else m₀ y) →
      News h₀ env.locals h ((I, it) :: (l, listOf ws.toArray nn) :: news) →
      wpAny (model prog w) A (execs body env) (UnrPost h₀ env.locals { s with heap := h, toks := tk } I it (PJ b l news m₀ (i + 1)) Q) E { s with heap := h, toks := tk })
    (done : ∀ (u : Str → Option Value) (tf : Tok) (nn : Nat) (h : Heap) (tk : Nat), b = 0 →
      Fr h₀ env.locals h (fun y => if y = Str.ofString "i" then u y else if y = Str.ofString "flags" then some (Value.int 0 tf) else if [Str.ofString "flag"].contains y then u y else m₀ y) →
      News h₀ env.locals h ((l, listOf #[] nn) :: news) → wpAny (model prog w) A (execs orelse env) Q E { s with heap := h, toks := tk })
    (hE : PassesOwn (model prog w) A env E := by passes_own) :
    wpAny (model prog w) A (pyIter (.ref r)) (fun it s₂ => ElseAt prog w A h₀ env (Str.ofString "i") px body orelse Q E it s₂) E s := by
  refine iter_else (n := 32) hh hr (by decide) (by decide) hx hp F N (fun I hI => ?_) hE
  have hlt : @LT.lt Nat _ l I ∧ AllLt I news := allLt_of (l := (l, listOf #[] 0) :: news) hI
  refine elseRest_of (PJ b l news m₀) ?_ ?_ 32 0 _ _ rfl ?_
  · rintro i t m₁ nx h tk it hi ⟨ws, names, nn, f, tf, hs, rfl, h1, h2, hsp⟩ F₁ N₁
    exact turn i ws names nn f tf t m₁ h tk I it hi hsp hs (hsp.len hs) hlt (kst_fr h1 h2 F₁) N₁
  · rintro m₁ nx h tk ⟨ws, names, nn, f, tf, hs, rfl, h1, h2, hsp⟩ F₁ N₁
    obtain ⟨hb0, rfl, rfl⟩ := hsp.out
    cases hs
    exact done m₁ tf nn h tk hb0 (kst_frOut h1 h2 F₁) N₁
  · exact ⟨[], [], 0, (b : Int), ta, .nil, rfl, fun p hp => by rw [List.mem_singleton.mp hp]; exact hf, fun _ _ _ _ => rfl, Sp.start hb⟩
end Mine
end

section
open PySem PySem.W PyProof.Rows
namespace Mine
local macro_rules | `(tactic| walk_at "exec For Name Call cons cons") => `(tactic| (k_here; (rename Fr _ _ _ _ => lF'); (with_unfolding_all refine' For_else lF' ?_; k_whole)))
local macro_rules | `(tactic| walk_at "execs cons Assign cons") => `(tactic| ((with_reducible refine wpAny_execs_cons ?_); (try dsimp only)))
local macro_rules | `(tactic| walk_at "pyIter ref") => `(tactic| (k_here; (with_reducible show wpAny _ _ (pyIter (Value.ref _)) (fun it s₂ => ElseAt _ _ _ _ _ _ _ _ _ _ _ it s₂) _ _); (rename Fr _ _ _ _ => lF'); (rename News _ _ _ _ => lN'); (rename IsRange _ _ _ _ _ _ _ _ => rgX); (with_unfolding_all refine pretty_iter (by rfl) rgX (by rfl) (by rfl) lF' lN' (by assumption) (by rfl) (fun i9 ws9 names9 nn9 f9 tf9 t9 u9 h9 tk9 I9 it9 hi9 hsp9 hs9 hl9 hlt9 F9 N9 => ?_) (fun u9 tf9 nn9 h9 tk9 hb9 F9 N9 => ?_)); (all_goals clear lF' lN'); (all_goals have kMark9 := kstMark); (all_goals (try k_fold))))
local macro_rules | `(tactic| walk_at "UnrEnd") => `(tactic| (k_here; (rename Fr _ _ _ _ => lF'); (rename News _ _ _ _ => lN'); (try simp only [List.push_toArray] at lN'); k_dflt (refine UnrEnd.intro lF' lN' _ (fun _ h9 => h9) (fun p9 h9 => Nat.ne_of_lt (kst_ltOf (by assumption) p9 h9)) ⟨_, _, _, _, _, (by first | assumption | exact strs_snoc (by assumption)), rfl, (fun p9 h9 => by rw [List.mem_singleton.mp h9]; rfl), by kst_same, by first | exact Sp.skip (by assumption) (by assumption) | exact Sp.next (by assumption) (by assumption) (by assumption)⟩)))
local macro_rules | `(tactic| walk_at "call builtin:str.join") => `(tactic| (k_here; (with_reducible show wpAny _ _ (call (Value.builtin "str.join") [Value.str _ _, Value.ref _]) _ _ _); (rename News _ _ _ _ => lN'); (rename Sp _ _ _ _ => hsp9); (simp only [List.push_toArray] at lN'); k_dflt (refine join_led lN' (strs_snoc (by assumption)) (Sp.brk hsp9 (by assumption)) (by k_mem) ?_); intro _ _))
set_option maxRecDepth 100000 in
set_option maxHeartbeats 8000000 in
theorem c_pretty0 : Lw PySem.Challenge.rw_wu0014_01 hd.heap_39 (∀ w mean mg mb news (b : Nat) ta, b < 16 → Con PySem.Challenge.pw_wu0014_01 w mean mg mb 1 37 news [.int (b : Int) ta] (RetV news fun t v => v = .str (ftext b) t)) := by
  k_fill
  k_with_none
  w_top off
  unfold Lw
  intro w mean mg mb news b ta hb
  unfold Con
  intros; rename_i hret
  refine wpAny_call ?_
  k_dflt cell_enter
  k_steps
  · rename Sp _ _ _ _ => hsp9
    rcases hsp9.four (by assumption) with h9 | h9 | h9 | h9 <;> subst h9
    all_goals k_steps
    all_goals exact hret (Value.str _ _) _ _ _ (congrArg (fun x => Value.str x _) (Sp.fin (by assumption) (by assumption) (by assumption))) (by k_asm) (fun p9 h9 => News.right (a := [_, _]) (by k_asm) p9 h9)
  · subst b
    refine hret (Value.str _ _) _ _ _ (congrArg (fun x => Value.str x _) ?e9) (by k_asm) (fun p9 h9 => News.right (a := [_]) (by k_asm) p9 h9)
    kernel_rfl!
end Mine
end

section
open PySem PySem.W PyProof.Rows
namespace Mine
local macro_rules | `(tactic| walk_at "compareOp In str ref") => `(tactic| (k_here; (with_reducible show wpAny _ _ (compareOp CmpOp.In (Value.str _ _) (Value.ref _)) _ _ _); (rename News _ _ _ _ => lN'); k_dflt (refine in_list_strs ⟨_, (lN' _ (by k_mem)).1, rfl, _, rfl⟩ (by assumption) ?_)))
set_option maxRecDepth 100000 in
set_option maxHeartbeats 8000000 in
theorem c_contains0 : Lw PySem.Challenge.rw_wu0014_01 hd.heap_39 (∀ w mean mg mb news l vs names nn (x : Str) ta , StrsAre vs names → Con PySem.Challenge.pw_wu0014_01 w mean mg mb 1 76 ((l, listOf vs.toArray nn)::news) [.ref l, .str x ta] (RetV ((l, listOf vs.toArray nn)::news) fun t v => v = .bool (names.any (· == x)))) := by
  k_fill
  k_with_none
  w_top off
  unfold Lw
  intro w mean mg mb news l vs names nn x ta hs
  unfold Con
  intros; rename_i hret
  refine wpAny_call ?_
  k_dflt cell_enter
  k_steps
  exact hret (Value.bool _) 0 _ _ rfl (by k_asm) (by k_asm)
local macro_rules | `(tactic| walk_at "call ref") => `(tactic| (k_here; (with_reducible show wpAny _ _ (call (Value.ref 37) [Value.int _ _]) _ _ _); k_dflt (refine' Con.use (Lw.out c_pretty0 _ _ _ _ _ _ _ ?cu0) ?cuB ?cuF ?cuX ?cuN ?cuT ?cuk ?cud ?cuu ?_; (case cu0 => assumption); (case cuB => k_asm); (case cuF => k_asm); (case cuX => k_asm); (case cuN => k_asm); (case cuT => k_asm); (case cuk => first | exact rfl | assumption); (case cud => ktr_room); (case cuu => ktr_units)); intro v9 t9 h9 tk9 e9 F9 N9; subst e9; (try dsimp only); (try k_fold)))
local macro_rules | `(tactic| walk_at "call ref") => `(tactic| (k_here; (with_reducible show wpAny _ _ (call (Value.ref 76) [Value.ref _, Value.str _ _]) _ _ _); k_dflt (refine' Con.use (Lw.out c_contains0 _ _ _ _ _ _ _ _ _ _ _ ?cu0) ?cuB ?cuF ?cuX ?cuN ?cuT ?cuk ?cud ?cuu ?_; (case cuN => k_asm); (case cu0 => assumption); (case cuB => k_asm); (case cuF => k_asm); (case cuX => k_asm); (case cuT => k_asm); (case cuk => first | exact rfl | assumption); (case cud => ktr_room); (case cuu => ktr_units)); intro v9 t9 h9 tk9 e9 F9 N9; subst e9; (try dsimp only); (try k_fold)))
theorem ftext_len {b : Nat} (h : b < 16) : (ftext b).length + 2 ≤ sizeLine := by
  have : ∀ n : Fin 16, (ftext n.val).length + 2 ≤ sizeLine := by decide +kernel
  exact this ⟨b, h⟩
def klow (b : Nat) : Int := if b % 2 = 1 then 2 else if b / 2 % 2 = 1 then 1 else 0
def khigh (b : Nat) : Int := if b / 4 % 2 = 1 then 6 else if b / 8 % 2 = 1 then 3 else 0
def kindOf (b : Nat) : Int := klow b + khigh b
theorem words_facts : ∀ b : Fin 16, ((Txt.split (ftext b.val) (Str.ofString ", ")).any (· == Str.ofString "OPTIMIZED")) = decide (b.val % 2 = 1) ∧ ((Txt.split (ftext b.val) (Str.ofString ", ")).any (· == Str.ofString "NEWLOCALS")) = decide (b.val / 2 % 2 = 1) ∧
    ((Txt.split (ftext b.val) (Str.ofString ", ")).any (· == Str.ofString "VARARGS")) = decide (b.val / 4 % 2 = 1) ∧ ((Txt.split (ftext b.val) (Str.ofString ", ")).any (· == Str.ofString "VARKEYWORDS")) = decide (b.val / 8 % 2 = 1) := by decide +kernel
section
variable {b : Nat} {l : List (Str × Tok)}
theorem kl1 (hb : b < 16) (e : l.map (·.1) = Txt.split (ftext b) (Str.ofString ", ")) (h : ((l.map (·.1)).any fun x => x == Str.ofString "OPTIMIZED") = true) : klow b = 2 := by
  rw [e, (words_facts ⟨b, hb⟩).1] at h
  unfold klow; rw [if_pos (by simpa using h)]
theorem kl2 (hb : b < 16) (e : l.map (·.1) = Txt.split (ftext b) (Str.ofString ", ")) (h : ((l.map (·.1)).any fun x => x == Str.ofString "OPTIMIZED") = false) (h' : ((l.map (·.1)).any fun x => x == Str.ofString "NEWLOCALS") = true) : klow b = 1 := by
  rw [e, (words_facts ⟨b, hb⟩).1] at h
  rw [e, (words_facts ⟨b, hb⟩).2.1] at h'
  unfold klow; rw [if_neg (by simpa using h), if_pos (by simpa using h')]
theorem kl3 (hb : b < 16) (e : l.map (·.1) = Txt.split (ftext b) (Str.ofString ", ")) (h : ((l.map (·.1)).any fun x => x == Str.ofString "OPTIMIZED") = false) (h' : ((l.map (·.1)).any fun x => x == Str.ofString "NEWLOCALS") = false) : klow b = 0 := by
  rw [e, (words_facts ⟨b, hb⟩).1] at h
  rw [e, (words_facts ⟨b, hb⟩).2.1] at h'
  unfold klow; rw [if_neg (by simpa using h), if_neg (by simpa using h')]
theorem kh1 (hb : b < 16) (e : l.map (·.1) = Txt.split (ftext b) (Str.ofString ", ")) (h : ((l.map (·.1)).any fun x => x == Str.ofString "VARARGS") = true) : khigh b = 6 := by
  rw [e, (words_facts ⟨b, hb⟩).2.2.1] at h
  unfold khigh; rw [if_pos (by simpa using h)]
theorem kh2 (hb : b < 16) (e : l.map (·.1) = Txt.split (ftext b) (Str.ofString ", ")) (h : ((l.map (·.1)).any fun x => x == Str.ofString "VARARGS") = false) (h' : ((l.map (·.1)).any fun x => x == Str.ofString "VARKEYWORDS") = true) : khigh b = 3 := by
  rw [e, (words_facts ⟨b, hb⟩).2.2.1] at h
  rw [e, (words_facts ⟨b, hb⟩).2.2.2] at h'
  unfold khigh; rw [if_neg (by simpa using h), if_pos (by simpa using h')]
theorem kh3 (hb : b < 16) (e : l.map (·.1) = Txt.split (ftext b) (Str.ofString ", ")) (h : ((l.map (·.1)).any fun x => x == Str.ofString "VARARGS") = false) (h' : ((l.map (·.1)).any fun x => x == Str.ofString "VARKEYWORDS") = false) : khigh b = 0 := by
  rw [e, (words_facts ⟨b, hb⟩).2.2.1] at h
  rw [e, (words_facts ⟨b, hb⟩).2.2.2] at h'
  unfold khigh; rw [if_neg (by simpa using h), if_neg (by simpa using h')]
theorem kE {lo hi v : Int} (h1 : klow b = lo) (h2 : khigh b = hi) (hv : v = lo + hi) : v = kindOf b := by rw [hv, ← h1, ← h2]; rfl
end
local macro_rules | `(tactic| walk_at "call builtin:str.split") => `(tactic| (k_here; (with_reducible show wpAny _ _ (call (Value.builtin "str.split") _) _ _ _); (refine KSpl.split1 (by k_asm) (by k_asm) (by decide) ?_ (ftext_len (by assumption))); (intro D' l' h' k' e' a' F' N' l1); (try k_lt l1)))
set_option maxRecDepth 100000 in
set_option maxHeartbeats 8000000 in
theorem c_kind0 : Lw PySem.Challenge.rw_wu0014_01 hd.heap_39 (∀ w mean mg mb news (b : Nat) ta, b < 16 → Con PySem.Challenge.pw_wu0014_01 w mean mg mb 2 125 news [.int (b : Int) ta] (RetV news fun t v => v = .int (kindOf b) t)) := by
  k_fill
  k_with_none
  w_top off
  unfold Lw
  intro w mean mg mb news b ta hb
  unfold Con
  intros; rename_i hret
  refine wpAny_call ?_
  k_dflt cell_enter
  k_steps
  all_goals (rename List.map _ _ = _ => e9)
  all_goals (refine hret (Value.int _ _) _ _ _ (congrArg (fun x => Value.int x _) ?_) (by k_asm) (fun p9 h9 => News.right (a := [_]) (by k_asm) p9 h9))
  all_goals (refine kE (b := b) (by first | exact kl1 hb e9 (by assumption) | exact kl2 hb e9 (by assumption) (by assumption) | exact kl3 hb e9 (by assumption) (by assumption)) (by first | exact kh1 hb e9 (by assumption) | exact kh2 hb e9 (by assumption) (by assumption) | exact kh3 hb e9 (by assumption) (by assumption)) (by decide))
end Mine
end

section
open PySem PySem.W PyProof.Rows
namespace Mine
local macro_rules | `(tactic| walk_at "call ref") => `(tactic| (k_here; (with_reducible show wpAny _ _ (call (Value.ref 69) [Value.str _ _]) _ _ _); k_dflt (refine' Con.use (Lw.out c_parse0 _ _ _ _ _ _ _ _ ?cu0) ?cuB ?cuF ?cuX ?cuN ?cuT ?cuk ?cud ?cuu ?_; (case cu0 => assumption); (case cuB => k_asm); (case cuF => k_asm); (case cuX => k_asm); (case cuN => k_asm); (case cuT => k_asm); (case cuk => first | exact rfl | assumption); (case cud => ktr_room); (case cuu => ktr_units)); intro v9 t9 h9 tk9 e9 F9 N9; subst e9; (try dsimp only); (try k_fold)))
set_option maxRecDepth 100000 in
set_option maxHeartbeats 8000000 in
theorem c_safe0 : Lw PySem.Challenge.rw_wu0014_01 hd.heap_39 (∀ w mean mg mb news (c d : Nat) ta tb, LetF c d → Con PySem.Challenge.pw_wu0014_01 w mean mg mb 3 22 news [.str (⟨#[50,53,55,32,34,c,34,34,d,34,32,97,110,100,32,34,34,32,110,111,32,109,111,114,101]⟩) ta, .str (Str.ofString "reply") tb, .ref 69] (RetV news fun t v => v = .str ⟨#[c,34,d]⟩ t)) := by
  k_fill
  k_with_none
  w_top off
  unfold Lw Con
  intros; rename_i hret
  refine wpAny_call ?_
  k_dflt (refine' code_def ?k1 ?k2 ?k3 ?k4 ?k5 ?kA ?kF ?kK ?k6 ?k7 ?k8 ?k9 ?kB ?_ ?c2 ?c3 ?c4 ?c5; (case kA => exact rfl); (case kF => exact rfl); (case kK => assumption); (case k1 => k_asm); (case k2 => k_asm); (case k3 => k_asm); (case k4 => k_asm); (case k5 => k_asm); (case k6 => k_is); (case k7 => k_is); (case k8 => ktr_room); (case k9 => first | exact BindsTo.of_eq rfl | exact binds_K (by k_in) rfl (by k_is) rfl rfl rfl | fail "k_enter: no rule for these arguments"); (case c5 => decide); (case kB => exact locs rfl); (case c2 => exact rfl); (case c3 => exact rfl); (case c4 => exact rfl); k_whole; intro g' L' h' FG' F' N' B' X' T'; (try dsimp only); (try k_lift B'); (try k_fold))
  k_steps
  exact hret (Value.str _ _) _ _ _ rfl (by k_asm) (by k_asm)
end Mine
end

section
open PySem PySem.W PyProof.Rows PySem.Spec
set_option maxRecDepth 100000
namespace Mine
theorem fn_ga : typeLookup (.type "function") "__getattribute__" = pure (some (.builtin "object.__getattribute__")) := by rw [typeLookup_type, builtinLookup_eq_fast]; kernel_rfl
theorem fn_name : typeLookup (.type "function") "__name__" = pure (some (.builtin "function.__name__")) := by rw [typeLookup_type, builtinLookup_eq_fast]; kernel_rfl
theorem fn_name_type : typeOf (.builtin "function.__name__") = pure (.type "getset_descriptor") := by show builtinType _ = _; rw [builtinType_eq_fast]; kernel_rfl
theorem fn_name_entry : entryFor table "function.__name__" = some Builtin.«function.__name__» := entryFor_of_tree (by kernel_rfl)
theorem fn_name_owner : (".".intercalate ("function.__name__".cutAt '.').dropLast) = "function" := by
  have e0 : "function.__name__".cutAt '.' = ["function", "__name__"] := by first | rfl | decide +kernel
  rw [e0]; decide +kernel
theorem fn_name_sub : isSubtype (.type "function") (.type (".".intercalate ("function.__name__".cutAt '.').dropLast)) = pure true := by
  rw [fn_name_owner, isSubtype_type]; kernel_rfl
theorem slot_fn_ga : Slot "function" "__getattribute__" "object.__getattribute__" :=
  .of (owner := "object") (n := "__getattribute__") (by rw [typeLookup_type, builtinLookup_eq_fast]; kernel_rfl) (by decide +kernel) (by decide +kernel) (by decide +kernel)
    (by first | exact .inl (by decide +kernel) | exact .inr (by decide +kernel)) (by rw [isSubtype_type]; kernel_rfl)
theorem obj_ga_entry : entryFor table "object.__getattribute__" = some Builtin.«object.__getattribute__» := entryFor_of_tree (by kernel_rfl)
theorem obj_ga_args (a b : Value) : argsOk "object.__getattribute__" ⟨[a, b], []⟩ := by first | rfl | decide +kernel | kernel_rfl
section
variable {prog : Program} {w : World} {A : Around} {E : Value → Shared → Prop} {h : Heap} {g : Array GenState} {d : Drawn} {t : Nat} {os : OsState} {a : Addr} {o : Obj} {fd : FuncData}
theorem fn_name_get {R : Result → Shared → Prop} (hx : h.get? a = some o) (hc : o.cls = .type "function") (hd : o.data = .func fd) (hz : fd.name.length ≤ sizeLine) (hq : R (.ok (.ret (.str fd.name t))) ⟨h, g, d, t + 1, os⟩) :
    codeAny (model prog w) A (.call (.builtin "getset_descriptor.__get__") ⟨[.builtin "function.__name__", .ref a, .type "function"], []⟩) R ⟨h, g, d, t, os⟩ := by
  have hT : (⟨h, g, d, t, os⟩ : Shared).TypeIs (.ref a) "function" := ⟨_, hx, hc⟩
  have hT5 : (⟨h, g, d, t, os⟩ : Shared).TypeIs (.builtin "function.__name__") "getset_descriptor" := fn_name_type
  have f8 := fn_name_sub
  refine codeAny_call_builtin F.slot_gs_get.plain F.entry_gs_get (F.slot_gs_get.check _ _ _ _ _ _ _ _ hT5 (F.args_gs_get _ _ _) ?_)
  repeat (any_goals (first | assumption | wp_step))
  refine ⟨Code.quiet_builtin _ (by decide +kernel), codeAny_builtin fn_name_entry ?_⟩
  unfold Builtin.«function.__name__»
  repeat (any_goals (first | assumption | wp_step))
  rw [hd]
  refine wpAny_pure ?_
  unfold retStr
  first
    | exact wpAny_bind (wpAny_bind (wpAny_mkStr (wpAny_pure (wpAny_pure hq)) hz))
    | exact wpAny_bind (wpAny_mkStr (wpAny_pure hq) hz)
    | exact wpAny_bind (wpAny_bind (wpAny_mkStr (wpAny_pure hq) hz))
theorem fn_name_ga {Q : Fin → Shared → Prop} {tk : Tok} (hx : h.get? a = some o) (hc : o.cls = .type "function") (hd : o.data = .func fd) (hz : fd.name.length ≤ sizeLine) (hq : Q (.done (.ret (.str fd.name t))) ⟨h, g, d, t + 1, os⟩) :
    wpAny (model prog w) A (Builtin.«object.__getattribute__» ⟨[.ref a, .str "__name__" tk], []⟩) Q E ⟨h, g, d, t, os⟩ := by
  have hT : (⟨h, g, d, t, os⟩ : Shared).TypeIs (.ref a) "function" := ⟨_, hx, hc⟩
  have hT5 : (⟨h, g, d, t, os⟩ : Shared).TypeIs (.builtin "function.__name__") "getset_descriptor" := fn_name_type
  have f4 := fn_name
  have f5 := fn_name_type
  have f6 := F.slot_gs_get.lookup
  have f7 := F.slot_gs_set.lookup
  repeat (any_goals (first | assumption | wp_step))
  refine fn_name_get hx hc hd hz ?_
  repeat (any_goals (first | assumption | wp_step))
theorem fn_name_call {R : Result → Shared → Prop} {tk : Tok} (hx : h.get? a = some o) (hc : o.cls = .type "function") (hd : o.data = .func fd) (hz : fd.name.length ≤ sizeLine) (hq : R (.ok (.ret (.str fd.name t))) ⟨h, g, d, t + 1, os⟩) :
    codeAny (model prog w) A (.call (.builtin "object.__getattribute__") ⟨[.ref a, .str "__name__" tk], []⟩) R ⟨h, g, d, t, os⟩ :=
  codeAny_call_builtin slot_fn_ga.plain obj_ga_entry (slot_fn_ga.check _ _ _ _ _ _ _ _ (show (⟨h, g, d, t, os⟩ : Shared).TypeIs (.ref a) "function" from ⟨_, hx, hc⟩) (obj_ga_args _ _) (fn_name_ga hx hc hd hz hq))
theorem fn_name_attr {expr : Bool} {Q : Value → Shared → Prop} (hx : h.get? a = some o) (hc : o.cls = .type "function") (hd : o.data = .func fd) (hz : fd.name.length ≤ sizeLine) (hq : ∀ t' k, Q (.str fd.name t') ⟨h, g, d, k, os⟩) : wpAny (model prog w) A (getAttr (.ref a) "__name__" expr) Q E ⟨h, g, d, t, os⟩ := by
  have hT : ∀ k, (⟨h, g, d, k, os⟩ : Shared).TypeIs (.ref a) "function" := fun k => ⟨_, hx, hc⟩
  have f2 := slot_fn_ga.lookup
  have f3 := slot_fn_ga.bind (.ref a)
  repeat (any_goals (first | assumption | exact hT _ | wp_step))
  rw [hc, f2]
  refine wpAny_pure ?_
  have e9 : ((expr && onTheHeap (Value.builtin "object.__getattribute__")) = true) = False := by simp [onTheHeap]
  have e8 : (onTheHeap (Value.type "function") && Value.builtin "object.__getattribute__" == Value.builtin "object.__getattribute__") = false := rfl
  dsimp only
  rw [e8, if_neg (by decide)]
  unfold getAttrByItsOwn callGetattribute
  repeat (any_goals (first | assumption | exact hT _ | wp_step))
  refine fn_name_call hx hc hd hz ?_
  exact wpAny_pure (hq _ _)
end
theorem fn_name_K {prog : Program} {w : World} {A : Around} {E : Value → Shared → Prop} {s : Shared} {K : Frag} {h₀ : Heap} {L a : Addr} {m : Str → Option Value} {fd : FuncData} {od : Option Addr} {sl : Array (Option Value)} {expr : Bool} {Q : Value → Shared → Prop}
    (F : Fr h₀ L s.heap m) (X₀ : K.In h₀) (hl : K.lookup a = some ⟨.type "function", od, .func fd, sl⟩) (hz : fd.name.length ≤ sizeLine) (hq : ∀ t' k, Q (.str fd.name t') { s with toks := k }) : wpAny (model prog w) A (getAttr (.ref a) "__name__" expr) Q E s :=
  fn_name_attr ((X₀.keeps F.keep) _ _ hl) rfl rfl hz hq
end Mine
end

section
open PySem PySem.W PyProof.Rows
namespace Mine
structure LetF2 (c d : Nat) : Prop where
  one : True
local macro_rules | `(tactic| walk_at "call ref") => `(tactic| (k_here; (with_reducible show wpAny _ _ (call (Value.ref 69) [Value.str _ _]) _ _ _); refine wpAny_call ?_; k_dflt (refine' code_defS ?k1 ?k2 ?k3 ?k4 ?k5 ?XB ?TB ?D ?T0 ?kA ?k6 ?k7 ?k8 ?k9 ?kB ?_ ?cK ?c2 ?c3 ?c4 ?c5; (case kA => exact rfl); (case k2 => k_asm); (case k1 => k_asm); (case XB => assumption); (case TB => assumption); (case D => assumption); (case T0 => first | assumption | exact KtsTurn.refl); (case k3 => k_asm); (case k4 => k_asm); (case k5 => k_asm); (case k6 => k_is); (case k7 => k_is); (case k8 => ktr_room); (case k9 => first | exact binds_K (by k_in) rfl (by k_is) rfl rfl rfl | exact BindsTo.of_eq rfl | fail "kts_go: no rule for these arguments"); (case kB => exact locs rfl); (case cK => first | exact rfl | assumption); (case c2 => exact rfl); (case c3 => exact rfl); (case c4 => exact rfl); (case c5 => decide); k_whole; intro g' L' h' FG' F' N' B' X' T' D'; (try dsimp only); (try k_lift B'); (try k_fold))))
local macro_rules | `(tactic| walk_at "ite") => `(tactic| (k_here; (rename LetF2 _ _ => hL9); first | (refine ite_t9 (by kernel_rfl!) ?_) | (refine ite_f9 (by kernel_rfl!) ?_)))
local macro_rules | `(tactic| walk_at "getAttr") => `(tactic| (k_here; (with_reducible show wpAny _ _ (getAttr (Value.ref _) (PySem.Str.ofString "__name__") _) _ _ _); k_dflt (refine' fn_name_K ?k1 ?k2 ?k3 ?k4 ?_; (case k1 => k_asm); (case k2 => k_asm); (case k3 => k_is); (case k4 => decide +kernel); k_whole); intro _ _; (try dsimp only)))
set_option maxRecDepth 100000 in
set_option maxHeartbeats 8000000 in
theorem c_fail0 : Lw PySem.Challenge.rw_wu0014_01 hd.heap_39 (∀ w mean mg mb news (c d : Nat) ta tb, LetF2 c d → Con1 PySem.Challenge.pw_wu0014_01 w mean mg mb 3 22 news [.str (⟨#[50,53,48,32,34,c,34,34,d,34,32,97,110,100,32,34,34,32,110,111,32,109,111,114,101]⟩) ta, .str (Str.ofString "reply") tb, .ref 69] (RetV news fun t v => v = .str (Str.ofString "<reply parse257() failed>") t)) := by
  k_fill
  k_with_none
  w_top off
  unfold Lw Con1
  intros; rename_i hret
  refine wpAny_call ?_
  k_dflt (refine' code_defS0 ?k1 ?k2 ?k3 ?k4 ?k5 ?kA ?k6 ?k7 ?k8 ?k9 ?kB ?_ ?cK ?c2 ?c3 ?c4 ?c5; (case kA => exact rfl); (case k2 => k_asm); (case k1 => k_asm); (case k3 => k_asm); (case k4 => k_asm); (case k5 => k_asm); (case k6 => k_is); (case k7 => k_is); (case k8 => ktr_room); (case k9 => first | exact binds_K (by k_in) rfl (by k_is) rfl rfl rfl | exact BindsTo.of_eq rfl | fail "kts_go: no rule for these arguments"); (case kB => exact locs rfl); (case cK => first | exact rfl | assumption); (case c2 => exact rfl); (case c3 => exact rfl); (case c4 => exact rfl); (case c5 => decide); k_whole; intro g' L' h' FG' F' N' B' X' T' D'; (try dsimp only); (try k_lift B'); (try k_fold))
  k_steps
  refine hret (Value.str _ _) _ _ _ (congrArg (fun x => Value.str x _) ?e9) (by k_asm) (by k_asm)
  kernel_rfl!
end Mine
end

section
open PySem PySem.W PyProof.Rows
namespace Mine
def nameS (p : Nat × Nat) : Str := ⟨#[p.1, 34, p.2]⟩
theorem strs_get {vs : List Value} {names : List Str} (h : StrsAre vs names) : ∀ {i : Nat} {v : Value}, vs[i]? = some v → ∃ y t, names[i]? = some y ∧ v = .str y t := by
  induction h with
  | nil => intro i v hv; simp at hv
  | cons y t _ ih =>
    intro i v hv
    cases i with
    | zero => simp at hv; exact ⟨y, t, by simp, hv.symm⟩
    | succ i => simp at hv; simpa using ih hv
/-- the state of a loop that turns one list of ints at the ledger's head -/
def WJ (wl : Addr) (rest : List (Addr × Obj)) (x : Str) (stored : List Str) (m₀ : Str → Option Value) (P : List Int → Prop) : (Str → Option Value) → List (Addr × Obj) → Prop :=
  KstS (σ := List Value × List Int × Nat) (fun c => (wl, listOf c.1.toArray c.2.2) :: rest) (fun _ => []) (fun c => IntsAre c.1 c.2.1) x stored m₀ (fun _ c => P c.2.1) []
section
variable {prog : Program} {w : World} {A : Around} {E : Value → Shared → Prop} {s : Shared} {env : Env} {h₀ : Heap} {x : Str} {body : List Stmt} {Q : Flow → Shared → Prop}
theorem loop_w {l wl : Addr} {vs ws₀ : List Value} {w₀ : List Int} {ps : List (Nat × Nat)} {nn n₀ : Nat} {m₀ : Str → Option Value} {rest : List (Addr × Obj)} (stored : List Str) (P : Nat → List Int → Prop)
    (hh : A.handled = none) (hl : (l, listOf vs.toArray nn) ∈ rest) (hs : StrsAre vs (ps.map nameS)) (F : Fr h₀ env.locals s.heap m₀) (N : News h₀ env.locals s.heap ((wl, listOf ws₀.toArray n₀) :: rest)) (hw : IntsAre ws₀ w₀) (hp : P 0 w₀)
    (turn : ∀ i p ws (v : List Int) n t (u : Str → Option Value) h tk own, ps[i]? = some p → OwnOff own (wl :: rest.map (·.1)) → IntsAre ws v → P i v →
      Fr h₀ env.locals h (fun y => if y = x then some (.str ⟨#[p.1, 34, p.2]⟩ t) else if stored.contains y then u y else m₀ y) → News h₀ env.locals h ((wl, listOf ws.toArray n) :: (rest ++ own)) →
      wpAny (model prog w) A (execs body env) (InvPostN h₀ env.locals (WJ wl rest x stored m₀ (P (i + 1))) own (wl :: rest.map (·.1)) { s with heap := h, toks := tk } Q) E { s with heap := h, toks := tk })
    (done : ∀ ws (v : List Int) n (u : Str → Option Value) h tk, IntsAre ws v → P ps.length v → Fr h₀ env.locals h (fun y => if y = x then u y else if stored.contains y then u y else m₀ y) → News h₀ env.locals h ((wl, listOf ws.toArray n) :: rest) → Q .next { s with heap := h, toks := tk }) :
    wpAny (model prog w) A (pyIter (.ref l)) (fun it s₂ => LoopAtV prog w A h₀ env x body Q E it s₂) E s := by
  have hlen : vs.length = ps.length := by
    have := StrsAre.length hs
    rwa [List.length_map] at this
  refine kdl_iter (news := (wl, listOf ws₀.toArray n₀) :: rest) (fun i m nx => WJ wl rest x stored m₀ (P i) m nx) hh (List.mem_cons_of_mem _ hl) F N ⟨(ws₀, w₀, n₀), rfl, hw, fun _ hp => (nomatch hp), fun _ _ _ _ => rfl, hp⟩ ?_ ?_
  · rintro i v m₁ nx h tk own hv hoff _ ⟨⟨ws, v', n⟩, rfl, hI, _, h2, hp'⟩ F₁ N₁
    obtain ⟨y, t, hy, rfl⟩ := strs_get hs hv
    rw [List.getElem?_map] at hy
    obtain ⟨p, hpi, rfl⟩ := Option.map_eq_some_iff.mp hy
    refine wpAny_mono (turn i p ws v' n t m₁ h tk own hpi hoff hI hp' (kst_fr (ps := []) (fun _ hp => nomatch hp) h2 F₁) N₁) (fun f s₂ q => ?_) fun _ _ e => e
    have fin : InvEndN h₀ env.locals (WJ wl rest x stored m₀ (P (i + 1))) own (wl :: rest.map (·.1)) { s with heap := h, toks := tk } s₂ →
        InvEndG h₀ env.locals (fun m' nx => (l, listOf vs.toArray nn) ∈ nx ∧ WJ wl rest x stored m₀ (P (i + 1)) m' nx) own { s with heap := h, toks := tk } s₂ := by
      rintro ⟨h', tk', m', news', nx, e, F', N', hn, ho, ha, hm⟩
      refine ⟨h', tk', m', news', nx, e, F', N', hn, ho, ?_, ?_, hm⟩
      · rw [ha]; exact hoff
      · obtain ⟨c, rfl, _⟩ := hm
        exact List.mem_cons_of_mem _ hl
    cases f with
    | ret v => exact q
    | brk => exact q
    | next => exact fin q
    | cont => exact fin q
  · rintro m₁ nx h tk ⟨⟨ws, v', n⟩, rfl, hI, _, h2, hp'⟩ F₁ N₁
    rw [hlen] at hp'
    exact done ws v' n m₁ h tk hI hp' (kst_frOut (ps := []) (fun _ hp => nomatch hp) h2 F₁) N₁
theorem sub_first {value slice : PySem.Expr} {c e d : Nat} {t u : Tok} {Q : Value → Shared → Prop} (h : ∀ t' k, Q (.str ⟨#[c]⟩ t') { s with toks := k })
    (hs : subscripted slice false (.str ⟨#[c, e, d]⟩ t) (.int 0 u) = operate [.str ⟨#[c, e, d]⟩ t, .int 0 u] (getItem (.str ⟨#[c, e, d]⟩ t) (.int 0 u)) := by with_unfolding_all rfl)
    (ht : ∀ r, letTemporaryGo value (.str ⟨#[c, e, d]⟩ t) r = pure () := by intro _; with_unfolding_all rfl) :
    wpAny (model prog w) A (subscriptTail value slice (.str ⟨#[c, e, d]⟩ t) (.int 0 u)) Q E s :=
  KXi.item (n := 3) rfl (by decide) (by decide) (by decide) (fun _ => h _ _) hs ht
theorem sub_last {value slice : PySem.Expr} {c e d : Nat} {t u : Tok} {Q : Value → Shared → Prop} (h : ∀ t' k, Q (.str ⟨#[d]⟩ t') { s with toks := k })
    (hs : subscripted slice false (.str ⟨#[c, e, d]⟩ t) (.int 2 u) = operate [.str ⟨#[c, e, d]⟩ t, .int 2 u] (getItem (.str ⟨#[c, e, d]⟩ t) (.int 2 u)) := by with_unfolding_all rfl)
    (ht : ∀ r, letTemporaryGo value (.str ⟨#[c, e, d]⟩ t) r = pure () := by intro _; with_unfolding_all rfl) :
    wpAny (model prog w) A (subscriptTail value slice (.str ⟨#[c, e, d]⟩ t) (.int 2 u)) Q E s :=
  KXi.item (n := 3) rfl (by decide) (by decide) (by decide) (fun _ => h _ _) hs ht
end
theorem costOf_three (c d : Nat) : costOf c d = 0 ∨ costOf c d = 1 ∨ costOf c d = 2 := by
  unfold costOf; split
  · exact .inl rfl
  · split
    · exact .inr (.inl rfl)
    · exact .inr (.inr rfl)
def price (k : Int) : List Int := if k = 0 then [1, 1, 2] else if k = 1 then [1, 1, -2] else [1, -1, 0]
end Mine
end

section
open PySem PySem.W PyProof.Rows
namespace Mine
def stepK (a b : List Int) (w : List Int) (k : Int) : List Int := w.set k.toNat (w.getD k.toNat 0 + a.getD (k.fmod 3).toNat 0 * b.getD (k.fdiv 3).toNat 0)
def addPrice (p : Nat × Nat) (w : List Int) (q : Nat × Nat) : List Int := (rangeKs 0 9).foldl (stepK (price (costOf p.1 q.1)) (price (costOf p.2 q.2))) w
def zeros9 : List Int := List.replicate 9 0
@[irreducible] def byPairs (ps : List (Nat × Nat)) : List Int := ps.foldl (fun w p => ps.foldl (addPrice p) w) zeros9
theorem step9_start {v : List Int} {a b : List Int} (h : v.length = 9) : v.length = 9 ∧ v = [].foldl (stepK a b) v := ⟨h, rfl⟩
theorem step9 {v v' : List Int} {pre : List Int} {k : Int} {a b : List Int} (h : v.length = 9) (e : v = pre.foldl (stepK a b) v') : (stepK a b v k).length = 9 ∧ stepK a b v k = (pre ++ [k]).foldl (stepK a b) v' := by
  refine ⟨by simp [stepK, h], ?_⟩
  rw [List.foldl_append, ← e]; rfl
theorem inner_end {ps : List (Nat × Nat)} {p q : Nat × Nat} {i : Nat} {v v' v'' : List Int} {x0 x1 x2 y0 y1 y2 : Int} (hq : ps[i]? = some q) (h1 : price (costOf p.1 q.1) = [x0, x1, x2]) (h2 : price (costOf p.2 q.2) = [y0, y1, y2])
    (hv : v' = (ps.take i).foldl (addPrice p) v) (hl : v''.length = 9) (e : v'' = (rangeKs 0 ((9 - 0 : Int)).toNat).foldl (stepK [x0, x1, x2] [y0, y1, y2]) v') : v''.length = 9 ∧ v'' = (ps.take (i + 1)).foldl (addPrice p) v := by
  refine ⟨hl, ?_⟩
  rw [List.take_add_one, hq, List.foldl_append, ← hv, e, ← h1, ← h2]
  rfl
theorem outer_end {ps : List (Nat × Nat)} {p : Nat × Nat} {i : Nat} {v v' z : List Int} (hq : ps[i]? = some p)
    (hv : v = (ps.take i).foldl (fun w p => ps.foldl (addPrice p) w) z) (hl : v'.length = 9) (e : v' = (ps.take ps.length).foldl (addPrice p) v) : v'.length = 9 ∧ v' = (ps.take (i + 1)).foldl (fun w p => ps.foldl (addPrice p) w) z := by
  refine ⟨hl, ?_⟩
  rw [List.take_length] at e
  rw [List.take_add_one, hq, List.foldl_append, ← hv, e]
  rfl
structure PMark : Prop where
  one : True
set_option maxRecDepth 100000 in
theorem cost_shown (c d : Nat) : -(2 ^ 1920 : Int) < costOf c d ∧ costOf c d < 2 ^ 1920 := by
  have h : (2 : Int) < 2 ^ 1920 := by decide +kernel
  rcases costOf_three c d with e | e | e <;> rw [e] <;> constructor <;> omega
theorem str_call {prog : Program} {w : World} {A : Around} {E : Value → Shared → Prop} {s : Shared} {c d : Nat} {t : Tok} {Q : Value → Shared → Prop} (h : ∀ t' k, Q (.str (Str.ofString (toString (costOf c d))) t') { s with toks := k }) : wpAny (model prog w) A (call (.type "str") [.int (costOf c d) t]) Q E s :=
  P.str_of_int (shown (N := 2 ^ 1920) (cost_shown c d).1 (cost_shown c d).2 (Int.le_refl _)) (h _ _)
theorem price_get {prog : Program} {w : World} {A : Around} {E : Value → Shared → Prop} {s : Shared} {h₀ : Heap} {L : Addr} {nx : List (Addr × Obj)} {c d : Nat} {t : Tok} {Q : Value → Shared → Prop} {di wl p0 p1 p2 : Addr} {df : Value} {a0 a1 a2 b0 b1 b2 e0 e1 e2 : Tok} {n0 n1 n2 : Nat}
    (_N : News h₀ L s.heap nx) (h0 : (p0, listOf #[.int 1 a0, .int 1 a1, .int 2 a2] n0) ∈ nx) (h1 : (p1, listOf #[.int 1 b0, .int 1 b1, .int (-2) b2] n1) ∈ nx) (h2 : (p2, listOf #[.int 1 e0, .int (-1) e1, .int 0 e2] n2) ∈ nx)
    (ne0 : @Ne Nat p0 wl) (ne1 : @Ne Nat p1 wl) (ne2 : @Ne Nat p2 wl)
    (c0 : wpAny (model prog w) A (call (.builtin "dict.get") [.ref di, .str (Str.ofString "0") t, df]) (fun v s' => v = .ref p0 ∧ ∃ k, s' = { s with toks := k }) E s)
    (c1 : wpAny (model prog w) A (call (.builtin "dict.get") [.ref di, .str (Str.ofString "1") t, df]) (fun v s' => v = .ref p1 ∧ ∃ k, s' = { s with toks := k }) E s)
    (c2 : wpAny (model prog w) A (call (.builtin "dict.get") [.ref di, .str (Str.ofString "2") t, df]) (fun v s' => v = .ref p2 ∧ ∃ k, s' = { s with toks := k }) E s)
    (key : ∀ r x0 x1 x2 y0 y1 y2 nr k, price (costOf c d) = [x0, x1, x2] → (-2 ≤ x0 ∧ x0 ≤ 2) → (-2 ≤ x1 ∧ x1 ≤ 2) → (-2 ≤ x2 ∧ x2 ≤ 2) → @Ne Nat r wl → (r, listOf #[.int x0 y0, .int x1 y1, .int x2 y2] nr) ∈ nx → Q (.ref r) { s with toks := k }) :
    wpAny (model prog w) A (call (.builtin "dict.get") [.ref di, .str (Str.ofString (toString (costOf c d))) t, df]) Q E s := by
  rcases costOf_three c d with e | e | e <;> rw [e] at key ⊢
  · rw [show Str.ofString (toString (0 : Int)) = Str.ofString "0" from by decide +kernel]
    refine wpAny_mono c0 (fun v s' p => ?_) fun _ _ e => e
    obtain ⟨rfl, k, rfl⟩ := p
    exact key _ _ _ _ _ _ _ _ _ rfl (by decide) (by decide) (by decide) ne0 h0
  · rw [show Str.ofString (toString (1 : Int)) = Str.ofString "1" from by decide +kernel]
    refine wpAny_mono c1 (fun v s' p => ?_) fun _ _ e => e
    obtain ⟨rfl, k, rfl⟩ := p
    exact key _ _ _ _ _ _ _ _ _ rfl (by decide) (by decide) (by decide) ne1 h1
  · rw [show Str.ofString (toString (2 : Int)) = Str.ofString "2" from by decide +kernel]
    refine wpAny_mono c2 (fun v s' p => ?_) fun _ _ e => e
    obtain ⟨rfl, k, rfl⟩ := p
    exact key _ _ _ _ _ _ _ _ _ rfl (by decide) (by decide) (by decide) ne2 h2
theorem head_addr {h₀ h : Heap} {L a : Addr} {o : Obj} {rest : List (Addr × Obj)} (_ : News h₀ L h ((a, o) :: rest)) : ∃ x : Addr, x = a := ⟨a, rfl⟩
theorem news_cons {h₀ h : Heap} {L : Addr} {nx : List (Addr × Obj)} {p : Addr × Obj} (N : News h₀ L h nx) (hp : p ∈ nx) : News h₀ L h (p :: nx) := fun q hq => (List.mem_cons.mp hq).elim (fun e => e ▸ N p hp) (N q)
local macro_rules | `(tactic| walk_at "InvEndN") => `(tactic| ((with_reducible show InvEndN _ _ (WJ _ _ _ _ _ _) _ _ _ _); unfold WJ; kst_close))
local macro_rules | `(tactic| walk_at "exec For Name Name cons nil") => `(tactic| (k_here; (rename PMark => hPM); (rename Fr _ _ _ _ => lF'); (with_unfolding_all refine' For_invVF lF' ?k1 ?k2 ?_; (case k1 => exact rfl); (case k2 => exact rfl); k_whole)))
local macro_rules | `(tactic| walk_at "subscriptTail Name Constant str int") => `(tactic| (k_here; first | (refine sub_first ?_; intro _ _) | (refine sub_last ?_; intro _ _)))
local macro_rules | `(tactic| walk_at "call type:str") => `(tactic| (k_here; (with_reducible show wpAny _ _ (call (Value.type "str") [Value.int (costOf _ _) _]) _ _ _); refine str_call ?_; intro _ _))
local macro_rules | `(tactic| walk_at "call ref") => `(tactic| (k_here; (with_reducible show wpAny _ _ (call (Value.ref 29) [Value.str _ _, Value.str _ _]) _ _ _); k_dflt (refine' Con.use (Lw.out c_cost0 _ _ _ _ _ _ _ _ _ ?cu0 ?cu1) ?cuB ?cuF ?cuX ?cuN ?cuT ?cuk ?cud ?cuu ?_; (case cu0 => assumption); (case cu1 => assumption); (case cuB => k_asm); (case cuF => k_asm); (case cuX => k_asm); (case cuN => k_asm); (case cuT => k_asm); (case cuk => first | exact rfl | assumption); (case cud => ktr_room); (case cuu => ktr_units)); intro v9 t9 h9 tk9 e9 F9 N9; subst e9; (try dsimp only); (try k_fold)))
set_option maxRecDepth 100000 in
set_option maxHeartbeats 8000000 in
theorem c_pairs0 : Lw PySem.Challenge.rw_wu0014_01 hd.heap_39 (∀ w mean mg mb news l vs nn (ps : List (Nat × Nat)), StrsAre vs (ps.map nameS) → (∀ p ∈ ps, IsLet p.1 ∧ IsLet p.2) → ps.length ≤ 6 → Con PySem.Challenge.pw_wu0014_01 w mean mg mb 2 137 ((l, listOf vs.toArray nn)::news) [.ref l] (RetL ((l, listOf vs.toArray nn)::news) (byPairs ps))) := by
  k_fill
  k_with_none
  w_top off
  unfold Lw
  intro w mean mg mb news l vs nn ps hs hps hlen
  unfold Con
  intros; rename_i hret
  have hPM : PMark := ⟨trivial⟩
  refine wpAny_call ?_
  k_dflt cell_enter
  k_steps
  have kMark9 := kstMark
  rename Fr _ _ _ _ => lF'; rename News _ _ _ _ => lN'
  obtain ⟨D9, hD9⟩ := head_addr lN'
  subst hD9
  k_dflt (refine loop_w (w₀ := zeros9) [Str.ofString "other", Str.ofString "near", Str.ofString "far", Str.ofString "kind"] (fun i v => v.length = 9 ∧ v = (ps.take i).foldl (fun w p => ps.foldl (addPrice p) w) zeros9) (by rfl) (by k_mem) hs lF' lN' ?_ ⟨rfl, rfl⟩ ?_ ?_)
  · first | assumption | (show IntsAre [_, _, _, _, _, _, _, _, _] [0, 0, 0, 0, 0, 0, 0, 0, 0]; exact .cons _ _ (.cons _ _ (.cons _ _ (.cons _ _ (.cons _ _ (.cons _ _ (.cons _ _ (.cons _ _ (.cons _ _ .nil)))))))))
  · intro i p ws v n t u h tk own hpi hoff hI hP F9 N9
    obtain ⟨hl9, hv9⟩ := hP
    obtain ⟨hp1, hp2⟩ := hps p (List.mem_of_getElem? hpi)
    simp only [List.cons_append, List.nil_append] at N9
    simp only [List.map_cons] at hoff
    (try k_fold)
    k_steps
    rename Fr _ _ _ _ => mF'; rename News _ _ _ _ => mN'
    k_dflt (refine loop_w (w₀ := v) [Str.ofString "near", Str.ofString "far", Str.ofString "kind"] (fun i v' => v'.length = 9 ∧ v' = (ps.take i).foldl (addPrice p) v) (by rfl) (by k_mem) hs mF' mN' hI ⟨hl9, rfl⟩ ?_ ?_)
    · intro i' q ws' v' n' t' u' h' tk' own' hpi' hoff' hI' hP' F8 N8
      obtain ⟨hl8, hv8⟩ := hP'
      obtain ⟨hq1, hq2⟩ := hps q (List.mem_of_getElem? hpi')
      simp only [List.cons_append, List.nil_append] at N8
      simp only [List.map_cons] at hoff'
      (try k_fold)
      k_steps
      rename News _ _ _ _ => gN'
      k_dflt (refine price_get (wl := D9) gN' (by k_mem) (by k_mem) (by k_mem) (by k_ne) (by k_ne) (by k_ne) ?_ ?_ ?_ (fun r x0 x1 x2 y0 y1 y2 nr k hr0 hx0 hx1 hx2 hrne hrm => ?_))
      · walk1; exact ⟨rfl, _, rfl⟩
      · walk1; exact ⟨rfl, _, rfl⟩
      · walk1; exact ⟨rfl, _, rfl⟩
      have qN' := news_cons gN' hrm
      clear gN' hrm
      k_steps
      rename News _ _ _ _ => gN'
      k_dflt (refine price_get (wl := D9) gN' (by k_mem) (by k_mem) (by k_mem) (by k_ne) (by k_ne) (by k_ne) ?_ ?_ ?_ (fun r' x0' x1' x2' y0' y1' y2' nr' k' hr0' hx0' hx1' hx2' hrne' hrm' => ?_))
      · walk1; exact ⟨rfl, _, rfl⟩
      · walk1; exact ⟨rfl, _, rfl⟩
      · walk1; exact ⟨rfl, _, rfl⟩
      have qN' := news_cons gN' hrm'
      clear gN' hrm'
      (k_with "pyIter ref" => k_state (fun pre w => w.length = 9 ∧ w = pre.foldl (stepK [x0, x1, x2] [x0', x1', x2']) v') "worth")
      (k_with "state" => (first | exact step9_start (by assumption) | exact step9 (by assumption) (by assumption) | exact inner_end hpi' hr0 hr0' hv8 (by assumption) (by assumption)))
      k_steps
    · intro ws' v' n' u' h' tk' hI' hP' F8 N8
      obtain ⟨hl8, hv8⟩ := hP'
      (k_with "state" => exact outer_end hpi hv9 hl8 hv8)
      (try k_fold)
      k_steps
  · intro ws v n u h tk hI hP F9 N9
    obtain ⟨hl9, hv9⟩ := hP
    (try k_fold)
    k_steps
    rename _ ∧ _ ∧ _ ∧ _ ∧ _ ∧ _ ∧ AllLt _ _ => q9
    have e9 : v = byPairs ps := by
      rw [List.take_length] at hv9
      rw [hv9]; unfold byPairs; rfl
    rw [e9] at hI
    refine hret _ ws n _ _ hI (by k_asm) ?_ (kst_ltOf (l := (l, listOf vs.toArray nn) :: news) q9.2.2.2.2.2)
    refine' cb_drop ?cbN ?cbS
    case cbN => assumption
    case cbS => kcj_all
end Mine
end

section
open PySem PySem.W PyProof.Rows
namespace Mine
theorem cr16 (a0 a1 a2 a3 a4 a5 a6 a7 a8 a9 a10 a11 a12 a13 a14 a15 : Int) : crossed [a0, a1, a2, a3, a4, a5, a6, a7, a8, a9, a10, a11, a12, a13, a14, a15] = [(((a0 + a1) + (a2 + a3)) + ((a4 + a5) + (a6 + a7))) + (((a8 + a9) + (a10 + a11)) + ((a12 + a13) + (a14 + a15))), (((a0 - a1) + (a2 - a3)) + ((a4 - a5) + (a6 - a7))) + (((a8 - a9) + (a10 - a11)) + ((a12 - a13) + (a14 - a15))), (((a0 + a1) - (a2 + a3)) + ((a4 + a5) - (a6 + a7))) + (((a8 + a9) - (a10 + a11)) + ((a12 + a13) - (a14 + a15))), (((a0 - a1) - (a2 - a3)) + ((a4 - a5) - (a6 - a7))) + (((a8 - a9) - (a10 - a11)) + ((a12 - a13) - (a14 - a15))), (((a0 + a1) + (a2 + a3)) - ((a4 + a5) + (a6 + a7))) + (((a8 + a9) + (a10 + a11)) - ((a12 + a13) + (a14 + a15))), (((a0 - a1) + (a2 - a3)) - ((a4 - a5) + (a6 - a7))) + (((a8 - a9) + (a10 - a11)) - ((a12 - a13) + (a14 - a15))), (((a0 + a1) - (a2 + a3)) - ((a4 + a5) - (a6 + a7))) + (((a8 + a9) - (a10 + a11)) - ((a12 + a13) - (a14 + a15))), (((a0 - a1) - (a2 - a3)) - ((a4 - a5) - (a6 - a7))) + (((a8 - a9) - (a10 - a11)) - ((a12 - a13) - (a14 - a15))), (((a0 + a1) + (a2 + a3)) + ((a4 + a5) + (a6 + a7))) - (((a8 + a9) + (a10 + a11)) + ((a12 + a13) + (a14 + a15))), (((a0 - a1) + (a2 - a3)) + ((a4 - a5) + (a6 - a7))) - (((a8 - a9) + (a10 - a11)) + ((a12 - a13) + (a14 - a15))), (((a0 + a1) - (a2 + a3)) + ((a4 + a5) - (a6 + a7))) - (((a8 + a9) - (a10 + a11)) + ((a12 + a13) - (a14 + a15))), (((a0 - a1) - (a2 - a3)) + ((a4 - a5) - (a6 - a7))) - (((a8 - a9) - (a10 - a11)) + ((a12 - a13) - (a14 - a15))), (((a0 + a1) + (a2 + a3)) - ((a4 + a5) + (a6 + a7))) - (((a8 + a9) + (a10 + a11)) - ((a12 + a13) + (a14 + a15))), (((a0 - a1) + (a2 - a3)) - ((a4 - a5) + (a6 - a7))) - (((a8 - a9) + (a10 - a11)) - ((a12 - a13) + (a14 - a15))), (((a0 + a1) - (a2 + a3)) - ((a4 + a5) - (a6 + a7))) - (((a8 + a9) - (a10 + a11)) - ((a12 + a13) - (a14 + a15))), (((a0 - a1) - (a2 - a3)) - ((a4 - a5) - (a6 - a7))) - (((a8 - a9) - (a10 - a11)) - ((a12 - a13) - (a14 - a15)))] := by
  unfold crossed
  kernel_rfl!
theorem list16 {v : List Int} (h : v.length = 16) : ∃ a0 a1 a2 a3 a4 a5 a6 a7 a8 a9 a10 a11 a12 a13 a14 a15, v = [a0, a1, a2, a3, a4, a5, a6, a7, a8, a9, a10, a11, a12, a13, a14, a15] := by
  match v, h with
  | [a0, a1, a2, a3, a4, a5, a6, a7, a8, a9, a10, a11, a12, a13, a14, a15], _ => exact ⟨a0, a1, a2, a3, a4, a5, a6, a7, a8, a9, a10, a11, a12, a13, a14, a15, rfl⟩
theorem cons_eq {a b : Int} {l m : List Int} (h : a = b) (e : l = m) : a :: l = b :: m := by rw [h, e]
theorem crossed_twice {v : List Int} (h : v.length = 16) : crossed (crossed v) = v.map (fun a => 16 * a) := by
  obtain ⟨a0, a1, a2, a3, a4, a5, a6, a7, a8, a9, a10, a11, a12, a13, a14, a15, rfl⟩ := list16 h
  rw [cr16, cr16]
  simp only [List.map_cons, List.map_nil]
  repeat' (first | rfl | refine cons_eq ?_ ?_)
  all_goals grind
end Mine
end

section
open PySem PySem.W PyProof.Rows
namespace Mine
theorem fold_len {α : Type} (f : List Int → α → List Int) (hf : ∀ r k, (f r k).length = r.length) : ∀ (l : List α) (r : List Int), (l.foldl f r).length = r.length
  | [], _ => rfl
  | k :: l, r => by rw [List.foldl_cons, fold_len f hf l, hf]
theorem crossed_length (ns : List Int) : (crossed ns).length = ns.length := by
  unfold crossed
  exact fold_len _ (fun r e => fold_len _ (bf_length _) _ _) _ _
theorem crossed_len {ns : List Int} (h : ns.length = 16) : (crossed ns).length = 16 := by rw [crossed_length, h]
structure QMark : Prop where
  one : True
def fnd (ls : List Nat) (c : Nat) : Int := Txt.find ⟨ls.toArray⟩ ⟨#[c]⟩
def placeOf (ls : List Nat) (p : Nat × Nat) : Int := fnd ls p.1 + 4 * fnd ls p.2
def cstep (ls : List Nat) (v : List Int) (p : Nat × Nat) : List Int := v.set (placeOf ls p).toNat (v.getD (placeOf ls p).toNat 0 + 1)
def zeros16 : List Int := List.replicate 16 0
def InBox (ls : List Nat) (p : Nat × Nat) : Prop := (0 ≤ fnd ls p.1 ∧ fnd ls p.1 ≤ 3) ∧ (0 ≤ fnd ls p.2 ∧ fnd ls p.2 ≤ 3)
theorem cstep_end {ls : List Nat} {ps : List (Nat × Nat)} {p : Nat × Nat} {i : Nat} {v z : List Int} (hq : ps[i]? = some p) (hl : v.length = 16) (hv : v = (ps.take i).foldl (cstep ls) z) : (cstep ls v p).length = 16 ∧ cstep ls v p = (ps.take (i + 1)).foldl (cstep ls) z := by
  refine ⟨by simp [cstep, hl], ?_⟩
  rw [List.take_add_one, hq, List.foldl_append, ← hv]
  rfl
theorem find_call {prog : Program} {w : World} {A : Around} {E : Value → Shared → Prop} {s : Shared} {ls : List Nat} {c : Nat} {t u : Tok} {Q : Value → Shared → Prop} (h : ∀ t' k, Q (.int (fnd ls c) t') { s with toks := k }) : wpAny (model prog w) A (call (.builtin "str.find") [.str ⟨ls.toArray⟩ t, .str ⟨#[c]⟩ u]) Q E s :=
  KXw.find rfl h
def countsOf (ls : List Nat) (ps : List (Nat × Nat)) : List Int := ps.foldl (cstep ls) zeros16
def sqStep (cr : List Int) (w : List Int) (k : Int) : List Int := w.set (kindOf k.toNat).toNat (w.getD (kindOf k.toNat).toNat 0 + cr.getD k.toNat 0 * cr.getD k.toNat 0)
@[irreducible] def squaresOf (ls : List Nat) (ps : List (Nat × Nat)) : List Int := (rangeKs 0 16).foldl (sqStep (crossed (countsOf ls ps))) (List.replicate 9 0)
structure SqOk (cr : List Int) : Prop where
  ok : ∀ i, IntMulOk (cr.getD i 0) (cr.getD i 0)
theorem sq_mul {prog : Program} {w : World} {A : Around} {E : Value → Shared → Prop} {s : Shared} {cr : List Int} {i : Nat} {t u : Tok} {Q : Value → Shared → Prop} (H : SqOk cr) (h : Q (.int (cr.getD i 0 * cr.getD i 0) s.toks) { s with toks := s.toks + 1 }) :
    wpAny (model prog w) A (binaryOp .Mult (.int (cr.getD i 0) t) (.int (cr.getD i 0) u)) Q E s := mul_int h (H.ok i)
theorem ne_false {prog : Program} {w : World} {A : Around} {E : Value → Shared → Prop} {s : Shared} {a b : Addr} {vs us : List Value} {ns ms : List Int} {Q : Value → Shared → Prop} (hl : s.heap.IsList a vs.toArray) (hi : IntsAre vs ns) (hl' : s.heap.IsList b us.toArray) (hi' : IntsAre us ms) (e : ns = ms) (hu : A.units + 64 < cLine)
    (h : Q (.bool false) s) : wpAny (model prog w) A (compareOp .NotEq (.ref a) (.ref b)) Q E s :=
  ne_intsK hl hi hl' hi' hu (by rw [decide_eq_true e]; exact h)
theorem kind_lo : ∀ b : Fin 16, 0 ≤ kindOf b.val ∧ kindOf b.val ≤ 8 := by decide +kernel
theorem kind_bd {k : Int} (h : k < 16) (h0 : 0 ≤ k) : 0 ≤ kindOf k.toNat ∧ kindOf k.toNat ≤ 8 := kind_lo ⟨k.toNat, by omega⟩
theorem kind_bd9 {v : Value} {k : Int} {t : Tok} (_ : v = .int (kindOf k.toNat) t) (h0 : 0 ≤ k) (h : k < 16) : 0 ≤ kindOf k.toNat ∧ kindOf k.toNat ≤ 8 := kind_bd h h0
theorem c_kindI (w : World) (mean : ExcName → Option Value) (mg mb : Str → Option Value) (news : List (Addr × Obj)) (k : Int) (t : Tok) (h0 : 0 ≤ k) (h : k < 16) : Con PySem.Challenge.pw_wu0014_01 w mean mg mb 2 125 news [.int k t] (RetV news fun t v => v = .int (kindOf k.toNat) t) := by
  have := Lw.out c_kind0 w mean mg mb news k.toNat t (by omega)
  rwa [Int.toNat_of_nonneg h0] at this
theorem sq_first {cr : List Int} : ((List.replicate (Int.toNat 9) [(0 : Int)]).flatten).length = 9 ∧ (List.replicate (Int.toNat 9) [(0 : Int)]).flatten = [].foldl (sqStep cr) (List.replicate 9 0) := ⟨rfl, rfl⟩
theorem getD_or (z : List Int) (i : Nat) : z.getD i 0 = 0 ∨ z.getD i 0 ∈ z := by
  rw [List.getD_eq_getElem?_getD]
  cases h : z[i]? with
  | none => exact .inl rfl
  | some a => exact .inr (List.mem_of_getElem? h)
theorem cnt_bd {ls : List Nat} : ∀ {ps : List (Nat × Nat)} {z : List Int} {m : Int}, (∀ x ∈ z, 0 ≤ x ∧ x ≤ m) → 0 ≤ m → ∀ x ∈ ps.foldl (cstep ls) z, 0 ≤ x ∧ x ≤ m + ps.length
  | [], z, m, h, _, x, hx => by have := h x hx; simp; omega
  | p :: ps, z, m, h, hm, x, hx => by
    have := cnt_bd (ls := ls) (ps := ps) (z := cstep ls z p) (m := m + 1) (fun y hy => by
      rcases List.mem_or_eq_of_mem_set hy with hy | rfl
      · have := h y hy; omega
      · rcases getD_or z (placeOf ls p).toNat with e | e
        · rw [e]; omega
        · have := h _ e
          omega) (by omega) x hx
    rw [List.length_cons]; omega
theorem sq_ok {v : List Int} (h : v.length = 16) (hb : ∀ x ∈ v, 0 ≤ x ∧ x ≤ 6) : SqOk (crossed v) := by
  obtain ⟨a0, a1, a2, a3, a4, a5, a6, a7, a8, a9, a10, a11, a12, a13, a14, a15, rfl⟩ := list16 h
  simp only [List.forall_mem_cons] at hb
  obtain ⟨b0, b1, b2, b3, b4, b5, b6, b7, b8, b9, b10, b11, b12, b13, b14, b15, _⟩ := hb
  have hall : ∀ x ∈ crossed [a0, a1, a2, a3, a4, a5, a6, a7, a8, a9, a10, a11, a12, a13, a14, a15], -100 ≤ x ∧ x ≤ 100 := by
    rw [cr16]
    simp only [List.forall_mem_cons]
    refine ⟨?_, ?_, ?_, ?_, ?_, ?_, ?_, ?_, ?_, ?_, ?_, ?_, ?_, ?_, ?_, ?_, List.forall_mem_nil _⟩ <;> omega
  refine ⟨fun i => IntMulOk.of_left ?_⟩
  rcases getD_or (crossed [a0, a1, a2, a3, a4, a5, a6, a7, a8, a9, a10, a11, a12, a13, a14, a15]) i with e | e
  · rw [e]; decide
  · have := hall _ e
    exact PySem.intBits_le_64 (by omega) (by omega)
theorem sq_start {cr v : List Int} (h : v.length = 9) : v.length = 9 ∧ v = [].foldl (sqStep cr) v := ⟨h, rfl⟩
theorem sq_step {cr v z pre : List Int} {k : Int} (h : v.length = 9) (e : v = pre.foldl (sqStep cr) z) : (sqStep cr v k).length = 9 ∧ sqStep cr v k = (pre ++ [k]).foldl (sqStep cr) z := by
  refine ⟨by simp [sqStep, h], ?_⟩
  rw [List.foldl_append, ← e]; rfl

theorem ints_to {ws : List Value} {a b : List Int} (e : a = b) (h : IntsAre ws a) : IntsAre ws b := e ▸ h
theorem squares_end {ls : List Nat} {ps : List (Nat × Nat)} {v out : List Int} (hv : v = (ps.take ps.length).foldl (cstep ls) zeros16) (h : out = (rangeKs 0 ((16 - 0 : Int)).toNat).foldl (sqStep (crossed v)) (List.replicate 9 0)) : out = squaresOf ls ps := by
  rw [List.take_length] at hv
  unfold squaresOf countsOf
  rw [h, hv]; rfl
theorem news_pick {h₀ h : Heap} {L : Addr} {p : Addr × Obj} {rest tgt : List (Addr × Obj)} (N : News h₀ L h (p :: rest)) (hs : ∀ q ∈ tgt, q ∈ rest) : News h₀ L h (p :: tgt) := fun q hq => by
  rcases List.mem_cons.mp hq with e | hq
  · exact N q (e ▸ List.mem_cons_self ..)
  · exact N q (List.mem_cons_of_mem _ (hs q hq))
end Mine
end

section
open PySem PySem.W PyProof.Rows
namespace Mine
local macro_rules | `(tactic| walk_at "exec For Name Name cons nil") => `(tactic| (k_here; (rename QMark => hPM); (rename Fr _ _ _ _ => lF'); (with_unfolding_all refine' For_invVF lF' ?k1 ?k2 ?_; (case k1 => exact rfl); (case k2 => exact rfl); k_whole)))
local macro_rules | `(tactic| walk_at "subscriptTail Name Constant str int") => `(tactic| (k_here; first | (refine sub_first ?_; intro _ _) | (refine sub_last ?_; intro _ _)))
local macro_rules | `(tactic| walk_at "InvEndN") => `(tactic| ((with_reducible show InvEndN _ _ (WJ _ _ _ _ _ _) _ _ _ _); unfold WJ; kst_close))
local macro_rules | `(tactic| walk_at "call") => `(tactic| (k_here; (show wpAny _ _ (call (Value.builtin "str.find") [Value.str _ _, Value.str _ _]) _ _ _); refine find_call ?_; intro _ _))
local macro_rules | `(tactic| walk_at "call ref") => `(tactic| (k_here; (with_reducible show wpAny _ _ (call (Value.ref 83) [Value.int _ _, Value.int _ _]) _ _ _); k_dflt (refine' Con.use (Lw.out c_iadd0 _ _ _ _ _ _ _ _ _) ?cuB ?cuF ?cuX ?cuN ?cuT ?cuk ?cud ?cuu ?_; (case cuB => k_asm); (case cuF => k_asm); (case cuX => k_asm); (case cuN => k_asm); (case cuT => k_asm); (case cuk => first | exact rfl | assumption); (case cud => ktr_room); (case cuu => ktr_units)); intro v9 t9 h9 tk9 e9 F9 N9; subst e9; (try dsimp only); (try k_fold)))
local macro_rules | `(tactic| walk_at "call ref") => `(tactic| (k_here; (with_reducible show wpAny _ _ (call (Value.ref 118) [Value.ref _]) _ _ _); k_dflt (refine' Con.use (Lw.out c_crossed0 _ _ _ _ _ _ _ _ _ ?cu0 ?cu1) ?cuB ?cuF ?cuX ?cuN ?cuT ?cuk ?cud ?cuu ?_; (case cuN => k_asm); (case cu0 => assumption); (case cu1 => assumption); (case cuB => k_asm); (case cuF => k_asm); (case cuX => k_asm); (case cuT => k_asm); (case cuk => first | exact rfl | assumption); (case cud => ktr_room); (case cuu => ktr_units)); intro r9 ws9 nn9 h9 tk9 hI9 F9 N9 lt9; (have hL9 := crossed_len (by assumption)); (try k_lt lt9); (try dsimp only); (try k_fold)))
local macro_rules | `(tactic| walk_at "binaryOp Mult int int") => `(tactic| (k_here; (rename SqOk _ => hSq); refine sq_mul hSq ?_))
local macro_rules | `(tactic| walk_at "call ref") => `(tactic| (k_here; (with_reducible show wpAny _ _ (call (Value.ref 125) [Value.int _ _]) _ _ _); k_dflt (refine' Con.use (c_kindI _ _ _ _ _ _ _ ?cu0 ?cu1) ?cuB ?cuF ?cuX ?cuN ?cuT ?cuk ?cud ?cuu ?_; (case cu0 => omega); (case cu1 => omega); (case cuB => k_asm); (case cuF => k_asm); (case cuX => k_asm); (case cuN => k_asm); (case cuT => k_asm); (case cuk => first | exact rfl | assumption); (case cud => ktr_room); (case cuu => ktr_units)); intro v9 t9 h9 tk9 e9 F9 N9; (have hkb9 := kind_bd9 e9 (by omega) (by omega)); subst e9; (try dsimp only); (try k_fold)))
local macro_rules | `(tactic| walk_at "compareOp NotEq ref ref") => `(tactic| (k_here; (with_reducible show wpAny _ _ (compareOp CmpOp.NotEq (Value.ref _) (Value.ref _)) _ _ _); (rename CarriedAll _ _ => hC9); (have hC8 := CarriedAll.intsOf hC9); (simp only [filter_tt] at hC8); k_dflt (refine' ne_false ?l1 ?l2 ?l3 hC8 (crossed_twice (by assumption)) ?l5 ?_; (case l1 => is_list); (case l3 => is_list); (case l2 => assumption); (case l5 => units_room))))
set_option maxRecDepth 100000 in
set_option maxHeartbeats 8000000 in
theorem c_squares0 : Lw PySem.Challenge.rw_wu0014_01 hd.heap_39 (∀ w mean mg mb news l vs nn (ps : List (Nat × Nat)) (ls : List Nat) tl, StrsAre vs (ps.map nameS) → (∀ p ∈ ps, InBox ls p) → ps.length ≤ 6 → Con PySem.Challenge.pw_wu0014_01 w mean mg mb 12 130 ((l, listOf vs.toArray nn)::news) [.ref l, .str ⟨ls.toArray⟩ tl] (RetL ((l, listOf vs.toArray nn)::news) (squaresOf ls ps))) := by
  k_fill
  k_with_none
  w_top off
  unfold Lw
  intro w mean mg mb news l vs nn ps ls tl hs hps hlen
  unfold Con
  intros; rename_i hret
  have hPM : QMark := ⟨trivial⟩
  refine wpAny_call ?_
  k_dflt cell_enter
  k_steps
  have kMark9 := kstMark
  rename Fr _ _ _ _ => lF'; rename News _ _ _ _ => lN'
  k_dflt (refine loop_w (w₀ := zeros16) [Str.ofString "place"] (fun i v => v.length = 16 ∧ v = (ps.take i).foldl (cstep ls) zeros16) (by rfl) (by k_mem) hs lF' lN' ?_ ⟨rfl, rfl⟩ ?_ ?_)
  · first | assumption | (show IntsAre [_, _, _, _, _, _, _, _, _, _, _, _, _, _, _, _] [0, 0, 0, 0, 0, 0, 0, 0, 0, 0, 0, 0, 0, 0, 0, 0]; exact .cons _ _ (.cons _ _ (.cons _ _ (.cons _ _ (.cons _ _ (.cons _ _ (.cons _ _ (.cons _ _ (.cons _ _ (.cons _ _ (.cons _ _ (.cons _ _ (.cons _ _ (.cons _ _ (.cons _ _ (.cons _ _ .nil))))))))))))))))
  · intro i p ws v n t u h tk own hpi hoff hI hP F9 N9
    obtain ⟨hl9, hv9⟩ := hP
    have hp := hps p (List.mem_of_getElem? hpi)
    obtain ⟨⟨hp1, hp2⟩, hp3, hp4⟩ := hp
    unfold fnd at hp1 hp2 hp3 hp4
    simp only [List.cons_append] at N9
    simp only [List.map_cons] at hoff
    (k_with "state" => exact cstep_end hpi hl9 hv9)
    (try k_fold)
    k_steps
  · intro ws v n u h tk hI hP F9 N9
    obtain ⟨hl9, hv9⟩ := hP
    (try k_fold)
    (k_with "pyIter ref" => fail)
    have hSq : SqOk (crossed v) := sq_ok hl9 (by
      rw [List.take_length] at hv9
      rw [hv9]
      intro x hx
      have := cnt_bd (m := 0) (fun x hx => by rw [List.eq_of_mem_replicate hx]; omega) (by omega) x hx
      omega)
    iterate 67 (first | walk1 | (dsimp only; walk1))
    (k_with "state" => (first | exact ⟨rfl, rfl⟩ | exact sq_step (by assumption) (by assumption)))
    k_state (fun pre w => w.length = 9 ∧ w = pre.foldl (sqStep (crossed v)) (List.replicate 9 0)) "squares"
    · k_steps
    · k_steps
      rename _ ∧ _ ∧ _ ∧ _ ∧ _ ∧ _ ∧ AllLt _ _ => q9
      rename _ = List.foldl (sqStep _) _ _ => hR9
      have hE9 := squares_end hv9 hR9
      rename News _ _ _ _ => N9'
      refine hret _ _ _ _ _ (ints_to hE9 (by assumption)) (by k_asm) (news_pick N9' ?_) (kst_ltOf (l := (l, listOf vs.toArray nn) :: news) q9.2.2.2.2.2)
      kcj_all
end Mine
end

section
open PySem PySem.W PyProof.Rows Builtin Builtin.Str
namespace Mine
theorem occ3 {c d : Nat} (hc : c ≠ 34) (hd : d ≠ 34) : occurrences (⟨#[c, 34, d]⟩ : PySem.Str) ⟨#[34]⟩ 0 3 4 = [1] := by
  have h0 : subAt (⟨#[c, 34, d]⟩ : PySem.Str) ⟨#[34]⟩ 0 = false := by simp [subAt, PySem.Str.length, hc]
  have h1 : subAt (⟨#[c, 34, d]⟩ : PySem.Str) ⟨#[34]⟩ 1 = true := by simp [subAt, PySem.Str.length]
  have h2 : subAt (⟨#[c, 34, d]⟩ : PySem.Str) ⟨#[34]⟩ 2 = false := by simp [subAt, PySem.Str.length, hd]
  unfold occurrences
  simp [h0, h1, h2, PySem.Str.length, List.range']
theorem repl3 {c d : Nat} (hc : c ≠ 34) (hd : d ≠ 34) : Txt.replace (⟨#[c, 34, d]⟩ : PySem.Str) ⟨#[34]⟩ ⟨#[34, 34]⟩ = ⟨#[c, 34, 34, d]⟩ := by
  unfold Txt.replace
  show (if ((occurrences (⟨#[c, 34, d]⟩ : PySem.Str) ⟨#[34]⟩ 0 3 4).isEmpty || _) = true then _ else glued _ (partsBetween _ (occurrences (⟨#[c, 34, d]⟩ : PySem.Str) ⟨#[34]⟩ 0 3 4) _)) = _
  rw [occ3 hc hd]
  rfl
theorem find4 {a b c d e : Nat} (i : Nat) (h0 : (i = 0 ∧ e = a) ∨ (i = 1 ∧ e = b ∧ e ≠ a) ∨ (i = 2 ∧ e = c ∧ e ≠ a ∧ e ≠ b) ∨ (i = 3 ∧ e = d ∧ e ≠ a ∧ e ≠ b ∧ e ≠ c)) : Txt.find (⟨#[a, b, c, d]⟩ : PySem.Str) ⟨#[e]⟩ = (i : Int) := by
  have s0 : subAt (⟨#[a, b, c, d]⟩ : PySem.Str) ⟨#[e]⟩ 0 = (a == e) := by simp [subAt, PySem.Str.length]
  have s1 : subAt (⟨#[a, b, c, d]⟩ : PySem.Str) ⟨#[e]⟩ 1 = (b == e) := by simp [subAt, PySem.Str.length]
  have s2 : subAt (⟨#[a, b, c, d]⟩ : PySem.Str) ⟨#[e]⟩ 2 = (c == e) := by simp [subAt, PySem.Str.length]
  have s3 : subAt (⟨#[a, b, c, d]⟩ : PySem.Str) ⟨#[e]⟩ 3 = (d == e) := by simp [subAt, PySem.Str.length]
  have ho : occurrences (⟨#[a, b, c, d]⟩ : PySem.Str) ⟨#[e]⟩ 0 4 1 = [i] := by
    unfold occurrences
    rcases h0 with ⟨rfl, rfl⟩ | ⟨rfl, rfl, h⟩ | ⟨rfl, rfl, h, h'⟩ | ⟨rfl, rfl, h, h', h''⟩ <;> simp [s0, s1, s2, s3, PySem.Str.length, List.range', Ne.symm, *]
  unfold Txt.find
  show (match occurrences (⟨#[a, b, c, d]⟩ : PySem.Str) ⟨#[e]⟩ 0 4 1 with | i :: _ => (i : Int) | [] => -1) = _
  rw [ho]
end Mine
end

section
open PySem PySem.W PyProof.Rows
namespace Mine
structure LF (l0 l1 l2 l3 : Nat) : Prop where
  i0 : IsLet l0
  i1 : IsLet l1
  i2 : IsLet l2
  i3 : IsLet l3
  w01 : lowc l0 = lowc l1
  w23 : lowc l2 = lowc l3
  w02 : lowc l0 ≠ lowc l2
  n01 : l0 ≠ l1
  n23 : l2 ≠ l3
def ltr (l0 l1 l2 l3 : Nat) (k : Nat) : Nat := [l0, l1, l2, l3].getD k 0
theorem LF.ne {l0 l1 l2 l3 : Nat} (H : LF l0 l1 l2 l3) (k : Nat) : ltr l0 l1 l2 l3 k ≠ 34 := by
  have h0 := H.i0; have h1 := H.i1; have h2 := H.i2; have h3 := H.i3
  unfold IsLet at h0 h1 h2 h3
  unfold ltr
  match k with
  | 0 => show l0 ≠ 34; omega
  | 1 => show l1 ≠ 34; omega
  | 2 => show l2 ≠ 34; omega
  | 3 => show l3 ≠ 34; omega
  | k + 4 => show (0 : Nat) ≠ 34; decide
theorem letters_ex (a : Int) : ∃ l0 l1 l2 l3, LF l0 l1 l2 l3 ∧ (⟨#[(97 + a.fmod 26).toNat, (65 + a.fmod 26).toNat, (97 + (a.fmod 26 + 1 + (a.fdiv 26).fmod 25).fmod 26).toNat, (65 + (a.fmod 26 + 1 + (a.fdiv 26).fmod 25).fmod 26).toNat]⟩ : Str) = ⟨#[l0, l1, l2, l3]⟩ := by
  refine ⟨_, _, _, _, ?_, rfl⟩
  have h1 : 0 ≤ a.fmod 26 := Int.fmod_nonneg_of_pos a (by decide)
  have h2 : a.fmod 26 < 26 := Int.fmod_lt_of_pos a (by decide)
  have h3 : 0 ≤ (a.fdiv 26).fmod 25 := Int.fmod_nonneg_of_pos _ (by decide)
  have h4 : (a.fdiv 26).fmod 25 < 25 := Int.fmod_lt_of_pos _ (by decide)
  have h5 : 0 ≤ (a.fmod 26 + 1 + (a.fdiv 26).fmod 25).fmod 26 := Int.fmod_nonneg_of_pos _ (by decide)
  have h6 : (a.fmod 26 + 1 + (a.fdiv 26).fmod 25).fmod 26 < 26 := Int.fmod_lt_of_pos _ (by decide)
  have h7 : (a.fmod 26 + 1 + (a.fdiv 26).fmod 25).fmod 26 ≠ a.fmod 26 := by
    rw [Int.fmod_eq_emod_of_nonneg _ (by decide)]
    omega
  generalize a.fmod 26 = s at *
  generalize (s + 1 + (a.fdiv 26).fmod 25).fmod 26 = o at *
  constructor <;> (try unfold IsLet) <;> (try unfold lowc) <;> first | omega | ((repeat' split) <;> omega)
theorem c_lettersX (w : World) (mean : ExcName → Option Value) (mg mb : Str → Option Value) (news : List (Addr × Obj)) (a : Int) (ta : Tok) : Con PySem.Challenge.pw_wu0014_01 w mean mg mb 1 111 news [.int a ta] (RetV news fun t v => ∃ l0 l1 l2 l3, LF l0 l1 l2 l3 ∧ v = .str ⟨#[l0, l1, l2, l3]⟩ t) := by
  intro dp un gd cn cs ad ccd cl outer A₀ base h₀ L m s Q E B F X N T hk hdp hun ret
  refine Lw.out c_letters0 w mean mg mb news a ta dp un gd cn cs ad ccd cl outer A₀ base h₀ L m s Q E B F X N T hk hdp hun ?_
  intro v t h' tk' e F' N'
  obtain ⟨l0, l1, l2, l3, hL, eL⟩ := letters_ex a
  exact ret v t h' tk' ⟨l0, l1, l2, l3, hL, by rw [e, eL]⟩ F' N'
def nmOf (l0 l1 l2 l3 : Nat) (x : Int) : Nat × Nat := (ltr l0 l1 l2 l3 (x.fmod 4).toNat, ltr l0 l1 l2 l3 ((x.fdiv 4).fmod 4).toNat)
def failT : Str := Str.ofString "<reply parse257() failed>"
def toldOf (l0 l1 l2 l3 : Nat) (x : Int) : Str := if (x.fdiv 16).fmod 3 = 2 then failT else nameS (nmOf l0 l1 l2 l3 x)
section
variable {prog : Program} {w : World} {A : Around} {E : Value → Shared → Prop} {s : Shared} {value slice : PySem.Expr} {l0 l1 l2 l3 : Nat} {t u : Tok} {Q : Value → Shared → Prop}
theorem item4 {i : Int} (h0 : 0 ≤ i) (h1 : i < 4) : Txt.item (⟨#[l0, l1, l2, l3]⟩ : Str) i = ⟨#[ltr l0 l1 l2 l3 i.toNat]⟩ := by
  have : i = 0 ∨ i = 1 ∨ i = 2 ∨ i = 3 := by omega
  rcases this with rfl | rfl | rfl | rfl <;> rfl
theorem sub4 {x : Int} (h : ∀ t' k, Q (.str ⟨#[ltr l0 l1 l2 l3 (x.fmod 4).toNat]⟩ t') { s with toks := k })
    (hs : subscripted slice false (.str ⟨#[l0, l1, l2, l3]⟩ t) (.int (x.fmod 4) u) = operate [.str ⟨#[l0, l1, l2, l3]⟩ t, .int (x.fmod 4) u] (getItem (.str ⟨#[l0, l1, l2, l3]⟩ t) (.int (x.fmod 4) u)) := by with_unfolding_all rfl)
    (ht : ∀ r, letTemporaryGo value (.str ⟨#[l0, l1, l2, l3]⟩ t) r = pure () := by intro _; with_unfolding_all rfl) :
    wpAny (model prog w) A (subscriptTail value slice (.str ⟨#[l0, l1, l2, l3]⟩ t) (.int (x.fmod 4) u)) Q E s := by
  have h0 : 0 ≤ x.fmod 4 := Int.fmod_nonneg_of_pos x (by decide)
  have h1 : x.fmod 4 < 4 := Int.fmod_lt_of_pos x (by decide)
  exact KXi.item (n := 4) rfl (by omega) (by omega) (by decide) (fun _ => by rw [item4 h0 h1]; exact h _ _) hs ht
theorem add_lit {x y z : Str} (e : x ++ y = z) (hz : x.length + y.length ≤ 1000) (h : ∀ t' k, Q (.str z t') { s with toks := k }) : wpAny (model prog w) A (binaryOp .Add (.str x t) (.str y u)) Q E s :=
  SBL.add (fun t' c _ => by rw [e]; exact h t' c) (by rw [sizeLine_eq]; omega)
theorem add_q {c : Nat} (h : ∀ t' k, Q (.str ⟨#[c, 34]⟩ t') { s with toks := k }) : wpAny (model prog w) A (binaryOp .Add (.str ⟨#[c]⟩ t) (.str (Str.ofString "\"") u)) Q E s :=
  add_lit (by kernel_rfl!) (Nat.le_of_ble_eq_true (by kernel_rfl!)) h
theorem add_qd {c d : Nat} (h : ∀ t' k, Q (.str ⟨#[c, 34, d]⟩ t') { s with toks := k }) : wpAny (model prog w) A (binaryOp .Add (.str ⟨#[c, 34]⟩ t) (.str ⟨#[d]⟩ u)) Q E s :=
  add_lit (by kernel_rfl!) (Nat.le_of_ble_eq_true (by kernel_rfl!)) h
theorem tail_lit : Str.ofString "\" and \"\" no more" = ⟨#[34,32,97,110,100,32,34,34,32,110,111,32,109,111,114,101]⟩ := by decide +kernel
theorem add_tail {c d : Nat} (h : ∀ t' k, Q (.str ⟨#[c,34,34,d,34,32,97,110,100,32,34,34,32,110,111,32,109,111,114,101]⟩ t') { s with toks := k }) : wpAny (model prog w) A (binaryOp .Add (.str ⟨#[c, 34, 34, d]⟩ t) (.str (Str.ofString "\" and \"\" no more") u)) Q E s :=
  add_lit (by kernel_rfl!) (Nat.le_of_ble_eq_true (by kernel_rfl!)) h
theorem add_257 {c d : Nat} (h : ∀ t' k, Q (.str ⟨#[50,53,55,32,34,c,34,34,d,34,32,97,110,100,32,34,34,32,110,111,32,109,111,114,101]⟩ t') { s with toks := k }) : wpAny (model prog w) A (binaryOp .Add (.str (Str.ofString "257 \"") t) (.str ⟨#[c,34,34,d,34,32,97,110,100,32,34,34,32,110,111,32,109,111,114,101]⟩ u)) Q E s :=
  add_lit (by kernel_rfl!) (Nat.le_of_ble_eq_true (by kernel_rfl!)) h
theorem add_250 {c d : Nat} (h : ∀ t' k, Q (.str ⟨#[50,53,48,32,34,c,34,34,d,34,32,97,110,100,32,34,34,32,110,111,32,109,111,114,101]⟩ t') { s with toks := k }) : wpAny (model prog w) A (binaryOp .Add (.str (Str.ofString "250 \"") t) (.str ⟨#[c,34,34,d,34,32,97,110,100,32,34,34,32,110,111,32,109,111,114,101]⟩ u)) Q E s :=
  add_lit (by kernel_rfl!) (Nat.le_of_ble_eq_true (by kernel_rfl!)) h
theorem repl_call {c d : Nat} {t1 t2 t3 : Tok} (hu : t2 ≠ 0) (hv : t3 ≠ 0) (huv : t2 ≠ t3) (hc : c ≠ 34) (hd : d ≠ 34) (h : ∀ t' k, Q (.str ⟨#[c, 34, 34, d]⟩ t') { s with toks := k }) :
    wpAny (model prog w) A (call (.builtin "str.replace") [.str ⟨#[c, 34, d]⟩ t1, .str (Str.ofString "\"") t2, .str (Str.ofString "\"\"") t3]) Q E s := by
  rw [show Str.ofString "\"" = ⟨#[34]⟩ from by decide +kernel, show Str.ofString "\"\"" = ⟨#[34, 34]⟩ from by decide +kernel]
  exact SC.replaceW hu hv huv (by decide) (by show 3 ≤ 1048576; decide) (by decide) (fun t' k => by rw [repl3 hc hd]; exact h t' k)
end
end Mine
end

section
open PySem PySem.W PyProof.Rows PyProof.V PySem.Spec PySem.SeqAt PySem.Calls
namespace Mine
theorem readsAll_of_strs {h : Heap} : ∀ {vs : List Value} {ys : List Str}, StrsAre vs ys → ReadsAll h vs (ys.map PyData.str) []
  | _, _, .nil => .nil
  | _, _, .cons y t r => by
    have := ReadsAll.cons (Reads.str (h := h) y t) (readsAll_of_strs (h := h) r)
    simpa using this
theorem reads_of_strs {h : Heap} {a : Addr} {vs : List Value} {ys : List Str} (hl : h.IsList a vs.toArray) (hi : StrsAre vs ys) : Reads h (.ref a) (.list (ys.map PyData.str)) [a] := by
  obtain ⟨o, ho, hc, n, hd⟩ := hl
  exact Reads.list ho hc hd (by simpa using readsAll_of_strs hi)
theorem canLayAll0_strs : ∀ ys : List Str, (∀ y ∈ ys, PyData.strOk y = true) → PyData.canLayAll0 (ys.map PyData.str) = true
  | [], _ => by simp [PyData.canLayAll0]
  | y :: r, h => by simp [PyData.canLayAll0, PyData.canLay0, canLayAll0_strs r (fun z hz => h z (List.mem_cons_of_mem _ hz)), h y (List.mem_cons_self ..)]
theorem depthAll_strs : ∀ ys : List Str, PyData.depthAll (ys.map PyData.str) ≤ 1
  | [] => by simp [PyData.depthAll]
  | y :: r => by
    have := depthAll_strs r
    simp only [List.map_cons, PyData.depthAll, PyData.depth]
    omega
theorem shaped_strs (ys : List Str) (hok : ∀ y ∈ ys, PyData.strOk y = true) : shaped (.list (ys.map PyData.str)) = true := by
  have h1 := depthAll_strs ys
  have h2 : PyData.depth (.list (ys.map PyData.str)) ≤ 64 := by simp only [PyData.depth]; omega
  show (PyData.canLay0 (.list (ys.map PyData.str)) && decide (PyData.depth (.list (ys.map PyData.str)) ≤ 64)) = true
  rw [Bool.and_eq_true]
  exact ⟨by simp only [PyData.canLay0]; exact canLayAll0_strs ys hok, decide_eq_true h2⟩
theorem noMix_strs : ∀ ys zs : List Str, noMixAll (ys.map PyData.str) (zs.map PyData.str) = true
  | [], [] => by simp [noMixAll]
  | [], _ :: _ => by simp [noMixAll]
  | _ :: _, [] => by simp [noMixAll]
  | _ :: r, _ :: q => by simp [noMixAll, noMix, noMix_strs r q]
theorem same_strs : ∀ ys : List Str, PySem.Spec.sameAll (ys.map PyData.str) (ys.map PyData.str) = true
  | [] => by simp [PySem.Spec.sameAll]
  | y :: r => by simp [PySem.Spec.sameAll, PySem.Spec.same, same_strs r]
section
variable {prog : Program} {w : World} {A : Around} {E : Value → Shared → Prop} {s : Shared}
theorem ne_texts {a b : Addr} {vs us : List Value} {ys zs : List Str} {Q : Value → Shared → Prop} (hl : s.heap.IsList a vs.toArray) (hi : StrsAre vs ys) (hl' : s.heap.IsList b us.toArray) (hi' : StrsAre us zs) (e : ys = zs) (hok : ∀ y ∈ ys, PyData.strOk y = true) (hu : A.units + 64 < cLine)
    (h : Q (.bool false) s) : wpAny (model prog w) A (compareOp .NotEq (.ref a) (.ref b)) Q E s := by
  subst e
  exact ne_dataH_same (reads_of_strs hl hi) (reads_of_strs hl' hi') (shaped_strs ys hok) (shaped_strs ys hok) hu (by simp only [noMix]; exact noMix_strs ys ys) (by simp only [PySem.Spec.same]; rw [same_strs]; exact h)
end
end Mine
end

section
open PySem PySem.W PyProof.Rows
namespace Mine
def hrows : List (List Int) := [[1, 1, 1, 1, 1, 1, 1, 1, 1, 1, 1, 1, 1, 1, 1, 1],
  [1, -1, 1, -1, 1, -1, 1, -1, 1, -1, 1, -1, 1, -1, 1, -1],
  [1, 1, -1, -1, 1, 1, -1, -1, 1, 1, -1, -1, 1, 1, -1, -1],
  [1, -1, -1, 1, 1, -1, -1, 1, 1, -1, -1, 1, 1, -1, -1, 1],
  [1, 1, 1, 1, -1, -1, -1, -1, 1, 1, 1, 1, -1, -1, -1, -1],
  [1, -1, 1, -1, -1, 1, -1, 1, 1, -1, 1, -1, -1, 1, -1, 1],
  [1, 1, -1, -1, -1, -1, 1, 1, 1, 1, -1, -1, -1, -1, 1, 1],
  [1, -1, -1, 1, -1, 1, 1, -1, 1, -1, -1, 1, -1, 1, 1, -1],
  [1, 1, 1, 1, 1, 1, 1, 1, -1, -1, -1, -1, -1, -1, -1, -1],
  [1, -1, 1, -1, 1, -1, 1, -1, -1, 1, -1, 1, -1, 1, -1, 1],
  [1, 1, -1, -1, 1, 1, -1, -1, -1, -1, 1, 1, -1, -1, 1, 1],
  [1, -1, -1, 1, 1, -1, -1, 1, -1, 1, 1, -1, -1, 1, 1, -1],
  [1, 1, 1, 1, -1, -1, -1, -1, -1, -1, -1, -1, 1, 1, 1, 1],
  [1, -1, 1, -1, -1, 1, -1, 1, -1, 1, -1, 1, 1, -1, 1, -1],
  [1, 1, -1, -1, -1, -1, 1, 1, -1, -1, 1, 1, 1, 1, -1, -1],
  [1, -1, -1, 1, -1, 1, 1, -1, -1, 1, 1, -1, 1, -1, -1, 1]]
def hrow (b : Nat) : List Int := hrows.getD b []
def dot : List Int → List Int → Int
  | a :: h, b :: v => a * b + dot h v
  | _, _ => 0
theorem crossed_dot {v : List Int} (hv : v.length = 16) (b : Fin 16) : (crossed v).getD b.val 0 = dot (hrow b.val) v := by
  obtain ⟨a0, a1, a2, a3, a4, a5, a6, a7, a8, a9, a10, a11, a12, a13, a14, a15, rfl⟩ := list16 hv
  rw [cr16]
  match b with
  | ⟨0, _⟩ => show (((a0 + a1) + (a2 + a3)) + ((a4 + a5) + (a6 + a7))) + (((a8 + a9) + (a10 + a11)) + ((a12 + a13) + (a14 + a15))) = dot [1, 1, 1, 1, 1, 1, 1, 1, 1, 1, 1, 1, 1, 1, 1, 1] [a0, a1, a2, a3, a4, a5, a6, a7, a8, a9, a10, a11, a12, a13, a14, a15]; simp only [dot]; omega
  | ⟨1, _⟩ => show (((a0 - a1) + (a2 - a3)) + ((a4 - a5) + (a6 - a7))) + (((a8 - a9) + (a10 - a11)) + ((a12 - a13) + (a14 - a15))) = dot [1, -1, 1, -1, 1, -1, 1, -1, 1, -1, 1, -1, 1, -1, 1, -1] [a0, a1, a2, a3, a4, a5, a6, a7, a8, a9, a10, a11, a12, a13, a14, a15]; simp only [dot]; omega
  | ⟨2, _⟩ => show (((a0 + a1) - (a2 + a3)) + ((a4 + a5) - (a6 + a7))) + (((a8 + a9) - (a10 + a11)) + ((a12 + a13) - (a14 + a15))) = dot [1, 1, -1, -1, 1, 1, -1, -1, 1, 1, -1, -1, 1, 1, -1, -1] [a0, a1, a2, a3, a4, a5, a6, a7, a8, a9, a10, a11, a12, a13, a14, a15]; simp only [dot]; omega
  | ⟨3, _⟩ => show (((a0 - a1) - (a2 - a3)) + ((a4 - a5) - (a6 - a7))) + (((a8 - a9) - (a10 - a11)) + ((a12 - a13) - (a14 - a15))) = dot [1, -1, -1, 1, 1, -1, -1, 1, 1, -1, -1, 1, 1, -1, -1, 1] [a0, a1, a2, a3, a4, a5, a6, a7, a8, a9, a10, a11, a12, a13, a14, a15]; simp only [dot]; omega
  | ⟨4, _⟩ => show (((a0 + a1) + (a2 + a3)) - ((a4 + a5) + (a6 + a7))) + (((a8 + a9) + (a10 + a11)) - ((a12 + a13) + (a14 + a15))) = dot [1, 1, 1, 1, -1, -1, -1, -1, 1, 1, 1, 1, -1, -1, -1, -1] [a0, a1, a2, a3, a4, a5, a6, a7, a8, a9, a10, a11, a12, a13, a14, a15]; simp only [dot]; omega
  | ⟨5, _⟩ => show (((a0 - a1) + (a2 - a3)) - ((a4 - a5) + (a6 - a7))) + (((a8 - a9) + (a10 - a11)) - ((a12 - a13) + (a14 - a15))) = dot [1, -1, 1, -1, -1, 1, -1, 1, 1, -1, 1, -1, -1, 1, -1, 1] [a0, a1, a2, a3, a4, a5, a6, a7, a8, a9, a10, a11, a12, a13, a14, a15]; simp only [dot]; omega
  | ⟨6, _⟩ => show (((a0 + a1) - (a2 + a3)) - ((a4 + a5) - (a6 + a7))) + (((a8 + a9) - (a10 + a11)) - ((a12 + a13) - (a14 + a15))) = dot [1, 1, -1, -1, -1, -1, 1, 1, 1, 1, -1, -1, -1, -1, 1, 1] [a0, a1, a2, a3, a4, a5, a6, a7, a8, a9, a10, a11, a12, a13, a14, a15]; simp only [dot]; omega
  | ⟨7, _⟩ => show (((a0 - a1) - (a2 - a3)) - ((a4 - a5) - (a6 - a7))) + (((a8 - a9) - (a10 - a11)) - ((a12 - a13) - (a14 - a15))) = dot [1, -1, -1, 1, -1, 1, 1, -1, 1, -1, -1, 1, -1, 1, 1, -1] [a0, a1, a2, a3, a4, a5, a6, a7, a8, a9, a10, a11, a12, a13, a14, a15]; simp only [dot]; omega
  | ⟨8, _⟩ => show (((a0 + a1) + (a2 + a3)) + ((a4 + a5) + (a6 + a7))) - (((a8 + a9) + (a10 + a11)) + ((a12 + a13) + (a14 + a15))) = dot [1, 1, 1, 1, 1, 1, 1, 1, -1, -1, -1, -1, -1, -1, -1, -1] [a0, a1, a2, a3, a4, a5, a6, a7, a8, a9, a10, a11, a12, a13, a14, a15]; simp only [dot]; omega
  | ⟨9, _⟩ => show (((a0 - a1) + (a2 - a3)) + ((a4 - a5) + (a6 - a7))) - (((a8 - a9) + (a10 - a11)) + ((a12 - a13) + (a14 - a15))) = dot [1, -1, 1, -1, 1, -1, 1, -1, -1, 1, -1, 1, -1, 1, -1, 1] [a0, a1, a2, a3, a4, a5, a6, a7, a8, a9, a10, a11, a12, a13, a14, a15]; simp only [dot]; omega
  | ⟨10, _⟩ => show (((a0 + a1) - (a2 + a3)) + ((a4 + a5) - (a6 + a7))) - (((a8 + a9) - (a10 + a11)) + ((a12 + a13) - (a14 + a15))) = dot [1, 1, -1, -1, 1, 1, -1, -1, -1, -1, 1, 1, -1, -1, 1, 1] [a0, a1, a2, a3, a4, a5, a6, a7, a8, a9, a10, a11, a12, a13, a14, a15]; simp only [dot]; omega
  | ⟨11, _⟩ => show (((a0 - a1) - (a2 - a3)) + ((a4 - a5) - (a6 - a7))) - (((a8 - a9) - (a10 - a11)) + ((a12 - a13) - (a14 - a15))) = dot [1, -1, -1, 1, 1, -1, -1, 1, -1, 1, 1, -1, -1, 1, 1, -1] [a0, a1, a2, a3, a4, a5, a6, a7, a8, a9, a10, a11, a12, a13, a14, a15]; simp only [dot]; omega
  | ⟨12, _⟩ => show (((a0 + a1) + (a2 + a3)) - ((a4 + a5) + (a6 + a7))) - (((a8 + a9) + (a10 + a11)) - ((a12 + a13) + (a14 + a15))) = dot [1, 1, 1, 1, -1, -1, -1, -1, -1, -1, -1, -1, 1, 1, 1, 1] [a0, a1, a2, a3, a4, a5, a6, a7, a8, a9, a10, a11, a12, a13, a14, a15]; simp only [dot]; omega
  | ⟨13, _⟩ => show (((a0 - a1) + (a2 - a3)) - ((a4 - a5) + (a6 - a7))) - (((a8 - a9) + (a10 - a11)) - ((a12 - a13) + (a14 - a15))) = dot [1, -1, 1, -1, -1, 1, -1, 1, -1, 1, -1, 1, 1, -1, 1, -1] [a0, a1, a2, a3, a4, a5, a6, a7, a8, a9, a10, a11, a12, a13, a14, a15]; simp only [dot]; omega
  | ⟨14, _⟩ => show (((a0 + a1) - (a2 + a3)) - ((a4 + a5) - (a6 + a7))) - (((a8 + a9) - (a10 + a11)) - ((a12 + a13) - (a14 + a15))) = dot [1, 1, -1, -1, -1, -1, 1, 1, -1, -1, 1, 1, 1, 1, -1, -1] [a0, a1, a2, a3, a4, a5, a6, a7, a8, a9, a10, a11, a12, a13, a14, a15]; simp only [dot]; omega
  | ⟨15, _⟩ => show (((a0 - a1) - (a2 - a3)) - ((a4 - a5) - (a6 - a7))) - (((a8 - a9) - (a10 - a11)) - ((a12 - a13) - (a14 - a15))) = dot [1, -1, -1, 1, -1, 1, 1, -1, -1, 1, 1, -1, 1, -1, -1, 1] [a0, a1, a2, a3, a4, a5, a6, a7, a8, a9, a10, a11, a12, a13, a14, a15]; simp only [dot]; omega
  | ⟨k + 16, hk⟩ => exact absurd hk (by omega)
theorem dot_set : ∀ (h v : List Int) (k : Nat), h.length = v.length → k < v.length → dot h (v.set k (v.getD k 0 + 1)) = dot h v + h.getD k 0
  | [], [], _, _, hk => by simp at hk
  | [], _ :: _, _, e, _ => by simp at e
  | _ :: _, [], _, e, _ => by simp at e
  | a :: h, b :: v, 0, _, _ => by
    show a * (b + 1) + dot h v = a * b + dot h v + a
    rw [Int.mul_add]; omega
  | a :: h, b :: v, k + 1, e, hk => by
    have := dot_set h v k (by simpa using e) (by simpa using hk)
    show a * b + dot h (v.set k (v.getD k 0 + 1)) = a * b + dot h v + h.getD k 0
    rw [this]; omega
def S {α : Type} (f : α → Int) : List α → Int
  | [] => 0
  | k :: l => f k + S f l
section
variable {α β : Type}
theorem S_zero : ∀ l : List α, S (fun _ => 0) l = 0
  | [] => rfl
  | _ :: l => by show 0 + S _ l = 0; rw [S_zero l]; rfl
theorem S_add (f g : α → Int) : ∀ l : List α, S (fun k => f k + g k) l = S f l + S g l
  | [] => rfl
  | k :: l => by show f k + g k + S _ l = f k + S f l + (g k + S g l); rw [S_add f g l]; omega
theorem S_mulr (f : α → Int) (c : Int) : ∀ l : List α, S f l * c = S (fun k => f k * c) l
  | [] => by show (0 : Int) * c = 0; rw [Int.zero_mul]
  | k :: l => by show (f k + S f l) * c = f k * c + S _ l; rw [Int.add_mul, S_mulr f c l]
theorem S_mull (f : α → Int) (c : Int) (l : List α) : c * S f l = S (fun k => c * f k) l := by
  rw [Int.mul_comm, S_mulr]; simp only [Int.mul_comm]
theorem S_mul (f : α → Int) (g : β → Int) (l : List α) (m : List β) : S f l * S g m = S (fun k => S (fun q => f k * g q) m) l := by
  rw [S_mulr]; simp only [S_mull]
theorem S_congr {f g : α → Int} : ∀ {l : List α}, (∀ k ∈ l, f k = g k) → S f l = S g l
  | [], _ => rfl
  | k :: l, h => by show f k + S f l = g k + S g l; rw [h k (List.mem_cons_self ..), S_congr fun q hq => h q (List.mem_cons_of_mem _ hq)]
theorem S_swap (f : α → β → Int) (m : List β) : ∀ l : List α, S (fun a => S (fun b => f a b) m) l = S (fun b => S (fun a => f a b) l) m
  | [] => (S_zero m).symm
  | k :: l => by
    show S _ m + S _ l = S (fun b => f k b + S (fun a => f a b) l) m
    rw [S_add, S_swap f m l]
def addAt (w : List Int) (i : Nat) (x : Int) : List Int := w.set i (w.getD i 0 + x)
theorem addAt_len (w : List Int) (i : Nat) (x : Int) : (addAt w i x).length = w.length := by simp [addAt]
theorem addAt_getD {w : List Int} {i κ : Nat} {x : Int} (hκ : κ < w.length) : (addAt w i x).getD κ 0 = w.getD κ 0 + if i = κ then x else 0 := by
  unfold addAt
  simp only [List.getD_eq_getElem?_getD, List.getElem?_set]
  by_cases h : i = κ
  · subst h; simp [hκ]
  · simp [h]
theorem fold_len' (g : α → Nat) (x : α → Int) : ∀ (l : List α) (w : List Int), (l.foldl (fun w k => addAt w (g k) (x k)) w).length = w.length
  | [], _ => rfl
  | k :: l, w => by rw [List.foldl_cons, fold_len' g x l, addAt_len]
theorem fold_getD (g : α → Nat) (x : α → Int) {κ : Nat} : ∀ (l : List α) (w : List Int), κ < w.length → (l.foldl (fun w k => addAt w (g k) (x k)) w).getD κ 0 = w.getD κ 0 + S (fun k => if g k = κ then x k else 0) l
  | [], w, _ => by show _ = _ + (0 : Int); rw [Int.add_zero]; rfl
  | k :: l, w, h => by
    rw [List.foldl_cons, fold_getD g x l _ (by rw [addAt_len]; exact h), addAt_getD h]
    show _ = _ + ((if g k = κ then x k else 0) + S _ l)
    omega
theorem ext9 {l m : List Int} (hl : l.length = 9) (hm : m.length = 9) (h : ∀ i : Fin 9, l.getD i.val 0 = m.getD i.val 0) : l = m := by
  apply List.ext_getElem (hl.trans hm.symm)
  intro i h1 h2
  have := h ⟨i, by omega⟩
  simpa [List.getD_eq_getElem?_getD, h1, h2] using this
end
/-- the counts, met with a row of signs -/
theorem counts_dot {ls : List Nat} {h : List Int} (hh : h.length = 16) : ∀ (ps : List (Nat × Nat)) (v : List Int), v.length = 16 → (∀ p ∈ ps, (placeOf ls p).toNat < 16) → dot h (ps.foldl (cstep ls) v) = dot h v + S (fun p => h.getD (placeOf ls p).toNat 0) ps
  | [], v, _, _ => by show dot h v = dot h v + 0; omega
  | p :: ps, v, hv, hp => by
    have h1 := counts_dot (ls := ls) hh ps (cstep ls v p) (by simp [cstep, hv]) (fun q hq => hp q (List.mem_cons_of_mem _ hq))
    have h2 := dot_set h v (placeOf ls p).toNat (hh.trans hv.symm) (by rw [hv]; exact hp p (List.mem_cons_self ..))
    rw [List.foldl_cons, h1]
    show dot h (v.set _ _) + _ = dot h v + (h.getD (placeOf ls p).toNat 0 + S _ ps)
    rw [h2]; omega
theorem counts_len (ls : List Nat) : ∀ (ps : List (Nat × Nat)) (v : List Int), (ps.foldl (cstep ls) v).length = v.length
  | [], _ => rfl
  | p :: ps, v => by rw [List.foldl_cons, counts_len ls ps]; simp [cstep]
theorem hrow_len : ∀ b : Fin 16, (hrow b.val).length = 16 := by decide +kernel
theorem dot_zeros : ∀ b : Fin 16, dot (hrow b.val) zeros16 = 0 := by decide +kernel
theorem seen_box {ls : List Nat} {ps : List (Nat × Nat)} (hp : ∀ p ∈ ps, (placeOf ls p).toNat < 16) (b : Fin 16) : (crossed (countsOf ls ps)).getD b.val 0 = S (fun p => (hrow b.val).getD (placeOf ls p).toNat 0) ps := by
  have hl : (countsOf ls ps).length = 16 := counts_len ls ps zeros16
  rw [crossed_dot hl b]
  show dot _ (ps.foldl _ _) = _
  rw [counts_dot (hrow_len b) ps zeros16 rfl hp, dot_zeros]; omega
end Mine
end

section
open PySem PySem.W PyProof.Rows
namespace Mine
def cix (i j : Nat) : Int := if i = j then 0 else if i / 2 = j / 2 then 1 else 2
def tabS (κ k k' : Nat) : Int := S (fun b : Int => if (kindOf b.toNat).toNat = κ then (hrow b.toNat).getD k 0 * (hrow b.toNat).getD k' 0 else 0) (rangeKs 0 16)
def tabP (a b : List Int) (κ : Nat) : Int := S (fun x : Int => if x.toNat = κ then a.getD (x.fmod 3).toNat 0 * b.getD (x.fdiv 3).toNat 0 else 0) (rangeKs 0 9)
theorem tab_eq0 : ∀ κ : Fin 9, ∀ k k' : Fin 16, tabS κ.val k.val k'.val = tabP (price (cix (k.val % 4) (k'.val % 4))) (price (cix (k.val / 4) (k'.val / 4))) κ.val := by decide +kernel
theorem rows_range : rangeKs 0 16 = [0,1,2,3,4,5,6,7,8,9,10,11,12,13,14,15] := by decide +kernel
theorem range_bd {b : Int} (h : b ∈ rangeKs 0 16) : b.toNat < 16 := by
  have : ∀ x ∈ rangeKs 0 16, x.toNat < 16 := by decide +kernel
  exact this b h
theorem squares_at {ls : List Nat} {ps : List (Nat × Nat)} (hp : ∀ p ∈ ps, (placeOf ls p).toNat < 16) (κ : Fin 9) :
    (squaresOf ls ps).getD κ.val 0 = S (fun p => S (fun q => tabS κ.val (placeOf ls p).toNat (placeOf ls q).toNat) ps) ps := by
  unfold squaresOf
  have h := fold_getD (fun k : Int => (kindOf k.toNat).toNat) (fun k : Int => (crossed (countsOf ls ps)).getD k.toNat 0 * (crossed (countsOf ls ps)).getD k.toNat 0) (κ := κ.val) (rangeKs 0 16) (List.replicate 9 0) (by simp)
  refine h.trans ?_
  have h0 : (List.replicate 9 (0 : Int)).getD κ.val 0 = 0 := (by decide +kernel : ∀ κ : Fin 9, (List.replicate 9 (0 : Int)).getD κ.val 0 = 0) κ
  rw [h0, Int.zero_add]
  have h1 : ∀ b ∈ rangeKs 0 16, (if (kindOf b.toNat).toNat = κ.val then (crossed (countsOf ls ps)).getD b.toNat 0 * (crossed (countsOf ls ps)).getD b.toNat 0 else 0)
      = S (fun p => S (fun q => if (kindOf b.toNat).toNat = κ.val then (hrow b.toNat).getD (placeOf ls p).toNat 0 * (hrow b.toNat).getD (placeOf ls q).toNat 0 else 0) ps) ps := by
    intro b hb
    split
    · rw [seen_box hp ⟨b.toNat, range_bd hb⟩, S_mul]
    · simp only [S_zero]
  rw [S_congr h1, S_swap]
  refine S_congr fun p _ => ?_
  rw [S_swap]
  rfl
theorem add_price_getD (p q : Nat × Nat) (w : List Int) (hw : w.length = 9) (κ : Fin 9) : (addPrice p w q).getD κ.val 0 = w.getD κ.val 0 + tabP (price (costOf p.1 q.1)) (price (costOf p.2 q.2)) κ.val :=
  fold_getD (fun k : Int => k.toNat) (fun k : Int => (price (costOf p.1 q.1)).getD (k.fmod 3).toNat 0 * (price (costOf p.2 q.2)).getD (k.fdiv 3).toNat 0) (κ := κ.val) (rangeKs 0 9) w (by have := κ.isLt; omega)
theorem add_price_len (p q : Nat × Nat) (w : List Int) : (addPrice p w q).length = w.length :=
  fold_len' (fun k : Int => k.toNat) (fun k : Int => (price (costOf p.1 q.1)).getD (k.fmod 3).toNat 0 * (price (costOf p.2 q.2)).getD (k.fdiv 3).toNat 0) (rangeKs 0 9) w
theorem row_len (p : Nat × Nat) : ∀ (qs : List (Nat × Nat)) (w : List Int), (qs.foldl (addPrice p) w).length = w.length
  | [], _ => rfl
  | q :: qs, w => by rw [List.foldl_cons, row_len p qs, add_price_len]
theorem row_getD (p : Nat × Nat) (κ : Fin 9) : ∀ (qs : List (Nat × Nat)) (w : List Int), w.length = 9 → (qs.foldl (addPrice p) w).getD κ.val 0 = w.getD κ.val 0 + S (fun q => tabP (price (costOf p.1 q.1)) (price (costOf p.2 q.2)) κ.val) qs
  | [], w, _ => by show _ = _ + (0 : Int); rw [Int.add_zero]; rfl
  | q :: qs, w, hw => by
    rw [List.foldl_cons, row_getD p κ qs _ (by rw [add_price_len]; exact hw), add_price_getD p q w hw]
    show _ = _ + (tabP (price (costOf p.1 q.1)) (price (costOf p.2 q.2)) κ.val + S _ qs)
    omega
theorem all_len (qs : List (Nat × Nat)) : ∀ (ps : List (Nat × Nat)) (w : List Int), (ps.foldl (fun w p => qs.foldl (addPrice p) w) w).length = w.length
  | [], _ => rfl
  | p :: ps, w => by rw [List.foldl_cons, all_len qs ps, row_len]
theorem all_getD (qs : List (Nat × Nat)) (κ : Fin 9) : ∀ (ps : List (Nat × Nat)) (w : List Int), w.length = 9 → (ps.foldl (fun w p => qs.foldl (addPrice p) w) w).getD κ.val 0 = w.getD κ.val 0 + S (fun p => S (fun q => tabP (price (costOf p.1 q.1)) (price (costOf p.2 q.2)) κ.val) qs) ps
  | [], w, _ => by show _ = _ + (0 : Int); rw [Int.add_zero]; rfl
  | p :: ps, w, hw => by
    rw [List.foldl_cons, all_getD qs κ ps _ (by rw [row_len]; exact hw), row_getD p κ qs w hw]
    show _ = _ + (S (fun q => tabP (price (costOf p.1 q.1)) (price (costOf p.2 q.2)) κ.val) qs + S _ ps)
    omega
/-- letters by their places -/
theorem cost_ltr {l0 l1 l2 l3 : Nat} (H : LF l0 l1 l2 l3) (i j : Fin 4) : costOf (ltr l0 l1 l2 l3 i.val) (ltr l0 l1 l2 l3 j.val) = cix i.val j.val := by
  have w01 := H.w01; have w23 := H.w23; have w02 := H.w02; have n01 := H.n01; have n23 := H.n23
  have e02 : l0 ≠ l2 := fun e => w02 (by rw [e])
  have e03 : l0 ≠ l3 := fun e => w02 (by rw [e, w23])
  have e12 : l1 ≠ l2 := fun e => w02 (by rw [w01, e])
  have e13 : l1 ≠ l3 := fun e => w02 (by rw [w01, e, w23])
  have w03 : lowc l0 ≠ lowc l3 := by rw [← w23]; exact w02
  have w12 : lowc l1 ≠ lowc l2 := by rw [← w01]; exact w02
  have w13 : lowc l1 ≠ lowc l3 := by rw [← w01, ← w23]; exact w02
  match i, j with
  | ⟨0, _⟩, ⟨0, _⟩ => show costOf l0 l0 = cix 0 0; rw [show cix 0 0 = 0 from by decide +kernel]; exact if_pos rfl
  | ⟨0, _⟩, ⟨1, _⟩ => show costOf l0 l1 = cix 0 1; rw [show cix 0 1 = 1 from by decide +kernel]; unfold costOf; rw [if_neg n01, if_pos w01]
  | ⟨0, _⟩, ⟨2, _⟩ => show costOf l0 l2 = cix 0 2; rw [show cix 0 2 = 2 from by decide +kernel]; unfold costOf; rw [if_neg e02, if_neg w02]
  | ⟨0, _⟩, ⟨3, _⟩ => show costOf l0 l3 = cix 0 3; rw [show cix 0 3 = 2 from by decide +kernel]; unfold costOf; rw [if_neg e03, if_neg w03]
  | ⟨1, _⟩, ⟨0, _⟩ => show costOf l1 l0 = cix 1 0; rw [show cix 1 0 = 1 from by decide +kernel]; unfold costOf; rw [if_neg n01.symm, if_pos w01.symm]
  | ⟨1, _⟩, ⟨1, _⟩ => show costOf l1 l1 = cix 1 1; rw [show cix 1 1 = 0 from by decide +kernel]; exact if_pos rfl
  | ⟨1, _⟩, ⟨2, _⟩ => show costOf l1 l2 = cix 1 2; rw [show cix 1 2 = 2 from by decide +kernel]; unfold costOf; rw [if_neg e12, if_neg w12]
  | ⟨1, _⟩, ⟨3, _⟩ => show costOf l1 l3 = cix 1 3; rw [show cix 1 3 = 2 from by decide +kernel]; unfold costOf; rw [if_neg e13, if_neg w13]
  | ⟨2, _⟩, ⟨0, _⟩ => show costOf l2 l0 = cix 2 0; rw [show cix 2 0 = 2 from by decide +kernel]; unfold costOf; rw [if_neg e02.symm, if_neg w02.symm]
  | ⟨2, _⟩, ⟨1, _⟩ => show costOf l2 l1 = cix 2 1; rw [show cix 2 1 = 2 from by decide +kernel]; unfold costOf; rw [if_neg e12.symm, if_neg w12.symm]
  | ⟨2, _⟩, ⟨2, _⟩ => show costOf l2 l2 = cix 2 2; rw [show cix 2 2 = 0 from by decide +kernel]; exact if_pos rfl
  | ⟨2, _⟩, ⟨3, _⟩ => show costOf l2 l3 = cix 2 3; rw [show cix 2 3 = 1 from by decide +kernel]; unfold costOf; rw [if_neg n23, if_pos w23]
  | ⟨3, _⟩, ⟨0, _⟩ => show costOf l3 l0 = cix 3 0; rw [show cix 3 0 = 2 from by decide +kernel]; unfold costOf; rw [if_neg e03.symm, if_neg w03.symm]
  | ⟨3, _⟩, ⟨1, _⟩ => show costOf l3 l1 = cix 3 1; rw [show cix 3 1 = 2 from by decide +kernel]; unfold costOf; rw [if_neg e13.symm, if_neg w13.symm]
  | ⟨3, _⟩, ⟨2, _⟩ => show costOf l3 l2 = cix 3 2; rw [show cix 3 2 = 1 from by decide +kernel]; unfold costOf; rw [if_neg n23.symm, if_pos w23.symm]
  | ⟨3, _⟩, ⟨3, _⟩ => show costOf l3 l3 = cix 3 3; rw [show cix 3 3 = 0 from by decide +kernel]; exact if_pos rfl
theorem fnd_ltr {l0 l1 l2 l3 : Nat} (H : LF l0 l1 l2 l3) (i : Fin 4) : fnd [l0, l1, l2, l3] (ltr l0 l1 l2 l3 i.val) = (i.val : Int) := by
  have w01 := H.w01; have w23 := H.w23; have w02 := H.w02; have n01 := H.n01; have n23 := H.n23
  have e02 : l0 ≠ l2 := fun e => w02 (by rw [e])
  have e03 : l0 ≠ l3 := fun e => w02 (by rw [e, w23])
  have e12 : l1 ≠ l2 := fun e => w02 (by rw [w01, e])
  have e13 : l1 ≠ l3 := fun e => w02 (by rw [w01, e, w23])
  match i with
  | ⟨0, _⟩ => exact find4 0 (.inl ⟨rfl, rfl⟩)
  | ⟨1, _⟩ => exact find4 1 (.inr (.inl ⟨rfl, rfl, n01.symm⟩))
  | ⟨2, _⟩ => exact find4 2 (.inr (.inr (.inl ⟨rfl, rfl, e02.symm, e12.symm⟩)))
  | ⟨3, _⟩ => exact find4 3 (.inr (.inr (.inr ⟨rfl, rfl, e03.symm, e13.symm, n23.symm⟩)))
/-- a name made of two of the four letters -/
def Two (l0 l1 l2 l3 : Nat) (p : Nat × Nat) : Prop := ∃ i j : Fin 4, p = (ltr l0 l1 l2 l3 i.val, ltr l0 l1 l2 l3 j.val)
theorem place_two {l0 l1 l2 l3 : Nat} (H : LF l0 l1 l2 l3) (i j : Fin 4) : placeOf [l0, l1, l2, l3] (ltr l0 l1 l2 l3 i.val, ltr l0 l1 l2 l3 j.val) = ((i.val + 4 * j.val : Nat) : Int) := by
  show fnd _ _ + 4 * fnd _ _ = _
  rw [fnd_ltr H, fnd_ltr H]; omega
theorem place_lt {l0 l1 l2 l3 : Nat} (H : LF l0 l1 l2 l3) {p : Nat × Nat} (h : Two l0 l1 l2 l3 p) : (placeOf [l0, l1, l2, l3] p).toNat < 16 := by
  obtain ⟨i, j, rfl⟩ := h
  rw [place_two H, Int.toNat_natCast]
  have := i.isLt; have := j.isLt; omega
theorem two_tab {l0 l1 l2 l3 : Nat} (H : LF l0 l1 l2 l3) {p q : Nat × Nat} (hp : Two l0 l1 l2 l3 p) (hq : Two l0 l1 l2 l3 q) (κ : Fin 9) :
    tabS κ.val (placeOf [l0, l1, l2, l3] p).toNat (placeOf [l0, l1, l2, l3] q).toNat = tabP (price (costOf p.1 q.1)) (price (costOf p.2 q.2)) κ.val := by
  obtain ⟨i, j, rfl⟩ := hp
  obtain ⟨i', j', rfl⟩ := hq
  have b1 := i.isLt; have b2 := j.isLt; have b3 := i'.isLt; have b4 := j'.isLt
  rw [place_two H, place_two H, Int.toNat_natCast, Int.toNat_natCast]
  show _ = tabP (price (costOf (ltr l0 l1 l2 l3 i.val) (ltr l0 l1 l2 l3 i'.val))) (price (costOf (ltr l0 l1 l2 l3 j.val) (ltr l0 l1 l2 l3 j'.val))) κ.val
  rw [cost_ltr H, cost_ltr H]
  have := tab_eq0 κ ⟨i.val + 4 * j.val, by omega⟩ ⟨i'.val + 4 * j'.val, by omega⟩
  rw [this]
  show tabP (price (cix ((i.val + 4 * j.val) % 4) ((i'.val + 4 * j'.val) % 4))) (price (cix ((i.val + 4 * j.val) / 4) ((i'.val + 4 * j'.val) / 4))) κ.val = _
  rw [show (i.val + 4 * j.val) % 4 = i.val by omega, show (i'.val + 4 * j'.val) % 4 = i'.val by omega, show (i.val + 4 * j.val) / 4 = j.val by omega, show (i'.val + 4 * j'.val) / 4 = j'.val by omega]
theorem plain_law {l0 l1 l2 l3 : Nat} (H : LF l0 l1 l2 l3) {ps : List (Nat × Nat)} (h : ∀ p ∈ ps, Two l0 l1 l2 l3 p) : squaresOf [l0, l1, l2, l3] ps = byPairs ps := by
  have hp : ∀ p ∈ ps, (placeOf [l0, l1, l2, l3] p).toNat < 16 := fun p m => place_lt H (h p m)
  refine ext9 ?_ ?_ fun κ => ?_
  · unfold squaresOf
    exact (fold_len' (fun k : Int => (kindOf k.toNat).toNat) (fun k : Int => (crossed (countsOf [l0, l1, l2, l3] ps)).getD k.toNat 0 * (crossed (countsOf [l0, l1, l2, l3] ps)).getD k.toNat 0) (rangeKs 0 16) (List.replicate 9 0)).trans rfl
  · unfold byPairs
    exact (all_len ps ps zeros9).trans rfl
  · rw [squares_at hp κ]
    unfold byPairs
    rw [all_getD ps κ ps zeros9 rfl]
    have h0 : zeros9.getD κ.val 0 = 0 := (by decide +kernel : ∀ κ : Fin 9, zeros9.getD κ.val 0 = 0) κ
    rw [h0, Int.zero_add]
    exact S_congr fun p mp => S_congr fun q mq => two_tab H (h p mp) (h q mq) κ
end Mine
end

section
open PySem PySem.W PyProof.Rows
namespace Mine
def lf0 {a b c d : Nat} (_ : LF a b c d) : Nat := a
def lf1 {a b c d : Nat} (_ : LF a b c d) : Nat := b
def lf2 {a b c d : Nat} (_ : LF a b c d) : Nat := c
def lf3 {a b c d : Nat} (_ : LF a b c d) : Nat := d
theorem lf_ex {a b c d : Nat} (_ : LF a b c d) : ∃ x y z w : Nat, x = a ∧ y = b ∧ z = c ∧ w = d := ⟨_, _, _, _, rfl, rfl, rfl, rfl⟩
structure LMark : Prop where
  one : True
theorem lq {l0 l1 l2 l3 : Nat} (H : LF l0 l1 l2 l3) (i j : Nat) : LetF (ltr l0 l1 l2 l3 i) (ltr l0 l1 l2 l3 j) := ⟨H.ne i, H.ne j⟩
theorem told_start {l0 l1 l2 l3 : Nat} : (([] : List Str) = [].map (toldOf l0 l1 l2 l3) ∧ ([] : List Str) = [].map (toldOf l0 l1 l2 l3)) ∧ ([] : List Str).length = ([] : List Int).length ∧ ([] : List Str).length = ([] : List Int).length := ⟨⟨rfl, rfl⟩, rfl, rfl⟩
theorem told_yes {l0 l1 l2 l3 : Nat} {pre : List Int} {k : Int} {a b : List Str} (hc : (k.fdiv 16).fmod 3 = 2) (ha : a = pre.map (toldOf l0 l1 l2 l3)) (hb : b = pre.map (toldOf l0 l1 l2 l3)) (h1 : a.length = pre.length) (h2 : b.length = pre.length) :
    (a ++ [Str.ofString "<reply parse257() failed>"] = (pre ++ [k]).map (toldOf l0 l1 l2 l3) ∧ b ++ [Str.ofString "<reply parse257() failed>"] = (pre ++ [k]).map (toldOf l0 l1 l2 l3)) ∧ (a ++ [Str.ofString "<reply parse257() failed>"]).length = (pre ++ [k]).length ∧ (b ++ [Str.ofString "<reply parse257() failed>"]).length = (pre ++ [k]).length := by
  have e : toldOf l0 l1 l2 l3 k = Str.ofString "<reply parse257() failed>" := by unfold toldOf; rw [if_pos hc]; rfl
  simp [ha, hb, e]
theorem told_no {l0 l1 l2 l3 : Nat} {pre : List Int} {k : Int} {a b : List Str} (hc : ¬ (k.fdiv 16).fmod 3 = 2) (ha : a = pre.map (toldOf l0 l1 l2 l3)) (hb : b = pre.map (toldOf l0 l1 l2 l3)) (h1 : a.length = pre.length) (h2 : b.length = pre.length) :
    (a ++ [nameS (nmOf l0 l1 l2 l3 k)] = (pre ++ [k]).map (toldOf l0 l1 l2 l3) ∧ b ++ [nameS (nmOf l0 l1 l2 l3 k)] = (pre ++ [k]).map (toldOf l0 l1 l2 l3)) ∧ (a ++ [nameS (nmOf l0 l1 l2 l3 k)]).length = (pre ++ [k]).length ∧ (b ++ [nameS (nmOf l0 l1 l2 l3 k)]).length = (pre ++ [k]).length := by
  have e : toldOf l0 l1 l2 l3 k = nameS (nmOf l0 l1 l2 l3 k) := by unfold toldOf; rw [if_neg hc]
  simp [ha, hb, e]
local macro_rules | `(tactic| walk_at "call ref") => `(tactic| (k_here; (with_reducible show wpAny _ _ (call (Value.ref 111) [Value.int _ _]) _ _ _); k_dflt (refine' Con.use (c_lettersX _ _ _ _ _ _ _) ?cuB ?cuF ?cuX ?cuN ?cuT ?cuk ?cud ?cuu ?_; (case cuB => k_asm); (case cuF => k_asm); (case cuX => k_asm); (case cuN => k_asm); (case cuT => k_asm); (case cuk => first | exact rfl | assumption); (case cud => ktr_room); (case cuu => ktr_units); (intro v9 t9 h9 tk9 e9 F9 N9); (obtain ⟨l0, l1, l2, l3, hLF9, e8⟩ := e9); (subst e8)); (try dsimp only); (try k_fold)))
local macro_rules | `(tactic| walk_at "subscriptTail Name BinOp str int") => `(tactic| (k_here; refine sub4 ?_; intro _ _))
local macro_rules | `(tactic| walk_at "binaryOp Add str str") => `(tactic| (k_here; first | (with_reducible refine add_q ?_; intro _ _) | (with_reducible refine add_qd ?_; intro _ _) | (with_reducible refine add_tail ?_; intro _ _) | (with_reducible refine add_257 ?_; intro _ _) | (with_reducible refine add_250 ?_; intro _ _)))
local macro_rules | `(tactic| walk_at "call") => `(tactic| (k_here; (show wpAny _ _ (call (Value.builtin "str.replace") [Value.str _ _, Value.str _ _, Value.str _ _]) _ _ _); (rename LF _ _ _ _ => hLF8); refine repl_call (Nat.succ_ne_zero _) (Nat.succ_ne_zero _) (Nat.ne_of_lt (Nat.lt_succ_self _)) (LF.ne hLF8 _) (LF.ne hLF8 _) ?_; intro _ _))
local macro_rules | `(tactic| walk_at "call ref") => `(tactic| (k_here; (with_reducible show wpAny _ _ (call (Value.ref 22) [Value.str _ _, Value.str _ _, Value.ref _]) _ _ _); (rename LF _ _ _ _ => hLF8); k_dflt (refine' Con.use (Lw.out c_safe0 _ _ _ _ _ _ _ _ _ (lq hLF8 _ _)) ?cuB ?cuF ?cuX ?cuN ?cuT ?cuk ?cud ?cuu ?_; (case cuB => k_asm); (case cuF => k_asm); (case cuX => k_asm); (case cuN => k_asm); (case cuT => k_asm); (case cuk => first | exact rfl | assumption); (case cud => ktr_room); (case cuu => ktr_units); (intro v9 t9 h9 tk9 e9 F9 N9); (subst e9)); (try dsimp only); (try k_fold)))
local macro_rules | `(tactic| walk_at "call ref") => `(tactic| (k_here; (with_reducible show wpAny _ _ (call (Value.ref 22) [Value.str _ _, Value.str _ _, Value.ref _]) _ _ _); k_dflt (refine' Con1.use (Lw.out c_fail0 _ _ _ _ _ _ _ _ _ ⟨trivial⟩) ?cuB ?cuF ?cuX ?cuN ?cuT ?cuk ?cud ?cuu ?_; (case cuB => k_asm); (case cuF => k_asm); (case cuX => k_asm); (case cuN => k_asm); (case cuT => k_asm); (case cuk => first | exact rfl | assumption); (case cud => ktr_room); (case cuu => ktr_units); (intro v9 t9 h9 tk9 e9 F9 N9); (subst e9)); (try dsimp only); (try k_fold)))
theorem told_eq {l0 l1 l2 l3 : Nat} {a b : List Str} {pre : List Int} (ha : a = pre.map (toldOf l0 l1 l2 l3)) (hb : b = pre.map (toldOf l0 l1 l2 l3)) : a = b := ha.trans hb.symm
theorem ltr_lt {l0 l1 l2 l3 : Nat} (H : LF l0 l1 l2 l3) (k : Nat) : ltr l0 l1 l2 l3 k < 1114112 := by
  have h0 := H.i0; have h1 := H.i1; have h2 := H.i2; have h3 := H.i3
  unfold IsLet at h0 h1 h2 h3
  unfold ltr
  match k with
  | 0 => show l0 < _; omega
  | 1 => show l1 < _; omega
  | 2 => show l2 < _; omega
  | 3 => show l3 < _; omega
  | k + 4 => show (0 : Nat) < _; decide
theorem told_ok {l0 l1 l2 l3 : Nat} {a : List Str} {pre : List Int} (H : LF l0 l1 l2 l3) (ha : a = pre.map (toldOf l0 l1 l2 l3)) : ∀ y ∈ a, PyData.strOk y = true := by
  subst ha
  intro y hy
  obtain ⟨x, _, rfl⟩ := List.mem_map.mp hy
  unfold toldOf
  split
  · decide +kernel
  · unfold PyData.strOk nameS nmOf
    simp [ltr_lt H]
local macro_rules | `(tactic| walk_at "compareOp NotEq ref ref") => `(tactic| (k_here; (with_reducible show wpAny _ _ (compareOp CmpOp.NotEq (Value.ref _) (Value.ref _)) _ _ _); (rename LF _ _ _ _ => hLF8); k_dflt (refine' ne_texts ?l1 ?l2 ?l3 ?l4 ?l6 ?l7 ?l5 ?_; (case l1 => is_list); (case l3 => is_list); (case l2 => assumption); (case l4 => assumption); (case l6 => exact told_eq (by assumption) (by assumption)); (case l7 => exact told_ok hLF8 (by assumption)); (case l5 => units_room))))
local macro_rules | `(tactic| walk_at "InvEndN") => `(tactic| (k_here; k_dflt kst_close))
local macro_rules | `(tactic| walk_at "exec For Name BinOp cons nil") => `(tactic| (k_here; (rename Fr _ _ _ _ => lF'); (with_unfolding_all refine' For_invVF lF' ?k1 ?k2 ?_; (case k1 => exact rfl); (case k2 => exact rfl); k_whole)))
theorem LF.ne60 {l0 l1 l2 l3 : Nat} (H : LF l0 l1 l2 l3) (k : Nat) : ltr l0 l1 l2 l3 k ≠ 60 := by
  have h0 := H.i0; have h1 := H.i1; have h2 := H.i2; have h3 := H.i3
  unfold IsLet at h0 h1 h2 h3
  unfold ltr
  match k with
  | 0 => show l0 ≠ 60; omega
  | 1 => show l1 ≠ 60; omega
  | 2 => show l2 ≠ 60; omega
  | 3 => show l3 ≠ 60; omega
  | k + 4 => show (0 : Nat) ≠ 60; decide
theorem told_short {l0 l1 l2 l3 : Nat} {a : List Str} {ns : List Int} (ha : a = ([0, 1, 6] ++ List.take 3 ns).map (toldOf l0 l1 l2 l3)) : a.length ≤ 6 := by
  subst ha
  simp
  omega
def failA : Str := ⟨#[60,114,101,112,108,121,32,112,97,114,115,101,50,53,55,40,41,32,102,97,105,108,101,100,62]⟩
theorem failT_eq : failT = failA := by decide +kernel
theorem told_cases {l0 l1 l2 l3 : Nat} {a : List Str} {pre : List Int} (H : LF l0 l1 l2 l3) (ha : a = pre.map (toldOf l0 l1 l2 l3)) {y : Str} (hy : y ∈ a) : y = failA ∨ ∃ c d : Nat, y = ⟨#[c, 34, d]⟩ ∧ c ≠ 60 := by
  subst ha
  obtain ⟨x, _, rfl⟩ := List.mem_map.mp hy
  unfold toldOf
  split
  · exact .inl failT_eq
  · exact .inr ⟨_, _, rfl, LF.ne60 H _⟩
theorem fail_test : ((⟨#[60]⟩ : Str) != Str.ofString "<") = decide (failA ≠ failT) := by decide +kernel
theorem name_ne {c d : Nat} (hc : c ≠ 60) : (⟨#[c, 34, d]⟩ : Str) ≠ failT := by rw [failT_eq]; simp [failA, hc]
theorem name_test {c d : Nat} (hc : c ≠ 60) : ((⟨#[c]⟩ : Str) != Str.ofString "<") = decide ((⟨#[c, 34, d]⟩ : Str) ≠ failT) := by
  rw [decide_eq_true (name_ne hc), show Str.ofString "<" = ⟨#[60]⟩ from by decide +kernel]
  simp [hc]
theorem sub_fail {prog : Program} {w : World} {A : Around} {E : Value → Shared → Prop} {s : Shared} {value slice : PySem.Expr} {t u : Tok} {Q : Value → Shared → Prop} (h : ∀ t' k, Q (.str ⟨#[60]⟩ t') { s with toks := k })
    (hs : subscripted slice false (.str failA t) (.int 0 u) = operate [.str failA t, .int 0 u] (getItem (.str failA t) (.int 0 u)) := by with_unfolding_all rfl)
    (ht : ∀ r, letTemporaryGo value (.str failA t) r = pure () := by intro _; with_unfolding_all rfl) :
    wpAny (model prog w) A (subscriptTail value slice (.str failA t) (.int 0 u)) Q E s :=
  KXi.item (n := 25) rfl (by decide) (by decide) (by decide) (fun _ => h _ _) hs ht
theorem ltr_let {l0 l1 l2 l3 : Nat} (H : LF l0 l1 l2 l3) (i : Fin 4) : IsLet (ltr l0 l1 l2 l3 i.val) := by
  match i with
  | ⟨0, _⟩ => exact H.i0
  | ⟨1, _⟩ => exact H.i1
  | ⟨2, _⟩ => exact H.i2
  | ⟨3, _⟩ => exact H.i3
theorem two_let {l0 l1 l2 l3 : Nat} (H : LF l0 l1 l2 l3) {ps : List (Nat × Nat)} (h : ∀ p ∈ ps, Two l0 l1 l2 l3 p) : ∀ p ∈ ps, IsLet p.1 ∧ IsLet p.2 := by
  intro p hp
  obtain ⟨i, j, rfl⟩ := h p hp
  exact ⟨ltr_let H i, ltr_let H j⟩
theorem two_box {l0 l1 l2 l3 : Nat} (H : LF l0 l1 l2 l3) {ps : List (Nat × Nat)} (h : ∀ p ∈ ps, Two l0 l1 l2 l3 p) : ∀ p ∈ ps, InBox [l0, l1, l2, l3] p := by
  intro p hp
  obtain ⟨i, j, rfl⟩ := h p hp
  have hi := i.isLt
  have hj := j.isLt
  unfold InBox
  dsimp only
  rw [fnd_ltr H, fnd_ltr H]
  omega
theorem two_nm (l0 l1 l2 l3 : Nat) (x : Int) : Two l0 l1 l2 l3 (nmOf l0 l1 l2 l3 x) := by
  have h0 : 0 ≤ x.fmod 4 := Int.fmod_nonneg_of_pos x (by decide)
  have h1 : x.fmod 4 < 4 := Int.fmod_lt_of_pos x (by decide)
  have h2 : 0 ≤ (x.fdiv 4).fmod 4 := Int.fmod_nonneg_of_pos _ (by decide)
  have h3 : (x.fdiv 4).fmod 4 < 4 := Int.fmod_lt_of_pos _ (by decide)
  exact ⟨⟨(x.fmod 4).toNat, by omega⟩, ⟨((x.fdiv 4).fmod 4).toNat, by omega⟩, rfl⟩
theorem told_filter {l0 l1 l2 l3 : Nat} (H : LF l0 l1 l2 l3) : ∀ pre : List Int, ∃ ps : List (Nat × Nat), (pre.map (toldOf l0 l1 l2 l3)).filter (fun y => decide (y ≠ failT)) = ps.map nameS ∧ ps.length ≤ pre.length ∧ ∀ p ∈ ps, Two l0 l1 l2 l3 p
  | [] => ⟨[], rfl, Nat.le_refl _, fun _ h => nomatch h⟩
  | x :: pre => by
    obtain ⟨ps, h1, h2, h3⟩ := told_filter H pre
    by_cases c : (x.fdiv 16).fmod 3 = 2
    · have e : toldOf l0 l1 l2 l3 x = failT := by unfold toldOf; rw [if_pos c]
      refine ⟨ps, ?_, ?_, h3⟩
      · rw [List.map_cons, e, List.filter_cons_of_neg (by simp), h1]
      · rw [List.length_cons]; omega
    · have e : toldOf l0 l1 l2 l3 x = nameS (nmOf l0 l1 l2 l3 x) := by unfold toldOf; rw [if_neg c]
      have hd : decide (nameS (nmOf l0 l1 l2 l3 x) ≠ failT) = true := decide_eq_true (name_ne (LF.ne60 H _))
      refine ⟨nmOf l0 l1 l2 l3 x :: ps, ?_, ?_, ?_⟩
      · rw [List.map_cons, e, List.filter_cons_of_pos (p := fun y => decide (y ≠ failT)) hd, h1, List.map_cons]
      · rw [List.length_cons, List.length_cons]; omega
      · intro p hp
        rcases List.mem_cons.mp hp with rfl | hp
        · exact two_nm _ _ _ _ _
        · exact h3 p hp
theorem names_are {l0 l1 l2 l3 : Nat} {a : List Str} {ns : List Int} {ys : List Value} (hc : CarriedAll ys ((a.filter (fun y => decide (y ≠ failT))).map PyData.str)) (H : LF l0 l1 l2 l3) (ha : a = ([0, 1, 6] ++ List.take 3 ns).map (toldOf l0 l1 l2 l3)) :
    ∃ ps : List (Nat × Nat), StrsAre ys (ps.map nameS) ∧ ps.length ≤ 6 ∧ ∀ p ∈ ps, Two l0 l1 l2 l3 p := by
  subst ha
  obtain ⟨ps, h1, h2, h3⟩ := told_filter H ([0, 1, 6] ++ List.take 3 ns)
  refine ⟨ps, ?_, ?_, h3⟩
  · rw [h1] at hc
    have := CarriedAll.strsOf (f := id) (as := ps.map nameS) hc
    rwa [List.map_id] at this
  · refine Nat.le_trans h2 ?_
    simp
    omega
theorem news_swap {h₀ h : Heap} {L : Addr} {a b : Addr × Obj} {r : List (Addr × Obj)} (N : News h₀ L h (a :: b :: r)) : News h₀ L h (b :: a :: r) := fun p hp => N p (by
  rcases List.mem_cons.mp hp with rfl | hp
  · exact .tail _ (.head _)
  · rcases List.mem_cons.mp hp with rfl | hp
    · exact .head _
    · exact .tail _ (.tail _ hp))
local macro_rules | `(tactic| walk_at "subscriptTail Name Constant str int") => `(tactic| (k_here; (with_reducible show wpAny _ _ (subscriptTail _ _ (Value.str ⟨#[_, _, _]⟩ _) _) _ _ _); k_dflt (refine sub_first ?_; intro _ _)))
local macro_rules | `(tactic| walk_at "subscriptTail Name Constant str int") => `(tactic| (k_here; (with_reducible show wpAny _ _ (subscriptTail _ _ (Value.str failA _) _) _ _ _); k_dflt (refine sub_fail ?_; intro _ _)))
set_option maxRecDepth 100000 in
set_option maxHeartbeats 8000000 in
theorem law_holds : PySem.Challenge.rw_wu0014_01.Holds := hd (by
  k_with_none
  w_top off
  k_go0
  (all_goals try k_fold)
  iterate 22 (first | walk1 | (dsimp only; walk1))
  k_dflt (refine' Con.use (c_lettersX _ _ _ _ _ _ _) ?cuB ?cuF ?cuX ?cuN ?cuT ?cuk ?cud ?cuu ?_; (case cuB => k_asm); (case cuF => k_asm); (case cuX => k_asm); (case cuN => k_asm); (case cuT => k_asm); (case cuk => first | exact rfl | assumption); (case cud => ktr_room); (case cuu => ktr_units))
  intro v9 t9 h9 tk9 e9 F9 N9
  obtain ⟨l0, l1, l2, l3, hLF, e8⟩ := e9
  subst e8
  (try dsimp only)
  (try k_fold)
  (k_with "state" => (first | (rename Int.fmod (Int.fdiv _ 16) 3 ≠ 2 => hc9; exact told_no hc9 (by assumption) (by assumption) (by assumption) (by assumption)) | exact told_yes (by assumption) (by assumption) (by assumption) (by assumption) (by assumption) | exact told_start))
  (k_with "pyIter ref" => k_state (fun pre told due => (told = pre.map (toldOf l0 l1 l2 l3) ∧ due = pre.map (toldOf l0 l1 l2 l3)) ∧ told.length = pre.length ∧ due.length = pre.length) "told$" "due$")
  iterate 170 (first | walk1 | (dsimp only; walk1))
  iterate 30 (first | walk1 | (dsimp only; walk1) | skip)
  k_dflt ((rename Fr _ _ _ _ => F7); (rename News _ _ _ _ => N7); (refine' srcA_listDW (K := ItemKind.str) (pz := fun y => decide (y ≠ failT)) (d := PyData.str) ?hh ?hl ?hi F7 N7 ?g1 ?g2 ?g3 ?hsz))
  case hh => with_unfolding_all rfl
  case hl => is_list
  case hi => exact StrsAre.areOf (by assumption)
  case hsz => exact Nat.le_trans (told_short (by assumption)) (by rw [sizeLine_eq]; decide)
  case g2 =>
    intro C y v s2 m2 E2 hy hk hz hns hmv htk
    obtain ⟨t2, e2⟩ := ItemKind.str_is hk
    subst e2
    (with_reducible refine wpAny_leafK ?_)
    iterate 1 (first | walk1 | skip)
    exact ⟨.str _ _, _, _, rfl, fun _ _ e => e⟩
  case g3 =>
    intro D ys hD tkD F9 N9 hDn hDl hDp hDc
    obtain ⟨nD, ND⟩ := made_enters hDp F9 N9 hDn
    obtain ⟨ps, hS, hlen, hTwo⟩ := names_are hDc (by assumption) (by assumption)
    clear N9 hDp hDc
    iterate 12 (first | walk1 | (dsimp only; walk1) | skip)
    (rename LF _ _ _ _ => hLF7)
    k_dflt (refine' Con.use (Lw.out c_squares0 _ _ _ _ _ _ _ _ ps [l0, l1, l2, l3] _ hS (two_box hLF7 hTwo) hlen) ?cuB ?cuF ?cuX ?cuN ?cuT ?cuk ?cud ?cuu ?_; (case cuB => k_asm); (case cuF => k_asm); (case cuX => k_asm); (case cuN => k_asm); (case cuT => k_asm); (case cuk => first | exact rfl | assumption); (case cud => ktr_room); (case cuu => ktr_units))
    intro r1 ws1 n1 h1 tk1 I1 F1 N1 lt1
    (try dsimp only)
    (try k_fold)
    iterate 7 (first | walk1 | (dsimp only; walk1) | skip)
    k_dflt (refine' Con.use (Lw.out c_pairs0 _ _ _ _ _ _ _ _ ps hS (two_let hLF7 hTwo) hlen) ?cuB ?cuF ?cuX ?cuN ?cuT ?cuk ?cud ?cuu ?_; (case cuB => k_asm); (case cuF => k_asm); (case cuX => k_asm); (case cuN => exact news_swap N1); (case cuT => k_asm); (case cuk => first | exact rfl | assumption); (case cud => ktr_room); (case cuu => ktr_units))
    intro r2 ws2 n2 h2 tk2 I2 F2 N2 lt2
    (try dsimp only)
    (try k_fold)
    refine eq_intsK (News.isList N2 (.tail _ (.tail _ (.head _)))) I1 (News.isList N2 (.head _)) I2 (by units_room) ?_
    rw [decide_eq_true (plain_law hLF7 hTwo)]
    wrow_close
  case g1 =>
    intro C y v s2 m2 E2 hy hk hns hmv htk
    obtain ⟨t2, e2⟩ := ItemKind.str_is hk
    subst e2
    rcases told_cases (by assumption) (by assumption) hy with e | ⟨c, d, e, hc⟩
    · subst e
      (with_reducible refine wpAny_leafK ?_)
      iterate 10 (first | walk1 | skip)
      exact ⟨fail_test, _, _, rfl, fun _ _ e => e⟩
    · subst e
      (with_reducible refine wpAny_leafK ?_)
      iterate 10 (first | walk1 | skip)
      exact ⟨name_test hc, _, _, rfl, fun _ _ e => e⟩)
end Mine
end

theorem PySem.Challenge.cw_wu0014_01_holds : PySem.Challenge.rw_wu0014_01.Holds := by
  exact Mine.law_holds
