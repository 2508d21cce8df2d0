import PyProof.Rows.All
import Wide.All
import OpenK.AllK
import Wide.FinOn
import PySem.Challenge.RW_ty0015_01
set_option Elab.async false
namespace Mine
open PySem PySem.W PyProof.Rows
set_option maxRecDepth 100000 in
set_option maxHeartbeats 8000000 in
open_top hd for PySem.Challenge.rw_ty0015_01
end Mine
namespace Mine
open PySem PySem.W PyProof.Rows PySem.Calls
set_option maxRecDepth 100000
def retV : Flow → Value
  | .ret v => v
  | _ => .none
/-- how a def's body ends -/
def DefEnd (g : Heap) (L' : Addr) (R : Tok → Value) (s : Shared) (fl : Flow) (s' : Shared) : Prop :=
  ∃ t h' tk m', s' = { s with heap := h', toks := tk } ∧ Fr g L' h' m' ∧ retV fl = R t
/-- what a call of a def gives, whatever the ledger -/
abbrev Claim (k : Nat) (prog : Program) (w : World) (K : Frag) (p : Program) (loose : List Str) (mean : ExcName → Option Value) (mg mb : Str → Option Value) (f : Addr) (pre : Prop) (vs : List Value) (R : Tok → Value) : Prop :=
  ∀ (dp un : Nat) (gd : Option (List Code)) (cn : Str) (cs : Scope) (a : Addr) (ccd : Value) (cl : List (Str × Addr)) (outer : List Env) (A₀ : Around) (base h₀ : Heap) (L : Addr) (m : Str → Option Value) (news : List (Addr × Obj)) (s : Shared) (Q E : Value → Shared → Prop),
    Below A₀ base outer h₀ → Fr h₀ L s.heap m → K.In h₀ → News h₀ L s.heap news → Top p loose mean mg mb h₀ → cs.kind = .function → pre → dp + k < recursionLimit → un + 8 * k < cLine →
    (∀ (t : Tok) (h' : Heap) (tk' : Nat), Fr h₀ L h' m → News h₀ L h' news → (∀ b o, s.heap.get? b = some o → h'.get? b = some o) → Q (R t) { s with heap := h', toks := tk' }) →
    wpAny (model prog w) (ktrTop dp un gd cn cs L a ccd cl outer) (call (.ref f) vs) Q E s
theorem con_of_body {k : Nat} (hk1 : 1 ≤ k) {prog : Program} {w : World} {K : Frag} {p : Program} {loose : List Str} {mean : ExcName → Option Value} {mg mb : Str → Option Value} {f : Addr} {pre : Prop} {vs : List Value} {R : Tok → Value}
    {name qual : Str} {params : Arguments} {body : List Stmt} {scope : Scope} {dV kV doc pm cdv ct oc : Value} {an od : Option Addr} {osl : Array (Option Value)} {binds : List (Str × Value)}
    (ho : K.lookup f = some ⟨oc, od, .func (fnOf name qual params body scope dV kV doc pm an cdv ct), osl⟩) (hcd : codeIn K cdv qual = true)
    (hbind : ∀ s, BindsTo s (fnOf name qual params body scope dV kV doc pm an cdv ct) ⟨vs, []⟩ binds) (hloc : ∀ y ∈ binds, scope.names.lookup y.1 = some .local)
    (hcell : ∀ x ∈ scope.names, x.2 ≠ .cell) (hco : scope.isCoroutine = false) (hgen : scope.isGenerator = false) (hk : scope.kind = .function)
    (h : pre → ∀ (dp un : Nat) (gd : Option (List Code)) (cn : Str) (cs : Scope) (a : Addr) (ccd : Value) (cl : List (Str × Addr)) (outer : List Env) (L₀ : Addr) (base g : Heap) (L' : Addr) (s : Shared),
      cs.kind = .function → dp + k < recursionLimit → un + 8 * k < cLine → Below (ktrTop dp un gd cn cs L₀ a ccd cl outer) base (envX cn cs L₀ a ccd cl :: outer) g → Fr g L' s.heap (fun y => binds.reverse.lookup y) → K.In g → Top p loose mean mg mb g → News g L' s.heap [] →
      wpAny (model prog w) ((ktrTop dp un gd cn cs L₀ a ccd cl outer).deeper (envOf qual scope L' f cdv)) (execs body (envOf qual scope L' f cdv)) (DefEnd g L' R s) (fun _ _ => False) s) :
    Claim k prog w K p loose mean mg mb f pre vs R := by
  intro dp un gd cn cs a ccd cl outer A₀ base h₀ L m news s Q E B F X N T hck hpre hd hu hret
  have hroom : (ktrTop dp un gd cn cs L a ccd cl outer).depth < recursionLimit := by
    show dp < recursionLimit
    omega
  refine wpAny_call (codeAny_call_def (fd := fnOf name qual params body scope dV kV doc pm an cdv ct) (body := body) (binds := binds) hroom ((X.keeps F.keep) _ _ ho) rfl (T.nolimit.keeps F.keep) (codeRec_of (X.keeps F.keep) hcd) rfl (hbind s) hcell hloc (fun h₁ hns hk₁ => ?_) hco hgen hk)
  have P := pushX B F (env := envX cn cs L a ccd cl) rfl hck
  have b := h hpre dp un gd cn cs a ccd cl outer L base s.heap s.heap.objs.size { s with heap := h₁, toks := s.toks + binds.length } hck hd hu ⟨rfl, P.stays, P.frames⟩
    ⟨hns, hk₁, Nat.le_refl _⟩ (X.keeps F.keep) (T.keeps F.keep) News.nil
  refine wpAny_mono b (fun fl s' hf => ?_) fun _ _ x => x.elim
  obtain ⟨t, h', tk, m', rfl, F', e⟩ := hf
  have z := hret t h' tk ⟨F.ns.at' fun o q => F'.keep _ _ q, fun b o q => F'.keep b o (F.keep b o q), F.above⟩ (fun q hq => ⟨F'.keep _ _ (N q hq).1, (N q hq).2⟩) fun b o q => F'.keep b o q
  rw [← e] at z
  cases fl <;> exact z
/-- a claim taken at a call -/
theorem con_use {k : Nat} {prog : Program} {w : World} {K : Frag} {p : Program} {loose : List Str} {mean : ExcName → Option Value} {mg mb : Str → Option Value} {f : Addr} {pre : Prop} {vs : List Value} {R : Tok → Value}
    {dp un : Nat} {gd : Option (List Code)} {cn : Str} {cs : Scope} {a : Addr} {ccd : Value} {cl : List (Str × Addr)} {outer : List Env} {A₀ : Around} {base h₀ : Heap} {L : Addr} {m : Str → Option Value} {news : List (Addr × Obj)} {s : Shared} {Q E : Value → Shared → Prop}
    (C : Claim k prog w K p loose mean mg mb f pre vs R) (B : Below A₀ base outer h₀) (F : Fr h₀ L s.heap m) (X : K.In h₀) (N : News h₀ L s.heap news) (T : Top p loose mean mg mb h₀) (hck : cs.kind = .function) (hpre : pre) (hd : dp + k < recursionLimit) (hu : un + 8 * k < cLine)
    (ret : ∀ (t : Tok) (h' : Heap) (tk' : Nat), Fr h₀ L h' m → News h₀ L h' news → (∀ b o, s.heap.get? b = some o → h'.get? b = some o) → Q (R t) { s with heap := h', toks := tk' }) :
    wpAny (model prog w) (ktrTop dp un gd cn cs L a ccd cl outer) (call (.ref f) vs) Q E s := C _ _ _ _ _ _ _ _ _ _ _ _ _ _ _ _ _ _ B F X N T hck hpre hd hu ret
end Mine
namespace Mine
open PySem PySem.W PyProof.Rows PySem.Calls PySem.Builtin PySem.Builtin.Str
/-- the separator -/
abbrev sep : Str := ⟨#[44, 32]⟩
theorem gives_find4 (x y : Str) (i n : Int) (hn : n = x.length) (t u v v' : Tok) : Gives (Builtin.«str.find» ⟨[.str x t, .str y u, .int i v, .int n v'], []⟩) (.int (Txt.find3 x y i)) := by
  subst hn
  show Gives (match occurrences x y (fromIndex x.length i) (min (max 0 (if (x.length : Int) < 0 then (x.length : Int) + x.length else x.length)).toNat x.length) 1 with | k :: _ => retInt k | [] => (do rule "str.find.not-found"; retInt (-1))) _
  have e : min (max 0 (if (x.length : Int) < 0 then (x.length : Int) + x.length else x.length)).toNat x.length = x.length := by split <;> omega
  rw [e]
  unfold Txt.find3
  cases occurrences x y (fromIndex x.length i) x.length 1 with
  | nil => exact .rule (.of_eq rfl)
  | cons k _ => exact .of_eq rfl
theorem find3_empty (x : Str) (i : Int) (h0 : 0 ≤ i) (h1 : i ≤ x.length) : Txt.find3 x ⟨#[]⟩ i = i := by
  unfold Txt.find3
  have ef : fromIndex x.length i = i.toNat := by unfold fromIndex; split <;> omega
  rw [ef]
  have hat : StrLaws.At x ⟨#[]⟩ x.length i.toNat := by
    refine ⟨by show i.toNat + 0 ≤ x.length; omega, ?_⟩
    rw [StrLaws.subAt_eq]
    rfl
  rcases StrLaws.occ_head_from x ⟨#[]⟩ i.toNat 1 (Nat.le_refl 1) with ⟨h, hn⟩ | ⟨k, r, h, hlo, hk, hn⟩
  · exact absurd hat (hn _ (Nat.le_refl _))
  · rw [h]
    show (k : Int) = i
    by_cases hki : i.toNat < k
    · exact absurd hat (hn _ (Nat.le_refl _) hki)
    · omega
theorem find3_sep (x : Str) (i : Int) (h0 : 0 ≤ i) : Txt.find3 x sep i = -1 ∨ (i ≤ Txt.find3 x sep i ∧ Txt.find3 x sep i + 2 ≤ x.length) := by
  unfold Txt.find3
  have ef : fromIndex x.length i = i.toNat := by unfold fromIndex; split <;> omega
  rw [ef]
  rcases StrLaws.occ_head_from x sep i.toNat 1 (Nat.le_refl 1) with ⟨h, hn⟩ | ⟨k, r, h, hlo, hk, hn⟩
  · rw [h]; exact .inl rfl
  · rw [h]
    refine .inr ⟨?_, ?_⟩
    · show i ≤ (k : Int); omega
    · have := hk.1
      have e : sep.length = 2 := rfl
      rw [e] at this
      show (k : Int) + 2 ≤ x.length
      omega
section
variable {prog : Program} {w : World} {A : Around} {E : Value → Shared → Prop} {s : Shared} {x y : Str} {t u v v' : Tok} {i n : Int} {Q : Value → Shared → Prop}
theorem call_find_empty (hn : n = x.length) (h0 : 0 ≤ i) (h1 : i ≤ x.length) (hq : ∀ a b, Q (.int i a) { s with toks := b }) : wpAny (model prog w) A (call (.builtin "str.find") [.str x t, .str ⟨#[]⟩ u, .int i v, .int n v']) Q E s := by
  refine call_gives F.slot_str_find (typeIs_str _ _ _) F.entry_str_find (F.args_str_find_4 _ _ _ _) (gives_find4 x ⟨#[]⟩ i n hn t u v v') ?_
  rw [find3_empty x i h0 h1]
  exact hq _ _
theorem call_find_sep (hn : n = x.length) (h0 : 0 ≤ i) (hq : ∀ r a b, r = Txt.find3 x sep i → (r = -1 ∨ (i ≤ r ∧ r + 2 ≤ x.length)) → Q (.int r a) { s with toks := b }) : wpAny (model prog w) A (call (.builtin "str.find") [.str x t, .str ⟨#[44, 32]⟩ u, .int i v, .int n v']) Q E s := by
  refine call_gives F.slot_str_find (typeIs_str _ _ _) F.entry_str_find (F.args_str_find_4 _ _ _ _) (gives_find4 x sep i n hn t u v v') ?_
  exact hq _ _ _ rfl (find3_sep x i h0)
theorem call_len_empty (hq : ∀ a b, Q (.int 0 a) { s with toks := b }) : wpAny (model prog w) A (call (.builtin "len") [.str ⟨#[]⟩ t]) Q E s := len_str (by decide) (hq _ _)
theorem call_len_sep (hq : ∀ a b, Q (.int 2 a) { s with toks := b }) : wpAny (model prog w) A (call (.builtin "len") [.str ⟨#[44, 32]⟩ t]) Q E s := len_str (by decide) (hq _ _)
end
/-- as many separators as are asked -/
noncomputable def ellK (x : Str) : Nat → Int → Bool
  | 0, _ => true
  | k + 1, i => if Txt.find3 x sep i < 0 then false else ellK x k (Txt.find3 x sep i + 2)
section
variable {x : Str} {k : Nat} {r₁ r₂ r₃ : Int}
theorem ellF1 (e1 : r₁ = Txt.find3 x sep (0 + 0)) (h1 : r₁ < 0) : Value.bool false = Value.bool (ellK x (k + 1) 0) := by
  have e1' : r₁ = Txt.find3 x sep 0 := e1
  simp only [ellK, ← e1', if_pos h1]
theorem ellT1 (e1 : r₁ = Txt.find3 x sep (0 + 0)) (h1 : ¬ r₁ < 0) : Value.bool true = Value.bool (ellK x 1 0) := by
  have e1' : r₁ = Txt.find3 x sep 0 := e1
  simp only [ellK, ← e1', if_neg h1]
theorem ellF2 (e1 : r₁ = Txt.find3 x sep (0 + 0)) (h1 : ¬ r₁ < 0) (e2 : r₂ = Txt.find3 x sep (r₁ + 2)) (h2 : r₂ < 0) : Value.bool false = Value.bool (ellK x (k + 2) 0) := by
  have e1' : r₁ = Txt.find3 x sep 0 := e1
  simp only [ellK, ← e1', if_neg h1, ← e2, if_pos h2]
theorem ellT2 (e1 : r₁ = Txt.find3 x sep (0 + 0)) (h1 : ¬ r₁ < 0) (e2 : r₂ = Txt.find3 x sep (r₁ + 2)) (h2 : ¬ r₂ < 0) : Value.bool true = Value.bool (ellK x 2 0) := by
  have e1' : r₁ = Txt.find3 x sep 0 := e1
  simp only [ellK, ← e1', if_neg h1, ← e2, if_neg h2]
theorem ellF3 (e1 : r₁ = Txt.find3 x sep (0 + 0)) (h1 : ¬ r₁ < 0) (e2 : r₂ = Txt.find3 x sep (r₁ + 2)) (h2 : ¬ r₂ < 0) (e3 : r₃ = Txt.find3 x sep (r₂ + 2)) (h3 : r₃ < 0) : Value.bool false = Value.bool (ellK x (k + 3) 0) := by
  have e1' : r₁ = Txt.find3 x sep 0 := e1
  simp only [ellK, ← e1', if_neg h1, ← e2, if_neg h2, ← e3, if_pos h3]
theorem ellT3 (e1 : r₁ = Txt.find3 x sep (0 + 0)) (h1 : ¬ r₁ < 0) (e2 : r₂ = Txt.find3 x sep (r₁ + 2)) (h2 : ¬ r₂ < 0) (e3 : r₃ = Txt.find3 x sep (r₂ + 2)) (h3 : ¬ r₃ < 0) : Value.bool true = Value.bool (ellK x 3 0) := by
  have e1' : r₁ = Txt.find3 x sep 0 := e1
  simp only [ellK, ← e1', if_neg h1, ← e2, if_neg h2, ← e3, if_neg h3]
end
end Mine
namespace Mine
open PySem PySem.W PyProof.Rows PySem.Calls
noncomputable abbrev Lse : List Str := looseW hd.view_39 [Str.ofString "COMPILER_FLAG_NAMES"]
/-- the contract of a def of the text -/
abbrev Con (k : Nat) (w : World) (s₀ : Shared) (mg mb : Str → Option Value) (f : Addr) (pre : Prop) (vs : List Value) (R : Tok → Value) : Prop :=
  Claim k PySem.Challenge.rw_ty0015_01.row.prog w (hd.heap_39 w.params) hd.view_39 Lse (ExcName.means s₀.heap) mg mb f pre vs R
noncomputable def hexAt (p : Int) : Str := Str.ofString "0x" ++ Txt.item (Str.ofString "1248") (p.fmod 4) ++ Txt.mul (Str.ofString "0") (p.fdiv 4)
def loAt (p : Int) : Str := [Str.ofString "OPTIMIZED", Str.ofString "NEWLOCALS", Str.ofString "VARARGS", Str.ofString "VARKEYWORDS",
            Str.ofString "NESTED", Str.ofString "GENERATOR", Str.ofString "NOFREE", Str.ofString "COROUTINE",
            Str.ofString "ITERABLE_COROUTINE", Str.ofString "ASYNC_GENERATOR"].getD p.toNat Str.empty
theorem div_small {p : Int} (h : 10 ≤ p ∧ p < 40) : 0 ≤ p.fdiv 4 ∧ p.fdiv 4 < 10 := by
  rw [Int.fdiv_eq_ediv_of_nonneg _ (by decide)]; omega
set_option maxRecDepth 100000 in
set_option maxHeartbeats 8000000 in
theorem word_hi (w : World) (s₀ : Shared) (mg mb : Str → Option Value) (p : Int) (t : Tok) :
  Con 1 w s₀ mg mb 68 (10 ≤ p ∧ p < 40) [.int p t] (fun t => .str (hexAt p) t) := by
  (w_on; dsimp only [Con]; k_fill; (refine' con_of_body (by decide) ?ho ?hcd ?hb ?hl ?hc ?c2 ?c3 ?c4 ?_; (case ho => k_is); (case hcd => k_is); (case hb => (intro s; exact BindsTo.of_eq rfl)); (case hl => exact locs rfl); (case hc => decide); (case c2 => exact rfl); (case c3 => exact rfl); (case c4 => exact rfl); intro zhpre zdp zun zgd zcn zcs za zccd zcl zouter zL₀ zbase zg zL9 zs zhck zhd zhu zB9 zF9 zX9 zT9 zN9; (try dsimp only); k_fold))
  have hsm := div_small (by assumption)
  repeat' (first | ((with_reducible show DefEnd _ _ _ _ _ _); exact ⟨_, _, _, _, rfl, by k_asm, rfl⟩) | (k_unfold; (try dsimp only)) | walk1 | (dsimp only; walk1) | fail "no step")
set_option maxRecDepth 100000 in
set_option maxHeartbeats 8000000 in
theorem word_lo (w : World) (s₀ : Shared) (mg mb : Str → Option Value) (p : Int) (t : Tok) :
  Con 1 w s₀ mg mb 68 (0 ≤ p ∧ p < 10) [.int p t] (fun t => .str (loAt p) t) := by
  (w_on; dsimp only [Con]; k_fill; (refine' con_of_body (by decide) ?ho ?hcd ?hb ?hl ?hc ?c2 ?c3 ?c4 ?_; (case ho => k_is); (case hcd => k_is); (case hb => (intro s; exact BindsTo.of_eq rfl)); (case hl => exact locs rfl); (case hc => decide); (case c2 => exact rfl); (case c3 => exact rfl); (case c4 => exact rfl); intro zhpre zdp zun zgd zcn zcs za zccd zcl zouter zL₀ zbase zg zL9 zs zhck zhd zhu zB9 zF9 zX9 zT9 zN9; (try dsimp only); k_fold))
  repeat' (first | ((with_reducible show DefEnd _ _ _ _ _ _); exact ⟨_, _, _, _, rfl, by k_asm, rfl⟩) | (k_unfold; (try dsimp only)) | walk1 | (dsimp only; walk1) | fail "no step")
end Mine
namespace Mine
open PySem PySem.W PyProof.Rows PySem.Calls
set_option maxRecDepth 100000 in
set_option maxHeartbeats 8000000 in
theorem ell_0 (w : World) (s₀ : Shared) (mg mb : Str → Option Value) (x : Str) (t u : Tok) :
  Con 1 w s₀ mg mb 29 (x.length < 1000) [.str (Str.ofString "0x0") t, .str x u] (fun _ => .bool (Str.ofString "0x0" == x)) := by
  (w_on; dsimp only [Con]; k_fill; (refine' con_of_body (by decide) ?ho ?hcd ?hb ?hl ?hc ?c2 ?c3 ?c4 ?_; (case ho => k_is); (case hcd => k_is); (case hb => (intro s; exact BindsTo.of_eq rfl)); (case hl => exact locs rfl); (case hc => decide); (case c2 => exact rfl); (case c3 => exact rfl); (case c4 => exact rfl); intro zhpre zdp zun zgd zcn zcs za zccd zcl zouter zL₀ zbase zg zL9 zs zhck zhd zhu zB9 zF9 zX9 zT9 zN9; (try dsimp only); k_fold))
  have hocc : (Builtin.Str.occurrences (Str.ofString "0x0") (Str.ofString "...") 0 (Str.ofString "0x0").length 1).isEmpty = true := by decide +kernel
  repeat' (first | ((with_reducible show DefEnd _ _ _ _ _ _); refine ⟨0, _, _, _, rfl, by k_asm, ?_⟩; (try dsimp only [retV]); first | done | (with_reducible first | exact ellF1 (by assumption) (by assumption) | exact ellT1 (by assumption) (by assumption) | exact ellF2 (by assumption) (by assumption) (by assumption) (by assumption) | exact ellT2 (by assumption) (by assumption) (by assumption) (by assumption) | exact ellF3 (by assumption) (by assumption) (by assumption) (by assumption) (by assumption) (by assumption) | exact ellT3 (by assumption) (by assumption) (by assumption) (by assumption) (by assumption) (by assumption)) | exact rfl) | ((with_reducible show wpAny _ _ (call (Value.builtin "str.find") _) _ _ _); (first | (refine' call_find_empty ?k1 ?k2 ?k3 ?_; (case k1 => rfl); (case k2 => omega); (case k3 => omega); intro a' b'; try dsimp only) | (refine' call_find_sep ?k1 ?k2 ?_; (case k1 => rfl); (case k2 => omega); intro r' a' b' he' hr'; try dsimp only))) | ((with_reducible show wpAny _ _ (call (Value.builtin "len") [Value.str ⟨_⟩ _]) _ _ _); (first | refine call_len_empty ?_ | refine call_len_sep ?_); intro a' b'; try dsimp only) | (k_unfold; (try dsimp only)) | walk1 | (dsimp only; walk1) | fail "no step")
  all_goals exact Bool.noConfusion (hocc.symm.trans (by assumption) : false = true)
set_option maxRecDepth 100000 in
set_option maxHeartbeats 8000000 in
theorem ell_1 (w : World) (s₀ : Shared) (mg mb : Str → Option Value) (x : Str) (t u : Tok) :
  Con 1 w s₀ mg mb 29 (x.length < 1000) [.str (Str.ofString "..., ...") t, .str x u] (fun _ => .bool (ellK x 1 0)) := by
  (w_on; dsimp only [Con]; k_fill; (refine' con_of_body (by decide) ?ho ?hcd ?hb ?hl ?hc ?c2 ?c3 ?c4 ?_; (case ho => k_is); (case hcd => k_is); (case hb => (intro s; exact BindsTo.of_eq rfl)); (case hl => exact locs rfl); (case hc => decide); (case c2 => exact rfl); (case c3 => exact rfl); (case c4 => exact rfl); intro zhpre zdp zun zgd zcn zcs za zccd zcl zouter zL₀ zbase zg zL9 zs zhck zhd zhu zB9 zF9 zX9 zT9 zN9; (try dsimp only); k_fold))
  have hocc : (Builtin.Str.occurrences (Str.ofString "..., ...") (Str.ofString "...") 0 (Str.ofString "..., ...").length 1).isEmpty = false := by decide +kernel
  repeat' (first | ((with_reducible show DefEnd _ _ _ _ _ _); refine ⟨0, _, _, _, rfl, by k_asm, ?_⟩; (try dsimp only [retV]); first | done | (with_reducible first | exact ellF1 (by assumption) (by assumption) | exact ellT1 (by assumption) (by assumption) | exact ellF2 (by assumption) (by assumption) (by assumption) (by assumption) | exact ellT2 (by assumption) (by assumption) (by assumption) (by assumption) | exact ellF3 (by assumption) (by assumption) (by assumption) (by assumption) (by assumption) (by assumption) | exact ellT3 (by assumption) (by assumption) (by assumption) (by assumption) (by assumption) (by assumption)) | exact rfl) | ((with_reducible show wpAny _ _ (call (Value.builtin "str.find") _) _ _ _); (first | (refine' call_find_empty ?k1 ?k2 ?k3 ?_; (case k1 => rfl); (case k2 => omega); (case k3 => omega); intro a' b'; try dsimp only) | (refine' call_find_sep ?k1 ?k2 ?_; (case k1 => rfl); (case k2 => omega); intro r' a' b' he' hr'; try dsimp only))) | ((with_reducible show wpAny _ _ (call (Value.builtin "len") [Value.str ⟨_⟩ _]) _ _ _); (first | refine call_len_empty ?_ | refine call_len_sep ?_); intro a' b'; try dsimp only) | (k_unfold; (try dsimp only)) | walk1 | (dsimp only; walk1) | fail "no step")
  all_goals exact Bool.noConfusion (hocc.symm.trans (by assumption) : false = true)
set_option maxRecDepth 100000 in
set_option maxHeartbeats 8000000 in
theorem ell_2 (w : World) (s₀ : Shared) (mg mb : Str → Option Value) (x : Str) (t u : Tok) :
  Con 1 w s₀ mg mb 29 (x.length < 1000) [.str (Str.ofString "..., ..., ...") t, .str x u] (fun _ => .bool (ellK x 2 0)) := by
  (w_on; dsimp only [Con]; k_fill; (refine' con_of_body (by decide) ?ho ?hcd ?hb ?hl ?hc ?c2 ?c3 ?c4 ?_; (case ho => k_is); (case hcd => k_is); (case hb => (intro s; exact BindsTo.of_eq rfl)); (case hl => exact locs rfl); (case hc => decide); (case c2 => exact rfl); (case c3 => exact rfl); (case c4 => exact rfl); intro zhpre zdp zun zgd zcn zcs za zccd zcl zouter zL₀ zbase zg zL9 zs zhck zhd zhu zB9 zF9 zX9 zT9 zN9; (try dsimp only); k_fold))
  have hocc : (Builtin.Str.occurrences (Str.ofString "..., ..., ...") (Str.ofString "...") 0 (Str.ofString "..., ..., ...").length 1).isEmpty = false := by decide +kernel
  repeat' (first | ((with_reducible show DefEnd _ _ _ _ _ _); refine ⟨0, _, _, _, rfl, by k_asm, ?_⟩; (try dsimp only [retV]); first | done | (with_reducible first | exact ellF1 (by assumption) (by assumption) | exact ellT1 (by assumption) (by assumption) | exact ellF2 (by assumption) (by assumption) (by assumption) (by assumption) | exact ellT2 (by assumption) (by assumption) (by assumption) (by assumption) | exact ellF3 (by assumption) (by assumption) (by assumption) (by assumption) (by assumption) (by assumption) | exact ellT3 (by assumption) (by assumption) (by assumption) (by assumption) (by assumption) (by assumption)) | exact rfl) | ((with_reducible show wpAny _ _ (call (Value.builtin "str.find") _) _ _ _); (first | (refine' call_find_empty ?k1 ?k2 ?k3 ?_; (case k1 => rfl); (case k2 => omega); (case k3 => omega); intro a' b'; try dsimp only) | (refine' call_find_sep ?k1 ?k2 ?_; (case k1 => rfl); (case k2 => omega); intro r' a' b' he' hr'; try dsimp only))) | ((with_reducible show wpAny _ _ (call (Value.builtin "len") [Value.str ⟨_⟩ _]) _ _ _); (first | refine call_len_empty ?_ | refine call_len_sep ?_); intro a' b'; try dsimp only) | (k_unfold; (try dsimp only)) | walk1 | (dsimp only; walk1) | fail "no step")
  all_goals exact Bool.noConfusion (hocc.symm.trans (by assumption) : false = true)
set_option maxRecDepth 100000 in
set_option maxHeartbeats 8000000 in
theorem ell_3 (w : World) (s₀ : Shared) (mg mb : Str → Option Value) (x : Str) (t u : Tok) :
  Con 1 w s₀ mg mb 29 (x.length < 1000) [.str (Str.ofString "..., ..., ..., ...") t, .str x u] (fun _ => .bool (ellK x 3 0)) := by
  (w_on; dsimp only [Con]; k_fill; (refine' con_of_body (by decide) ?ho ?hcd ?hb ?hl ?hc ?c2 ?c3 ?c4 ?_; (case ho => k_is); (case hcd => k_is); (case hb => (intro s; exact BindsTo.of_eq rfl)); (case hl => exact locs rfl); (case hc => decide); (case c2 => exact rfl); (case c3 => exact rfl); (case c4 => exact rfl); intro zhpre zdp zun zgd zcn zcs za zccd zcl zouter zL₀ zbase zg zL9 zs zhck zhd zhu zB9 zF9 zX9 zT9 zN9; (try dsimp only); k_fold))
  have hocc : (Builtin.Str.occurrences (Str.ofString "..., ..., ..., ...") (Str.ofString "...") 0 (Str.ofString "..., ..., ..., ...").length 1).isEmpty = false := by decide +kernel
  repeat' (first | ((with_reducible show DefEnd _ _ _ _ _ _); refine ⟨0, _, _, _, rfl, by k_asm, ?_⟩; (try dsimp only [retV]); first | done | (with_reducible first | exact ellF1 (by assumption) (by assumption) | exact ellT1 (by assumption) (by assumption) | exact ellF2 (by assumption) (by assumption) (by assumption) (by assumption) | exact ellT2 (by assumption) (by assumption) (by assumption) (by assumption) | exact ellF3 (by assumption) (by assumption) (by assumption) (by assumption) (by assumption) (by assumption) | exact ellT3 (by assumption) (by assumption) (by assumption) (by assumption) (by assumption) (by assumption)) | exact rfl) | ((with_reducible show wpAny _ _ (call (Value.builtin "str.find") _) _ _ _); (first | (refine' call_find_empty ?k1 ?k2 ?k3 ?_; (case k1 => rfl); (case k2 => omega); (case k3 => omega); intro a' b'; try dsimp only) | (refine' call_find_sep ?k1 ?k2 ?_; (case k1 => rfl); (case k2 => omega); intro r' a' b' he' hr'; try dsimp only))) | ((with_reducible show wpAny _ _ (call (Value.builtin "len") [Value.str ⟨_⟩ _]) _ _ _); (first | refine call_len_empty ?_ | refine call_len_sep ?_); intro a' b'; try dsimp only) | (k_unfold; (try dsimp only)) | walk1 | (dsimp only; walk1) | fail "no step")
  all_goals exact Bool.noConfusion (hocc.symm.trans (by assumption) : false = true)
end Mine
namespace Mine
open PySem PySem.W PyProof.Rows PySem.Calls
section
variable (w : World) (s₀ : Shared) (mg mb : Str → Option Value) (x y : Str) (t u : Tok)
theorem ell_1y (hy : y = Str.ofString "..., ...") : Con 1 w s₀ mg mb 29 (x.length < 1000) [.str y t, .str x u] (fun _ => .bool (ellK x 1 0)) := by subst hy; exact ell_1 w s₀ mg mb x t u
theorem ell_2y (hy : y = Str.ofString "..., ..., ...") : Con 1 w s₀ mg mb 29 (x.length < 1000) [.str y t, .str x u] (fun _ => .bool (ellK x 2 0)) := by subst hy; exact ell_2 w s₀ mg mb x t u
theorem ell_3y (hy : y = Str.ofString "..., ..., ..., ...") : Con 1 w s₀ mg mb 29 (x.length < 1000) [.str y t, .str x u] (fun _ => .bool (ellK x 3 0)) := by subst hy; exact ell_3 w s₀ mg mb x t u
end
theorem mk_int {a b : Int} {t : Tok} (h : a = b) : Value.int a t = Value.int b t := by rw [h]
noncomputable def marksOf (x : Str) : Nat → Int
  | 0 => 1
  | n + 1 => marksOf x n + (if ellK x (n + 1) 0 = true then 1 else 0)
/-- what _law_marks gives -/
noncomputable def marksR (x : Str) (n : Nat) : Int := if (Str.ofString "0x0" == x) = true then 0 else marksOf x (n - 1)
set_option maxRecDepth 100000 in
set_option maxHeartbeats 8000000 in
theorem marks_2 (w : World) (s₀ : Shared) (mg mb : Str → Option Value) (x : Str) (t u : Tok) :
  Con 2 w s₀ mg mb 75 (x.length < 1000) [.str x t, .int 2 u] (fun t => .int (marksR x 2) t) := by
  (w_on; dsimp only [Con]; k_fill; (refine' con_of_body (by decide) ?ho ?hcd ?hb ?hl ?hc ?c2 ?c3 ?c4 ?_; (case ho => k_is); (case hcd => k_is); (case hb => (intro s; exact BindsTo.of_eq rfl)); (case hl => exact locs rfl); (case hc => decide); (case c2 => exact rfl); (case c3 => exact rfl); (case c4 => exact rfl); intro zhpre zdp zun zgd zcn zcs za zccd zcl zouter zL₀ zbase zg zL9 zs zhck zhd zhu zB9 zF9 zX9 zT9 zN9; (try dsimp only); k_fold))
  repeat' (first | ((with_reducible show DefEnd _ _ _ _ _ _); refine ⟨_, _, _, _, rfl, by k_asm, mk_int ?_⟩; simp [marksR, marksOf, *]) | ((with_reducible show wpAny _ _ (call (Value.ref _) _) _ _ _); k_dflt (first | (refine' con_use (ell_0 _ _ _ _ _ _ _) ?B ?F ?X ?N ?T ?hk ?hp ?hd ?hu ?_; (case B => k_asm); (case F => k_asm); (case X => k_asm); (case N => k_asm); (case T => k_asm); (case hk => exact rfl); (case hp => k_asm); (case hd => ((try dsimp only [ktrTop, Around.deeper]); omega)); (case hu => ((try dsimp only [ktrTop, Around.deeper]); omega)); intro t9 h9 tk9 F9 N9 K9; (try dsimp only)) | (refine' con_use (ell_1y _ _ _ _ _ _ _ _ ?hy) ?B ?F ?X ?N ?T ?hk ?hp ?hd ?hu ?_; (case hy => decide +kernel); (case B => k_asm); (case F => k_asm); (case X => k_asm); (case N => k_asm); (case T => k_asm); (case hk => exact rfl); (case hp => k_asm); (case hd => ((try dsimp only [ktrTop, Around.deeper]); omega)); (case hu => ((try dsimp only [ktrTop, Around.deeper]); omega)); intro t9 h9 tk9 F9 N9 K9; (try dsimp only)) | (refine' con_use (ell_2y _ _ _ _ _ _ _ _ ?hy) ?B ?F ?X ?N ?T ?hk ?hp ?hd ?hu ?_; (case hy => decide +kernel); (case B => k_asm); (case F => k_asm); (case X => k_asm); (case N => k_asm); (case T => k_asm); (case hk => exact rfl); (case hp => k_asm); (case hd => ((try dsimp only [ktrTop, Around.deeper]); omega)); (case hu => ((try dsimp only [ktrTop, Around.deeper]); omega)); intro t9 h9 tk9 F9 N9 K9; (try dsimp only)) | (refine' con_use (ell_3y _ _ _ _ _ _ _ _ ?hy) ?B ?F ?X ?N ?T ?hk ?hp ?hd ?hu ?_; (case hy => decide +kernel); (case B => k_asm); (case F => k_asm); (case X => k_asm); (case N => k_asm); (case T => k_asm); (case hk => exact rfl); (case hp => k_asm); (case hd => ((try dsimp only [ktrTop, Around.deeper]); omega)); (case hu => ((try dsimp only [ktrTop, Around.deeper]); omega)); intro t9 h9 tk9 F9 N9 K9; (try dsimp only)))) | (k_unfold; (try dsimp only)) | walk1 | (dsimp only; walk1) | fail "no step")
set_option maxRecDepth 100000 in
set_option maxHeartbeats 8000000 in
theorem marks_3 (w : World) (s₀ : Shared) (mg mb : Str → Option Value) (x : Str) (t u : Tok) :
  Con 2 w s₀ mg mb 75 (x.length < 1000) [.str x t, .int 3 u] (fun t => .int (marksR x 3) t) := by
  (w_on; dsimp only [Con]; k_fill; (refine' con_of_body (by decide) ?ho ?hcd ?hb ?hl ?hc ?c2 ?c3 ?c4 ?_; (case ho => k_is); (case hcd => k_is); (case hb => (intro s; exact BindsTo.of_eq rfl)); (case hl => exact locs rfl); (case hc => decide); (case c2 => exact rfl); (case c3 => exact rfl); (case c4 => exact rfl); intro zhpre zdp zun zgd zcn zcs za zccd zcl zouter zL₀ zbase zg zL9 zs zhck zhd zhu zB9 zF9 zX9 zT9 zN9; (try dsimp only); k_fold))
  repeat' (first | ((with_reducible show DefEnd _ _ _ _ _ _); refine ⟨_, _, _, _, rfl, by k_asm, mk_int ?_⟩; simp [marksR, marksOf, *]) | ((with_reducible show wpAny _ _ (call (Value.ref _) _) _ _ _); k_dflt (first | (refine' con_use (ell_0 _ _ _ _ _ _ _) ?B ?F ?X ?N ?T ?hk ?hp ?hd ?hu ?_; (case B => k_asm); (case F => k_asm); (case X => k_asm); (case N => k_asm); (case T => k_asm); (case hk => exact rfl); (case hp => k_asm); (case hd => ((try dsimp only [ktrTop, Around.deeper]); omega)); (case hu => ((try dsimp only [ktrTop, Around.deeper]); omega)); intro t9 h9 tk9 F9 N9 K9; (try dsimp only)) | (refine' con_use (ell_1y _ _ _ _ _ _ _ _ ?hy) ?B ?F ?X ?N ?T ?hk ?hp ?hd ?hu ?_; (case hy => decide +kernel); (case B => k_asm); (case F => k_asm); (case X => k_asm); (case N => k_asm); (case T => k_asm); (case hk => exact rfl); (case hp => k_asm); (case hd => ((try dsimp only [ktrTop, Around.deeper]); omega)); (case hu => ((try dsimp only [ktrTop, Around.deeper]); omega)); intro t9 h9 tk9 F9 N9 K9; (try dsimp only)) | (refine' con_use (ell_2y _ _ _ _ _ _ _ _ ?hy) ?B ?F ?X ?N ?T ?hk ?hp ?hd ?hu ?_; (case hy => decide +kernel); (case B => k_asm); (case F => k_asm); (case X => k_asm); (case N => k_asm); (case T => k_asm); (case hk => exact rfl); (case hp => k_asm); (case hd => ((try dsimp only [ktrTop, Around.deeper]); omega)); (case hu => ((try dsimp only [ktrTop, Around.deeper]); omega)); intro t9 h9 tk9 F9 N9 K9; (try dsimp only)) | (refine' con_use (ell_3y _ _ _ _ _ _ _ _ ?hy) ?B ?F ?X ?N ?T ?hk ?hp ?hd ?hu ?_; (case hy => decide +kernel); (case B => k_asm); (case F => k_asm); (case X => k_asm); (case N => k_asm); (case T => k_asm); (case hk => exact rfl); (case hp => k_asm); (case hd => ((try dsimp only [ktrTop, Around.deeper]); omega)); (case hu => ((try dsimp only [ktrTop, Around.deeper]); omega)); intro t9 h9 tk9 F9 N9 K9; (try dsimp only)))) | (k_unfold; (try dsimp only)) | walk1 | (dsimp only; walk1) | fail "no step")
set_option maxRecDepth 100000 in
set_option maxHeartbeats 8000000 in
theorem marks_4 (w : World) (s₀ : Shared) (mg mb : Str → Option Value) (x : Str) (t u : Tok) :
  Con 2 w s₀ mg mb 75 (x.length < 1000) [.str x t, .int 4 u] (fun t => .int (marksR x 4) t) := by
  (w_on; dsimp only [Con]; k_fill; (refine' con_of_body (by decide) ?ho ?hcd ?hb ?hl ?hc ?c2 ?c3 ?c4 ?_; (case ho => k_is); (case hcd => k_is); (case hb => (intro s; exact BindsTo.of_eq rfl)); (case hl => exact locs rfl); (case hc => decide); (case c2 => exact rfl); (case c3 => exact rfl); (case c4 => exact rfl); intro zhpre zdp zun zgd zcn zcs za zccd zcl zouter zL₀ zbase zg zL9 zs zhck zhd zhu zB9 zF9 zX9 zT9 zN9; (try dsimp only); k_fold))
  repeat' (first | ((with_reducible show DefEnd _ _ _ _ _ _); refine ⟨_, _, _, _, rfl, by k_asm, mk_int ?_⟩; simp [marksR, marksOf, *]) | ((with_reducible show wpAny _ _ (call (Value.ref _) _) _ _ _); k_dflt (first | (refine' con_use (ell_0 _ _ _ _ _ _ _) ?B ?F ?X ?N ?T ?hk ?hp ?hd ?hu ?_; (case B => k_asm); (case F => k_asm); (case X => k_asm); (case N => k_asm); (case T => k_asm); (case hk => exact rfl); (case hp => k_asm); (case hd => ((try dsimp only [ktrTop, Around.deeper]); omega)); (case hu => ((try dsimp only [ktrTop, Around.deeper]); omega)); intro t9 h9 tk9 F9 N9 K9; (try dsimp only)) | (refine' con_use (ell_1y _ _ _ _ _ _ _ _ ?hy) ?B ?F ?X ?N ?T ?hk ?hp ?hd ?hu ?_; (case hy => decide +kernel); (case B => k_asm); (case F => k_asm); (case X => k_asm); (case N => k_asm); (case T => k_asm); (case hk => exact rfl); (case hp => k_asm); (case hd => ((try dsimp only [ktrTop, Around.deeper]); omega)); (case hu => ((try dsimp only [ktrTop, Around.deeper]); omega)); intro t9 h9 tk9 F9 N9 K9; (try dsimp only)) | (refine' con_use (ell_2y _ _ _ _ _ _ _ _ ?hy) ?B ?F ?X ?N ?T ?hk ?hp ?hd ?hu ?_; (case hy => decide +kernel); (case B => k_asm); (case F => k_asm); (case X => k_asm); (case N => k_asm); (case T => k_asm); (case hk => exact rfl); (case hp => k_asm); (case hd => ((try dsimp only [ktrTop, Around.deeper]); omega)); (case hu => ((try dsimp only [ktrTop, Around.deeper]); omega)); intro t9 h9 tk9 F9 N9 K9; (try dsimp only)) | (refine' con_use (ell_3y _ _ _ _ _ _ _ _ ?hy) ?B ?F ?X ?N ?T ?hk ?hp ?hd ?hu ?_; (case hy => decide +kernel); (case B => k_asm); (case F => k_asm); (case X => k_asm); (case N => k_asm); (case T => k_asm); (case hk => exact rfl); (case hp => k_asm); (case hd => ((try dsimp only [ktrTop, Around.deeper]); omega)); (case hu => ((try dsimp only [ktrTop, Around.deeper]); omega)); intro t9 h9 tk9 F9 N9 K9; (try dsimp only)))) | (k_unfold; (try dsimp only)) | walk1 | (dsimp only; walk1) | fail "no step")
end Mine
namespace Mine
open PySem PySem.W PyProof.Rows PySem.Calls PySem.Builtin PySem.Builtin.Str
theorem q257 : Str.ofString "257" = ⟨#[50, 53, 55]⟩ := by decide +kernel
theorem qbq : Str.ofString " \"" = ⟨#[32, 34]⟩ := by decide +kernel
theorem qq : Str.ofString "\"" = ⟨#[34]⟩ := by decide +kernel
theorem qe : Str.ofString "" = ⟨#[]⟩ := by decide +kernel
theorem ne_q {c : Nat} (hc : c ≠ 34) : ((⟨#[c]⟩ : Str) == ⟨#[34]⟩) = false := by
  apply Bool.eq_false_iff.mpr
  intro h
  have h1 := eq_of_beq h
  injection h1 with h2
  have h3 : [c] = [34] := congrArg Array.toList h2
  injection h3 with h4
  exact hc h4
/-- what parse257 asks of a text with 0 quotation marks and a sign behind -/
structure PF0 (x : Str) (c : Nat) : Prop where
  len : (x.length : Int) = 6
  s1 : ¬ ((Txt.slice x none (some 3) != Str.ofString "257") = true)
  s2 : ¬ ((Txt.slice x (some 3) (some 5) != Str.ofString " \"") = true)
  i0 : Txt.item x (5) = ⟨#[c]⟩
  e0 : ¬ ((Txt.item x (5) == Str.ofString "\"") = true)
  n0 : (Txt.item x (5) != Str.ofString "\"") = true
theorem pf0 {c : Nat} (hc : c ≠ 34) : PF0 ⟨#[50, 53, 55, 32, 34, c]⟩ c := by
  have a1 : Txt.slice ⟨#[50, 53, 55, 32, 34, c]⟩ none (some 3) = ⟨#[50, 53, 55]⟩ := rfl
  have a2 : Txt.slice ⟨#[50, 53, 55, 32, 34, c]⟩ (some 3) (some 5) = ⟨#[32, 34]⟩ := rfl
  have b0 : Txt.item ⟨#[50, 53, 55, 32, 34, c]⟩ (5) = ⟨#[c]⟩ := rfl
  exact ⟨rfl, by rw [a1, q257]; decide, by rw [a2, qbq]; decide, b0, by rw [b0, qq, ne_q hc]; decide, by rw [b0, qq, bne, ne_q hc]; decide⟩
/-- what parse257 asks of a text with 1 quotation marks and a sign behind -/
structure PF1 (x : Str) (c : Nat) : Prop where
  len : (x.length : Int) = 7
  s1 : ¬ ((Txt.slice x none (some 3) != Str.ofString "257") = true)
  s2 : ¬ ((Txt.slice x (some 3) (some 5) != Str.ofString " \"") = true)
  i0 : Txt.item x (5) = ⟨#[34]⟩
  e0 : (Txt.item x (5) == Str.ofString "\"") = true
  n0 : ¬ ((Txt.item x (5) != Str.ofString "\"") = true)
  i1 : Txt.item x (5 + 1) = ⟨#[c]⟩
  e1 : ¬ ((Txt.item x (5 + 1) == Str.ofString "\"") = true)
  n1 : (Txt.item x (5 + 1) != Str.ofString "\"") = true
theorem pf1 {c : Nat} (hc : c ≠ 34) : PF1 ⟨#[50, 53, 55, 32, 34, 34, c]⟩ c := by
  have a1 : Txt.slice ⟨#[50, 53, 55, 32, 34, 34, c]⟩ none (some 3) = ⟨#[50, 53, 55]⟩ := rfl
  have a2 : Txt.slice ⟨#[50, 53, 55, 32, 34, 34, c]⟩ (some 3) (some 5) = ⟨#[32, 34]⟩ := rfl
  have b0 : Txt.item ⟨#[50, 53, 55, 32, 34, 34, c]⟩ (5) = ⟨#[34]⟩ := rfl
  have b1 : Txt.item ⟨#[50, 53, 55, 32, 34, 34, c]⟩ (5 + 1) = ⟨#[c]⟩ := rfl
  exact ⟨rfl, by rw [a1, q257]; decide, by rw [a2, qbq]; decide, b0, by rw [b0, qq]; decide, by rw [b0, qq]; decide, b1, by rw [b1, qq, ne_q hc]; decide, by rw [b1, qq, bne, ne_q hc]; decide⟩
/-- what parse257 asks of a text with 2 quotation marks and a sign behind -/
structure PF2 (x : Str) (c : Nat) : Prop where
  len : (x.length : Int) = 8
  s1 : ¬ ((Txt.slice x none (some 3) != Str.ofString "257") = true)
  s2 : ¬ ((Txt.slice x (some 3) (some 5) != Str.ofString " \"") = true)
  i0 : Txt.item x (5) = ⟨#[34]⟩
  e0 : (Txt.item x (5) == Str.ofString "\"") = true
  n0 : ¬ ((Txt.item x (5) != Str.ofString "\"") = true)
  i1 : Txt.item x (5 + 1) = ⟨#[34]⟩
  e1 : (Txt.item x (5 + 1) == Str.ofString "\"") = true
  n1 : ¬ ((Txt.item x (5 + 1) != Str.ofString "\"") = true)
  i2 : Txt.item x (5 + 1 + 1) = ⟨#[c]⟩
  e2 : ¬ ((Txt.item x (5 + 1 + 1) == Str.ofString "\"") = true)
  n2 : (Txt.item x (5 + 1 + 1) != Str.ofString "\"") = true
theorem pf2 {c : Nat} (hc : c ≠ 34) : PF2 ⟨#[50, 53, 55, 32, 34, 34, 34, c]⟩ c := by
  have a1 : Txt.slice ⟨#[50, 53, 55, 32, 34, 34, 34, c]⟩ none (some 3) = ⟨#[50, 53, 55]⟩ := rfl
  have a2 : Txt.slice ⟨#[50, 53, 55, 32, 34, 34, 34, c]⟩ (some 3) (some 5) = ⟨#[32, 34]⟩ := rfl
  have b0 : Txt.item ⟨#[50, 53, 55, 32, 34, 34, 34, c]⟩ (5) = ⟨#[34]⟩ := rfl
  have b1 : Txt.item ⟨#[50, 53, 55, 32, 34, 34, 34, c]⟩ (5 + 1) = ⟨#[34]⟩ := rfl
  have b2 : Txt.item ⟨#[50, 53, 55, 32, 34, 34, 34, c]⟩ (5 + 1 + 1) = ⟨#[c]⟩ := rfl
  exact ⟨rfl, by rw [a1, q257]; decide, by rw [a2, qbq]; decide, b0, by rw [b0, qq]; decide, by rw [b0, qq]; decide, b1, by rw [b1, qq]; decide, by rw [b1, qq]; decide, b2, by rw [b2, qq, ne_q hc]; decide, by rw [b2, qq, bne, ne_q hc]; decide⟩
/-- what parse257 asks of a text with 3 quotation marks and a sign behind -/
structure PF3 (x : Str) (c : Nat) : Prop where
  len : (x.length : Int) = 9
  s1 : ¬ ((Txt.slice x none (some 3) != Str.ofString "257") = true)
  s2 : ¬ ((Txt.slice x (some 3) (some 5) != Str.ofString " \"") = true)
  i0 : Txt.item x (5) = ⟨#[34]⟩
  e0 : (Txt.item x (5) == Str.ofString "\"") = true
  n0 : ¬ ((Txt.item x (5) != Str.ofString "\"") = true)
  i1 : Txt.item x (5 + 1) = ⟨#[34]⟩
  e1 : (Txt.item x (5 + 1) == Str.ofString "\"") = true
  n1 : ¬ ((Txt.item x (5 + 1) != Str.ofString "\"") = true)
  i2 : Txt.item x (5 + 1 + 1) = ⟨#[34]⟩
  e2 : (Txt.item x (5 + 1 + 1) == Str.ofString "\"") = true
  n2 : ¬ ((Txt.item x (5 + 1 + 1) != Str.ofString "\"") = true)
  i3 : Txt.item x (5 + 1 + 1 + 1) = ⟨#[c]⟩
  e3 : ¬ ((Txt.item x (5 + 1 + 1 + 1) == Str.ofString "\"") = true)
  n3 : (Txt.item x (5 + 1 + 1 + 1) != Str.ofString "\"") = true
theorem pf3 {c : Nat} (hc : c ≠ 34) : PF3 ⟨#[50, 53, 55, 32, 34, 34, 34, 34, c]⟩ c := by
  have a1 : Txt.slice ⟨#[50, 53, 55, 32, 34, 34, 34, 34, c]⟩ none (some 3) = ⟨#[50, 53, 55]⟩ := rfl
  have a2 : Txt.slice ⟨#[50, 53, 55, 32, 34, 34, 34, 34, c]⟩ (some 3) (some 5) = ⟨#[32, 34]⟩ := rfl
  have b0 : Txt.item ⟨#[50, 53, 55, 32, 34, 34, 34, 34, c]⟩ (5) = ⟨#[34]⟩ := rfl
  have b1 : Txt.item ⟨#[50, 53, 55, 32, 34, 34, 34, 34, c]⟩ (5 + 1) = ⟨#[34]⟩ := rfl
  have b2 : Txt.item ⟨#[50, 53, 55, 32, 34, 34, 34, 34, c]⟩ (5 + 1 + 1) = ⟨#[34]⟩ := rfl
  have b3 : Txt.item ⟨#[50, 53, 55, 32, 34, 34, 34, 34, c]⟩ (5 + 1 + 1 + 1) = ⟨#[c]⟩ := rfl
  exact ⟨rfl, by rw [a1, q257]; decide, by rw [a2, qbq]; decide, b0, by rw [b0, qq]; decide, by rw [b0, qq]; decide, b1, by rw [b1, qq]; decide, by rw [b1, qq]; decide, b2, by rw [b2, qq]; decide, by rw [b2, qq]; decide, b3, by rw [b3, qq, ne_q hc]; decide, by rw [b3, qq, bne, ne_q hc]; decide⟩
/-- what parse257 asks of a text with 4 quotation marks and a sign behind -/
structure PF4 (x : Str) (c : Nat) : Prop where
  len : (x.length : Int) = 10
  s1 : ¬ ((Txt.slice x none (some 3) != Str.ofString "257") = true)
  s2 : ¬ ((Txt.slice x (some 3) (some 5) != Str.ofString " \"") = true)
  i0 : Txt.item x (5) = ⟨#[34]⟩
  e0 : (Txt.item x (5) == Str.ofString "\"") = true
  n0 : ¬ ((Txt.item x (5) != Str.ofString "\"") = true)
  i1 : Txt.item x (5 + 1) = ⟨#[34]⟩
  e1 : (Txt.item x (5 + 1) == Str.ofString "\"") = true
  n1 : ¬ ((Txt.item x (5 + 1) != Str.ofString "\"") = true)
  i2 : Txt.item x (5 + 1 + 1) = ⟨#[34]⟩
  e2 : (Txt.item x (5 + 1 + 1) == Str.ofString "\"") = true
  n2 : ¬ ((Txt.item x (5 + 1 + 1) != Str.ofString "\"") = true)
  i3 : Txt.item x (5 + 1 + 1 + 1) = ⟨#[34]⟩
  e3 : (Txt.item x (5 + 1 + 1 + 1) == Str.ofString "\"") = true
  n3 : ¬ ((Txt.item x (5 + 1 + 1 + 1) != Str.ofString "\"") = true)
  i4 : Txt.item x (5 + 1 + 1 + 1 + 1) = ⟨#[c]⟩
  e4 : ¬ ((Txt.item x (5 + 1 + 1 + 1 + 1) == Str.ofString "\"") = true)
  n4 : (Txt.item x (5 + 1 + 1 + 1 + 1) != Str.ofString "\"") = true
theorem pf4 {c : Nat} (hc : c ≠ 34) : PF4 ⟨#[50, 53, 55, 32, 34, 34, 34, 34, 34, c]⟩ c := by
  have a1 : Txt.slice ⟨#[50, 53, 55, 32, 34, 34, 34, 34, 34, c]⟩ none (some 3) = ⟨#[50, 53, 55]⟩ := rfl
  have a2 : Txt.slice ⟨#[50, 53, 55, 32, 34, 34, 34, 34, 34, c]⟩ (some 3) (some 5) = ⟨#[32, 34]⟩ := rfl
  have b0 : Txt.item ⟨#[50, 53, 55, 32, 34, 34, 34, 34, 34, c]⟩ (5) = ⟨#[34]⟩ := rfl
  have b1 : Txt.item ⟨#[50, 53, 55, 32, 34, 34, 34, 34, 34, c]⟩ (5 + 1) = ⟨#[34]⟩ := rfl
  have b2 : Txt.item ⟨#[50, 53, 55, 32, 34, 34, 34, 34, 34, c]⟩ (5 + 1 + 1) = ⟨#[34]⟩ := rfl
  have b3 : Txt.item ⟨#[50, 53, 55, 32, 34, 34, 34, 34, 34, c]⟩ (5 + 1 + 1 + 1) = ⟨#[34]⟩ := rfl
  have b4 : Txt.item ⟨#[50, 53, 55, 32, 34, 34, 34, 34, 34, c]⟩ (5 + 1 + 1 + 1 + 1) = ⟨#[c]⟩ := rfl
  exact ⟨rfl, by rw [a1, q257]; decide, by rw [a2, qbq]; decide, b0, by rw [b0, qq]; decide, by rw [b0, qq]; decide, b1, by rw [b1, qq]; decide, by rw [b1, qq]; decide, b2, by rw [b2, qq]; decide, by rw [b2, qq]; decide, b3, by rw [b3, qq]; decide, by rw [b3, qq]; decide, b4, by rw [b4, qq, ne_q hc]; decide, by rw [b4, qq, bne, ne_q hc]; decide⟩
end Mine
namespace Mine
open PySem PySem.W PyProof.Rows PySem.Calls
theorem mk_str {a b : Str} {t : Tok} (h : a = b) : Value.str a t = Value.str b t := by rw [h]
local macro_rules | `(tactic| walk_at "ite") => `(tactic| (k_here; first | (refine ite_pos (by assumption) ?_) | (refine ite_neg (by assumption) ?_)))
local macro_rules | `(tactic| walk_at "exec While") => `(tactic| (k_here; k_dflt (refine whl_start 100 ?_)))
local macro_rules | `(tactic| walk_at "WhlIf") => `(tactic| (first | (refine WhlIf.yes (by simp only [decide_eq_true_eq]; omega) ?_) | (refine WhlIf.no (by simp only [decide_eq_false_iff_not]; omega) ?_)))
set_option maxRecDepth 100000 in
set_option maxHeartbeats 8000000 in
theorem parse_0 (w : World) (s₀ : Shared) (mg mb : Str → Option Value) (x : Str) (c : Nat) (t : Tok) :
  Con 1 w s₀ mg mb 61 (PF0 x c) [.str x t] (fun t => .str ⟨#[c]⟩ t) := by
  (w_on; dsimp only [Con]; k_fill; (refine' con_of_body (by decide) ?ho ?hcd ?hb ?hl ?hc ?c2 ?c3 ?c4 ?_; (case ho => k_is); (case hcd => k_is); (case hb => (intro s; exact BindsTo.of_eq rfl)); (case hl => exact locs rfl); (case hc => decide); (case c2 => exact rfl); (case c3 => exact rfl); (case c4 => exact rfl); intro zhpre zdp zun zgd zcn zcs za zccd zcl zouter zL₀ zbase zg zL9 zs zhck zhd zhu zB9 zF9 zX9 zT9 zN9; (try dsimp only); k_fold))
  have hP : PF0 x c := by assumption
  obtain ⟨hn, hs1, hs2, i0, e0, n0⟩ := hP
  repeat' (first | ((with_reducible show DefEnd _ _ _ _ _ _); refine ⟨_, _, _, _, rfl, by k_asm, mk_str ?_⟩; first | (rw [qe]; done) | ((try simp only [*]); (try rw [qe]); rfl)) | (k_unfold; (try dsimp only)) | walk1 | (dsimp only; walk1) | fail "no step")
set_option maxRecDepth 100000 in
set_option maxHeartbeats 8000000 in
theorem parse_1 (w : World) (s₀ : Shared) (mg mb : Str → Option Value) (x : Str) (c : Nat) (t : Tok) :
  Con 1 w s₀ mg mb 61 (PF1 x c) [.str x t] (fun t => .str ⟨#[]⟩ t) := by
  (w_on; dsimp only [Con]; k_fill; (refine' con_of_body (by decide) ?ho ?hcd ?hb ?hl ?hc ?c2 ?c3 ?c4 ?_; (case ho => k_is); (case hcd => k_is); (case hb => (intro s; exact BindsTo.of_eq rfl)); (case hl => exact locs rfl); (case hc => decide); (case c2 => exact rfl); (case c3 => exact rfl); (case c4 => exact rfl); intro zhpre zdp zun zgd zcn zcs za zccd zcl zouter zL₀ zbase zg zL9 zs zhck zhd zhu zB9 zF9 zX9 zT9 zN9; (try dsimp only); k_fold))
  have hP : PF1 x c := by assumption
  obtain ⟨hn, hs1, hs2, i0, e0, n0, i1, e1, n1⟩ := hP
  repeat' (first | ((with_reducible show DefEnd _ _ _ _ _ _); refine ⟨_, _, _, _, rfl, by k_asm, mk_str ?_⟩; first | (rw [qe]; done) | ((try simp only [*]); (try rw [qe]); rfl)) | (k_unfold; (try dsimp only)) | walk1 | (dsimp only; walk1) | fail "no step")
set_option maxRecDepth 100000 in
set_option maxHeartbeats 8000000 in
theorem parse_2 (w : World) (s₀ : Shared) (mg mb : Str → Option Value) (x : Str) (c : Nat) (t : Tok) :
  Con 1 w s₀ mg mb 61 (PF2 x c) [.str x t] (fun t => .str ⟨#[34, c]⟩ t) := by
  (w_on; dsimp only [Con]; k_fill; (refine' con_of_body (by decide) ?ho ?hcd ?hb ?hl ?hc ?c2 ?c3 ?c4 ?_; (case ho => k_is); (case hcd => k_is); (case hb => (intro s; exact BindsTo.of_eq rfl)); (case hl => exact locs rfl); (case hc => decide); (case c2 => exact rfl); (case c3 => exact rfl); (case c4 => exact rfl); intro zhpre zdp zun zgd zcn zcs za zccd zcl zouter zL₀ zbase zg zL9 zs zhck zhd zhu zB9 zF9 zX9 zT9 zN9; (try dsimp only); k_fold))
  have hP : PF2 x c := by assumption
  obtain ⟨hn, hs1, hs2, i0, e0, n0, i1, e1, n1, i2, e2, n2⟩ := hP
  repeat' (first | ((with_reducible show DefEnd _ _ _ _ _ _); refine ⟨_, _, _, _, rfl, by k_asm, mk_str ?_⟩; first | (rw [qe]; done) | ((try simp only [*]); (try rw [qe]); rfl)) | (k_unfold; (try dsimp only)) | walk1 | (dsimp only; walk1) | fail "no step")
set_option maxRecDepth 100000 in
set_option maxHeartbeats 8000000 in
theorem parse_3 (w : World) (s₀ : Shared) (mg mb : Str → Option Value) (x : Str) (c : Nat) (t : Tok) :
  Con 1 w s₀ mg mb 61 (PF3 x c) [.str x t] (fun t => .str ⟨#[34]⟩ t) := by
  (w_on; dsimp only [Con]; k_fill; (refine' con_of_body (by decide) ?ho ?hcd ?hb ?hl ?hc ?c2 ?c3 ?c4 ?_; (case ho => k_is); (case hcd => k_is); (case hb => (intro s; exact BindsTo.of_eq rfl)); (case hl => exact locs rfl); (case hc => decide); (case c2 => exact rfl); (case c3 => exact rfl); (case c4 => exact rfl); intro zhpre zdp zun zgd zcn zcs za zccd zcl zouter zL₀ zbase zg zL9 zs zhck zhd zhu zB9 zF9 zX9 zT9 zN9; (try dsimp only); k_fold))
  have hP : PF3 x c := by assumption
  obtain ⟨hn, hs1, hs2, i0, e0, n0, i1, e1, n1, i2, e2, n2, i3, e3, n3⟩ := hP
  repeat' (first | ((with_reducible show DefEnd _ _ _ _ _ _); refine ⟨_, _, _, _, rfl, by k_asm, mk_str ?_⟩; first | (rw [qe]; done) | ((try simp only [*]); (try rw [qe]); rfl)) | (k_unfold; (try dsimp only)) | walk1 | (dsimp only; walk1) | fail "no step")
set_option maxRecDepth 100000 in
set_option maxHeartbeats 8000000 in
theorem parse_4 (w : World) (s₀ : Shared) (mg mb : Str → Option Value) (x : Str) (c : Nat) (t : Tok) :
  Con 1 w s₀ mg mb 61 (PF4 x c) [.str x t] (fun t => .str ⟨#[34, 34, c]⟩ t) := by
  (w_on; dsimp only [Con]; k_fill; (refine' con_of_body (by decide) ?ho ?hcd ?hb ?hl ?hc ?c2 ?c3 ?c4 ?_; (case ho => k_is); (case hcd => k_is); (case hb => (intro s; exact BindsTo.of_eq rfl)); (case hl => exact locs rfl); (case hc => decide); (case c2 => exact rfl); (case c3 => exact rfl); (case c4 => exact rfl); intro zhpre zdp zun zgd zcn zcs za zccd zcl zouter zL₀ zbase zg zL9 zs zhck zhd zhu zB9 zF9 zX9 zT9 zN9; (try dsimp only); k_fold))
  have hP : PF4 x c := by assumption
  obtain ⟨hn, hs1, hs2, i0, e0, n0, i1, e1, n1, i2, e2, n2, i3, e3, n3, i4, e4, n4⟩ := hP
  repeat' (first | ((with_reducible show DefEnd _ _ _ _ _ _); refine ⟨_, _, _, _, rfl, by k_asm, mk_str ?_⟩; first | (rw [qe]; done) | ((try simp only [*]); (try rw [qe]); rfl)) | (k_unfold; (try dsimp only)) | walk1 | (dsimp only; walk1) | fail "no step")
end Mine
namespace Mine
open PySem PySem.W PyProof.Rows PySem.Calls
set_option maxRecDepth 100000
def rgIt (x left : Int) : Obj := { cls := .type "range_iterator", dict := none, data := .fields #[rawInt x, rawInt left, rawInt 1], slots := #[] }
/-- how a turn of a loop over a range ends -/
def TurnEnd (h₀ : Heap) (L I : Addr) (oI : Obj) (Jn : (Str → Option Value) → List (Addr × Obj) → Prop) (s : Shared) (Q : Flow → Shared → Prop) (f : Flow) (s' : Shared) : Prop :=
  match f with
  | .ret v => Q (.ret v) s'
  | .brk => Q .next s'
  | _ => ∃ h' tk m' nx, s' = { s with heap := h', toks := tk } ∧ Fr h₀ L h' m' ∧ News h₀ L h' ((I, oI) :: nx) ∧ (∀ p ∈ nx, p.1 ≠ I) ∧ Jn m' nx
section
variable {prog : Program} {w : World} {A : Around} {E : Value → Shared → Prop} {s : Shared} {env : Env} {h₀ : Heap} {L : Addr} {Q : Flow → Shared → Prop} {target : Expr} {body orelse : List Stmt}
theorem for_range {r : Addr} {a b : Int} {tr ur vr : Tok} {n : Nat} {m₀ : Str → Option Value} {news : List (Addr × Obj)} (J : Nat → (Str → Option Value) → List (Addr × Obj) → Prop)
    (hh : A.handled = none) (hr : IsRange s.heap r a b 1 tr ur vr) (hsmall : Builtin.Range.small a b 1 = true) (hn : Builtin.Range.rangeSize a b 1 = ((n : Nat) : Int)) (F : Fr h₀ L s.heap m₀) (N : News h₀ L s.heap news)
    (ht : ∀ it v, letOwnedTupleGo target it v = pure ()) (hE : PassesOwn (model prog w) A env E) (hj : J 0 m₀ news)
    (turn : ∀ (i : Nat) (t : Tok) (m₁ : Str → Option Value) (nx : List (Addr × Obj)) (h : Heap) (tk : Nat) (I : Addr) (oI : Obj), i < n → J i m₁ nx → Fr h₀ L h m₁ → News h₀ L h ((I, oI) :: nx) → (∀ p ∈ nx, p.1 ≠ I) →
      wpAny (model prog w) A (assign target env (.int (a + (i : Int)) t)) (fun _ s₂ => wpAny (model prog w) A (execs body env) (TurnEnd h₀ L I oI (J (i + 1)) s Q) E s₂) E { s with heap := h, toks := tk })
    (done : ∀ (m₁ : Str → Option Value) (nx : List (Addr × Obj)) (h : Heap) (tk : Nat), J n m₁ nx → Fr h₀ L h m₁ → News h₀ L h nx → wpAny (model prog w) A (execs orelse env) Q E { s with heap := h, toks := tk }) :
    wpAny (model prog w) A (pyIter (.ref r)) (fun it s₂ => codeAny (model prog w) A (.forLoop target it body orelse env) (fun r s' => match r with | .ok f => Q f s' | .error e => cameBackBy (model prog w) A env E e s') s₂) E s := by
  refine wpAny_pyIter_range hr hsmall ?_
  have hnew := next_is_new F
  have hLI : L ≠ s.heap.objs.size := Nat.ne_of_lt F.ns.lt
  have W := Walks.range (prog := prog) (w := w) hh s.heap.objs.size a 1 n
  refine codeAny_forLoop (fun k s' => ∃ h' tk m' nx i, s' = { s with heap := h', toks := tk } ∧ IsRangeIter h' s.heap.objs.size (a + (i : Nat) * 1) ((n : Int) - (i : Nat)) 1 ∧ Fr h₀ L h' m' ∧ News h₀ L h' nx ∧ (∀ p ∈ nx, p.1 ≠ s.heap.objs.size) ∧ J i m' nx ∧ i ≤ n ∧ k = n + 1 - i) ?_ (n + 1)
    ⟨_, s.toks, m₀, news, 0, rfl, (by show IsRangeIter _ _ _ _ _; rw [hn]; simpa using Heap.get?_push_size _ rfl), F.push _, (fun p hp => ⟨Heap.get?_push_of_some _ (N p hp).1, (N p hp).2⟩), (fun p hp => Nat.ne_of_lt (Heap.lt_size (N p hp).1)), hj, Nat.zero_le _, rfl⟩ (ht _)
  rintro k s' ⟨h', tk, m', nx, i, rfl, hst, F', N', off, hJ, hi, rfl⟩
  by_cases hlt : i < n
  · refine W.item i _ _ _ hlt hst fun v h₁ tk₁ hP hst₁ hk₁ => ?_
    obtain ⟨t, rfl⟩ := hP
    have F₁ := LCg.fr_but F' hk₁ hLI hnew
    have N₁ := LCg.news_but N' hk₁ off
    have e1 : a + (i : Int) * 1 = a + (i : Int) := by omega
    rw [e1]
    have N₂ : News h₀ L h₁ ((s.heap.objs.size, rgIt (a + ((i + 1 : Nat) : Int) * 1) ((n : Int) - ((i + 1 : Nat) : Int))) :: nx) := fun p hp => by
      rcases List.mem_cons.mp hp with rfl | hp
      · exact ⟨hst₁, Ne.symm hLI, hnew⟩
      · exact N₁ p hp
    refine wpAny_passesOwn hE (wpAny_mono (turn i t m' nx h₁ tk₁ s.heap.objs.size _ hlt hJ F₁ N₂ off) (fun _ s₂ h₂ => wpAny_passesOwn hE (wpAny_mono h₂ (fun f s₃ h₃ => ?_) fun _ _ x => x)) fun _ _ x => x)
    have fin : (∃ h' tk m' nx', s₃ = { s with heap := h', toks := tk } ∧ Fr h₀ L h' m' ∧ News h₀ L h' ((s.heap.objs.size, rgIt (a + ((i + 1 : Nat) : Int) * 1) ((n : Int) - ((i + 1 : Nat) : Int))) :: nx') ∧ (∀ p ∈ nx', p.1 ≠ s.heap.objs.size) ∧ J (i + 1) m' nx') → ∃ m, m < n + 1 - i ∧ ∃ h' tk m' nx i, s₃ = { s with heap := h', toks := tk } ∧ IsRangeIter h' s.heap.objs.size (a + (i : Nat) * 1) ((n : Int) - (i : Nat)) 1 ∧ Fr h₀ L h' m' ∧ News h₀ L h' nx ∧ (∀ p ∈ nx, p.1 ≠ s.heap.objs.size) ∧ J i m' nx ∧ i ≤ n ∧ m = n + 1 - i := by
      rintro ⟨h'', tk', m'', nx', e, F₃, N₃, off', hJ'⟩
      exact ⟨n + 1 - (i + 1), by omega, h'', tk', m'', nx', i + 1, e, (N₃ _ (List.mem_cons_self ..)).1, F₃, fun p hp => N₃ p (List.mem_cons_of_mem _ hp), off', hJ', hlt, rfl⟩
    cases f with
    | ret v => exact h₃
    | brk => exact h₃
    | next => exact fin h₃
    | cont => exact fin h₃
  · have hin : i = n := by omega
    subst hin
    refine W.done _ _ _ hst fun h₁ tk₁ hk₁ => ?_
    have F₁ := LCg.fr_but F' hk₁ hLI hnew
    have N₁ := LCg.news_but N' hk₁ off
    exact wpAny_passesOwn hE (done m' nx h₁ tk₁ hJ F₁ N₁)
end
end Mine
namespace Mine
open PySem PySem.W PyProof.Rows PySem.Calls PyProof.V
set_option maxRecDepth 100000
/-- the number of the flags at some places -/
def sumP (ps : List Nat) : Int := (ps.map (fun p => (2 : Int) ^ p)).sum
theorem sumP_nil : sumP [] = 0 := rfl
theorem sumP_cons (p : Nat) (ps : List Nat) : sumP (p :: ps) = 2 ^ p + sumP ps := by simp [sumP]
theorem pow2_pos (k : Nat) : (0 : Int) < 2 ^ k := kbt_pos k
theorem sumP_nonneg : ∀ ps : List Nat, 0 ≤ sumP ps
  | [] => by simp [sumP]
  | p :: ps => by rw [sumP_cons]; have := pow2_pos p; have := sumP_nonneg ps; omega
theorem sumP_pos {ps : List Nat} (h : ps ≠ []) : 0 < sumP ps := by
  cases ps with
  | nil => exact absurd rfl h
  | cons p ps => rw [sumP_cons]; have := pow2_pos p; have := sumP_nonneg ps; omega
theorem sumP_mul (k : Nat) : ∀ ps : List Nat, (∀ p ∈ ps, k ≤ p) → ∃ c : Int, sumP ps = 2 ^ k * c
  | [], _ => ⟨0, by simp [sumP]⟩
  | p :: ps, h => by
    obtain ⟨c, hc⟩ := sumP_mul k ps fun q hq => h q (List.mem_cons_of_mem _ hq)
    have hp := h p (List.mem_cons_self ..)
    refine ⟨2 ^ (p - k) + c, ?_⟩
    rw [sumP_cons, hc, Int.mul_add, ← Int.pow_add]
    congr 2
    omega
theorem and_off {i : Nat} {ps : List Nat} (h : ∀ p ∈ ps, i + 1 ≤ p) : Builtin.bitAnd (sumP ps) (2 ^ i) = 0 := by
  obtain ⟨c, hc⟩ := sumP_mul (i + 1) ps h
  rw [kbt_bit, hc, Int.pow_succ, Int.mul_assoc, Int.mul_ediv_cancel_left _ (Int.ne_of_gt (pow2_pos i))]
  have : (2 * c) % 2 = 0 := by omega
  rw [this, Int.zero_mul]
theorem and_on {i : Nat} {ps : List Nat} (h : ∀ p ∈ ps, i + 1 ≤ p) : Builtin.bitAnd (sumP (i :: ps)) (2 ^ i) = 2 ^ i := by
  obtain ⟨c, hc⟩ := sumP_mul (i + 1) ps h
  have e : sumP (i :: ps) = 2 ^ i * (1 + 2 * c) := by
    rw [sumP_cons, hc, Int.mul_add, Int.pow_succ, Int.mul_one, Int.mul_assoc]
  rw [kbt_bit, e, Int.mul_ediv_cancel_left _ (Int.ne_of_gt (pow2_pos i))]
  have : (1 + 2 * c) % 2 = 1 := by omega
  rw [this, Int.one_mul]
theorem xor_on {i : Nat} {ps : List Nat} (h : ∀ p ∈ ps, i + 1 ≤ p) : Builtin.bitXor (sumP (i :: ps)) (2 ^ i) = sumP ps := by
  rw [bitXor_and, and_on h, sumP_cons]
  omega
/-- the text of a place -/
noncomputable def bitText (p : Nat) : Str := if p < 10 then loAt p else baseText "0x" 16 (2 ^ p)
theorem base_short : ∀ p : Fin 40, (baseText "0x" 16 ((2 : Int) ^ p.val)).length ≤ 20 := by decide +kernel
theorem lo_short : ∀ p : Fin 10, (loAt ((p.val : Nat) : Int)).length ≤ 20 := by decide +kernel
theorem bitText_short {p : Nat} (h : p < 40) : (bitText p).length ≤ 20 := by
  unfold bitText
  split
  · rename_i h'
    exact lo_short ⟨p, h'⟩
  · exact base_short ⟨p, h⟩
def flagVals : List (Int × Value) := [(1, .str (Str.ofString "OPTIMIZED") 190), (2, .str (Str.ofString "NEWLOCALS") 192), (4, .str (Str.ofString "VARARGS") 194), (8, .str (Str.ofString "VARKEYWORDS") 196), (16, .str (Str.ofString "NESTED") 198), (32, .str (Str.ofString "GENERATOR") 200), (64, .str (Str.ofString "NOFREE") 202), (128, .str (Str.ofString "COROUTINE") 204), (256, .str (Str.ofString "ITERABLE_COROUTINE") 206), (512, .str (Str.ofString "ASYNC_GENERATOR") 208)]
theorem map15 {prog : Program} {w : World} {h : Heap} (X : (hd.heap_39 w.params).In h) : h.DictOf (intKind prog w) 15 flagVals := by
  refine ⟨_, _, _, X 15 _ rfl, ⟨rfl, rfl, rfl⟩, rfl, ?_, ?_, by decide⟩
  · intro e he
    simp only [List.mem_toArray, List.mem_cons, List.not_mem_nil, or_false] at he
    rcases he with rfl | rfl | rfl | rfl | rfl | rfl | rfl | rfl | rfl | rfl
    · exact ⟨1, rfl, (by decide +kernel : (1 : Int) = hashInt 1)⟩
    · exact ⟨2, rfl, (by decide +kernel : (2 : Int) = hashInt 2)⟩
    · exact ⟨4, rfl, (by decide +kernel : (4 : Int) = hashInt 4)⟩
    · exact ⟨8, rfl, (by decide +kernel : (8 : Int) = hashInt 8)⟩
    · exact ⟨16, rfl, (by decide +kernel : (16 : Int) = hashInt 16)⟩
    · exact ⟨32, rfl, (by decide +kernel : (32 : Int) = hashInt 32)⟩
    · exact ⟨64, rfl, (by decide +kernel : (64 : Int) = hashInt 64)⟩
    · exact ⟨128, rfl, (by decide +kernel : (128 : Int) = hashInt 128)⟩
    · exact ⟨256, rfl, (by decide +kernel : (256 : Int) = hashInt 256)⟩
    · exact ⟨512, rfl, (by decide +kernel : (512 : Int) = hashInt 512)⟩
  · repeat' (first | exact .nil | refine .cons (by rfl) (by rfl) ?_)
theorem at15_lo : ∀ i : Nat, i < 10 → ∃ t, valueAt flagVals ((2 : Int) ^ i) = some (.str (loAt ((i : Nat) : Int)) t)
  | 0, _ => ⟨190, by decide +kernel⟩
  | 1, _ => ⟨192, by decide +kernel⟩
  | 2, _ => ⟨194, by decide +kernel⟩
  | 3, _ => ⟨196, by decide +kernel⟩
  | 4, _ => ⟨198, by decide +kernel⟩
  | 5, _ => ⟨200, by decide +kernel⟩
  | 6, _ => ⟨202, by decide +kernel⟩
  | 7, _ => ⟨204, by decide +kernel⟩
  | 8, _ => ⟨206, by decide +kernel⟩
  | 9, _ => ⟨208, by decide +kernel⟩
  | n + 10, h => absurd h (by omega)
theorem at15_hi : ∀ i : Fin 40, 10 ≤ i.val → valueAt flagVals ((2 : Int) ^ i.val) = none := by decide +kernel
section
variable {prog : Program} {w : World} {A : Around} {E : Value → Shared → Prop} {s : Shared} {t u : Tok} {Q : Value → Shared → Prop}
theorem get15 {i : Nat} (hi : i < 40) (X : (hd.heap_39 w.params).In s.heap) (hq : ∀ t' k, Q (.str (bitText i) t') { s with toks := k }) :
    wpAny (model prog w) A (call (.builtin "dict.get") [.ref 15, .int (2 ^ i) t, .str (baseText "0x" 16 (2 ^ i)) u]) Q E s := by
  have hd := map15 (prog := prog) X
  refine call_meetsIn PySem.F.slot_dict_get hd.typeIs PySem.F.entry_dict_get (PySem.F.args_dict_get_3 _ _ _) (meets_dict_get_default (intKind prog w) 15 (k := 2 ^ i) (intKind_is prog w _ t) (by decide) _) ⟨_, hd.mapOf, ?_⟩
  by_cases h : i < 10
  · obtain ⟨t', e⟩ := at15_lo i h
    have e' : bitText i = loAt ((i : Nat) : Int) := if_pos h
    rw [e]
    rw [e'] at hq
    exact hq t' _
  · have e : valueAt flagVals ((2 : Int) ^ i) = none := at15_hi ⟨i, hi⟩ (Nat.le_of_not_lt h)
    have e' : bitText i = baseText "0x" 16 (2 ^ i) := if_neg h
    rw [e]
    rw [e'] at hq
    exact hq u _
theorem method15 {pl : Sem Bool} {Q : Value × List Value → Shared → Prop} (X : (hd.heap_39 w.params).In s.heap) (h : Q (.builtin "dict.get", [.ref 15]) s) : wpAny (model prog w) A (getMethod (.ref 15) "get" pl) Q E s := by
  have hd := map15 (prog := prog) X
  exact getMethod_builtin hd.typeIs PySem.F.plainAttrs_dict PySem.F.slot_dict_get PySem.F.type_dict_get hd.mapOf.noDict h
theorem shift_one {i : Nat} {n : Int} (hn : n = (i : Int)) (hi : i < 40) (h : ∀ a b, Q (.int (2 ^ i) a) { s with toks := b }) : wpAny (model prog w) A (binaryOp .LShift (.int 1 t) (.int n u)) Q E s := by
  subst hn
  refine lshift_int_small (by omega) (by omega) (by decide) ?_
  have e : (1 : Int) * 2 ^ ((i : Int)).toNat = 2 ^ i := by rw [Int.one_mul, Int.toNat_natCast]
  rw [e]
  exact h _ _
theorem and_to {a b c : Int} (e : Builtin.bitAnd a b = c) (h : ∀ x y, Q (.int c x) { s with toks := y }) : wpAny (model prog w) A (binaryOp .BitAnd (.int a t) (.int b u)) Q E s := and_int (by rw [e]; exact h _ _)
theorem ixor_to {a b c : Int} (e : Builtin.bitXor a b = c) (h : ∀ x y, Q (.int c x) { s with toks := y }) : wpAny (model prog w) A (inplaceOp .BitXor (.int a t) (.int b u)) Q E s := ixor_int (by rw [e]; exact h _ _)
theorem hex_to {i : Nat} (hi : i < 40) (h : ∀ x y, Q (.str (baseText "0x" 16 (2 ^ i)) x) { s with toks := y }) : wpAny (model prog w) A (call (.builtin "hex") [.int (2 ^ i) t]) Q E s :=
  P.hex_of_int (h _ _) (by have this : (baseText "0x" 16 ((2 : Int) ^ i)).length ≤ 20 := base_short ⟨i, hi⟩; rw [sizeLine_eq]; omega)
end
end Mine
namespace Mine
open PySem PySem.W PyProof.Rows PySem.Calls
noncomputable def pfWords (ps : List Nat) : List Str := if ps = [] then [Str.ofString "0x0"] else ps.map bitText
/-- what pretty_flags says of the flags at some places -/
noncomputable def pfText (ps : List Nat) : Str := Txt.join (Str.ofString ", ") (pfWords ps)
/-- what holds ahead of turn i -/
def FlagsJ (ps : List Nat) (i : Nat) (m : Str → Option Value) (nx : List (Addr × Obj)) : Prop :=
  ∃ (ps₁ ps₂ : List Nat) (tf : Tok) (D : Addr) (ws : List Value) (cnt : Nat), ps = ps₁ ++ ps₂ ∧ (∀ p ∈ ps₂, i ≤ p) ∧ (ps₁ ≠ [] → ps₂ ≠ []) ∧ m (Str.ofString "flags") = some (.int (sumP ps₂) tf) ∧ m (Str.ofString "names") = some (.ref D) ∧
    nx = [(D, W.listOf ws.toArray cnt)] ∧ StrsAre ws (ps₁.map bitText) ∧ ws.length ≤ i
theorem fr_two {h₀ h : Heap} {L : Addr} {m : Str → Option Value} {a b : Str} {v u : Value} (F : Fr h₀ L h m) (e1 : m a = some v) (e2 : m b = some u) :
    Fr h₀ L h (fun y => if y = a then some v else if y = b then some u else m y) := by
  have e : (fun y => if y = a then some v else if y = b then some u else m y) = m := by
    funext y
    by_cases h1 : y = a
    · rw [if_pos h1, h1, e1]
    · rw [if_neg h1]
      by_cases h2 : y = b
      · rw [if_pos h2, h2, e2]
      · rw [if_neg h2]
  rw [e]
  exact F
theorem turn_next {h₀ h' : Heap} {L I : Addr} {oI : Obj} {Jn : (Str → Option Value) → List (Addr × Obj) → Prop} {s : Shared} {Q : Flow → Shared → Prop} {m' : Str → Option Value} {nx : List (Addr × Obj)} {tk : Nat}
    (F : Fr h₀ L h' m') (N : News h₀ L h' ((I, oI) :: nx)) (off : ∀ p ∈ nx, p.1 ≠ I) (J : Jn m' nx) : TurnEnd h₀ L I oI Jn s Q .next { s with heap := h', toks := tk } := ⟨h', tk, m', nx, rfl, F, N, off, J⟩
theorem append_L {prog : Program} {w : World} {A : Around} {E : Value → Shared → Prop} {s : Shared} {h₀ : Heap} {L D : Addr} {m : Str → Option Value} {news news' : List (Addr × Obj)} {ws : List Value} {n : Nat} {x : Value} {Q : Value → Shared → Prop} (F : Fr h₀ L s.heap m) (N : News h₀ L s.heap news) (U : Upd D (W.listOf ws.toArray n) (W.listOf (ws ++ [x]).toArray (n + 1)) news news')
    (hsz : ws.length ≤ 1000) (h : ∀ h', Fr h₀ L h' m → News h₀ L h' news' → Q .none { s with heap := h' }) : wpAny (model prog w) A (call (.builtin "list.append") [.ref D, x]) Q E s := by
  refine append_K (its := ws.toArray) (n := n) F N ?_ h ?_
  · rw [List.push_toArray]
    exact U
  · rw [List.size_toArray, sizeLine_eq]
    omega
theorem truthy_yes {prog : Program} {w : World} {A : Around} {E : Value → Shared → Prop} {s : Shared} {x : Int} {t : Tok} {Q : Bool → Shared → Prop} (hx : x ≠ 0) (h : Q true s) : wpAny (model prog w) A (truthy (.int x t)) Q E s := by
  refine truthy_int ?_
  have e : (x != 0) = true := by simpa using hx
  rw [e]
  exact h
theorem truthy_no {prog : Program} {w : World} {A : Around} {E : Value → Shared → Prop} {s : Shared} {x : Int} {t : Tok} {Q : Bool → Shared → Prop} (hx : x = 0) (h : Q false s) : wpAny (model prog w) A (truthy (.int x t)) Q E s := by
  refine truthy_int ?_
  have e : (x != 0) = false := by simpa using hx
  rw [e]
  exact h
theorem two_off {D I : Addr} {o o' : Obj} (off : ∀ p ∈ [(D, o)], p.1 ≠ I) : ∀ p ∈ [(D, o')], p.1 ≠ I := by
  intro p hp
  rw [List.mem_singleton.mp hp]
  exact off (D, o) (List.mem_cons_self ..)
theorem weight_ok {ps : List Nat} (hb : ∀ p ∈ ps, p < 40) (hl : ps.length ≤ 1000) : ((ps.map bitText).map (·.length)).sum + (ps.map bitText).length ≤ 1048576 := by
  have h := StrLaws.sumLen_le (B := 20) (ps.map bitText) (fun y hy => by
    obtain ⟨p, hp, rfl⟩ := List.mem_map.mp hy
    exact bitText_short (hb p hp))
  rw [List.length_map] at h ⊢
  omega
theorem hex_zero {prog : Program} {w : World} {A : Around} {E : Value → Shared → Prop} {s : Shared} {t : Tok} {Q : Value → Shared → Prop} (h : ∀ x y, Q (.str (Str.ofString "0x0") x) { s with toks := y }) : wpAny (model prog w) A (call (.builtin "hex") [.int 0 t]) Q E s := by
  have e : baseText "0x" 16 0 = Str.ofString "0x0" := by decide +kernel
  exact P.hex_of_int (by rw [e]; exact h _ _) (by rw [e]; decide)
theorem pfText_some {ps : List Nat} (h : ps ≠ []) : pfText ps = Txt.join (Str.ofString ", ") (ps.map bitText) := by
  unfold pfText pfWords
  rw [if_neg h]
theorem sepLen : (Str.ofString ", ").length ≤ 16 := by decide +kernel
theorem pow_ne (i : Nat) : (2 : Int) ^ i ≠ 0 := Int.ne_of_gt (pow2_pos i)
set_option maxRecDepth 100000 in
set_option maxHeartbeats 8000000 in
theorem flags_ok (w : World) (s₀ : Shared) (mg mb : Str → Option Value) (ps : List Nat) (hs : ps.Pairwise (· < ·)) (hb : ∀ p ∈ ps, p < 40) (h1 : ∀ p ∈ ps, ∀ q ∈ ps, 32 ≤ p → 32 ≤ q → p = q) (t : Tok) :
  Con 1 w s₀ mg mb 22 True [.int (sumP ps) t] (fun t => .str (pfText ps) t) := by
  (w_on; dsimp only [Con]; k_fill; (refine' con_of_body (by decide) ?ho ?hcd ?hb ?hl ?hc ?c2 ?c3 ?c4 ?_; (case ho => k_is); (case hcd => k_is); (case hb => (intro s; exact BindsTo.of_eq rfl)); (case hl => exact locs rfl); (case hc => decide); (case c2 => exact rfl); (case c3 => exact rfl); (case c4 => exact rfl); intro zhpre zdp zun zgd zcn zcs za zccd zcl zouter zL₀ zbase zg zL9 zs zhck zhd zhu zB9 zF9 zX9 zT9 zN9; (try dsimp only); k_fold))
  repeat' (first | ((with_reducible show wpAny _ _ (call (Value.builtin "list.append") _) _ _ _); k_dflt (refine' append_L ?k1 ?k2 ?k3 ?k4 ?_; (case k1 => k_asm); (case k2 => k_asm); (case k3 => k_upd); (case k4 => omega)); intro h' F' N'; (try dsimp only); (try k_sweep)) | ((with_reducible show wpAny _ _ (truthy (Value.int _ _)) _ _ _); (first | refine truthy_no (by assumption) ?_ | refine truthy_yes (by assumption) ?_)) | ((with_reducible show wpAny _ _ (binaryOp PySem.Operator.LShift (Value.int _ _) (Value.int _ _)) _ _ _); (refine shift_one (by assumption) (by omega) ?_; intro a' b'; try dsimp only)) | ((with_reducible show wpAny _ _ (binaryOp PySem.Operator.BitAnd (Value.int _ _) (Value.int _ _)) _ _ _); (refine and_to (by assumption) ?_; intro a' b'; try dsimp only)) | ((with_reducible show wpAny _ _ (inplaceOp PySem.Operator.BitXor (Value.int _ _) (Value.int _ _)) _ _ _); (refine ixor_to (by assumption) ?_; intro a' b'; try dsimp only)) | ((with_reducible show wpAny _ _ (call (Value.builtin "hex") _) _ _ _); (first | refine hex_zero ?_ | refine hex_to (by omega) ?_); intro a' b'; try dsimp only) | ((with_reducible show wpAny _ _ (getMethod (Value.ref _) _ _) _ _ _); k_dflt (refine method15 (by k_in) ?_)) | ((with_reducible show wpAny _ _ (call (Value.builtin "dict.get") _) _ _ _); k_dflt (refine get15 (by omega) (by k_in) ?_); intro a' b'; try dsimp only) | (k_unfold; (try dsimp only)) | walk1 | (dsimp only; walk1) | fail "no step")
  refine wpAny_For ?_ (by intro _; with_unfolding_all rfl)
  repeat' (first | ((with_reducible show wpAny _ _ (call (Value.builtin "list.append") _) _ _ _); k_dflt (refine' append_L ?k1 ?k2 ?k3 ?k4 ?_; (case k1 => k_asm); (case k2 => k_asm); (case k3 => k_upd); (case k4 => omega)); intro h' F' N'; (try dsimp only); (try k_sweep)) | ((with_reducible show wpAny _ _ (truthy (Value.int _ _)) _ _ _); (first | refine truthy_no (by assumption) ?_ | refine truthy_yes (by assumption) ?_)) | ((with_reducible show wpAny _ _ (binaryOp PySem.Operator.LShift (Value.int _ _) (Value.int _ _)) _ _ _); (refine shift_one (by assumption) (by omega) ?_; intro a' b'; try dsimp only)) | ((with_reducible show wpAny _ _ (binaryOp PySem.Operator.BitAnd (Value.int _ _) (Value.int _ _)) _ _ _); (refine and_to (by assumption) ?_; intro a' b'; try dsimp only)) | ((with_reducible show wpAny _ _ (inplaceOp PySem.Operator.BitXor (Value.int _ _) (Value.int _ _)) _ _ _); (refine ixor_to (by assumption) ?_; intro a' b'; try dsimp only)) | ((with_reducible show wpAny _ _ (call (Value.builtin "hex") _) _ _ _); (first | refine hex_zero ?_ | refine hex_to (by omega) ?_); intro a' b'; try dsimp only) | ((with_reducible show wpAny _ _ (getMethod (Value.ref _) _ _) _ _ _); k_dflt (refine method15 (by k_in) ?_)) | ((with_reducible show wpAny _ _ (call (Value.builtin "dict.get") _) _ _ _); k_dflt (refine get15 (by omega) (by k_in) ?_); intro a' b'; try dsimp only) | (k_unfold; (try dsimp only)) | walk1 | (dsimp only; walk1) | fail "no step")
  refine for_range (n := 32) (FlagsJ ps) rfl (by assumption) (by decide) (by decide) (by assumption) (by assumption) (fun _ _ => rfl) (by passes_own) ?hj ?turn ?done
  case hj => exact ⟨[], ps, _, _, [], _, rfl, fun _ _ => Nat.zero_le _, fun h => absurd rfl h, rfl, rfl, rfl, .nil, Nat.le_refl _⟩
  case turn =>
    intro i ti m₁ nx h tk I oI hi hJ F₁ N₁ off
    obtain ⟨ps₁, ps₂, tf, D, ws, cnt, hps, hge, hne, e1, e2, rfl, hws, hwl⟩ := hJ
    have hDI : @Ne Nat I D := fun e => off (D, _) (List.mem_cons_self ..) e.symm
    have F₂ := fr_two F₁ e1 e2
    clear F₁
    have hp0 := pow_ne i
    have hni : (0 : Int) + (i : Int) = (i : Int) := Int.zero_add _
    refine wpAny_assign_Name ?_
    rcases ps₂ with _ | ⟨p, r⟩
    · have hand : Builtin.bitAnd (sumP []) (2 ^ i) = 0 := and_off (by simp)
      have h00 : (0 : Int) = 0 := rfl
      repeat' (first | ((with_reducible show wpAny _ _ (call (Value.builtin "list.append") _) _ _ _); k_dflt (refine' append_L ?k1 ?k2 ?k3 ?k4 ?_; (case k1 => k_asm); (case k2 => k_asm); (case k3 => k_upd); (case k4 => omega)); intro h' F' N'; (try dsimp only); (try k_sweep)) | ((with_reducible show wpAny _ _ (truthy (Value.int _ _)) _ _ _); (first | refine truthy_no (by assumption) ?_ | refine truthy_yes (by assumption) ?_)) | ((with_reducible show wpAny _ _ (binaryOp PySem.Operator.LShift (Value.int _ _) (Value.int _ _)) _ _ _); (refine shift_one (by assumption) (by omega) ?_; intro a' b'; try dsimp only)) | ((with_reducible show wpAny _ _ (binaryOp PySem.Operator.BitAnd (Value.int _ _) (Value.int _ _)) _ _ _); (refine and_to (by assumption) ?_; intro a' b'; try dsimp only)) | ((with_reducible show wpAny _ _ (inplaceOp PySem.Operator.BitXor (Value.int _ _) (Value.int _ _)) _ _ _); (refine ixor_to (by assumption) ?_; intro a' b'; try dsimp only)) | ((with_reducible show wpAny _ _ (call (Value.builtin "hex") _) _ _ _); (first | refine hex_zero ?_ | refine hex_to (by omega) ?_); intro a' b'; try dsimp only) | ((with_reducible show wpAny _ _ (getMethod (Value.ref _) _ _) _ _ _); k_dflt (refine method15 (by k_in) ?_)) | ((with_reducible show wpAny _ _ (call (Value.builtin "dict.get") _) _ _ _); k_dflt (refine get15 (by omega) (by k_in) ?_); intro a' b'; try dsimp only) | (k_unfold; (try dsimp only)) | walk1 | (dsimp only; walk1) | fail "no step")
      exact turn_next (by k_asm) (by k_asm) off ⟨ps₁, [], _, D, ws, cnt, hps, by simp, hne, rfl, rfl, rfl, hws, Nat.le_succ_of_le hwl⟩
    · have hrest : ∀ q ∈ r, p + 1 ≤ q := by
        intro q hq
        have h2 : (p :: r).Pairwise (· < ·) := (List.pairwise_append.mp (hps ▸ hs)).2.1
        exact (List.pairwise_cons.mp h2).1 q hq
      by_cases hpi : p = i
      · subst hpi
        have hand := and_on hrest
        have hxor := xor_on hrest
        rcases r with _ | ⟨q, r⟩
        · have hz : sumP [] = 0 := rfl
          repeat' (first | ((with_reducible show wpAny _ _ (call (Value.builtin "list.append") _) _ _ _); k_dflt (refine' append_L ?k1 ?k2 ?k3 ?k4 ?_; (case k1 => k_asm); (case k2 => k_asm); (case k3 => k_upd); (case k4 => omega)); intro h' F' N'; (try dsimp only); (try k_sweep)) | ((with_reducible show wpAny _ _ (truthy (Value.int _ _)) _ _ _); (first | refine truthy_no (by assumption) ?_ | refine truthy_yes (by assumption) ?_)) | ((with_reducible show wpAny _ _ (binaryOp PySem.Operator.LShift (Value.int _ _) (Value.int _ _)) _ _ _); (refine shift_one (by assumption) (by omega) ?_; intro a' b'; try dsimp only)) | ((with_reducible show wpAny _ _ (binaryOp PySem.Operator.BitAnd (Value.int _ _) (Value.int _ _)) _ _ _); (refine and_to (by assumption) ?_; intro a' b'; try dsimp only)) | ((with_reducible show wpAny _ _ (inplaceOp PySem.Operator.BitXor (Value.int _ _) (Value.int _ _)) _ _ _); (refine ixor_to (by assumption) ?_; intro a' b'; try dsimp only)) | ((with_reducible show wpAny _ _ (call (Value.builtin "hex") _) _ _ _); (first | refine hex_zero ?_ | refine hex_to (by omega) ?_); intro a' b'; try dsimp only) | ((with_reducible show wpAny _ _ (getMethod (Value.ref _) _ _) _ _ _); k_dflt (refine method15 (by k_in) ?_)) | ((with_reducible show wpAny _ _ (call (Value.builtin "dict.get") _) _ _ _); k_dflt (refine get15 (by omega) (by k_in) ?_); intro a' b'; try dsimp only) | (k_unfold; (try dsimp only)) | walk1 | (dsimp only; walk1) | fail "no step")
          dsimp only [TurnEnd]
          repeat' (first | ((with_reducible show wpAny _ _ (call (Value.builtin "list.append") _) _ _ _); k_dflt (refine' append_L ?k1 ?k2 ?k3 ?k4 ?_; (case k1 => k_asm); (case k2 => k_asm); (case k3 => k_upd); (case k4 => omega)); intro h' F' N'; (try dsimp only); (try k_sweep)) | ((with_reducible show wpAny _ _ (truthy (Value.int _ _)) _ _ _); (first | refine truthy_no (by assumption) ?_ | refine truthy_yes (by assumption) ?_)) | ((with_reducible show wpAny _ _ (binaryOp PySem.Operator.LShift (Value.int _ _) (Value.int _ _)) _ _ _); (refine shift_one (by assumption) (by omega) ?_; intro a' b'; try dsimp only)) | ((with_reducible show wpAny _ _ (binaryOp PySem.Operator.BitAnd (Value.int _ _) (Value.int _ _)) _ _ _); (refine and_to (by assumption) ?_; intro a' b'; try dsimp only)) | ((with_reducible show wpAny _ _ (inplaceOp PySem.Operator.BitXor (Value.int _ _) (Value.int _ _)) _ _ _); (refine ixor_to (by assumption) ?_; intro a' b'; try dsimp only)) | ((with_reducible show wpAny _ _ (call (Value.builtin "hex") _) _ _ _); (first | refine hex_zero ?_ | refine hex_to (by omega) ?_); intro a' b'; try dsimp only) | ((with_reducible show wpAny _ _ (getMethod (Value.ref _) _ _) _ _ _); k_dflt (refine method15 (by k_in) ?_)) | ((with_reducible show wpAny _ _ (call (Value.builtin "dict.get") _) _ _ _); k_dflt (refine get15 (by omega) (by k_in) ?_); intro a' b'; try dsimp only) | (k_unfold; (try dsimp only)) | walk1 | (dsimp only; walk1) | fail "no step")
          dsimp only [List.cons_append, List.nil_append]
          have hpl : ps.length ≤ 1000 := by
            have e := hws.len_eq
            rw [List.length_map] at e
            rw [hps, List.length_append, List.length_singleton]
            omega
          refine join_listW (ys := ps.map bitText) (News.isList (by k_asm) (by k_mem)) ?_ sepLen (weight_ok hb hpl) ?_
          · rw [hps, List.map_append]
            exact kct_snoc hws
          intro t' k'
          repeat' (first | ((with_reducible show wpAny _ _ (call (Value.builtin "list.append") _) _ _ _); k_dflt (refine' append_L ?k1 ?k2 ?k3 ?k4 ?_; (case k1 => k_asm); (case k2 => k_asm); (case k3 => k_upd); (case k4 => omega)); intro h' F' N'; (try dsimp only); (try k_sweep)) | ((with_reducible show wpAny _ _ (truthy (Value.int _ _)) _ _ _); (first | refine truthy_no (by assumption) ?_ | refine truthy_yes (by assumption) ?_)) | ((with_reducible show wpAny _ _ (binaryOp PySem.Operator.LShift (Value.int _ _) (Value.int _ _)) _ _ _); (refine shift_one (by assumption) (by omega) ?_; intro a' b'; try dsimp only)) | ((with_reducible show wpAny _ _ (binaryOp PySem.Operator.BitAnd (Value.int _ _) (Value.int _ _)) _ _ _); (refine and_to (by assumption) ?_; intro a' b'; try dsimp only)) | ((with_reducible show wpAny _ _ (inplaceOp PySem.Operator.BitXor (Value.int _ _) (Value.int _ _)) _ _ _); (refine ixor_to (by assumption) ?_; intro a' b'; try dsimp only)) | ((with_reducible show wpAny _ _ (call (Value.builtin "hex") _) _ _ _); (first | refine hex_zero ?_ | refine hex_to (by omega) ?_); intro a' b'; try dsimp only) | ((with_reducible show wpAny _ _ (getMethod (Value.ref _) _ _) _ _ _); k_dflt (refine method15 (by k_in) ?_)) | ((with_reducible show wpAny _ _ (call (Value.builtin "dict.get") _) _ _ _); k_dflt (refine get15 (by omega) (by k_in) ?_); intro a' b'; try dsimp only) | (k_unfold; (try dsimp only)) | walk1 | (dsimp only; walk1) | fail "no step")
          exact ⟨_, _, _, _, rfl, by k_asm, by rw [pfText_some (by rw [hps]; simp)]; rfl⟩
        · have hz : sumP (q :: r) ≠ 0 := Int.ne_of_gt (sumP_pos (by simp))
          repeat' (first | ((with_reducible show wpAny _ _ (call (Value.builtin "list.append") _) _ _ _); k_dflt (refine' append_L ?k1 ?k2 ?k3 ?k4 ?_; (case k1 => k_asm); (case k2 => k_asm); (case k3 => k_upd); (case k4 => omega)); intro h' F' N'; (try dsimp only); (try k_sweep)) | ((with_reducible show wpAny _ _ (truthy (Value.int _ _)) _ _ _); (first | refine truthy_no (by assumption) ?_ | refine truthy_yes (by assumption) ?_)) | ((with_reducible show wpAny _ _ (binaryOp PySem.Operator.LShift (Value.int _ _) (Value.int _ _)) _ _ _); (refine shift_one (by assumption) (by omega) ?_; intro a' b'; try dsimp only)) | ((with_reducible show wpAny _ _ (binaryOp PySem.Operator.BitAnd (Value.int _ _) (Value.int _ _)) _ _ _); (refine and_to (by assumption) ?_; intro a' b'; try dsimp only)) | ((with_reducible show wpAny _ _ (inplaceOp PySem.Operator.BitXor (Value.int _ _) (Value.int _ _)) _ _ _); (refine ixor_to (by assumption) ?_; intro a' b'; try dsimp only)) | ((with_reducible show wpAny _ _ (call (Value.builtin "hex") _) _ _ _); (first | refine hex_zero ?_ | refine hex_to (by omega) ?_); intro a' b'; try dsimp only) | ((with_reducible show wpAny _ _ (getMethod (Value.ref _) _ _) _ _ _); k_dflt (refine method15 (by k_in) ?_)) | ((with_reducible show wpAny _ _ (call (Value.builtin "dict.get") _) _ _ _); k_dflt (refine get15 (by omega) (by k_in) ?_); intro a' b'; try dsimp only) | (k_unfold; (try dsimp only)) | walk1 | (dsimp only; walk1) | fail "no step")
          exact turn_next (by k_asm) (by k_asm) (two_off off) ⟨ps₁ ++ [p], q :: r, _, D, _, _, by rw [hps, List.append_assoc]; rfl, hrest, fun _ => by simp, rfl, rfl, rfl, by rw [List.map_append]; exact kct_snoc hws, by rw [List.length_append]; exact Nat.succ_le_succ hwl⟩
      · have hge' : ∀ q ∈ p :: r, i + 1 ≤ q := by
          intro q hq
          have h3 := hge p (List.mem_cons_self ..)
          rcases List.mem_cons.mp hq with rfl | hq
          · omega
          · have := hrest q hq; omega
        have hand := and_off hge'
        have h00 : (0 : Int) = 0 := rfl
        repeat' (first | ((with_reducible show wpAny _ _ (call (Value.builtin "list.append") _) _ _ _); k_dflt (refine' append_L ?k1 ?k2 ?k3 ?k4 ?_; (case k1 => k_asm); (case k2 => k_asm); (case k3 => k_upd); (case k4 => omega)); intro h' F' N'; (try dsimp only); (try k_sweep)) | ((with_reducible show wpAny _ _ (truthy (Value.int _ _)) _ _ _); (first | refine truthy_no (by assumption) ?_ | refine truthy_yes (by assumption) ?_)) | ((with_reducible show wpAny _ _ (binaryOp PySem.Operator.LShift (Value.int _ _) (Value.int _ _)) _ _ _); (refine shift_one (by assumption) (by omega) ?_; intro a' b'; try dsimp only)) | ((with_reducible show wpAny _ _ (binaryOp PySem.Operator.BitAnd (Value.int _ _) (Value.int _ _)) _ _ _); (refine and_to (by assumption) ?_; intro a' b'; try dsimp only)) | ((with_reducible show wpAny _ _ (inplaceOp PySem.Operator.BitXor (Value.int _ _) (Value.int _ _)) _ _ _); (refine ixor_to (by assumption) ?_; intro a' b'; try dsimp only)) | ((with_reducible show wpAny _ _ (call (Value.builtin "hex") _) _ _ _); (first | refine hex_zero ?_ | refine hex_to (by omega) ?_); intro a' b'; try dsimp only) | ((with_reducible show wpAny _ _ (getMethod (Value.ref _) _ _) _ _ _); k_dflt (refine method15 (by k_in) ?_)) | ((with_reducible show wpAny _ _ (call (Value.builtin "dict.get") _) _ _ _); k_dflt (refine get15 (by omega) (by k_in) ?_); intro a' b'; try dsimp only) | (k_unfold; (try dsimp only)) | walk1 | (dsimp only; walk1) | fail "no step")
        exact turn_next (by k_asm) (by k_asm) off ⟨ps₁, p :: r, _, D, ws, cnt, hps, hge', hne, rfl, rfl, rfl, hws, Nat.le_succ_of_le hwl⟩
  case done =>
    intro m₁ nx h tk hJ F₁ N₁
    obtain ⟨ps₁, ps₂, tf, D, ws, cnt, hps, hge, hne, e1, e2, rfl, hws, hwl⟩ := hJ
    rcases ps₂ with _ | ⟨q, r⟩
    · have hn1 : ps₁ = [] := Classical.byContradiction fun h => hne h rfl
      subst hn1
      have hw0 : ws = [] := hws.nil_inv
      subst hw0
      have e1' : m₁ (Str.ofString "flags") = some (.int 0 tf) := e1
      have F₂ := fr_two F₁ e1' e2
      clear F₁
      repeat' (first | ((with_reducible show wpAny _ _ (call (Value.builtin "list.append") _) _ _ _); k_dflt (refine' append_L ?k1 ?k2 ?k3 ?k4 ?_; (case k1 => k_asm); (case k2 => k_asm); (case k3 => k_upd); (case k4 => omega)); intro h' F' N'; (try dsimp only); (try k_sweep)) | ((with_reducible show wpAny _ _ (truthy (Value.int _ _)) _ _ _); (first | refine truthy_no (by assumption) ?_ | refine truthy_yes (by assumption) ?_)) | ((with_reducible show wpAny _ _ (binaryOp PySem.Operator.LShift (Value.int _ _) (Value.int _ _)) _ _ _); (refine shift_one (by assumption) (by omega) ?_; intro a' b'; try dsimp only)) | ((with_reducible show wpAny _ _ (binaryOp PySem.Operator.BitAnd (Value.int _ _) (Value.int _ _)) _ _ _); (refine and_to (by assumption) ?_; intro a' b'; try dsimp only)) | ((with_reducible show wpAny _ _ (inplaceOp PySem.Operator.BitXor (Value.int _ _) (Value.int _ _)) _ _ _); (refine ixor_to (by assumption) ?_; intro a' b'; try dsimp only)) | ((with_reducible show wpAny _ _ (call (Value.builtin "hex") _) _ _ _); (first | refine hex_zero ?_ | refine hex_to (by omega) ?_); intro a' b'; try dsimp only) | ((with_reducible show wpAny _ _ (getMethod (Value.ref _) _ _) _ _ _); k_dflt (refine method15 (by k_in) ?_)) | ((with_reducible show wpAny _ _ (call (Value.builtin "dict.get") _) _ _ _); k_dflt (refine get15 (by omega) (by k_in) ?_); intro a' b'; try dsimp only) | (k_unfold; (try dsimp only)) | walk1 | (dsimp only; walk1) | fail "no step")
      dsimp only [List.cons_append, List.nil_append]
      have hp00 : ps = [] := hps
      refine join_listW (ys := [Str.ofString "0x0"]) (News.isList (by k_asm) (by k_mem)) (.cons _ _ .nil) sepLen (by decide +kernel) ?_
      intro t' k'
      repeat' (first | ((with_reducible show wpAny _ _ (call (Value.builtin "list.append") _) _ _ _); k_dflt (refine' append_L ?k1 ?k2 ?k3 ?k4 ?_; (case k1 => k_asm); (case k2 => k_asm); (case k3 => k_upd); (case k4 => omega)); intro h' F' N'; (try dsimp only); (try k_sweep)) | ((with_reducible show wpAny _ _ (truthy (Value.int _ _)) _ _ _); (first | refine truthy_no (by assumption) ?_ | refine truthy_yes (by assumption) ?_)) | ((with_reducible show wpAny _ _ (binaryOp PySem.Operator.LShift (Value.int _ _) (Value.int _ _)) _ _ _); (refine shift_one (by assumption) (by omega) ?_; intro a' b'; try dsimp only)) | ((with_reducible show wpAny _ _ (binaryOp PySem.Operator.BitAnd (Value.int _ _) (Value.int _ _)) _ _ _); (refine and_to (by assumption) ?_; intro a' b'; try dsimp only)) | ((with_reducible show wpAny _ _ (inplaceOp PySem.Operator.BitXor (Value.int _ _) (Value.int _ _)) _ _ _); (refine ixor_to (by assumption) ?_; intro a' b'; try dsimp only)) | ((with_reducible show wpAny _ _ (call (Value.builtin "hex") _) _ _ _); (first | refine hex_zero ?_ | refine hex_to (by omega) ?_); intro a' b'; try dsimp only) | ((with_reducible show wpAny _ _ (getMethod (Value.ref _) _ _) _ _ _); k_dflt (refine method15 (by k_in) ?_)) | ((with_reducible show wpAny _ _ (call (Value.builtin "dict.get") _) _ _ _); k_dflt (refine get15 (by omega) (by k_in) ?_); intro a' b'; try dsimp only) | (k_unfold; (try dsimp only)) | walk1 | (dsimp only; walk1) | fail "no step")
      exact ⟨_, _, _, _, rfl, by k_asm, by first | (rw [hp00]; done) | (rw [hp00]; rfl)⟩
    · have h2 : (q :: r).Pairwise (· < ·) := (List.pairwise_append.mp (hps ▸ hs)).2.1
      have hr : r = [] := by
        cases r with
        | nil => rfl
        | cons q' r =>
          have h3 : q < q' := (List.pairwise_cons.mp h2).1 q' (List.mem_cons_self ..)
          have h4 := h1 q (by rw [hps]; simp) q' (by rw [hps]; simp) (hge q (by simp)) (hge q' (by simp))
          omega
      subst hr
      have hq : q < 40 := hb q (by rw [hps]; simp)
      have hq2 : 32 ≤ q := hge q (by simp)
      have e1' : m₁ (Str.ofString "flags") = some (.int (2 ^ q) tf) := by rw [e1]; simp [sumP]
      have F₂ := fr_two F₁ e1' e2
      clear F₁
      have hbt : baseText "0x" 16 (2 ^ q) = bitText q := (if_neg (by omega)).symm
      repeat' (first | ((with_reducible show wpAny _ _ (call (Value.builtin "list.append") _) _ _ _); k_dflt (refine' append_L ?k1 ?k2 ?k3 ?k4 ?_; (case k1 => k_asm); (case k2 => k_asm); (case k3 => k_upd); (case k4 => omega)); intro h' F' N'; (try dsimp only); (try k_sweep)) | ((with_reducible show wpAny _ _ (truthy (Value.int _ _)) _ _ _); (first | refine truthy_no (by assumption) ?_ | refine truthy_yes (by assumption) ?_)) | ((with_reducible show wpAny _ _ (binaryOp PySem.Operator.LShift (Value.int _ _) (Value.int _ _)) _ _ _); (refine shift_one (by assumption) (by omega) ?_; intro a' b'; try dsimp only)) | ((with_reducible show wpAny _ _ (binaryOp PySem.Operator.BitAnd (Value.int _ _) (Value.int _ _)) _ _ _); (refine and_to (by assumption) ?_; intro a' b'; try dsimp only)) | ((with_reducible show wpAny _ _ (inplaceOp PySem.Operator.BitXor (Value.int _ _) (Value.int _ _)) _ _ _); (refine ixor_to (by assumption) ?_; intro a' b'; try dsimp only)) | ((with_reducible show wpAny _ _ (call (Value.builtin "hex") _) _ _ _); (first | refine hex_zero ?_ | refine hex_to (by omega) ?_); intro a' b'; try dsimp only) | ((with_reducible show wpAny _ _ (getMethod (Value.ref _) _ _) _ _ _); k_dflt (refine method15 (by k_in) ?_)) | ((with_reducible show wpAny _ _ (call (Value.builtin "dict.get") _) _ _ _); k_dflt (refine get15 (by omega) (by k_in) ?_); intro a' b'; try dsimp only) | (k_unfold; (try dsimp only)) | walk1 | (dsimp only; walk1) | fail "no step")
      dsimp only [List.cons_append, List.nil_append]
      have hpl : ps.length ≤ 1000 := by
        have e := hws.len_eq
        rw [List.length_map] at e
        rw [hps, List.length_append, List.length_singleton]
        omega
      refine join_listW (ys := ps.map bitText) (News.isList (by k_asm) (by k_mem)) ?_ sepLen (weight_ok hb hpl) ?_
      · rw [hps, List.map_append]
        show StrsAre _ (ps₁.map bitText ++ [bitText q])
        rw [← hbt]
        exact kct_snoc hws
      intro t' k'
      repeat' (first | ((with_reducible show wpAny _ _ (call (Value.builtin "list.append") _) _ _ _); k_dflt (refine' append_L ?k1 ?k2 ?k3 ?k4 ?_; (case k1 => k_asm); (case k2 => k_asm); (case k3 => k_upd); (case k4 => omega)); intro h' F' N'; (try dsimp only); (try k_sweep)) | ((with_reducible show wpAny _ _ (truthy (Value.int _ _)) _ _ _); (first | refine truthy_no (by assumption) ?_ | refine truthy_yes (by assumption) ?_)) | ((with_reducible show wpAny _ _ (binaryOp PySem.Operator.LShift (Value.int _ _) (Value.int _ _)) _ _ _); (refine shift_one (by assumption) (by omega) ?_; intro a' b'; try dsimp only)) | ((with_reducible show wpAny _ _ (binaryOp PySem.Operator.BitAnd (Value.int _ _) (Value.int _ _)) _ _ _); (refine and_to (by assumption) ?_; intro a' b'; try dsimp only)) | ((with_reducible show wpAny _ _ (inplaceOp PySem.Operator.BitXor (Value.int _ _) (Value.int _ _)) _ _ _); (refine ixor_to (by assumption) ?_; intro a' b'; try dsimp only)) | ((with_reducible show wpAny _ _ (call (Value.builtin "hex") _) _ _ _); (first | refine hex_zero ?_ | refine hex_to (by omega) ?_); intro a' b'; try dsimp only) | ((with_reducible show wpAny _ _ (getMethod (Value.ref _) _ _) _ _ _); k_dflt (refine method15 (by k_in) ?_)) | ((with_reducible show wpAny _ _ (call (Value.builtin "dict.get") _) _ _ _); k_dflt (refine get15 (by omega) (by k_in) ?_); intro a' b'; try dsimp only) | (k_unfold; (try dsimp only)) | walk1 | (dsimp only; walk1) | fail "no step")
      exact ⟨_, _, _, _, rfl, by k_asm, by rw [pfText_some (by rw [hps]; simp)]; rfl⟩
end Mine
namespace Mine
open PySem PySem.W PyProof.Rows PySem.Calls
set_option maxRecDepth 100000
def fnBody : Stmt → List Stmt
  | .FunctionDef _ _ b _ _ _ _ _ _ _ => b
  | _ => []
def fnScope : Stmt → Scope
  | .FunctionDef _ _ _ _ _ _ s _ _ _ => s
  | _ => default
noncomputable def lawFn : Stmt := PySem.Challenge.pw_ty0015_01.main.body.getD 13 (.Pass ⟨0, 0, 0, 0⟩)
noncomputable def lawScope : Scope := fnScope lawFn
noncomputable def lawSt (i : Nat) : Stmt := (fnBody lawFn).getD i (.Pass ⟨0, 0, 0, 0⟩)
/-- the law's cells -/
abbrev lawCl (c1 c2 c3 c4 c5 c6 c7 c8 : Addr) : List (Str × Addr) :=
  [(Str.ofString "row", c8), (Str.ofString "choice", c7), (Str.ofString "odd", c6), (Str.ofString "even", c5), (Str.ofString "worth", c4), (Str.ofString "places", c3), (Str.ofString "bounds", c2), (Str.ofString "shifts", c1)]
end Mine
namespace Mine
open PySem PySem.W PyProof.Rows PySem.Calls
/-- the frame of the law -/
abbrev LawGoes (w : World) (dp un : Nat) (gd : Option (List Code)) (fa : Addr) (cd : Value) (outer : List Env) (L c1 c2 c3 c4 c5 c6 c7 c8 : Addr) (sts : List Stmt) (Q : Flow → Shared → Prop) (E : Value → Shared → Prop) (s : Shared) : Prop :=
  wpAny (model PySem.Challenge.rw_ty0015_01.row.prog w) (ktrTop dp un gd (Str.ofString "law") lawScope L fa cd (lawCl c1 c2 c3 c4 c5 c6 c7 c8) outer) (execs sts (envX (Str.ofString "law") lawScope L fa cd (lawCl c1 c2 c3 c4 c5 c6 c7 c8))) Q E s
theorem len_gen {prog : Program} {w : World} {A : Around} {E : Value → Shared → Prop} {s : Shared} {l : Addr} {vs : List Value} {Q : Value → Shared → Prop} (hl : s.heap.IsList l vs.toArray) (hs : vs.length ≤ 1000)
    (h : ∀ (k : Nat) a b, k = vs.length → Q (.int (k : Int) a) { s with toks := b }) : wpAny (model prog w) A (call (.builtin "len") [.ref l]) Q E s := by
  refine Calls.call_len_list hl (by rw [List.size_toArray]; omega) ?_
  rw [List.size_toArray]
  exact h _ _ _ rfl
theorem fmod_ok (x : Int) : 0 ≤ x.fmod (10 ^ 30) ∧ x.fmod (10 ^ 30) < 10 ^ 30 := ⟨Int.fmod_nonneg_of_pos x (by decide), Int.fmod_lt_of_pos x (by decide)⟩
theorem drawn_five (ns : List Int) (k : Nat) (hk : k = ((ns.take 5).map fun x => x.fmod (10 ^ Int.toNat 30)).length) :
    ∃ d0 d1 d2 d3 d4 : Int, ((ns.take 5).map fun x => x.fmod (10 ^ Int.toNat 30)) ++ List.drop (k : Int).toNat [0, 8, 9, 4, 14] = [d0, d1, d2, d3, d4] ∧ ∀ d ∈ [d0, d1, d2, d3, d4], 0 ≤ d ∧ d < 10 ^ 30 := by
  have e30 : Int.toNat 30 = 30 := rfl
  rw [e30] at hk ⊢
  have c0 : (0 : Int) ≤ 0 ∧ (0 : Int) < 10 ^ 30 := by decide
  have c8 : (0 : Int) ≤ 8 ∧ (8 : Int) < 10 ^ 30 := by decide
  have c9 : (0 : Int) ≤ 9 ∧ (9 : Int) < 10 ^ 30 := by decide
  have c4 : (0 : Int) ≤ 4 ∧ (4 : Int) < 10 ^ 30 := by decide
  have c14 : (0 : Int) ≤ 14 ∧ (14 : Int) < 10 ^ 30 := by decide
  have all5 : ∀ (P : Int → Prop) (a b c d e : Int), P a → P b → P c → P d → P e → ∀ x ∈ [a, b, c, d, e], P x := by
    intro P a b c d e ha hb hc hd he x hx
    simp only [List.mem_cons, List.not_mem_nil, or_false] at hx
    rcases hx with rfl | rfl | rfl | rfl | rfl <;> assumption
  rcases ns with _ | ⟨a, ns⟩
  · subst hk; exact ⟨_, _, _, _, _, rfl, all5 _ _ _ _ _ _ c0 c8 c9 c4 c14⟩
  rcases ns with _ | ⟨b, ns⟩
  · subst hk; exact ⟨_, _, _, _, _, rfl, all5 _ _ _ _ _ _ (fmod_ok a) c8 c9 c4 c14⟩
  rcases ns with _ | ⟨c, ns⟩
  · subst hk; exact ⟨_, _, _, _, _, rfl, all5 _ _ _ _ _ _ (fmod_ok a) (fmod_ok b) c9 c4 c14⟩
  rcases ns with _ | ⟨d, ns⟩
  · subst hk; exact ⟨_, _, _, _, _, rfl, all5 _ _ _ _ _ _ (fmod_ok a) (fmod_ok b) (fmod_ok c) c4 c14⟩
  rcases ns with _ | ⟨e, ns⟩
  · subst hk; exact ⟨_, _, _, _, _, rfl, all5 _ _ _ _ _ _ (fmod_ok a) (fmod_ok b) (fmod_ok c) (fmod_ok d) c14⟩
  · subst hk; exact ⟨_, _, _, _, _, rfl, all5 _ _ _ _ _ _ (fmod_ok a) (fmod_ok b) (fmod_ok c) (fmod_ok d) (fmod_ok e)⟩
local macro_rules | `(tactic| walk_at "subscriptTail List Slice ref ref") => `(tactic| walk_at "last subscriptTail")
local macro_rules | `(tactic| walk_at "subscriptTail Name Slice ref ref") => `(tactic| (k_here; (with_reducible show wpAny _ _ (subscriptTail _ (PySem.Expr.Slice _ none none _) (Value.ref _) (Value.ref _)) _ _ _); k_dflt (refine' kmk_slice_ints ?F ?N ?l ?p ?q ?i ?m ?c ?_ ?s ?t ?z; (case F => k_asm); (case N => k_asm); (case l => kmk_list); (case p => kmk_part); (case q => kmk_part); (case i => l_ints); (case m => exact kmk_from (by l_ints) (by omega)); (case c => exact List.length_drop ..); (case s => with_unfolding_all rfl); (case t => kmk_pure); (case z => exact Nat.le_of_ble_eq_true rfl)); intro D' ws' h' F' N' l1 hI' hC' hL'; (try k_lt l1); (try k_sweep)))
local macro_rules | `(tactic| walk_at "call builtin:len") => `(tactic| (k_here; k_dflt (refine' len_gen ?k1 ?k2 ?_; (case k1 => exact News.isList (by k_asm) (by k_mem)); (case k2 => first | omega | (simp only [List.length_map, List.length_take] at *; omega))); intro k9 a9 b9 hk9; try dsimp only))
section
variable (w : World) (s₀ : Shared) (mg mb : Str → Option Value) (dp un : Nat) (gd : Option (List Code)) (fa : Addr) (cd : Value) (outer : List Env) (L c1 c2 c3 c4 c5 c6 c7 c8 : Addr) (A₀ : Around) (base h₀ : Heap) (s : Shared) (Q : Flow → Shared → Prop) (E : Value → Shared → Prop) (rest : List Stmt)
set_option maxRecDepth 100000 in
set_option maxHeartbeats 8000000 in
theorem g1 (B : Below A₀ base outer h₀) (X : (hd.heap_39 w.params).In h₀) (T : Top hd.view_39 Lse (ExcName.means s₀.heap) mg mb h₀)
   (la : Addr) (vs : List Value) (ns : List Int) (hl : h₀.IsList la vs.toArray) (hi : IntsAre vs ns) (hlen : ns.length ≤ 63)
   (m : Str → Option Value) (o1 o2 o3 o4 o5 o6 o7 o8 : Obj) (F : Fr h₀ L s.heap (fun y => if y = Str.ofString "script" then some (.ref la) else m y)) (N : News h₀ L s.heap [(c8, o8), (c7, o7), (c6, o6), (c5, o5), (c4, o4), (c3, o3), (c2, o2), (c1, o1)])
   (cont : ∀ (D : Addr) (ws : List Value) (d0 d1 d2 d3 d4 : Int) (h' : Heap) (tk' : Nat) (m1 : Str → Option Value), (∀ d ∈ [d0, d1, d2, d3, d4], 0 ≤ d ∧ d < 10 ^ 30) → IntsAre ws [d0, d1, d2, d3, d4] → @LT.lt Nat _ c8 D →
     Fr h₀ L h' (fun y => if y = Str.ofString "drawn" then some (.ref D) else m1 y) → News h₀ L h' [(D, W.listOf ws.toArray 0), (c8, o8), (c7, o7), (c6, o6), (c5, o5), (c4, o4), (c3, o3), (c2, o2), (c1, o1)] →
     LawGoes w dp un gd fa cd outer L c1 c2 c3 c4 c5 c6 c7 c8 rest Q E { s with heap := h', toks := tk' }) :
   LawGoes w dp un gd fa cd outer L c1 c2 c3 c4 c5 c6 c7 c8 (lawSt 0 :: lawSt 1 :: rest) Q E s := by
  w_on
  dsimp only [LawGoes] at cont ⊢
  revert X; k_fill; intro X
  conv in (lawSt 0) => whnf
  conv in (lawSt 1) => whnf
  repeat' (first | (k_unfold; (try dsimp only)) | walk1 | (dsimp only; walk1) | fail "no step")
  rename (_ : Nat) = List.length (List.map _ _) => hL8
  rename (_ : Nat) = List.length _ => hk9
  obtain ⟨d0, d1, d2, d3, d4, e, hb⟩ := drawn_five ns _ (hk9.trans hL8)
  rename IntsAre _ (_ ++ _) => hI
  rw [e] at hI
  refine cont _ _ d0 d1 d2 d3 d4 _ _ _ hb hI ?_ (by k_asm) (cb_drop (by k_asm) ?_)
  · omega
  · kcj_all
end
end Mine
namespace Mine
open PySem PySem.W PyProof.Rows PySem.Calls
set_option maxRecDepth 100000
/-- how an element of a comprehension is evaluated -/
def LeafEnd {α : Type} (h₀ : Heap) (L : Addr) (m : Str → Option Value) (s : Shared) (nw : List (Addr × Obj)) (R : α → Prop) (y : α) (s' : Shared) : Prop :=
  ∃ h' tk', s' = { s with heap := h', toks := tk' } ∧ Fr h₀ L h' m ∧ News h₀ L h' nw ∧ R y
theorem LeafEnd.mk {α : Type} {h₀ h' : Heap} {L : Addr} {m : Str → Option Value} {s : Shared} {nw : List (Addr × Obj)} {R : α → Prop} {y : α} {tk' : Nat} (F : Fr h₀ L h' m) (N : News h₀ L h' nw) (r : R y) :
    LeafEnd h₀ L m s nw R y { s with heap := h', toks := tk' } := ⟨h', tk', rfl, F, N, r⟩
section
variable {prog : Program} {w : World} {A : Around} {h₀ : Heap} {L : Addr} {m : Str → Option Value} {env : Env} {elt : Expr} {x : Str} {scope : Scope} {cl : List (Str × Addr)} {s : Shared} {S : List (Addr × Obj) → Prop} {P : Nat → Value → Prop} {Fin : List Value → List (Addr × Obj) → Prop} {news : List (Addr × Obj)}
theorem rest_rel {n : Nat} (R : Nat → Value → Prop) (hS : S news)
    (turn : ∀ (i : Nat) (v : Value) (I : Addr) (oI : Obj) (C : Addr) (oC : Obj) (D : Addr) (m₂ : Str → Option Value) (ys : List Value) (h : Heap) (tk : Nat) (E' : Value → Shared → Prop), i < n → P i v → LCg.NsObj oC m₂ → m₂ x = some v → Fr h₀ L h m → News h₀ L h ((I, oI) :: (C, oC) :: (D, LCg.lst ys) :: news) → LCg.Off3 I C D news → ((@Ne Nat I C) ∧ (@Ne Nat I D) ∧ (@Ne Nat C D)) →
      wpAny (model prog w) A (eval elt (compEnvC scope cl C env)) (LeafEnd h₀ L m { s with heap := h, toks := tk } ((I, oI) :: (C, oC) :: (D, LCg.lst ys) :: news) (R i)) E' { s with heap := h, toks := tk })
    (fin : ∀ ys, Paired R (List.range n) ys → Fin ys news) : LCg.CompRest prog w A h₀ L m env elt x scope cl s S P Fin n 0 [] news := by
  have key : ∀ (j i : Nat) (ys : List Value), i + j = n → Paired R (List.range i) ys → LCg.CompRest prog w A h₀ L m env elt x scope cl s S P Fin j i ys news := by
    intro j
    induction j with
    | zero =>
      intro i ys hi hy
      have e : i = n := by omega
      rw [e] at hy
      exact LCg.CompRest.zero (fin ys hy)
    | succ j ih =>
      intro i ys hi hy
      refine LCg.CompRest.succ ?_
      intro v I oI C oC D m₂ h tk E' hv hC hx F N off ne
      refine wpAny_mono (turn i v I oI C oC D m₂ ys h tk E' (by omega) hv hC hx F N off ne) (fun y s₂ hq => ?_) fun _ _ e => e
      obtain ⟨h', tk', e, F', N', r⟩ := hq
      refine ⟨h', tk', news, e, F', N', off, hS, ?_⟩
      refine ih (i + 1) _ (by omega) ?_
      rw [List.range_succ]
      exact Paired.snoc hy r
  exact key n 0 [] (by omega) (by simpa using Paired.nil)
theorem rest_relT {ct : Expr} {n : Nat} (p : Nat → Bool) (R : Nat → Value → Prop) (hS : S news)
    (test : ∀ (i : Nat) (v : Value) (I : Addr) (oI : Obj) (C : Addr) (oC : Obj) (D : Addr) (m₂ : Str → Option Value) (ys : List Value) (h : Heap) (tk : Nat) (E' : Value → Shared → Prop), i < n → P i v → LCg.NsObj oC m₂ → m₂ x = some v → Fr h₀ L h m → News h₀ L h ((I, oI) :: (C, oC) :: (D, LCg.lst ys) :: news) → LCg.Off3 I C D news → ((@Ne Nat I C) ∧ (@Ne Nat I D) ∧ (@Ne Nat C D)) →
      wpAny (model prog w) A (isTrue ct (compEnvC scope cl C env) (eval ct (compEnvC scope cl C env))) (LeafEnd h₀ L m { s with heap := h, toks := tk } ((I, oI) :: (C, oC) :: (D, LCg.lst ys) :: news) (fun ok => ok = p i)) E' { s with heap := h, toks := tk })
    (turn : ∀ (i : Nat) (v : Value) (I : Addr) (oI : Obj) (C : Addr) (oC : Obj) (D : Addr) (m₂ : Str → Option Value) (ys : List Value) (h : Heap) (tk : Nat) (E' : Value → Shared → Prop), i < n → P i v → LCg.NsObj oC m₂ → m₂ x = some v → Fr h₀ L h m → News h₀ L h ((I, oI) :: (C, oC) :: (D, LCg.lst ys) :: news) → LCg.Off3 I C D news → ((@Ne Nat I C) ∧ (@Ne Nat I D) ∧ (@Ne Nat C D)) →
      wpAny (model prog w) A (eval elt (compEnvC scope cl C env)) (LeafEnd h₀ L m { s with heap := h, toks := tk } ((I, oI) :: (C, oC) :: (D, LCg.lst ys) :: news) (R i)) E' { s with heap := h, toks := tk })
    (fin : ∀ ys, Paired R ((List.range n).filter p) ys → Fin ys news) : LCt.CompRestT prog w A h₀ L m env ct elt x scope cl s S P Fin n 0 [] news := by
  have key : ∀ (j i : Nat) (ys : List Value), i + j = n → Paired R ((List.range i).filter p) ys → LCt.CompRestT prog w A h₀ L m env ct elt x scope cl s S P Fin j i ys news := by
    intro j
    induction j with
    | zero =>
      intro i ys hi hy
      have e : i = n := by omega
      rw [e] at hy
      exact LCt.CompRestT.zero (fin ys hy)
    | succ j ih =>
      intro i ys hi hy
      refine LCt.CompRestT.succ ?_
      intro v I oI C oC D m₂ h tk E' hv hC hx F N off ne
      refine wpAny_mono (test i v I oI C oC D m₂ ys h tk E' (by omega) hv hC hx F N off ne) (fun ok s₂ hq => ?_) fun _ _ e => e
      obtain ⟨h', tk', rfl, F', N', rfl⟩ := hq
      have e1 : (List.range (i + 1)).filter p = (List.range i).filter p ++ (if p i then [i] else []) := by
        rw [List.range_succ, List.filter_append]
        cases hp : p i <;> simp [hp]
      cases hp : p i with
      | true =>
        simp only [if_true]
        refine wpAny_mono (turn i v I oI C oC D m₂ ys h' tk' E' (by omega) hv hC hx F' N' off ne) (fun y s₂ hq => ?_) fun _ _ e => e
        obtain ⟨h'', tk'', rfl, F'', N'', r⟩ := hq
        refine ⟨h'', tk'', news, rfl, F'', N'', off, hS, ?_⟩
        refine ih (i + 1) _ (by omega) ?_
        rw [e1, hp]
        exact Paired.snoc hy r
      | false =>
        simp only [Bool.false_eq_true, if_false]
        refine ⟨h', tk', news, rfl, F', N', off, hS, ?_⟩
        refine ih (i + 1) _ (by omega) ?_
        rw [e1, hp]
        simpa using hy
  exact key n 0 [] (by omega) (by simpa using Paired.nil)
end
theorem paired_ints {f : Nat → Int} : ∀ {js : List Nat} {ys : List Value}, Paired (fun i y => ∃ t : Tok, y = .int (f i) t) js ys → IntsAre ys (js.map f)
  | _, _, .nil => .nil
  | _, _, .cons h t => by
    obtain ⟨t', rfl⟩ := h
    exact .cons _ _ (paired_ints t)
theorem paired_strs {f : Nat → Str} : ∀ {js : List Nat} {ys : List Value}, Paired (fun i y => ∃ t : Tok, y = .str (f i) t) js ys → StrsAre ys (js.map f)
  | _, _, .nil => .nil
  | _, _, .cons h t => by
    obtain ⟨t', rfl⟩ := h
    exact .cons _ _ (paired_strs t)
theorem map_range_getD {α : Type} (l : List α) (d : α) : (List.range l.length).map (fun i => l.getD i d) = l := by
  apply List.ext_getElem
  · simp
  · intro i h1 h2
    simp [List.getD, h2]
end Mine
namespace Mine
open PySem PySem.W PyProof.Rows PySem.Calls
theorem range_small {n : Nat} (h : n ≤ 16) : Builtin.Range.small 0 (n : Int) 1 = true := by
  have : ∀ k : Fin 17, Builtin.Range.small 0 ((k.val : Nat) : Int) 1 = true := by decide +kernel
  exact this ⟨n, by omega⟩
theorem range_size {n : Nat} (h : n ≤ 16) : Builtin.Range.rangeSize 0 (n : Int) 1 = ((n : Nat) : Int) := by
  have : ∀ k : Fin 17, Builtin.Range.rangeSize 0 ((k.val : Nat) : Int) 1 = ((k.val : Nat) : Int) := by decide +kernel
  exact this ⟨n, by omega⟩
theorem le_line {n : Nat} (h : n ≤ 16) : n ≤ sizeLine := by rw [sizeLine_eq]; omega
/-- the shifts and the places of a law's run -/
def shiftsOf (n : Nat) (d1 d2 d3 d4 : Int) : List Int := ([d1, d2, d3, d4].take n).map (· + 1)
def placeAt (d1 d2 d3 d4 : Int) : Nat → Int
  | 0 => 26 + (d1 + 1).fmod 14
  | 1 => 0 + (d2 + 1).fmod 10
  | 2 => 10 + (d3 + 1).fmod 8
  | _ => 18 + (d4 + 1).fmod 8
def placesOf (n : Nat) (d1 d2 d3 d4 : Int) : List Int := (List.range n).map (placeAt d1 d2 d3 d4)
/-- an address that is no cell's -/
def OffCells (a c1 c2 c3 c4 c5 c6 c7 c8 : Addr) : Prop := @Ne Nat a c1 ∧ @Ne Nat a c2 ∧ @Ne Nat a c3 ∧ @Ne Nat a c4 ∧ @Ne Nat a c5 ∧ @Ne Nat a c6 ∧ @Ne Nat a c7 ∧ @Ne Nat a c8
section
variable (w : World) (s₀ : Shared) (mg mb : Str → Option Value) (dp un : Nat) (gd : Option (List Code)) (fa : Addr) (cd : Value) (outer : List Env) (L c1 c2 c3 c4 c5 c6 c7 c8 : Addr) (A₀ : Around) (base h₀ : Heap) (s : Shared) (Q : Flow → Shared → Prop) (E : Value → Shared → Prop) (rest : List Stmt)
set_option maxRecDepth 100000 in
set_option maxHeartbeats 8000000 in
theorem g2 (B : Below A₀ base outer h₀) (X : (hd.heap_39 w.params).In h₀) (T : Top hd.view_39 Lse (ExcName.means s₀.heap) mg mb h₀)
   (D : Addr) (ws : List Value) (d0 d1 d2 d3 d4 : Int) (hi : IntsAre ws [d0, d1, d2, d3, d4])
   (m : Str → Option Value) (o1 o2 o3 o4 o5 o6 o7 o8 : Obj) (F : Fr h₀ L s.heap (fun y => if y = Str.ofString "drawn" then some (.ref D) else m y)) (N : News h₀ L s.heap [(D, W.listOf ws.toArray 0), (c8, o8), (c7, o7), (c6, o6), (c5, o5), (c4, o4), (c3, o3), (c2, o2), (c1, o1)])
   (cont : ∀ (h' : Heap) (tk' : Nat) (t1 t2 : Tok),
     Fr h₀ L h' (fun y => if y = Str.ofString "size" then some (.int (2 + (d0 + 1).fmod 3) t2) else if y = Str.ofString "start" then some (.int d0 t1) else if y = Str.ofString "drawn" then some (.ref D) else m y) → News h₀ L h' [(D, W.listOf ws.toArray 0), (c8, o8), (c7, o7), (c6, o6), (c5, o5), (c4, o4), (c3, o3), (c2, o2), (c1, o1)] →
     LawGoes w dp un gd fa cd outer L c1 c2 c3 c4 c5 c6 c7 c8 rest Q E { s with heap := h', toks := tk' }) :
   LawGoes w dp un gd fa cd outer L c1 c2 c3 c4 c5 c6 c7 c8 (lawSt 2 :: lawSt 3 :: rest) Q E s := by
  w_on
  dsimp only [LawGoes] at cont ⊢
  revert X; k_fill; intro X
  conv in (lawSt 2) => whnf
  conv in (lawSt 3) => whnf
  repeat' (first | (k_unfold; (try dsimp only)) | walk1 | (dsimp only; walk1) | fail "no step")
  exact cont _ _ _ _ (by k_asm) (by k_asm)
set_option maxRecDepth 100000 in
set_option maxHeartbeats 2000000 in
theorem g3a_2 (B : Below A₀ base outer h₀) (X : (hd.heap_39 w.params).In h₀) (T : Top hd.view_39 Lse (ExcName.means s₀.heap) mg mb h₀)
   (D : Addr) (ws : List Value) (d0 d1 d2 d3 d4 : Int) (hi : IntsAre ws [d0, d1, d2, d3, d4])
   (m : Str → Option Value) (t2 t1 : Tok) (o1 o2 o3 o4 o5 o6 o7 o8 : Obj) (p1 : o1.data = .cell none)
   (l12 : @LT.lt Nat _ c1 c2) (l23 : @LT.lt Nat _ c2 c3) (l34 : @LT.lt Nat _ c3 c4) (l45 : @LT.lt Nat _ c4 c5) (l56 : @LT.lt Nat _ c5 c6) (l67 : @LT.lt Nat _ c6 c7) (l78 : @LT.lt Nat _ c7 c8) (l8D : @LT.lt Nat _ c8 D)
   (F : Fr h₀ L s.heap (fun y => if y = Str.ofString "size" then some (.int 2 t2) else if y = Str.ofString "start" then some (.int d0 t1) else if y = Str.ofString "drawn" then some (.ref D) else m y)) (N : News h₀ L s.heap [(D, W.listOf ws.toArray 0), (c8, o8), (c7, o7), (c6, o6), (c5, o5), (c4, o4), (c3, o3), (c2, o2), (c1, o1)])
   (cont : ∀ (SH : Addr) (ys : List Value) (h' : Heap) (tk' : Nat) (o1' : Obj), IntsAre ys (shiftsOf 2 d1 d2 d3 d4) → OffCells SH c1 c2 c3 c4 c5 c6 c7 c8 →
     Fr h₀ L h' (fun y => if y = Str.ofString "size" then some (.int 2 t2) else if y = Str.ofString "start" then some (.int d0 t1) else if y = Str.ofString "drawn" then some (.ref D) else m y) →
     News h₀ L h' [(SH, LCg.lst ys), (c8, o8), (c7, o7), (c6, o6), (c5, o5), (c4, o4), (c3, o3), (c2, o2), (c1, o1')] → o1'.data = .cell (some (.ref SH)) →
     LawGoes w dp un gd fa cd outer L c1 c2 c3 c4 c5 c6 c7 c8 rest Q E { s with heap := h', toks := tk' }) :
   LawGoes w dp un gd fa cd outer L c1 c2 c3 c4 c5 c6 c7 c8 (lawSt 4 :: rest) Q E s := by
  w_on
  dsimp only [LawGoes] at cont ⊢
  revert X; k_fill; intro X
  conv in (lawSt 4) => whnf
  repeat' (first | (k_unfold; (try dsimp only)) | walk1 | (dsimp only; walk1) | fail "no step")
  rename IntsAre _ (List.map _ _) => hI8
  refine cont _ _ _ _ _ hI8 ?_ (by k_asm) (cb_drop (by k_asm) ?_) (by assumption)
  · refine ⟨?_, ?_, ?_, ?_, ?_, ?_, ?_, ?_⟩ <;> omega
  · kcj_all
set_option maxRecDepth 100000 in
set_option maxHeartbeats 2000000 in
theorem g3a_3 (B : Below A₀ base outer h₀) (X : (hd.heap_39 w.params).In h₀) (T : Top hd.view_39 Lse (ExcName.means s₀.heap) mg mb h₀)
   (D : Addr) (ws : List Value) (d0 d1 d2 d3 d4 : Int) (hi : IntsAre ws [d0, d1, d2, d3, d4])
   (m : Str → Option Value) (t2 t1 : Tok) (o1 o2 o3 o4 o5 o6 o7 o8 : Obj) (p1 : o1.data = .cell none)
   (l12 : @LT.lt Nat _ c1 c2) (l23 : @LT.lt Nat _ c2 c3) (l34 : @LT.lt Nat _ c3 c4) (l45 : @LT.lt Nat _ c4 c5) (l56 : @LT.lt Nat _ c5 c6) (l67 : @LT.lt Nat _ c6 c7) (l78 : @LT.lt Nat _ c7 c8) (l8D : @LT.lt Nat _ c8 D)
   (F : Fr h₀ L s.heap (fun y => if y = Str.ofString "size" then some (.int 3 t2) else if y = Str.ofString "start" then some (.int d0 t1) else if y = Str.ofString "drawn" then some (.ref D) else m y)) (N : News h₀ L s.heap [(D, W.listOf ws.toArray 0), (c8, o8), (c7, o7), (c6, o6), (c5, o5), (c4, o4), (c3, o3), (c2, o2), (c1, o1)])
   (cont : ∀ (SH : Addr) (ys : List Value) (h' : Heap) (tk' : Nat) (o1' : Obj), IntsAre ys (shiftsOf 3 d1 d2 d3 d4) → OffCells SH c1 c2 c3 c4 c5 c6 c7 c8 →
     Fr h₀ L h' (fun y => if y = Str.ofString "size" then some (.int 3 t2) else if y = Str.ofString "start" then some (.int d0 t1) else if y = Str.ofString "drawn" then some (.ref D) else m y) →
     News h₀ L h' [(SH, LCg.lst ys), (c8, o8), (c7, o7), (c6, o6), (c5, o5), (c4, o4), (c3, o3), (c2, o2), (c1, o1')] → o1'.data = .cell (some (.ref SH)) →
     LawGoes w dp un gd fa cd outer L c1 c2 c3 c4 c5 c6 c7 c8 rest Q E { s with heap := h', toks := tk' }) :
   LawGoes w dp un gd fa cd outer L c1 c2 c3 c4 c5 c6 c7 c8 (lawSt 4 :: rest) Q E s := by
  w_on
  dsimp only [LawGoes] at cont ⊢
  revert X; k_fill; intro X
  conv in (lawSt 4) => whnf
  repeat' (first | (k_unfold; (try dsimp only)) | walk1 | (dsimp only; walk1) | fail "no step")
  rename IntsAre _ (List.map _ _) => hI8
  refine cont _ _ _ _ _ hI8 ?_ (by k_asm) (cb_drop (by k_asm) ?_) (by assumption)
  · refine ⟨?_, ?_, ?_, ?_, ?_, ?_, ?_, ?_⟩ <;> omega
  · kcj_all
set_option maxRecDepth 100000 in
set_option maxHeartbeats 2000000 in
theorem g3a_4 (B : Below A₀ base outer h₀) (X : (hd.heap_39 w.params).In h₀) (T : Top hd.view_39 Lse (ExcName.means s₀.heap) mg mb h₀)
   (D : Addr) (ws : List Value) (d0 d1 d2 d3 d4 : Int) (hi : IntsAre ws [d0, d1, d2, d3, d4])
   (m : Str → Option Value) (t2 t1 : Tok) (o1 o2 o3 o4 o5 o6 o7 o8 : Obj) (p1 : o1.data = .cell none)
   (l12 : @LT.lt Nat _ c1 c2) (l23 : @LT.lt Nat _ c2 c3) (l34 : @LT.lt Nat _ c3 c4) (l45 : @LT.lt Nat _ c4 c5) (l56 : @LT.lt Nat _ c5 c6) (l67 : @LT.lt Nat _ c6 c7) (l78 : @LT.lt Nat _ c7 c8) (l8D : @LT.lt Nat _ c8 D)
   (F : Fr h₀ L s.heap (fun y => if y = Str.ofString "size" then some (.int 4 t2) else if y = Str.ofString "start" then some (.int d0 t1) else if y = Str.ofString "drawn" then some (.ref D) else m y)) (N : News h₀ L s.heap [(D, W.listOf ws.toArray 0), (c8, o8), (c7, o7), (c6, o6), (c5, o5), (c4, o4), (c3, o3), (c2, o2), (c1, o1)])
   (cont : ∀ (SH : Addr) (ys : List Value) (h' : Heap) (tk' : Nat) (o1' : Obj), IntsAre ys (shiftsOf 4 d1 d2 d3 d4) → OffCells SH c1 c2 c3 c4 c5 c6 c7 c8 →
     Fr h₀ L h' (fun y => if y = Str.ofString "size" then some (.int 4 t2) else if y = Str.ofString "start" then some (.int d0 t1) else if y = Str.ofString "drawn" then some (.ref D) else m y) →
     News h₀ L h' [(SH, LCg.lst ys), (c8, o8), (c7, o7), (c6, o6), (c5, o5), (c4, o4), (c3, o3), (c2, o2), (c1, o1')] → o1'.data = .cell (some (.ref SH)) →
     LawGoes w dp un gd fa cd outer L c1 c2 c3 c4 c5 c6 c7 c8 rest Q E { s with heap := h', toks := tk' }) :
   LawGoes w dp un gd fa cd outer L c1 c2 c3 c4 c5 c6 c7 c8 (lawSt 4 :: rest) Q E s := by
  w_on
  dsimp only [LawGoes] at cont ⊢
  revert X; k_fill; intro X
  conv in (lawSt 4) => whnf
  repeat' (first | (k_unfold; (try dsimp only)) | walk1 | (dsimp only; walk1) | fail "no step")
  rename IntsAre _ (List.map _ _) => hI8
  refine cont _ _ _ _ _ hI8 ?_ (by k_asm) (cb_drop (by k_asm) ?_) (by assumption)
  · refine ⟨?_, ?_, ?_, ?_, ?_, ?_, ?_, ?_⟩ <;> omega
  · kcj_all
end
end Mine
namespace Mine
open PySem PySem.W PyProof.Rows PySem.Calls
/-- a goal that the step loop leaves alone -/
inductive Hold (p : Prop) : Prop
  | mk : p → Hold p
theorem Hold.out {p : Prop} : Hold p → p
  | .mk h => h
end Mine
namespace Mine
open PySem PySem.W PyProof.Rows PySem.Calls
/-- the shift at a place -/
def shiftAt (d1 d2 d3 d4 : Int) : Nat → Int
  | 0 => d1 + 1
  | 1 => d2 + 1
  | 2 => d3 + 1
  | _ => d4 + 1
theorem item_at {prog : Program} {w : World} {A : Around} {E : Value → Shared → Prop} {s : Shared} {value slice : Expr} {l : Addr} {ys : List Value} {k : Int} {u : Tok} {x : Value} {Q : Value → Shared → Prop} (hl : s.heap.IsList l ys.toArray)
    (h0 : 0 ≤ k) (hfit : k < 2 ^ 63) (hx : ys[k.toNat]? = some x) (h : Q x s)
    (hs : subscripted slice false (.ref l) (.int k u) = operate [.ref l, .int k u] (getItem (.ref l) (.int k u)) := by with_unfolding_all rfl) :
    wpAny (model prog w) A (subscriptTail value slice (.ref l) (.int k u)) Q E s :=
  tail_any hl.typeIs slot_list_getitem.lookup (wpAny_getItem_list hl h0 hfit (by simpa using hx) h) hs
section
variable (w : World) (s₀ : Shared) (mg mb : Str → Option Value) (dp un : Nat) (gd : Option (List Code)) (fa : Addr) (cd : Value) (outer : List Env) (L c1 c2 c3 c4 c5 c6 c7 c8 : Addr) (A₀ : Around) (base h₀ : Heap) (s : Shared) (Q : Flow → Shared → Prop) (E : Value → Shared → Prop) (rest : List Stmt)
set_option maxRecDepth 100000 in
set_option maxHeartbeats 2000000 in
theorem g3b (B : Below A₀ base outer h₀) (X : (hd.heap_39 w.params).In h₀) (T : Top hd.view_39 Lse (ExcName.means s₀.heap) mg mb h₀)
   (SH : Addr) (ys : List Value) (d0 d1 d2 d3 d4 : Int) (n : Nat) (hn2 : 2 ≤ n) (hn4 : n ≤ 4) (hi : ∀ k, k < n → ∃ t, ys[k]? = some (.int (shiftAt d1 d2 d3 d4 k) t))
   (m : Str → Option Value) (t2 : Tok) (o1 o2 o3 o4 o5 o6 o7 o8 : Obj) (p1 : o1.data = .cell (some (.ref SH))) (p2 : o2.data = .cell none) (p3 : o3.data = .cell none)
   (l12 : @LT.lt Nat _ c1 c2) (l23 : @LT.lt Nat _ c2 c3) (l34 : @LT.lt Nat _ c3 c4) (l45 : @LT.lt Nat _ c4 c5) (l56 : @LT.lt Nat _ c5 c6) (l67 : @LT.lt Nat _ c6 c7) (l78 : @LT.lt Nat _ c7 c8) (lSH : OffCells SH c1 c2 c3 c4 c5 c6 c7 c8)
   (F : Fr h₀ L s.heap (fun y => if y = Str.ofString "size" then some (.int (n : Int) t2) else m y)) (N : News h₀ L s.heap [(SH, LCg.lst ys), (c8, o8), (c7, o7), (c6, o6), (c5, o5), (c4, o4), (c3, o3), (c2, o2), (c1, o1)])
   (cont : ∀ (PL : Addr) (zs : List Value) (h' : Heap) (tk' : Nat) (o2' o3' : Obj), IntsAre zs (placesOf n d1 d2 d3 d4) → OffCells PL c1 c2 c3 c4 c5 c6 c7 c8 → @Ne Nat PL SH →
     Fr h₀ L h' (fun y => if y = Str.ofString "size" then some (.int (n : Int) t2) else m y) →
     News h₀ L h' [(PL, LCg.lst zs), (SH, LCg.lst ys), (c8, o8), (c7, o7), (c6, o6), (c5, o5), (c4, o4), (c3, o3'), (c2, o2'), (c1, o1)] → o3'.data = .cell (some (.ref PL)) →
     LawGoes w dp un gd fa cd outer L c1 c2 c3 c4 c5 c6 c7 c8 rest Q E { s with heap := h', toks := tk' }) :
   LawGoes w dp un gd fa cd outer L c1 c2 c3 c4 c5 c6 c7 c8 (lawSt 5 :: lawSt 6 :: rest) Q E s := by
  w_on
  dsimp only [LawGoes] at cont ⊢
  revert X; k_fill; intro X
  obtain ⟨q1, q2, q3, q4, q5, q6, q7, q8⟩ := lSH
  conv in (lawSt 5) => whnf
  conv in (lawSt 6) => whnf
  have hsm := range_small (n := n) (by omega)
  have hsz := range_size (n := n) (by omega)
  repeat' (first | ((with_reducible show LCg.CompSrc _ _ _ _ _ _ _ _ _ _ _ _ (Value.ref _) _); refine LCg.CompSrc.range rfl (by k_asm) (by k_asm) (by k_asm) hsm hsz (le_line (by omega)) (fun g => rest_rel (fun i y => ∃ t, y = .int (placeAt d1 d2 d3 d4 i) t) True.intro (Hold.out ?_) (Hold.out ?_))) | (k_unfold; (try dsimp only)) | walk1 | (dsimp only; walk1) | fail "no step")
  · refine Hold.mk ?_
    intro i v I oI C oC D m₂ zs h tk E' hin hP hC hx F' N' off ne
    obtain ⟨t9, hv9⟩ := hP
    simp only [LCg.Off3, and_true] at off
    have hi4 : i < 4 := by omega
    rcases i with _ | _ | _ | _ | i
    · obtain ⟨t8, h8⟩ := hi 0 hin
      have e9 : v = .int 0 t9 := hv9
      subst e9
      repeat' (first | (k_unfold; (try dsimp only)) | ((with_reducible show wpAny _ _ (subscriptTail (PySem.Expr.Subscript _ _ _) _ (Value.ref _) (Value.int _ _)) _ _ _); refine item_tupleT (News.isTup (by k_asm) (by k_mem)) (by decide) (by decide) (by rfl) (by rfl) ?_) | ((with_reducible show wpAny _ _ (subscriptTail (PySem.Expr.Name _ _) (PySem.Expr.Name _ _) (Value.ref _) (Value.int _ _)) _ _ _); refine item_at (ys := [Value.ref _, Value.ref _, Value.ref _, Value.ref _]) (News.isList (by k_asm) (by k_mem)) (by decide) (by decide) (by rfl) ?_) | ((with_reducible show wpAny _ _ (subscriptTail _ _ (Value.ref SH) (Value.int _ _)) _ _ _); refine item_at (News.isList (by k_asm) (by k_mem)) (by decide) (by decide) h8 ?_) | walk1 | fail "no step")
      exact ⟨_, _, rfl, by k_asm, by k_asm, _, rfl⟩
    · obtain ⟨t8, h8⟩ := hi 1 hin
      have e9 : v = .int 1 t9 := hv9
      subst e9
      repeat' (first | (k_unfold; (try dsimp only)) | ((with_reducible show wpAny _ _ (subscriptTail (PySem.Expr.Subscript _ _ _) _ (Value.ref _) (Value.int _ _)) _ _ _); refine item_tupleT (News.isTup (by k_asm) (by k_mem)) (by decide) (by decide) (by rfl) (by rfl) ?_) | ((with_reducible show wpAny _ _ (subscriptTail (PySem.Expr.Name _ _) (PySem.Expr.Name _ _) (Value.ref _) (Value.int _ _)) _ _ _); refine item_at (ys := [Value.ref _, Value.ref _, Value.ref _, Value.ref _]) (News.isList (by k_asm) (by k_mem)) (by decide) (by decide) (by rfl) ?_) | ((with_reducible show wpAny _ _ (subscriptTail _ _ (Value.ref SH) (Value.int _ _)) _ _ _); refine item_at (News.isList (by k_asm) (by k_mem)) (by decide) (by decide) h8 ?_) | walk1 | fail "no step")
      exact ⟨_, _, rfl, by k_asm, by k_asm, _, rfl⟩
    · obtain ⟨t8, h8⟩ := hi 2 hin
      have e9 : v = .int 2 t9 := hv9
      subst e9
      repeat' (first | (k_unfold; (try dsimp only)) | ((with_reducible show wpAny _ _ (subscriptTail (PySem.Expr.Subscript _ _ _) _ (Value.ref _) (Value.int _ _)) _ _ _); refine item_tupleT (News.isTup (by k_asm) (by k_mem)) (by decide) (by decide) (by rfl) (by rfl) ?_) | ((with_reducible show wpAny _ _ (subscriptTail (PySem.Expr.Name _ _) (PySem.Expr.Name _ _) (Value.ref _) (Value.int _ _)) _ _ _); refine item_at (ys := [Value.ref _, Value.ref _, Value.ref _, Value.ref _]) (News.isList (by k_asm) (by k_mem)) (by decide) (by decide) (by rfl) ?_) | ((with_reducible show wpAny _ _ (subscriptTail _ _ (Value.ref SH) (Value.int _ _)) _ _ _); refine item_at (News.isList (by k_asm) (by k_mem)) (by decide) (by decide) h8 ?_) | walk1 | fail "no step")
      exact ⟨_, _, rfl, by k_asm, by k_asm, _, rfl⟩
    · obtain ⟨t8, h8⟩ := hi 3 hin
      have e9 : v = .int 3 t9 := hv9
      subst e9
      repeat' (first | (k_unfold; (try dsimp only)) | ((with_reducible show wpAny _ _ (subscriptTail (PySem.Expr.Subscript _ _ _) _ (Value.ref _) (Value.int _ _)) _ _ _); refine item_tupleT (News.isTup (by k_asm) (by k_mem)) (by decide) (by decide) (by rfl) (by rfl) ?_) | ((with_reducible show wpAny _ _ (subscriptTail (PySem.Expr.Name _ _) (PySem.Expr.Name _ _) (Value.ref _) (Value.int _ _)) _ _ _); refine item_at (ys := [Value.ref _, Value.ref _, Value.ref _, Value.ref _]) (News.isList (by k_asm) (by k_mem)) (by decide) (by decide) (by rfl) ?_) | ((with_reducible show wpAny _ _ (subscriptTail _ _ (Value.ref SH) (Value.int _ _)) _ _ _); refine item_at (News.isList (by k_asm) (by k_mem)) (by decide) (by decide) h8 ?_) | walk1 | fail "no step")
      exact ⟨_, _, rfl, by k_asm, by k_asm, _, rfl⟩
    · omega
  · refine Hold.mk ?_
    intro zs hz
    have hz := paired_ints hz
    repeat' (first | (k_unfold; (try dsimp only)) | walk1 | fail "no step")
    refine cont _ zs _ _ _ _ hz ?_ ?_ (by k_asm) (cb_drop (by k_asm) (by kcj_all)) (by assumption)
    · refine ⟨?_, ?_, ?_, ?_, ?_, ?_, ?_, ?_⟩ <;> first | omega | (simp only [LCg.Off1, and_true] at *; omega)
    · first | omega | (simp only [LCg.Off1, and_true] at *; omega)
end
end Mine
namespace Mine
open PySem PySem.W PyProof.Rows PySem.Calls
set_option maxRecDepth 100000
theorem newDict_at {M : Model} {A : Around} {Q Q' : Value → Shared → Prop} {E : Value → Shared → Prop} {s : Shared} (h : wpAny M A newDict Q E s) (hq : ∀ s', Q (.ref s.heap.objs.size) s' → Q' (.ref s.heap.objs.size) s') : wpAny M A newDict Q' E s := by
  intro Γ p hΓ
  have h1 := h Γ p hΓ
  revert h1
  simp only [newDict, newObj, newObjAsIs]
  intro h1
  with_unfolding_all exact hq _ h1
section
variable {prog : Program} {w : World} {K : Type} [DecidableEq K] {A : Around} {E : Value → Shared → Prop} {env : Env}
theorem dict_free {s : Shared} {kx vx iter : Expr} {x : Str} {px : Pos} {ifs : List Expr} {scope : Scope} {cl : List (Str × Addr)} {pos : Pos} {Q : Value → Shared → Prop} (knd : KeyKind prog w K) (p : Value → Bool)
    (FK : Value → K → Prop) (FV : Value → Value → Prop)
    (hclos : closureFor scope env = pure cl) (hcell : ∀ y ∈ scope.names, y.2 ≠ .cell) (hkind : scope.kind = .function)
    (hnames : ∀ y ∈ scope.names, y.2 = .local → scope.names.lookup y.1 = some .local) (hx : scope.names.lookup x = some .local)
    (h : wpAny (model prog w) A (eval iter env) (fun xv s₁ => wpAny (model prog w) A (pyIter xv) (fun it s₂ => ∃ I fp wr n P St, it = .ref I ∧ Walks prog w A I fp wr n P St ∧ n ≤ sizeLine ∧ St 0 s₂.heap ∧ (∀ b ∈ fp, b < s₂.heap.objs.size) ∧
      QuietOnCD knd A env scope cl x ifs kx vx wr P p FK FV s₂ ∧
      (∀ D h' tk kvs (vs : List Value), D = s₂.heap.objs.size → s₂.heap.get? D = none → h'.DictOf knd D kvs → vs.length = n → (∀ j v, vs[j]? = some v → P j v) → StoredAll FK FV (vs.filter p) kvs →
        (∀ b o, b ∉ wr → s₂.heap.get? b = some o → h'.get? b = some o) → Q (.ref D) { s₂ with heap := h', toks := tk })) E s₁) E s)
    (hs : ∀ x, foldedSetIterable iter env x = pure x := by intro _; rfl) :
    wpAny (model prog w) A (eval (.DictComp kx vx [⟨.Name x px, iter, ifs, 0⟩] scope pos) env) Q E s := by
  rw [arm_eval_DictComp]
  refine wpAny_comprehension_free (use := none) rfl hs hclos hkind hnames (wpAny_mono h (fun xv s₁ h₁ => wpAny_mono h₁ (fun it s₂ h₂ => ?_) fun _ _ e => e) fun _ _ e => e)
  obtain ⟨I, fp, wr, n, P, St, rfl, W, hsz, hst, hfp, hq, hQ⟩ := h₂
  refine newDict_at (comp_block_walkCD (knd := knd) (iter := iter) (px := px) (pos := pos) (RR := fun acc C r s' => acc = .ref s₂.heap.objs.size → compPost (model prog w) A E none Q acc C r s') W hsz p FK FV hcell hkind hx hst hfp hq ?_) fun s' hi => ?_
  · intro D C h' tk m' kvs vs hD hC hDC hn hl hlen hP hF hk e
    injection e with e
    exact ⟨m', hn, fun h'' hs'' => hQ D h'' tk kvs vs e hD (hl.at (hs''.extBut _ · hDC)) hlen hP hF fun b o hbf e => hs''.extBut b o (by rintro rfl; rw [hC] at e; cases e) (hk b o hbf e)⟩
  · exact wpAny_mono hi (fun cenv s₄ hc => codeAny_mono hc fun r s₅ hr => hr rfl) fun _ _ e => e
end
end Mine
namespace Mine
open PySem PySem.W PyProof.Rows PySem.Calls
set_option maxRecDepth 100000
section
variable {K : Type} [DecidableEq K]
theorem valueAt_cons (p : K × Value) (l : List (K × Value)) (k : K) : valueAt (p :: l) k = if p.1 = k then some p.2 else valueAt l k := by
  by_cases h : p.1 = k
  · simp [valueAt, h]
  · simp [valueAt, h]
theorem valueAt_put (l : List (K × Value)) (k : K) (v : Value) (k' : K) :
    valueAt (l.map (fun kv => if kv.1 = k then (kv.1, v) else kv)) k' = if k = k' then (if (valueAt l k).isSome then some v else none) else valueAt l k' := by
  induction l with
  | nil => simp [valueAt]
  | cons p l ih =>
    rw [List.map_cons, valueAt_cons, ih, valueAt_cons, valueAt_cons]
    by_cases e : p.1 = k
    · by_cases e' : k = k'
      · subst e'; simp [e]
      · have : ¬ p.1 = k' := fun x => e' (e ▸ x)
        simp [e, e']
    · by_cases e' : k = k'
      · subst e'; simp [e]
      · simp [e, e']
theorem valueAt_snoc (l : List (K × Value)) (k : K) (v : Value) (k' : K) (h : valueAt l k = none) :
    valueAt (l ++ [(k, v)]) k' = if k = k' then some v else valueAt l k' := by
  induction l with
  | nil => simp [valueAt_cons, valueAt]
  | cons p l ih =>
    rw [valueAt_cons] at h
    have hp : ¬ p.1 = k := by
      intro e
      rw [if_pos e] at h
      cases h
    rw [if_neg hp] at h
    rw [List.cons_append, valueAt_cons, ih h, valueAt_cons]
    by_cases e : p.1 = k'
    · have : ¬ k = k' := fun x => hp (e.trans x.symm)
      simp [e, this]
    · simp [e]
theorem valueAt_stored (l : List (K × Value)) (k : K) (v : Value) (k' : K) : valueAt (stored l k v) k' = if k = k' then some v else valueAt l k' := by
  unfold stored
  have hi := valueAt_isSome_eq_any l k
  by_cases h : (l.any fun kv => decide (kv.1 = k)) = true
  · rw [if_pos h, valueAt_put, hi, h]
    simp
  · rw [if_neg h]
    refine valueAt_snoc l k v k' ?_
    rw [← Option.not_isSome_iff_eq_none, hi]
    exact h
end
/-- the key and the value of the i-th turn -/
def KeyIs (n : Nat) (f : Nat → Str) (v : Value) (k : Str) : Prop := ∃ (i : Nat) (t : Tok), i < n ∧ v = .int i t ∧ k = f i
def ValIs (g : Nat → Int) (v : Value) (y : Value) : Prop := ∃ (i : Nat) (t t' : Tok), v = .int i t ∧ y = .int (g i) t'
/-- what a dict comprehension over a range holds -/
def TableOf (n : Nat) (f : Nat → Str) (g : Nat → Int) (kvs : List (Str × Value)) : Prop :=
  (∀ k v, valueAt kvs k = some v → ∃ i, i < n ∧ k = f i ∧ ∃ t, v = .int (g i) t) ∧ (∀ i, i < n → (valueAt kvs (f i)).isSome = true)
theorem table_of {n : Nat} {f : Nat → Str} {g : Nat → Int} {vs : List Value} {kvs : List (Str × Value)} (h : StoredAll (KeyIs n f) (ValIs g) vs kvs) :
    (∀ k v, valueAt kvs k = some v → ∃ i, i < n ∧ k = f i ∧ ∃ t, v = .int (g i) t) ∧ (∀ i t, Value.int ((i : Nat) : Int) t ∈ vs → (valueAt kvs (f i)).isSome = true) := by
  induction h with
  | nil => exact ⟨fun k v h => by simp [valueAt] at h, fun i t h => by cases h⟩
  | @snoc l kvs v k y _ hk hy ih =>
    obtain ⟨i, t, hi, hv, rfl⟩ := hk
    obtain ⟨j, u, u', hv', rfl⟩ := hy
    have e : i = j := by
      have q : Value.int (i : Int) t = Value.int (j : Int) u := hv.symm.trans hv'
      injection q with q1
      exact Int.ofNat.inj q1
    subst e
    constructor
    · intro k v' hq
      rw [valueAt_stored] at hq
      by_cases e : f i = k
      · rw [if_pos e] at hq
        cases hq
        exact ⟨i, hi, e.symm, _, rfl⟩
      · rw [if_neg e] at hq
        exact ih.1 k v' hq
    · intro j t' hj
      rw [valueAt_stored]
      by_cases e : f i = f j
      · simp [e]
      · rw [if_neg e]
        rcases List.mem_append.mp hj with hj | hj
        · exact ih.2 j t' hj
        · rw [List.mem_singleton] at hj
          have q : Value.int (j : Int) t' = Value.int (i : Int) t := hj.trans hv
          injection q with q1
          exact absurd (by rw [Int.ofNat.inj q1]) e
theorem name_comp {prog : Program} {w : World} {A : Around} {E : Value → Shared → Prop} {s : Shared} {Q : Value → Shared → Prop} {x : Str} {pos : Pos} {scope : Scope} {cl : List (Str × Addr)} {C : Addr} {env : Env} {m₂ : Str → Option Value} {v : Value}
    (hn : s.heap.Ns C m₂) (hv : m₂ x = some v) (hk : scope.kind = .function) (hx : scope.names.lookup x = some .local) (hd : (x == ("__debug__" : Str)) = false) (h : Q v s) :
    wpAny (model prog w) A (eval (.Name x pos) (compEnvC scope cl C env)) Q E s := by
  rw [eval_Name (compEnvC scope cl C env) x pos hd]
  refine wpAny_bind (wpAny_standAt (wpAny_loadName_local (m := m₂) ?_ ?_ hn hv h))
  · exact hk
  · exact lookup_relabel_local hx
section
variable {prog : Program} {w : World} {A : Around} {E : Value → Shared → Prop} {s : Shared} {h₀ : Heap} {L : Addr} {m : Str → Option Value} {env : Env}
theorem DictComp_R {kx vx iter : Expr} {x : Str} {px : Pos} {scope : Scope} {cl : List (Str × Addr)} {pos : Pos} {Q : Value → Shared → Prop} (n : Nat) (f : Nat → Str) (g : Nat → Int)
    (hclos : closureFor scope env = pure cl) (hcell : ∀ y ∈ scope.names, y.2 ≠ .cell) (hkind : scope.kind = .function)
    (hnames : ∀ y ∈ scope.names, y.2 = .local → scope.names.lookup y.1 = some .local) (hx : scope.names.lookup x = some .local)
    (h : wpAny (model prog w) A (eval iter env) (fun xv s₁ => ∃ (r : Addr) (t u v : Tok) (news : List (Addr × Obj)), xv = .ref r ∧ A.handled = none ∧ Fr h₀ L s₁.heap m ∧ News h₀ L s₁.heap news ∧ IsRange s₁.heap r 0 n 1 t u v ∧ Builtin.Range.small 0 n 1 = true ∧ Builtin.Range.rangeSize 0 n 1 = ((n : Nat) : Int) ∧ n ≤ sizeLine ∧
      (∀ (i : Nat) (t : Tok) (C : Addr) (m₃ : Str → Option Value) (s₃ : Shared) (E' : Value → Shared → Prop), i < n → s₃.heap.Ns C m₃ → m₃ x = some (.int (i : Int) t) → Fr h₀ L s₃.heap m → News h₀ L s₃.heap news →
        wpAny (model prog w) A (eval kx (compEnvC scope cl C env)) (fun y s₄ => (∃ t, y = .str (f i) t) ∧ Keeps s₃ s₄) E' s₃) ∧
      (∀ (i : Nat) (t : Tok) (C : Addr) (m₃ : Str → Option Value) (s₃ : Shared) (E' : Value → Shared → Prop), i < n → s₃.heap.Ns C m₃ → m₃ x = some (.int (i : Int) t) → Fr h₀ L s₃.heap m → News h₀ L s₃.heap news →
        wpAny (model prog w) A (eval vx (compEnvC scope cl C env)) (fun y s₄ => (∃ t, y = .int (g i) t) ∧ Keeps s₃ s₄) E' s₃) ∧
      (∀ (D : Addr) (h' : Heap) (tk : Nat) (kvs : List (Str × Value)) (o : Obj), Fr h₀ L h' m → News h₀ L h' ((D, o) :: news) → LCg.Off1 D news → @LT.lt Nat _ L D → o.IsDictOf (PySem.strKind prog w) kvs → TableOf n f g kvs → Q (.ref D) { s₁ with heap := h', toks := tk })) E s)
    (hs : ∀ x, foldedSetIterable iter env x = pure x := by intro _; rfl) :
    wpAny (model prog w) A (eval (.DictComp kx vx [⟨.Name x px, iter, [], 0⟩] scope pos) env) Q E s := by
  refine dict_free (PySem.strKind prog w) (fun _ => true) (KeyIs n f) (ValIs g) hclos hcell hkind hnames hx (wpAny_mono h (fun xv s₁ h₁ => ?_) fun _ _ e => e) hs
  obtain ⟨r, t, u, v, news, rfl, hh, F, N, hr, hsm, hn, hsz, hkey, hval, fin⟩ := h₁
  refine wpAny_pyIter_range hr hsm ?_
  have up : ∀ b o, s₁.heap.get? b = some o → (s₁.heap.push { cls := .type "range_iterator", data := .fields #[rawInt 0, rawInt (Builtin.Range.rangeSize 0 n 1), rawInt 1] }).get? b = some o := fun b o e => Heap.get?_push_of_some _ e
  have F' := F.keeps up
  have N' := N.grown up
  have hI₀ := next_is_new F
  have hLI : L ≠ s₁.heap.objs.size := Nat.ne_of_lt F.ns.lt
  have off : ∀ p ∈ news, p.1 ≠ s₁.heap.objs.size := fun p hp => Nat.ne_of_lt (Heap.lt_size (N p hp).1)
  refine ⟨_, _, _, n, _, _, rfl, (LCg.range_walks (A := A) hh 0 n).bound, hsz, ?_, ?_, ⟨?_, ?_, ?_⟩, ?_⟩
  · show IsRangeIter _ _ _ _ _
    rw [hn]
    simpa using Heap.get?_push_size _ rfl
  · intro b hb
    rw [List.mem_singleton.mp hb]
    show s₁.heap.objs.size < (s₁.heap.push _).objs.size
    rw [Heap.size_push]
    exact Nat.lt_succ_self _
  · intro C i v s₃ m₃ E' _ _ _ _
    exact wpAny_pure ⟨rfl, s₃.heap, s₃.toks, rfl, fun _ _ e => e⟩
  · intro C i v s₃ m₃ E' hP _ hC hx₃ hk
    obtain ⟨hi, t₃, hv⟩ := hP
    have ev : v = .int (i : Int) t₃ := by rw [hv, Int.zero_add]
    subst ev
    refine wpAny_mono (hkey i t₃ C m₃ s₃ E' hi hC hx₃ (LCg.fr_but F' hk hLI hI₀) (LCg.news_but N' hk off)) (fun y s₄ hy => ?_) fun _ _ e => e
    obtain ⟨⟨t₄, rfl⟩, K₄⟩ := hy
    exact ⟨⟨f i, strKind_is prog w _ _, i, t₃, hi, rfl, rfl⟩, K₄⟩
  · intro C i v s₃ m₃ E' hP _ hC hx₃ hk
    obtain ⟨hi, t₃, hv⟩ := hP
    have ev : v = .int (i : Int) t₃ := by rw [hv, Int.zero_add]
    subst ev
    refine wpAny_mono (hval i t₃ C m₃ s₃ E' hi hC hx₃ (LCg.fr_but F' hk hLI hI₀) (LCg.news_but N' hk off)) (fun y s₄ hy => ?_) fun _ _ e => e
    obtain ⟨⟨t₄, rfl⟩, K₄⟩ := hy
    exact ⟨⟨i, t₃, t₄, rfl, rfl⟩, K₄⟩
  · intro D h' tk kvs vs hDs hD hDo hlen hP hS hk
    obtain ⟨o, ho, hd⟩ := Heap.dictOf_iff.mp hDo
    have hfr := LCg.fr_but F' hk hLI hI₀
    have hnw := LCg.news_but N' hk off
    have hDne : ∀ b x, s₁.heap.get? b = some x → b ≠ D := fun b x e q => by
      have := up b x e
      rw [q] at this
      rw [hD] at this
      cases this
    have hD₀ : h₀.get? D = none := by
      cases e : h₀.get? D with
      | none => rfl
      | some x =>
        have := F'.keep _ _ e
        rw [hD] at this
        cases this
    obtain ⟨oL, _, _, hoL, _⟩ := F.ns
    have hLD : @LT.lt Nat _ L D := by
      rw [hDs]
      exact F'.ns.lt
    refine fin D h' tk kvs o hfr (fun p hp => ?_) ?_ hLD hd ?_
    · rcases List.mem_cons.mp hp with rfl | hp
      · exact ⟨ho, fun e => hDne L oL hoL e.symm, hD₀⟩
      · exact hnw p hp
    · have : ∀ l : List (Addr × Obj), (∀ p ∈ l, p.1 ≠ D) → LCg.Off1 D l := by
        intro l
        induction l with
        | nil => intro _; trivial
        | cons p l ih => intro h; exact ⟨h p (.head _), ih fun q hq => h q (.tail _ hq)⟩
      exact this news fun p hp => hDne _ _ (N p hp).1
    · have hS' : StoredAll (KeyIs n f) (ValIs g) vs kvs := by
        have e : vs.filter (fun _ => true) = vs := List.filter_eq_self.mpr fun _ _ => rfl
        rwa [e] at hS
      obtain ⟨q1, q2⟩ := table_of hS'
      refine ⟨q1, fun i hi => ?_⟩
      have hi' : i < vs.length := by omega
      have hq := hP i vs[i] (List.getElem?_eq_getElem hi')
      obtain ⟨_, t₉, hv⟩ := hq
      refine q2 i t₉ ?_
      rw [Int.zero_add] at hv
      rw [← hv]
      exact List.getElem_mem hi'
end
end Mine
namespace Mine
open PySem PySem.W PyProof.Rows PySem.Calls
set_option maxRecDepth 100000
theorem hex_bit : ∀ p : Fin 40, 10 ≤ p.val → hexAt ((p.val : Nat) : Int) = baseText "0x" 16 ((2 : Int) ^ p.val) := by decide +kernel
/-- the word of a place -/
noncomputable def wordAt (p : Int) : Str := bitText p.toNat
theorem word_ok (w : World) (s₀ : Shared) (mg mb : Str → Option Value) (p : Int) (t : Tok) :
  Con 1 w s₀ mg mb 68 (0 ≤ p ∧ p < 40) [.int p t] (fun t => .str (wordAt p) t) := by
  intro dp un gd cn cs a ccd cl outer A₀ base h₀ L m news s Q E B F X N T hck hpre
  by_cases h : p < 10
  · have e : wordAt p = loAt p := by
      unfold wordAt bitText
      rw [if_pos (by omega), Int.toNat_of_nonneg hpre.1]
    simp only [e]
    exact word_lo w s₀ mg mb p t dp un gd cn cs a ccd cl outer A₀ base h₀ L m news s Q E B F X N T hck ⟨hpre.1, h⟩
  · have e : wordAt p = hexAt p := by
      have q := hex_bit ⟨p.toNat, by omega⟩ (by show 10 ≤ p.toNat; omega)
      unfold wordAt bitText
      rw [if_neg (by omega), ← q]
      show hexAt ((p.toNat : Nat) : Int) = _
      rw [Int.toNat_of_nonneg hpre.1]
    simp only [e]
    exact word_hi w s₀ mg mb p t dp un gd cn cs a ccd cl outer A₀ base h₀ L m news s Q E B F X N T hck ⟨by omega, hpre.2⟩
section
variable (w : World) (s₀ : Shared) (mg mb : Str → Option Value) (dp un : Nat) (gd : Option (List Code)) (fa : Addr) (cd : Value) (outer : List Env) (L c1 c2 c3 c4 c5 c6 c7 c8 : Addr) (A₀ : Around) (base h₀ : Heap) (s : Shared) (Q : Flow → Shared → Prop) (E : Value → Shared → Prop) (rest : List Stmt)
set_option maxHeartbeats 2000000 in
theorem g4 (B : Below A₀ base outer h₀) (X : (hd.heap_39 w.params).In h₀) (T : Top hd.view_39 Lse (ExcName.means s₀.heap) mg mb h₀) (hdp : dp + 1 < recursionLimit) (hun : un + 8 * 1 < cLine)
   (SH PL : Addr) (ys zs : List Value) (f g : Nat → Int) (n : Nat) (hn2 : 2 ≤ n) (hn4 : n ≤ 4) (hi : ∀ k, k < n → ∃ t, ys[k]? = some (.int (g k) t)) (hz : ∀ k, k < n → ∃ t, zs[k]? = some (.int (f k) t)) (hf : ∀ k, k < n → 0 ≤ f k ∧ f k < 40)
   (m : Str → Option Value) (t2 : Tok) (o1 o2 o3 o4 o5 o6 o7 o8 : Obj) (p1 : o1.data = .cell (some (.ref SH))) (p3 : o3.data = .cell (some (.ref PL))) (p4 : o4.data = .cell none)
   (l12 : @LT.lt Nat _ c1 c2) (l23 : @LT.lt Nat _ c2 c3) (l34 : @LT.lt Nat _ c3 c4) (l45 : @LT.lt Nat _ c4 c5) (l56 : @LT.lt Nat _ c5 c6) (l67 : @LT.lt Nat _ c6 c7) (l78 : @LT.lt Nat _ c7 c8) (lSH : OffCells SH c1 c2 c3 c4 c5 c6 c7 c8) (lPL : OffCells PL c1 c2 c3 c4 c5 c6 c7 c8) (lPS : @Ne Nat PL SH)
   (F : Fr h₀ L s.heap (fun y => if y = Str.ofString "size" then some (.int (n : Int) t2) else m y)) (N : News h₀ L s.heap [(PL, LCg.lst zs), (SH, LCg.lst ys), (c8, o8), (c7, o7), (c6, o6), (c5, o5), (c4, o4), (c3, o3), (c2, o2), (c1, o1)])
   (cont : ∀ (WO : Addr) (kvs : List (Str × Value)) (oW : Obj) (h' : Heap) (tk' : Nat) (o4' : Obj), TableOf n (fun i => wordAt (f i)) g kvs → oW.IsDictOf (PySem.strKind PySem.Challenge.rw_ty0015_01.row.prog w) kvs → @LT.lt Nat _ L WO → OffCells WO c1 c2 c3 c4 c5 c6 c7 c8 → @Ne Nat PL WO → @Ne Nat SH WO →
     Fr h₀ L h' (fun y => if y = Str.ofString "size" then some (.int (n : Int) t2) else m y) →
     News h₀ L h' [(WO, oW), (PL, LCg.lst zs), (SH, LCg.lst ys), (c8, o8), (c7, o7), (c6, o6), (c5, o5), (c4, o4'), (c3, o3), (c2, o2), (c1, o1)] → o4'.data = .cell (some (.ref WO)) →
     LawGoes w dp un gd fa cd outer L c1 c2 c3 c4 c5 c6 c7 c8 rest Q E { s with heap := h', toks := tk' }) :
   LawGoes w dp un gd fa cd outer L c1 c2 c3 c4 c5 c6 c7 c8 (lawSt 7 :: rest) Q E s := by
  w_on
  dsimp only [LawGoes] at cont ⊢
  revert X; k_fill; intro X
  obtain ⟨q1, q2, q3, q4, q5, q6, q7, q8⟩ := lSH
  obtain ⟨r1, r2, r3, r4, r5, r6, r7, r8⟩ := lPL
  conv in (lawSt 7) => whnf
  have hsm := range_small (n := n) (by omega)
  have hsz := range_size (n := n) (by omega)
  repeat' (first
    | ((with_reducible show wpAny _ _ (call (Value.ref _) _) _ _ _); k_dflt ( (refine' con_use (word_ok _ _ _ _ _ _) ?B ?F ?X ?N ?T ?hk ?hp ?hd ?hu ?_; (case B => k_asm); (case F => k_asm); (case X => k_asm); (case N => k_asm); (case T => k_asm); (case hk => exact rfl); (case hp => k_asm); (case hd => k_asm); (case hu => k_asm); intro t9 h9 tk9 F9 N9 K9; (try dsimp only))))
    | ((with_reducible show wpAny _ _ (eval (PySem.Expr.DictComp _ _ _ _ _) _) _ _ _); refine DictComp_R (h₀ := h₀) (L := L) (m := fun y => if y = Str.ofString "size" then some (.int (n : Int) t2) else m y) n (fun i => wordAt (f i)) g (by with_unfolding_all rfl) (by decide) (by rfl) (by decide) (by rfl) ?_)
    | ((with_reducible show ∃ _ _ _ _ _, _); refine ⟨_, _, _, _, _, rfl, rfl, by k_asm, by k_asm, by k_asm, hsm, hsz, le_line (by omega), Hold.out ?_, Hold.out ?_, Hold.out ?_⟩)
    | (k_unfold; (try dsimp only)) | walk1 | (dsimp only; walk1) | fail "no step")
  · refine Hold.mk ?_
    intro i t C m₃ s₃ E' hin hC hx₃ F₃ N₃
    obtain ⟨t8, h8⟩ := hz i hin
    have hfi := hf i hin
    repeat' (first
      | ((with_reducible show wpAny _ _ (call (Value.ref _) _) _ _ _); k_dflt ( (refine' con_use (word_ok _ _ _ _ _ _) ?B ?F ?X ?N ?T ?hk ?hp ?hd ?hu ?_; (case B => k_asm); (case F => k_asm); (case X => k_asm); (case N => k_asm); (case T => k_asm); (case hk => exact rfl); (case hp => k_asm); (case hd => k_asm); (case hu => k_asm); intro t9 h9 tk9 F9 N9 K9; (try dsimp only))))
      | ((with_reducible show wpAny _ _ (eval (PySem.Expr.Name _ _) (compEnvC _ _ _ _)) _ _ _); refine name_comp hC hx₃ rfl rfl rfl ?_)
      | ((with_reducible show wpAny _ _ (subscriptTail _ _ (Value.ref _) (Value.int _ _)) _ _ _); refine item_at (News.isList (by k_asm) (by k_mem)) (Int.natCast_nonneg i) (by omega) h8 ?_)
      | ((with_reducible show _ ∧ Keeps _ _); exact ⟨⟨_, rfl⟩, _, _, rfl, by assumption⟩)
      | (k_unfold; (try dsimp only)) | walk1 | (dsimp only; walk1) | fail "no step")
  · refine Hold.mk ?_
    intro i t C m₃ s₃ E' hin hC hx₃ F₃ N₃
    obtain ⟨t8, h8⟩ := hi i hin
    repeat' (first
      | ((with_reducible show wpAny _ _ (call (Value.ref _) _) _ _ _); k_dflt ( (refine' con_use (word_ok _ _ _ _ _ _) ?B ?F ?X ?N ?T ?hk ?hp ?hd ?hu ?_; (case B => k_asm); (case F => k_asm); (case X => k_asm); (case N => k_asm); (case T => k_asm); (case hk => exact rfl); (case hp => k_asm); (case hd => k_asm); (case hu => k_asm); intro t9 h9 tk9 F9 N9 K9; (try dsimp only))))
      | ((with_reducible show wpAny _ _ (eval (PySem.Expr.Name _ _) (compEnvC _ _ _ _)) _ _ _); refine name_comp hC hx₃ rfl rfl rfl ?_)
      | ((with_reducible show wpAny _ _ (subscriptTail _ _ (Value.ref _) (Value.int _ _)) _ _ _); refine item_at (News.isList (by k_asm) (by k_mem)) (Int.natCast_nonneg i) (by omega) h8 ?_)
      | ((with_reducible show _ ∧ Keeps _ _); exact ⟨⟨_, rfl⟩, _, _, rfl, fun _ _ e => e⟩)
      | (k_unfold; (try dsimp only)) | walk1 | (dsimp only; walk1) | fail "no step")
  · refine Hold.mk ?_
    intro D h' tk kvs o F₃ N₃ off hLD hD hT
    simp only [LCg.Off1, and_true] at off
    repeat' (first | ((with_reducible show wpAny _ _ (call (Value.ref _) _) _ _ _); k_dflt ( (refine' con_use (word_ok _ _ _ _ _ _) ?B ?F ?X ?N ?T ?hk ?hp ?hd ?hu ?_; (case B => k_asm); (case F => k_asm); (case X => k_asm); (case N => k_asm); (case T => k_asm); (case hk => exact rfl); (case hp => k_asm); (case hd => k_asm); (case hu => k_asm); intro t9 h9 tk9 F9 N9 K9; (try dsimp only)))) | (k_unfold; (try dsimp only)) | walk1 | fail "no step")
    refine cont _ kvs o _ _ _ hT hD hLD ?_ ?_ ?_ (by k_asm) (by k_asm) (by assumption)
    · refine ⟨?_, ?_, ?_, ?_, ?_, ?_, ?_, ?_⟩ <;> omega
    · omega
    · omega
end
end Mine
namespace Mine
open PySem PySem.W PyProof.Rows PySem.Calls
set_option maxRecDepth 100000
theorem ints_at : ∀ {vs : List Value} {ns : List Int}, IntsAre vs ns → ∀ (i : Nat) (v : Value), vs[i]? = some v → i < ns.length ∧ ∃ t, v = .int (ns.getD i 0) t
  | _, _, .nil, i, v, h => by simp at h
  | _, _, .cons n t r, 0, v, h => by
    simp at h
    exact ⟨by simp, t, by simp [← h]⟩
  | _, _, .cons n t r, i + 1, v, h => by
    have := ints_at r i v (by simpa using h)
    exact ⟨by simpa using this.1, by simpa using this.2⟩
theorem map_getD_range {α : Type} (f : Int → α) (qs : List Int) : (List.range qs.length).map (fun i => f (qs.getD i 0)) = qs.map f := by
  have e := map_range_getD qs 0
  have : (List.range qs.length).map (fun i => f (qs.getD i 0)) = ((List.range qs.length).map (fun i => qs.getD i 0)).map f := by simp [List.map_map, Function.comp_def]
  rw [this, e]
section
variable (w : World) (s₀ : Shared) (mg mb : Str → Option Value) (dp un : Nat) (gd : Option (List Code)) (fa : Addr) (cd : Value) (outer : List Env) (L c1 c2 c3 c4 c5 c6 c7 c8 : Addr) (A₀ : Around) (base h₀ : Heap) (s : Shared) (Q : Flow → Shared → Prop) (E : Value → Shared → Prop) (rest : List Stmt)
set_option maxHeartbeats 2000000 in
theorem g5 (B : Below A₀ base outer h₀) (X : (hd.heap_39 w.params).In h₀) (T : Top hd.view_39 Lse (ExcName.means s₀.heap) mg mb h₀) (hdp : dp + 1 < recursionLimit) (hun : un + 8 * 1 < cLine)
   (WO SH PL : Addr) (oW : Obj) (ys zs : List Value) (ps : List Int) (n : Nat) (hn4 : n ≤ 4) (hz : IntsAre zs ps) (hlen : ps.length = n) (hf : ∀ p ∈ ps, 0 ≤ p ∧ p < 40)
   (m : Str → Option Value) (o1 o2 o3 o4 o5 o6 o7 o8 : Obj) (p3 : o3.data = .cell (some (.ref PL)))
   (l12 : @LT.lt Nat _ c1 c2) (l23 : @LT.lt Nat _ c2 c3) (l34 : @LT.lt Nat _ c3 c4) (l45 : @LT.lt Nat _ c4 c5) (l56 : @LT.lt Nat _ c5 c6) (l67 : @LT.lt Nat _ c6 c7) (l78 : @LT.lt Nat _ c7 c8) (lWO : OffCells WO c1 c2 c3 c4 c5 c6 c7 c8) (lSH : OffCells SH c1 c2 c3 c4 c5 c6 c7 c8) (lPL : OffCells PL c1 c2 c3 c4 c5 c6 c7 c8) (lPS : @Ne Nat PL SH) (lPW : @Ne Nat PL WO) (lSW : @Ne Nat SH WO)
   (F : Fr h₀ L s.heap m) (N : News h₀ L s.heap [(WO, oW), (PL, LCg.lst zs), (SH, LCg.lst ys), (c8, o8), (c7, o7), (c6, o6), (c5, o5), (c4, o4), (c3, o3), (c2, o2), (c1, o1)])
   (cont : ∀ (OR : Addr) (es : List Value) (qs : List Int) (h' : Heap) (tk' : Nat), StrsAre es (qs.map wordAt) → qs.Perm ps → qs.Pairwise (· ≤ ·) → OffCells OR c1 c2 c3 c4 c5 c6 c7 c8 → @Ne Nat WO OR → @Ne Nat PL OR → @Ne Nat SH OR →
     Fr h₀ L h' (fun y => if y = Str.ofString "order" then some (.ref OR) else m y) →
     News h₀ L h' [(OR, LCg.lst es), (WO, oW), (PL, LCg.lst zs), (SH, LCg.lst ys), (c8, o8), (c7, o7), (c6, o6), (c5, o5), (c4, o4), (c3, o3), (c2, o2), (c1, o1)] →
     LawGoes w dp un gd fa cd outer L c1 c2 c3 c4 c5 c6 c7 c8 rest Q E { s with heap := h', toks := tk' }) :
   LawGoes w dp un gd fa cd outer L c1 c2 c3 c4 c5 c6 c7 c8 (lawSt 8 :: rest) Q E s := by
  w_on
  dsimp only [LawGoes] at cont ⊢
  revert X; k_fill; intro X
  obtain ⟨u1, u2, u3, u4, u5, u6, u7, u8⟩ := lWO
  obtain ⟨q1, q2, q3, q4, q5, q6, q7, q8⟩ := lSH
  obtain ⟨r1, r2, r3, r4, r5, r6, r7, r8⟩ := lPL
  conv in (lawSt 8) => whnf
  repeat' (first
    | ((with_reducible show wpAny _ _ (call (Value.ref _) _) _ _ _); k_dflt ( (refine' con_use (word_ok _ _ _ _ _ _) ?B ?F ?X ?N ?T ?hk ?hp ?hd ?hu ?_; (case B => k_asm); (case F => k_asm); (case X => k_asm); (case N => k_asm); (case T => k_asm); (case hk => exact rfl); (case hp => k_asm); (case hd => k_asm); (case hu => k_asm); intro t9 h9 tk9 F9 N9 K9; (try dsimp only)))) | ((with_reducible show wpAny _ _ (exec (PySem.Stmt.Assign _ (PySem.Expr.ListComp _ _ _ _) _) _) _ _ _); k_dflt (refine LCg.Assign_ListComp_U (F₀ := by k_asm) (by rfl) (by with_unfolding_all rfl) (by with_unfolding_all rfl) (by decide) (by rfl) (by decide) (by rfl) (by rfl) (by rfl) ?_))
    | ((with_reducible show LCg.CompSrc _ _ _ _ _ _ _ _ _ _ _ _ (Value.ref _) _)
       rename List Int => qs
       rename IntsAre _ qs => hqi
       rename List.Perm qs ps => hqp
       have hql : qs.length = n := hqp.length_eq.trans hlen
       have hvl := hqi.length
       refine LCg.CompSrc.ledger (by rfl) (by k_asm) (by k_asm) (by k_mem) (by rw [List.size_toArray]; exact le_line (by omega)) (fun g => rest_rel (fun i y => ∃ t, y = .str (wordAt (qs.getD i 0)) t) (by exact Or.inr ⟨_, List.Mem.head _, rfl, _, rfl⟩) (Hold.out ?_) (Hold.out ?_)))
    | (k_unfold; (try dsimp only)) | walk1 | (dsimp only; walk1) | fail "no step")
  · refine Hold.mk ?_
    intro i v I oI C oC D m₂ es h tk E' hin hP hC hx F' N' off ne
    obtain ⟨hiq, t9, hv9⟩ := ints_at hqi i v (by simpa using hP)
    subst hv9
    simp only [LCg.Off3, and_true] at off
    have hfi : 0 ≤ qs.getD i 0 ∧ qs.getD i 0 < 40 := by
      refine hf _ (hqp.mem_iff.mp ?_)
      simp [List.getD, hiq]
    repeat' (first
      | ((with_reducible show wpAny _ _ (call (Value.ref _) _) _ _ _); k_dflt ( (refine' con_use (word_ok _ _ _ _ _ _) ?B ?F ?X ?N ?T ?hk ?hp ?hd ?hu ?_; (case B => k_asm); (case F => k_asm); (case X => k_asm); (case N => k_asm); (case T => k_asm); (case hk => exact rfl); (case hp => k_asm); (case hd => k_asm); (case hu => k_asm); intro t9 h9 tk9 F9 N9 K9; (try dsimp only)))) | ((with_reducible show wpAny _ _ (exec (PySem.Stmt.Assign _ (PySem.Expr.ListComp _ _ _ _) _) _) _ _ _); k_dflt (refine LCg.Assign_ListComp_U (F₀ := by k_asm) (by rfl) (by with_unfolding_all rfl) (by with_unfolding_all rfl) (by decide) (by rfl) (by decide) (by rfl) (by rfl) (by rfl) ?_))
      | ((with_reducible show LeafEnd _ _ _ _ _ _ _ _); exact ⟨_, _, rfl, by k_asm, by k_asm, _, rfl⟩)
      | (k_unfold; (try dsimp only)) | walk1 | (dsimp only; walk1) | fail "no step")
  · refine Hold.mk ?_
    intro es hes
    have hes := paired_strs hes
    rw [List.size_toArray, hvl, map_getD_range wordAt qs] at hes
    repeat' (first
      | ((with_reducible show wpAny _ _ (call (Value.ref _) _) _ _ _); k_dflt ( (refine' con_use (word_ok _ _ _ _ _ _) ?B ?F ?X ?N ?T ?hk ?hp ?hd ?hu ?_; (case B => k_asm); (case F => k_asm); (case X => k_asm); (case N => k_asm); (case T => k_asm); (case hk => exact rfl); (case hp => k_asm); (case hd => k_asm); (case hu => k_asm); intro t9 h9 tk9 F9 N9 K9; (try dsimp only)))) | ((with_reducible show wpAny _ _ (exec (PySem.Stmt.Assign _ (PySem.Expr.ListComp _ _ _ _) _) _) _ _ _); k_dflt (refine LCg.Assign_ListComp_U (F₀ := by k_asm) (by rfl) (by with_unfolding_all rfl) (by with_unfolding_all rfl) (by decide) (by rfl) (by decide) (by rfl) (by rfl) (by rfl) ?_))
      | (k_unfold; (try dsimp only)) | walk1 | (dsimp only; walk1) | fail "no step")
    refine cont _ es qs _ _ hes hqp (by assumption) ?_ ?_ ?_ ?_ (by k_asm) (cb_drop (by k_asm) (by kcj_all))
    · refine ⟨?_, ?_, ?_, ?_, ?_, ?_, ?_, ?_⟩ <;> omega
    · omega
    · omega
    · omega
end
end Mine
namespace Mine
open PySem PySem.W PyProof.Rows PySem.Calls
set_option maxRecDepth 100000
/-- the tail sign of a law's run -/
def tailOf (d0 : Int) : Str := ⟨#[(35 + d0.fmod 50000).toNat]⟩
section
variable (w : World) (s₀ : Shared) (mg mb : Str → Option Value) (dp un : Nat) (gd : Option (List Code)) (fa : Addr) (cd : Value) (outer : List Env) (L c1 c2 c3 c4 c5 c6 c7 c8 : Addr) (A₀ : Around) (base h₀ : Heap) (s : Shared) (Q : Flow → Shared → Prop) (E : Value → Shared → Prop) (rest : List Stmt)
set_option maxHeartbeats 2000000 in
theorem g6 (B : Below A₀ base outer h₀) (X : (hd.heap_39 w.params).In h₀) (T : Top hd.view_39 Lse (ExcName.means s₀.heap) mg mb h₀)
   (OR WO SH PL : Addr) (oW : Obj) (ys zs es : List Value) (d0 : Int) (hd0 : 0 ≤ d0 ∧ d0 < 10 ^ 30)
   (m : Str → Option Value) (vO vS : Value) (t1 : Tok) (o1 o2 o3 o4 o5 o6 o7 o8 : Obj) (p5 : o5.data = .cell none) (p6 : o6.data = .cell none)
   (l12 : @LT.lt Nat _ c1 c2) (l23 : @LT.lt Nat _ c2 c3) (l34 : @LT.lt Nat _ c3 c4) (l45 : @LT.lt Nat _ c4 c5) (l56 : @LT.lt Nat _ c5 c6) (l67 : @LT.lt Nat _ c6 c7) (l78 : @LT.lt Nat _ c7 c8) (lOR : OffCells OR c1 c2 c3 c4 c5 c6 c7 c8) (lWO : OffCells WO c1 c2 c3 c4 c5 c6 c7 c8) (lSH : OffCells SH c1 c2 c3 c4 c5 c6 c7 c8) (lPL : OffCells PL c1 c2 c3 c4 c5 c6 c7 c8) (lPS : @Ne Nat PL SH) (lPW : @Ne Nat PL WO) (lSW : @Ne Nat SH WO) (lWR : @Ne Nat WO OR) (lPR : @Ne Nat PL OR) (lSR : @Ne Nat SH OR)
   (F : Fr h₀ L s.heap (fun y => if y = Str.ofString "order" then some vO else if y = Str.ofString "size" then some vS else if y = Str.ofString "start" then some (.int d0 t1) else m y)) (N : News h₀ L s.heap [(OR, LCg.lst es), (WO, oW), (PL, LCg.lst zs), (SH, LCg.lst ys), (c8, o8), (c7, o7), (c6, o6), (c5, o5), (c4, o4), (c3, o3), (c2, o2), (c1, o1)])
   (cont : ∀ (EV OD : Addr) (h' : Heap) (tk' : Nat) (t' : Tok) (o5' o6' : Obj), OffCells EV c1 c2 c3 c4 c5 c6 c7 c8 → OffCells OD c1 c2 c3 c4 c5 c6 c7 c8 → (@LT.lt Nat _ EV OD ∧ @LT.lt Nat _ OR EV ∧ @LT.lt Nat _ WO EV ∧ @LT.lt Nat _ PL EV ∧ @LT.lt Nat _ SH EV) →
     Fr h₀ L h' (fun y => if y = Str.ofString "tail" then some (.str (tailOf d0) t') else if y = Str.ofString "order" then some vO else if y = Str.ofString "size" then some vS else if y = Str.ofString "start" then some (.int d0 t1) else m y) →
     News h₀ L h' [(OD, W.listOf #[] 0), (EV, W.listOf #[] 0), (OR, LCg.lst es), (WO, oW), (PL, LCg.lst zs), (SH, LCg.lst ys), (c8, o8), (c7, o7), (c6, o6'), (c5, o5'), (c4, o4), (c3, o3), (c2, o2), (c1, o1)] →
     o5'.data = .cell (some (.ref EV)) → o6'.data = .cell (some (.ref OD)) →
     LawGoes w dp un gd fa cd outer L c1 c2 c3 c4 c5 c6 c7 c8 rest Q E { s with heap := h', toks := tk' }) :
   LawGoes w dp un gd fa cd outer L c1 c2 c3 c4 c5 c6 c7 c8 (lawSt 9 :: lawSt 10 :: rest) Q E s := by
  w_on
  dsimp only [LawGoes] at cont ⊢
  revert X; k_fill; intro X
  obtain ⟨v1, v2, v3, v4, v5, v6, v7, v8⟩ := lOR
  obtain ⟨u1, u2, u3, u4, u5, u6, u7, u8⟩ := lWO
  obtain ⟨q1, q2, q3, q4, q5, q6, q7, q8⟩ := lSH
  obtain ⟨r1, r2, r3, r4, r5, r6, r7, r8⟩ := lPL
  conv in (lawSt 9) => whnf
  conv in (lawSt 10) => whnf
  repeat' (first
    | (k_unfold; (try dsimp only)) | walk1 | (dsimp only; walk1) | fail "no step")
  dsimp only
  rename _ = Data.cell (some (Value.ref _)) => hd6
  revert hd6
  rename _ = Data.cell (some (Value.ref _)) => hd5
  intro hd6
  refine cont _ _ _ _ _ _ _ ?_ ?_ ?_ (by k_asm) (cb_drop (by k_asm) (by kcj_all)) hd5 hd6
  · refine ⟨?_, ?_, ?_, ?_, ?_, ?_, ?_, ?_⟩ <;> omega
  · refine ⟨?_, ?_, ?_, ?_, ?_, ?_, ?_, ?_⟩ <;> omega
  · refine ⟨?_, ?_, ?_, ?_, ?_⟩ <;> omega
end
end Mine
namespace Mine
open PySem PySem.W PyProof.Rows PySem.Calls
set_option maxRecDepth 100000
def forBody : Stmt → List Stmt
  | .For _ _ b _ _ => b
  | _ => []
noncomputable def bodySt (i : Nat) : Stmt := (forBody (lawSt 11)).getD i (.Pass ⟨0, 0, 0, 0⟩)
/-- is the k-th place chosen -/
def bitOn (i : Nat) (k : Nat) : Bool := decide (((i : Int).fdiv (2 ^ k)).fmod 2 = 1)
section
variable (w : World) (s₀ : Shared) (mg mb : Str → Option Value) (dp un : Nat) (gd : Option (List Code)) (fa : Addr) (cd : Value) (outer : List Env) (L c1 c2 c3 c4 c5 c6 c7 c8 : Addr) (A₀ : Around) (base h₀ : Heap) (s : Shared) (Q : Flow → Shared → Prop) (E : Value → Shared → Prop) (rest : List Stmt)
set_option maxHeartbeats 2000000 in
theorem b0 (B : Below A₀ base outer h₀) (X : (hd.heap_39 w.params).In h₀) (T : Top hd.view_39 Lse (ExcName.means s₀.heap) mg mb h₀) (hdp : dp + 1 < recursionLimit) (hun : un + 8 * 1 < cLine)
   (I OD EV OR WO SH PL : Addr) (oI oD oE oW : Obj) (ys zs es : List Value) (f : Nat → Int) (n : Nat) (hn2 : 2 ≤ n) (hn4 : n ≤ 4) (hz : ∀ k, k < n → ∃ t, zs[k]? = some (.int (f k) t)) (hf : ∀ k, k < n → 0 ≤ f k ∧ f k < 40)
   (i : Nat) (ps : List Nat) (hs : ps.Pairwise (· < ·)) (hb : ∀ p ∈ ps, p < 40) (h1 : ∀ p ∈ ps, ∀ q ∈ ps, 32 ≤ p → 32 ≤ q → p = q) (hS : (List.map (fun k => (2 : Int) ^ (f k).toNat) (List.filter (bitOn i) (List.range n))).sum = sumP ps) (hi16 : i < 16) (m : Str → Option Value) (vT vO : Value) (t7 t2 : Tok) (o1 o2 o3 o4 o5 o6 o7 o8 : Obj) (p3 : o3.data = .cell (some (.ref PL))) (p7 : o7.data = .cell (some (.int i t7)))
   (F : Fr h₀ L s.heap (fun y => if y = Str.ofString "tail" then some vT else if y = Str.ofString "order" then some vO else if y = Str.ofString "size" then some (.int (n : Int) t2) else m y)) (N : News h₀ L s.heap [(I, oI), (OD, oD), (EV, oE), (OR, LCg.lst es), (WO, oW), (PL, LCg.lst zs), (SH, LCg.lst ys), (c8, o8), (c7, o7), (c6, o6), (c5, o5), (c4, o4), (c3, o3), (c2, o2), (c1, o1)])
   (cont : ∀ (h' : Heap) (tk' : Nat) (tw : Tok),
     Fr h₀ L h' (fun y => if y = Str.ofString "words" then some (.str (pfText ps) tw) else if y = Str.ofString "tail" then some vT else if y = Str.ofString "order" then some vO else if y = Str.ofString "size" then some (.int (n : Int) t2) else m y) →
     News h₀ L h' [(I, oI), (OD, oD), (EV, oE), (OR, LCg.lst es), (WO, oW), (PL, LCg.lst zs), (SH, LCg.lst ys), (c8, o8), (c7, o7), (c6, o6), (c5, o5), (c4, o4), (c3, o3), (c2, o2), (c1, o1)] →
     LawGoes w dp un gd fa cd outer L c1 c2 c3 c4 c5 c6 c7 c8 rest Q E { s with heap := h', toks := tk' }) :
   LawGoes w dp un gd fa cd outer L c1 c2 c3 c4 c5 c6 c7 c8 (bodySt 0 :: rest) Q E s := by
  w_on
  dsimp only [LawGoes] at cont ⊢
  revert X; k_fill; intro X
  have hsm := range_small (n := n) (by omega)
  have hsz := range_size (n := n) (by omega)
  conv in (bodySt 0) => whnf
  repeat' (first
    | ((with_reducible show wpAny _ _ (call (Value.ref _) _) _ _ _); k_dflt ( (refine' con_use (flags_ok _ _ _ _ _ ?h1 ?h2 ?h3 _) ?B ?F ?X ?N ?T ?hk ?hp ?hd ?hu ?_; (case h1 => assumption); (case h2 => assumption); (case h3 => assumption); (case B => k_asm); (case F => k_asm); (case X => k_asm); (case N => k_asm); (case T => k_asm); (case hk => exact rfl); (case hp => exact True.intro); (case hd => k_asm); (case hu => k_asm); intro t9 h9 tk9 F9 N9 K9; (try dsimp only)))) | ((with_reducible show wpAny _ _ (eval (PySem.Expr.ListComp _ _ _ _) _) _ _ _); k_dflt (refine LCt.ListComp_T (F₀ := by k_asm) (by with_unfolding_all rfl) (by decide) (by rfl) (by decide) (by rfl) ?_))
    | ((with_reducible show LCt.CompSrcT _ _ _ _ _ _ _ _ _ _ _ _ _ (Value.ref _) _); refine LCt.CompSrcT.range rfl (by k_asm) (by k_asm) (by k_asm) hsm hsz (le_line (by omega)) (fun g => rest_relT (bitOn i) (fun k y => ∃ t, y = .int (2 ^ (f k).toNat) t) True.intro (Hold.out ?_) (Hold.out ?_) (Hold.out ?_)))
    | (k_unfold; (try dsimp only)) | walk1 | (dsimp only; walk1) | fail "no step")
  · refine Hold.mk ?_
    intro k v I' oI' C oC D m₂ es' h tk E' hin hP hC hx F' N' off ne
    obtain ⟨t9, hv9⟩ := hP
    simp only [LCg.Off3, and_true] at off
    rw [Int.zero_add] at hv9
    subst hv9
    have hk4 : ((k : Nat) : Int) < 4 := by omega
    have hk0 : (0 : Int) ≤ ((k : Nat) : Int) := by omega
    repeat' (first
      | ((with_reducible show wpAny _ _ (call (Value.ref _) _) _ _ _); k_dflt ( (refine' con_use (flags_ok _ _ _ _ _ ?h1 ?h2 ?h3 _) ?B ?F ?X ?N ?T ?hk ?hp ?hd ?hu ?_; (case h1 => assumption); (case h2 => assumption); (case h3 => assumption); (case B => k_asm); (case F => k_asm); (case X => k_asm); (case N => k_asm); (case T => k_asm); (case hk => exact rfl); (case hp => exact True.intro); (case hd => k_asm); (case hu => k_asm); intro t9 h9 tk9 F9 N9 K9; (try dsimp only)))) | ((with_reducible show wpAny _ _ (eval (PySem.Expr.ListComp _ _ _ _) _) _ _ _); k_dflt (refine LCt.ListComp_T (F₀ := by k_asm) (by with_unfolding_all rfl) (by decide) (by rfl) (by decide) (by rfl) ?_))
      | ((with_reducible show LeafEnd _ _ _ _ _ _ _ _); exact ⟨_, _, rfl, by k_asm, by k_asm, rfl⟩)
      | (k_unfold; (try dsimp only)) | walk1 | (dsimp only; walk1) | fail "no step")
  · refine Hold.mk ?_
    intro k v I' oI' C oC D m₂ es' h tk E' hin hP hC hx F' N' off ne
    obtain ⟨t9, hv9⟩ := hP
    rw [Int.zero_add] at hv9
    subst hv9
    simp only [LCg.Off3, and_true] at off
    obtain ⟨t8, h8⟩ := hz k hin
    have hfk := hf k hin
    repeat' (first
      | ((with_reducible show wpAny _ _ (call (Value.ref _) _) _ _ _); k_dflt ( (refine' con_use (flags_ok _ _ _ _ _ ?h1 ?h2 ?h3 _) ?B ?F ?X ?N ?T ?hk ?hp ?hd ?hu ?_; (case h1 => assumption); (case h2 => assumption); (case h3 => assumption); (case B => k_asm); (case F => k_asm); (case X => k_asm); (case N => k_asm); (case T => k_asm); (case hk => exact rfl); (case hp => exact True.intro); (case hd => k_asm); (case hu => k_asm); intro t9 h9 tk9 F9 N9 K9; (try dsimp only)))) | ((with_reducible show wpAny _ _ (eval (PySem.Expr.ListComp _ _ _ _) _) _ _ _); k_dflt (refine LCt.ListComp_T (F₀ := by k_asm) (by with_unfolding_all rfl) (by decide) (by rfl) (by decide) (by rfl) ?_))
      | ((with_reducible show wpAny _ _ (subscriptTail _ _ (Value.ref PL) (Value.int _ _)) _ _ _); refine item_at (News.isList (by k_asm) (by k_mem)) (Int.natCast_nonneg k) (by omega) h8 ?_)
      | ((with_reducible show LeafEnd _ _ _ _ _ _ _ _); exact ⟨_, _, rfl, by k_asm, by k_asm, _, rfl⟩)
      | (k_unfold; (try dsimp only)) | walk1 | (dsimp only; walk1) | fail "no step")
  · refine Hold.mk ?_
    intro es' hes
    have hes := paired_ints hes
    repeat' (first
      | ((with_reducible show wpAny _ _ (call (Value.ref _) _) _ _ _); k_dflt ( (refine' con_use (flags_ok _ _ _ _ _ ?h1 ?h2 ?h3 _) ?B ?F ?X ?N ?T ?hk ?hp ?hd ?hu ?_; (case h1 => assumption); (case h2 => assumption); (case h3 => assumption); (case B => k_asm); (case F => k_asm); (case X => k_asm); (case N => k_asm); (case T => k_asm); (case hk => exact rfl); (case hp => exact True.intro); (case hd => k_asm); (case hu => k_asm); intro t9 h9 tk9 F9 N9 K9; (try dsimp only)))) | ((with_reducible show wpAny _ _ (eval (PySem.Expr.ListComp _ _ _ _) _) _ _ _); k_dflt (refine LCt.ListComp_T (F₀ := by k_asm) (by with_unfolding_all rfl) (by decide) (by rfl) (by decide) (by rfl) ?_))
      | ((with_reducible show wpAny _ _ (call (Value.ref 22) _) _ _ _); rw [hS])
      | (k_unfold; (try dsimp only)) | walk1 | (dsimp only; walk1) | fail "no step")
    exact cont _ _ _ (by k_asm) (cb_drop (by k_asm) (by kcj_all))
end
end Mine
namespace Mine
open PySem PySem.W PyProof.Rows PySem.Calls
set_option maxRecDepth 100000
section
variable (w : World) (s₀ : Shared) (mg mb : Str → Option Value) (dp un : Nat) (gd : Option (List Code)) (fa : Addr) (cd : Value) (outer : List Env) (L c1 c2 c3 c4 c5 c6 c7 c8 : Addr) (A₀ : Around) (base h₀ : Heap) (s : Shared) (Q : Flow → Shared → Prop) (E : Value → Shared → Prop) (rest : List Stmt)
set_option maxHeartbeats 2000000 in
theorem b1 (B : Below A₀ base outer h₀) (X : (hd.heap_39 w.params).In h₀) (T : Top hd.view_39 Lse (ExcName.means s₀.heap) mg mb h₀) (hdp : dp + 1 < recursionLimit) (hun : un + 8 * 1 < cLine)
   (I OD EV OR WO SH PL : Addr) (oI oD oE oW : Obj) (ys zs es : List Value) (W : Str) (hW : W.length < 1000)
   (m : Str → Option Value) (vO : Value) (tw : Tok) (v8 : Option Value) (o1 o2 o3 o4 o5 o6 o7 o8 : Obj) (p8 : o8.data = .cell v8)
   (l12 : @LT.lt Nat _ c1 c2) (l23 : @LT.lt Nat _ c2 c3) (l34 : @LT.lt Nat _ c3 c4) (l45 : @LT.lt Nat _ c4 c5) (l56 : @LT.lt Nat _ c5 c6) (l67 : @LT.lt Nat _ c6 c7) (l78 : @LT.lt Nat _ c7 c8) (lOR : OffCells OR c1 c2 c3 c4 c5 c6 c7 c8) (lWO : OffCells WO c1 c2 c3 c4 c5 c6 c7 c8) (lSH : OffCells SH c1 c2 c3 c4 c5 c6 c7 c8) (lPL : OffCells PL c1 c2 c3 c4 c5 c6 c7 c8) (lEV : OffCells EV c1 c2 c3 c4 c5 c6 c7 c8) (lOD : OffCells OD c1 c2 c3 c4 c5 c6 c7 c8) (lI : OffCells I c1 c2 c3 c4 c5 c6 c7 c8)
   (F : Fr h₀ L s.heap (fun y => if y = Str.ofString "words" then some (.str W tw) else m y)) (N : News h₀ L s.heap [(I, oI), (OD, oD), (EV, oE), (OR, LCg.lst es), (WO, oW), (PL, LCg.lst zs), (SH, LCg.lst ys), (c8, o8), (c7, o7), (c6, o6), (c5, o5), (c4, o4), (c3, o3), (c2, o2), (c1, o1)])
   (cont : ∀ (RW : Addr) (rv : List Value) (h' : Heap) (tk' : Nat) (o8' : Obj), StrsAre rv (Txt.split W (Str.ofString ", ")) → OffCells RW c1 c2 c3 c4 c5 c6 c7 c8 → (@LT.lt Nat _ I RW ∧ @LT.lt Nat _ OD RW ∧ @LT.lt Nat _ EV RW ∧ @LT.lt Nat _ OR RW ∧ @LT.lt Nat _ WO RW ∧ @LT.lt Nat _ PL RW ∧ @LT.lt Nat _ SH RW) →
     Fr h₀ L h' (fun y => if y = Str.ofString "words" then some (.str W tw) else m y) →
     News h₀ L h' [(RW, PySem.W.listOf rv.toArray 0), (I, oI), (OD, oD), (EV, oE), (OR, LCg.lst es), (WO, oW), (PL, LCg.lst zs), (SH, LCg.lst ys), (c8, o8'), (c7, o7), (c6, o6), (c5, o5), (c4, o4), (c3, o3), (c2, o2), (c1, o1)] →
     o8'.data = .cell (some (.ref RW)) →
     LawGoes w dp un gd fa cd outer L c1 c2 c3 c4 c5 c6 c7 c8 rest Q E { s with heap := h', toks := tk' }) :
   LawGoes w dp un gd fa cd outer L c1 c2 c3 c4 c5 c6 c7 c8 (bodySt 1 :: rest) Q E s := by
  w_on
  dsimp only [LawGoes] at cont ⊢
  revert X; k_fill; intro X
  obtain ⟨i1, i2, i3, i4, i5, i6, i7, i8⟩ := lI
  obtain ⟨d1, d2, d3, d4, d5, d6, d7, d8⟩ := lOD
  obtain ⟨e1, e2, e3, e4, e5, e6, e7, e8⟩ := lEV
  obtain ⟨v1, v2, v3, v4, v5, v6, v7, v8⟩ := lOR
  obtain ⟨u1, u2, u3, u4, u5, u6, u7, u8⟩ := lWO
  obtain ⟨q1, q2, q3, q4, q5, q6, q7, q8⟩ := lSH
  obtain ⟨r1, r2, r3, r4, r5, r6, r7, r8⟩ := lPL
  have zI : @LT.lt Nat _ I s.heap.objs.size := Heap.lt_size (N.get (by k_mem))
  have zOD : @LT.lt Nat _ OD s.heap.objs.size := Heap.lt_size (N.get (by k_mem))
  have zEV : @LT.lt Nat _ EV s.heap.objs.size := Heap.lt_size (N.get (by k_mem))
  have zOR : @LT.lt Nat _ OR s.heap.objs.size := Heap.lt_size (N.get (by k_mem))
  have zWO : @LT.lt Nat _ WO s.heap.objs.size := Heap.lt_size (N.get (by k_mem))
  have zPL : @LT.lt Nat _ PL s.heap.objs.size := Heap.lt_size (N.get (by k_mem))
  have zSH : @LT.lt Nat _ SH s.heap.objs.size := Heap.lt_size (N.get (by k_mem))
  have zc8 : @LT.lt Nat _ c8 s.heap.objs.size := Heap.lt_size (N.get (by k_mem))
  have zc7 : @LT.lt Nat _ c7 s.heap.objs.size := Heap.lt_size (N.get (by k_mem))
  have zc6 : @LT.lt Nat _ c6 s.heap.objs.size := Heap.lt_size (N.get (by k_mem))
  have zc5 : @LT.lt Nat _ c5 s.heap.objs.size := Heap.lt_size (N.get (by k_mem))
  have zc4 : @LT.lt Nat _ c4 s.heap.objs.size := Heap.lt_size (N.get (by k_mem))
  have zc3 : @LT.lt Nat _ c3 s.heap.objs.size := Heap.lt_size (N.get (by k_mem))
  have zc2 : @LT.lt Nat _ c2 s.heap.objs.size := Heap.lt_size (N.get (by k_mem))
  have zc1 : @LT.lt Nat _ c1 s.heap.objs.size := Heap.lt_size (N.get (by k_mem))
  conv in (bodySt 1) => whnf
  repeat' (first
    | (k_unfold; (try dsimp only)) | walk1 | (dsimp only; walk1) | fail "no step")
  rename List.map _ _ = Txt.split _ _ => hsp
  rename StrsAre _ _ => hss
  dsimp only at *
  generalize hR : s.heap.objs.size = R at *
  repeat' (first
    | (k_unfold; (try dsimp only)) | walk1 | (dsimp only; walk1) | fail "no step")
  refine cont R _ _ _ _ (hsp ▸ hss) ?_ ?_ (by k_asm) (by k_asm) (by assumption)
  · refine ⟨?_, ?_, ?_, ?_, ?_, ?_, ?_, ?_⟩ <;> omega
  · refine ⟨?_, ?_, ?_, ?_, ?_, ?_, ?_⟩ <;> omega
end
end Mine
namespace Mine
open PySem PySem.W PyProof.Rows PySem.Calls PyProof.V PySem.Spec PySem.SeqAt
theorem strs_read {h : Heap} : ∀ {vs : List Value} {ns : List Str}, StrsAre vs ns → ReadsAll h vs (ns.map PyData.str) []
  | _, _, .nil => .nil
  | _, _, .cons k t r => by simpa using ReadsAll.cons (Reads.str (h := h) k t) (strs_read (h := h) r)
theorem strs_list {h : Heap} {a : Addr} {vs : List Value} {ns : List Str} (hl : h.IsList a vs.toArray) (hi : StrsAre vs ns) : Reads h (.ref a) (.list (ns.map PyData.str)) [a] := by
  obtain ⟨o, ho, hc, n, hd⟩ := hl
  exact Reads.list ho hc hd (by simpa using strs_read hi)
theorem strs_lay : ∀ ns : List Str, (∀ x ∈ ns, PyData.strOk x = true) → PyData.canLayAll0 (ns.map PyData.str) = true ∧ PyData.depthAll (ns.map PyData.str) ≤ 1
  | [], _ => by simp [PyData.canLayAll0, PyData.depthAll]
  | n :: r, hk => by
    have := strs_lay r fun x hx => hk x (.tail _ hx)
    constructor
    · simp [PyData.canLayAll0, PyData.canLay0, this.1, hk n (.head _)]
    · have := this.2
      simp only [List.map_cons, PyData.depthAll, PyData.depth]
      omega
theorem strs_shaped (ns : List Str) (hk : ∀ x ∈ ns, PyData.strOk x = true) : shaped (.list (ns.map PyData.str)) = true := by
  have h := strs_lay ns hk
  show (PyData.canLay0 (.list (ns.map PyData.str)) && decide (PyData.depth (.list (ns.map PyData.str)) ≤ 64)) = true
  rw [Bool.and_eq_true]
  refine ⟨by simp only [PyData.canLay0]; exact h.1, decide_eq_true ?_⟩
  have := h.2
  simp only [PyData.depth]
  omega
theorem strs_noMix : ∀ ns ms : List Str, noMixAll (ns.map PyData.str) (ms.map PyData.str) = true
  | [], [] => by simp [noMixAll]
  | [], _ :: _ => by simp [noMixAll]
  | _ :: _, [] => by simp [noMixAll]
  | _ :: r, _ :: q => by simp [noMixAll, noMix, strs_noMix r q]
theorem strs_same : ∀ ns : List Str, PySem.Spec.sameAll (ns.map PyData.str) (ns.map PyData.str) = true
  | [] => by simp [PySem.Spec.sameAll]
  | n :: r => by
    simp only [List.map_cons, PySem.Spec.sameAll, PySem.Spec.same, strs_same r]
    simp
section
variable {prog : Program} {w : World} {A : Around} {E : Value → Shared → Prop} {s : Shared}
/-- two equal lists of strings are not unequal -/
theorem ne_strs {a b : Addr} {vs us : List Value} {ns : List Str} {Q : Value → Shared → Prop} (hl : s.heap.IsList a vs.toArray) (hi : StrsAre vs ns) (hl' : s.heap.IsList b us.toArray) (hi' : StrsAre us ns) (hk : ∀ x ∈ ns, PyData.strOk x = true) (hu : A.units + 64 < cLine)
    (h : Q (.bool false) s) : wpAny (model prog w) A (compareOp .NotEq (.ref a) (.ref b)) Q E s :=
  ne_dataH_same (strs_list hl hi) (strs_list hl' hi') (strs_shaped ns hk) (strs_shaped ns hk) hu (by simp only [noMix]; exact strs_noMix ns ns) (by simp only [PySem.Spec.same]; rw [strs_same]; exact h)
end
end Mine
namespace Mine
open PySem PySem.W PyProof.Rows PySem.Calls
set_option maxRecDepth 100000
theorem strs_at : ∀ {vs : List Value} {ns : List Str}, StrsAre vs ns → ∀ (i : Nat) (v : Value), vs[i]? = some v → i < ns.length ∧ ∃ t, v = .str (ns.getD i Str.empty) t
  | _, _, .nil, i, v, h => by simp at h
  | _, _, .cons n t r, 0, v, h => by
    simp at h
    exact ⟨by simp, t, by simp [← h]⟩
  | _, _, .cons n t r, i + 1, v, h => by
    have := strs_at r i v (by simpa using h)
    exact ⟨by simpa using this.1, by simpa using this.2⟩
theorem map_filter_getD (p : Str → Bool) (l : List Str) : ((List.range l.length).filter (fun i => p (l.getD i Str.empty))).map (fun i => l.getD i Str.empty) = l.filter p := by
  have e := map_range_getD l Str.empty
  have : l.filter p = ((List.range l.length).map (fun i => l.getD i Str.empty)).filter p := by rw [e]
  rw [this, List.filter_map]
  rfl
section
variable (w : World) (s₀ : Shared) (mg mb : Str → Option Value) (dp un : Nat) (gd : Option (List Code)) (fa : Addr) (cd : Value) (outer : List Env) (L c1 c2 c3 c4 c5 c6 c7 c8 : Addr) (A₀ : Around) (base h₀ : Heap) (s : Shared) (Q : Flow → Shared → Prop) (E : Value → Shared → Prop) (rest : List Stmt)
set_option maxHeartbeats 600000 in
theorem b2 (B : Below A₀ base outer h₀) (X : (hd.heap_39 w.params).In h₀) (T : Top hd.view_39 Lse (ExcName.means s₀.heap) mg mb h₀) (hdp : dp + 1 < recursionLimit) (hun : un + 64 < cLine)
   (RW I OD EV OR WO SH PL : Addr) (oI oD oE oW : Obj) (ys zs es rv : List Value) (os rs : List Str) (hes : StrsAre es os) (hrv : StrsAre rv rs) (hol : os.length ≤ 4) (hrl : rs.length ≤ 4) (W : Str) (hgood : W ≠ Str.ofString "0x0" → os.filter (fun y => rs.any (fun x => x == y)) = rs) (hok : ∀ x ∈ rs, PyData.strOk x = true)
   (m : Str → Option Value) (vT : Value) (tw : Tok) (o1 o2 o3 o4 o5 o6 o7 o8 : Obj) (p8 : o8.data = .cell (some (.ref RW)))
   (l12 : @LT.lt Nat _ c1 c2) (l23 : @LT.lt Nat _ c2 c3) (l34 : @LT.lt Nat _ c3 c4) (l45 : @LT.lt Nat _ c4 c5) (l56 : @LT.lt Nat _ c5 c6) (l67 : @LT.lt Nat _ c6 c7) (l78 : @LT.lt Nat _ c7 c8)
   (F : Fr h₀ L s.heap (fun y => if y = Str.ofString "words" then some (.str W tw) else if y = Str.ofString "tail" then some vT else if y = Str.ofString "order" then some (.ref OR) else m y)) (N : News h₀ L s.heap [(RW, PySem.W.listOf rv.toArray 0), (I, oI), (OD, oD), (EV, oE), (OR, LCg.lst es), (WO, oW), (PL, LCg.lst zs), (SH, LCg.lst ys), (c8, o8), (c7, o7), (c6, o6), (c5, o5), (c4, o4), (c3, o3), (c2, o2), (c1, o1)])
   (cont : ∀ (h' : Heap) (tk' : Nat),
     Fr h₀ L h' (fun y => if y = Str.ofString "words" then some (.str W tw) else if y = Str.ofString "tail" then some vT else if y = Str.ofString "order" then some (.ref OR) else m y) →
     News h₀ L h' [(RW, PySem.W.listOf rv.toArray 0), (I, oI), (OD, oD), (EV, oE), (OR, LCg.lst es), (WO, oW), (PL, LCg.lst zs), (SH, LCg.lst ys), (c8, o8), (c7, o7), (c6, o6), (c5, o5), (c4, o4), (c3, o3), (c2, o2), (c1, o1)] →
     LawGoes w dp un gd fa cd outer L c1 c2 c3 c4 c5 c6 c7 c8 rest Q E { s with heap := h', toks := tk' }) :
   LawGoes w dp un gd fa cd outer L c1 c2 c3 c4 c5 c6 c7 c8 (bodySt 2 :: rest) Q E s := by
  w_on
  dsimp only [LawGoes] at cont ⊢
  revert X; k_fill; intro X
  have hel := hes.len_eq
  have hrvl := hrv.len_eq
  conv in (bodySt 2) => whnf
  repeat' (first
    | ((with_reducible show wpAny _ _ (eval (PySem.Expr.ListComp _ _ _ _) _) _ _ _); k_dflt (refine LCt.ListComp_T (F₀ := by k_asm) (by with_unfolding_all rfl) (by decide) (by rfl) (by decide) (by rfl) ?_))
    | ((with_reducible show LCt.CompSrcT _ _ _ _ _ _ _ _ _ _ _ _ _ (Value.ref OR) _); refine LCt.CompSrcT.ledger (by rfl) (by k_asm) (by k_asm) (by k_mem) (by rw [List.size_toArray]; exact le_line (by omega)) (fun g => rest_relT (fun i => rs.any (fun x => x == os.getD i Str.empty)) (fun i y => ∃ t, y = .str (os.getD i Str.empty) t) (by exact Or.inr ⟨_, by k_mem, rfl, _, rfl⟩) (Hold.out ?_) (Hold.out ?_) (Hold.out ?_)))
    | (k_unfold; (try dsimp only)) | walk1 | (dsimp only; walk1) | fail "no step")
  · refine Hold.mk ?_
    intro k v I' oI' C oC D m₂ es' h tk E' hin hP hC hx F' N' off ne
    obtain ⟨hiq, t9, hv9⟩ := strs_at hes k v (by simpa using hP)
    subst hv9
    simp only [LCg.Off3, and_true] at off
    repeat' (first
      | ((with_reducible show wpAny _ _ (eval (PySem.Expr.ListComp _ _ _ _) _) _ _ _); k_dflt (refine LCt.ListComp_T (F₀ := by k_asm) (by with_unfolding_all rfl) (by decide) (by rfl) (by decide) (by rfl) ?_))
      | ((with_reducible show LeafEnd _ _ _ _ _ _ _ _); exact ⟨_, _, rfl, by k_asm, by k_asm, rfl⟩)
      | (k_unfold; (try dsimp only)) | walk1 | (dsimp only; walk1) | fail "no step")
  · refine Hold.mk ?_
    intro k v I' oI' C oC D m₂ es' h tk E' hin hP hC hx F' N' off ne
    obtain ⟨hiq, t9, hv9⟩ := strs_at hes k v (by simpa using hP)
    subst hv9
    simp only [LCg.Off3, and_true] at off
    repeat' (first
      | ((with_reducible show wpAny _ _ (eval (PySem.Expr.ListComp _ _ _ _) _) _ _ _); k_dflt (refine LCt.ListComp_T (F₀ := by k_asm) (by with_unfolding_all rfl) (by decide) (by rfl) (by decide) (by rfl) ?_))
      | ((with_reducible show LeafEnd _ _ _ _ _ _ _ _); exact ⟨_, _, rfl, by k_asm, by k_asm, _, rfl⟩)
      | (k_unfold; (try dsimp only)) | walk1 | (dsimp only; walk1) | fail "no step")
  · refine Hold.mk ?_
    intro es' hes'
    have hes' := paired_strs hes'
    rw [List.size_toArray, hel] at hes'
    have hW0 : W ≠ Str.ofString "0x0" := by
      intro e
      subst e
      simp at *
    have hg := hgood hW0
    rw [map_filter_getD (fun y => rs.any (fun x => x == y)) os, hg] at hes'
    repeat' (first
      | ((with_reducible show wpAny _ _ (eval (PySem.Expr.ListComp _ _ _ _) _) _ _ _); k_dflt (refine LCt.ListComp_T (F₀ := by k_asm) (by with_unfolding_all rfl) (by decide) (by rfl) (by decide) (by rfl) ?_))
      | ((with_reducible show wpAny _ _ (compareOp CmpOp.NotEq (Value.ref _) (Value.ref _)) _ _ _); refine ne_strs (News.isList (by k_asm) (by k_mem)) hrv (News.isList (by k_asm) (by k_mem)) hes' hok (by exact hun) ?_)
      | ((with_reducible show wpAny _ _ (execs rest _) _ _ _); fail "rest")
      | (k_unfold; (try dsimp only)) | walk1 | (dsimp only; walk1) | fail "no step")
    exact cont _ _ (by k_asm) (cb_drop (by k_asm) (by kcj_all))
  · exact cont _ _ F N
end
end Mine
namespace Mine
open PySem PySem.W PyProof.Rows PySem.Calls
set_option maxRecDepth 100000
theorem get_new {prog : Program} {w : World} {A : Around} {E : Value → Shared → Prop} {s : Shared} {Q : Value → Shared → Prop} {h₀ : Heap} {L d : Addr} {o : Obj} {news : List (Addr × Obj)} {kvs : List (Str × Value)} {x : Str} {t : Tok} {dv : Value} (N : News h₀ L s.heap news) (hm : (d, o) ∈ news) (hns : (d == sysModules) = false) (hd : o.IsDictOf (PySem.strKind prog w) kvs)
    (h : ∀ k, Q ((valueAt kvs x).getD dv) { s with toks := k }) : wpAny (model prog w) A (call (.builtin "dict.get") [.ref d, .str x t, dv]) Q E s := by
  have hdo : s.heap.DictOf (PySem.strKind prog w) d kvs := Heap.dictOf_iff.mpr ⟨o, N.get hm, hd⟩
  refine call_meetsIn PySem.F.slot_dict_get hdo.typeIs PySem.F.entry_dict_get (PySem.F.args_dict_get_3 _ _ _) (meets_dict_get_default (PySem.strKind prog w) d (k := x) (strKind_is prog w _ t) hns _) ⟨_, hdo.mapOf, h _⟩
theorem map_getD_str {α : Type} (f : Str → α) (l : List Str) : (List.range l.length).map (fun i => f (l.getD i Str.empty)) = l.map f := by
  have e := map_range_getD l Str.empty
  have : (List.range l.length).map (fun i => f (l.getD i Str.empty)) = ((List.range l.length).map (fun i => l.getD i Str.empty)).map f := by simp [List.map_map, Function.comp_def]
  rw [this, e]
section
variable (w : World) (s₀ : Shared) (mg mb : Str → Option Value) (dp un : Nat) (gd : Option (List Code)) (fa : Addr) (cd : Value) (outer : List Env) (L c1 c2 c3 c4 c5 c6 c7 c8 : Addr) (A₀ : Around) (base h₀ : Heap) (s : Shared) (Q : Flow → Shared → Prop) (E : Value → Shared → Prop) (rest : List Stmt)
set_option maxHeartbeats 600000 in
theorem b3 (B : Below A₀ base outer h₀) (X : (hd.heap_39 w.params).In h₀) (T : Top hd.view_39 Lse (ExcName.means s₀.heap) mg mb h₀) (hdp : dp + 1 < recursionLimit) (hun : un + 64 < cLine)
   (RW I OD EV OR WO SH PL : Addr) (oI oD oE oW : Obj) (ys zs es rv : List Value) (rs : List Str) (hrv : StrsAre rv rs) (hrl : rs.length ≤ 4) (W : Str)
   (kvs : List (Str × Value)) (hW : oW.IsDictOf (PySem.strKind PySem.Challenge.rw_ty0015_01.row.prog w) kvs) (hns : (WO == sysModules) = false) (gv : Str → Int) (hgv : ∀ x ∈ rs, ∀ t : Tok, ∃ t', (valueAt kvs x).getD (.int 0 t) = .int (gv x) t')
   (m : Str → Option Value) (vT vO vS : Value) (d0 : Int) (tw t1 : Tok) (o1 o2 o3 o4 o5 o6 o7 o8 : Obj) (p4 : o4.data = .cell (some (.ref WO))) (p8 : o8.data = .cell (some (.ref RW)))
   (F : Fr h₀ L s.heap (fun y => if y = Str.ofString "words" then some (.str W tw) else if y = Str.ofString "tail" then some vT else if y = Str.ofString "order" then some vO else if y = Str.ofString "size" then some vS else if y = Str.ofString "start" then some (.int d0 t1) else m y)) (N : News h₀ L s.heap [(RW, PySem.W.listOf rv.toArray 0), (I, oI), (OD, oD), (EV, oE), (OR, LCg.lst es), (WO, oW), (PL, LCg.lst zs), (SH, LCg.lst ys), (c8, o8), (c7, o7), (c6, o6), (c5, o5), (c4, o4), (c3, o3), (c2, o2), (c1, o1)])
   (cont : ∀ (h' : Heap) (tk' : Nat) (tn : Tok),
     Fr h₀ L h' (fun y => if y = Str.ofString "number" then some (.int (d0 + (rs.map gv).sum) tn) else if y = Str.ofString "words" then some (.str W tw) else if y = Str.ofString "tail" then some vT else if y = Str.ofString "order" then some vO else if y = Str.ofString "size" then some vS else if y = Str.ofString "start" then some (.int d0 t1) else m y) →
     News h₀ L h' [(I, oI), (OD, oD), (EV, oE), (OR, LCg.lst es), (WO, oW), (PL, LCg.lst zs), (SH, LCg.lst ys), (c8, o8), (c7, o7), (c6, o6), (c5, o5), (c4, o4), (c3, o3), (c2, o2), (c1, o1)] →
     LawGoes w dp un gd fa cd outer L c1 c2 c3 c4 c5 c6 c7 c8 rest Q E { s with heap := h', toks := tk' }) :
   LawGoes w dp un gd fa cd outer L c1 c2 c3 c4 c5 c6 c7 c8 (bodySt 3 :: rest) Q E s := by
  w_on
  dsimp only [LawGoes] at cont ⊢
  revert X; k_fill; intro X
  have hrvl := hrv.len_eq
  conv in (bodySt 3) => whnf
  repeat' (first
    | ((with_reducible show wpAny _ _ (eval (PySem.Expr.ListComp _ _ _ _) _) _ _ _); k_dflt (refine LCg.ListComp_U (F₀ := by k_asm) (by with_unfolding_all rfl) (by decide) (by rfl) (by decide) (by rfl) ?_))
    | ((with_reducible show LCg.CompSrc _ _ _ _ _ _ _ _ _ _ _ _ (Value.ref RW) _); refine LCg.CompSrc.ledger (by rfl) (by k_asm) (by k_asm) (by k_mem) (by rw [List.size_toArray]; exact le_line (by omega)) (fun g => rest_rel (fun i y => ∃ t, y = .int (gv (rs.getD i Str.empty)) t) (by exact Or.inr ⟨_, by k_mem, rfl, _, rfl⟩) (Hold.out ?_) (Hold.out ?_)))
    | (k_unfold; (try dsimp only)) | walk1 | (dsimp only; walk1) | fail "no step")
  · refine Hold.mk ?_
    intro k v I' oI' C oC D m₂ es' h tk E' hin hP hC hx F' N' off ne
    obtain ⟨hiq, t9, hv9⟩ := strs_at hrv k v (by simpa using hP)
    subst hv9
    have hmem : rs.getD k Str.empty ∈ rs := by simp [List.getD, hiq]
    simp only [LCg.Off3, and_true] at off
    repeat' (first
      | ((with_reducible show wpAny _ _ (eval (PySem.Expr.ListComp _ _ _ _) _) _ _ _); k_dflt (refine LCg.ListComp_U (F₀ := by k_asm) (by with_unfolding_all rfl) (by decide) (by rfl) (by decide) (by rfl) ?_))
      | ((with_reducible show LeafEnd _ _ _ _ _ _ _ _); exact ⟨_, _, rfl, by k_asm, by k_asm, _, rfl⟩)
      | ((with_reducible show wpAny _ _ (call (Value.builtin "dict.get") _) _ _ _)
         refine get_new (kvs := kvs) (x := rs.getD k Str.empty) (t := t9) (by k_asm) (by k_mem) hns hW (fun k9 => ?_)
         obtain ⟨t8, e8⟩ := hgv (rs.getD k Str.empty) hmem _
         rw [e8])
      | (k_unfold; (try dsimp only)) | walk1 | (dsimp only; walk1) | fail "no step")
  · refine Hold.mk ?_
    intro es' hes'
    have hes' := paired_ints hes'
    rw [List.size_toArray, hrvl, map_getD_str] at hes'
    repeat' (first
      | ((with_reducible show wpAny _ _ (eval (PySem.Expr.ListComp _ _ _ _) _) _ _ _); k_dflt (refine LCg.ListComp_U (F₀ := by k_asm) (by with_unfolding_all rfl) (by decide) (by rfl) (by decide) (by rfl) ?_))
      | (k_unfold; (try dsimp only)) | walk1 | (dsimp only; walk1) | fail "no step")
    exact cont _ _ _ (by k_asm) (cb_drop (by k_asm) (by kcj_all))
end
end Mine
namespace Mine
open PySem PySem.W PyProof.Rows PySem.Calls
set_option maxRecDepth 100000
theorem marks_any (w : World) (s₀ : Shared) (mg mb : Str → Option Value) (x : Str) (n : Nat) (t u : Tok) :
  Con 2 w s₀ mg mb 75 (x.length < 1000 ∧ (n = 2 ∨ n = 3 ∨ n = 4)) [.str x t, .int (n : Int) u] (fun t => .int (marksR x n) t) := by
  intro dp un gd cn cs a ccd cl outer A₀ base h₀ L m news s Q E B F X N T hck hpre
  obtain ⟨hx, rfl | rfl | rfl⟩ := hpre
  · exact marks_2 w s₀ mg mb x t u dp un gd cn cs a ccd cl outer A₀ base h₀ L m news s Q E B F X N T hck hx
  · exact marks_3 w s₀ mg mb x t u dp un gd cn cs a ccd cl outer A₀ base h₀ L m news s Q E B F X N T hck hx
  · exact marks_4 w s₀ mg mb x t u dp un gd cn cs a ccd cl outer A₀ base h₀ L m news s Q E B F X N T hck hx
section
variable (w : World) (s₀ : Shared) (mg mb : Str → Option Value) (dp un : Nat) (gd : Option (List Code)) (fa : Addr) (cd : Value) (outer : List Env) (L c1 c2 c3 c4 c5 c6 c7 c8 : Addr) (A₀ : Around) (base h₀ : Heap) (s : Shared) (Q : Flow → Shared → Prop) (E : Value → Shared → Prop) (rest : List Stmt)
set_option maxHeartbeats 600000 in
theorem b4 (B : Below A₀ base outer h₀) (X : (hd.heap_39 w.params).In h₀) (T : Top hd.view_39 Lse (ExcName.means s₀.heap) mg mb h₀) (hdp : dp + 2 < recursionLimit) (hun : un + 64 < cLine)
   (I OD EV OR WO SH PL : Addr) (oI oD oE oW : Obj) (ys zs es : List Value) (W : Str) (n : Nat) (hW : W.length < 1000 ∧ (n = 2 ∨ n = 3 ∨ n = 4))
   (m : Str → Option Value) (vN vT vO : Value) (tw t2 : Tok) (o1 o2 o3 o4 o5 o6 o7 o8 : Obj)
   (F : Fr h₀ L s.heap (fun y => if y = Str.ofString "number" then some vN else if y = Str.ofString "words" then some (.str W tw) else if y = Str.ofString "tail" then some vT else if y = Str.ofString "order" then some vO else if y = Str.ofString "size" then some (.int (n : Int) t2) else m y)) (N : News h₀ L s.heap [(I, oI), (OD, oD), (EV, oE), (OR, LCg.lst es), (WO, oW), (PL, LCg.lst zs), (SH, LCg.lst ys), (c8, o8), (c7, o7), (c6, o6), (c5, o5), (c4, o4), (c3, o3), (c2, o2), (c1, o1)])
   (cont : ∀ (h' : Heap) (tk' : Nat) (tm : Tok),
     Fr h₀ L h' (fun y => if y = Str.ofString "marks" then some (.int (marksR W n) tm) else if y = Str.ofString "number" then some vN else if y = Str.ofString "words" then some (.str W tw) else if y = Str.ofString "tail" then some vT else if y = Str.ofString "order" then some vO else if y = Str.ofString "size" then some (.int (n : Int) t2) else m y) →
     News h₀ L h' [(I, oI), (OD, oD), (EV, oE), (OR, LCg.lst es), (WO, oW), (PL, LCg.lst zs), (SH, LCg.lst ys), (c8, o8), (c7, o7), (c6, o6), (c5, o5), (c4, o4), (c3, o3), (c2, o2), (c1, o1)] →
     LawGoes w dp un gd fa cd outer L c1 c2 c3 c4 c5 c6 c7 c8 rest Q E { s with heap := h', toks := tk' }) :
   LawGoes w dp un gd fa cd outer L c1 c2 c3 c4 c5 c6 c7 c8 (bodySt 4 :: rest) Q E s := by
  w_on
  dsimp only [LawGoes] at cont ⊢
  revert X; k_fill; intro X
  conv in (bodySt 4) => whnf
  repeat' (first
    | ((with_reducible show wpAny _ _ (call (Value.ref _) _) _ _ _); k_dflt ( (refine' con_use (marks_any _ _ _ _ _ _ _ _) ?B ?F ?X ?N ?T ?hk ?hp ?hd ?hu ?_; (case B => k_asm); (case F => k_asm); (case X => k_asm); (case N => k_asm); (case T => k_asm); (case hk => exact rfl); (case hp => k_asm); (case hd => k_asm); (case hu => omega); intro t9 h9 tk9 F9 N9 K9; (try dsimp only))))
    | (k_unfold; (try dsimp only)) | walk1 | (dsimp only; walk1) | fail "no step")
  exact cont _ _ _ (by k_asm) (by k_asm)
end
end Mine
namespace Mine
open PySem PySem.W PyProof.Rows PySem.Calls
set_option maxRecDepth 100000
/-- the name that is parsed -/
def nameOf (c : Nat) : Nat → Str
  | 0 => ⟨#[c]⟩
  | 1 => ⟨#[]⟩
  | 2 => ⟨#[34, c]⟩
  | 3 => ⟨#[34]⟩
  | _ => ⟨#[34, 34, c]⟩
theorem parse_any (w : World) (s₀ : Shared) (mg mb : Str → Option Value) (j c : Nat) (t : Tok) :
  Con 1 w s₀ mg mb 61 (c ≠ 34 ∧ j ≤ 4) [.str (Str.ofString "257 \"" ++ Txt.mul (Str.ofString "\"") (j : Int) ++ ⟨#[c]⟩) t] (fun t => .str (nameOf c j) t) := by
  intro dp un gd cn cs a ccd cl outer A₀ base h₀ L m news s Q E B F X N T hck hpre
  obtain ⟨hc, hj⟩ := hpre
  rcases j with _ | _ | _ | _ | _ | j
  · exact parse_0 w s₀ mg mb _ c t dp un gd cn cs a ccd cl outer A₀ base h₀ L m news s Q E B F X N T hck (pf0 hc)
  · exact parse_1 w s₀ mg mb _ c t dp un gd cn cs a ccd cl outer A₀ base h₀ L m news s Q E B F X N T hck (pf1 hc)
  · exact parse_2 w s₀ mg mb _ c t dp un gd cn cs a ccd cl outer A₀ base h₀ L m news s Q E B F X N T hck (pf2 hc)
  · exact parse_3 w s₀ mg mb _ c t dp un gd cn cs a ccd cl outer A₀ base h₀ L m news s Q E B F X N T hck (pf3 hc)
  · exact parse_4 w s₀ mg mb _ c t dp un gd cn cs a ccd cl outer A₀ base h₀ L m news s Q E B F X N T hck (pf4 hc)
  · omega
section
variable (w : World) (s₀ : Shared) (mg mb : Str → Option Value) (dp un : Nat) (gd : Option (List Code)) (fa : Addr) (cd : Value) (outer : List Env) (L c1 c2 c3 c4 c5 c6 c7 c8 : Addr) (A₀ : Around) (base h₀ : Heap) (s : Shared) (Q : Flow → Shared → Prop) (E : Value → Shared → Prop) (rest : List Stmt)
set_option maxHeartbeats 600000 in
theorem b5 (B : Below A₀ base outer h₀) (X : (hd.heap_39 w.params).In h₀) (T : Top hd.view_39 Lse (ExcName.means s₀.heap) mg mb h₀) (hdp : dp + 1 < recursionLimit) (hun : un + 64 < cLine)
   (I OD EV OR WO SH PL : Addr) (oI oD oE oW : Obj) (ys zs es : List Value) (c j : Nat) (hc : c ≠ 34 ∧ j ≤ 4)
   (m : Str → Option Value) (vN vW : Value) (tm tt : Tok) (o1 o2 o3 o4 o5 o6 o7 o8 : Obj)
   (F : Fr h₀ L s.heap (fun y => if y = Str.ofString "marks" then some (.int (j : Int) tm) else if y = Str.ofString "number" then some vN else if y = Str.ofString "words" then some vW else if y = Str.ofString "tail" then some (.str ⟨#[c]⟩ tt) else m y)) (N : News h₀ L s.heap [(I, oI), (OD, oD), (EV, oE), (OR, LCg.lst es), (WO, oW), (PL, LCg.lst zs), (SH, LCg.lst ys), (c8, o8), (c7, o7), (c6, o6), (c5, o5), (c4, o4), (c3, o3), (c2, o2), (c1, o1)])
   (cont : ∀ (h' : Heap) (tk' : Nat) (tn : Tok),
     Fr h₀ L h' (fun y => if y = Str.ofString "name" then some (.str (nameOf c j) tn) else if y = Str.ofString "marks" then some (.int (j : Int) tm) else if y = Str.ofString "number" then some vN else if y = Str.ofString "words" then some vW else if y = Str.ofString "tail" then some (.str ⟨#[c]⟩ tt) else m y) →
     News h₀ L h' [(I, oI), (OD, oD), (EV, oE), (OR, LCg.lst es), (WO, oW), (PL, LCg.lst zs), (SH, LCg.lst ys), (c8, o8), (c7, o7), (c6, o6), (c5, o5), (c4, o4), (c3, o3), (c2, o2), (c1, o1)] →
     LawGoes w dp un gd fa cd outer L c1 c2 c3 c4 c5 c6 c7 c8 rest Q E { s with heap := h', toks := tk' }) :
   LawGoes w dp un gd fa cd outer L c1 c2 c3 c4 c5 c6 c7 c8 (bodySt 5 :: rest) Q E s := by
  w_on
  dsimp only [LawGoes] at cont ⊢
  revert X; k_fill; intro X
  have hj0 : (0 : Int) ≤ (j : Int) := by omega
  have hj4 : (j : Int) ≤ 4 := by omega
  conv in (bodySt 5) => whnf
  repeat' (first
    | ((with_reducible show wpAny _ _ (call (Value.ref _) _) _ _ _); k_dflt ( (refine' con_use (parse_any _ _ _ _ _ _ _) ?B ?F ?X ?N ?T ?hk ?hp ?hd ?hu ?_; (case hp => k_asm); (case B => k_asm); (case F => k_asm); (case X => k_asm); (case N => k_asm); (case T => k_asm); (case hk => exact rfl); (case hd => k_asm); (case hu => omega); intro t9 h9 tk9 F9 N9 K9; (try dsimp only))))
    | (k_unfold; (try dsimp only)) | walk1 | (dsimp only; walk1) | fail "no step")
  exact cont _ _ _ (by k_asm) (by k_asm)
end
end Mine
namespace Mine
open PySem PySem.W PyProof.Rows PySem.Calls
set_option maxRecDepth 100000
theorem off1_mem {D : Addr} : ∀ {l : List (Addr × Obj)}, LCg.Off1 D l → ∀ p ∈ l, p.1 ≠ D
  | [], _, _, h => nomatch h
  | _ :: _, x, p, h => by
    rcases List.mem_cons.mp h with rfl | h
    · exact x.1
    · exact off1_mem x.2 p h
theorem one_ne {c : Nat} : ((⟨#[]⟩ : Str) == ⟨#[c]⟩) = false := by rw [beq_eq_false_iff_ne]; intro e; injection e with e; exact absurd (congrArg Array.size e) (by simp)
theorem two_ne {c : Nat} : ((⟨#[34]⟩ : Str) == ⟨#[34, c]⟩) = false := by rw [beq_eq_false_iff_ne]; intro e; injection e with e; exact absurd (congrArg Array.size e) (by simp)
theorem name_even (c : Nat) {j : Nat} (hj : j ≤ 4) : (nameOf c j == Txt.mul (Str.ofString "\"") ((j : Int).fdiv 2) ++ ⟨#[c]⟩) = (j % 2 == 0) := by
  rcases j with _ | _ | _ | _ | _ | j
  · exact beq_self_eq_true _
  · exact one_ne
  · exact beq_self_eq_true _
  · exact two_ne
  · exact beq_self_eq_true _
  · omega
theorem name_odd (c : Nat) {j : Nat} (hj : j ≤ 4) (h : (j % 2 == 0) = false) : (nameOf c j == Txt.mul (Str.ofString "\"") ((j : Int).fdiv 2)) = true := by
  rcases j with _ | _ | _ | _ | _ | j
  · simp at h
  · exact beq_self_eq_true _
  · simp at h
  · exact beq_self_eq_true _
  · simp at h
  · omega
section
variable (w : World) (s₀ : Shared) (mg mb : Str → Option Value) (dp un : Nat) (gd : Option (List Code)) (fa : Addr) (cd : Value) (outer : List Env) (L c1 c2 c3 c4 c5 c6 c7 c8 : Addr) (A₀ : Around) (base h₀ : Heap) (s : Shared) (Q : Flow → Shared → Prop) (E : Value → Shared → Prop) (rest : List Stmt)
local macro_rules | `(tactic| walk_at "call builtin:list.append") => `(tactic| (k_here; k_dflt (refine' append_L ?k1 ?k2 ?k3 ?k4 ?_; (case k1 => k_asm); (case k2 => k_asm); (case k3 => k_upd); (case k4 => omega)); intro h' F' N'; (try dsimp only); (try k_sweep)))
set_option maxHeartbeats 800000 in
theorem b6 (B : Below A₀ base outer h₀) (X : (hd.heap_39 w.params).In h₀) (T : Top hd.view_39 Lse (ExcName.means s₀.heap) mg mb h₀) (hun : un + 64 < cLine)
   (I OD EV OR WO SH PL : Addr) (oI oW : Obj) (ys zs es evs ods : List Value) (ce co : Nat) (hev : evs.length ≤ 1000) (hod : ods.length ≤ 1000) (c j : Nat) (hc : c ≠ 34 ∧ j ≤ 4)
   (m : Str → Option Value) (vW vN : Value) (tm tt tn : Tok) (o1 o2 o3 o4 o5 o6 o7 o8 : Obj) (p5 : o5.data = .cell (some (.ref EV))) (p6 : o6.data = .cell (some (.ref OD)))
   (lEO : @LT.lt Nat _ EV OD) (lRE : @LT.lt Nat _ OR EV) (lWE : @LT.lt Nat _ WO EV) (lPE : @LT.lt Nat _ PL EV) (lSE : @LT.lt Nat _ SH EV) (lIE : @Ne Nat I EV) (lIO : @Ne Nat I OD) (lEV : OffCells EV c1 c2 c3 c4 c5 c6 c7 c8) (lOD : OffCells OD c1 c2 c3 c4 c5 c6 c7 c8)
   (F : Fr h₀ L s.heap (fun y => if y = Str.ofString "name" then some (.str (nameOf c j) tn) else if y = Str.ofString "marks" then some (.int (j : Int) tm) else if y = Str.ofString "number" then some vN else if y = Str.ofString "words" then some vW else if y = Str.ofString "tail" then some (.str ⟨#[c]⟩ tt) else m y)) (N : News h₀ L s.heap [(I, oI), (OD, PySem.W.listOf ods.toArray co), (EV, PySem.W.listOf evs.toArray ce), (OR, LCg.lst es), (WO, oW), (PL, LCg.lst zs), (SH, LCg.lst ys), (c8, o8), (c7, o7), (c6, o6), (c5, o5), (c4, o4), (c3, o3), (c2, o2), (c1, o1)])
   (contE : j % 2 = 0 → ∀ (h' : Heap) (tk' ce' co' : Nat),
     Fr h₀ L h' (fun y => if y = Str.ofString "name" then some (.str (nameOf c j) tn) else if y = Str.ofString "marks" then some (.int (j : Int) tm) else if y = Str.ofString "number" then some vN else if y = Str.ofString "words" then some vW else if y = Str.ofString "tail" then some (.str ⟨#[c]⟩ tt) else m y) →
     News h₀ L h' [(I, oI), (OD, PySem.W.listOf ods.toArray co'), (EV, PySem.W.listOf (evs ++ [vN]).toArray ce'), (OR, LCg.lst es), (WO, oW), (PL, LCg.lst zs), (SH, LCg.lst ys), (c8, o8), (c7, o7), (c6, o6), (c5, o5), (c4, o4), (c3, o3), (c2, o2), (c1, o1)] →
     LawGoes w dp un gd fa cd outer L c1 c2 c3 c4 c5 c6 c7 c8 rest Q E { s with heap := h', toks := tk' })
   (contO : j % 2 = 1 → ∀ (h' : Heap) (tk' ce' co' : Nat),
     Fr h₀ L h' (fun y => if y = Str.ofString "name" then some (.str (nameOf c j) tn) else if y = Str.ofString "marks" then some (.int (j : Int) tm) else if y = Str.ofString "number" then some vN else if y = Str.ofString "words" then some vW else if y = Str.ofString "tail" then some (.str ⟨#[c]⟩ tt) else m y) →
     News h₀ L h' [(I, oI), (OD, PySem.W.listOf (ods ++ [vN]).toArray co'), (EV, PySem.W.listOf evs.toArray ce'), (OR, LCg.lst es), (WO, oW), (PL, LCg.lst zs), (SH, LCg.lst ys), (c8, o8), (c7, o7), (c6, o6), (c5, o5), (c4, o4), (c3, o3), (c2, o2), (c1, o1)] →
     LawGoes w dp un gd fa cd outer L c1 c2 c3 c4 c5 c6 c7 c8 rest Q E { s with heap := h', toks := tk' }) :
   LawGoes w dp un gd fa cd outer L c1 c2 c3 c4 c5 c6 c7 c8 (bodySt 6 :: rest) Q E s := by
  w_on
  dsimp only [LawGoes] at contE contO ⊢
  revert X; k_fill; intro X
  obtain ⟨d1, d2, d3, d4, d5, d6, d7, d8⟩ := lOD
  obtain ⟨e1, e2, e3, e4, e5, e6, e7, e8⟩ := lEV
  have lRO : @LT.lt Nat _ OR OD := Nat.lt_trans lRE lEO
  have lWO' : @LT.lt Nat _ WO OD := Nat.lt_trans lWE lEO
  have lPO : @LT.lt Nat _ PL OD := Nat.lt_trans lPE lEO
  have lSO : @LT.lt Nat _ SH OD := Nat.lt_trans lSE lEO
  have hj0 : (0 : Int) ≤ (j : Int) := by omega
  have hj4 : (j : Int) ≤ 4 := by omega
  have hj2 : 0 ≤ (j : Int).fdiv 2 ∧ (j : Int).fdiv 2 ≤ 2 := by rw [Int.fdiv_eq_ediv_of_nonneg _ (by decide)]; omega
  have hn1 := name_even c hc.2
  conv in (bodySt 6) => whnf
  cases hp : (j % 2 == 0) with
  | true =>
    have h0 : j % 2 = 0 := by simpa using hp
    rw [hp] at hn1
    repeat' (first
      | (k_unfold; (try dsimp only)) | walk1 | (dsimp only; walk1) | fail "no step")
    exact contE h0 _ _ _ _ (by k_asm) (by k_asm)
  | false =>
    have h1 : j % 2 = 1 := by simp at hp; omega
    rw [hp] at hn1
    have offO : LCg.Off1 OD [(EV, PySem.W.listOf evs.toArray ce), (OR, LCg.lst es), (WO, oW), (PL, LCg.lst zs), (SH, LCg.lst ys), (c8, o8), (c7, o7), (c6, o6), (c5, o5), (c4, o4), (c3, o3), (c2, o2), (c1, o1)] :=
      ⟨Nat.ne_of_lt lEO, Nat.ne_of_lt lRO, Nat.ne_of_lt lWO', Nat.ne_of_lt lPO, Nat.ne_of_lt lSO, Ne.symm d8, Ne.symm d7, Ne.symm d6, Ne.symm d5, Ne.symm d4, Ne.symm d3, Ne.symm d2, Ne.symm d1, True.intro⟩
    have hn2 := name_odd c hc.2 hp
    repeat' (first
      | ((with_reducible show wpAny _ _ (call (Value.builtin "list.append") _) _ _ _)
         dsimp only [List.append_eq, List.cons_append, List.nil_append]
         refine' append_L (ws := ods) (n := co) (x := vN) ?k1 ?k2 (Upd.tail (p := (I, oI)) lIO (Upd.head (off1_mem offO))) hod ?_
         (case k1 => k_asm)
         (case k2 => k_asm)
         intro h' F' N'
         (try dsimp only))
      | (k_unfold; (try dsimp only)) | walk1 | (dsimp only; walk1) | fail "no step")
    exact contO h1 _ _ _ _ (by k_asm) (by k_asm)
end
end Mine
namespace Mine
open PySem PySem.W PyProof.Rows PySem.Calls
theorem new_far {h₀ h : Heap} {L a : Addr} {m : Str → Option Value} (T : h₀.NoLimit) (F : Fr h₀ L h m) (hL : @LT.lt Nat _ L a) : (a == sysModules) = false :=
  beq_eq_false_iff_ne.mpr (Nat.ne_of_gt (Nat.lt_trans (Nat.lt_of_lt_of_le (modules_low T) F.above) hL))
end Mine
namespace Mine
open PySem PySem.W PyProof.Rows PySem.Calls
theorem word_good : ∀ p : Fin 40, PyData.strOk (bitText p.val) = true ∧ (bitText p.val == Str.ofString "0x0") = false := by decide +kernel
theorem word_inj : ∀ p q : Fin 40, (bitText p.val == bitText q.val) = decide (p = q) := by decide +kernel
end Mine
namespace Mine
open PySem PySem.W PyProof.Rows PySem.Calls PySem.Builtin PySem.Builtin.Str
theorem chain_one {x y : Str} (hw : 1 ≤ y.length) : ∀ {a : Nat} {cs ds : List Nat} {f g : Nat}, StrLaws.ChainG x y x.length a cs f → (∀ k, f ≤ k → ¬ StrLaws.At x y x.length k) → StrLaws.ChainG x y x.length a ds g → (∀ k, g ≤ k → ¬ StrLaws.At x y x.length k) → cs = ds
  | a, [], [], _, _, _, _, _, _ => rfl
  | a, [], d :: ds, f, g, h, hn, h', _ => by
    have e : f = a := h
    exact absurd h'.2.1 (hn d (by rw [e]; exact h'.1))
  | a, c :: cs, [], f, g, h, _, h', hn => by
    have e : g = a := h'
    exact absurd h.2.1 (hn c (by rw [e]; exact h.1))
  | a, c :: cs, d :: ds, f, g, h, hn, h', hn' => by
    have e : c = d := by
      rcases Nat.lt_trichotomy c d with q | q | q
      · exact absurd h.2.1 (h'.2.2.1 c h.1 q)
      · exact q
      · exact absurd h'.2.1 (h.2.2.1 d h'.1 q)
    subst e
    rw [chain_one hw h.2.2.2 hn h'.2.2.2 hn']
/-- where the separators of joined words lie -/
def cutsOf : Nat → List Str → List Nat
  | _, [] => []
  | _, [_] => []
  | a, w :: v :: r => (a + w.length) :: cutsOf (a + w.length + 2) (v :: r)
theorem cutsOf_length : ∀ (a : Nat) (ws : List Str), (cutsOf a ws).length = ws.length - 1
  | _, [] => rfl
  | _, [_] => rfl
  | a, w :: v :: r => by
    show (cutsOf (a + w.length + 2) (v :: r)).length + 1 = _
    rw [cutsOf_length]
    simp
theorem at_list {x : Str} {k : Nat} (h : StrLaws.At x sep x.length k) : (x.cps.toList.drop k).take 2 = [44, 32] := by
  have := h.2
  rw [StrLaws.subAt_eq] at this
  exact eq_of_beq this
theorem at_first {x : Str} {k : Nat} (h : StrLaws.At x sep x.length k) : x.cps.toList[k]? = some 44 := by
  have h1 := at_list h
  have h2 : ((x.cps.toList.drop k).take 2)[0]? = some 44 := by rw [h1]; rfl
  simpa using h2
theorem len_list (x : Str) : x.cps.toList.length = x.length := by simp [Str.length]
theorem chain_words {x : Str} : ∀ (ws : List Str) (a : Nat), ws ≠ [] → (∀ w ∈ ws, 44 ∉ w.cps.toList) → x.cps.toList.drop a = (Str.join sep ws).cps.toList → a ≤ x.length →
    (∃ f, StrLaws.ChainG x sep x.length a (cutsOf a ws) f ∧ ∀ k, f ≤ k → ¬ StrLaws.At x sep x.length k) ∧ StrLaws.partsFrom x 2 a (cutsOf a ws) = ws
  | [], _, h, _, _, _ => absurd rfl h
  | [w], a, _, hc, hd, ha => by
    have hd' : x.cps.toList.drop a = w.cps.toList := hd
    refine ⟨⟨a, rfl, fun k hk hA => ?_⟩, ?_⟩
    · have h1 := at_first hA
      have h2 : (x.cps.toList.drop a)[k - a]? = some 44 := by
        rw [List.getElem?_drop]
        rw [show a + (k - a) = k by omega]
        exact h1
      rw [hd'] at h2
      exact hc w (List.mem_cons_self ..) (List.mem_of_getElem? h2)
    · show [strSub x a x.length] = [w]
      congr 1
      apply Str.ext'
      apply Array.toList_inj.mp
      rw [StrLaws.strSub_toList, hd', List.take_of_length_le]
      rw [← hd', List.length_drop, len_list]
      exact Nat.le_refl _
  | w :: v :: r, a, _, hc, hd, ha => by
    have hd' : x.cps.toList.drop a = w.cps.toList ++ ([44, 32] ++ (Str.join sep (v :: r)).cps.toList) := by
      rw [hd]
      show ((w ++ sep) ++ Str.join sep (v :: r)).cps.toList = _
      simp only [Str.cps_append, Array.toList_append, List.append_assoc]
    have hwl := len_list w
    have hlen : x.length - a = w.length + (2 + (Str.join sep (v :: r)).length) := by
      have := congrArg List.length hd'
      rw [List.length_drop, len_list, List.length_append, List.length_append, len_list, len_list] at this
      exact this
    have hd2 : x.cps.toList.drop (a + w.length) = [44, 32] ++ (Str.join sep (v :: r)).cps.toList := by
      rw [← List.drop_drop, hd', ← hwl]
      exact List.drop_left ..
    have hd3 : x.cps.toList.drop (a + w.length + 2) = (Str.join sep (v :: r)).cps.toList := by
      rw [← List.drop_drop, hd2]
      rfl
    obtain ⟨⟨f, h1, h2⟩, h3⟩ := chain_words (v :: r) (a + w.length + 2) (by simp) (fun u hu => hc u (List.mem_cons_of_mem _ hu)) hd3 (by omega)
    refine ⟨⟨f, ⟨by omega, ⟨?_, ?_⟩, ?_, h1⟩, h2⟩, ?_⟩
    · show a + w.length + 2 ≤ x.length
      omega
    · rw [StrLaws.subAt_eq, hd2]
      rfl
    · intro k hk1 hk2 hA
      have q1 := at_first hA
      have q2 : (x.cps.toList.drop a)[k - a]? = some 44 := by
        rw [List.getElem?_drop]
        rw [show a + (k - a) = k by omega]
        exact q1
      rw [hd', List.getElem?_append_left (by omega)] at q2
      exact hc w (List.mem_cons_self ..) (List.mem_of_getElem? q2)
    · show strSub x a (a + w.length) :: StrLaws.partsFrom x 2 (a + w.length + 2) (cutsOf (a + w.length + 2) (v :: r)) = _
      rw [h3]
      congr 1
      apply Str.ext'
      apply Array.toList_inj.mp
      rw [StrLaws.strSub_toList, hd', show a + w.length - a = w.length by omega, ← hwl]
      exact List.take_left ..
theorem kind_one (x : Str) : 1 ≤ Str.strKind x := by
  unfold Str.strKind
  split
  · exact Nat.le_refl _
  · split <;> omega
theorem split_join {ws : List Str} (h0 : ws ≠ []) (hc : ∀ w ∈ ws, 44 ∉ w.cps.toList) : Txt.split (Str.join sep ws) sep = ws := by
  obtain ⟨⟨f, h1, h2⟩, h3⟩ := chain_words (x := Str.join sep ws) ws 0 h0 hc rfl (Nat.zero_le _)
  generalize hx : Str.join sep ws = x at h1 h2 h3 ⊢
  obtain ⟨g, g1, g2⟩ := StrLaws.occ_tight x sep (by decide)
  have e := chain_one (by decide) g1 g2 h1 h2
  have hw : StrLaws.partsFrom x 2 0 [] = [x] := by
    show [strSub x 0 x.length] = [x]
    rw [StrLaws.sub_whole]
  unfold Txt.split
  have hk : decide (Str.strKind x < Str.strKind sep) = false := by
    have := kind_one x
    have e1 : Str.strKind sep = 1 := by decide +kernel
    rw [e1]
    simp
    omega
  rw [hk, Bool.or_false]
  by_cases hl : x.length < sep.length
  · rw [if_pos (by simpa using hl)]
    have : cutsOf 0 ws = [] := by
      cases hcut : cutsOf 0 ws with
      | nil => rfl
      | cons c r =>
        rw [hcut] at h1
        have := h1.2.1.1
        have e2 : sep.length = 2 := rfl
        rw [e2] at this hl
        omega
    rw [this, hw] at h3
    exact h3
  · rw [if_neg (by simpa using hl), e]
    cases hcut : cutsOf 0 ws with
    | nil =>
      rw [hcut, hw] at h3
      exact h3
    | cons c r =>
      rw [← hcut]
      have : (cutsOf 0 ws).isEmpty = false := by rw [hcut]; rfl
      rw [this, if_neg (by decide), StrLaws.partsBetween_eq]
      exact h3
theorem ell_chain {x : Str} : ∀ (k : Nat) (a : Nat) (cs : List Nat) (f : Nat), a ≤ x.length → StrLaws.ChainG x sep x.length a cs f → (∀ j, f ≤ j → ¬ StrLaws.At x sep x.length j) → ellK x k (a : Int) = decide (k ≤ cs.length)
  | 0, _, _, _, _, _, _ => by simp [ellK]
  | k + 1, a, cs, f, ha, h, hn => by
    have ef : fromIndex x.length (a : Int) = a := by unfold fromIndex; split <;> omega
    rcases StrLaws.occ_head_from x sep a 1 (Nat.le_refl 1) with ⟨q, hq⟩ | ⟨i, r, q, hlo, hi, hq⟩
    · have hfind : Txt.find3 x sep (a : Int) = -1 := by
        unfold Txt.find3
        rw [ef, q]
      cases cs with
      | nil => simp [ellK, hfind]
      | cons c cs => exact absurd h.2.1 (hq c h.1)
    · have hfind : Txt.find3 x sep (a : Int) = (i : Int) := by
        unfold Txt.find3
        rw [ef, q]
      cases cs with
      | nil =>
        have e : f = a := h
        exact absurd hi (hn i (by omega))
      | cons c cs =>
        have e : i = c := by
          rcases Nat.lt_trichotomy i c with z | z | z
          · exact absurd hi (h.2.2.1 i hlo z)
          · exact z
          · exact absurd h.2.1 (hq c h.1 z)
        subst e
        have hl : i + 2 ≤ x.length := hi.1
        have ih := ell_chain k (i + 2) cs f hl h.2.2.2 hn
        have e3 : ((i + 2 : Nat) : Int) = (i : Int) + 2 := by omega
        rw [e3] at ih
        unfold ellK
        rw [hfind, if_neg (by omega), ih]
        simp
theorem ell_join {ws : List Str} (h0 : ws ≠ []) (hc : ∀ w ∈ ws, 44 ∉ w.cps.toList) (k : Nat) : ellK (Str.join sep ws) k 0 = decide (k ≤ ws.length - 1) := by
  obtain ⟨⟨f, h1, h2⟩, _⟩ := chain_words (x := Str.join sep ws) ws 0 h0 hc rfl (Nat.zero_le _)
  have := ell_chain k 0 _ f (Nat.zero_le _) h1 h2
  rw [cutsOf_length] at this
  exact this
end Mine
namespace Mine
open PySem PySem.W PyProof.Rows PySem.Calls
set_option maxRecDepth 100000
theorem perm_sum {l₁ l₂ : List Int} (h : l₁.Perm l₂) : l₁.sum = l₂.sum := by
  induction h with
  | nil => rfl
  | cons x _ ih => simp only [List.sum_cons, ih]
  | swap x y l => simp only [List.sum_cons]; omega
  | trans _ _ ih₁ ih₂ => exact ih₁.trans ih₂
theorem word_free : ∀ p : Fin 40, (bitText p.val).cps.toList.contains 44 = false := by decide +kernel
theorem zero_free : (Str.ofString "0x0").cps.toList.contains 44 = false := by decide +kernel
theorem sep_is : Str.ofString ", " = sep := by decide +kernel
theorem zero_ok : PyData.strOk (Str.ofString "0x0") = true := by decide +kernel
theorem zero_len : (Str.ofString "0x0").length ≤ 20 := by decide +kernel
theorem word_one {p q : Int} (hp : 0 ≤ p ∧ p < 40) (hq : 0 ≤ q ∧ q < 40) (h : wordAt p = wordAt q) : p = q := by
  have z := word_inj ⟨p.toNat, by omega⟩ ⟨q.toNat, by omega⟩
  have h' : bitText p.toNat = bitText q.toNat := h
  dsimp only at z
  rw [h', beq_self_eq_true] at z
  have z' := of_decide_eq_true z.symm
  have z2 : p.toNat = q.toNat := congrArg Fin.val z'
  omega
theorem word_nz {p : Int} (hp : 0 ≤ p ∧ p < 40) : wordAt p ≠ Str.ofString "0x0" := by
  have z := (word_good ⟨p.toNat, by omega⟩).2
  exact beq_eq_false_iff_ne.mp z
/-- what a law's run has chosen: n places, the i-th choice, the places in order -/
structure Pick (n : Nat) (f : Nat → Int) (qs : List Int) : Prop where
  two : 2 ≤ n
  four : n ≤ 4
  rng : ∀ k, k < n → 0 ≤ f k ∧ f k < 40
  inj : ∀ k l, k < n → l < n → f k = f l → k = l
  top : ∀ k l, k < n → l < n → 32 ≤ f k → 32 ≤ f l → k = l
  perm : qs.Perm ((List.range n).map f)
  sort : qs.Pairwise (· ≤ ·)
def chosen (n : Nat) (f : Nat → Int) (i : Nat) (q : Int) : Bool := (List.range n).any fun k => bitOn i k && decide (f k = q)
def psOf (n : Nat) (f : Nat → Int) (qs : List Int) (i : Nat) : List Nat := (qs.filter (chosen n f i)).map Int.toNat
/-- the places chosen, by number -/
def onOf (n i : Nat) : List Nat := (List.range n).filter (bitOn i)
def numOf (n : Nat) (g : Nat → Int) (d0 : Int) (i : Nat) : Int := d0 + ((onOf n i).map g).sum
section
variable {n : Nat} {f : Nat → Int} {qs : List Int} (P : Pick n f qs) (i : Nat)
include P
theorem Pick.chosen_at {k : Nat} (hk : k < n) : chosen n f i (f k) = bitOn i k := by
  unfold chosen
  cases hb : bitOn i k with
  | true =>
    rw [List.any_eq_true]
    exact ⟨k, List.mem_range.mpr hk, by simp [hb]⟩
  | false =>
    rw [List.any_eq_false]
    intro l hl
    have hl' := List.mem_range.mp hl
    by_cases e : f l = f k
    · have := P.inj l k hl' hk e
      subst this
      simp [hb]
    · simp [e]
theorem Pick.mem {q : Int} (hq : q ∈ qs) : ∃ k, k < n ∧ f k = q := by
  have := P.perm.mem_iff.mp hq
  obtain ⟨k, hk, e⟩ := List.mem_map.mp this
  exact ⟨k, List.mem_range.mp hk, e⟩
theorem Pick.rngQ {q : Int} (hq : q ∈ qs) : 0 ≤ q ∧ q < 40 := by
  obtain ⟨k, hk, rfl⟩ := P.mem hq
  exact P.rng k hk
theorem Pick.sel : (qs.filter (chosen n f i)).Perm ((onOf n i).map f) := by
  have h := P.perm.filter (chosen n f i)
  rw [List.filter_map] at h
  have e : (List.range n).filter (chosen n f i ∘ f) = onOf n i := List.filter_congr fun k hk => P.chosen_at i (List.mem_range.mp hk)
  rwa [e] at h
theorem Pick.sel_sum (F : Int → Int) : ((qs.filter (chosen n f i)).map F).sum = ((onOf n i).map fun k => F (f k)).sum := by
  have h := perm_sum ((P.sel i).map F)
  rw [h, List.map_map]
  rfl
theorem Pick.len : (psOf n f qs i).length = (onOf n i).length := by
  unfold psOf
  rw [List.length_map, (P.sel i).length_eq, List.length_map]
theorem Pick.len_le : (onOf n i).length ≤ n := by
  have := List.length_filter_le (bitOn i) (List.range n)
  rwa [List.length_range] at this
theorem Pick.strict : qs.Pairwise (· < ·) := by
  have h1 : qs.Nodup := by
    refine P.perm.nodup_iff.mpr ?_
    rw [List.nodup_iff_pairwise_ne]
    refine List.pairwise_map.mpr ?_
    refine List.Pairwise.imp_of_mem (fun {a b} ha hb hab e => ?_) List.nodup_range
    exact hab (P.inj a b (List.mem_range.mp ha) (List.mem_range.mp hb) e)
  refine List.Pairwise.imp₂ (fun a b h1 h2 => ?_) P.sort h1
  have : a ≠ b := h2
  omega
theorem Pick.psSort : (psOf n f qs i).Pairwise (· < ·) := by
  unfold psOf
  refine List.pairwise_map.mpr ?_
  refine List.Pairwise.imp_of_mem (fun {a b} ha hb hab => ?_) (P.strict.filter _)
  have := P.rngQ (List.mem_filter.mp ha).1
  have := P.rngQ (List.mem_filter.mp hb).1
  omega
theorem Pick.psB : ∀ p ∈ psOf n f qs i, p < 40 := by
  intro p hp
  obtain ⟨q, hq, rfl⟩ := List.mem_map.mp hp
  have := P.rngQ (List.mem_filter.mp hq).1
  omega
theorem Pick.psTop : ∀ p ∈ psOf n f qs i, ∀ q ∈ psOf n f qs i, 32 ≤ p → 32 ≤ q → p = q := by
  intro p hp q hq h1 h2
  obtain ⟨a, ha, rfl⟩ := List.mem_map.mp hp
  obtain ⟨b, hb, rfl⟩ := List.mem_map.mp hq
  obtain ⟨k, hk, rfl⟩ := P.mem (List.mem_filter.mp ha).1
  obtain ⟨l, hl, rfl⟩ := P.mem (List.mem_filter.mp hb).1
  rw [P.top k l hk hl (by omega) (by omega)]
theorem Pick.psSum : (List.map (fun k => (2 : Int) ^ (f k).toNat) (List.filter (bitOn i) (List.range n))).sum = sumP (psOf n f qs i) := by
  unfold sumP psOf
  rw [List.map_map]
  exact (P.sel_sum i (fun q => (2 : Int) ^ q.toNat)).symm
theorem Pick.psWords : (psOf n f qs i).map bitText = (qs.filter (chosen n f i)).map wordAt := by
  unfold psOf
  rw [List.map_map]
  rfl
theorem Pick.free : ∀ w ∈ pfWords (psOf n f qs i), 44 ∉ w.cps.toList := by
  intro w hw
  unfold pfWords at hw
  split at hw
  · rw [List.mem_singleton.mp hw]
    intro h
    have := zero_free
    simp at this
    exact this (by simpa using h)
  · obtain ⟨p, hp, rfl⟩ := List.mem_map.mp hw
    intro h
    have := word_free ⟨p, P.psB i p hp⟩
    simp at this
    exact this (by simpa using h)
theorem Pick.ne : pfWords (psOf n f qs i) ≠ [] := by
  unfold pfWords
  split
  · simp
  · rename_i h
    simpa using h
theorem Pick.text : pfText (psOf n f qs i) = Str.join sep (pfWords (psOf n f qs i)) := by
  unfold pfText
  rw [sep_is]
  show Builtin.Str.glued sep _ = _
  rw [StrLaws.glued_eq_join]
theorem Pick.split : Txt.split (pfText (psOf n f qs i)) (Str.ofString ", ") = pfWords (psOf n f qs i) := by
  rw [P.text, sep_is]
  exact split_join (P.ne i) (P.free i)
theorem Pick.wordsLen : (pfWords (psOf n f qs i)).length ≤ 4 := by
  unfold pfWords
  split
  · simp
  · rw [List.length_map, P.len]
    have := P.len_le i
    have := P.four
    omega
theorem Pick.short : (pfText (psOf n f qs i)).length < 1000 := by
  rw [P.text]
  have h1 := StrLaws.join_length_le sep (pfWords (psOf n f qs i))
  have h2 := StrLaws.sumLen_le (B := 20) (pfWords (psOf n f qs i)) (fun y hy => by
    unfold pfWords at hy
    split at hy
    · rw [List.mem_singleton.mp hy]; exact zero_len
    · obtain ⟨p, hp, rfl⟩ := List.mem_map.mp hy
      exact bitText_short (P.psB i p hp))
  have h3 := P.wordsLen i
  have e : sep.length = 2 := rfl
  rw [e] at h1
  omega
theorem Pick.ok : ∀ x ∈ pfWords (psOf n f qs i), PyData.strOk x = true := by
  intro x hx
  unfold pfWords at hx
  split at hx
  · rw [List.mem_singleton.mp hx]; exact zero_ok
  · obtain ⟨p, hp, rfl⟩ := List.mem_map.mp hx
    exact (word_good ⟨p, P.psB i p hp⟩).1
theorem Pick.zero (h : psOf n f qs i = []) : pfText (psOf n f qs i) = Str.ofString "0x0" := by
  rw [P.text, h]
  rfl
theorem Pick.nz (h : psOf n f qs i ≠ []) : pfText (psOf n f qs i) ≠ Str.ofString "0x0" := by
  intro e
  have h1 := P.split i
  have e2 : Str.ofString "0x0" = Str.join sep [Str.ofString "0x0"] := rfl
  rw [e, e2, sep_is, split_join (by simp) (by
    intro w hw
    rw [List.mem_singleton.mp hw]
    have := zero_free
    simp at this
    simpa using this)] at h1
  have h2 : Str.ofString "0x0" ∈ pfWords (psOf n f qs i) := by rw [← h1]; simp
  unfold pfWords at h2
  rw [if_neg h] at h2
  obtain ⟨p, hp, e3⟩ := List.mem_map.mp h2
  exact beq_eq_false_iff_ne.mp (word_good ⟨p, P.psB i p hp⟩).2 e3
theorem Pick.good : pfText (psOf n f qs i) ≠ Str.ofString "0x0" → (qs.map wordAt).filter (fun y => (pfWords (psOf n f qs i)).any (fun x => x == y)) = pfWords (psOf n f qs i) := by
  intro h
  have hne : psOf n f qs i ≠ [] := fun e => h (P.zero i e)
  have e : pfWords (psOf n f qs i) = (qs.filter (chosen n f i)).map wordAt := by
    unfold pfWords
    rw [if_neg hne, P.psWords]
  rw [e, List.filter_map]
  congr 1
  refine List.filter_congr fun q hq => ?_
  show ((qs.filter (chosen n f i)).map wordAt).any (fun x => x == wordAt q) = chosen n f i q
  cases hc : chosen n f i q with
  | true =>
    rw [List.any_eq_true]
    exact ⟨wordAt q, List.mem_map.mpr ⟨q, List.mem_filter.mpr ⟨hq, hc⟩, rfl⟩, beq_self_eq_true _⟩
  | false =>
    rw [List.any_eq_false]
    intro x hx
    obtain ⟨q', hq', rfl⟩ := List.mem_map.mp hx
    intro he
    have h3 := word_one (P.rngQ (List.mem_filter.mp hq').1) (P.rngQ hq) (eq_of_beq he)
    rw [h3] at hq'
    rw [(List.mem_filter.mp hq').2] at hc
    cases hc
omit P in
theorem marksOf_eq {x : Str} {c : Nat} (h : ∀ k, ellK x k 0 = decide (k ≤ c)) : ∀ m : Nat, marksOf x m = ((1 + min m c : Nat) : Int)
  | 0 => by simp [marksOf]
  | m + 1 => by
    unfold marksOf
    rw [marksOf_eq h m, h]
    by_cases hm : m + 1 ≤ c
    · rw [if_pos (by simpa using hm)]
      omega
    · rw [if_neg (by simpa using hm)]
      omega
theorem Pick.marks : marksR (pfText (psOf n f qs i)) n = (((onOf n i).length : Nat) : Int) := by
  unfold marksR
  by_cases h : psOf n f qs i = []
  · rw [P.zero i h, if_pos (beq_self_eq_true _)]
    have := P.len i
    rw [h] at this
    simp at this
    rw [← this]
    rfl
  · have h1 := P.nz i h
    rw [if_neg (by
      rw [beq_iff_eq]
      exact fun e => h1 e.symm)]
    have h2 : ∀ k, ellK (pfText (psOf n f qs i)) k 0 = decide (k ≤ (onOf n i).length - 1) := by
      intro k
      rw [P.text, ell_join (P.ne i) (P.free i)]
      congr 3
      unfold pfWords
      rw [if_neg h, List.length_map, P.len]
    rw [marksOf_eq h2]
    have h3 : (onOf n i).length ≠ 0 := by
      rw [← P.len i]
      simpa using h
    have h4 := P.len_le i
    congr 1
    omega
/-- what the table tells of a word -/
def worthOf (kvs : List (Str × Value)) (x : Str) : Int := match valueAt kvs x with
  | some (.int v _) => v
  | _ => 0
omit P in
theorem worth_get {g : Nat → Int} {kvs : List (Str × Value)} (T : TableOf n (fun k => wordAt (f k)) g kvs) (x : Str) (t : Tok) : ∃ t', (valueAt kvs x).getD (.int 0 t) = .int (worthOf kvs x) t' := by
  unfold worthOf
  cases h : valueAt kvs x with
  | none => exact ⟨t, rfl⟩
  | some v =>
    obtain ⟨i, _, _, t', rfl⟩ := T.1 x v h
    exact ⟨t', rfl⟩
theorem Pick.worth {g : Nat → Int} {kvs : List (Str × Value)} (T : TableOf n (fun k => wordAt (f k)) g kvs) {k : Nat} (hk : k < n) : worthOf kvs (wordAt (f k)) = g k := by
  have h := T.2 k hk
  unfold worthOf
  cases e : valueAt kvs (wordAt (f k)) with
  | none => rw [e] at h; cases h
  | some v =>
    obtain ⟨i, hi, e2, t', rfl⟩ := T.1 _ v e
    have := P.inj k i hk hi (word_one (P.rng k hk) (P.rng i hi) e2)
    subst this
    rfl
theorem Pick.worthless {g : Nat → Int} {kvs : List (Str × Value)} (T : TableOf n (fun k => wordAt (f k)) g kvs) : worthOf kvs (Str.ofString "0x0") = 0 := by
  unfold worthOf
  cases e : valueAt kvs (Str.ofString "0x0") with
  | none => rfl
  | some v =>
    obtain ⟨i, hi, e2, t', rfl⟩ := T.1 _ v e
    exact absurd e2.symm (word_nz (P.rng i hi))
theorem Pick.num {g : Nat → Int} {kvs : List (Str × Value)} (T : TableOf n (fun k => wordAt (f k)) g kvs) (d0 : Int) : d0 + ((pfWords (psOf n f qs i)).map (worthOf kvs)).sum = numOf n g d0 i := by
  unfold numOf
  congr 1
  by_cases h : psOf n f qs i = []
  · have h2 := P.len i
    rw [h] at h2
    have h3 : onOf n i = [] := List.eq_nil_of_length_eq_zero h2.symm
    unfold pfWords
    rw [h, h3]
    simp [P.worthless T]
  · unfold pfWords
    rw [if_neg h, P.psWords, List.map_map]
    rw [show ((worthOf kvs ∘ wordAt) : Int → Int) = fun q => worthOf kvs (wordAt q) from rfl, P.sel_sum i]
    congr 1
    refine List.map_congr_left fun k hk => ?_
    exact P.worth T (List.mem_range.mp (List.mem_filter.mp hk).1)
end
end Mine
namespace Mine
open PySem PySem.W PyProof.Rows PySem.Calls
def evensOf (n : Nat) (g : Nat → Int) (d0 : Int) (i : Nat) : List Int := ((List.range i).filter fun c => (onOf n c).length % 2 == 0).map (numOf n g d0)
def oddsOf (n : Nat) (g : Nat → Int) (d0 : Int) (i : Nat) : List Int := ((List.range i).filter fun c => (onOf n c).length % 2 == 1).map (numOf n g d0)
theorem evens_zero (n : Nat) (g : Nat → Int) (d0 : Int) : evensOf n g d0 0 = [] := rfl
theorem odds_zero (n : Nat) (g : Nat → Int) (d0 : Int) : oddsOf n g d0 0 = [] := rfl
theorem evens_even {n : Nat} (g : Nat → Int) (d0 : Int) {i : Nat} (h : (onOf n i).length % 2 = 0) : evensOf n g d0 (i + 1) = evensOf n g d0 i ++ [numOf n g d0 i] := by
  unfold evensOf
  rw [List.range_succ, List.filter_append, List.map_append]
  simp [h]
theorem evens_odd {n : Nat} (g : Nat → Int) (d0 : Int) {i : Nat} (h : (onOf n i).length % 2 = 1) : evensOf n g d0 (i + 1) = evensOf n g d0 i := by
  unfold evensOf
  rw [List.range_succ, List.filter_append, List.map_append]
  simp [h]
theorem odds_odd {n : Nat} (g : Nat → Int) (d0 : Int) {i : Nat} (h : (onOf n i).length % 2 = 1) : oddsOf n g d0 (i + 1) = oddsOf n g d0 i ++ [numOf n g d0 i] := by
  unfold oddsOf
  rw [List.range_succ, List.filter_append, List.map_append]
  simp [h]
theorem odds_even {n : Nat} (g : Nat → Int) (d0 : Int) {i : Nat} (h : (onOf n i).length % 2 = 0) : oddsOf n g d0 (i + 1) = oddsOf n g d0 i := by
  unfold oddsOf
  rw [List.range_succ, List.filter_append, List.map_append]
  simp [h]
def powSum (p : Nat) (l : List Int) : Int := (l.map fun x => x ^ p).sum
def dueAt (n : Nat) (g : Nat → Int) : Nat → Int
  | 0 => (-1) ^ n
  | k + 1 => dueAt n g k * ((k : Int) + 1) * g k
theorem ev2 : (List.range 4).filter (fun c => (onOf 2 c).length % 2 == 0) = [0, 3] := by decide +kernel
theorem od2 : (List.range 4).filter (fun c => (onOf 2 c).length % 2 == 1) = [1, 2] := by decide +kernel
theorem ev3 : (List.range 8).filter (fun c => (onOf 3 c).length % 2 == 0) = [0, 3, 5, 6] := by decide +kernel
theorem od3 : (List.range 8).filter (fun c => (onOf 3 c).length % 2 == 1) = [1, 2, 4, 7] := by decide +kernel
theorem ev4 : (List.range 16).filter (fun c => (onOf 4 c).length % 2 == 0) = [0, 3, 5, 6, 9, 10, 12, 15] := by decide +kernel
theorem od4 : (List.range 16).filter (fun c => (onOf 4 c).length % 2 == 1) = [1, 2, 4, 7, 8, 11, 13, 14] := by decide +kernel
theorem on2 : (List.range 4).map (onOf 2) = [[], [0], [1], [0, 1]] := by decide +kernel
theorem on3 : (List.range 8).map (onOf 3) = [[], [0], [1], [0, 1], [2], [0, 2], [1, 2], [0, 1, 2]] := by decide +kernel
theorem on4 : (List.range 16).map (onOf 4) = [[], [0], [1], [0, 1], [2], [0, 2], [1, 2], [0, 1, 2], [3], [0, 3], [1, 3], [0, 1, 3], [2, 3], [0, 2, 3], [1, 2, 3], [0, 1, 2, 3]] := by decide +kernel
section
variable (g : Nat → Int) (d0 : Int)
theorem evens2 : evensOf 2 g d0 4 = [d0, d0 + (g 0 + g 1)] := by
  unfold evensOf
  rw [ev2]
  have h := on2
  simp only [List.range, List.range.loop, List.map_cons, List.map_nil, List.cons.injEq, and_true] at h
  simp [numOf, h]
theorem odds2 : oddsOf 2 g d0 4 = [d0 + g 0, d0 + g 1] := by
  unfold oddsOf
  rw [od2]
  have h := on2
  simp only [List.range, List.range.loop, List.map_cons, List.map_nil, List.cons.injEq, and_true] at h
  simp [numOf, h]
theorem evens3 : evensOf 3 g d0 8 = [d0, d0 + (g 0 + g 1), d0 + (g 0 + g 2), d0 + (g 1 + g 2)] := by
  unfold evensOf
  rw [ev3]
  have h := on3
  simp only [List.range, List.range.loop, List.map_cons, List.map_nil, List.cons.injEq, and_true] at h
  simp [numOf, h]
theorem odds3 : oddsOf 3 g d0 8 = [d0 + g 0, d0 + g 1, d0 + g 2, d0 + (g 0 + (g 1 + g 2))] := by
  unfold oddsOf
  rw [od3]
  have h := on3
  simp only [List.range, List.range.loop, List.map_cons, List.map_nil, List.cons.injEq, and_true] at h
  simp [numOf, h]
theorem evens4 : evensOf 4 g d0 16 = [d0, d0 + (g 0 + g 1), d0 + (g 0 + g 2), d0 + (g 1 + g 2), d0 + (g 0 + g 3), d0 + (g 1 + g 3), d0 + (g 2 + g 3), d0 + (g 0 + (g 1 + (g 2 + g 3)))] := by
  unfold evensOf
  rw [ev4]
  have h := on4
  simp only [List.range, List.range.loop, List.map_cons, List.map_nil, List.cons.injEq, and_true] at h
  simp [numOf, h]
theorem odds4 : oddsOf 4 g d0 16 = [d0 + g 0, d0 + g 1, d0 + g 2, d0 + (g 0 + (g 1 + g 2)), d0 + g 3, d0 + (g 0 + (g 1 + g 3)), d0 + (g 0 + (g 2 + g 3)), d0 + (g 1 + (g 2 + g 3))] := by
  unfold oddsOf
  rw [od4]
  have h := on4
  simp only [List.range, List.range.loop, List.map_cons, List.map_nil, List.cons.injEq, and_true] at h
  simp [numOf, h]
theorem due2 : dueAt 2 g 2 = 2 * g 0 * g 1 := by simp only [dueAt]; grind
theorem due3 : dueAt 3 g 3 = -6 * g 0 * g 1 * g 2 := by simp only [dueAt]; grind
theorem due4 : dueAt 4 g 4 = 24 * g 0 * g 1 * g 2 * g 3 := by simp only [dueAt]; grind
end
theorem sum_two (a b : Int) : [a, b].sum = a + b := by simp
theorem p2 (s a b : Int) : ∀ p : Nat, p < 3 → powSum p [s, s + (a + b)] - powSum p [s + a, s + b] = if p < 2 then 0 else 2 * a * b
  | 0, _ => by simp [powSum]
  | 1, _ => by simp only [powSum, List.map_cons, List.map_nil, List.sum_cons, List.sum_nil, Nat.reduceLT, if_true]; grind
  | 2, _ => by simp only [powSum, List.map_cons, List.map_nil, List.sum_cons, List.sum_nil, Nat.lt_irrefl, if_false]; grind
  | p + 3, h => by omega
theorem p3 (s a b c : Int) : ∀ p : Nat, p < 4 → powSum p [s, s + (a + b), s + (a + c), s + (b + c)] - powSum p [s + a, s + b, s + c, s + (a + (b + c))] = if p < 3 then 0 else -6 * a * b * c
  | 0, _ => by simp [powSum]
  | 1, _ => by simp only [powSum, List.map_cons, List.map_nil, List.sum_cons, List.sum_nil, Nat.reduceLT, if_true]; grind
  | 2, _ => by simp only [powSum, List.map_cons, List.map_nil, List.sum_cons, List.sum_nil, Nat.reduceLT, if_true]; grind
  | 3, _ => by simp only [powSum, List.map_cons, List.map_nil, List.sum_cons, List.sum_nil, Nat.lt_irrefl, if_false]; grind
  | p + 4, h => by omega
theorem p4 (s a b c d : Int) : ∀ p : Nat, p < 5 → powSum p [s, s + (a + b), s + (a + c), s + (b + c), s + (a + d), s + (b + d), s + (c + d), s + (a + (b + (c + d)))] - powSum p [s + a, s + b, s + c, s + (a + (b + c)), s + d, s + (a + (b + d)), s + (a + (c + d)), s + (b + (c + d))] = if p < 4 then 0 else 24 * a * b * c * d
  | 0, _ => by simp [powSum]
  | 1, _ => by simp only [powSum, List.map_cons, List.map_nil, List.sum_cons, List.sum_nil, Nat.reduceLT, if_true]; grind
  | 2, _ => by simp only [powSum, List.map_cons, List.map_nil, List.sum_cons, List.sum_nil, Nat.reduceLT, if_true]; grind
  | 3, _ => by simp only [powSum, List.map_cons, List.map_nil, List.sum_cons, List.sum_nil, Nat.reduceLT, if_true]; grind
  | 4, _ => by simp only [powSum, List.map_cons, List.map_nil, List.sum_cons, List.sum_nil, Nat.lt_irrefl, if_false]; grind
  | p + 5, h => by omega
/-- Prouhet, Tarry, Escott -/
theorem pte {n : Nat} (h2 : 2 ≤ n) (h4 : n ≤ 4) (g : Nat → Int) (d0 : Int) : ∀ p : Nat, p < n + 1 → powSum p (evensOf n g d0 (2 ^ n)) - powSum p (oddsOf n g d0 (2 ^ n)) = if p < n then 0 else dueAt n g n := by
  intro p hp
  have : n = 2 ∨ n = 3 ∨ n = 4 := by omega
  rcases this with rfl | rfl | rfl
  · rw [due2, show (2 : Nat) ^ 2 = 4 from rfl, evens2, odds2]
    exact p2 _ _ _ p hp
  · rw [due3, show (2 : Nat) ^ 3 = 8 from rfl, evens3, odds3]
    exact p3 _ _ _ _ p hp
  · rw [due4, show (2 : Nat) ^ 4 = 16 from rfl, evens4, odds4]
    exact p4 _ _ _ _ _ p hp
end Mine
namespace Mine
open PySem PySem.W PyProof.Rows PySem.Calls
set_option maxRecDepth 100000
theorem ints_snoc : ∀ {vs : List Value} {ns : List Int} {k : Int} {t : Tok}, IntsAre vs ns → IntsAre (vs ++ [.int k t]) (ns ++ [k])
  | _, _, k, t, .nil => .cons k t .nil
  | _, _, _, _, .cons n t r => .cons n t (ints_snoc r)
theorem tail_not (d0 : Int) : (35 + d0.fmod 50000).toNat ≠ 34 := by
  have := Int.fmod_nonneg_of_pos d0 (b := 50000) (by decide)
  omega
/-- what holds ahead of turn i of the law's loop -/
def LoopJ (n : Nat) (g : Nat → Int) (d0 : Int) (OD EV OR WO SH PL : Addr) (oW : Obj) (ys zs es : List Value) (c1 c2 c3 c4 c5 c6 c7 c8 : Addr) (o1 o2 o3 o4 o5 o6 : Obj) (tt t2 t1 : Tok) (i : Nat) (m : Str → Option Value) (nx : List (Addr × Obj)) : Prop :=
  ∃ (evs ods : List Value) (ce co : Nat) (o7 o8 : Obj) (v7 v8 : Option Value), nx = [(OD, PySem.W.listOf ods.toArray co), (EV, PySem.W.listOf evs.toArray ce), (OR, LCg.lst es), (WO, oW), (PL, LCg.lst zs), (SH, LCg.lst ys), (c8, o8), (c7, o7), (c6, o6), (c5, o5), (c4, o4), (c3, o3), (c2, o2), (c1, o1)] ∧
    o7.data = .cell v7 ∧ o8.data = .cell v8 ∧ IntsAre evs (evensOf n g d0 i) ∧ IntsAre ods (oddsOf n g d0 i) ∧
    m (Str.ofString "tail") = some (.str (tailOf d0) tt) ∧ m (Str.ofString "order") = some (.ref OR) ∧ m (Str.ofString "size") = some (.int (n : Int) t2) ∧ m (Str.ofString "start") = some (.int d0 t1)
theorem evens_len (n : Nat) (g : Nat → Int) (d0 : Int) (i : Nat) : (evensOf n g d0 i).length ≤ i := by
  unfold evensOf
  rw [List.length_map]
  have := List.length_filter_le (fun c => (onOf n c).length % 2 == 0) (List.range i)
  rwa [List.length_range] at this
theorem odds_len (n : Nat) (g : Nat → Int) (d0 : Int) (i : Nat) : (oddsOf n g d0 i).length ≤ i := by
  unfold oddsOf
  rw [List.length_map]
  have := List.length_filter_le (fun c => (onOf n c).length % 2 == 1) (List.range i)
  rwa [List.length_range] at this
section
variable (w : World) (s₀ : Shared) (mg mb : Str → Option Value) (dp un : Nat) (gd : Option (List Code)) (fa : Addr) (cd : Value) (outer : List Env) (L c1 c2 c3 c4 c5 c6 c7 c8 : Addr) (A₀ : Around) (base h₀ : Heap) (s : Shared) (Q : Flow → Shared → Prop) (E : Value → Shared → Prop)
set_option maxHeartbeats 2000000 in
theorem body (B : Below A₀ base outer h₀) (X : (hd.heap_39 w.params).In h₀) (T : Top hd.view_39 Lse (ExcName.means s₀.heap) mg mb h₀) (hdp : dp + 2 < recursionLimit) (hun : un + 64 < cLine)
   (I OD EV OR WO SH PL : Addr) (oI oW : Obj) (ys zs es evs ods : List Value) (ce co : Nat) (n : Nat) (f g : Nat → Int) (qs : List Int) (P : Pick n f qs) (d0 : Int)
   (hz : ∀ k, k < n → ∃ t, zs[k]? = some (.int (f k) t)) (hes : StrsAre es (qs.map wordAt)) (kvs : List (Str × Value)) (hT : TableOf n (fun k => wordAt (f k)) g kvs) (hW : oW.IsDictOf (PySem.strKind PySem.Challenge.rw_ty0015_01.row.prog w) kvs) (hLW : @LT.lt Nat _ L WO)
   (i : Nat) (hi16 : i < 16) (hev : IntsAre evs (evensOf n g d0 i)) (hod : IntsAre ods (oddsOf n g d0 i))
   (m : Str → Option Value) (tt t7 t2 t1 : Tok) (v8 : Option Value) (o1 o2 o3 o4 o5 o6 o7 o8 : Obj) (p3 : o3.data = .cell (some (.ref PL))) (p4 : o4.data = .cell (some (.ref WO))) (p5 : o5.data = .cell (some (.ref EV))) (p6 : o6.data = .cell (some (.ref OD))) (p7 : o7.data = .cell (some (.int i t7))) (p8 : o8.data = .cell v8)
   (l12 : @LT.lt Nat _ c1 c2) (l23 : @LT.lt Nat _ c2 c3) (l34 : @LT.lt Nat _ c3 c4) (l45 : @LT.lt Nat _ c4 c5) (l56 : @LT.lt Nat _ c5 c6) (l67 : @LT.lt Nat _ c6 c7) (l78 : @LT.lt Nat _ c7 c8) (lOR : OffCells OR c1 c2 c3 c4 c5 c6 c7 c8) (lWO : OffCells WO c1 c2 c3 c4 c5 c6 c7 c8) (lSH : OffCells SH c1 c2 c3 c4 c5 c6 c7 c8) (lPL : OffCells PL c1 c2 c3 c4 c5 c6 c7 c8) (lEV : OffCells EV c1 c2 c3 c4 c5 c6 c7 c8) (lOD : OffCells OD c1 c2 c3 c4 c5 c6 c7 c8) (lI : OffCells I c1 c2 c3 c4 c5 c6 c7 c8)
   (lEO : @LT.lt Nat _ EV OD) (lRE : @LT.lt Nat _ OR EV) (lWE : @LT.lt Nat _ WO EV) (lPE : @LT.lt Nat _ PL EV) (lSE : @LT.lt Nat _ SH EV) (lIE : @Ne Nat I EV) (lIO : @Ne Nat I OD)
   (off : ∀ (o7 o8 : Obj) (evs ods : List Value) (ce co : Nat), ∀ p ∈ [(OD, PySem.W.listOf ods.toArray co), (EV, PySem.W.listOf evs.toArray ce), (OR, LCg.lst es), (WO, oW), (PL, LCg.lst zs), (SH, LCg.lst ys), (c8, o8), (c7, o7), (c6, o6), (c5, o5), (c4, o4), (c3, o3), (c2, o2), (c1, o1)], p.1 ≠ I)
   (s₉ : Shared) (hs₉ : ∃ h tk, s = { s₉ with heap := h, toks := tk })
   (F : Fr h₀ L s.heap (fun y => if y = Str.ofString "tail" then some (.str (tailOf d0) tt) else if y = Str.ofString "order" then some (.ref OR) else if y = Str.ofString "size" then some (.int (n : Int) t2) else if y = Str.ofString "start" then some (.int d0 t1) else m y))
   (N : News h₀ L s.heap [(I, oI), (OD, PySem.W.listOf ods.toArray co), (EV, PySem.W.listOf evs.toArray ce), (OR, LCg.lst es), (WO, oW), (PL, LCg.lst zs), (SH, LCg.lst ys), (c8, o8), (c7, o7), (c6, o6), (c5, o5), (c4, o4), (c3, o3), (c2, o2), (c1, o1)]) :
   LawGoes w dp un gd fa cd outer L c1 c2 c3 c4 c5 c6 c7 c8 [bodySt 0, bodySt 1, bodySt 2, bodySt 3, bodySt 4, bodySt 5, bodySt 6] (TurnEnd h₀ L I oI (LoopJ n g d0 OD EV OR WO SH PL oW ys zs es c1 c2 c3 c4 c5 c6 c7 c8 o1 o2 o3 o4 o5 o6 tt t2 t1 (i + 1)) s₉ Q) E s := by
  obtain ⟨g9, tk9, rfl⟩ := hs₉
  have hfar := new_far T.nolimit F hLW
  have hql : qs.length ≤ 4 := by
    rw [P.perm.length_eq, List.length_map, List.length_range]
    exact P.four
  have hj4 : (onOf n i).length ≤ 4 := Nat.le_trans (P.len_le i) P.four
  have hn3 : n = 2 ∨ n = 3 ∨ n = 4 := by have := P.two; have := P.four; omega
  have hel := evens_len n g d0 i
  have hol := odds_len n g d0 i
  have hevl : evs.length ≤ 1000 := by rw [hev.length]; omega
  have hodl : ods.length ≤ 1000 := by rw [hod.length]; omega
  refine b0 _ _ _ _ _ _ _ _ _ _ _ _ _ _ _ _ _ _ _ _ _ _ _ _ _ _ B X T (by omega) (by omega) I OD EV OR WO SH PL oI _ _ oW ys zs es f n P.two P.four hz P.rng i (psOf n f qs i) (P.psSort i) (P.psB i) (P.psTop i) (P.psSum i) hi16 _ _ _ t7 t2 o1 o2 o3 o4 o5 o6 o7 o8 p3 p7 F N ?_
  intro h1 tk1 tw F1 N1
  refine b1 _ _ _ _ _ _ _ _ _ _ _ _ _ _ _ _ _ _ _ _ _ _ _ _ _ _ B X T (by omega) (by omega) I OD EV OR WO SH PL oI _ _ oW ys zs es _ (P.short i) _ (.ref OR) tw v8 o1 o2 o3 o4 o5 o6 o7 o8 p8 l12 l23 l34 l45 l56 l67 l78 lOR lWO lSH lPL lEV lOD lI F1 N1 ?_
  intro RW rv h2 tk2 o8' hrv lRW lAll F2 N2 p8'
  rw [P.split i] at hrv
  refine b2 _ _ _ _ _ _ _ _ _ _ _ _ _ _ _ _ _ _ _ _ _ _ _ _ _ _ B X T (by omega) hun RW I OD EV OR WO SH PL oI _ _ oW ys zs es rv (qs.map wordAt) _ hes hrv (by rw [List.length_map]; exact hql) (P.wordsLen i) _ (P.good i) (P.ok i) _ _ tw o1 o2 o3 o4 o5 o6 o7 o8' p8' l12 l23 l34 l45 l56 l67 l78 F2 N2 ?_
  intro h3 tk3 F3 N3
  refine b3 _ _ _ _ _ _ _ _ _ _ _ _ _ _ _ _ _ _ _ _ _ _ _ _ _ _ B X T (by omega) hun RW I OD EV OR WO SH PL oI _ _ oW ys zs es rv _ hrv (P.wordsLen i) _ kvs hW hfar (worthOf kvs) (fun x _ t => worth_get hT x t) _ _ _ _ d0 tw t1 o1 o2 o3 o4 o5 o6 o7 o8' p4 p8' F3 N3 ?_
  intro h4 tk4 tn F4 N4
  rw [P.num i hT d0] at F4
  refine b4 _ _ _ _ _ _ _ _ _ _ _ _ _ _ _ _ _ _ _ _ _ _ _ _ _ _ B X T hdp hun I OD EV OR WO SH PL oI _ _ oW ys zs es _ n ⟨P.short i, hn3⟩ _ _ _ _ tw t2 o1 o2 o3 o4 o5 o6 o7 o8' F4 N4 ?_
  intro h5 tk5 tm F5 N5
  rw [P.marks i] at F5
  refine b5 _ _ _ _ _ _ _ _ _ _ _ _ _ _ _ _ _ _ _ _ _ _ _ _ _ _ B X T (by omega) hun I OD EV OR WO SH PL oI _ _ oW ys zs es _ _ ⟨tail_not d0, hj4⟩ _ _ _ tm tt o1 o2 o3 o4 o5 o6 o7 o8' F5 N5 ?_
  intro h6 tk6 tk7 F6 N6
  refine b6 _ _ _ _ _ _ _ _ _ _ _ _ _ _ _ _ _ _ _ _ _ _ _ _ _ _ B X T hun I OD EV OR WO SH PL oI oW ys zs es evs ods ce co hevl hodl _ _ ⟨tail_not d0, hj4⟩ _ _ _ tm tt tk7 o1 o2 o3 o4 o5 o6 o7 o8' p5 p6 lEO lRE lWE lPE lSE lIE lIO lEV lOD F6 N6 ?_ ?_
  · intro hp h7 tk8 ce' co' F7 N7
    refine wpAny_pure ?_
    exact ⟨_, _, _, _, rfl, F7, N7, off _ _ _ _ _ _, _, _, _, _, _, _, _, _, rfl, p7, p8', by rw [evens_even g d0 hp]; exact ints_snoc hev, by rw [odds_even g d0 hp]; exact hod, rfl, rfl, rfl, rfl⟩
  · intro hp h7 tk8 ce' co' F7 N7
    refine wpAny_pure ?_
    exact ⟨_, _, _, _, rfl, F7, N7, off _ _ _ _ _ _, _, _, _, _, _, _, _, _, rfl, p7, p8', by rw [evens_odd g d0 hp]; exact hev, by rw [odds_odd g d0 hp]; exact ints_snoc hod, rfl, rfl, rfl, rfl⟩
end
end Mine
namespace Mine
open PySem PySem.W PyProof.Rows PySem.Calls
set_option maxRecDepth 100000
theorem fr_four {h₀ h : Heap} {L : Addr} {m : Str → Option Value} {a b c d : Str} {v u x z : Value} (F : Fr h₀ L h m) (e1 : m a = some v) (e2 : m b = some u) (e3 : m c = some x) (e4 : m d = some z) :
    Fr h₀ L h (fun y => if y = a then some v else if y = b then some u else if y = c then some x else if y = d then some z else m y) := by
  have e : (fun y => if y = a then some v else if y = b then some u else if y = c then some x else if y = d then some z else m y) = m := by
    funext y
    by_cases h1 : y = a
    · rw [if_pos h1, h1, e1]
    · rw [if_neg h1]
      by_cases h2 : y = b
      · rw [if_pos h2, h2, e2]
      · rw [if_neg h2]
        by_cases h3 : y = c
        · rw [if_pos h3, h3, e3]
        · rw [if_neg h3]
          by_cases h4 : y = d
          · rw [if_pos h4, h4, e4]
          · rw [if_neg h4]
  rw [e]
  exact F
theorem pow_eq (n : Nat) : (2 : Int) ^ ((n : Int)).toNat = ((2 ^ n : Nat) : Int) := by
  rw [Int.toNat_natCast]
  exact (Int.natCast_pow 2 n).symm
theorem pow_le {n : Nat} (h : n ≤ 4) : 2 ^ n ≤ 16 := Nat.pow_le_pow_right (by decide) h
section
variable (w : World) (s₀ : Shared) (mg mb : Str → Option Value) (dp un : Nat) (gd : Option (List Code)) (fa : Addr) (cd : Value) (outer : List Env) (L c1 c2 c3 c4 c5 c6 c7 c8 : Addr) (A₀ : Around) (base h₀ : Heap) (s : Shared) (Q : Flow → Shared → Prop) (E : Value → Shared → Prop) (rest : List Stmt)
set_option maxHeartbeats 2000000 in
theorem g7 (B : Below A₀ base outer h₀) (X : (hd.heap_39 w.params).In h₀) (T : Top hd.view_39 Lse (ExcName.means s₀.heap) mg mb h₀) (hdp : dp + 2 < recursionLimit) (hun : un + 64 < cLine)
   (hE : PassesOwn (model PySem.Challenge.rw_ty0015_01.row.prog w) (ktrTop dp un gd (Str.ofString "law") lawScope L fa cd (lawCl c1 c2 c3 c4 c5 c6 c7 c8) outer) (envX (Str.ofString "law") lawScope L fa cd (lawCl c1 c2 c3 c4 c5 c6 c7 c8)) E)
   (OD EV OR WO SH PL : Addr) (oW : Obj) (ys zs es : List Value) (n : Nat) (f g : Nat → Int) (qs : List Int) (P : Pick n f qs) (d0 : Int)
   (hz : ∀ k, k < n → ∃ t, zs[k]? = some (.int (f k) t)) (hes : StrsAre es (qs.map wordAt)) (kvs : List (Str × Value)) (hT : TableOf n (fun k => wordAt (f k)) g kvs) (hW : oW.IsDictOf (PySem.strKind PySem.Challenge.rw_ty0015_01.row.prog w) kvs) (hLW : @LT.lt Nat _ L WO)
   (m : Str → Option Value) (tt t2 t1 : Tok) (o1 o2 o3 o4 o5 o6 o7 o8 : Obj) (p3 : o3.data = .cell (some (.ref PL))) (p4 : o4.data = .cell (some (.ref WO))) (p5 : o5.data = .cell (some (.ref EV))) (p6 : o6.data = .cell (some (.ref OD))) (p7 : o7.data = .cell none) (p8 : o8.data = .cell none)
   (l12 : @LT.lt Nat _ c1 c2) (l23 : @LT.lt Nat _ c2 c3) (l34 : @LT.lt Nat _ c3 c4) (l45 : @LT.lt Nat _ c4 c5) (l56 : @LT.lt Nat _ c5 c6) (l67 : @LT.lt Nat _ c6 c7) (l78 : @LT.lt Nat _ c7 c8) (lOR : OffCells OR c1 c2 c3 c4 c5 c6 c7 c8) (lWO : OffCells WO c1 c2 c3 c4 c5 c6 c7 c8) (lSH : OffCells SH c1 c2 c3 c4 c5 c6 c7 c8) (lPL : OffCells PL c1 c2 c3 c4 c5 c6 c7 c8) (lEV : OffCells EV c1 c2 c3 c4 c5 c6 c7 c8) (lOD : OffCells OD c1 c2 c3 c4 c5 c6 c7 c8)
   (lEO : @LT.lt Nat _ EV OD) (lRE : @LT.lt Nat _ OR EV) (lWE : @LT.lt Nat _ WO EV) (lPE : @LT.lt Nat _ PL EV) (lSE : @LT.lt Nat _ SH EV)
   (F : Fr h₀ L s.heap (fun y => if y = Str.ofString "tail" then some (.str (tailOf d0) tt) else if y = Str.ofString "order" then some (.ref OR) else if y = Str.ofString "size" then some (.int (n : Int) t2) else if y = Str.ofString "start" then some (.int d0 t1) else m y))
   (N : News h₀ L s.heap [(OD, PySem.W.listOf #[] 0), (EV, PySem.W.listOf #[] 0), (OR, LCg.lst es), (WO, oW), (PL, LCg.lst zs), (SH, LCg.lst ys), (c8, o8), (c7, o7), (c6, o6), (c5, o5), (c4, o4), (c3, o3), (c2, o2), (c1, o1)])
   (cont : ∀ (m' : Str → Option Value) (nx : List (Addr × Obj)) (h' : Heap) (tk' : Nat), LoopJ n g d0 OD EV OR WO SH PL oW ys zs es c1 c2 c3 c4 c5 c6 c7 c8 o1 o2 o3 o4 o5 o6 tt t2 t1 (2 ^ n) m' nx → Fr h₀ L h' m' → News h₀ L h' nx →
     LawGoes w dp un gd fa cd outer L c1 c2 c3 c4 c5 c6 c7 c8 rest Q E { s with heap := h', toks := tk' }) :
   LawGoes w dp un gd fa cd outer L c1 c2 c3 c4 c5 c6 c7 c8 (lawSt 11 :: rest) Q E s := by
  w_on
  dsimp only [LawGoes] at cont ⊢
  revert X; k_fill; intro X
  have hn2 := P.two
  have hn4 := P.four
  have hn0 : (0 : Int) ≤ (n : Int) := by omega
  have hn4' : (n : Int) ≤ 4 := by omega
  have hsm := range_small (pow_le hn4)
  have hsz := range_size (pow_le hn4)
  conv in (lawSt 11) => whnf
  repeat' (first
    | ((with_reducible show wpAny _ _ (exec (PySem.Stmt.For _ _ _ _ _) _) _ _ _); refine wpAny_For ?_ (by intro _; with_unfolding_all rfl))
    | (k_unfold; (try dsimp only)) | walk1 | (dsimp only; walk1) | fail "no step")
  rename IsRange _ _ _ _ _ _ _ _ => hr
  rw [pow_eq] at hr
  refine for_range (n := 2 ^ n) (LoopJ n g d0 OD EV OR WO SH PL oW ys zs es c1 c2 c3 c4 c5 c6 c7 c8 o1 o2 o3 o4 o5 o6 tt t2 t1) rfl hr hsm hsz (by assumption) (by assumption) (fun _ _ => rfl) hE ?hj ?turn ?done
  case hj => exact ⟨[], [], 0, 0, o7, o8, none, none, rfl, p7, p8, .nil, .nil, rfl, rfl, rfl, rfl⟩
  case done =>
    intro m₁ nx h tk hJ F₁ N₁
    repeat' (first
      | (k_unfold; (try dsimp only)) | walk1 | (dsimp only; walk1) | fail "no step")
    exact cont _ _ _ _ hJ F₁ N₁
  case turn =>
    intro i ti m₁ nx h tk I oI hi hJ F₁ N₁ off
    obtain ⟨evs, ods, ce, co, o7', o8', v7', v8', rfl, z7, z8, hev, hod, z1, z2, z3, z4⟩ := hJ
    have F₂ := fr_four F₁ z1 z2 z3 z4
    clear F₁
    have hni : (0 : Int) + (i : Int) = (i : Int) := Int.zero_add _
    rw [hni]
    have iOD : @Ne Nat I OD := fun e => off (OD, PySem.W.listOf ods.toArray co) (by simp) e.symm
    have iEV : @Ne Nat I EV := fun e => off (EV, PySem.W.listOf evs.toArray ce) (by simp) e.symm
    have iOR : @Ne Nat I OR := fun e => off (OR, LCg.lst es) (by simp) e.symm
    have iWO : @Ne Nat I WO := fun e => off (WO, oW) (by simp) e.symm
    have iPL : @Ne Nat I PL := fun e => off (PL, LCg.lst zs) (by simp) e.symm
    have iSH : @Ne Nat I SH := fun e => off (SH, LCg.lst ys) (by simp) e.symm
    have i8 : @Ne Nat I c8 := fun e => off (c8, o8') (by simp) e.symm
    have i7 : @Ne Nat I c7 := fun e => off (c7, o7') (by simp) e.symm
    have i6 : @Ne Nat I c6 := fun e => off (c6, o6) (by simp) e.symm
    have i5 : @Ne Nat I c5 := fun e => off (c5, o5) (by simp) e.symm
    have i4 : @Ne Nat I c4 := fun e => off (c4, o4) (by simp) e.symm
    have i3 : @Ne Nat I c3 := fun e => off (c3, o3) (by simp) e.symm
    have i2 : @Ne Nat I c2 := fun e => off (c2, o2) (by simp) e.symm
    have i1 : @Ne Nat I c1 := fun e => off (c1, o1) (by simp) e.symm
    have hoff : ∀ (o7 o8 : Obj) (evs ods : List Value) (ce co : Nat), ∀ p ∈ [(OD, PySem.W.listOf ods.toArray co), (EV, PySem.W.listOf evs.toArray ce), (OR, LCg.lst es), (WO, oW), (PL, LCg.lst zs), (SH, LCg.lst ys), (c8, o8), (c7, o7), (c6, o6), (c5, o5), (c4, o4), (c3, o3), (c2, o2), (c1, o1)], p.1 ≠ I := by
      intro o7 o8 evs ods ce co p hp
      simp only [List.mem_cons, List.not_mem_nil, or_false] at hp
      rcases hp with rfl | rfl | rfl | rfl | rfl | rfl | rfl | rfl | rfl | rfl | rfl | rfl | rfl | rfl
      · exact Ne.symm iOD
      · exact Ne.symm iEV
      · exact Ne.symm iOR
      · exact Ne.symm iWO
      · exact Ne.symm iPL
      · exact Ne.symm iSH
      · exact Ne.symm i8
      · exact Ne.symm i7
      · exact Ne.symm i6
      · exact Ne.symm i5
      · exact Ne.symm i4
      · exact Ne.symm i3
      · exact Ne.symm i2
      · exact Ne.symm i1
    clear off
    have hOR := lOR
    have hWO := lWO
    have hSH := lSH
    have hPL := lPL
    have hEV := lEV
    have hOD := lOD
    obtain ⟨d1, d2, d3, d4, d5, d6, d7, d8⟩ := lOD
    obtain ⟨e1, e2, e3, e4, e5, e6, e7, e8⟩ := lEV
    obtain ⟨v1, v2, v3, v4, v5, v6, v7, v8⟩ := lOR
    obtain ⟨u1, u2, u3, u4, u5, u6, u7, u8⟩ := lWO
    obtain ⟨q1, q2, q3, q4, q5, q6, q7, q8⟩ := lSH
    obtain ⟨r1, r2, r3, r4, r5, r6, r7, r8⟩ := lPL
    refine wpAny_assign_Name ?_
    repeat' (first
      | ((with_reducible show wpAny _ _ (execs _ _) _ _ _); refine Hold.out ?_)
      | (k_unfold; (try dsimp only)) | walk1 | (dsimp only; walk1) | fail "no step")
    refine Hold.mk ?_
    refine body w s₀ mg mb dp un gd fa cd outer L c1 c2 c3 c4 c5 c6 c7 c8 A₀ base h₀ _ _ _ B X T hdp hun I OD EV OR WO SH PL oI oW ys zs es evs ods ce co n f g qs P d0 hz hes kvs hT hW hLW i (Nat.lt_of_lt_of_le hi (pow_le hn4)) hev hod m₁ tt ti t2 t1 v8' o1 o2 o3 o4 o5 o6 _ o8' p3 p4 p5 p6 (by assumption) z8 l12 l23 l34 l45 l56 l67 l78 hOR hWO hSH hPL hEV hOD ⟨i1, i2, i3, i4, i5, i6, i7, i8⟩ lEO lRE lWE lPE lSE iEV iOD hoff _ ⟨_, _, rfl⟩ (by assumption) (by assumption)
end
end Mine
namespace Mine
open PySem PySem.W PyProof.Rows PySem.Calls
set_option maxRecDepth 100000
theorem bits_small {x : Int} (h : 0 ≤ x ∧ x < 10 ^ 32) : Builtin.Int.intBits x ≤ 128 := by
  rw [intBits_le_iff]
  have e : (2 : Nat) ^ 128 = 340282366920938463463374607431768211456 := by decide
  rw [e]
  omega
theorem sign_bits (n : Nat) : Builtin.Int.intBits ((-1 : Int) ^ n) ≤ 1 := by
  rw [intBits_le_iff, Int.natAbs_pow]
  simp
theorem due_bits {n : Nat} {g : Nat → Int} (hg : ∀ k, k < n → 0 ≤ g k ∧ g k < 10 ^ 32) : ∀ i : Nat, i ≤ n → i ≤ 16 → Builtin.Int.intBits (dueAt n g i) ≤ 1 + 256 * i
  | 0, _, _ => sign_bits n
  | i + 1, h, h' => by
    have h1 := due_bits hg i (by omega) (by omega)
    have h2 : Builtin.Int.intBits ((i : Int) + 1) ≤ 128 := bits_small (by omega)
    have h3 := bits_small (hg i (by omega))
    have := intBits_mul_le (intBits_mul_le h1 h2) h3
    unfold dueAt
    omega
theorem due_fits {n : Nat} {g : Nat → Int} (hg : ∀ k, k < n → 0 ≤ g k ∧ g k < 10 ^ 32) {i : Nat} (hi : i < n) (h4 : n ≤ 4) : IntMulOk (dueAt n g i * ((i : Int) + 1)) (g i) := by
  have h1 := due_bits hg i (by omega) (by omega)
  have h2 : Builtin.Int.intBits ((i : Int) + 1) ≤ 128 := bits_small (by omega)
  have h3 := bits_small (hg i hi)
  exact mulOk_of_bits (intBits_mul_le h1 h2) h3 (by omega)
/-- what holds ahead of turn i of the due loop -/
def DueJ (n : Nat) (g : Nat → Int) (m₀ : Str → Option Value) (news : List (Addr × Obj)) (i : Nat) (m : Str → Option Value) (nx : List (Addr × Obj)) : Prop :=
  nx = news ∧ (∃ t, m (Str.ofString "due") = some (.int (dueAt n g i) t)) ∧ m (Str.ofString "size") = m₀ (Str.ofString "size")
theorem fr_one {h₀ h : Heap} {L : Addr} {m : Str → Option Value} {a : Str} {v : Value} (F : Fr h₀ L h m) (e1 : m a = some v) :
    Fr h₀ L h (fun y => if y = a then some v else m y) := by
  have e : (fun y => if y = a then some v else m y) = m := by
    funext y
    by_cases h1 : y = a
    · rw [if_pos h1, h1, e1]
    · rw [if_neg h1]
  rw [e]
  exact F
section
variable (w : World) (s₀ : Shared) (mg mb : Str → Option Value) (dp un : Nat) (gd : Option (List Code)) (fa : Addr) (cd : Value) (outer : List Env) (L c1 c2 c3 c4 c5 c6 c7 c8 : Addr) (A₀ : Around) (base h₀ : Heap) (s : Shared) (Q : Flow → Shared → Prop) (E : Value → Shared → Prop) (rest : List Stmt)
set_option maxHeartbeats 2000000 in
theorem g8 (B : Below A₀ base outer h₀) (X : (hd.heap_39 w.params).In h₀) (T : Top hd.view_39 Lse (ExcName.means s₀.heap) mg mb h₀) (hdp : dp + 2 < recursionLimit) (hun : un + 64 < cLine)
   (hE : PassesOwn (model PySem.Challenge.rw_ty0015_01.row.prog w) (ktrTop dp un gd (Str.ofString "law") lawScope L fa cd (lawCl c1 c2 c3 c4 c5 c6 c7 c8) outer) (envX (Str.ofString "law") lawScope L fa cd (lawCl c1 c2 c3 c4 c5 c6 c7 c8)) E)
   (OD EV OR WO SH PL : Addr) (oD oE oR oW oP : Obj) (ys : List Value) (n : Nat) (hn2 : 2 ≤ n) (hn4 : n ≤ 4) (g : Nat → Int) (hg : ∀ k, k < n → 0 ≤ g k ∧ g k < 10 ^ 32)
   (hy : ∀ k, k < n → ∃ t, ys[k]? = some (.int (g k) t))
   (m : Str → Option Value) (t2 : Tok) (o1 o2 o3 o4 o5 o6 o7 o8 : Obj) (p1 : o1.data = .cell (some (.ref SH)))
   (F : Fr h₀ L s.heap (fun y => if y = Str.ofString "size" then some (.int (n : Int) t2) else m y))
   (N : News h₀ L s.heap [(OD, oD), (EV, oE), (OR, oR), (WO, oW), (PL, oP), (SH, LCg.lst ys), (c8, o8), (c7, o7), (c6, o6), (c5, o5), (c4, o4), (c3, o3), (c2, o2), (c1, o1)])
   (cont : ∀ (m' : Str → Option Value) (t9 : Tok) (h' : Heap) (tk' : Nat), m' (Str.ofString "due") = some (.int (dueAt n g n) t9) → m' (Str.ofString "size") = some (.int (n : Int) t2) → Fr h₀ L h' m' →
     News h₀ L h' [(OD, oD), (EV, oE), (OR, oR), (WO, oW), (PL, oP), (SH, LCg.lst ys), (c8, o8), (c7, o7), (c6, o6), (c5, o5), (c4, o4), (c3, o3), (c2, o2), (c1, o1)] →
     LawGoes w dp un gd fa cd outer L c1 c2 c3 c4 c5 c6 c7 c8 rest Q E { s with heap := h', toks := tk' }) :
   LawGoes w dp un gd fa cd outer L c1 c2 c3 c4 c5 c6 c7 c8 (lawSt 12 :: lawSt 13 :: rest) Q E s := by
  w_on
  dsimp only [LawGoes] at cont ⊢
  revert X; k_fill; intro X
  have hn0 : (0 : Int) ≤ (n : Int) := by omega
  have hn4' : (n : Int) ≤ 4 := by omega
  have hsm := range_small (n := n) (by omega)
  have hsz := range_size (n := n) (by omega)
  conv in (lawSt 12) => whnf
  conv in (lawSt 13) => whnf
  repeat' (first
    | ((with_reducible show wpAny _ _ (exec (PySem.Stmt.For _ _ _ _ _) _) _ _ _); refine wpAny_For ?_ (by intro _; with_unfolding_all rfl))
    | (k_unfold; (try dsimp only)) | walk1 | (dsimp only; walk1) | fail "no step")
  rename IsRange _ _ _ _ _ _ _ _ => hr
  refine for_range (n := n) (DueJ n g (fun y => if y = Str.ofString "size" then some (.int (n : Int) t2) else m y) [(OD, oD), (EV, oE), (OR, oR), (WO, oW), (PL, oP), (SH, LCg.lst ys), (c8, o8), (c7, o7), (c6, o6), (c5, o5), (c4, o4), (c3, o3), (c2, o2), (c1, o1)]) rfl hr hsm hsz (by assumption) (by assumption) (fun _ _ => rfl) hE ?hj ?turn ?done
  case hj => exact ⟨rfl, ⟨_, rfl⟩, rfl⟩
  case done =>
    intro m₁ nx h tk hJ F₁ N₁
    obtain ⟨rfl, ⟨t9, e1⟩, e2⟩ := hJ
    repeat' (first
      | (k_unfold; (try dsimp only)) | walk1 | (dsimp only; walk1) | fail "no step")
    exact cont _ _ _ _ e1 e2 F₁ N₁
  case turn =>
    intro i ti m₁ nx h tk I oI hi hJ F₁ N₁ off
    obtain ⟨rfl, ⟨t9, e1⟩, e2⟩ := hJ
    have F₂ := fr_one F₁ e1
    clear F₁
    have hni : (0 : Int) + (i : Int) = (i : Int) := Int.zero_add _
    rw [hni]
    have hi0 : (0 : Int) ≤ (i : Int) := by omega
    have hi4 : (i : Int) < 4 := by omega
    obtain ⟨t8, h8⟩ := hy i hi
    have hfit := due_fits hg hi hn4
    refine wpAny_assign_Name ?_
    repeat' (first
      | ((with_reducible show wpAny _ _ (subscriptTail _ _ (Value.ref _) (Value.int _ _)) _ _ _); refine item_at (News.isList (by k_asm) (by k_mem)) (Int.natCast_nonneg i) (by omega) h8 ?_)
      | (k_unfold; (try dsimp only)) | walk1 | (dsimp only; walk1) | fail "no step")
    rename Fr _ _ _ _ => F9
    exact turn_next F9 (by k_asm) off ⟨rfl, ⟨_, rfl⟩, e2⟩
end
end Mine
namespace Mine
open PySem PySem.W PyProof.Rows PySem.Calls
set_option maxRecDepth 100000
theorem off1_of {d : Addr} : ∀ {l : List (Addr × Obj)}, (∀ p ∈ l, @Ne Nat p.1 d) → LCg.Off1 d l
  | [], _ => True.intro
  | _ :: _, h => ⟨h _ (.head _), off1_of fun q hq => h q (.tail _ hq)⟩
abbrev rgI (x left : Int) : Obj := { cls := .type "range_iterator", dict := none, data := .fields #[rawInt x, rawInt left, rawInt 1], slots := #[] }
theorem new_env_cell {M : Model} {A : Around} {E : Value → Shared → Prop} {s : Shared} {scope : Scope} {globals : Addr} {cl : List (Str × Addr)} {x : Str} {qual : Str} {env : Env} {Q : Env → Shared → Prop}
    (hcells : ∀ k acc, cellsFrom k scope.names acc = (x, k) :: acc) (hpush : ∀ h : Heap, pushCells h scope.names = h.push { cls := .type "cell", data := .cell none })
    (hQ : Q { scope, locals := s.heap.objs.size, globals, cells := (x, s.heap.objs.size + 1) :: cl, qual, func := none, code := env.code, frame := env.frame, builtins := env.builtins }
      { s with heap := (s.heap.push { cls := .type "dict", data := .dict #[] }).push { cls := .type "cell", data := .cell none } }) :
    wpAny M A (newFunctionEnv scope globals cl [] qual none .none (some env)) Q E s := by
  simp only [newFunctionEnv, Option.isSome_some, if_true]
  refine wpAny_bind (wpAny_alloc ?_)
  refine wpAny_bind (wpAny_layCells _ (fun name kind cells => by cases hkc : kind == NameKind.cell <;> simp [hkc]) _ _ _ _ ?_)
  rw [hcells, hpush]
  refine wpAny_bind ?_
  rw [List.forIn_nil]
  refine wpAny_pure (wpAny_pure ?_)
  rw [show ({ s with heap := s.heap.push { cls := .type "dict", data := .dict #[] } } : Shared).heap.objs.size = s.heap.objs.size + 1 from Heap.size_push ..]
  exact hQ
section
variable {prog : Program} {w : World} {A : Around} {E : Value → Shared → Prop} {s : Shared} {h₀ : Heap} {L : Addr} {m : Str → Option Value} {env : Env}
theorem block_cell {elt iter : Expr} {x : Str} {px : Pos} {scope : Scope} {cl : List (Str × Addr)} {pos : Pos} {s₂ : Shared} {I : Addr} {n : Nat} {R : Nat → Value → Prop} {news : List (Addr × Obj)} {RR : Value → Addr → Result → Shared → Prop}
    (hh : A.handled = none) (hsz : n ≤ sizeLine)
    (hcells : ∀ k acc, cellsFrom k scope.names acc = (x, k) :: acc) (hpush : ∀ h : Heap, pushCells h scope.names = h.push { cls := .type "cell", data := .cell none }) (hkind : scope.kind = .function)
    (hxk : ∀ C K, (compEnvC scope ((x, K) :: cl) C env).kindOf x = some .cell)
    (hst : IsRangeIter s₂.heap I 0 (n : Int) 1) (F : Fr h₀ L s₂.heap m) (N : News h₀ L s₂.heap news) (nIL : @Ne Nat L I) (hI₀ : h₀.get? I = none) (off : ∀ p ∈ news, p.1 ≠ I)
    (elem : ∀ (i : Nat) (t : Tok) (oI : Obj) (C : Addr) (oC : Obj) (K : Addr) (oK : Obj) (D : Addr) (ys : List Value) (h : Heap) (tk : Nat) (E' : Value → Shared → Prop), i < n → oK.data = .cell (some (.int (i : Int) t)) → Fr h₀ L h m →
      News h₀ L h ((I, oI) :: (K, oK) :: (C, oC) :: (D, LCg.lst ys) :: news) → LCg.Off3 I C D news → LCg.Off1 K news → (@Ne Nat I C ∧ @Ne Nat I D ∧ @LT.lt Nat _ D C ∧ @LT.lt Nat _ C K ∧ @LT.lt Nat _ I D) →
      wpAny (model prog w) A (eval elt (compEnvC scope ((x, K) :: cl) C env)) (LeafEnd h₀ L m { s₂ with heap := h, toks := tk } ((I, oI) :: (K, oK) :: (C, oC) :: (D, LCg.lst ys) :: news) (R i)) E' { s₂ with heap := h, toks := tk })
    (hRR : ∀ (D C : Addr) (h : Heap) (tk : Nat) (m' : Str → Option Value) (ys : List Value), Fr h₀ L h m → News h₀ L h ((D, LCg.lst ys) :: news) → LCg.Off1 D news → h.Ns C m' → h₀.get? C = none → h₀.get? D = none → @Ne Nat C L → @Ne Nat D L → @Ne Nat C D → (∀ p ∈ news, p.1 ≠ C) → Paired R (List.range n) ys → RR (.ref D) C (.ok .next) { s₂ with heap := h, toks := tk }) :
    wpAny (model prog w) A (newList []) (fun acc s₃ => wpAny (model prog w) A (newFunctionEnv scope env.globals cl [] env.qual none .none (some env)) (fun cenv s₄ =>
      codeAny (model prog w) A (.compStart (.ListComp elt [⟨.Name x px, iter, [], 0⟩] scope pos) 0 (.ref I) acc { cenv with scope := relabel scope env }) (RR acc cenv.locals) s₄) E s₃) E s₂ := by
  have hIlt : @LT.lt Nat _ I s₂.heap.objs.size := Heap.lt_size (show s₂.heap.get? I = some _ from hst)
  have hLlt : @LT.lt Nat _ L s₂.heap.objs.size := F.ns.lt
  refine wpAny_newObj_type (new_env_cell hcells hpush ?_)
  dsimp only
  generalize hH2 : s₂.heap.push { cls := .type "list", dict := none, data := .seq ([] : List Value).toArray } = H2
  have hC : H2.objs.size = s₂.heap.objs.size + 1 := by rw [← hH2, Heap.size_push]
  rw [hC]
  generalize hH3 : H2.push { cls := .type "dict", data := .dict #[] } = H3
  have hC3 : H3.objs.size = s₂.heap.objs.size + 2 := by rw [← hH3, Heap.size_push, hC]
  generalize hH4 : H3.push { cls := .type "cell", data := .cell none } = H4
  have upA : ∀ b o, s₂.heap.get? b = some o → H4.get? b = some o := fun b o e => by
    rw [← hH4]
    refine Heap.get?_push_of_some _ ?_
    rw [← hH3]
    refine Heap.get?_push_of_some _ ?_
    rw [← hH2]
    exact Heap.get?_push_of_some _ e
  have fresh : ∀ a, s₂.heap.objs.size ≤ a → s₂.heap.get? a = none := fun a ha => by
    cases e : s₂.heap.get? a with
    | none => rfl
    | some o' => exact absurd (Heap.lt_size e) (Nat.not_lt.mpr ha)
  have fresh₀ : ∀ a, s₂.heap.objs.size ≤ a → h₀.get? a = none := fun a ha => by
    cases e : h₀.get? a with
    | none => rfl
    | some o' => have := F.keep a o' e; rw [fresh a ha] at this; cases this
  have hDat : H4.get? s₂.heap.objs.size = some (LCg.lst []) := by
    rw [← hH4]
    refine Heap.get?_push_of_some _ ?_
    rw [← hH3]
    refine Heap.get?_push_of_some _ ?_
    rw [← hH2]
    exact Heap.get?_push_size _ rfl
  have hCat : H4.Ns (s₂.heap.objs.size + 1) (fun _ => none) := by
    have := (Heap.Ns.new H2 (.type "dict"))
    rw [hC, hH3] at this
    refine this.keeps fun b o e => ?_
    rw [← hH4]
    exact Heap.get?_push_of_some _ e
  have hKat : H4.IsCell (s₂.heap.objs.size + 1 + 1) none := by
    refine ⟨{ cls := .type "cell", data := .cell none }, ?_, rfl⟩
    rw [← hH4]
    have e : s₂.heap.objs.size + 1 + 1 = H3.objs.size := hC3.symm
    rw [e]
    exact Heap.get?_push_size _ rfl
  have hD₀ := fresh₀ s₂.heap.objs.size (Nat.le_refl _)
  have hC₀ := fresh₀ (s₂.heap.objs.size + 1) (Nat.le_succ _)
  have hK₀ := fresh₀ (s₂.heap.objs.size + 1 + 1) (by exact Nat.le_add_right _ 2)
  have hnewsLt : ∀ p ∈ news, @LT.lt Nat _ p.1 s₂.heap.objs.size := fun p hp => Heap.lt_size (N p hp).1
  have hstA : IsRangeIter H4 I 0 (n : Int) 1 := upA _ _ (show s₂.heap.get? I = some _ from hst)
  have FA := F.keeps upA
  have NA := N.grown upA
  generalize hDd : s₂.heap.objs.size = D at *
  generalize hCd : D + 1 = C at *
  generalize hKd : C + 1 = K at *
  have dDC : @LT.lt Nat _ D C := by rw [← hCd]; exact Nat.lt_succ_self _
  have dCK : @LT.lt Nat _ C K := by rw [← hKd]; exact Nat.lt_succ_self _
  have dDK : @LT.lt Nat _ D K := Nat.lt_trans dDC dCK
  have nIC : @Ne Nat I C := Nat.ne_of_lt (Nat.lt_trans hIlt dDC)
  have nIK : @Ne Nat I K := Nat.ne_of_lt (Nat.lt_trans hIlt dDK)
  have nID : @Ne Nat I D := Nat.ne_of_lt hIlt
  have nDC : @Ne Nat D C := Nat.ne_of_lt dDC
  have nDK : @Ne Nat D K := Nat.ne_of_lt dDK
  have nCK : @Ne Nat C K := Nat.ne_of_lt dCK
  have nLC : @Ne Nat L C := Nat.ne_of_lt (Nat.lt_trans hLlt dDC)
  have nLK : @Ne Nat L K := Nat.ne_of_lt (Nat.lt_trans hLlt dDK)
  have nLD : @Ne Nat L D := Nat.ne_of_lt hLlt
  have W := LCg.range_walks (prog := prog) (w := w) (I := I) hh 0 n
  have off3 : LCg.Off3 I C D news := LCg.Off3.of fun p hp => ⟨off p hp, Nat.ne_of_lt (Nat.lt_trans (hnewsLt p hp) dDC), Nat.ne_of_lt (hnewsLt p hp)⟩
  have off1 : LCg.Off1 K news := off1_of fun p hp => Nat.ne_of_lt (Nat.lt_trans (hnewsLt p hp) dDK)
  have offC : ∀ p ∈ news, p.1 ≠ C := fun p hp => (off3.mem p hp).2.1
  have loop : codeAny (model prog w) A (.compLoop (.ListComp elt [⟨.Name x px, iter, [], 0⟩] scope pos) 0 (.ref I) (.ref D) (compEnvC scope ((x, K) :: cl) C env)) (RR (.ref D) C) { s₂ with heap := H4 } := by
    refine codeAny_compLoop_tests
      (fun k s' => ∃ h' tk i ys m' v0, s' = { s₂ with heap := h', toks := tk } ∧ i ≤ n ∧ k = n + 1 - i ∧ Paired R (List.range i) ys ∧ IsRangeIter h' I (0 + (i : Nat) * 1) ((n : Int) - (i : Nat)) 1 ∧ Fr h₀ L h' m ∧ h'.Ns C m' ∧ h'.IsCell K v0 ∧ News h₀ L h' ((D, LCg.lst ys) :: news)) ?_ (n + 1)
      ⟨H4, s₂.toks, 0, [], _, none, rfl, Nat.zero_le _, rfl, .nil, by simpa using hstA, FA, hCat, hKat, fun p hp => ?_⟩
    · rintro k s' ⟨h', tk, i, ys, m', v0, rfl, hi, rfl, hys, hst', F', hn', hc', N'⟩
      by_cases hlt : i < n
      · refine W.item i _ _ _ hlt hst' fun v h₂ tk₂ hPv hst₂ hk₂ => ?_
        obtain ⟨t, rfl⟩ := hPv
        have e0 : (0 : Int) + (i : Int) = (i : Int) := Int.zero_add _
        rw [e0]
        obtain ⟨oK0, heK0, hdK0⟩ := hc'
        have hc₂ : h₂.IsCell K v0 := ⟨oK0, hk₂ _ _ (by simpa using Ne.symm nIK) heK0, hdK0⟩
        refine wpAny_assign_Name (wpAny_storeName_cell (c := K) (v₀ := v0) (by simp [compEnvC, relabel, hkind]) (hxk C K) (by simp [compEnvC]) hc₂ fun h₃ hc₃ hs₃ => ?_)
        refine wpAny_tests_nil ?_
        simp only [if_true]
        obtain ⟨oK, heK, hdK⟩ := hc₃
        have F₃ : Fr h₀ L h₃ m := (LCg.fr_but F' hk₂ nIL hI₀).change hs₃ (Ne.symm nLK) hK₀
        have hn₃ : h₃.Ns C m' := (hn'.at' fun o e => hk₂ _ o (by simpa using Ne.symm nIC) e).sameBut hs₃ nCK
        obtain ⟨oC, heC, hoC⟩ := LCg.ns_obj hn₃
        have N₂ : News h₀ L h₂ ((D, LCg.lst ys) :: news) := LCg.news_but N' hk₂ fun p hp => by
          rcases List.mem_cons.mp hp with rfl | hp
          · exact Ne.symm nID
          · exact off p hp
        have hst₃ : IsRangeIter h₃ I (0 + ((i + 1 : Nat) : Int) * 1) ((n : Int) - ((i + 1 : Nat) : Int)) 1 := hs₃.extBut _ _ nIK hst₂
        have N₃ : News h₀ L h₃ ((I, rgI (0 + ((i + 1 : Nat) : Int) * 1) ((n : Int) - ((i + 1 : Nat) : Int))) :: (K, oK) :: (C, oC) :: (D, LCg.lst ys) :: news) := fun p hp => by
          rcases List.mem_cons.mp hp with rfl | hp
          · exact ⟨hst₃, Ne.symm nIL, hI₀⟩
          rcases List.mem_cons.mp hp with rfl | hp
          · exact ⟨heK, Ne.symm nLK, hK₀⟩
          rcases List.mem_cons.mp hp with rfl | hp
          · exact ⟨heC, Ne.symm nLC, hC₀⟩
          · have z := N₂ p hp
            refine ⟨hs₃.extBut _ _ ?_ z.1, z.2⟩
            rcases List.mem_cons.mp hp with rfl | hp
            · exact nDK
            · exact Nat.ne_of_lt (Nat.lt_trans (hnewsLt p hp) dDK)
        refine wpAny_mono (elem i t _ C oC K oK D ys h₃ tk₂ _ hlt hdK F₃ N₃ off3 off1 ⟨nIC, nID, dDC, dCK, hIlt⟩) (fun y s₄ h₄ => ?_) fun _ _ e => e
        obtain ⟨h₄, tk₄, rfl, F₄, N₄, r₄⟩ := h₄
        have zI := (N₄ (I, _) List.mem_cons_self).1
        have zK := (N₄ (K, oK) (List.mem_cons_of_mem _ List.mem_cons_self)).1
        have zC := (N₄ (C, oC) (List.mem_cons_of_mem _ (List.mem_cons_of_mem _ List.mem_cons_self))).1
        have zD := (N₄ (D, LCg.lst ys) (List.mem_cons_of_mem _ (List.mem_cons_of_mem _ (List.mem_cons_of_mem _ List.mem_cons_self)))).1
        have N₄' : News h₀ L h₄ news := fun p hp => N₄ p (List.mem_cons_of_mem _ (List.mem_cons_of_mem _ (List.mem_cons_of_mem _ (List.mem_cons_of_mem _ hp))))
        have hyl : ys.length = i := by
          have := hys.length
          rw [List.length_range] at this
          exact this.symm
        refine append_at (hsz := by show ys.toArray.size ≤ sizeLine; rw [List.size_toArray, hyl]; exact Nat.le_trans hi hsz) zD fun h₅ hs₅ hD₅ => ?_
        refine ⟨n + 1 - (i + 1), by omega, h₅, tk₄, i + 1, ys ++ [y], m', some (.int (i : Int) t), rfl, hlt, rfl, ?_, hs₅.extBut _ _ nID zI, F₄.change hs₅ (Ne.symm nLD) hD₀, (hoC.ns zC).sameBut hs₅ (Ne.symm nDC), ⟨oK, hs₅.extBut _ _ (Ne.symm nDK) zK, hdK⟩, fun p hp => ?_⟩
        · rw [List.range_succ]
          exact Paired.snoc hys r₄
        · rcases List.mem_cons.mp hp with rfl | hp
          · exact ⟨hD₅.trans (congrArg some (LCg.lst_snoc ys y)), Ne.symm nLD, hD₀⟩
          · exact ⟨hs₅.extBut _ _ (Nat.ne_of_lt (hnewsLt p hp)) (N₄' p hp).1, (N₄' p hp).2⟩
      · obtain rfl : i = n := Nat.le_antisymm hi (Nat.not_lt.mp hlt)
        refine W.done _ _ _ hst' fun h₂ tk₂ hk₂ => ?_
        exact hRR D C h₂ tk₂ m' ys (LCg.fr_but F' hk₂ nIL hI₀) (LCg.news_but N' hk₂ fun p hp => by
          rcases List.mem_cons.mp hp with rfl | hp
          · exact Ne.symm nID
          · exact off p hp) off3.one (hn'.at' fun o e => hk₂ _ o (by simpa using Ne.symm nIC) e) hC₀ hD₀ (Ne.symm nLC) (Ne.symm nLD) (Ne.symm nDC) offC hys
    · rcases List.mem_cons.mp hp with rfl | hp
      · exact ⟨hDat, Ne.symm nLD, hD₀⟩
      · exact NA p hp
  exact codeAny_compStart_list loop (W.self 0 _ _ _ (by simpa using hstA) loop)
theorem Assign_ListComp_cell {elt iter : Expr} {x y : Str} {px py : Pos} {scope : Scope} {cl : List (Str × Addr)} {pos spos : Pos} {Q : Flow → Shared → Prop} (n : Nat) (R : Nat → Value → Prop) (hLe : env.locals = L)
    (hsw : swapsWith (.ListComp elt [⟨.Name x px, iter, [], 0⟩] scope pos) (some (.Name y py)) spos.line env = pure true)
    (hclos : closureFor scope env = pure cl) (hcells : ∀ k acc, cellsFrom k scope.names acc = (x, k) :: acc) (hpush : ∀ h : Heap, pushCells h scope.names = h.push { cls := .type "cell", data := .cell none }) (hkind : scope.kind = .function)
    (hnames : ∀ z ∈ scope.names, z.2 = .local → scope.names.lookup z.1 = some .local) (hxk : ∀ C K, (compEnvC scope ((x, K) :: cl) C env).kindOf x = some .cell)
    (hy : env.kindOf y = some .local) (hp : (env.scope.kind == .class || (env.scope.kind == .module && env.locals != env.globals)) = false)
    (h : wpAny (model prog w) A (eval iter env) (fun xv s₁ => ∃ (r : Addr) (t u v : Tok) (news : List (Addr × Obj)), xv = .ref r ∧ A.handled = none ∧ Fr h₀ L s₁.heap m ∧ News h₀ L s₁.heap news ∧ IsRange s₁.heap r 0 n 1 t u v ∧ Builtin.Range.small 0 n 1 = true ∧ Builtin.Range.rangeSize 0 n 1 = ((n : Nat) : Int) ∧ n ≤ sizeLine ∧
      (∀ (i : Nat) (t : Tok) (I : Addr) (oI : Obj) (C : Addr) (oC : Obj) (K : Addr) (oK : Obj) (D : Addr) (ys : List Value) (h : Heap) (tk : Nat) (E' : Value → Shared → Prop), i < n → oK.data = .cell (some (.int (i : Int) t)) → Fr h₀ L h m →
        News h₀ L h ((I, oI) :: (K, oK) :: (C, oC) :: (D, LCg.lst ys) :: news) → LCg.Off3 I C D news → LCg.Off1 K news → (@Ne Nat I C ∧ @Ne Nat I D ∧ @LT.lt Nat _ D C ∧ @LT.lt Nat _ C K ∧ @LT.lt Nat _ I D) →
        wpAny (model prog w) A (eval elt (compEnvC scope ((x, K) :: cl) C env)) (LeafEnd h₀ L m { s₁ with heap := h, toks := tk } ((I, oI) :: (K, oK) :: (C, oC) :: (D, LCg.lst ys) :: news) (R i)) E' { s₁ with heap := h, toks := tk }) ∧
      (∀ (D : Addr) (h : Heap) (tk : Nat) (ys : List Value), Fr h₀ L h (fun z => if z = y then some (.ref D) else m z) → News h₀ L h ((D, LCg.lst ys) :: news) → LCg.Off1 D news → Paired R (List.range n) ys → Q .next { s₁ with heap := h, toks := tk })) E s)
    (hs : ∀ x, foldedSetIterable iter env x = pure x := by intro _; rfl) :
    wpAny (model prog w) A (exec (.Assign [.Name y py] (.ListComp elt [⟨.Name x px, iter, [], 0⟩] scope pos) spos) env) Q E s := by
  subst hLe
  rw [exec_Assign_Name_used _ _ _ _ hsw]
  refine wpAny_bind (wpAny_standAt (wpAny_bind ?_))
  show wpAny _ A (do let _ ← comprehension (.ListComp elt [⟨.Name x px, iter, [], 0⟩] scope pos) scope env _ (newList []) false (eval iter env) (some (assign (.Name y py) env))) _ _ s
  refine wpAny_bind (wpAny_mono (wpAny_comprehension_free (use := some (assign (.Name y py) env)) (Q := fun _ s' => Q .next s') rfl hs hclos hkind hnames
    (wpAny_mono h (fun xv s₁ h₁ => ?_) fun _ _ e => e)) (fun _ s' hq => wpAny_pure (wpAny_pure hq)) fun _ _ e => e)
  obtain ⟨r, t, u, v, news, rfl, hh, F, N, hr, hsm, hn, hsz, elem, fin⟩ := h₁
  refine wpAny_pyIter_range hr hsm ?_
  have up : ∀ b o, s₁.heap.get? b = some o → (s₁.heap.push { cls := .type "range_iterator", data := .fields #[rawInt 0, rawInt (Builtin.Range.rangeSize 0 n 1), rawInt 1] }).get? b = some o := fun b o e => Heap.get?_push_of_some _ e
  refine block_cell (R := R) (I := s₁.heap.objs.size) hh hsz hcells hpush hkind hxk (by show IsRangeIter _ _ _ _ _; rw [hn]; simpa using Heap.get?_push_size _ rfl) (F.keeps up) (N.grown up) (Nat.ne_of_lt F.ns.lt) (next_is_new F) (fun p hp => Nat.ne_of_lt (Heap.lt_size (N p hp).1)) ?_ ?_
  · intro i t oI C oC K oK D ys h tk E' hi hK F' N' off3 off1 ne
    exact elem i t _ oI C oC K oK D ys h tk E' hi hK F' N' off3 off1 ne
  · intro D C h tk m' ys F' N' o1 hnC hC₀ hD₀ hCL hDL hCD offC hys
    show wpAny _ A (assign (.Name y py) env (.ref D)) _ _ _
    refine wpAny_assign_Name (wpAny_storeName_local hy F'.ns (fun h₂ hn₂ hs₂ => ?_) hp)
    have hL₀ : h₀.get? env.locals = none := Heap.get?_none_of_le F'.above
    have F₂ : Fr h₀ env.locals h₂ (fun z => if z = y then some (.ref D) else m z) := ⟨hn₂, fun b o e => hs₂.extBut b o (fun q => by rw [q, hL₀] at e; cases e) (F'.keep b o e), F'.above⟩
    refine ⟨m', hnC.sameBut hs₂ hCL, fun h'' hs'' => fin D h'' _ ys (F₂.change hs'' hCL hC₀) (fun p hp => ?_) o1 hys⟩
    have z : h₂.get? p.1 = some p.2 := hs₂.extBut _ _ (N' p hp).2.1 (N' p hp).1
    refine ⟨hs''.extBut _ _ ?_ z, (N' p hp).2⟩
    rcases List.mem_cons.mp hp with rfl | hp
    · exact Ne.symm hCD
    · exact offC p hp
end
end Mine
namespace Mine
open PySem PySem.W PyProof.Rows PySem.Calls
set_option maxRecDepth 100000
theorem bits_pow {x : Int} (h : 0 ≤ x ∧ x < 10 ^ 32) {i : Nat} (hi : i ≤ 16) : (Builtin.Int.intBits x : Int) * (i : Int) ≤ 2 ^ 27 := by
  have h1 := bits_small h
  have h2 : Builtin.Int.intBits x * i ≤ 128 * 16 := Nat.mul_le_mul h1 hi
  have h3 : (Builtin.Int.intBits x : Int) * (i : Int) = ((Builtin.Int.intBits x * i : Nat) : Int) := (Int.natCast_mul _ _).symm
  rw [h3]
  omega
section
variable (w : World) (s₀ : Shared) (mg mb : Str → Option Value) (dp un : Nat) (gd : Option (List Code)) (fa : Addr) (cd : Value) (outer : List Env) (L c1 c2 c3 c4 c5 c6 c7 c8 : Addr) (A₀ : Around) (base h₀ : Heap) (s : Shared) (Q : Flow → Shared → Prop) (E : Value → Shared → Prop) (rest : List Stmt)
set_option maxHeartbeats 600000 in
theorem g9 (B : Below A₀ base outer h₀) (X : (hd.heap_39 w.params).In h₀) (T : Top hd.view_39 Lse (ExcName.means s₀.heap) mg mb h₀) (hdp : dp + 2 < recursionLimit) (hun : un + 64 < cLine)
   (OD EV OR WO SH PL : Addr) (oR oW oP oS : Obj) (evs ods : List Value) (ce co : Nat) (es os : List Int) (hev : IntsAre evs es) (hod : IntsAre ods os) (hel : es.length ≤ 16) (hol : os.length ≤ 16) (hes : ∀ x ∈ es, 0 ≤ x ∧ x < 10 ^ 32) (hos : ∀ x ∈ os, 0 ≤ x ∧ x < 10 ^ 32)
   (n : Nat) (hn2 : 2 ≤ n) (hn4 : n ≤ 4)
   (m : Str → Option Value) (t2 : Tok) (vD : Value) (o1 o2 o3 o4 o5 o6 o7 o8 : Obj) (p5 : o5.data = .cell (some (.ref EV))) (p6 : o6.data = .cell (some (.ref OD)))
   (F : Fr h₀ L s.heap (fun y => if y = Str.ofString "due" then some vD else if y = Str.ofString "size" then some (.int (n : Int) t2) else m y))
   (N : News h₀ L s.heap [(OD, PySem.W.listOf ods.toArray co), (EV, PySem.W.listOf evs.toArray ce), (OR, oR), (WO, oW), (PL, oP), (SH, oS), (c8, o8), (c7, o7), (c6, o6), (c5, o5), (c4, o4), (c3, o3), (c2, o2), (c1, o1)])
   (cont : ∀ (MO : Addr) (ms : List Value) (h' : Heap) (tk' : Nat), IntsAre ms ((List.range (n + 1)).map fun p => powSum p es - powSum p os) →
     Fr h₀ L h' (fun y => if y = Str.ofString "more" then some (.ref MO) else if y = Str.ofString "due" then some vD else if y = Str.ofString "size" then some (.int (n : Int) t2) else m y) →
     News h₀ L h' [(MO, LCg.lst ms)] →
     LawGoes w dp un gd fa cd outer L c1 c2 c3 c4 c5 c6 c7 c8 rest Q E { s with heap := h', toks := tk' }) :
   LawGoes w dp un gd fa cd outer L c1 c2 c3 c4 c5 c6 c7 c8 (lawSt 14 :: rest) Q E s := by
  w_on
  dsimp only [LawGoes] at cont ⊢
  revert X; k_fill; intro X
  have hn0 : (0 : Int) ≤ (n : Int) := by omega
  have hn4' : (n : Int) ≤ 4 := by omega
  have hsm := range_small (n := n + 1) (by omega)
  have hsz := range_size (n := n + 1) (by omega)
  have hnn : (((n + 1 : Nat)) : Int) = (n : Int) + 1 := by omega
  conv in (lawSt 14) => whnf
  repeat' (first
    | ((with_reducible show wpAny _ _ (eval (PySem.Expr.ListComp _ _ _ _) _) _ _ _); k_dflt (refine LCg.ListComp_U (F₀ := by k_asm) (by with_unfolding_all rfl) (by decide) (by rfl) (by decide) (by rfl) ?_))
    | ((with_reducible show wpAny _ _ (exec (PySem.Stmt.Assign _ (PySem.Expr.ListComp _ _ _ _) _) _) _ _ _); refine Assign_ListComp_cell (h₀ := h₀) (L := L) (m := fun y => if y = Str.ofString "due" then some vD else if y = Str.ofString "size" then some (.int (n : Int) t2) else m y) (n + 1) (fun p y => ∃ t, y = .int (powSum p es - powSum p os) t) rfl (by with_unfolding_all rfl) (by with_unfolding_all rfl) (fun _ _ => rfl) (fun _ => rfl) rfl (by decide) (fun _ _ => rfl) rfl rfl ?_)
    | ((with_reducible show ∃ _, _); refine Hold.out ?_)
    | (k_unfold; (try dsimp only)) | walk1 | (dsimp only; walk1) | fail "no step")
  refine Hold.mk ?_
  refine ⟨_, _, _, _, [(OD, PySem.W.listOf ods.toArray co), (EV, PySem.W.listOf evs.toArray ce), (OR, oR), (WO, oW), (PL, oP), (SH, oS), (c8, o8), (c7, o7), (c6, o6), (c5, o5), (c4, o4), (c3, o3), (c2, o2), (c1, o1)], rfl, (by first | exact True.intro | rfl), by k_asm, by k_asm, by rw [hnn]; k_asm, hsm, hsz, le_line (by omega), Hold.out ?_, Hold.out ?_⟩
  · refine Hold.mk ?_
    intro i t I oI C oC K oK D ys h tk E' hi hK F' N' off3 off1 ne
    simp only [LCg.Off3, LCg.Off1, and_true] at off3 off1
    have hi0 : (0 : Int) ≤ (i : Int) := by omega
    have hi16 : i ≤ 16 := by omega
    rename IntsAre ods os => hod
    rename IntsAre evs es => hev
    have hevl := hev.length
    have hodl := hod.length
    repeat' (first
      | ((with_reducible show wpAny _ _ (eval (PySem.Expr.ListComp _ _ _ _) _) _ _ _); k_dflt (refine LCg.ListComp_U (F₀ := by k_asm) (by with_unfolding_all rfl) (by decide) (by rfl) (by decide) (by rfl) ?_))
      | ((with_reducible show LCg.CompSrc _ _ _ _ _ _ _ _ _ _ _ _ (Value.ref EV) _); refine LCg.CompSrc.ledger (by rfl) (by k_asm) (by k_asm) (by k_mem) (by rw [List.size_toArray]; exact le_line (by omega)) (fun g => rest_rel (fun k y => ∃ t, y = .int (es.getD k 0 ^ i) t) (by exact Or.inr ⟨_, by k_mem, rfl, _, rfl⟩) (Hold.out ?_) (Hold.out ?_)))
      | (k_unfold; (try dsimp only)) | walk1 | (dsimp only; walk1) | fail "no step")
    · refine Hold.mk ?_
      intro k v I' oI' C' oC' D' m₂ zs' h' tk' E'' hin hP hC hx F'' N'' off' ne'
      obtain ⟨hiq, t9, hv9⟩ := ints_at hev k v (by simpa using hP)
      subst hv9
      have hmem : es.getD k 0 ∈ es := by simp [List.getD, hiq]
      have hbits := bits_pow (hes _ hmem) hi16
      simp only [LCg.Off3, and_true] at off'
      repeat' (first
        | ((with_reducible show wpAny _ _ (eval (PySem.Expr.ListComp _ _ _ _) _) _ _ _); k_dflt (refine LCg.ListComp_U (F₀ := by k_asm) (by with_unfolding_all rfl) (by decide) (by rfl) (by decide) (by rfl) ?_))
        | ((with_reducible show LeafEnd _ _ _ _ _ _ _ _); exact ⟨_, _, rfl, by k_asm, by k_asm, _, rfl⟩)
        | ((with_reducible show wpAny _ _ (binaryOp PySem.Operator.Pow _ _) _ _ _); refine pow_int hi0 hbits ?_)
        | (k_unfold; (try dsimp only)) | walk1 | (dsimp only; walk1) | fail "no step")
    · refine Hold.mk ?_
      intro es' hes'
      have hes' := paired_ints hes'
      rw [List.size_toArray, hevl, map_getD_range (fun x => x ^ i)] at hes'
      repeat' (first
        | ((with_reducible show wpAny _ _ (eval (PySem.Expr.ListComp _ _ _ _) _) _ _ _); k_dflt (refine LCg.ListComp_U (F₀ := by k_asm) (by with_unfolding_all rfl) (by decide) (by rfl) (by decide) (by rfl) ?_))
        | ((with_reducible show LCg.CompSrc _ _ _ _ _ _ _ _ _ _ _ _ (Value.ref OD) _); refine LCg.CompSrc.ledger (by rfl) (by k_asm) (by k_asm) (by k_mem) (by rw [List.size_toArray]; exact le_line (by omega)) (fun g => rest_rel (fun k y => ∃ t, y = .int (os.getD k 0 ^ i) t) (by exact Or.inr ⟨_, by k_mem, rfl, _, rfl⟩) (Hold.out ?_) (Hold.out ?_)))
        | (k_unfold; (try dsimp only)) | walk1 | (dsimp only; walk1) | fail "no step")
      · refine Hold.mk ?_
        intro k v I' oI' C' oC' D' m₂ zs' h' tk' E'' hin hP hC hx F'' N'' off' ne'
        obtain ⟨hiq, t9, hv9⟩ := ints_at hod k v (by simpa using hP)
        subst hv9
        have hmem : os.getD k 0 ∈ os := by simp [List.getD, hiq]
        have hbits := bits_pow (hos _ hmem) hi16
        simp only [LCg.Off3, and_true] at off'
        repeat' (first
          | ((with_reducible show wpAny _ _ (eval (PySem.Expr.ListComp _ _ _ _) _) _ _ _); k_dflt (refine LCg.ListComp_U (F₀ := by k_asm) (by with_unfolding_all rfl) (by decide) (by rfl) (by decide) (by rfl) ?_))
          | ((with_reducible show LeafEnd _ _ _ _ _ _ _ _); exact ⟨_, _, rfl, by k_asm, by k_asm, _, rfl⟩)
          | ((with_reducible show wpAny _ _ (binaryOp PySem.Operator.Pow _ _) _ _ _); refine pow_int hi0 hbits ?_)
          | (k_unfold; (try dsimp only)) | walk1 | (dsimp only; walk1) | fail "no step")
      · refine Hold.mk ?_
        intro os' hos'
        have hos' := paired_ints hos'
        rw [List.size_toArray, hodl, map_getD_range (fun x => x ^ i)] at hos'
        repeat' (first
          | ((with_reducible show wpAny _ _ (eval (PySem.Expr.ListComp _ _ _ _) _) _ _ _); k_dflt (refine LCg.ListComp_U (F₀ := by k_asm) (by with_unfolding_all rfl) (by decide) (by rfl) (by decide) (by rfl) ?_))
          | (k_unfold; (try dsimp only)) | walk1 | (dsimp only; walk1) | fail "no step")
        exact ⟨_, _, rfl, by k_asm, cb_drop (by k_asm) (by kcj_all), _, rfl⟩
  · refine Hold.mk ?_
    intro MO h tk ms F' N' off hms
    have hms := paired_ints hms
    exact cont MO ms _ _ hms F' (cb_drop N' (by kcj_all))
end
end Mine
namespace Mine
open PySem PySem.W PyProof.Rows PySem.Calls
set_option maxRecDepth 100000
section
variable (w : World) (s₀ : Shared) (mg mb : Str → Option Value) (dp un : Nat) (gd : Option (List Code)) (fa : Addr) (cd : Value) (outer : List Env) (L c1 c2 c3 c4 c5 c6 c7 c8 : Addr) (A₀ : Around) (base h₀ : Heap) (s : Shared) (Q : Flow → Shared → Prop) (E : Value → Shared → Prop)
set_option maxHeartbeats 600000 in
theorem g10 (B : Below A₀ base outer h₀) (X : (hd.heap_39 w.params).In h₀) (T : Top hd.view_39 Lse (ExcName.means s₀.heap) mg mb h₀) (hdp : dp + 2 < recursionLimit) (hun : un + 64 < cLine)
   (MO : Addr) (ms : List Value) (n : Nat) (hn2 : 2 ≤ n) (hn4 : n ≤ 4) (due : Int) (hms : IntsAre ms (List.replicate n 0 ++ [due]))
   (m : Str → Option Value) (t2 t9 : Tok)
   (F : Fr h₀ L s.heap (fun y => if y = Str.ofString "more" then some (.ref MO) else if y = Str.ofString "due" then some (.int due t9) else if y = Str.ofString "size" then some (.int (n : Int) t2) else m y))
   (N : News h₀ L s.heap [(MO, LCg.lst ms)])
   (cont : ∀ (m' : Str → Option Value) (h' : Heap) (tk' : Nat), Fr h₀ L h' m' → Q (.ret (.bool true)) { s with heap := h', toks := tk' }) :
   LawGoes w dp un gd fa cd outer L c1 c2 c3 c4 c5 c6 c7 c8 [lawSt 15] Q E s := by
  w_on
  dsimp only [LawGoes] at cont ⊢
  revert X; k_fill; intro X
  have hn0 : (0 : Int) ≤ (n : Int) := by omega
  have hn4' : (n : Int) ≤ 4 := by omega
  conv in (lawSt 15) => whnf
  repeat' (first
    | (k_unfold; (try dsimp only)) | walk1 | (dsimp only; walk1) | fail "no step")
  have e : (List.replicate ((n : Int)).toNat [(0 : Int)]).flatten = List.replicate n 0 := by
    rw [Int.toNat_natCast]
    simp
  rw [e, decide_eq_true rfl]
  exact cont _ _ _ (by k_asm)
end
end Mine
namespace Mine
open PySem PySem.W PyProof.Rows PySem.Calls
set_option maxRecDepth 100000
theorem ints_get : ∀ {vs : List Value} {ns : List Int}, IntsAre vs ns → ∀ k, k < ns.length → ∃ t, vs[k]? = some (.int (ns.getD k 0) t)
  | _, _, .nil, k, h => by simp at h
  | _, _, .cons n t r, 0, _ => ⟨t, rfl⟩
  | _, _, .cons n t r, k + 1, h => by
    obtain ⟨t', e⟩ := ints_get r k (by simpa using h)
    exact ⟨t', by simpa using e⟩
theorem shifts_at {n : Nat} (h4 : n ≤ 4) (d1 d2 d3 d4 : Int) {ys : List Value} (hi : IntsAre ys (shiftsOf n d1 d2 d3 d4)) : ∀ k, k < n → ∃ t, ys[k]? = some (.int (shiftAt d1 d2 d3 d4 k) t) := by
  intro k hk
  have hl : (shiftsOf n d1 d2 d3 d4).length = n := by
    unfold shiftsOf
    rw [List.length_map, List.length_take]
    show min n 4 = n
    omega
  obtain ⟨t, e⟩ := ints_get hi k (by omega)
  refine ⟨t, e.trans ?_⟩
  congr 2
  have hk4 : k < 4 := by omega
  unfold shiftsOf
  have : n = 0 ∨ n = 1 ∨ n = 2 ∨ n = 3 ∨ n = 4 := by omega
  rcases this with rfl | rfl | rfl | rfl | rfl <;> rcases k with _ | _ | _ | _ | k <;> first | rfl | omega
theorem places_at {n : Nat} (d1 d2 d3 d4 : Int) {zs : List Value} (hi : IntsAre zs (placesOf n d1 d2 d3 d4)) : ∀ k, k < n → ∃ t, zs[k]? = some (.int (placeAt d1 d2 d3 d4 k) t) := by
  intro k hk
  have hl : (placesOf n d1 d2 d3 d4).length = n := by
    unfold placesOf
    rw [List.length_map, List.length_range]
  obtain ⟨t, e⟩ := ints_get hi k (by omega)
  refine ⟨t, e.trans ?_⟩
  congr 2
  unfold placesOf
  simp [List.getD, hk]
section
variable (d1 d2 d3 d4 : Int)
theorem place0 : 26 ≤ placeAt d1 d2 d3 d4 0 ∧ placeAt d1 d2 d3 d4 0 < 40 := by
  show 26 ≤ 26 + (d1 + 1).fmod 14 ∧ 26 + (d1 + 1).fmod 14 < 40
  have h1 := Int.fmod_nonneg_of_pos (d1 + 1) (b := 14) (by decide)
  have h2 := Int.fmod_lt_of_pos (d1 + 1) (b := 14) (by decide)
  omega
theorem place1 : 0 ≤ placeAt d1 d2 d3 d4 1 ∧ placeAt d1 d2 d3 d4 1 < 10 := by
  show 0 ≤ 0 + (d2 + 1).fmod 10 ∧ 0 + (d2 + 1).fmod 10 < 10
  have h1 := Int.fmod_nonneg_of_pos (d2 + 1) (b := 10) (by decide)
  have h2 := Int.fmod_lt_of_pos (d2 + 1) (b := 10) (by decide)
  omega
theorem place2 : 10 ≤ placeAt d1 d2 d3 d4 2 ∧ placeAt d1 d2 d3 d4 2 < 18 := by
  show 10 ≤ 10 + (d3 + 1).fmod 8 ∧ 10 + (d3 + 1).fmod 8 < 18
  have h1 := Int.fmod_nonneg_of_pos (d3 + 1) (b := 8) (by decide)
  have h2 := Int.fmod_lt_of_pos (d3 + 1) (b := 8) (by decide)
  omega
theorem place3 : 18 ≤ placeAt d1 d2 d3 d4 3 ∧ placeAt d1 d2 d3 d4 3 < 26 := by
  show 18 ≤ 18 + (d4 + 1).fmod 8 ∧ 18 + (d4 + 1).fmod 8 < 26
  have h1 := Int.fmod_nonneg_of_pos (d4 + 1) (b := 8) (by decide)
  have h2 := Int.fmod_lt_of_pos (d4 + 1) (b := 8) (by decide)
  omega
theorem pick_of {n : Nat} (h2 : 2 ≤ n) (h4 : n ≤ 4) {qs : List Int} (hp : qs.Perm (placesOf n d1 d2 d3 d4)) (hs : qs.Pairwise (· ≤ ·)) : Pick n (placeAt d1 d2 d3 d4) qs := by
  have a0 := place0 d1 d2 d3 d4
  have a1 := place1 d1 d2 d3 d4
  have a2 := place2 d1 d2 d3 d4
  have a3 := place3 d1 d2 d3 d4
  refine ⟨h2, h4, ?_, ?_, ?_, hp, hs⟩
  · intro k hk
    have : k = 0 ∨ k = 1 ∨ k = 2 ∨ k = 3 := by omega
    rcases this with rfl | rfl | rfl | rfl <;> omega
  · intro k l hk hl e
    have hk' : k = 0 ∨ k = 1 ∨ k = 2 ∨ k = 3 := by omega
    have hl' : l = 0 ∨ l = 1 ∨ l = 2 ∨ l = 3 := by omega
    rcases hk' with rfl | rfl | rfl | rfl <;> rcases hl' with rfl | rfl | rfl | rfl <;> first | rfl | (exfalso; omega)
  · intro k l hk hl e1 e2
    have hk' : k = 0 ∨ k = 1 ∨ k = 2 ∨ k = 3 := by omega
    have hl' : l = 0 ∨ l = 1 ∨ l = 2 ∨ l = 3 := by omega
    rcases hk' with rfl | rfl | rfl | rfl <;> rcases hl' with rfl | rfl | rfl | rfl <;> first | rfl | (exfalso; omega)
theorem shift_b {n : Nat} (h4 : n ≤ 4) (hb : ∀ d ∈ [d1, d2, d3, d4], 0 ≤ d ∧ d < 10 ^ 30) : ∀ k, k < n → 0 ≤ shiftAt d1 d2 d3 d4 k ∧ shiftAt d1 d2 d3 d4 k ≤ 10 ^ 30 := by
  have b1 := hb d1 (by simp)
  have b2 := hb d2 (by simp)
  have b3 := hb d3 (by simp)
  have b4 := hb d4 (by simp)
  intro k hk
  rcases k with _ | _ | _ | _ | k
  · show 0 ≤ d1 + 1 ∧ d1 + 1 ≤ 10 ^ 30; omega
  · show 0 ≤ d2 + 1 ∧ d2 + 1 ≤ 10 ^ 30; omega
  · show 0 ≤ d3 + 1 ∧ d3 + 1 ≤ 10 ^ 30; omega
  · show 0 ≤ d4 + 1 ∧ d4 + 1 ≤ 10 ^ 30; omega
  · omega
end
theorem sum_b {g : Nat → Int} : ∀ l : List Nat, (∀ k ∈ l, 0 ≤ g k ∧ g k ≤ 10 ^ 30) → 0 ≤ (l.map g).sum ∧ (l.map g).sum ≤ (l.length : Int) * 10 ^ 30
  | [], _ => by simp
  | k :: l, h => by
    have h1 := sum_b l fun q hq => h q (.tail _ hq)
    have h2 := h k (.head _)
    simp only [List.map_cons, List.sum_cons, List.length_cons]
    omega
theorem num_b {n : Nat} (h4 : n ≤ 4) {g : Nat → Int} {d0 : Int} (hg : ∀ k, k < n → 0 ≤ g k ∧ g k ≤ 10 ^ 30) (hd : 0 ≤ d0 ∧ d0 < 10 ^ 30) (i : Nat) : 0 ≤ numOf n g d0 i ∧ numOf n g d0 i < 10 ^ 32 := by
  unfold numOf
  have h1 := sum_b (onOf n i) fun k hk => hg k (List.mem_range.mp (List.mem_filter.mp hk).1)
  have h2 : (onOf n i).length ≤ n := by
    have := List.length_filter_le (bitOn i) (List.range n)
    rwa [List.length_range] at this
  omega
theorem more_is {n : Nat} (h2 : 2 ≤ n) (h4 : n ≤ 4) (g : Nat → Int) (d0 : Int) : ((List.range (n + 1)).map fun p => powSum p (evensOf n g d0 (2 ^ n)) - powSum p (oddsOf n g d0 (2 ^ n))) = List.replicate n 0 ++ [dueAt n g n] := by
  have e : ((List.range (n + 1)).map fun p => powSum p (evensOf n g d0 (2 ^ n)) - powSum p (oddsOf n g d0 (2 ^ n))) = (List.range (n + 1)).map fun p => if p < n then 0 else dueAt n g n :=
    List.map_congr_left fun p hp => pte h2 h4 g d0 p (List.mem_range.mp hp)
  rw [e, List.range_succ, List.map_append]
  congr 1
  · refine List.ext_getElem (by simp) fun i h1 h2 => ?_
    simp at h1 h2
    simp [h1]
  · simp
section
variable (w : World) (s₀ : Shared) (mg mb : Str → Option Value) (dp un : Nat) (gd : Option (List Code)) (fa : Addr) (cd : Value) (outer : List Env) (L c1 c2 c3 c4 c5 c6 c7 c8 : Addr) (A₀ : Around) (base h₀ : Heap) (s : Shared) (Q : Flow → Shared → Prop) (E : Value → Shared → Prop) (rest : List Stmt)
set_option maxHeartbeats 600000 in
theorem g3a_any (n : Nat) (hn : n = 2 ∨ n = 3 ∨ n = 4) (B : Below A₀ base outer h₀) (X : (hd.heap_39 w.params).In h₀) (T : Top hd.view_39 Lse (ExcName.means s₀.heap) mg mb h₀)
   (D : Addr) (ws : List Value) (d0 d1 d2 d3 d4 : Int) (hi : IntsAre ws [d0, d1, d2, d3, d4])
   (m : Str → Option Value) (t2 t1 : Tok) (o1 o2 o3 o4 o5 o6 o7 o8 : Obj) (p1 : o1.data = .cell none)
   (l12 : @LT.lt Nat _ c1 c2) (l23 : @LT.lt Nat _ c2 c3) (l34 : @LT.lt Nat _ c3 c4) (l45 : @LT.lt Nat _ c4 c5) (l56 : @LT.lt Nat _ c5 c6) (l67 : @LT.lt Nat _ c6 c7) (l78 : @LT.lt Nat _ c7 c8) (l8D : @LT.lt Nat _ c8 D)
   (F : Fr h₀ L s.heap (fun y => if y = Str.ofString "size" then some (.int (n : Int) t2) else if y = Str.ofString "start" then some (.int d0 t1) else if y = Str.ofString "drawn" then some (.ref D) else m y)) (N : News h₀ L s.heap [(D, PySem.W.listOf ws.toArray 0), (c8, o8), (c7, o7), (c6, o6), (c5, o5), (c4, o4), (c3, o3), (c2, o2), (c1, o1)])
   (cont : ∀ (SH : Addr) (ys : List Value) (h' : Heap) (tk' : Nat) (o1' : Obj), IntsAre ys (shiftsOf n d1 d2 d3 d4) → OffCells SH c1 c2 c3 c4 c5 c6 c7 c8 →
     Fr h₀ L h' (fun y => if y = Str.ofString "size" then some (.int (n : Int) t2) else if y = Str.ofString "start" then some (.int d0 t1) else if y = Str.ofString "drawn" then some (.ref D) else m y) →
     News h₀ L h' [(SH, LCg.lst ys), (c8, o8), (c7, o7), (c6, o6), (c5, o5), (c4, o4), (c3, o3), (c2, o2), (c1, o1')] → o1'.data = .cell (some (.ref SH)) →
     LawGoes w dp un gd fa cd outer L c1 c2 c3 c4 c5 c6 c7 c8 rest Q E { s with heap := h', toks := tk' }) :
   LawGoes w dp un gd fa cd outer L c1 c2 c3 c4 c5 c6 c7 c8 (lawSt 4 :: rest) Q E s := by
  rcases hn with rfl | rfl | rfl
  · exact g3a_2 w s₀ mg mb dp un gd fa cd outer L c1 c2 c3 c4 c5 c6 c7 c8 A₀ base h₀ s Q E rest B X T D ws d0 d1 d2 d3 d4 hi m t2 t1 o1 o2 o3 o4 o5 o6 o7 o8 p1 l12 l23 l34 l45 l56 l67 l78 l8D F N cont
  · exact g3a_3 w s₀ mg mb dp un gd fa cd outer L c1 c2 c3 c4 c5 c6 c7 c8 A₀ base h₀ s Q E rest B X T D ws d0 d1 d2 d3 d4 hi m t2 t1 o1 o2 o3 o4 o5 o6 o7 o8 p1 l12 l23 l34 l45 l56 l67 l78 l8D F N cont
  · exact g3a_4 w s₀ mg mb dp un gd fa cd outer L c1 c2 c3 c4 c5 c6 c7 c8 A₀ base h₀ s Q E rest B X T D ws d0 d1 d2 d3 d4 hi m t2 t1 o1 o2 o3 o4 o5 o6 o7 o8 p1 l12 l23 l34 l45 l56 l67 l78 l8D F N cont
end
end Mine
namespace Mine
open PySem PySem.W PyProof.Rows PySem.Calls
set_option maxRecDepth 100000
theorem size_of (d0 : Int) : ∃ n : Nat, 2 + (d0 + 1).fmod 3 = (n : Int) ∧ (n = 2 ∨ n = 3 ∨ n = 4) := by
  have h1 := Int.fmod_nonneg_of_pos (d0 + 1) (b := 3) (by decide)
  have h2 := Int.fmod_lt_of_pos (d0 + 1) (b := 3) (by decide)
  exact ⟨(2 + (d0 + 1).fmod 3).toNat, by omega, by omega⟩
section
variable (w : World) (s₀ : Shared) (mg mb : Str → Option Value) (dp un : Nat) (gd : Option (List Code)) (fa : Addr) (cd : Value) (outer : List Env) (L c1 c2 c3 c4 c5 c6 c7 c8 : Addr) (A₀ : Around) (base h₀ : Heap) (s : Shared) (Q : Flow → Shared → Prop) (E : Value → Shared → Prop)
set_option maxHeartbeats 2000000 in
theorem law_all (B : Below A₀ base outer h₀) (X : (hd.heap_39 w.params).In h₀) (T : Top hd.view_39 Lse (ExcName.means s₀.heap) mg mb h₀) (hdp : dp + 2 < recursionLimit) (hun : un + 64 < cLine)
   (hE : PassesOwn (model PySem.Challenge.rw_ty0015_01.row.prog w) (ktrTop dp un gd (Str.ofString "law") lawScope L fa cd (lawCl c1 c2 c3 c4 c5 c6 c7 c8) outer) (envX (Str.ofString "law") lawScope L fa cd (lawCl c1 c2 c3 c4 c5 c6 c7 c8)) E)
   (la : Addr) (vs : List Value) (ns : List Int) (hl : h₀.IsList la vs.toArray) (hi : IntsAre vs ns) (hlen : ns.length ≤ 63)
   (m : Str → Option Value) (o1 o2 o3 o4 o5 o6 o7 o8 : Obj) (p1 : o1.data = .cell none) (p2 : o2.data = .cell none) (p3 : o3.data = .cell none) (p4 : o4.data = .cell none) (p5 : o5.data = .cell none) (p6 : o6.data = .cell none) (p7 : o7.data = .cell none) (p8 : o8.data = .cell none)
   (l12 : @LT.lt Nat _ c1 c2) (l23 : @LT.lt Nat _ c2 c3) (l34 : @LT.lt Nat _ c3 c4) (l45 : @LT.lt Nat _ c4 c5) (l56 : @LT.lt Nat _ c5 c6) (l67 : @LT.lt Nat _ c6 c7) (l78 : @LT.lt Nat _ c7 c8)
   (F : Fr h₀ L s.heap (fun y => if y = Str.ofString "script" then some (.ref la) else m y)) (N : News h₀ L s.heap [(c8, o8), (c7, o7), (c6, o6), (c5, o5), (c4, o4), (c3, o3), (c2, o2), (c1, o1)])
   (cont : ∀ (m' : Str → Option Value) (h' : Heap) (tk' : Nat), Fr h₀ L h' m' → Q (.ret (.bool true)) { s with heap := h', toks := tk' }) :
   LawGoes w dp un gd fa cd outer L c1 c2 c3 c4 c5 c6 c7 c8 [lawSt 0, lawSt 1, lawSt 2, lawSt 3, lawSt 4, lawSt 5, lawSt 6, lawSt 7, lawSt 8, lawSt 9, lawSt 10, lawSt 11, lawSt 12, lawSt 13, lawSt 14, lawSt 15] Q E s := by
  refine @g1 _ _ _ _ _ _ _ _ _ _ _ _ _ _ _ _ _ _ _ _ _ _ _ _ _ _ B X T la vs ns hl hi hlen m o1 o2 o3 o4 o5 o6 o7 o8 F N ?_
  intro D ws d0 d1 d2 d3 d4 h1 tk1 m1 hb hws l8D F1 N1
  have hd0 := hb d0 (by simp)
  have hdb : ∀ d ∈ [d1, d2, d3, d4], 0 ≤ d ∧ d < 10 ^ 30 := fun d hd => hb d (List.mem_cons_of_mem _ hd)
  obtain ⟨n, hnv, hn⟩ := size_of d0
  have hn2 : 2 ≤ n := by omega
  have hn4 : n ≤ 4 := by omega
  refine @g2 _ _ _ _ _ _ _ _ _ _ _ _ _ _ _ _ _ _ _ _ _ _ _ _ _ _ B X T D ws d0 d1 d2 d3 d4 hws m1 o1 o2 o3 o4 o5 o6 o7 o8 F1 N1 ?_
  intro h2 tk2 t1 t2 F2 N2
  rw [hnv] at F2
  refine @g3a_any _ _ _ _ _ _ _ _ _ _ _ _ _ _ _ _ _ _ _ _ _ _ _ _ _ _ n hn B X T D ws d0 d1 d2 d3 d4 hws m1 t2 t1 o1 o2 o3 o4 o5 o6 o7 o8 p1 l12 l23 l34 l45 l56 l67 l78 l8D F2 N2 ?_
  intro SH ys h3 tk3 o1' hys lSH F3 N3 p1'
  have hy := shifts_at hn4 d1 d2 d3 d4 hys
  refine @g3b _ _ _ _ _ _ _ _ _ _ _ _ _ _ _ _ _ _ _ _ _ _ _ _ _ _ B X T SH ys d0 d1 d2 d3 d4 n hn2 hn4 hy _ t2 o1' o2 o3 o4 o5 o6 o7 o8 p1' p2 p3 l12 l23 l34 l45 l56 l67 l78 lSH F3 N3 ?_
  intro PL zs h4 tk4 o2' o3' hzs lPL lPS F4 N4 p3'
  have hz := places_at d1 d2 d3 d4 hzs
  have hrng : ∀ k, k < n → 0 ≤ placeAt d1 d2 d3 d4 k ∧ placeAt d1 d2 d3 d4 k < 40 := by
    have a0 := place0 d1 d2 d3 d4
    have a1 := place1 d1 d2 d3 d4
    have a2 := place2 d1 d2 d3 d4
    have a3 := place3 d1 d2 d3 d4
    intro k hk
    have : k = 0 ∨ k = 1 ∨ k = 2 ∨ k = 3 := by omega
    rcases this with rfl | rfl | rfl | rfl <;> omega
  refine @g4 _ _ _ _ _ _ _ _ _ _ _ _ _ _ _ _ _ _ _ _ _ _ _ _ _ _ B X T (by omega) (by omega) SH PL ys zs (placeAt d1 d2 d3 d4) (shiftAt d1 d2 d3 d4) n hn2 hn4 hy hz hrng _ t2 o1' o2' o3' o4 o5 o6 o7 o8 p1' p3' p4 l12 l23 l34 l45 l56 l67 l78 lSH lPL lPS F4 N4 ?_
  intro WO kvs oW h5 tk5 o4' hT hW hLW lWO lPW lSW F5 N5 p4'
  have hplen : (placesOf n d1 d2 d3 d4).length = n := by
    unfold placesOf
    rw [List.length_map, List.length_range]
  have hpb : ∀ p ∈ placesOf n d1 d2 d3 d4, 0 ≤ p ∧ p < 40 := by
    intro p hp
    obtain ⟨k, hk, rfl⟩ := List.mem_map.mp hp
    exact hrng k (List.mem_range.mp hk)
  refine @g5 _ _ _ _ _ _ _ _ _ _ _ _ _ _ _ _ _ _ _ _ _ _ _ _ _ _ B X T (by omega) (by omega) WO SH PL oW ys zs (placesOf n d1 d2 d3 d4) n hn4 hzs hplen hpb _ o1' o2' o3' o4' o5 o6 o7 o8 p3' l12 l23 l34 l45 l56 l67 l78 lWO lSH lPL lPS lPW lSW F5 N5 ?_
  intro OR es qs h6 tk6 hes hqp hqs lOR lWR lPR lSR F6 N6
  have P := pick_of d1 d2 d3 d4 hn2 hn4 hqp hqs
  refine @g6 _ _ _ _ _ _ _ _ _ _ _ _ _ _ _ _ _ _ _ _ _ _ _ _ _ _ B X T OR WO SH PL oW ys zs es d0 hd0 _ (.ref OR) _ t1 o1' o2' o3' o4' o5 o6 o7 o8 p5 p6 l12 l23 l34 l45 l56 l67 l78 lOR lWO lSH lPL lPS lPW lSW lWR lPR lSR F6 N6 ?_
  intro EV OD h7 tk7 tt o5' o6' lEV lOD lall F7 N7 p5' p6'
  obtain ⟨lEO, lRE, lWE, lPE, lSE⟩ := lall
  refine @g7 _ _ _ _ _ _ _ _ _ _ _ _ _ _ _ _ _ _ _ _ _ _ _ _ _ _ B X T hdp hun hE OD EV OR WO SH PL oW ys zs es n (placeAt d1 d2 d3 d4) (shiftAt d1 d2 d3 d4) qs P d0 hz hes kvs hT hW hLW _ tt t2 t1 o1' o2' o3' o4' o5' o6' o7 o8 p3' p4' p5' p6' p7 p8 l12 l23 l34 l45 l56 l67 l78 lOR lWO lSH lPL lEV lOD lEO lRE lWE lPE lSE F7 N7 ?_
  intro m8 nx h8 tk8 hJ F8 N8
  obtain ⟨evs, ods, ce, co, o7', o8', v7, v8, rfl, p7', p8', hev, hod, z1, z2, z3, z4⟩ := hJ
  have hsb := shift_b d1 d2 d3 d4 hn4 hdb
  have hg : ∀ k, k < n → 0 ≤ shiftAt d1 d2 d3 d4 k ∧ shiftAt d1 d2 d3 d4 k < 10 ^ 32 := fun k hk => by
    have := hsb k hk
    omega
  refine @g8 _ _ _ _ _ _ _ _ _ _ _ _ _ _ _ _ _ _ _ _ _ _ _ _ _ _ B X T hdp hun hE OD EV OR WO SH PL _ _ _ oW _ ys n hn2 hn4 (shiftAt d1 d2 d3 d4) hg hy m8 t2 o1' o2' o3' o4' o5' o6' o7' o8' p1' (fr_one F8 z3) N8 ?_
  intro m9 t9 h9 tk9 y1 y2 F9 N9
  have hnum := num_b hn4 hsb hd0
  refine @g9 _ _ _ _ _ _ _ _ _ _ _ _ _ _ _ _ _ _ _ _ _ _ _ _ _ _ B X T hdp hun OD EV OR WO SH PL _ oW _ _ evs ods ce co _ _ hev hod (Nat.le_trans (evens_len _ _ _ _) (pow_le hn4)) (Nat.le_trans (odds_len _ _ _ _) (pow_le hn4)) ?_ ?_ n hn2 hn4 m9 t2 _ o1' o2' o3' o4' o5' o6' o7' o8' p5' p6' (fr_two F9 y1 y2) N9 ?_
  · intro x hx
    obtain ⟨c, _, rfl⟩ := List.mem_map.mp hx
    exact hnum c
  · intro x hx
    obtain ⟨c, _, rfl⟩ := List.mem_map.mp hx
    exact hnum c
  intro MO ms h10 tk10 hms F10 N10
  rw [more_is hn2 hn4] at hms
  refine @g10 _ _ _ _ _ _ _ _ _ _ _ _ _ _ _ _ _ _ _ _ _ _ _ _ _ B X T hdp hun MO ms n hn2 hn4 _ hms m9 t2 t9 F10 N10 ?_
  intro m11 h11 tk11 F11
  exact cont m11 h11 tk11 F11
end
end Mine
namespace Mine
open PySem PySem.W PyProof.Rows PySem.Calls
/-- how the law ends -/
def LawEnd (h₀ : Heap) (L : Addr) (s : Shared) (f : Flow) (s' : Shared) : Prop := ∃ h' tk' m', f = .ret (.bool true) ∧ s' = { s with heap := h', toks := tk' } ∧ Fr h₀ L h' m'
theorem law_end (w : World) (s₀ : Shared) (mg mb : Str → Option Value) (dp un : Nat) (gd : Option (List Code)) (fa : Addr) (cd : Value) (outer : List Env) (L c1 c2 c3 c4 c5 c6 c7 c8 : Addr) (A₀ : Around) (base h₀ : Heap) (s : Shared)
   (B : Below A₀ base outer h₀) (X : (hd.heap_39 w.params).In h₀) (T : Top hd.view_39 Lse (ExcName.means s₀.heap) mg mb h₀) (hdp : dp + 2 < recursionLimit) (hun : un + 64 < cLine)
   (la : Addr) (vs : List Value) (ns : List Int) (hl : h₀.IsList la vs.toArray) (hi : IntsAre vs ns) (hlen : ns.length ≤ 63)
   (m : Str → Option Value) (o1 o2 o3 o4 o5 o6 o7 o8 : Obj) (p1 : o1.data = .cell none) (p2 : o2.data = .cell none) (p3 : o3.data = .cell none) (p4 : o4.data = .cell none) (p5 : o5.data = .cell none) (p6 : o6.data = .cell none) (p7 : o7.data = .cell none) (p8 : o8.data = .cell none)
   (l12 : @LT.lt Nat _ c1 c2) (l23 : @LT.lt Nat _ c2 c3) (l34 : @LT.lt Nat _ c3 c4) (l45 : @LT.lt Nat _ c4 c5) (l56 : @LT.lt Nat _ c5 c6) (l67 : @LT.lt Nat _ c6 c7) (l78 : @LT.lt Nat _ c7 c8)
   (F : Fr h₀ L s.heap (fun y => if y = Str.ofString "script" then some (.ref la) else m y)) (N : News h₀ L s.heap [(c8, o8), (c7, o7), (c6, o6), (c5, o5), (c4, o4), (c3, o3), (c2, o2), (c1, o1)]) :
   LawGoes w dp un gd fa cd outer L c1 c2 c3 c4 c5 c6 c7 c8 [lawSt 0, lawSt 1, lawSt 2, lawSt 3, lawSt 4, lawSt 5, lawSt 6, lawSt 7, lawSt 8, lawSt 9, lawSt 10, lawSt 11, lawSt 12, lawSt 13, lawSt 14, lawSt 15] (LawEnd h₀ L s) (fun _ _ => False) s :=
  @law_all w s₀ mg mb dp un gd fa cd outer L c1 c2 c3 c4 c5 c6 c7 c8 A₀ base h₀ s (LawEnd h₀ L s) (fun _ _ => False) B X T hdp hun (by passes_own) la vs ns hl hi hlen m o1 o2 o3 o4 o5 o6 o7 o8 p1 p2 p3 p4 p5 p6 p7 p8 l12 l23 l34 l45 l56 l67 l78 F N (fun m' h' tk' F' => ⟨h', tk', m', rfl, rfl, F'⟩)
end Mine
open PySem PySem.W PyProof.Rows PySem.Calls
set_option maxRecDepth 100000 in
set_option maxHeartbeats 2000000 in
theorem PySem.Challenge.cw_ty0015_01_holds : PySem.Challenge.rw_ty0015_01.Holds :=
  Mine.hd (by
  k_go0
  rename_i w s₀ s mg mb G Y fa o pm doc ho hg KX X V GL T BT TE TW u1 u2 M u3 u4 hcd ns hs hlay hL1 hr hl2 v1 v2 la vs v3 hL ra w1 r0 hI hr2 hc1 hc2 K0 hD h₁ tk₁ F a8 a7 a6 a5 a4 a3 a2 a1 q8 q7 q6 q5 q4 q3 q2 q1 N0 X0
  refine wpAny_mono (@Mine.law_end w s₀ mg mb _ _ _ _ _ [] _ _ _ _ _ _ _ _ _ callerA _ _ _ K0 KX T ?h1 ?h2 la vs ns hL hI ?h3 (fun _ => none) a1 a2 a3 a4 a5 a6 a7 a8 ?p1 ?p2 ?p3 ?p4 ?p5 ?p6 ?p7 ?p8 ?l1 ?l2 ?l3 ?l4 ?l5 ?l6 ?l7 ?hF ?hN) ?hq ?he
  case h1 => k_room
  case h2 => decide
  case h3 => omega
  case p1 => exact q1.trans (by with_unfolding_all rfl)
  case p2 => exact q2.trans (by with_unfolding_all rfl)
  case p3 => exact q3.trans (by with_unfolding_all rfl)
  case p4 => exact q4.trans (by with_unfolding_all rfl)
  case p5 => exact q5.trans (by with_unfolding_all rfl)
  case p6 => exact q6.trans (by with_unfolding_all rfl)
  case p7 => exact q7.trans (by with_unfolding_all rfl)
  case p8 => exact q8.trans (by with_unfolding_all rfl)
  case l1 => exact Nat.lt_succ_self _
  case l2 => exact Nat.lt_succ_self _
  case l3 => exact Nat.lt_succ_self _
  case l4 => exact Nat.lt_succ_self _
  case l5 => exact Nat.lt_succ_self _
  case l6 => exact Nat.lt_succ_self _
  case l7 => exact Nat.lt_succ_self _
  case hF => with_unfolding_all exact F
  case hN => exact N0
  case he => exact fun _ _ h => h.elim
  case hq =>
    rintro f s' ⟨h', tk', m', rfl, rfl, F'⟩
    clear hcd hD F q1 q2 q3 q4 q5 q6 q7 q8 X0
    dsimp only
    wrow_close)
