import PyProof.Rows.All
import Wide.All
import OpenK.AllK
import Wide.FinOn
import PySem.Challenge.RW_mj0076_01
open PySem PySem.W PySem.Calls PyProof.Rows
set_option Elab.async false
set_option maxRecDepth 100000
set_option maxHeartbeats 8000000
namespace Mine
open_top hd for PySem.Challenge.rw_mj0076_01
end Mine
namespace Mine
theorem slice_to (l : List Nat) (k : Nat) (h : k ≤ l.length) : Txt.slice ⟨l.toArray⟩ none (some (k : Int)) = ⟨(l.take k).toArray⟩ := by
  have e := eq_of_beq (slice_closes_toL (x := ⟨l.toArray⟩) (j := (k : Int)) (by omega) (by simpa [Str.length] using h))
  simpa using e
theorem slice_from (l : List Nat) (k : Nat) (h : k ≤ l.length) : Txt.slice ⟨l.toArray⟩ (some (k : Int)) none = ⟨(l.drop k).toArray⟩ := by
  have e := slice_from_eq (x := ⟨l.toArray⟩) (i := (k : Int)) (b := (l.length : Int)) (by omega) (by simpa [Str.length] using h) (by simp [Str.length])
  rw [e]
  simp only [Int.toNat_natCast]
  congr 1
  congr 1
  rw [List.take_of_length_le]
  simp only [List.length_drop]; omega
theorem slice_last (l : List Nat) (k : Nat) (h1 : 1 ≤ k) (h : k ≤ l.length) : Txt.slice ⟨l.toArray⟩ (some (-(k : Int))) none = ⟨(l.drop (l.length - k)).toArray⟩ := by
  rw [← slice_from l (l.length - k) (by omega)]
  unfold Txt.slice
  have e : Builtin.Str.strSliceIndices (some (-(k : Int))) none 1 (Str.mk l.toArray).length = Builtin.Str.strSliceIndices (some ((l.length - k : Nat) : Int)) none 1 (Str.mk l.toArray).length := by
    unfold Builtin.Str.strSliceIndices
    have hl : (Str.mk l.toArray).length = l.length := by simp [Str.length]
    rw [hl]
    simp only [show (1 : Int) > 0 by decide, if_true]
    rw [if_pos (show (-(k : Int)) < 0 by omega), if_neg (show ¬ ((l.length - k : Nat) : Int) < 0 by omega), show (-(k : Int)) + (l.length : Int) = ((l.length - k : Nat) : Int) by omega]
  rw [e]
theorem sl2 (a b : Nat) : Txt.slice ⟨#[a, b]⟩ (some 1) none = ⟨#[b]⟩ := slice_from [a, b] 1 (by simp)
theorem sl3 (a b c : Nat) : Txt.slice ⟨#[a, b, c]⟩ (some 1) none = ⟨#[b, c]⟩ := slice_from [a, b, c] 1 (by simp)
theorem it1m (a : Nat) : Txt.item ⟨#[a]⟩ (-1) = ⟨#[a]⟩ := rfl
theorem it2m (a b : Nat) : Txt.item ⟨#[a, b]⟩ (-1) = ⟨#[b]⟩ := rfl
theorem it3m (a b c : Nat) : Txt.item ⟨#[a, b, c]⟩ (-1) = ⟨#[c]⟩ := rfl
theorem it2z (a b : Nat) : Txt.item ⟨#[a, b]⟩ 0 = ⟨#[a]⟩ := rfl
theorem it3z (a b c : Nat) : Txt.item ⟨#[a, b, c]⟩ 0 = ⟨#[a]⟩ := rfl
theorem lenS1 (a : Nat) : (Str.mk #[a]).length = 1 := rfl
theorem lenS2 (a b : Nat) : (Str.mk #[a, b]).length = 2 := rfl
theorem lenS3 (a b c : Nat) : (Str.mk #[a, b, c]).length = 3 := rfl
end Mine
namespace Mine
def HK (h h' : Heap) : Prop := ∀ b o, h.get? b = some o → h'.get? b = some o

section
variable {prog : Program} {w : World} {A : Around} {E : Value → Shared → Prop} {s : Shared} {K : Frag}
theorem enter_fn {Q : Value → Shared → Prop} {name qual : Str} {params : Arguments} {body : List Stmt} {scope : Scope} {dV kV doc pm cdv ct oc : Value} {an od : Option Addr} {osl : Array (Option Value)} {f : Addr} {vals : List Value} {binds : List (Str × Value)}
    (X : K.In s.heap) (hlim : s.heap.NoLimit)
    (ho : K.lookup f = some ⟨oc, od, .func (fnOf name qual params body scope dV kV doc pm an cdv ct), osl⟩) (hcd : codeIn K cdv qual = true) (hroom : A.depth < recursionLimit)
    (hbind : BindsTo s (fnOf name qual params body scope dV kV doc pm an cdv ct) ⟨vals, []⟩ binds) (hloc : ∀ y ∈ binds, scope.names.lookup y.1 = some .local)
    (h : ∀ L' h₁, Fr s.heap L' h₁ (fun y => binds.reverse.lookup y) → News s.heap L' h₁ [] →
      wpAny (model prog w) (A.deeper (envOf qual scope L' f cdv)) (execs body (envOf qual scope L' f cdv))
        (fun fl s' => Q (match fl with | .ret v => v | _ => .none) s')
        (fun e s' => wpAny (model prog w) (A.deeper (envOf qual scope L' f cdv)) (leaving (envOf qual scope L' f cdv) e) (fun _ s'' => E e s'') (fun e' s'' => E e' s'') s')
        { s with heap := h₁, toks := s.toks + binds.length })
    (hco : scope.isCoroutine = false) (hgen : scope.isGenerator = false) (hk : scope.kind = .function)
    (hcell : ∀ x ∈ scope.names, x.2 ≠ .cell) : wpAny (model prog w) A (call (.ref f) vals) Q E s := by
  refine wpAny_call ?_
  refine codeAny_call_def (fd := fnOf name qual params body scope dV kV doc pm an cdv ct) (body := body) (binds := binds) hroom (X _ _ ho) rfl hlim (codeRec_of X hcd) rfl hbind hcell hloc (fun h₁ hns hk₁ => ?_) hco hgen hk
  exact h s.heap.objs.size h₁ ⟨hns, hk₁, Nat.le_refl _⟩ News.nil
end


theorem ctoi_str {w : World} {mean : ExcName → Option Value} {mg mb : Str → Option Value} {dp un : Nat} {fr : Option (List Env)} {gd : Option (List Code)} {E : Value → Shared → Prop} {s : Shared} {Q : Value → Shared → Prop} {c : Nat} {t : Tok}
    (X : Frag.In (Mine.hd.heap_39 w.params) s.heap) (T : Top Mine.hd.view_39 (looseW Mine.hd.view_39 [Str.ofString "_initial_missing", Str.ofString "reduce"]) mean mg mb s.heap) (hroom : dp < recursionLimit)
    (h : ∀ h' tk tk', HK s.heap h' → Q (.int c tk) { s with heap := h', toks := tk' }) :
    wpAny (model PySem.Challenge.rw_mj0076_01.row.prog w) (Around.mk none dp fr gd un) (call (.ref 21) [.str (Str.mk #[c]) t]) Q E s := by
  (revert X; k_fill; intro X; k_dflt (refine' enter_fn (K := (Mine.hd.heap_39 w.params)) (binds := [(Str.ofString "c", .str (Str.mk #[c]) t)]) ?e1 ?e2 ?e3 ?e4 ?e5 ?e6 ?e7 ?_ ?e8 ?e9 ?ea ?eb; (case e1 => assumption); (case e2 => exact Top.nolimit (by assumption)); (case e3 => k_is); (case e4 => k_is); (case e5 => (try simp only [depth_deeper, depth_in1]); (try dsimp only); omega); (case e6 => exact BindsTo.of_eq rfl); (case e7 => exact locs rfl); (case e8 => exact rfl); (case e9 => exact rfl); (case ea => exact rfl); (case eb => decide)); intro L h₁ F N; (try dsimp only); (try k_fold))
  k_steps
  exact h _ _ _ F.keep
theorem ctoi_int {w : World} {mean : ExcName → Option Value} {mg mb : Str → Option Value} {dp un : Nat} {fr : Option (List Env)} {gd : Option (List Code)} {E : Value → Shared → Prop} {s : Shared} {Q : Value → Shared → Prop} {c : Int} {t : Tok}
    (X : Frag.In (Mine.hd.heap_39 w.params) s.heap) (T : Top Mine.hd.view_39 (looseW Mine.hd.view_39 [Str.ofString "_initial_missing", Str.ofString "reduce"]) mean mg mb s.heap) (hroom : dp < recursionLimit)
    (h : ∀ h' tk tk', HK s.heap h' → Q (.int c tk) { s with heap := h', toks := tk' }) :
    wpAny (model PySem.Challenge.rw_mj0076_01.row.prog w) (Around.mk none dp fr gd un) (call (.ref 21) [.int c t]) Q E s := by
  (revert X; k_fill; intro X; k_dflt (refine' enter_fn (K := (Mine.hd.heap_39 w.params)) (binds := [(Str.ofString "c", .int c t)]) ?e1 ?e2 ?e3 ?e4 ?e5 ?e6 ?e7 ?_ ?e8 ?e9 ?ea ?eb; (case e1 => assumption); (case e2 => exact Top.nolimit (by assumption)); (case e3 => k_is); (case e4 => k_is); (case e5 => (try simp only [depth_deeper, depth_in1]); (try dsimp only); omega); (case e6 => exact BindsTo.of_eq rfl); (case e7 => exact locs rfl); (case e8 => exact rfl); (case e9 => exact rfl); (case ea => exact rfl); (case eb => decide)); intro L h₁ F N; (try dsimp only); (try k_fold))
  k_steps
  exact h _ _ _ F.keep
local macro_rules | `(tactic| walk_at "call ref") => `(tactic| (k_here; (refine' ctoi_str ?k1 ?k2 ?k3 ?_; (case k1 => k_in); (case k2 => (exact Top.keeps (by assumption) (Fr.keep (by assumption)))); (case k3 => ((try simp only [depth_deeper, depth_in1]); (try dsimp only); omega))); intro h' tk tk' hk; ((with_reducible rename Fr _ _ _ _ => kF); (with_reducible rename News _ _ _ _ => kN); (replace kF := Fr.keeps kF hk); (replace kN := News.keeps kN hk); clear hk; (try dsimp only))))
local macro_rules | `(tactic| walk_at "call ref") => `(tactic| (k_here; (refine' ctoi_int ?k1 ?k2 ?k3 ?_; (case k1 => k_in); (case k2 => (exact Top.keeps (by assumption) (Fr.keep (by assumption)))); (case k3 => ((try simp only [depth_deeper, depth_in1]); (try dsimp only); omega))); intro h' tk tk' hk; ((with_reducible rename Fr _ _ _ _ => kF); (with_reducible rename News _ _ _ _ => kN); (replace kF := Fr.keeps kF hk); (replace kN := News.keeps kN hk); clear hk; (try dsimp only))))
theorem isprint_int {w : World} {mean : ExcName → Option Value} {mg mb : Str → Option Value} {dp un : Nat} {fr : Option (List Env)} {gd : Option (List Code)} {E : Value → Shared → Prop} {s : Shared} {Q : Value → Shared → Prop} {c : Int} {t : Tok}
    (X : Frag.In (Mine.hd.heap_39 w.params) s.heap) (T : Top Mine.hd.view_39 (looseW Mine.hd.view_39 [Str.ofString "_initial_missing", Str.ofString "reduce"]) mean mg mb s.heap) (hroom : dp + 1 < recursionLimit)
    (h : ∀ h' tk', HK s.heap h' → Q (.bool (decide (32 ≤ c ∧ c ≤ 126))) { s with heap := h', toks := tk' }) :
    wpAny (model PySem.Challenge.rw_mj0076_01.row.prog w) (Around.mk none dp fr gd un) (call (.ref 28) [.int c t]) Q E s := by
  (revert X; k_fill; intro X; k_dflt (refine' enter_fn (K := (Mine.hd.heap_39 w.params)) (binds := [(Str.ofString "c", .int c t)]) ?e1 ?e2 ?e3 ?e4 ?e5 ?e6 ?e7 ?_ ?e8 ?e9 ?ea ?eb; (case e1 => assumption); (case e2 => exact Top.nolimit (by assumption)); (case e3 => k_is); (case e4 => k_is); (case e5 => (try simp only [depth_deeper, depth_in1]); (try dsimp only); omega); (case e6 => exact BindsTo.of_eq rfl); (case e7 => exact locs rfl); (case e8 => exact rfl); (case e9 => exact rfl); (case ea => exact rfl); (case eb => decide)); intro L h₁ F N; (try dsimp only); (try k_fold))
  k_steps
  · rw [show decide (c ≤ 126) = decide (32 ≤ c ∧ c ≤ 126) from by simp [*]]
    exact h _ _ (Fr.keep (by assumption))
  · rw [show decide (32 ≤ c) = decide (32 ≤ c ∧ c ≤ 126) from by simp [*]]
    exact h _ _ (Fr.keep (by assumption))
local macro_rules | `(tactic| walk_at "call ref") => `(tactic| (k_here; (refine' isprint_int ?k1 ?k2 ?k3 ?_; (case k1 => k_in); (case k2 => (exact Top.keeps (by assumption) (Fr.keep (by assumption)))); (case k3 => ((try simp only [depth_deeper, depth_in1]); (try dsimp only); omega))); intro h' tk' hk; ((with_reducible rename Fr _ _ _ _ => kF); (with_reducible rename News _ _ _ _ => kN); (replace kF := Fr.keeps kF hk); (replace kN := News.keeps kN hk); clear hk; (try dsimp only))))
theorem bit128 (x : Int) : Builtin.bitAnd x 128 = (x / 128 % 2) * 128 := kbt_bit x 7
theorem bit32 (x : Int) : Builtin.bitAnd x 32 = (x / 32 % 2) * 32 := kbt_bit x 5
local macro_rules | `(tactic| walk_at "call builtin:chr") => `(tactic| (k_here; (with_reducible show wpAny _ _ (call (Value.builtin "chr") [Value.int _ _]) _ _ _); refine chr_of_range (by (simp only [bitAnd_m5, bitAnd_m7, bitOr_and, bit128, bit32] at *); omega) (by (simp only [bitAnd_m5, bitAnd_m7, bitOr_and, bit128, bit32] at *); omega) ?_))
theorem ctrl_str {w : World} {mean : ExcName → Option Value} {mg mb : Str → Option Value} {dp un : Nat} {fr : Option (List Env)} {gd : Option (List Code)} {E : Value → Shared → Prop} {s : Shared} {Q : Value → Shared → Prop} {c : Nat} {t : Tok}
    (X : Frag.In (Mine.hd.heap_39 w.params) s.heap) (T : Top Mine.hd.view_39 (looseW Mine.hd.view_39 [Str.ofString "_initial_missing", Str.ofString "reduce"]) mean mg mb s.heap) (hroom : dp + 1 < recursionLimit)
    (h : ∀ h' tk tk', HK s.heap h' → Q (.str (Str.mk #[c % 32]) tk) { s with heap := h', toks := tk' }) :
    wpAny (model PySem.Challenge.rw_mj0076_01.row.prog w) (Around.mk none dp fr gd un) (call (.ref 35) [.str (Str.mk #[c]) t]) Q E s := by
  (revert X; k_fill; intro X; k_dflt (refine' enter_fn (K := (Mine.hd.heap_39 w.params)) (binds := [(Str.ofString "c", .str (Str.mk #[c]) t)]) ?e1 ?e2 ?e3 ?e4 ?e5 ?e6 ?e7 ?_ ?e8 ?e9 ?ea ?eb; (case e1 => assumption); (case e2 => exact Top.nolimit (by assumption)); (case e3 => k_is); (case e4 => k_is); (case e5 => (try simp only [depth_deeper, depth_in1]); (try dsimp only); omega); (case e6 => exact BindsTo.of_eq rfl); (case e7 => exact locs rfl); (case e8 => exact rfl); (case e9 => exact rfl); (case ea => exact rfl); (case eb => decide)); intro L h₁ F N; (try dsimp only); (try k_fold))
  k_steps
  rw [show (Builtin.bitAnd (c : Int) 31).toNat = c % 32 from by rw [bitAnd_m5]; omega]
  exact h _ _ _ (Fr.keep (by assumption))
def altN (c : Nat) : Nat := if c / 128 % 2 = 1 then c else c + 128
theorem alt_str {w : World} {mean : ExcName → Option Value} {mg mb : Str → Option Value} {dp un : Nat} {fr : Option (List Env)} {gd : Option (List Code)} {E : Value → Shared → Prop} {s : Shared} {Q : Value → Shared → Prop} {c : Nat} {t : Tok}
    (X : Frag.In (Mine.hd.heap_39 w.params) s.heap) (T : Top Mine.hd.view_39 (looseW Mine.hd.view_39 [Str.ofString "_initial_missing", Str.ofString "reduce"]) mean mg mb s.heap) (hroom : dp + 1 < recursionLimit) (hc : c < 1114112)
    (h : ∀ h' tk tk', HK s.heap h' → Q (.str (Str.mk #[altN c]) tk) { s with heap := h', toks := tk' }) :
    wpAny (model PySem.Challenge.rw_mj0076_01.row.prog w) (Around.mk none dp fr gd un) (call (.ref 42) [.str (Str.mk #[c]) t]) Q E s := by
  (revert X; k_fill; intro X; k_dflt (refine' enter_fn (K := (Mine.hd.heap_39 w.params)) (binds := [(Str.ofString "c", .str (Str.mk #[c]) t)]) ?e1 ?e2 ?e3 ?e4 ?e5 ?e6 ?e7 ?_ ?e8 ?e9 ?ea ?eb; (case e1 => assumption); (case e2 => exact Top.nolimit (by assumption)); (case e3 => k_is); (case e4 => k_is); (case e5 => (try simp only [depth_deeper, depth_in1]); (try dsimp only); omega); (case e6 => exact BindsTo.of_eq rfl); (case e7 => exact locs rfl); (case e8 => exact rfl); (case e9 => exact rfl); (case ea => exact rfl); (case eb => decide)); intro L h₁ F N; (try dsimp only); (try k_fold))
  k_steps
  rw [show (Builtin.bitOr (c : Int) 128).toNat = altN c from by rw [bitOr_and, bit128]; unfold altN; split <;> omega]
  exact h _ _ _ (Fr.keep (by assumption))
def unc (c : Nat) : List Nat :=
  if c / 128 % 2 = 1 then 33 :: (if 32 ≤ c % 128 ∧ c % 128 ≤ 126 then [c % 128] else if c % 128 < 32 then [94, c % 128 + 64] else [94, 159])
  else if c = 127 then [94, 63] else if 32 ≤ c % 128 ∧ c % 128 ≤ 126 then [c % 128] else if c % 128 < 32 then [94, c % 128 + 64] else [94, 159]
theorem end_str {Q : Value → Shared → Prop} {x y : Str} {t : Tok} {s : Shared} (h : Q (.str y t) s) (e : x = y) : Q (.str x t) s := e ▸ h
theorem lit_bang : Str.ofString "!" = ⟨#[33]⟩ := by decide +kernel
theorem lit_hat : Str.ofString "^" = ⟨#[94]⟩ := by decide +kernel
theorem lit_hatq : Str.ofString "^?" = ⟨#[94, 63]⟩ := by decide +kernel
theorem str_app (a b : Array Nat) : (Str.mk a) ++ (Str.mk b) = Str.mk (a ++ b) := rfl
theorem unctrl_str {w : World} {mean : ExcName → Option Value} {mg mb : Str → Option Value} {dp un : Nat} {fr : Option (List Env)} {gd : Option (List Code)} {E : Value → Shared → Prop} {s : Shared} {Q : Value → Shared → Prop} {c : Nat} {t : Tok}
    (X : Frag.In (Mine.hd.heap_39 w.params) s.heap) (T : Top Mine.hd.view_39 (looseW Mine.hd.view_39 [Str.ofString "_initial_missing", Str.ofString "reduce"]) mean mg mb s.heap) (hroom : dp + 2 < recursionLimit) (hc : c < 1114112)
    (h : ∀ h' tk tk', HK s.heap h' → Q (.str (Str.mk (unc c).toArray) tk) { s with heap := h', toks := tk' }) :
    wpAny (model PySem.Challenge.rw_mj0076_01.row.prog w) (Around.mk none dp fr gd un) (call (.ref 49) [.str (Str.mk #[c]) t]) Q E s := by
  (revert X; k_fill; intro X; k_dflt (refine' enter_fn (K := (Mine.hd.heap_39 w.params)) (binds := [(Str.ofString "c", .str (Str.mk #[c]) t)]) ?e1 ?e2 ?e3 ?e4 ?e5 ?e6 ?e7 ?_ ?e8 ?e9 ?ea ?eb; (case e1 => assumption); (case e2 => exact Top.nolimit (by assumption)); (case e3 => k_is); (case e4 => k_is); (case e5 => (try simp only [depth_deeper, depth_in1]); (try dsimp only); omega); (case e6 => exact BindsTo.of_eq rfl); (case e7 => exact locs rfl); (case e8 => exact rfl); (case e9 => exact rfl); (case ea => exact rfl); (case eb => decide)); intro L h₁ F N; (try dsimp only); (try k_fold))
  k_steps
  all_goals refine end_str (Q := Q) (h _ _ _ (Fr.keep (by assumption))) ?_
  all_goals (simp only [lit_bang, lit_hat, lit_hatq, str_app, Str.mk.injEq, bitAnd_m7, bitOr_and, bit128, bit32, unc, decide_eq_true_eq, decide_eq_false_iff_not] at *)
  all_goals ((repeat' split) <;> first | (exfalso; omega) | (simp <;> omega))
end Mine
namespace Mine
theorem law_sign_int {w : World} {mean : ExcName → Option Value} {mg mb : Str → Option Value} {dp un : Nat} {fr : Option (List Env)} {gd : Option (List Code)} {E : Value → Shared → Prop} {s : Shared} {Q : Value → Shared → Prop} {n : Int} {t : Tok}
    (X : Frag.In (Mine.hd.heap_39 w.params) s.heap) (T : Top Mine.hd.view_39 (looseW Mine.hd.view_39 [Str.ofString "_initial_missing", Str.ofString "reduce"]) mean mg mb s.heap) (hroom : dp < recursionLimit)
    (h : ∀ c h' tk tk', c < 1114112 → HK s.heap h' → Q (.str (Str.mk #[c]) tk) { s with heap := h', toks := tk' }) :
    wpAny (model PySem.Challenge.rw_mj0076_01.row.prog w) (Around.mk none dp fr gd un) (call (.ref 65) [.int n t]) Q E s := by
  (revert X; k_fill; intro X; k_dflt (refine' enter_fn (K := (Mine.hd.heap_39 w.params)) (binds := [(Str.ofString "n", .int n t)]) ?e1 ?e2 ?e3 ?e4 ?e5 ?e6 ?e7 ?_ ?e8 ?e9 ?ea ?eb; (case e1 => assumption); (case e2 => exact Top.nolimit (by assumption)); (case e3 => k_is); (case e4 => k_is); (case e5 => (try simp only [depth_deeper, depth_in1]); (try dsimp only); omega); (case e6 => exact BindsTo.of_eq rfl); (case e7 => exact locs rfl); (case e8 => exact rfl); (case e9 => exact rfl); (case ea => exact rfl); (case eb => decide)); intro L h₁ F N; (try dsimp only); (try k_fold))
  k_steps
  · have e : ∃ c, c < 1114112 ∧ Txt.item (Str.ofString "!!^^?" ++ { cps := #[Int.toNat 159] }) (n.fmod 8) = Str.mk #[c] := by
      have h0 := fmod_lo n (show (0 : Int) < 8 by decide)
      have h6 : n.fmod 8 < 6 := by assumption
      rcases (show n.fmod 8 = 0 ∨ n.fmod 8 = 1 ∨ n.fmod 8 = 2 ∨ n.fmod 8 = 3 ∨ n.fmod 8 = 4 ∨ n.fmod 8 = 5 by omega) with e | e | e | e | e | e <;> rw [e]
      · exact ⟨33, by decide, by decide +kernel⟩
      · exact ⟨33, by decide, by decide +kernel⟩
      · exact ⟨94, by decide, by decide +kernel⟩
      · exact ⟨94, by decide, by decide +kernel⟩
      · exact ⟨63, by decide, by decide +kernel⟩
      · exact ⟨159, by decide, by decide +kernel⟩
    obtain ⟨c, hc, e⟩ := e
    exact end_str (Q := Q) (h c _ _ _ hc (Fr.keep (by assumption))) e
  all_goals (have h1 := fmod_lo (n.fdiv 8) (show (0 : Int) < 95 by decide); have h2 := fmod_hi (n.fdiv 8) (show (0 : Int) < 95 by decide); have h3 := fmod_lo (n.fdiv 8) (show (0 : Int) < 1112064 by decide); have h4 := fmod_hi (n.fdiv 8) (show (0 : Int) < 1112064 by decide); exact h _ _ _ _ (by omega) (Fr.keep (by assumption)))
def codeL : List Nat → Option Nat
  | [a] => if 32 ≤ a ∧ a < 127 then some a else none
  | [a, b] => if a = 33 then (if 32 ≤ b ∧ b < 127 then some (b + 128) else none) else if a = 94 then (if 64 ≤ b ∧ b < 96 then some (b - 64) else if b = 63 then some 127 else none) else none
  | [a, b, c] => if a = 33 ∧ b = 94 then (if 64 ≤ c ∧ c < 96 then some (c - 64 + 128) else if c = 159 then some 255 else none) else none
  | _ => none
theorem len1 {prog : Program} {w : World} {A : Around} {E : Value → Shared → Prop} {s : Shared} {a : Nat} {t : Tok} {Q : Value → Shared → Prop} (h : ∀ k tk, Q (.int 1 k) { s with toks := tk }) : wpAny (model prog w) A (call (.builtin "len") [.str (Str.mk #[a]) t]) Q E s := len_str (by show ¬ ((1 : Int) ≥ 2 ^ 63); decide) (h _ _)
theorem len2 {prog : Program} {w : World} {A : Around} {E : Value → Shared → Prop} {s : Shared} {a b : Nat} {t : Tok} {Q : Value → Shared → Prop} (h : ∀ k tk, Q (.int 2 k) { s with toks := tk }) : wpAny (model prog w) A (call (.builtin "len") [.str (Str.mk #[a, b]) t]) Q E s := len_str (by show ¬ ((2 : Int) ≥ 2 ^ 63); decide) (h _ _)
theorem len3 {prog : Program} {w : World} {A : Around} {E : Value → Shared → Prop} {s : Shared} {a b c : Nat} {t : Tok} {Q : Value → Shared → Prop} (h : ∀ k tk, Q (.int 3 k) { s with toks := tk }) : wpAny (model prog w) A (call (.builtin "len") [.str (Str.mk #[a, b, c]) t]) Q E s := len_str (by show ¬ ((3 : Int) ≥ 2 ^ 63); decide) (h _ _)
local macro_rules | `(tactic| walk_at "call builtin:len") => `(tactic| (k_here; (with_reducible show wpAny _ _ (call (Value.builtin "len") [Value.str (Str.mk _) _]) _ _ _); (first | refine len1 ?_ | refine len2 ?_ | refine len3 ?_); intro _ _; (try dsimp only)))
local macro_rules | `(tactic| walk_at "subscriptTail Name Slice str ref") => `(tactic| ((with_reducible show wpAny _ _ (subscriptTail _ (Expr.Slice (some _) none none _) (Value.str (Str.mk _) _) _) _ _ _); (with_reducible rename Fr _ _ _ _ => F'); (with_reducible rename News _ _ _ _ => N'); (refine slice_strN_sn (hsz := ?hsz) (s := ⟨_, _, _, _, _⟩) F' N' ?_); (case hsz => (simp only [lenS1, lenS2, lenS3]; decide)); intro h' t' k F2 N2; simp only [sl2, sl3]))
local macro_rules | `(tactic| walk_at "subscriptTail Name Constant str int") => `(tactic| ((with_reducible show wpAny _ _ (subscriptTail _ _ (Value.str (Str.mk _) _) _) _ _ _); (refine item_str (by decide) (by simp only [lenS1, lenS2, lenS3]; decide) (by simp only [lenS1, lenS2, lenS3]; decide) ?_); intro _; simp only [it1m, it2m, it3m, it2z, it3z]))
local macro_rules | `(tactic| walk_at "subscriptTail Name UnaryOp str int") => `(tactic| ((with_reducible show wpAny _ _ (subscriptTail _ _ (Value.str (Str.mk _) _) _) _ _ _); (refine item_str (by decide) (by simp only [lenS1, lenS2, lenS3]; decide) (by simp only [lenS1, lenS2, lenS3]; decide) ?_); intro _; simp only [it1m, it2m, it3m, it2z, it3z]))
theorem eqb_bang (a : Nat) : ((Str.mk #[a]) == Str.ofString "!") = decide (a = 33) := by
  rw [lit_bang]
  by_cases h : a = 33
  · subst h; decide
  · rw [decide_eq_false h]; exact beq_eq_false_iff_ne.mpr fun e => h (by simpa using e)
theorem eqb_hat (a : Nat) : ((Str.mk #[a]) == Str.ofString "^") = decide (a = 94) := by
  rw [lit_hat]
  by_cases h : a = 94
  · subst h; decide
  · rw [decide_eq_false h]; exact beq_eq_false_iff_ne.mpr fun e => h (by simpa using e)
theorem end_code {Q : Value → Shared → Prop} {x : Int} {t : Tok} {s : Shared} {l : List Nat} (hs : ∀ k : Nat, codeL l = some k → Q (.int k t) s) (h0 : 0 ≤ x ∧ codeL l = some x.toNat) : Q (.int x t) s := by
  have := hs _ h0.2
  rwa [Int.toNat_of_nonneg h0.1] at this
theorem law_code1 {w : World} {mean : ExcName → Option Value} {mg mb : Str → Option Value} {dp un : Nat} {fr : Option (List Env)} {gd : Option (List Code)} {E : Value → Shared → Prop} {s : Shared} {Q : Value → Shared → Prop} {a : Nat} {t : Tok}
    (X : Frag.In (Mine.hd.heap_39 w.params) s.heap) (T : Top Mine.hd.view_39 (looseW Mine.hd.view_39 [Str.ofString "_initial_missing", Str.ofString "reduce"]) mean mg mb s.heap) (hroom : dp < recursionLimit)
    (hn : ∀ h' tk', codeL [a] = none → HK s.heap h' → Q .none { s with heap := h', toks := tk' })
    (hs : ∀ k h' tk tk', codeL [a] = some k → HK s.heap h' → Q (.int (k : Nat) tk) { s with heap := h', toks := tk' }) :
    wpAny (model PySem.Challenge.rw_mj0076_01.row.prog w) (Around.mk none dp fr gd un) (call (.ref 72) [.str (Str.mk #[a]) t]) Q E s := by
  (revert X; k_fill; intro X; k_dflt (refine' enter_fn (K := (Mine.hd.heap_39 w.params)) (binds := [(Str.ofString "piece", .str (Str.mk #[a]) t)]) ?e1 ?e2 ?e3 ?e4 ?e5 ?e6 ?e7 ?_ ?e8 ?e9 ?ea ?eb; (case e1 => assumption); (case e2 => exact Top.nolimit (by assumption)); (case e3 => k_is); (case e4 => k_is); (case e5 => (try simp only [depth_deeper, depth_in1]); (try dsimp only); omega); (case e6 => exact BindsTo.of_eq rfl); (case e7 => exact locs rfl); (case e8 => exact rfl); (case e9 => exact rfl); (case ea => exact rfl); (case eb => decide)); intro L h₁ F N; (try dsimp only); (try k_fold))
  k_steps
  all_goals first
    | refine hn _ _ ?_ (Fr.keep (by assumption))
    | refine end_code (Q := Q) (fun k e => hs k _ _ _ e (Fr.keep (by assumption))) ?_
  all_goals (simp only [eqb_bang, eqb_hat, decide_eq_true_eq, decide_eq_false_iff_not] at *)
  all_goals clear_value qk ek
  all_goals (simp only [codeL]; (try refine ⟨by omega, ?_⟩); (repeat' split) <;> first | omega | (simp <;> omega))
theorem law_code2 {w : World} {mean : ExcName → Option Value} {mg mb : Str → Option Value} {dp un : Nat} {fr : Option (List Env)} {gd : Option (List Code)} {E : Value → Shared → Prop} {s : Shared} {Q : Value → Shared → Prop} {a b : Nat} {t : Tok}
    (X : Frag.In (Mine.hd.heap_39 w.params) s.heap) (T : Top Mine.hd.view_39 (looseW Mine.hd.view_39 [Str.ofString "_initial_missing", Str.ofString "reduce"]) mean mg mb s.heap) (hroom : dp < recursionLimit)
    (hn : ∀ h' tk', codeL [a, b] = none → HK s.heap h' → Q .none { s with heap := h', toks := tk' })
    (hs : ∀ k h' tk tk', codeL [a, b] = some k → HK s.heap h' → Q (.int (k : Nat) tk) { s with heap := h', toks := tk' }) :
    wpAny (model PySem.Challenge.rw_mj0076_01.row.prog w) (Around.mk none dp fr gd un) (call (.ref 72) [.str (Str.mk #[a, b]) t]) Q E s := by
  (revert X; k_fill; intro X; k_dflt (refine' enter_fn (K := (Mine.hd.heap_39 w.params)) (binds := [(Str.ofString "piece", .str (Str.mk #[a, b]) t)]) ?e1 ?e2 ?e3 ?e4 ?e5 ?e6 ?e7 ?_ ?e8 ?e9 ?ea ?eb; (case e1 => assumption); (case e2 => exact Top.nolimit (by assumption)); (case e3 => k_is); (case e4 => k_is); (case e5 => (try simp only [depth_deeper, depth_in1]); (try dsimp only); omega); (case e6 => exact BindsTo.of_eq rfl); (case e7 => exact locs rfl); (case e8 => exact rfl); (case e9 => exact rfl); (case ea => exact rfl); (case eb => decide)); intro L h₁ F N; (try dsimp only); (try k_fold))
  k_steps
  all_goals first
    | refine hn _ _ ?_ (Fr.keep (by assumption))
    | refine end_code (Q := Q) (fun k e => hs k _ _ _ e (Fr.keep (by assumption))) ?_
  all_goals (simp only [eqb_bang, eqb_hat, decide_eq_true_eq, decide_eq_false_iff_not] at *)
  all_goals clear_value qk ek
  all_goals (simp only [codeL]; (try refine ⟨by omega, ?_⟩); (repeat' split) <;> first | omega | (simp <;> omega))
theorem law_code3 {w : World} {mean : ExcName → Option Value} {mg mb : Str → Option Value} {dp un : Nat} {fr : Option (List Env)} {gd : Option (List Code)} {E : Value → Shared → Prop} {s : Shared} {Q : Value → Shared → Prop} {a b c : Nat} {t : Tok}
    (X : Frag.In (Mine.hd.heap_39 w.params) s.heap) (T : Top Mine.hd.view_39 (looseW Mine.hd.view_39 [Str.ofString "_initial_missing", Str.ofString "reduce"]) mean mg mb s.heap) (hroom : dp < recursionLimit)
    (hn : ∀ h' tk', codeL [a, b, c] = none → HK s.heap h' → Q .none { s with heap := h', toks := tk' })
    (hs : ∀ k h' tk tk', codeL [a, b, c] = some k → HK s.heap h' → Q (.int (k : Nat) tk) { s with heap := h', toks := tk' }) :
    wpAny (model PySem.Challenge.rw_mj0076_01.row.prog w) (Around.mk none dp fr gd un) (call (.ref 72) [.str (Str.mk #[a, b, c]) t]) Q E s := by
  (revert X; k_fill; intro X; k_dflt (refine' enter_fn (K := (Mine.hd.heap_39 w.params)) (binds := [(Str.ofString "piece", .str (Str.mk #[a, b, c]) t)]) ?e1 ?e2 ?e3 ?e4 ?e5 ?e6 ?e7 ?_ ?e8 ?e9 ?ea ?eb; (case e1 => assumption); (case e2 => exact Top.nolimit (by assumption)); (case e3 => k_is); (case e4 => k_is); (case e5 => (try simp only [depth_deeper, depth_in1]); (try dsimp only); omega); (case e6 => exact BindsTo.of_eq rfl); (case e7 => exact locs rfl); (case e8 => exact rfl); (case e9 => exact rfl); (case ea => exact rfl); (case eb => decide)); intro L h₁ F N; (try dsimp only); (try k_fold))
  k_steps
  all_goals first
    | refine hn _ _ ?_ (Fr.keep (by assumption))
    | refine end_code (Q := Q) (fun k e => hs k _ _ _ e (Fr.keep (by assumption))) ?_
  all_goals (simp only [eqb_bang, eqb_hat, decide_eq_true_eq, decide_eq_false_iff_not] at *)
  all_goals clear_value qk ek
  all_goals (simp only [codeL]; (try refine ⟨by omega, ?_⟩); (repeat' split) <;> first | omega | (simp <;> omega))
end Mine
namespace Mine
section
variable {prog : Program} {w : World} {A : Around} {E : Value → Shared → Prop} {s : Shared} {K : Frag} {h₀ h h' : Heap} {L D b : Addr} {m : Str → Option Value} {news : List (Addr × Obj)} {n n2 : Nat} {g : Obj → List (Addr × Obj)} {xs ys : List Value}
theorem news_add (F : Fr h₀ L h m) (N : News h₀ L h news) (hk : HK h h') (hD : h.objs.size ≤ D) {o : Obj} (ho : h'.get? D = some o) :
    Fr h₀ L h' m ∧ News h₀ L h' ((D, o) :: news) ∧ ∀ p ∈ news, p.1 < D := by
  refine ⟨F.keeps hk, fun p hp => ?_, fun p hp => Nat.lt_of_lt_of_le (Heap.lt_size (N p hp).1) hD⟩
  rcases List.mem_cons.mp hp with rfl | hp
  · refine ⟨ho, fun e => ?_, ?_⟩
    · have := F.ns.lt
      have e' : D = L := e
      rw [← e'] at this
      exact absurd this (Nat.not_lt.mpr hD)
    · cases q : h₀.get? D with
      | none => rfl
      | some o' => exact absurd (Heap.lt_size (F.keep _ _ q)) (Nat.not_lt.mpr hD)
  · exact ⟨hk _ _ (N p hp).1, (N p hp).2⟩
theorem fillsI_list : fillsInplaceSlot (.type "list") "add" (Operator.Add == .Add) = pure false := by
  unfold fillsInplaceSlot
  show (typeLookup (.type "list") (dunderI "add") >>= fun fi => pure (fi.isSome && !isSeqSlot fi)) = pure false
  rw [F.slot_list_iadd.lookup]
  kernel_rfl
theorem seqI_list : seqSlot? (.type "list") (dunderI "add") = pure (some (.builtin "list.__iadd__")) := by
  unfold seqSlot?
  rw [F.slot_list_iadd.lookup]
  kernel_rfl
theorem iadd_road {a b : Value} {Q : Value → Shared → Prop} (ha : s.TypeIs a "list") (hb : s.TypeIs b "list")
    (hc : wpAny (model prog w) A (call (.builtin "list.__iadd__") [a, b]) Q E s) : wpAny (model prog w) A (inplaceOp .Add a b) Q E s := by
  unfold inplaceOp
  refine wpAny_holding ?_
  refine wpAny_bind (wpAny_typeOf ha (wpAny_bind (wpAny_of_eq fillsI_list ?_)))
  show wpAny _ A (if false = true then _ else _) Q E s
  rw [if_neg Bool.false_ne_true]
  refine wpAny_bind (wpAny_binaryOp1_none (nm := "add") ha hb noFill_list_add ?_)
  refine wpAny_bind (wpAny_of_eq seqI_list ?_)
  exact wpAny_bind (wpAny_rule hc)
theorem iaddK {Q : Value → Shared → Prop} (F : Fr h₀ L s.heap m) (N : News h₀ L s.heap news) (hb : (b, listOf ys.toArray n2) ∈ news) (U : UpdF D (listOf xs.toArray n) news g) (hz : xs.length + ys.length ≤ 1000000)
    (h : ∀ h' n', Fr h₀ L h' m → News h₀ L h' (g (listOf (xs ++ ys).toArray n')) → Q (.ref D) { s with heap := h' }) : wpAny (model prog w) A (inplaceOp .Add (.ref D) (.ref b)) Q E s := by
  obtain ⟨pre, post, rfl, hg, a, c⟩ := U.split
  have z := N (D, listOf xs.toArray n) (List.mem_append.mpr (.inr (.head _)))
  have zb := N _ hb
  have hsl := sizeLine_eq
  refine iadd_road ⟨_, z.1, rfl⟩ ⟨_, zb.1, rfl⟩ ?_
  have hlong : ¬ (!xs.toArray.isEmpty && Builtin.List.listTooLong (xs.toArray.size + ys.toArray.size)) = true := by
    simp only [List.size_toArray, Builtin.List.listTooLong, Bool.and_eq_true, decide_eq_true_eq]
    omega
  refine call_meets PySem.F.slot_list_iadd ⟨_, z.1, rfl⟩ PySem.F.entry_list_iadd (PySem.F.args_list_iadd_2 _ _) (PySem.AutoSeq1.list___iadd___list_list_0 D xs.toArray n b ys.toArray n2 hlong (by simp only [List.size_toArray]; omega) (by simp only [List.size_toArray]; omega)) ⟨z.1, zb.1, h _ (if (xs.toArray ++ ys.toArray).size = xs.toArray.size then n else n + 1) (F.change (Heap.SameBut.update ..) z.2.1 z.2.2) ?_⟩
  rw [hg]
  refine news_set N a c (Heap.SameBut.update ..) ?_
  have q := PySem.IsL.update z.1 (fun x => x ++ ys.toArray)
  rw [q]
  simp
end
section
variable {prog : Program} {w : World} {A : Around} {h₀ : Heap} {L : Addr} {m : Str → Option Value} {env : Env} {elt : Expr} {x : Str} {scope : Scope} {cl : List (Str × Addr)} {s : Shared} {S : List (Addr × Obj) → Prop} {Fin : List Value → List (Addr × Obj) → Prop} {news : List (Addr × Obj)}
def ElS (news : List (Addr × Obj)) (r : Str) (y : Value) (news' : List (Addr × Obj)) : Prop := news' = news ∧ ∃ t : Tok, y = .str r t
theorem strs_rest {vs : List Value} {ks : List Str} (g : Str → Str) (hi : StrsAre vs ks)
    (turn : ∀ k t I oI C oC D m₂ ys h tk (E' : Value → Shared → Prop), k ∈ ks → LCg.NsObj oC m₂ → m₂ x = some (.str k t) → Fr h₀ L h m → News h₀ L h ((I, oI) :: (C, oC) :: (D, LCg.lst ys) :: news) → LCg.Off3 I C D news → ((@Ne Nat I C) ∧ (@Ne Nat I D) ∧ (@Ne Nat C D)) →
      wpAny (model prog w) A (eval elt (compEnvC scope cl C env)) (LCg.CompEnd h₀ L m { s with heap := h, toks := tk } I oI C oC D (LCg.lst ys) S (fun y news' => ElS news (g k) y news')) E' { s with heap := h, toks := tk })
    (fin : ∀ ys, StrsAre ys (ks.map g) → ys.length = vs.length → Fin ys news) : LCg.CompRest prog w A h₀ L m env elt x scope cl s S (fun i v => vs.toArray[i]? = some v) Fin vs.toArray.size 0 [] news := by
  have hks : ks.length = vs.toArray.size := by rw [List.size_toArray]; exact hi.length.symm
  have key : ∀ (j i : Nat) (ys : List Value), i + j = vs.toArray.size → ys.length = i → StrsAre ys ((ks.take i).map g) → LCg.CompRest prog w A h₀ L m env elt x scope cl s S (fun i v => vs.toArray[i]? = some v) Fin j i ys news := by
    intro j
    induction j with
    | zero =>
      intro i ys hi' hl hy
      have e : i = ks.length := by omega
      subst e
      rw [List.take_length] at hy
      exact LCg.CompRest.zero (fin ys hy (by rw [hl]; exact hi.length.symm))
    | succ j ih =>
      intro i ys hi' hl hy
      refine LCg.CompRest.succ ?_
      intro v I oI C oC D m₂ h tk E' hv hC hx F N off ne
      obtain ⟨k, t, hv', hk⟩ := StrsAre.item hi i v (by simpa using hv)
      rw [hv'] at hx
      refine wpAny_mono (turn k t I oI C oC D m₂ ys h tk E' (List.mem_of_getElem? hk) hC hx F N off ne) (fun y s₂ hq => ?_) fun _ _ e => e
      obtain ⟨h', tk', nw, e, F', N', off', hS, hn, t', hy'⟩ := hq
      rw [hn] at N' off' hS
      refine ⟨h', tk', news, e, F', N', off', hS, ?_⟩
      rw [hy']
      refine ih (i + 1) _ (by omega) (by simp [hl]) ?_
      rw [List.take_add_one, hk]
      simpa using kct_snoc hy
  exact key vs.toArray.size 0 [] (by omega) rfl (by simp only [List.take_zero, List.map_nil]; exact .nil)
end
end Mine
namespace Mine
section
variable {prog : Program} {w : World} {A : Around} {E : Value → Shared → Prop} {s : Shared} {K : Frag}
theorem enter_fnC {Q : Value → Shared → Prop} {name qual : Str} {params : Arguments} {body : List Stmt} {scope : Scope} {dV kV doc pm cdv ct oc : Value} {an od : Option Addr} {osl : Array (Option Value)} {f : Addr} {vals : List Value} {binds : List (Str × Value)}
    (X : K.In s.heap) (hlim : s.heap.NoLimit)
    (ho : K.lookup f = some ⟨oc, od, .func (fnOf name qual params body scope dV kV doc pm an cdv ct), osl⟩) (hcd : codeIn K cdv qual = true) (hroom : A.depth < recursionLimit)
    (hbind : BindsTo s (fnOf name qual params body scope dV kV doc pm an cdv ct) ⟨vals, []⟩ binds)
    (hkind : (binds.all fun y => scope.names.lookup y.1 == some .local || scope.names.lookup y.1 == some .cell) = true)
    (hnd : ((cellsFrom 0 scope.names []).map (·.1)).Nodup)
    (h : ∀ L' h₁ tk cells, Fr s.heap L' h₁ (bindL (envOfC qual scope L' f cdv).kindOf binds fun _ => none) → News s.heap L' h₁ cells →
      CellsAre (bindC (envOfC qual scope L' f cdv).kindOf binds fun _ => none) (cellsFrom (L' + 1) scope.names []) cells →
      wpAny (model prog w) (A.deeper (envOfC qual scope L' f cdv)) (execs body (envOfC qual scope L' f cdv))
        (fun fl s' => Q (match fl with | .ret v => v | _ => .none) s')
        (fun e s' => wpAny (model prog w) (A.deeper (envOfC qual scope L' f cdv)) (leaving (envOfC qual scope L' f cdv) e) (fun _ s'' => E e s'') (fun e' s'' => E e' s'') s')
        { s with heap := h₁, toks := tk })
    (hco : scope.isCoroutine = false) (hgen : scope.isGenerator = false) (hk : scope.kind = .function) : wpAny (model prog w) A (call (.ref f) vals) Q E s := by
  refine wpAny_call ?_
  refine codeAny_call_function hroom (X _ _ ho) rfl hco hgen rfl (codeRec_of X hcd) (hbind _ _ _ _ ?_)
  refine wpAny_newFunctionEnv_cells hk (kindsX hkind _) fun env' he s' x => ?_
  subst he
  refine ⟨hlim.keeps x.toInCall.keep, codeAny_func ?_⟩
  obtain ⟨h₁, tk, rfl, _⟩ := x.done
  have hk₁ := x.toInCall.keep
  obtain ⟨cells, NC, Y⟩ := Cl.news (h₀ := s.heap) (Nat.le_refl _) fun n c hm => ⟨x.cell n c (lookup_of_mem_nodup (cellsFrom_names scope.names 0 (s.heap.objs.size + 1) [] [] rfl ▸ hnd) hm), x.above n c hm⟩
  exact h s.heap.objs.size h₁ tk cells ⟨x.toInCall.ns, hk₁, Nat.le_refl _⟩ NC Y
end
def TX (l : List Nat) : Str := Str.mk l.toArray
def oneL (p : List Nat) (ls : List (List Nat)) : List (List Nat) := match codeL p with | none => [] | some k => ls.map (k :: ·)
def linesL : List Nat → List (List Nat)
  | [] => [[]]
  | [a] => oneL [a] (linesL [])
  | [a, b] => oneL [a] (linesL [b]) ++ oneL [a, b] (linesL [])
  | a :: b :: c :: r => oneL [a] (linesL (b :: c :: r)) ++ oneL [a, b] (linesL (c :: r)) ++ oneL [a, b, c] (linesL r)
theorem codeL_lt {l : List Nat} {k : Nat} (h : codeL l = some k) : k < 256 := by
  unfold codeL at h
  split at h
  all_goals (repeat' split at h)
  all_goals first | (injection h with h; omega) | (cases h)
theorem nn1 : (1 : Int) + ((0 : Nat) : Int) = 1 := rfl
theorem nn2 : (1 : Int) + ((0 + 1 : Nat) : Int) = 2 := rfl
theorem nn3 : (1 : Int) + ((0 + 1 + 1 : Nat) : Int) = 3 := rfl
theorem slf1 (a : Nat) (r : List Nat) : Txt.slice ⟨(a :: r).toArray⟩ (some 1) none = ⟨r.toArray⟩ := slice_from (a :: r) 1 (by simp)
theorem slf2 (a b : Nat) (r : List Nat) : Txt.slice ⟨(a :: b :: r).toArray⟩ (some 2) none = ⟨r.toArray⟩ := slice_from (a :: b :: r) 2 (by simp)
theorem slf3 (a b c : Nat) (r : List Nat) : Txt.slice ⟨(a :: b :: c :: r).toArray⟩ (some 3) none = ⟨r.toArray⟩ := slice_from (a :: b :: c :: r) 3 (by simp)
theorem slt1 (a : Nat) (r : List Nat) : Txt.slice ⟨(a :: r).toArray⟩ none (some 1) = ⟨#[a]⟩ := slice_to (a :: r) 1 (by simp)
theorem slt2 (a b : Nat) (r : List Nat) : Txt.slice ⟨(a :: b :: r).toArray⟩ none (some 2) = ⟨#[a, b]⟩ := slice_to (a :: b :: r) 2 (by simp)
theorem slt3 (a b c : Nat) (r : List Nat) : Txt.slice ⟨(a :: b :: c :: r).toArray⟩ none (some 3) = ⟨#[a, b, c]⟩ := slice_to (a :: b :: c :: r) 3 (by simp)
def gOf {l : List Nat} {k : Nat} (_ : codeL l = some k) : Str → Str := fun y => Str.mk #[k] ++ y
theorem oneL_some {l : List Nat} {k : Nat} (hc : codeL l = some k) (ls : List (List Nat)) : (ls.map TX).map (gOf hc) = (oneL l ls).map TX := by
  unfold oneL
  rw [hc]
  simp only [List.map_map]
  refine List.map_congr_left fun x _ => ?_
  show Str.mk #[k] ++ TX x = TX (k :: x)
  unfold TX
  rw [str_app]
  simp
theorem piece {l : List Nat} {k : Nat} {ls : List (List Nat)} {ys : List Value} {hc : codeL l = some k} (hy : StrsAre ys ((ls.map TX).map (gOf hc))) : StrsAre ys ((oneL l ls).map TX) := oneL_some hc ls ▸ hy
theorem oneL_none {l : List Nat} (hc : codeL l = none) (ls : List (List Nat)) : oneL l ls = [] := by unfold oneL; rw [hc]
theorem piece0 {l : List Nat} {ls : List (List Nat)} (hc : codeL l = none) : StrsAre [] ((oneL l ls).map TX) := by rw [oneL_none hc]; exact .nil
theorem app_none {l : List Nat} {ls : List (List Nat)} {V : List Value} {B : List Str} (hc : codeL l = none) (h : StrsAre V B) : StrsAre V (B ++ (oneL l ls).map TX) := by rw [oneL_none hc]; simpa using h
def LinesOK (w : World) (mean : ExcName → Option Value) (mg mb : Str → Option Value) (l : List Nat) : Prop :=
  ∀ (dp un : Nat) (fr : Option (List Env)) (gd : Option (List Code)) (E : Value → Shared → Prop) (s : Shared) (Q : Value → Shared → Prop) (t : Tok),
    Frag.In (Mine.hd.heap_39 w.params) s.heap → Top Mine.hd.view_39 (looseW Mine.hd.view_39 [Str.ofString "_initial_missing", Str.ofString "reduce"]) mean mg mb s.heap → dp + l.length + 1 < recursionLimit →
    (∀ D vs h' tk', HK s.heap h' → s.heap.objs.size ≤ D → h'.PlainList D vs.toArray → StrsAre vs ((linesL l).map TX) → Q (.ref D) { s with heap := h', toks := tk' }) →
    wpAny (model PySem.Challenge.rw_mj0076_01.row.prog w) (Around.mk none dp fr gd un) (call (.ref 77) [.str (Str.mk l.toArray) t]) Q E s
def LinesIH (w : World) (mean : ExcName → Option Value) (mg mb : Str → Option Value) (n : Nat) : Prop := ∀ l : List Nat, l.length < n → LinesOK w mean mg mb l
theorem linesL_len (l : List Nat) : (linesL l).length ≤ 3 ^ l.length := by
  have one (p : List Nat) (ls : List (List Nat)) : (oneL p ls).length ≤ ls.length := by unfold oneL; split <;> simp
  induction l using linesL.induct with
  | case1 => simp [linesL]
  | case2 a ih => have := one [a] (linesL []); simp only [linesL, List.length_nil, List.length_cons] at *; omega
  | case3 a b ih1 ih2 => have h1 := one [a] (linesL [b]); have h2 := one [a, b] (linesL []); simp only [linesL, List.length_append, List.length_nil, List.length_cons] at *; omega
  | case4 a b c r ih1 ih2 ih3 =>
    have h1 := one [a] (linesL (b :: c :: r)); have h2 := one [a, b] (linesL (c :: r)); have h3 := one [a, b, c] (linesL r)
    simp only [linesL, List.length_append, List.length_cons] at *
    simp only [Nat.pow_succ] at *
    generalize 3 ^ r.length = p at *
    omega
theorem linesL_mem {l x : List Nat} (h : x ∈ linesL l) : x.length ≤ l.length := by
  have one {p : List Nat} {ls : List (List Nat)} {n : Nat} {x : List Nat} (hb : ∀ y ∈ ls, y.length ≤ n) (hx : x ∈ oneL p ls) : x.length ≤ n + 1 := by
    unfold oneL at hx
    split at hx
    · cases hx
    · obtain ⟨y, hy, rfl⟩ := List.mem_map.mp hx
      have := hb y hy
      simp; omega
  induction l using linesL.induct generalizing x with
  | case1 => simp [linesL] at h; simp [h]
  | case2 a ih => simp only [linesL] at h; have := one (fun y hy => ih hy) h; simpa using this
  | case3 a b ih1 ih2 =>
    simp only [linesL, List.mem_append] at h
    rcases h with h | h
    · have := one (fun y hy => ih1 hy) h; simp at this ⊢; omega
    · have := one (fun y hy => ih2 hy) h; simp at this ⊢; omega
  | case4 a b c r ih1 ih2 ih3 =>
    simp only [linesL, List.mem_append] at h
    rcases h with (h | h) | h
    · have := one (fun y hy => ih1 hy) h; simp at this ⊢; omega
    · have := one (fun y hy => ih2 hy) h; simp at this ⊢; omega
    · have := one (fun y hy => ih3 hy) h; simp at this ⊢; omega
theorem pow3_le {n : Nat} (h : n ≤ 8) : 3 ^ n ≤ 6561 := Nat.pow_le_pow_right (by decide) h
theorem lines_len {vs : List Value} {l : List Nat} (h : StrsAre vs ((linesL l).map TX)) (hl : l.length ≤ 8) : vs.length ≤ 6561 := by
  rw [h.length, List.length_map]
  exact Nat.le_trans (linesL_len l) (pow3_le hl)
theorem lines_each {l : List Nat} {y : Str} (hy : y ∈ (linesL l).map TX) (hl : l.length ≤ 8) : y.length ≤ 8 := by
  obtain ⟨x, hx, rfl⟩ := List.mem_map.mp hy
  have := linesL_mem hx
  show x.toArray.size ≤ 8
  rw [List.size_toArray]; omega
theorem lenC {prog : Program} {w : World} {A : Around} {E : Value → Shared → Prop} {s : Shared} {l : List Nat} {t : Tok} {Q : Value → Shared → Prop} (hl : l.length ≤ 1000) (h : ∀ k tk, Q (.int (l.length : Nat) k) { s with toks := tk }) : wpAny (model prog w) A (call (.builtin "len") [.str (Str.mk l.toArray) t]) Q E s := by
  have e : (Str.mk l.toArray).length = l.length := by simp [Str.length]
  refine len_str (by rw [e]; omega) ?_
  rw [e]; exact h _ _
theorem minC (n : Nat) : (if ((n + 1 + 1 + 1 : Nat) : Int) < 3 then ((n + 1 + 1 + 1 : Nat) : Int) else 3) = 3 := if_neg (by omega)
theorem ne_nil {a : Nat} {l : List Nat} : (Str.mk (a :: l).toArray == Str.ofString "") ≠ true := by
  intro h
  have h := eq_of_beq h
  rw [Str.mk.injEq] at h
  have h2 := congrArg Array.toList h
  exact absurd h2 (by simp; exact List.cons_ne_nil _ _)
end Mine
namespace Mine
def Stop (p : Prop) : Prop := p
theorem stop {p : Prop} (h : Stop p) : p := h
def fnAt (n : Nat) : List Stmt × Scope := match PySem.Challenge.pw_mj0076_01.main.body[n]? with | some (.FunctionDef _ _ b _ _ _ sc _ _ _) => (b, sc) | _ => ([], default)
theorem ov1 {m : Str → Option Value} {x : Str} {v : Value} (h : m x = some v) : m = fun y => if y = x then some v else m y := by
  funext y
  by_cases e : y = x
  · subst e; simp [h]
  · simp [e]
theorem fr_eq {h₀ h : Heap} {L : Addr} {m m' : Str → Option Value} (F : Fr h₀ L h m') (e : ∀ y, m' y = m y) : Fr h₀ L h m := (funext e : m' = m) ▸ F
theorem lenTX (l : List Nat) : (TX l).length = l.length := by simp [TX, Str.length]
section
variable {prog : Program} {w : World} {A : Around} {E : Value → Shared → Prop} {s : Shared} {env : Env} {h₀ : Heap} {x : Str} {body : List Stmt} {Q : Flow → Shared → Prop} {L : Addr} {m : Str → Option Value} {news : List (Addr × Obj)}
theorem newList0 {Q : Value → Shared → Prop} {vs : List Value} (hsz : vs.length ≤ 1000) (F : Fr h₀ L s.heap m) (N : News h₀ L s.heap news)
    (h : ∀ D h', Fr h₀ L h' m → News h₀ L h' ((D, listOf vs.toArray 0) :: news) → (∀ p ∈ news, p.1 < D) → @LT.lt Nat _ L D → Q (.ref D) { s with heap := h' }) : wpAny (model prog w) A (newList vs) Q E s := by
  refine wpAny_newList (h _ _ (F.push _) ?_ (fun p hp => Heap.lt_size (N p hp).1) F.ns.lt) (hsz := by rw [sizeLine_eq]; omega)
  exact (news_add F N (fun b o e => Heap.get?_push_of_some _ e) (Nat.le_refl _) (Heap.get?_push_size _ rfl)).2.1
theorem rangeRest_inv {I : Addr} {a : Int} {n : Nat} (J : Nat → (Str → Option Value) → List (Addr × Obj) → Prop) (h0 : J 0 m news)
    (turn : ∀ i m₁ news₁, i < n → J i m₁ news₁ → ∀ t h tk, Fr h₀ env.locals h (fun y => if y = x then some (.int (a + (i : Int)) t) else m₁ y) → News h₀ env.locals h ((I, itR (a + ((i + 1 : Nat) : Int)) ((n : Int) - ((i + 1 : Nat) : Int))) :: news₁) →
      wpAny (model prog w) A (execs body env) (UnrPost h₀ env.locals { s with heap := h, toks := tk } I (itR (a + ((i + 1 : Nat) : Int)) ((n : Int) - ((i + 1 : Nat) : Int))) (J (i + 1)) Q) E { s with heap := h, toks := tk })
    (done : ∀ m₁ news₁ h tk, J n m₁ news₁ → Fr h₀ env.locals h m₁ → News h₀ env.locals h news₁ → Q .next { s with heap := h, toks := tk }) :
    RangeRest prog w A E h₀ env x body Q s I a n n 0 m news := by
  have key : ∀ (j i : Nat) (m₁ : Str → Option Value) (news₁ : List (Addr × Obj)), i + j = n → J i m₁ news₁ → RangeRest prog w A E h₀ env x body Q s I a n j i m₁ news₁ := by
    intro j
    induction j with
    | zero =>
      intro i m₁ news₁ e hI
      have : i = n := by omega
      subst this
      exact RangeRest.zero fun h' tk F' N' => done m₁ news₁ h' tk hI F' N'
    | succ j ih =>
      intro i m₁ news₁ e hI
      refine RangeRest.succ fun t h tk F' N' => ?_
      refine wpAny_mono (turn i m₁ news₁ (by omega) hI t h tk F' N') (fun f s₂ h₂ => ?_) fun _ _ e => e
      have up : UnrEnd h₀ env.locals { s with heap := h, toks := tk } I (itR (a + ((i + 1 : Nat) : Int)) ((n : Int) - ((i + 1 : Nat) : Int))) (J (i + 1)) s₂ → UnrEnd h₀ env.locals { s with heap := h, toks := tk } I (itR (a + ((i + 1 : Nat) : Int)) ((n : Int) - ((i + 1 : Nat) : Int))) (RangeRest prog w A E h₀ env x body Q s I a n j (i + 1)) s₂ := by
        rintro ⟨h', tk', m', news', e', F'', N'', off, r⟩
        exact ⟨h', tk', m', news', e', F'', N'', off, ih (i + 1) m' news' (by omega) r⟩
      cases f with
      | ret v => exact h₂
      | brk => exact h₂
      | next => exact up h₂
      | cont => exact up h₂
  exact key n 0 m news (by omega) h0
end
theorem lenT {prog : Program} {w : World} {A : Around} {E : Value → Shared → Prop} {s : Shared} {l : List Nat} {t : Tok} {Q : Value → Shared → Prop} (hl : l.length ≤ 1000) (h : ∀ k tk, Q (.int (l.length : Nat) k) { s with toks := tk }) : wpAny (model prog w) A (call (.builtin "len") [.str (TX l) t]) Q E s := lenC hl h
end Mine
namespace Mine
theorem slTo {l : List Nat} {n : Nat} (h : n ≤ l.length) : Txt.slice (TX l) none (some (n : Int)) = TX (l.take n) := slice_to l n h
theorem slFrom {l : List Nat} {n : Nat} (h : n ≤ l.length) : Txt.slice (TX l) (some (n : Int)) none = TX (l.drop n) := slice_from l n h
theorem law_code {w : World} {mean : ExcName → Option Value} {mg mb : Str → Option Value} {dp un : Nat} {fr : Option (List Env)} {gd : Option (List Code)} {E : Value → Shared → Prop} {s : Shared} {Q : Value → Shared → Prop} {p : List Nat} {t : Tok} (h1 : 1 ≤ p.length) (h3 : p.length ≤ 3)
    (X : Frag.In (Mine.hd.heap_39 w.params) s.heap) (T : Top Mine.hd.view_39 (looseW Mine.hd.view_39 [Str.ofString "_initial_missing", Str.ofString "reduce"]) mean mg mb s.heap) (hroom : dp < recursionLimit)
    (hn : ∀ h' tk', codeL p = none → HK s.heap h' → Q .none { s with heap := h', toks := tk' })
    (hs : ∀ k h' tk tk', codeL p = some k → HK s.heap h' → Q (.int (k : Nat) tk) { s with heap := h', toks := tk' }) :
    wpAny (model PySem.Challenge.rw_mj0076_01.row.prog w) (Around.mk none dp fr gd un) (call (.ref 72) [.str (TX p) t]) Q E s := by
  match p, h1, h3 with
  | [a], _, _ => exact law_code1 X T hroom hn hs
  | [a, b], _, _ => exact law_code2 X T hroom hn hs
  | [a, b, c], _, _ => exact law_code3 X T hroom hn hs
  | a :: b :: c :: d :: r, _, h => simp at h
def accF (l : List Nat) : Nat → List (List Nat)
  | 0 => []
  | i + 1 => accF l i ++ oneL (l.take (i + 1)) (linesL (l.drop (i + 1)))
theorem accF_all (l : List Nat) (n : Nat) (h1 : 1 ≤ l.length) (hn : n = if l.length < 3 then l.length else 3) : accF l n = linesL l := by
  match l, h1 with
  | [a], _ => simp at hn; subst hn; simp [accF, linesL]
  | [a, b], _ => simp at hn; subst hn; simp [accF, linesL]
  | a :: b :: c :: r, _ =>
    have : n = 3 := by rw [hn, if_neg (by simp only [List.length_cons]; omega)]
    subst this
    simp [accF, linesL]
def stLB : List Stmt := match (fnAt 13).1 with | [_, _, .For _ _ b _ _, _] => b | _ => []
def stLT : List Stmt := (fnAt 13).1
def scLL : Scope := (fnAt 13).2
theorem one_len {l : List Nat} {n : Nat} (h : l.length ≤ 8) : (oneL (l.take n) (linesL (l.drop n))).length ≤ 6561 := by
  have a : ∀ (p : List Nat) (ls : List (List Nat)), (oneL p ls).length ≤ ls.length := fun p ls => by unfold oneL; split <;> simp
  have b := linesL_len (l.drop n)
  have c := pow3_le (n := (l.drop n).length) (by rw [List.length_drop]; omega)
  exact Nat.le_trans (a _ _) (Nat.le_trans b c)
local macro_rules | `(tactic| walk_at "subscriptTail Name Slice str ref") => `(tactic| k_dflt ((with_reducible show wpAny _ _ (subscriptTail _ (Expr.Slice none (some _) none _) (Value.str (TX _) _) _) _ _ _); (with_reducible rename Fr _ _ _ _ => F'); (with_reducible rename News _ _ _ _ => N'); (refine slice_strN_ns (hsz := ?hsz) (s := ⟨_, _, _, _, _⟩) F' N' ?_); (case hsz => (rw [lenTX, sizeLine_eq]; omega)); intro h' t' k F2 N2; clear F' N'; (try dsimp only); rw [slTo (by assumption)]))
local macro_rules | `(tactic| walk_at "subscriptTail Name Slice str ref") => `(tactic| k_dflt ((with_reducible show wpAny _ _ (subscriptTail _ (Expr.Slice (some _) none none _) (Value.str (TX _) _) _) _ _ _); (with_reducible rename Fr _ _ _ _ => F'); (with_reducible rename News _ _ _ _ => N'); (refine slice_strN_sn (hsz := ?hsz) (s := ⟨_, _, _, _, _⟩) F' N' ?_); (case hsz => (rw [lenTX, sizeLine_eq]; omega)); intro h' t' k F2 N2; clear F' N'; (try dsimp only); rw [slFrom (by assumption)]))
local macro_rules | `(tactic| walk_at "call ref") => `(tactic| (k_here; refine stop ?_))
local macro_rules | `(tactic| walk_at "CompSrc") => `(tactic| (k_here; refine stop ?_))
local macro_rules | `(tactic| walk_at "eval ListComp") => `(tactic| k_dflt (k_here; refine LCg.ListComp_U (F₀ := by k_asm) (by with_unfolding_all rfl) (by decide) (by rfl) (by decide) (by rfl) ?_))
local macro_rules | `(tactic| walk_at "binaryOp Add str str") => `(tactic| k_dflt (k_here; (refine SBL.add (hsz := ?hsz) ?_); (case hsz => (rw [sizeLine_eq]; (simp only [lenS1]); omega)); intro _ _ _))
local macro_rules | `(tactic| k_all) => `(tactic| assumption)
theorem lines_turn {w : World} {mean : ExcName → Option Value} {mg mb : Str → Option Value} {dp un : Nat} {fr : Option (List Env)} {gd : Option (List Code)} {E : Value → Shared → Prop} {s : Shared} {Q : Flow → Shared → Prop} {body : List Stmt} {sc : Scope} (hs : stLB = body) (hsc : scLL = sc) {h₀ : Heap} {L D : Addr} {m : Str → Option Value} {rest : List (Addr × Obj)} {oc : Obj} {cv : Option Value} {acc : List Value} {nl n : Nat} {l : List Nat} {t1 t3 : Tok}
    (X : Frag.In (Mine.hd.heap_39 w.params) h₀) (T : Top Mine.hd.view_39 (looseW Mine.hd.view_39 [Str.ofString "_initial_missing", Str.ofString "reduce"]) mean mg mb h₀) (hroom : dp + l.length + 1 < recursionLimit) (hl8 : l.length ≤ 8) (IH : LinesIH w mean mg mb l.length)
    (F : Fr h₀ L s.heap m) (N : News h₀ L s.heap ((D, listOf acc.toArray nl) :: (L + 1, oc) :: rest)) (hoc : oc.data = .cell cv)
    (hDc : D ≠ L + 1) (hDr : ∀ p ∈ rest, p.1 ≠ D) (hcr : ∀ p ∈ rest, p.1 ≠ L + 1)
    (m1 : m (Str.ofString "text") = some (.str (TX l) t1)) (m3 : m (Str.ofString "size") = some (.int (n : Nat) t3)) (m5 : m (Str.ofString "lines") = some (.ref D))
    (hn1 : 1 ≤ n) (hn3 : n ≤ 3) (hnl : n ≤ l.length) (hacc : acc.length ≤ 200000)
    (h : ∀ ys h' tk nl' oc' cv', StrsAre ys ((oneL (l.take n) (linesL (l.drop n))).map TX) → Fr h₀ L h' m → oc'.data = .cell cv' → News h₀ L h' ((D, listOf (acc ++ ys).toArray nl') :: (L + 1, oc') :: rest) → Q .next { s with heap := h', toks := tk }) :
    wpAny (model PySem.Challenge.rw_mj0076_01.row.prog w) ((Around.mk none dp fr gd un).deeper (envOfC (Str.ofString "_law_lines") sc L 77 (.ref 76))) (execs body (envOfC (Str.ofString "_law_lines") sc L 77 (.ref 76))) Q E s := by
  have e1 := (show stLB = [_, _] from rfl)
  have e2 := (show scLL = Scope.mk _ _ _ _ _ from rfl)
  rw [e1] at hs
  rw [e2] at hsc
  subst hs hsc
  clear e1 e2
  rw [ov1 m1, ov1 m3, ov1 m5] at F
  dsimp only at F
  revert X; k_fill; intro X; (try k_fold)
  k_steps
  with_reducible rename Fr _ _ _ _ => F1
  with_reducible rename News _ _ _ _ => N1
  (refine' law_code (p := l.take n) ?k0 ?k00 ?k1 ?k2 ?k3 ?_ ?_)
  case k0 => rw [List.length_take]; omega
  case k00 => rw [List.length_take]; omega
  case k1 => k_in
  case k2 => (exact Top.keeps (by assumption) (Fr.keep (by assumption)))
  case k3 => ((try simp only [depth_deeper, depth_in1]); (try dsimp only); omega)
  · intro h' tk' hc hk
    have F2 := Fr.keeps F1 hk
    have N2 := News.keeps N1 hk
    clear F1 N1 hk
    (try dsimp only at F2 N2 ⊢)
    k_steps
    refine h [] _ _ nl _ _ ?_ (fr_eq (by assumption) fun y => ?_) (by assumption) ?_
    · rw [oneL_none hc]; exact .nil
    · (try dsimp only)
      repeat' split
      all_goals (first | rfl | (subst_vars; simp only [m1, m3, m5]; done))
    · rw [List.append_nil]; assumption
  · intro k h' tk tk' hc hk
    have hlt := codeL_lt hc
    have F2 := Fr.keeps F1 hk
    have N2 := News.keeps N1 hk
    clear F1 N1 hk
    (try dsimp only at F2 N2 ⊢)
    k_steps
    with_reducible rename Fr _ _ _ _ => F1
    with_reducible rename News _ _ _ _ => N1
    (refine' IH (l.drop n) ?k0 _ _ _ _ _ _ _ _ ?k1 ?k2 ?k3 ?_)
    case k0 => rw [List.length_drop]; omega
    case k1 => k_in
    case k2 => (exact Top.keeps (by assumption) (Fr.keep (by assumption)))
    case k3 => (try simp only [depth_deeper, List.length_drop]); (try dsimp only); omega
    intro D3 v3 h3 tk3 hk3 hD3 hP3 hS3
    obtain ⟨n3, hP3⟩ := hP3
    obtain ⟨F3, N3, lt3⟩ := news_add F1 N1 hk3 hD3 hP3
    have hv3 := lines_len hS3 (by rw [List.length_drop]; omega)
    clear F1 N1 hk3 hD3 hP3
    (try dsimp only at F3 N3 ⊢)
    k_steps
    refine LCg.CompSrc.ledger (by rfl) F3 N3 (.head _) (by rw [List.size_toArray, sizeLine_eq]; omega) ?_
    intro g'
    refine' strs_rest (gOf hc) hS3 ?turn ?_
    case turn =>
      intro k' t' I' oI' C' oC' D' m' ys' h' tk' E' hk' hC' hx' F' N' off' ne'
      have hln := lines_each hk' (by rw [List.length_drop]; omega)
      clear F3 N3
      k_steps
      exact ⟨_, _, _, rfl, F', N', off', .inr ⟨_, .head _, rfl, _, rfl⟩, rfl, _, rfl⟩
    intro ys' hys' hyl' D' h' tk' F' N' o1
    clear F3 N3
    have hD3 : D ≠ D3 := Nat.ne_of_lt (lt3 _ (.head _))
    refine iaddK F' N' (.head _) (UpdF.tail (fun e => o1.2.1 e.symm) (UpdF.tail (fun e => hD3 e.symm) (UpdF.head (List.forall_mem_cons.mpr ⟨fun e => hDc e.symm, hDr⟩)))) (by omega) ?_
    intro h' n' F' N'
    (try dsimp only at N')
    k_steps
    refine h ys' _ _ _ _ _ ?_ (fr_eq (by assumption) fun y => ?_) (by assumption) (fun p hp => (by assumption : News _ _ _ _) p (.tail _ (.tail _ hp)))
    · exact piece hys'
    · (try dsimp only)
      repeat' split
      all_goals (first | rfl | (subst_vars; simp only [m1, m3, m5]; done))
theorem ne_t1 : ¬ Str.ofString "text" = Str.ofString "size" := by decide +kernel
theorem ne_t2 : ¬ Str.ofString "lines" = Str.ofString "size" := by decide +kernel
theorem lines_loop {w : World} {mean : ExcName → Option Value} {mg mb : Str → Option Value} {dp un : Nat} {fr : Option (List Env)} {gd : Option (List Code)} {E : Value → Shared → Prop} {s : Shared} {Q : Flow → Shared → Prop} {body : List Stmt} {sc : Scope} (hs : stLB = body) (hsc : scLL = sc) {h₀ : Heap} {L D r : Addr} {m : Str → Option Value} {rest : List (Addr × Obj)} {oc : Obj} {cv : Option Value} {b : Int} {l : List Nat} {t1 u1 u2 u3 : Tok}
    (X : Frag.In (Mine.hd.heap_39 w.params) h₀) (T : Top Mine.hd.view_39 (looseW Mine.hd.view_39 [Str.ofString "_initial_missing", Str.ofString "reduce"]) mean mg mb h₀) (hroom : dp + l.length + 1 < recursionLimit) (hl1 : 1 ≤ l.length) (hl8 : l.length ≤ 8) (IH : LinesIH w mean mg mb l.length)
    (hr : IsRange s.heap r 1 b 1 u1 u2 u3) (hb : b = (if (l.length : Int) < 3 then (l.length : Int) else 3) + 1)
    (F : Fr h₀ L s.heap m) (N : News h₀ L s.heap ((D, listOf #[] 0) :: (L + 1, oc) :: rest)) (hoc : oc.data = .cell cv) (hcr : ∀ p ∈ rest, p.1 ≠ L + 1) (hD : ∀ p ∈ (L + 1, oc) :: rest, p.1 < D)
    (m1 : m (Str.ofString "text") = some (.str (TX l) t1)) (m5 : m (Str.ofString "lines") = some (.ref D))
    (h : ∀ ys h' tk nl' oc' sv, StrsAre ys ((linesL l).map TX) → Fr h₀ L h' (fun y => if y = Str.ofString "size" then sv else m y) → News h₀ L h' ((D, listOf ys.toArray nl') :: (L + 1, oc') :: rest) → Q .next { s with heap := h', toks := tk }) :
    wpAny (model PySem.Challenge.rw_mj0076_01.row.prog w) ((Around.mk none dp fr gd un).deeper (envOfC (Str.ofString "_law_lines") sc L 77 (.ref 76))) (pyIter (.ref r)) (fun it s₂ => LoopAtV PySem.Challenge.rw_mj0076_01.row.prog w ((Around.mk none dp fr gd un).deeper (envOfC (Str.ofString "_law_lines") sc L 77 (.ref 76))) h₀ (envOfC (Str.ofString "_law_lines") sc L 77 (.ref 76)) (Str.ofString "size") body Q E it s₂) E s := by
  have hDc : D ≠ L + 1 := Ne.symm (Nat.ne_of_lt (hD _ (.head _)))
  have hDr : ∀ p ∈ rest, p.1 ≠ D := fun p hp => Nat.ne_of_lt (hD _ (.tail _ hp))
  have hn : ∃ n : Nat, (n = if l.length < 3 then l.length else 3) ∧ b = (n : Int) + 1 := ⟨_, rfl, by rw [hb]; split <;> split <;> omega⟩
  obtain ⟨n, hn, hb'⟩ := hn
  have hn3 : n ≤ 3 ∧ n ≤ l.length := by rw [hn]; split <;> omega
  have hn1 : n = 1 ∨ n = 2 ∨ n = 3 := by rw [hn]; split <;> omega
  subst hb'
  refine iter_rangeUnr (n := n) (by rfl) hr ?_ ?_ F N fun I hI => ?_
  · rcases hn1 with e | e | e <;> rw [e] <;> decide
  · rcases hn1 with e | e | e <;> rw [e] <;> decide
  have hIr : ∀ p ∈ rest, p.1 ≠ I := fun p hp => Nat.ne_of_lt (hI _ (.tail _ (.tail _ hp)))
  have hID : I ≠ D := Ne.symm (Nat.ne_of_lt (hI _ (.head _)))
  have hIc : I ≠ L + 1 := Ne.symm (Nat.ne_of_lt (hI _ (.tail _ (.head _))))
  refine rangeRest_inv (J := fun i m' news' => ∃ acc nl' oc' cv' sv, StrsAre acc ((accF l i).map TX) ∧ acc.length ≤ i * 6561 ∧ oc'.data = .cell cv' ∧ m' = (fun y => if y = Str.ofString "size" then sv else m y) ∧ news' = (D, listOf acc.toArray nl') :: (L + 1, oc') :: rest) ?start ?turn ?done
  case start =>
    refine ⟨[], 0, oc, cv, m (Str.ofString "size"), .nil, by simp, hoc, ?_, rfl⟩
    funext y
    split
    · subst_vars; rfl
    · rfl
  case done =>
    rintro m₁ news₁ h' tk ⟨acc, nl', oc', cv', sv, hy, hyl, hc, rfl, rfl⟩ F' N'
    rw [accF_all l n hl1 hn] at hy
    exact h acc h' tk nl' oc' sv hy F' N'
  case turn =>
    rintro i m₁ news₁ hi ⟨acc, nl', oc', cv', sv, hy, hyl, hc, rfl, rfl⟩ t h₁ tk₁ F₁ N₁
    rw [show (1 : Int) + (i : Int) = ((i + 1 : Nat) : Int) by omega] at F₁
    generalize itR (1 + ((i + 1 : Nat) : Int)) ((n : Int) - ((i + 1 : Nat) : Int)) = oI at N₁
    have N₂ : News h₀ L h₁ ((D, listOf acc.toArray nl') :: (L + 1, oc') :: (I, oI) :: rest) := fun p hp => N₁ p (by
      rcases List.mem_cons.mp hp with e | hp
      · exact .tail _ (e ▸ .head _)
      · rcases List.mem_cons.mp hp with e | hp
        · exact .tail _ (.tail _ (e ▸ .head _))
        · rcases List.mem_cons.mp hp with e | hp
          · exact e ▸ .head _
          · exact .tail _ (.tail _ (.tail _ hp)))
    clear N₁
    refine lines_turn (hs := hs) (hsc := hsc) (n := i + 1) (l := l) X T hroom hl8 IH F₁ N₂ hc hDc ?_ ?_ ((if_neg ne_t1).trans ((if_neg ne_t1).trans m1)) (if_pos rfl) ((if_neg ne_t2).trans ((if_neg ne_t2).trans m5)) (by omega) (by omega) (by omega) (by omega) ?_
    · intro p hp
      rcases List.mem_cons.mp hp with e | hp
      · rw [e]; exact hID
      · exact hDr p hp
    · intro p hp
      rcases List.mem_cons.mp hp with e | hp
      · rw [e]; exact hIc
      · exact hcr p hp
    · intro ys h' tk nl2 oc2 cv2 hys F' hc2 N'
      refine ⟨h', tk, _, (D, listOf (acc ++ ys).toArray nl2) :: (L + 1, oc2) :: rest, rfl, F', fun p hp => N' p ?_, ?_, acc ++ ys, nl2, oc2, cv2, some (.int ((i + 1 : Nat) : Int) t), ?_, ?_, hc2, ?_, rfl⟩
      · rcases List.mem_cons.mp hp with e | hp
        · exact .tail _ (.tail _ (e ▸ .head _))
        · rcases List.mem_cons.mp hp with e | hp
          · exact e ▸ .head _
          · rcases List.mem_cons.mp hp with e | hp
            · exact .tail _ (e ▸ .head _)
            · exact .tail _ (.tail _ (.tail _ hp))
      · intro p hp
        rcases List.mem_cons.mp hp with e | hp
        · rw [e]; exact Ne.symm hID
        · rcases List.mem_cons.mp hp with e | hp
          · rw [e]; exact Ne.symm hIc
          · exact hIr p hp
      · rw [accF, List.map_append]
        exact StrsAre.append' hy hys
      · have e1 := hys.length
        rw [List.length_map] at e1
        have e2 := one_len (l := l) (n := i + 1) hl8
        rw [List.length_append]; omega
      · funext y
        by_cases a2 : y = Str.ofString "size"
        · rw [if_pos a2, if_pos a2]
        · simp only [if_neg a2]
theorem law_lines0 {w : World} {mean : ExcName → Option Value} {mg mb : Str → Option Value} : LinesOK w mean mg mb [] := by
  intro dp un fr gd E s Q t X T hroom h
  (revert X; k_fill; intro X; k_dflt (refine' enter_fnC (K := (Mine.hd.heap_39 w.params)) (binds := [(Str.ofString "text", .str (Str.mk #[]) t)]) ?e1 ?e2 ?e3 ?e4 ?e5 ?e6 ?e7 ?ec ?_ ?e8 ?e9 ?ea; (case e1 => assumption); (case e2 => exact Top.nolimit (by assumption)); (case e3 => k_is); (case e4 => k_is); (case e5 => (try simp only [depth_deeper, depth_in1]); (try dsimp only); omega); (case e6 => exact BindsTo.of_eq rfl); (case e7 => exact rfl); (case ec => decide +kernel); (case e8 => exact rfl); (case e9 => exact rfl); (case ea => exact rfl)); intro L h₁ tk₀ cells F N Y; k_cells Y; (try dsimp only); (try k_fold))
  k_steps
  refine h _ _ _ _ (Fr.keep (by assumption)) ?_ ⟨_, News.get (by assumption) (by k_mem)⟩ ?_
  · (have hz : s.heap.objs.size ≤ L := Fr.above (by assumption)); omega
  · exact .cons _ _ .nil
theorem ne_nilT {a : Nat} {l : List Nat} : (TX (a :: l) == Str.ofString "") ≠ true := ne_nil
local macro_rules | `(tactic| walk_at "newList") => `(tactic| k_dflt (k_here; (refine newList0 (by decide) (by k_asm) (by k_asm) ?_); intro D' h' F' N' l1 l2; (try dsimp only)))
local macro_rules | `(tactic| walk_at "call builtin:len") => `(tactic| k_dflt (k_here; (refine lenT (by assumption) ?_); intro _ _; (try dsimp only)))
local macro_rules | `(tactic| walk_at "call builtin:min") => `(tactic| k_dflt ((with_reducible show wpAny _ _ (call (Value.builtin _) [Value.int 3 _, Value.int (Nat.cast _) _]) _ _ _); (with_reducible rename News _ _ _ _ => N'); (with_unfolding_all apply min_two_N); (case hh => with_unfolding_all rfl); (case N => exact N'); (case F => assumption); clear N'; intro _ _ _ _))
local macro_rules | `(tactic| walk_at "pyIter ref") => `(tactic| (k_here; refine stop ?_))
theorem law_lines1 {w : World} {mean : ExcName → Option Value} {mg mb : Str → Option Value} {a : Nat} {r : List Nat} (hl8 : (a :: r).length ≤ 8) (IH : LinesIH w mean mg mb (a :: r).length) : LinesOK w mean mg mb (a :: r) := by
  intro dp un fr gd E s Q t X T hroom h
  have hl1 : 1 ≤ (a :: r).length := by simp
  have hne := ne_nilT (a := a) (l := r)
  have hL : (a :: r).length ≤ 1000 := by omega
  change wpAny _ _ (call _ [Value.str (TX (a :: r)) t]) _ _ _
  generalize a :: r = l at *
  (revert X; k_fill; intro X; k_dflt (refine' enter_fnC (K := (Mine.hd.heap_39 w.params)) (binds := [(Str.ofString "text", .str (TX l) t)]) ?e1 ?e2 ?e3 ?e4 ?e5 ?e6 ?e7 ?ec ?_ ?e8 ?e9 ?ea; (case e1 => assumption); (case e2 => exact Top.nolimit (by assumption)); (case e3 => k_is); (case e4 => k_is); (case e5 => (try simp only [depth_deeper, depth_in1]); (try dsimp only); omega); (case e6 => exact BindsTo.of_eq rfl); (case e7 => exact rfl); (case ec => decide +kernel); (case e8 => exact rfl); (case e9 => exact rfl); (case ea => exact rfl)); intro L h₁ tk₀ cells F N Y; k_cells Y; (try dsimp only); (try k_fold))
  k_steps
  with_reducible rename IsRange _ _ _ _ _ _ _ _ => hrg
  with_reducible rename Fr _ _ _ _ => F1
  with_reducible rename News _ _ _ _ => N1
  (refine' lines_loop (hs := ?k1) (hsc := ?k2) (l := l) ?k4 ?k5 ?k3 hl1 hl8 IH hrg ?k6 F1 N1 ?k7 ?k8 ?k9 ?ka ?kb ?_)
  case k1 => rfl
  case k2 => rfl
  case k4 => assumption
  case k5 => assumption
  case k3 => assumption
  case k6 => rfl
  case k7 => assumption
  case k8 => exact fun p hp => nomatch hp
  case k9 => assumption
  case ka => rfl
  case kb => rfl
  intro ys h' tk nl' oc' sv hys F' N'
  clear F1 N1 hrg
  k_steps
  refine h _ _ _ _ (Fr.keep (by assumption)) ?_ ⟨_, News.get (by assumption) (.head _)⟩ hys
  (have hz : s.heap.objs.size ≤ L := Fr.above (by assumption))
  omega
theorem law_lines {w : World} {mean : ExcName → Option Value} {mg mb : Str → Option Value} : ∀ (n : Nat) (l : List Nat), l.length ≤ 8 → l.length < n → LinesOK w mean mg mb l := by
  intro n
  induction n with
  | zero => intro l _ h; omega
  | succ n ih =>
    intro l h8 hn
    have IH : LinesIH w mean mg mb l.length := fun l' hl' => ih l' (by omega) (by omega)
    match l, h8, IH with
    | [], _, _ => exact law_lines0
    | a :: r, h8, IH => exact law_lines1 h8 IH
end Mine
namespace Mine
def stIf : Stmt := match (fnAt 14).1 with | [_, _, _, _, _, .For _ _ [.For _ _ [x] _ _] _ _, _] => x | _ => .Pass default
def stSc : Scope := (fnAt 14).2
theorem slL {lg : List Nat} {n : Nat} (h1 : 1 ≤ n) (h : n ≤ lg.length) : Txt.slice (TX lg) (some (-(n : Int))) none = TX (lg.drop (lg.length - n)) := slice_last lg n h1 h
theorem seqNeg {n len : Nat} (h1 : 1 ≤ n) (h : n ≤ len) : seqIndex? (-(n : Int)) len = some (len - n) := by
  unfold seqIndex?
  have a : (-(n : Int)) < 0 := by omega
  have b : (-(n : Int)) + (len : Int) = ((len - n : Nat) : Int) := by omega
  simp only [a, if_true, b]
  have c : (decide (0 ≤ ((len - n : Nat) : Int)) && decide (((len - n : Nat) : Int) < (len : Int))) = true := by
    rw [Bool.and_eq_true, decide_eq_true_eq, decide_eq_true_eq]; omega
  rw [if_pos c, Int.toNat_natCast]
theorem each8 {row : List (List Nat)} {y : Str} (hb : ∀ x ∈ row, x.length ≤ 8) (hy : y ∈ row.map TX) : y.length ≤ 8 := by
  obtain ⟨x, hx, rfl⟩ := List.mem_map.mp hy
  rw [lenTX]; exact hb x hx
def gS (k : Nat) : Str → Str := fun y => y ++ TX [k]
theorem gS_map (k : Nat) (ls : List (List Nat)) : (ls.map TX).map (gS k) = (ls.map (· ++ [k])).map TX := by
  simp only [List.map_map]
  refine List.map_congr_left fun x _ => ?_
  show TX x ++ TX [k] = TX (x ++ [k])
  unfold TX
  rw [str_app]
  simp
theorem TX_eqb {a b : List Nat} : (TX a == TX b) = decide (a = b) := by
  by_cases h : a = b
  · subst h; simp
  · rw [decide_eq_false h]
    refine beq_eq_false_iff_ne.mpr fun e => h ?_
    unfold TX at e
    rw [Str.mk.injEq] at e
    simpa using e
local macro_rules | `(tactic| walk_at "subscriptTail Name Slice str ref") => `(tactic| k_dflt ((with_reducible show wpAny _ _ (subscriptTail _ (Expr.Slice (some _) none none _) (Value.str (Str.mk _) _) _) _ _ _); (with_reducible rename Fr _ _ _ _ => F'); (with_reducible rename News _ _ _ _ => N'); (refine slice_strN_sn (hsz := ?hsz) (s := ⟨_, _, _, _, _⟩) F' N' ?_); (case hsz => (show List.length _ ≤ _; simp only [List.length_cons, List.length_nil] at *; rw [sizeLine_eq]; omega)); intro h' t' k F2 N2; clear F' N'; (try dsimp only); simp only [nn1, nn2, nn3, slf1, slf2, slf3]))
local macro_rules | `(tactic| walk_at "subscriptTail Name Slice str ref") => `(tactic| k_dflt ((with_reducible show wpAny _ _ (subscriptTail _ (Expr.Slice none (some _) none _) (Value.str (Str.mk _) _) _) _ _ _); (with_reducible rename Fr _ _ _ _ => F'); (with_reducible rename News _ _ _ _ => N'); (refine slice_strN_ns (hsz := ?hsz) (s := ⟨_, _, _, _, _⟩) F' N' ?_); (case hsz => (show List.length _ ≤ _; simp only [List.length_cons, List.length_nil] at *; rw [sizeLine_eq]; omega)); intro h' t' k F2 N2; clear F' N'; (try dsimp only); simp only [nn1, nn2, nn3, slt1, slt2, slt3]))
local macro_rules | `(tactic| walk_at "call ref") => `(tactic| k_dflt (k_here; (with_reducible rename LinesIH _ _ _ _ _ => IH); (refine' IH _ ?k0 _ _ _ _ _ _ _ _ ?k1 ?k2 ?k3 ?_; (case k0 => (simp only [List.length_cons, List.length_nil]; omega)); (case k1 => k_in); (case k2 => (exact Top.keeps (by assumption) (Fr.keep (by assumption)))); (case k3 => (try simp only [depth_deeper, List.length_cons, List.length_nil] at *); (try dsimp only); omega)); intro D' vs' h' tk' hk hD hP hS; obtain ⟨n', hP⟩ := hP; (have hv := lines_len hS (by simp only [List.length_cons, List.length_nil] at *; omega)); (with_reducible rename Fr _ _ _ _ => kF); (with_reducible rename News _ _ _ _ => kN); (obtain ⟨kF2, kN2, l1⟩ := news_add kF kN hk hD hP); clear kF kN hk hD hP; k_lt l1; (try dsimp only)))
local macro_rules | `(tactic| walk_at "call ref") => `(tactic| k_dflt (k_here; (with_reducible show wpAny _ _ (call _ [Value.str (Str.mk #[_]) _]) _ _ _); refine' law_code1 ?k1 ?k2 ?k3 ?_ ?_; (case k1 => k_in); (case k2 => (exact Top.keeps (by assumption) (Fr.keep (by assumption)))); (case k3 => (try simp only [depth_deeper, List.length_cons, List.length_nil] at *); (try dsimp only); omega); intro h' tk' hc hk; ((with_reducible rename Fr _ _ _ _ => kF); (with_reducible rename News _ _ _ _ => kN); (replace kF := Fr.keeps kF hk); (replace kN := News.keeps kN hk); clear hk; (try dsimp only)); rotate_left; intro k h' tk tk' hc hk; (have hlt := codeL_lt hc); ((with_reducible rename Fr _ _ _ _ => kF); (with_reducible rename News _ _ _ _ => kN); (replace kF := Fr.keeps kF hk); (replace kN := News.keeps kN hk); clear hk; (try dsimp only))))
local macro_rules | `(tactic| walk_at "call ref") => `(tactic| k_dflt (k_here; (with_reducible show wpAny _ _ (call _ [Value.str (Str.mk #[_, _]) _]) _ _ _); refine' law_code2 ?k1 ?k2 ?k3 ?_ ?_; (case k1 => k_in); (case k2 => (exact Top.keeps (by assumption) (Fr.keep (by assumption)))); (case k3 => (try simp only [depth_deeper, List.length_cons, List.length_nil] at *); (try dsimp only); omega); intro h' tk' hc hk; ((with_reducible rename Fr _ _ _ _ => kF); (with_reducible rename News _ _ _ _ => kN); (replace kF := Fr.keeps kF hk); (replace kN := News.keeps kN hk); clear hk; (try dsimp only)); rotate_left; intro k h' tk tk' hc hk; (have hlt := codeL_lt hc); ((with_reducible rename Fr _ _ _ _ => kF); (with_reducible rename News _ _ _ _ => kN); (replace kF := Fr.keeps kF hk); (replace kN := News.keeps kN hk); clear hk; (try dsimp only))))
local macro_rules | `(tactic| walk_at "call ref") => `(tactic| k_dflt (k_here; (with_reducible show wpAny _ _ (call _ [Value.str (Str.mk #[_, _, _]) _]) _ _ _); refine' law_code3 ?k1 ?k2 ?k3 ?_ ?_; (case k1 => k_in); (case k2 => (exact Top.keeps (by assumption) (Fr.keep (by assumption)))); (case k3 => (try simp only [depth_deeper, List.length_cons, List.length_nil] at *); (try dsimp only); omega); intro h' tk' hc hk; ((with_reducible rename Fr _ _ _ _ => kF); (with_reducible rename News _ _ _ _ => kN); (replace kF := Fr.keeps kF hk); (replace kN := News.keeps kN hk); clear hk; (try dsimp only)); rotate_left; intro k h' tk tk' hc hk; (have hlt := codeL_lt hc); ((with_reducible rename Fr _ _ _ _ => kF); (with_reducible rename News _ _ _ _ => kN); (replace kF := Fr.keeps kF hk); (replace kN := News.keeps kN hk); clear hk; (try dsimp only))))
local macro_rules | `(tactic| walk_at "eval ListComp") => `(tactic| k_dflt (k_here; refine LCg.ListComp_U (F₀ := by k_asm) (by with_unfolding_all rfl) (by decide) (by rfl) (by decide) (by rfl) ?_))
local macro_rules | `(tactic| walk_at "binaryOp Add str str") => `(tactic| k_dflt (k_here; (refine SBL.add (hsz := ?hsz) ?_); (case hsz => (rw [sizeLine_eq]; (simp only [lenS1]); omega)); intro _ _ _))
local macro_rules | `(tactic| walk_at "CompSrc") => `(tactic| k_dflt (k_here; (refine LCg.CompSrc.ledger (by rfl) (by k_asm) (by k_asm) (by k_mem) (by rw [List.size_toArray, sizeLine_eq]; omega) ?_); intro g'; (with_reducible rename (codeL _ = some _) => hcd); (refine' strs_rest (gOf hcd) (by assumption) ?turn ?_); (case turn => (intro k' t' I' oI' C' oC' D' m' ys' h' tk' E' hk' hC' hx' F' N' off' ne'; (have hln := lines_each hk' (by simp only [List.length_cons, List.length_nil] at *; omega)); (simp only [LCg.Off3, and_true] at off'); k_steps; exact ⟨rfl, _, rfl⟩)); intro ys' hys' hyl' D' h' tk' F' N' o1; (simp only [LCg.Off1, and_true] at o1); (try k_sweep); (try dsimp only)))
local macro_rules | `(tactic| walk_at "inplaceOp Add ref ref") => `(tactic| k_dflt (k_here; (refine' iaddK ?k1 ?k2 ?k3 ?k4 ?k5 ?_; (case k1 => k_asm); (case k2 => k_asm); (case k3 => k_mem); (case k4 => k_updF); (case k5 => ((try simp only [List.length_append, List.length_nil]); omega)); k_whole); intro h' n' F' N'; (try k_sweep); (try dsimp only)))
local macro_rules | `(tactic| walk_at "call builtin:len") => `(tactic| k_dflt (k_here; (with_reducible show wpAny _ _ (call (Value.builtin "len") [Value.str (Str.mk _) _]) _ _ _); (first | refine len1 ?_ | refine len2 ?_ | (refine lenC (by simp only [List.length_cons] at *; omega) ?_)); intro _ _; (try simp only [List.length_cons]); (try dsimp only)))
local macro_rules | `(tactic| walk_at "call builtin:min") => `(tactic| k_dflt ((with_reducible show wpAny _ _ (call (Value.builtin _) [Value.int 3 _, Value.int (Nat.cast _) _]) _ _ _); (with_reducible rename News _ _ _ _ => N'); (with_unfolding_all apply min_two_N); (case hh => with_unfolding_all rfl); (case N => exact N'); (case F => assumption); clear N'; intro _ _ _ _; rw [minC]))
local macro_rules | `(tactic| walk_at "subscriptTail Name Slice str ref") => `(tactic| k_dflt ((with_reducible show wpAny _ _ (subscriptTail _ (Expr.Slice (some _) none none _) (Value.str (TX _) _) _) _ _ _); (with_reducible rename Fr _ _ _ _ => F'); (with_reducible rename News _ _ _ _ => N'); (refine slice_strN_sn (hsz := ?hsz) (s := ⟨_, _, _, _, _⟩) F' N' ?_); (case hsz => (rw [lenTX, sizeLine_eq]; omega)); intro h' t' k F2 N2; clear F' N'; (try dsimp only); rw [slL (by assumption) (by assumption)]))
local macro_rules | `(tactic| walk_at "subscriptTail Name UnaryOp ref int") => `(tactic| k_dflt (k_here; (with_reducible show wpAny _ _ (subscriptTail _ _ (Value.ref _) (Value.int _ _)) _ _ _); (refine' kde_neg ?k1 ?k2 ?k3 ?k4 ?k5 ?_ ?k6; (case k1 => exact Heap.IsList.at (h := _) (by assumption) (fun o e => Fr.keep (by assumption) _ _ e)); (case k2 => omega); (case k3 => omega); (case k4 => exact seqNeg (by assumption) (by assumption)); (case k5 => assumption); (case k6 => with_unfolding_all rfl)); (try dsimp only)))
theorem if_step {w : World} {mean : ExcName → Option Value} {mg mb : Str → Option Value} {dp un : Nat} {fr : Option (List Env)} {gd : Option (List Code)} {E : Value → Shared → Prop} {s : Shared} {Q : Flow → Shared → Prop} {stmt : Stmt} {sc : Scope} (hs : stIf = stmt) (hsc : stSc = sc) {h₀ : Heap} {L D R d : Addr} {m : Str → Option Value} {rest : List (Addr × Obj)} {oc : Obj} {acc vs items : List Value} {nl n k : Nat} {wd lg : List Nat} {row : List (List Nat)} {t1 t2 t3 tc : Tok}
    (X : Frag.In (Mine.hd.heap_39 w.params) h₀) (T : Top Mine.hd.view_39 (looseW Mine.hd.view_39 [Str.ofString "_initial_missing", Str.ofString "reduce"]) mean mg mb h₀)
    (F : Fr h₀ L s.heap m) (N : News h₀ L s.heap ((D, listOf acc.toArray nl) :: (L + 1, oc) :: rest)) (hoc : oc.data = .cell (some (.str (TX [k]) tc)))
    (hDc : D ≠ L + 1) (hDr : ∀ p ∈ rest, p.1 ≠ D) (hcr : ∀ p ∈ rest, p.1 ≠ L + 1)
    (m1 : m (Str.ofString "word") = some (.str (TX wd) t1)) (m2 : m (Str.ofString "longer") = some (.str (TX lg) t2)) (m3 : m (Str.ofString "size") = some (.int (n : Nat) t3)) (m4 : m (Str.ofString "rows") = some (.ref R)) (m5 : m (Str.ofString "lines") = some (.ref D))
    (hR : h₀.IsList R items.toArray) (hn1 : 1 ≤ n) (hn2 : n ≤ items.length) (hnl : n ≤ lg.length) (hl9 : lg.length ≤ 9) (hrow : items[items.length - n]? = some (.ref d)) (hd : h₀.IsList d vs.toArray) (hv : StrsAre vs (row.map TX)) (hb1 : vs.length ≤ 6561) (hb2 : ∀ x ∈ row, x.length ≤ 8) (hacc : acc.length ≤ 200000) (hi9 : items.length ≤ 9)
    (h : ∀ ys h' tk nl', StrsAre ys ((if wd = lg.drop (lg.length - n) then row.map (· ++ [k]) else []).map TX) → Fr h₀ L h' m → News h₀ L h' ((D, listOf (acc ++ ys).toArray nl') :: (L + 1, oc) :: rest) → Q .next { s with heap := h', toks := tk }) :
    wpAny (model PySem.Challenge.rw_mj0076_01.row.prog w) ((Around.mk none dp fr gd un).deeper (envOfC (Str.ofString "_law_step") sc L 82 (.ref 81))) (exec stmt (envOfC (Str.ofString "_law_step") sc L 82 (.ref 81))) Q E s := by
  have e1 := (show stIf = Stmt.If _ _ _ _ from rfl)
  have e2 := (show stSc = Scope.mk _ _ _ _ _ from rfl)
  rw [e1] at hs
  rw [e2] at hsc
  subst hs hsc
  clear e1 e2
  rw [ov1 m1, ov1 m2, ov1 m3, ov1 m4, ov1 m5] at F
  dsimp only at F
  k_steps
  · refine LCg.CompSrc.base (by rfl) (by k_asm) (by k_asm) (by assumption) (by rw [List.size_toArray, sizeLine_eq]; omega) ?_
    intro g'
    refine' strs_rest (gS k) (by assumption) ?turn ?_
    · intro k' t' I' oI' C' oC' D' m' ys' h' tk' E' hk' hC' hx' F' N' off' ne'
      have hln := each8 (by assumption) hk'
      k_steps
      exact ⟨_, _, _, rfl, F', N', off', .inl hd, rfl, _, rfl⟩
    · intro ys' hys' hyl' D' h' tk' F' N' o1
      refine iaddK F' N' (.head _) (UpdF.tail (fun e => o1.1 e.symm) (UpdF.head (List.forall_mem_cons.mpr ⟨fun e => hDc e.symm, hDr⟩))) (by omega) ?_
      intro h' n' F' N'
      (try dsimp only at N')
      k_steps
      refine h ys' _ _ _ ?_ (fr_eq (by assumption) fun y => ?_) (fun p hp => (by assumption : News _ _ _ _) p (.tail _ hp))
      · (with_reducible rename ((_ == _) = true) => hq)
        rw [TX_eqb, decide_eq_true_eq] at hq
        rw [if_pos hq, ← gS_map]
        exact hys'
      · (try dsimp only)
        repeat' split
        all_goals (first | rfl | (subst_vars; simp only [m1, m2, m3, m4, m5]; done) | skip)
  · (with_reducible rename ((_ == _) = false) => hq)
    rw [TX_eqb, decide_eq_false_iff_not] at hq
    refine h [] _ _ nl ?_ (fr_eq (by assumption) fun y => ?_) ?_
    · rw [if_neg hq]; exact .nil
    · (try dsimp only)
      repeat' split
      all_goals (first | rfl | (subst_vars; simp only [m1, m2, m3, m4, m5]; done) | skip)
    · rw [List.append_nil]; assumption
end Mine
namespace Mine
theorem codeL_unc {p : List Nat} {c : Nat} (h : codeL p = some c) : c < 256 ∧ unc c = p := by
  refine ⟨codeL_lt h, ?_⟩
  unfold codeL at h
  split at h
  all_goals (repeat' split at h)
  all_goals first | cases h; done | (injection h with h; subst h; unfold unc; (repeat' split) <;> first | omega | (simp; omega) | (simp_all; done) | (simp_all; omega))
theorem unc_codeL_all : ∀ c : Fin 256, codeL (unc c.val) = some c.val := by decide +kernel
theorem unc_codeL {c : Nat} (h : c < 256) : codeL (unc c) = some c := unc_codeL_all ⟨c, h⟩
theorem unc_len (c : Nat) : 1 ≤ (unc c).length ∧ (unc c).length ≤ 3 := by
  unfold unc
  (repeat' split) <;> simp
def Good (p : List Nat) (row : List (List Nat)) : Prop := row.Nodup ∧ ∀ x, x ∈ row ↔ (∀ c ∈ x, c < 256) ∧ x.flatMap unc = p
theorem Good.perm {p : List Nat} {r1 r2 : List (List Nat)} (h1 : Good p r1) (h2 : Good p r2) : r1.Perm r2 := by
  refine List.perm_iff_count.mpr fun x => ?_
  rw [h1.1.count, h2.1.count]
  simp only [h1.2 x, h2.2 x]
theorem Good.each {p : List Nat} {row : List (List Nat)} (h : Good p row) {x : List Nat} (hx : x ∈ row) : x.length ≤ p.length := by
  have e := ((h.2 x).mp hx).2
  have key : ∀ x : List Nat, x.length ≤ (x.flatMap unc).length := by
    intro x
    induction x with
    | nil => simp
    | cons c r ih => have := unc_len c; simp only [List.flatMap_cons, List.length_append, List.length_cons]; omega
  rw [← e]; exact key x
theorem mem_oneL {p : List Nat} {ls : List (List Nat)} {x : List Nat} : x ∈ oneL p ls ↔ ∃ c y, codeL p = some c ∧ y ∈ ls ∧ x = c :: y := by
  unfold oneL
  cases h : codeL p with
  | none => simp
  | some c =>
    simp only [List.mem_map, Option.some.injEq]
    constructor
    · rintro ⟨y, hy, rfl⟩; exact ⟨c, y, rfl, hy, rfl⟩
    · rintro ⟨c', y, rfl, hy, rfl⟩; exact ⟨y, hy, rfl⟩
theorem nodup_map {α β : Type} {f : α → β} (hf : ∀ a b, f a = f b → a = b) {l : List α} (h : l.Nodup) : (l.map f).Nodup := by
  unfold List.Nodup at *
  rw [List.pairwise_map]
  exact h.imp fun {a b} hab e => hab (hf a b e)
theorem nodup_oneL {p : List Nat} {ls : List (List Nat)} (h : ls.Nodup) : (oneL p ls).Nodup := by
  unfold oneL
  cases codeL p with
  | none => exact List.nodup_nil
  | some c => exact nodup_map (fun a b e => by simpa using e) h
theorem oneL_disj {p q : List Nat} {l1 l2 : List (List Nat)} (hpq : p.length ≠ q.length) {x : List Nat} (h1 : x ∈ oneL p l1) (h2 : x ∈ oneL q l2) : False := by
  obtain ⟨c, y, hc, _, rfl⟩ := mem_oneL.mp h1
  obtain ⟨c', y', hc', _, e⟩ := mem_oneL.mp h2
  injection e with e1 e2
  subst e1
  exact hpq (by rw [← (codeL_unc hc).2, ← (codeL_unc hc').2])
theorem oneL_ok {p r : List Nat} {ls : List (List Nat)} (h : Good r ls) {x : List Nat} (hx : x ∈ oneL p ls) : (∀ c ∈ x, c < 256) ∧ x.flatMap unc = p ++ r := by
  obtain ⟨c, y, hc, hy, rfl⟩ := mem_oneL.mp hx
  have a := codeL_unc hc
  have b := (h.2 y).mp hy
  refine ⟨fun d hd => ?_, ?_⟩
  · rcases List.mem_cons.mp hd with rfl | hd
    · exact a.1
    · exact b.1 d hd
  · rw [List.flatMap_cons, a.2, b.2]
theorem linesL_good (l : List Nat) : Good l (linesL l) := by
  induction l using linesL.induct with
  | case1 =>
    refine ⟨by simp [linesL], fun x => ?_⟩
    simp only [linesL, List.mem_singleton]
    constructor
    · rintro rfl; simp
    · rintro ⟨_, h⟩
      cases x with
      | nil => rfl
      | cons c r => have := unc_len c; have h2 := congrArg List.length h; simp at h2; simp [h2.1] at this
  | case2 a ih =>
    refine ⟨by simp only [linesL]; exact nodup_oneL ih.1, fun x => ?_⟩
    simp only [linesL]
    constructor
    · exact fun h => oneL_ok ih h
    · rintro ⟨h1, h2⟩
      cases x with
      | nil => simp at h2
      | cons c r =>
        have hc := h1 c (.head _)
        have hr : ∀ d ∈ r, d < 256 := fun d hd => h1 d (.tail _ hd)
        rw [List.flatMap_cons] at h2
        have hu := unc_codeL hc
        rcases hq : unc c with _ | ⟨a1, _ | ⟨a2, q⟩⟩
        · have := unc_len c; rw [hq] at this; simp at this
        · rw [hq] at h2 hu; simp at h2
          obtain ⟨rfl, h2⟩ := h2
          exact mem_oneL.mpr ⟨c, r, hu, (ih.2 r).mpr ⟨hr, by simpa using h2⟩, rfl⟩
        · rw [hq] at h2; simp at h2
  | case3 a b ih1 ih2 =>
    refine ⟨?_, fun x => ?_⟩
    · simp only [linesL]
      refine List.nodup_append.mpr ⟨nodup_oneL ih1.1, nodup_oneL ih2.1, fun x hx y hy e => ?_⟩
      subst e; exact oneL_disj (by simp) hx hy
    · simp only [linesL, List.mem_append]
      constructor
      · rintro (h | h)
        · exact oneL_ok ih1 h
        · exact oneL_ok ih2 h
      · rintro ⟨h1, h2⟩
        cases x with
        | nil => simp at h2
        | cons c r =>
          have hc := h1 c (.head _)
          have hr : ∀ d ∈ r, d < 256 := fun d hd => h1 d (.tail _ hd)
          rw [List.flatMap_cons] at h2
          have hu := unc_codeL hc
          rcases hq : unc c with _ | ⟨a1, _ | ⟨a2, _ | ⟨a3, q⟩⟩⟩
          · have := unc_len c; rw [hq] at this; simp at this
          · rw [hq] at h2 hu; simp only [List.cons_append, List.nil_append, List.cons.injEq] at h2
            obtain ⟨rfl, h2⟩ := h2
            exact .inl (mem_oneL.mpr ⟨c, r, hu, (ih1.2 r).mpr ⟨hr, h2⟩, rfl⟩)
          · rw [hq] at h2 hu; simp only [List.cons_append, List.nil_append, List.cons.injEq] at h2
            obtain ⟨rfl, rfl, h2⟩ := h2
            exact .inr (mem_oneL.mpr ⟨c, r, hu, (ih2.2 r).mpr ⟨hr, h2⟩, rfl⟩)
          · rw [hq] at h2; simp at h2
  | case4 a b c' r' ih1 ih2 ih3 =>
    refine ⟨?_, fun x => ?_⟩
    · simp only [linesL]
      refine List.nodup_append.mpr ⟨List.nodup_append.mpr ⟨nodup_oneL ih1.1, nodup_oneL ih2.1, fun x hx y hy e => ?_⟩, nodup_oneL ih3.1, fun x hx y hy e => ?_⟩
      · subst e; exact oneL_disj (by simp) hx hy
      · subst e
        rcases List.mem_append.mp hx with hx | hx
        · exact oneL_disj (by simp) hx hy
        · exact oneL_disj (by simp) hx hy
    · simp only [linesL, List.mem_append]
      constructor
      · rintro ((h | h) | h)
        · exact oneL_ok ih1 h
        · exact oneL_ok ih2 h
        · exact oneL_ok ih3 h
      · rintro ⟨h1, h2⟩
        cases x with
        | nil => simp at h2
        | cons c r =>
          have hc := h1 c (.head _)
          have hr : ∀ d ∈ r, d < 256 := fun d hd => h1 d (.tail _ hd)
          rw [List.flatMap_cons] at h2
          have hu := unc_codeL hc
          rcases hq : unc c with _ | ⟨a1, _ | ⟨a2, _ | ⟨a3, _ | ⟨a4, q⟩⟩⟩⟩
          · have := unc_len c; rw [hq] at this; simp at this
          · rw [hq] at h2 hu; simp only [List.cons_append, List.nil_append, List.cons.injEq] at h2
            obtain ⟨rfl, h2⟩ := h2
            exact .inl (.inl (mem_oneL.mpr ⟨c, r, hu, (ih1.2 r).mpr ⟨hr, h2⟩, rfl⟩))
          · rw [hq] at h2 hu; simp only [List.cons_append, List.nil_append, List.cons.injEq] at h2
            obtain ⟨rfl, rfl, h2⟩ := h2
            exact .inl (.inr (mem_oneL.mpr ⟨c, r, hu, (ih2.2 r).mpr ⟨hr, h2⟩, rfl⟩))
          · rw [hq] at h2 hu; simp only [List.cons_append, List.nil_append, List.cons.injEq] at h2
            obtain ⟨rfl, rfl, rfl, h2⟩ := h2
            exact .inr (mem_oneL.mpr ⟨c, r, hu, (ih3.2 r).mpr ⟨hr, h2⟩, rfl⟩)
          · have := unc_len c; rw [hq] at this; simp at this
def outL (row : List (List Nat)) (lst : List Nat) (sh : List (Nat × List Nat)) : List (List Nat) := sh.flatMap fun p => if p.2 = lst then row.map (· ++ [p.1]) else []
theorem outL_snoc (row : List (List Nat)) (lst : List Nat) (sh : List (Nat × List Nat)) (k : Nat) (wd : List Nat) : outL row lst (sh ++ [(k, wd)]) = outL row lst sh ++ (if wd = lst then row.map (· ++ [k]) else []) := by
  simp [outL, List.flatMap_append]
def shownL (k : Nat) : List (Nat × List Nat) := [k, k % 32, 127, altN k, altN (k % 32), altN 127].map fun c => (c, unc c)
def endL (p : List Nat) (ls : List (List Nat)) : List (List Nat) := match codeL p with | none => [] | some k => ls.map (· ++ [k])
theorem unc_last (c : Nat) : ∃ p k, unc c = p ++ [k] ∧ (k < 127 ∨ k = 159) := by
  unfold unc
  (repeat' split)
  all_goals first
    | exact ⟨[33], _, rfl, by omega⟩
    | exact ⟨[33, 94], _, rfl, by omega⟩
    | exact ⟨[94], _, rfl, by omega⟩
    | exact ⟨[], _, rfl, by omega⟩
theorem outL_high {row : List (List Nat)} {p : List Nat} {k : Nat} (hk : ¬ k < 256) : outL row (p ++ [k]) (shownL k) = endL (p ++ [k]) row := by
  have hu : ∀ c, unc c ≠ p ++ [k] := fun c e => by
    obtain ⟨q, j, e2, hj⟩ := unc_last c
    rw [e2] at e
    have := List.append_inj_right' e rfl
    simp at this; omega
  have hc : codeL (p ++ [k]) = none := by
    cases h : codeL (p ++ [k]) with
    | none => rfl
    | some c => exact absurd (codeL_unc h).2 (hu c)
  unfold endL
  rw [hc]
  simp [outL, shownL, hu]
def pick (lst : List Nat) (k : Nat) : List Nat := ((shownL k).filter fun p => p.2 == lst).map (·.1)
theorem outL_pick (row : List (List Nat)) (lst : List Nat) (k : Nat) : outL row lst (shownL k) = (pick lst k).flatMap fun c => row.map (· ++ [c]) := by
  unfold outL pick
  generalize shownL k = sh
  induction sh with
  | nil => rfl
  | cons p r ih =>
    rw [List.flatMap_cons, ih]
    by_cases h : p.2 = lst
    · simp [h]
    · simp [h]
theorem unc_inj {a b : Nat} (ha : a < 256) (hb : b < 256) (e : unc a = unc b) : a = b := by
  have h1 := unc_codeL ha
  rw [e, unc_codeL hb] at h1
  exact (Option.some.inj h1).symm
/-- the codes whose shown form ends in k, among the six: no two are the same -/
def endsIn (k : Nat) : List Nat := ((shownL k).filter fun p => p.2.getLast? == some k).map (·.1)
theorem endsIn_ok : ∀ k : Fin 256, (endsIn k.val).Nodup ∧ (∀ c ∈ endsIn k.val, c < 256) := by decide +kernel
theorem endsIn_all : ∀ c : Fin 256, c.val ∈ endsIn ((unc c.val).getLast?.getD 0) := by decide +kernel
theorem nodup_filter_map {sh : List (Nat × List Nat)} {f : Nat × List Nat → Bool} (h : (sh.map (·.1)).Nodup) : ((sh.filter f).map (·.1)).Nodup := by
  unfold List.Nodup at *
  rw [List.pairwise_map] at *
  exact h.filter f
theorem pick_ok {k : Nat} (hk : k < 256) (p : List Nat) : (pick (p ++ [k]) k).Nodup ∧ ∀ c, c ∈ pick (p ++ [k]) k ↔ codeL (p ++ [k]) = some c := by
  obtain ⟨h1, h2⟩ := endsIn_ok ⟨k, hk⟩
  have e : pick (p ++ [k]) k = (((shownL k).filter fun q => q.2.getLast? == some k).filter fun q => q.2 == p ++ [k]).map (·.1) := by
    unfold pick
    rw [List.filter_filter]
    congr 1
    refine List.filter_congr fun q _ => ?_
    by_cases hq : q.2 = p ++ [k]
    · simp [hq]
    · simp [hq]
  refine ⟨?_, fun c => ?_⟩
  · rw [e]
    exact nodup_filter_map h1
  · have hsh : ∀ q ∈ shownL k, q.2 = unc q.1 := by
      intro q hq
      unfold shownL at hq
      obtain ⟨c, _, rfl⟩ := List.mem_map.mp hq
      rfl
    constructor
    · intro hc
      rw [e] at hc
      obtain ⟨q, hq, rfl⟩ := List.mem_map.mp hc
      obtain ⟨hq1, hq2⟩ := List.mem_filter.mp hq
      have hlt := h2 q.1 (List.mem_map.mpr ⟨q, hq1, rfl⟩)
      have := hsh q (List.mem_filter.mp hq1).1
      have hq2 : q.2 = p ++ [k] := by simpa using hq2
      rw [← hq2, this]
      exact unc_codeL hlt
    · intro hc
      obtain ⟨hlt, hu⟩ := codeL_unc hc
      have hm : c ∈ endsIn k := by have := endsIn_all ⟨c, hlt⟩; simpa [hu] using this
      obtain ⟨q, hq, rfl⟩ := List.mem_map.mp hm
      rw [e]
      refine List.mem_map.mpr ⟨q, List.mem_filter.mpr ⟨hq, ?_⟩, rfl⟩
      rw [hsh q (List.mem_filter.mp hq).1, hu]
      simp
theorem nodup_one {l : List Nat} {o : Option Nat} (hn : l.Nodup) (h : ∀ c, c ∈ l ↔ o = some c) : l = o.toList := by
  match l, o with
  | [], none => rfl
  | [], some c => exact absurd ((h c).mpr rfl) (by simp)
  | a :: r, none => exact absurd ((h a).mp (.head _)) (by simp)
  | [a], some c => have := (h a).mp (.head _); simp at this; simp [this]
  | a :: b :: r, some c =>
    have h1 := (h a).mp (.head _)
    have h2 := (h b).mp (.tail _ (.head _))
    rw [h1] at h2
    have := Option.some.inj h2
    subst this
    simp at hn
theorem outL_end (row : List (List Nat)) (p : List Nat) (k : Nat) : outL row (p ++ [k]) (shownL k) = endL (p ++ [k]) row := by
  by_cases hk : k < 256
  · rw [outL_pick]
    have := pick_ok hk p
    rw [nodup_one this.1 this.2]
    unfold endL
    cases codeL (p ++ [k]) <;> simp
  · exact outL_high hk
theorem mem_endL {p : List Nat} {ls : List (List Nat)} {x : List Nat} : x ∈ endL p ls ↔ ∃ c y, codeL p = some c ∧ y ∈ ls ∧ x = y ++ [c] := by
  unfold endL
  cases h : codeL p with
  | none => simp
  | some c =>
    simp only [List.mem_map, Option.some.injEq]
    constructor
    · rintro ⟨y, hy, rfl⟩; exact ⟨c, y, rfl, hy, rfl⟩
    · rintro ⟨c', y, rfl, hy, rfl⟩; exact ⟨y, hy, rfl⟩
theorem nodup_endL {p : List Nat} {ls : List (List Nat)} (h : ls.Nodup) : (endL p ls).Nodup := by
  unfold endL
  cases codeL p with
  | none => exact List.nodup_nil
  | some c => exact nodup_map (fun a b e => by simpa using e) h
theorem endL_disj {p q : List Nat} {l1 l2 : List (List Nat)} (hpq : p.length ≠ q.length) {x : List Nat} (h1 : x ∈ endL p l1) (h2 : x ∈ endL q l2) : False := by
  obtain ⟨c, y, hc, _, rfl⟩ := mem_endL.mp h1
  obtain ⟨c', y', hc', _, e⟩ := mem_endL.mp h2
  have e1 := List.append_inj_right' e rfl
  simp at e1
  subst e1
  exact hpq (by rw [← (codeL_unc hc).2, ← (codeL_unc hc').2])
theorem endL_ok {p r : List Nat} {ls : List (List Nat)} (h : Good r ls) {x : List Nat} (hx : x ∈ endL p ls) : (∀ c ∈ x, c < 256) ∧ x.flatMap unc = r ++ p := by
  obtain ⟨c, y, hc, hy, rfl⟩ := mem_endL.mp hx
  have a := codeL_unc hc
  have b := (h.2 y).mp hy
  refine ⟨fun d hd => ?_, ?_⟩
  · rcases List.mem_append.mp hd with hd | hd
    · exact b.1 d hd
    · rw [List.mem_singleton.mp hd]; exact a.1
  · simp [List.flatMap_append, a.2, b.2]
/-- what a step lays behind: the rows of the three sizes -/
def sizeL (rows : List (List (List Nat))) (lg : List Nat) (k n : Nat) : List (List Nat) := outL (rows.getD (rows.length - n) []) (lg.drop (lg.length - n)) (shownL k)
def newL (rows : List (List (List Nat))) (lg : List Nat) (k : Nat) : List (List Nat) :=
  (if 1 ≤ lg.length then sizeL rows lg k 1 else []) ++ (if 2 ≤ lg.length then sizeL rows lg k 2 else []) ++ (if 3 ≤ lg.length then sizeL rows lg k 3 else [])
structure Inv (l : List Nat) (rows : List (List (List Nat))) : Prop where
  len : rows.length = l.length + 1
  good : ∀ i row, rows[i]? = some row → Good (l.take i) row
theorem Inv.start : Inv [] [[[]]] := ⟨rfl, fun i row h => by
  cases i with
  | zero =>
    simp at h; subst h
    exact linesL_good []
  | succ i => simp at h⟩
theorem sizeL_end {l : List Nat} {rows : List (List (List Nat))} {k n : Nat} (h1 : 1 ≤ n) (hn : n ≤ l.length + 1) : sizeL rows (l ++ [k]) k n = endL ((l ++ [k]).drop (l.length + 1 - n)) (rows.getD (rows.length - n) []) := by
  unfold sizeL
  rw [show (l ++ [k]).length = l.length + 1 from by simp, List.drop_append_of_le_length (by omega)]
  exact outL_end ..
theorem Inv.row {l : List Nat} {rows : List (List (List Nat))} (H : Inv l rows) (n : Nat) (h1 : 1 ≤ n) (hn : n ≤ l.length + 1) : Good (l.take (l.length + 1 - n)) (rows.getD (rows.length - n) []) := by
  have hl := H.len
  refine H.good (l.length + 1 - n) _ ?_
  rw [List.getD_eq_getElem?_getD, hl, List.getElem?_eq_getElem (by omega)]
  rfl
theorem Inv.new {l : List Nat} {rows : List (List (List Nat))} (H : Inv l rows) (k : Nat) : Good (l ++ [k]) (newL rows (l ++ [k]) k) := by
  have hlen : (l ++ [k]).length = l.length + 1 := by simp
  have tk : ∀ n, 1 ≤ n → l.take (l.length + 1 - n) = (l ++ [k]).take (l.length + 1 - n) := fun n hn => by
    rw [List.take_append_of_le_length (by omega)]
  have ok : ∀ n, 1 ≤ n → n ≤ (l ++ [k]).length → ∀ x ∈ sizeL rows (l ++ [k]) k n, (∀ c ∈ x, c < 256) ∧ x.flatMap unc = l ++ [k] := fun n h1 hn x hx => by
    rw [hlen] at hn
    rw [sizeL_end h1 hn] at hx
    have := endL_ok (H.row n h1 hn) hx
    rw [tk n h1, List.take_append_drop] at this
    exact this
  have nd : ∀ n, 1 ≤ n → n ≤ (l ++ [k]).length → (sizeL rows (l ++ [k]) k n).Nodup := fun n h1 hn => by
    rw [hlen] at hn
    rw [sizeL_end h1 hn]
    exact nodup_endL (H.row n h1 hn).1
  have dj : ∀ n n', 1 ≤ n → n ≤ (l ++ [k]).length → 1 ≤ n' → n' ≤ (l ++ [k]).length → n ≠ n' → ∀ x, x ∈ sizeL rows (l ++ [k]) k n → x ∈ sizeL rows (l ++ [k]) k n' → False := fun n n' a b c d e x hx hy => by
    rw [hlen] at b d
    rw [sizeL_end a b] at hx
    rw [sizeL_end c d] at hy
    exact endL_disj (by rw [List.length_drop, List.length_drop, hlen]; omega) hx hy
  have on : ∀ {x : List Nat} {n : Nat}, x ∈ (if n ≤ (l ++ [k]).length then sizeL rows (l ++ [k]) k n else []) ↔ n ≤ (l ++ [k]).length ∧ x ∈ sizeL rows (l ++ [k]) k n := by
    intro x n
    by_cases h : n ≤ (l ++ [k]).length
    · rw [if_pos h]; exact ⟨fun a => ⟨h, a⟩, fun a => a.2⟩
    · rw [if_neg h]; exact ⟨fun a => absurd a (by simp), fun a => absurd a.1 h⟩
  have ndi : ∀ n, 1 ≤ n → (if n ≤ (l ++ [k]).length then sizeL rows (l ++ [k]) k n else []).Nodup := fun n h1 => by
    split
    · exact nd n h1 (by assumption)
    · exact List.nodup_nil
  refine ⟨?_, fun x => ?_⟩
  · unfold newL
    refine List.nodup_append.mpr ⟨List.nodup_append.mpr ⟨ndi 1 (by decide), ndi 2 (by decide), fun x hx y hy e => ?_⟩, ndi 3 (by decide), fun x hx y hy e => ?_⟩
    · subst e
      exact dj 1 2 (by decide) (on.mp hx).1 (by decide) (on.mp hy).1 (by decide) x (on.mp hx).2 (on.mp hy).2
    · subst e
      rcases List.mem_append.mp hx with hx | hx
      · exact dj 1 3 (by decide) (on.mp hx).1 (by decide) (on.mp hy).1 (by decide) x (on.mp hx).2 (on.mp hy).2
      · exact dj 2 3 (by decide) (on.mp hx).1 (by decide) (on.mp hy).1 (by decide) x (on.mp hx).2 (on.mp hy).2
  · unfold newL
    simp only [List.mem_append, on]
    constructor
    · rintro ((h | h) | h)
      · exact ok 1 (by decide) h.1 x h.2
      · exact ok 2 (by decide) h.1 x h.2
      · exact ok 3 (by decide) h.1 x h.2
    · rintro ⟨hlt, hx⟩
      rcases List.eq_nil_or_concat x with rfl | ⟨y, c, rfl⟩
      · simp at hx
      · rw [List.concat_eq_append] at *
        have hc : c < 256 := hlt c (by simp)
        have hy : ∀ d ∈ y, d < 256 := fun d hd => hlt d (by simp [hd])
        have hul := unc_len c
        have hx : y.flatMap unc ++ unc c = l ++ [k] := by simpa [List.flatMap_append] using hx
        have hxl := congrArg List.length hx
        rw [List.length_append, hlen] at hxl
        have key : ∀ n, (unc c).length = n → n ≤ (l ++ [k]).length ∧ y ++ [c] ∈ sizeL rows (l ++ [k]) k n := fun n hn => by
          have hn1 : 1 ≤ n := by omega
          have hn2 : n ≤ l.length + 1 := by omega
          refine ⟨by rw [hlen]; exact hn2, ?_⟩
          rw [sizeL_end hn1 hn2]
          have e0 : l.length + 1 - n = (y.flatMap unc).length := by omega
          refine mem_endL.mpr ⟨c, y, ?_, ((H.row n hn1 hn2).2 y).mpr ⟨hy, ?_⟩, rfl⟩
          · rw [← hx, e0, List.drop_left]
            exact unc_codeL hc
          · rw [tk n hn1, ← hx, e0, List.take_left]
        rcases (show (unc c).length = 1 ∨ (unc c).length = 2 ∨ (unc c).length = 3 by omega) with h | h | h
        · exact .inl (.inl (key 1 h))
        · exact .inl (.inr (key 2 h))
        · exact .inr (key 3 h)
theorem Inv.step {l : List Nat} {rows : List (List (List Nat))} (H : Inv l rows) (k : Nat) : Inv (l ++ [k]) (rows ++ [newL rows (l ++ [k]) k]) := by
  have hl := H.len
  refine ⟨by simp [hl], fun i row h => ?_⟩
  by_cases hi : i < rows.length
  · rw [List.getElem?_append_left hi] at h
    rw [List.take_append_of_le_length (by omega)]
    exact H.good i row h
  · by_cases he : i = rows.length
    · subst he
      rw [List.getElem?_append_right (Nat.le_refl _), Nat.sub_self] at h
      simp at h
      subst h
      rw [List.take_of_length_le (by simp [hl])]
      exact H.new k
    · rw [List.getElem?_eq_none (by simp; omega)] at h
      cases h
theorem linesL_64 (l : List Nat) (h : l.length ≤ 8) : (linesL l).length < 64 := by
  have one (p : List Nat) (ls : List (List Nat)) : (oneL p ls).length ≤ ls.length := by unfold oneL; split <;> simp
  have three (a b c : Nat) (ls : List (List Nat)) (h : ¬ (a = 33 ∧ b = 94)) : (oneL [a, b, c] ls).length = 0 := by
    unfold oneL codeL; simp [h]
  have z0 : (linesL []).length = 1 := rfl
  have z1 : ∀ a, (linesL [a]).length ≤ 1 := fun a => by rw [linesL]; exact one _ _
  have z2 : ∀ a b, (linesL [a, b]).length ≤ 2 := fun a b => by rw [linesL, List.length_append]; have := one [a] (linesL [b]); have := one [a, b] (linesL []); have := z1 b; omega
  have z3 : ∀ a b c r, (linesL (a :: b :: c :: r)).length ≤ (linesL (b :: c :: r)).length + (linesL (c :: r)).length + (linesL r).length := fun a b c r => by
    rw [linesL, List.length_append, List.length_append]
    have := one [a] (linesL (b :: c :: r)); have := one [a, b] (linesL (c :: r)); have := one [a, b, c] (linesL r); omega
  have z4 : ∀ a b c r, ¬ (a = 33 ∧ b = 94) → (linesL (a :: b :: c :: r)).length ≤ (linesL (b :: c :: r)).length + (linesL (c :: r)).length := fun a b c r h => by
    rw [linesL, List.length_append, List.length_append, three a b c _ h]
    have := one [a] (linesL (b :: c :: r)); have := one [a, b] (linesL (c :: r)); omega
  have zz : ∀ a b c r, (linesL (a :: b :: c :: r)).length ≤ (linesL (b :: c :: r)).length + (linesL (c :: r)).length ∨ (a = 33 ∧ b = 94 ∧ (linesL (a :: b :: c :: r)).length ≤ (linesL (b :: c :: r)).length + (linesL (c :: r)).length + (linesL r).length) := fun a b c r => by
    by_cases h : a = 33 ∧ b = 94
    · exact .inr ⟨h.1, h.2, z3 a b c r⟩
    · exact .inl (z4 a b c r h)
  match l, h with
  | [], _ => omega
  | [a], _ => have := z1 a; omega
  | [a, b], _ => have := z2 a b; omega
  | [a, b, c], _ => have := z3 a b c []; have := z2 b c; have := z1 c; omega
  | [a, b, c, d], _ => have := z3 a b c [d]; have := z3 b c d []; have := z2 c d; have := z1 d; omega
  | [a, b, c, d, e], _ => have := z3 a b c [d, e]; have := z3 b c d [e]; have := z3 c d e []; have := z2 d e; have := z1 e; omega
  | [a, b, c, d, e, f], _ => have := z3 a b c [d, e, f]; have := z3 b c d [e, f]; have := z3 c d e [f]; have := z3 d e f []; have := z2 e f; have := z1 f; omega
  | [a, b, c, d, e, f, g], _ => have := z3 a b c [d, e, f, g]; have := z3 b c d [e, f, g]; have := z3 c d e [f, g]; have := z3 d e f [g]; have := z3 e f g []; have := z2 f g; have := z1 g; omega
  | [a, b, c, d, e, f, g, h], _ =>
    have h1 := zz a b c [d, e, f, g, h]
    have h2 := zz b c d [e, f, g, h]
    have h3 := zz c d e [f, g, h]
    have h4 := zz d e f [g, h]
    have h5 := zz e f g [h]
    have h6 := zz f g h []
    have := z2 g h; have := z1 h
    rcases h1 with h1 | h1 <;> rcases h2 with h2 | h2 <;> rcases h3 with h3 | h3 <;> rcases h4 with h4 | h4 <;> rcases h5 with h5 | h5 <;> rcases h6 with h6 | h6 <;> omega
  | _ :: _ :: _ :: _ :: _ :: _ :: _ :: _ :: _ :: _, h => simp at h
end Mine
namespace Mine
inductive ShownAre (rest : List (Addr × Obj)) : List Value → List (Nat × List Nat) → Prop
  | nil : ShownAre rest [] []
  | cons {T : Addr} {k : Nat} {wd : List Nat} {t1 t2 : Tok} {n : Nat} {o : Obj} {vs : List Value} {sh : List (Nat × List Nat)} : (T, o) ∈ rest → o.cls = .type "tuple" → o.data = .seq #[.str (TX [k]) t1, .str (TX wd) t2] n → ShownAre rest vs sh → ShownAre rest (.ref T :: vs) ((k, wd) :: sh)
theorem ShownAre.length {rest : List (Addr × Obj)} {vs : List Value} {sh : List (Nat × List Nat)} (H : ShownAre rest vs sh) : vs.length = sh.length := by
  induction H with
  | nil => rfl
  | cons _ _ _ _ ih => simp [ih]
theorem ShownAre.at {rest : List (Addr × Obj)} {vs : List Value} {sh : List (Nat × List Nat)} (H : ShownAre rest vs sh) : ∀ {i : Nat} {v : Value}, vs[i]? = some v → ∃ T k wd t1 t2 n o, v = .ref T ∧ sh[i]? = some (k, wd) ∧ (T, o) ∈ rest ∧ o.cls = .type "tuple" ∧ o.data = .seq #[.str (TX [k]) t1, .str (TX wd) t2] n := by
  induction H with
  | nil => intro i v hv; simp at hv
  | cons a b c _ ih =>
    intro i v hv
    cases i with
    | zero => simp at hv; exact ⟨_, _, _, _, _, _, _, hv.symm, rfl, a, b, c⟩
    | succ i => simp only [List.getElem?_cons_succ] at hv ⊢; exact ih hv
theorem out1_len {row : List (List Nat)} {lst wd : List Nat} {k : Nat} {ys : List Value} (h : StrsAre ys ((if wd = lst then row.map (· ++ [k]) else []).map TX)) : ys.length ≤ row.length := by
  rw [h.length, List.length_map]
  split <;> simp
section
variable {prog : Program} {w : World} {A : Around} {E : Value → Shared → Prop} {s : Shared} {env : Env} {h₀ : Heap} {target : Expr} {body : List Stmt} {Q : Flow → Shared → Prop} {P : Nat → Value → Prop} {fp : List Addr}
theorem unr_inv {n : Nat} {m : Str → Option Value} {news : List (Addr × Obj)} (I : Nat → (Str → Option Value) → List (Addr × Obj) → Prop) (h0 : I 0 m news)
    (turn : ∀ i m₁ news₁, i < n → I i m₁ news₁ → ∀ v h₁ tk₁ own, P i v → (∀ p ∈ own, p.1 ∈ fp) → Fr h₀ env.locals h₁ m₁ → News h₀ env.locals h₁ (own ++ news₁) →
      wpAny (model prog w) A (assign target env v) (fun _ s₂ => wpAny (model prog w) A (execs body env)
        (LoopStep3 h₀ env.locals own news₁ (I (i + 1)) { s with heap := h₁, toks := tk₁ } (fun v s' => Q (.ret v) s') fun s' => Q .next s') E s₂) E { s with heap := h₁, toks := tk₁ })
    (done : ∀ m₁ news₁ h' tk, I n m₁ news₁ → Fr h₀ env.locals h' m₁ → News h₀ env.locals h' news₁ → Q .next { s with heap := h', toks := tk }) :
    Unr prog w A E h₀ env target body Q P fp s n 0 m news := by
  have key : ∀ (j i : Nat) (m₁ : Str → Option Value) (news₁ : List (Addr × Obj)), i + j = n → I i m₁ news₁ → Unr prog w A E h₀ env target body Q P fp s j i m₁ news₁ := by
    intro j
    induction j with
    | zero =>
      intro i m₁ news₁ e hI
      have : i = n := by omega
      subst this
      exact Unr.zero fun h' tk F' N' => done m₁ news₁ h' tk hI F' N'
    | succ j ih =>
      intro i m₁ news₁ e hI
      refine Unr.succ fun v h₁ tk₁ own a b c d => ?_
      refine wpAny_mono (turn i m₁ news₁ (by omega) hI v h₁ tk₁ own a b c d) (fun _ s₂ h₂ => wpAny_mono h₂ (fun f s₃ h₃ => ?_) fun _ _ e => e) fun _ _ e => e
      exact LoopStep3.mono (fun m₂ news₂ hJ => ih (i + 1) m₂ news₂ (by omega) hJ) h₃
  exact key n 0 m news (by omega) h0
end
def stFor : Stmt := match (fnAt 14).1 with | [_, _, _, _, _, .For _ _ [x] _ _, _] => x | _ => .Pass default
theorem wd_eq {m : Str → Option Value} {a b : Option Value} {x : Str} (y : Str) : (if y = x then a else if y = x then b else m y) = if y = x then a else m y := by split <;> rfl
theorem ne_wd1 : ¬ Str.ofString "longer" = Str.ofString "word" := by decide +kernel
theorem ne_wd2 : ¬ Str.ofString "size" = Str.ofString "word" := by decide +kernel
theorem ne_wd3 : ¬ Str.ofString "rows" = Str.ofString "word" := by decide +kernel
theorem ne_wd4 : ¬ Str.ofString "lines" = Str.ofString "word" := by decide +kernel
local macro_rules | `(tactic| k_all) => `(tactic| assumption)
theorem inner_loop {w : World} {mean : ExcName → Option Value} {mg mb : Str → Option Value} {dp un : Nat} {fr : Option (List Env)} {gd : Option (List Code)} {E : Value → Shared → Prop} {s : Shared} {Q : Flow → Shared → Prop} {stmt : Stmt} {sc : Scope} (hs : stFor = stmt) (hsc : stSc = sc) {h₀ : Heap} {L D R d S : Addr} {m : Str → Option Value} {rest : List (Addr × Obj)} {oc : Obj} {cv : Option Value} {acc vs items vals : List Value} {sh : List (Nat × List Nat)} {nl n nS : Nat} {lg : List Nat} {row : List (List Nat)} {t2 t3 : Tok}
    (hE : PassesOwn (model PySem.Challenge.rw_mj0076_01.row.prog w) ((Around.mk none dp fr gd un).deeper (envOfC (Str.ofString "_law_step") sc L 82 (.ref 81))) (envOfC (Str.ofString "_law_step") sc L 82 (.ref 81)) E)
    (X : Frag.In (Mine.hd.heap_39 w.params) h₀) (T : Top Mine.hd.view_39 (looseW Mine.hd.view_39 [Str.ofString "_initial_missing", Str.ofString "reduce"]) mean mg mb h₀)
    (F : Fr h₀ L s.heap m) (N : News h₀ L s.heap ((D, listOf acc.toArray nl) :: (L + 1, oc) :: rest)) (hoc : oc.data = .cell cv)
    (hDc : D ≠ L + 1) (hDr : ∀ p ∈ rest, p.1 ≠ D) (hcr : ∀ p ∈ rest, p.1 ≠ L + 1)
    (m0 : m (Str.ofString "shown") = some (.ref S)) (m2 : m (Str.ofString "longer") = some (.str (TX lg) t2)) (m3 : m (Str.ofString "size") = some (.int (n : Nat) t3)) (m4 : m (Str.ofString "rows") = some (.ref R)) (m5 : m (Str.ofString "lines") = some (.ref D))
    (hS : (S, listOf vals.toArray nS) ∈ rest) (hsh : ShownAre rest vals sh) (hsl : sh.length ≤ 6)
    (hR : h₀.IsList R items.toArray) (hn1 : 1 ≤ n) (hn2 : n ≤ items.length) (hnl : n ≤ lg.length) (hl9 : lg.length ≤ 9) (hrow : items[items.length - n]? = some (.ref d)) (hd : h₀.IsList d vs.toArray) (hv : StrsAre vs (row.map TX)) (hb1 : vs.length ≤ 6561) (hb2 : ∀ x ∈ row, x.length ≤ 8) (hacc : acc.length ≤ 100000) (hi9 : items.length ≤ 9)
    (h : ∀ ys h' tk nl' oc' cv' wv, StrsAre ys ((outL row (lg.drop (lg.length - n)) sh).map TX) → ys.length ≤ 39366 → Fr h₀ L h' (fun y => if y = Str.ofString "word" then wv else m y) → oc'.data = .cell cv' → News h₀ L h' ((D, listOf (acc ++ ys).toArray nl') :: (L + 1, oc') :: rest) → Q .next { s with heap := h', toks := tk }) :
    wpAny (model PySem.Challenge.rw_mj0076_01.row.prog w) ((Around.mk none dp fr gd un).deeper (envOfC (Str.ofString "_law_step") sc L 82 (.ref 81))) (exec stmt (envOfC (Str.ofString "_law_step") sc L 82 (.ref 81))) Q E s := by
  have e1 := (show stFor = Stmt.For _ _ _ _ _ from rfl)
  have e2 := (show stSc = Scope.mk _ _ _ _ _ from rfl)
  rw [e1] at hs
  rw [e2] at hsc
  have hsc0 := hsc
  subst hs
  subst hsc
  clear e1 e2
  have hrl : row.length ≤ 6561 := by have := hv.length; rw [List.length_map] at this; omega
  refine For_unr h₀ ?_ (by intro _; rfl) hE
  rw [ov1 m0] at F
  walk1
  replace F : Fr h₀ L s.heap m := fr_eq F fun y => by
    split
    · subst_vars; exact m0.symm
    · rfl
  have hz := N _ (.tail _ (.tail _ hS))
  refine Iter_list_unr (by rfl) ⟨_, hz.1, rfl, _, rfl⟩ F N hz.2.1 ?_
  refine unr_inv (I := fun i m' news' => ∃ ys nl' oc' cv' wv, StrsAre ys ((outL row (lg.drop (lg.length - n)) (sh.take i)).map TX) ∧ ys.length ≤ i * 6561 ∧ oc'.data = .cell cv' ∧ m' = (fun y => if y = Str.ofString "word" then wv else m y) ∧ news' = (D, listOf (acc ++ ys).toArray nl') :: (L + 1, oc') :: rest) ?start ?turn ?done
  case start =>
    refine ⟨[], nl, oc, cv, m (Str.ofString "word"), .nil, by simp, hoc, ?_, by rw [List.append_nil]⟩
    funext y
    split
    · subst_vars; rfl
    · rfl
  case done =>
    rintro m₁ news₁ h' tk ⟨ys, nl', oc', cv', wv, hy, hyl, hc, rfl, rfl⟩ F' N'
    have hle := hsh.length
    rw [List.take_of_length_le (by simp; omega)] at hy
    exact h ys h' tk nl' oc' cv' wv hy (by simp at hyl; omega) F' hc N'
  case turn =>
    rintro i m₁ news₁ hi ⟨ys, nl', oc', cv', wv, hy, hyl, hc, rfl, rfl⟩ v h₁ tk₁ own hP hown F₁ N₁
    obtain ⟨T', k, wd, u1, u2, nT, oT, rfl, hshi, hTm, hTc, hTd⟩ := hsh.at (i := i) (v := v) (by simpa using hP)
    have hDlt := Heap.lt_size (N _ (.head _)).1
    have hClt := Heap.lt_size (N _ (.tail _ (.head _))).1
    have oD : ∀ p ∈ own ++ rest, p.1 ≠ D := fun p hp => by
      rcases List.mem_append.mp hp with hp | hp
      · rcases List.mem_cons.mp (hown p hp) with e | e
        · rw [e]; exact fun e' => absurd (e' ▸ hDlt) (Nat.lt_irrefl _)
        · rw [List.mem_singleton.mp e]; exact hDr _ hS
      · exact hDr p hp
    have oC : ∀ p ∈ own ++ rest, p.1 ≠ L + 1 := fun p hp => by
      rcases List.mem_append.mp hp with hp | hp
      · rcases List.mem_cons.mp (hown p hp) with e | e
        · rw [e]; exact fun e' => absurd (e' ▸ hClt) (Nat.lt_irrefl _)
        · rw [List.mem_singleton.mp e]; exact hcr _ hS
      · exact hcr p hp
    have hIT : IsTup h₁ T' #[.str (TX [k]) u1, .str (TX wd) u2] := ⟨oT, (N₁ (T', oT) (List.mem_append_right _ (.tail _ (.tail _ hTm)))).1, hTc, nT, hTd⟩
    have N₂ : News h₀ L h₁ ((D, listOf (acc ++ ys).toArray nl') :: (L + 1, oc') :: (own ++ rest)) := fun p hp => N₁ p (by
      rcases List.mem_cons.mp hp with e | hp
      · exact List.mem_append_right _ (e ▸ .head _)
      · rcases List.mem_cons.mp hp with e | hp
        · exact List.mem_append_right _ (.tail _ (e ▸ .head _))
        · rcases List.mem_append.mp hp with hp | hp
          · exact List.mem_append_left _ hp
          · exact List.mem_append_right _ (.tail _ (.tail _ hp)))
    clear N₁
    generalize hrest : own ++ rest = rest' at N₂ oD oC
    have hi6 : i < 6 := by have := hsh.length; simp at hi; omega
    walk1; walk1; walk1; walk1; walk1; walk1; walk1; walk1; walk1; walk1
    with_reducible rename Fr _ _ _ _ => kF
    with_reducible rename News _ _ _ _ => kN
    replace kF := fr_eq kF wd_eq
    (refine' if_step (hs := ?k1) (hsc := ?k2) ?k3 ?k4 kF kN ?k5 ?k6 ?k7 ?k8 (if_pos rfl) ((if_neg ne_wd1).trans ?k9) ((if_neg ne_wd2).trans ?ka) ((if_neg ne_wd3).trans ?kb) ((if_neg ne_wd4).trans ?kc) ?kd ?ke ?kf ?kg ?kh ?ki ?kj ?kk ?kl ?km ?kn ?ko ?_)
    case k1 => rfl
    case k2 => rfl
    case k3 => assumption
    case k4 => assumption
    case k5 => assumption
    case k6 => assumption
    case k7 => assumption
    case k8 => assumption
    case k9 => assumption
    case ka => assumption
    case kb => assumption
    case kc => assumption
    case kd => assumption
    case ke => assumption
    case kf => assumption
    case kg => assumption
    case kh => assumption
    case ki => assumption
    case kj => assumption
    case kk => assumption
    case kl => assumption
    case km => assumption
    case ko => assumption
    case kn => simp only [List.length_append]; omega
    intro ys' h' tk' nl2 hys' F' N'
    clear kF kN
    k_steps
    with_reducible rename Obj => o2
    with_reducible rename (Obj.data _ = Data.cell (some _)) => hd'
    refine LoopStep3.next ⟨rfl, h', tk', _, (D, listOf (acc ++ (ys ++ ys')).toArray nl2) :: (L + 1, o2) :: rest, rfl, F', fun p hp => N' p ?_, rfl, ys ++ ys', nl2, _, _, _, ?_, ?_, hd', rfl, rfl⟩
    · rw [← hrest, List.append_assoc]
      rcases List.mem_append.mp hp with hp | hp
      · exact .tail _ (.tail _ (List.mem_append_left _ hp))
      · rcases List.mem_cons.mp hp with e | hp
        · exact e ▸ .head _
        · rcases List.mem_cons.mp hp with e | hp
          · exact .tail _ (e ▸ .head _)
          · exact .tail _ (.tail _ (List.mem_append_right _ hp))
    · rw [List.take_add_one, hshi, Option.toList_some, outL_snoc, List.map_append]
      exact StrsAre.append' hy hys'
    · have := out1_len hys'
      rw [List.length_append]; omega
end Mine
namespace Mine
theorem altN_lt {c : Nat} (h : c < 1114112) : altN c < 1114112 := by unfold altN; split <;> omega
def RowsAt (h : Heap) (items : List Value) (rows : List (List (List Nat))) : Prop :=
  items.length = rows.length ∧ ∀ (i : Nat) (v : Value), items[i]? = some v → ∃ (d : Addr) (vs : List Value) (row : List (List Nat)), v = Value.ref d ∧ rows[i]? = some row ∧ h.IsList d vs.toArray ∧ StrsAre vs (row.map TX)
theorem TX_app (a b : List Nat) : TX a ++ TX b = TX (a ++ b) := by unfold TX; rw [str_app]; simp
theorem addTX {prog : Program} {w : World} {A : Around} {E : Value → Shared → Prop} {s : Shared} {a b : List Nat} {t u : Tok} {Q : Value → Shared → Prop} (hz : a.length + b.length ≤ 1000)
    (h : ∀ k tk, Q (.str (TX (a ++ b)) k) { s with toks := tk }) : wpAny (model prog w) A (binaryOp .Add (.str (TX a) t) (.str (TX b) u)) Q E s := by
  refine SBL.add (fun _ _ _ => ?_) (hsz := ?_)
  · rw [TX_app]
    exact h _ _
  · rw [sizeLine_eq]; simp only [lenTX]; omega
theorem ShownAre.mono {rest rest' : List (Addr × Obj)} {vs : List Value} {sh : List (Nat × List Nat)} (H : ShownAre rest vs sh) (hs : ∀ p ∈ rest, p ∈ rest') : ShownAre rest' vs sh := by
  induction H with
  | nil => exact .nil
  | cons a b c _ ih => exact .cons (hs _ a) b c ih
def accL (rows : List (List (List Nat))) (lg : List Nat) (k : Nat) : Nat → List (List Nat)
  | 0 => []
  | i + 1 => accL rows lg k i ++ sizeL rows lg k (i + 1)
theorem accL_new (rows : List (List (List Nat))) (lg : List Nat) (k n : Nat) (h1 : 1 ≤ lg.length) (hn : n = if lg.length < 3 then lg.length else 3) : accL rows lg k n = newL rows lg k := by
  unfold newL
  by_cases h3 : lg.length < 3
  · rw [if_pos h3] at hn
    rcases (show lg.length = 1 ∨ lg.length = 2 by omega) with e | e
    · rw [e] at hn; subst hn
      simp [accL, e]
    · rw [e] at hn; subst hn
      simp [accL, e]
  · rw [if_neg h3] at hn
    subst hn
    simp [accL, show 1 ≤ lg.length by omega, show 2 ≤ lg.length by omega, show 3 ≤ lg.length by omega]
theorem RowsAt.at {h : Heap} {items : List Value} {rows : List (List (List Nat))} (H : RowsAt h items rows) {n : Nat} (h1 : 1 ≤ n) (hn : n ≤ rows.length) : ∃ (d : Addr) (vs : List Value), items[items.length - n]? = some (.ref d) ∧ h.IsList d vs.toArray ∧ StrsAre vs ((rows.getD (rows.length - n) []).map TX) ∧ rows.getD (rows.length - n) [] ∈ rows := by
  have hl := H.1
  obtain ⟨d, vs, row, hv, hr, hd, hs⟩ := H.2 (items.length - n) (items[items.length - n]'(by omega)) (List.getElem?_eq_getElem (by omega))
  rw [hl] at hr
  have e : rows.getD (rows.length - n) [] = row := by rw [List.getD_eq_getElem?_getD, hr]; rfl
  refine ⟨d, vs, ?_, hd, e ▸ hs, e ▸ List.mem_of_getElem? hr⟩
  rw [List.getElem?_eq_getElem (by omega), hv]
theorem ne_a1 : ¬ Str.ofString "shown" = Str.ofString "size" := by decide +kernel
theorem ne_a2 : ¬ Str.ofString "shown" = Str.ofString "word" := by decide +kernel
theorem ne_b1 : ¬ Str.ofString "longer" = Str.ofString "size" := by decide +kernel
theorem ne_c1 : ¬ Str.ofString "rows" = Str.ofString "size" := by decide +kernel
theorem ne_d1 : ¬ Str.ofString "lines" = Str.ofString "size" := by decide +kernel
theorem outer_loop {w : World} {mean : ExcName → Option Value} {mg mb : Str → Option Value} {dp un : Nat} {fr : Option (List Env)} {gd : Option (List Code)} {E : Value → Shared → Prop} {s : Shared} {Q : Flow → Shared → Prop} {body : List Stmt} {sc : Scope} (hs : [stFor] = body) (hsc : stSc = sc) {h₀ : Heap} {L D R S r : Addr} {m : Str → Option Value} {rest : List (Addr × Obj)} {oc : Obj} {cv : Option Value} {items vals : List Value} {nS k : Nat} {b : Int} {l lg : List Nat} {rows : List (List (List Nat))} {t2 u1 u2 u3 : Tok}
    (hE : PassesOwn (model PySem.Challenge.rw_mj0076_01.row.prog w) ((Around.mk none dp fr gd un).deeper (envOfC (Str.ofString "_law_step") sc L 82 (.ref 81))) (envOfC (Str.ofString "_law_step") sc L 82 (.ref 81)) E)
    (X : Frag.In (Mine.hd.heap_39 w.params) h₀) (T : Top Mine.hd.view_39 (looseW Mine.hd.view_39 [Str.ofString "_initial_missing", Str.ofString "reduce"]) mean mg mb h₀)
    (hr : IsRange s.heap r 1 b 1 u1 u2 u3) (hb : b = (if (lg.length : Int) < 3 then (lg.length : Int) else 3) + 1)
    (F : Fr h₀ L s.heap m) (N : News h₀ L s.heap ((D, listOf #[] 0) :: (L + 1, oc) :: rest)) (hoc : oc.data = .cell cv) (hcr : ∀ p ∈ rest, p.1 ≠ L + 1) (hD : ∀ p ∈ (L + 1, oc) :: rest, p.1 < D)
    (m0 : m (Str.ofString "shown") = some (.ref S)) (m2 : m (Str.ofString "longer") = some (.str (TX lg) t2)) (m4 : m (Str.ofString "rows") = some (.ref R)) (m5 : m (Str.ofString "lines") = some (.ref D))
    (hS : (S, listOf vals.toArray nS) ∈ rest) (hsh : ShownAre rest vals (shownL k)) (hlg : lg.length = l.length + 1)
    (hR : h₀.IsList R items.toArray) (hrows : RowsAt h₀ items rows) (hl : rows.length = l.length + 1) (hl8 : l.length ≤ 7) (hb1 : ∀ row ∈ rows, row.length ≤ 6561) (hb2 : ∀ row ∈ rows, ∀ x ∈ row, x.length ≤ 8)
    (h : ∀ ys h' tk nl' oc' wv sv, StrsAre ys ((newL rows lg k).map TX) → ys.length ≤ 200000 → Fr h₀ L h' (fun y => if y = Str.ofString "word" then wv else if y = Str.ofString "size" then sv else m y) → News h₀ L h' ((D, listOf ys.toArray nl') :: (L + 1, oc') :: rest) → Q .next { s with heap := h', toks := tk }) :
    wpAny (model PySem.Challenge.rw_mj0076_01.row.prog w) ((Around.mk none dp fr gd un).deeper (envOfC (Str.ofString "_law_step") sc L 82 (.ref 81))) (pyIter (.ref r)) (fun it s₂ => LoopAtV PySem.Challenge.rw_mj0076_01.row.prog w ((Around.mk none dp fr gd un).deeper (envOfC (Str.ofString "_law_step") sc L 82 (.ref 81))) h₀ (envOfC (Str.ofString "_law_step") sc L 82 (.ref 81)) (Str.ofString "size") body Q E it s₂) E s := by
  have hDc : D ≠ L + 1 := Ne.symm (Nat.ne_of_lt (hD _ (.head _)))
  have hDr : ∀ p ∈ rest, p.1 ≠ D := fun p hp => Nat.ne_of_lt (hD _ (.tail _ hp))
  have hn : ∃ n : Nat, (n = if lg.length < 3 then lg.length else 3) ∧ b = (n : Int) + 1 := ⟨_, rfl, by rw [hb]; split <;> split <;> omega⟩
  obtain ⟨n, hn, hb'⟩ := hn
  have hn3 : n ≤ 3 ∧ n ≤ lg.length := by rw [hn]; split <;> omega
  have hn1 : n = 1 ∨ n = 2 ∨ n = 3 := by rw [hn]; split <;> omega
  subst hb'
  refine iter_rangeUnr (n := n) (by rfl) hr ?_ ?_ F N fun I hI => ?_
  · rcases hn1 with e | e | e <;> rw [e] <;> decide
  · rcases hn1 with e | e | e <;> rw [e] <;> decide
  have hIr : ∀ p ∈ rest, p.1 ≠ I := fun p hp => Nat.ne_of_lt (hI _ (.tail _ (.tail _ hp)))
  have hID : I ≠ D := Ne.symm (Nat.ne_of_lt (hI _ (.head _)))
  have hIc : I ≠ L + 1 := Ne.symm (Nat.ne_of_lt (hI _ (.tail _ (.head _))))
  refine rangeRest_inv (J := fun i m' news' => ∃ acc nl' oc' cv' wv sv, StrsAre acc ((accL rows lg k i).map TX) ∧ acc.length ≤ i * 39366 ∧ oc'.data = .cell cv' ∧ m' = (fun y => if y = Str.ofString "word" then wv else if y = Str.ofString "size" then sv else m y) ∧ news' = (D, listOf acc.toArray nl') :: (L + 1, oc') :: rest) ?start ?turn ?done
  case start =>
    refine ⟨[], 0, oc, cv, m (Str.ofString "word"), m (Str.ofString "size"), .nil, by simp, hoc, ?_, rfl⟩
    funext y
    split
    · subst_vars; rfl
    · split
      · subst_vars; rfl
      · rfl
  case done =>
    rintro m₁ news₁ h' tk ⟨acc, nl', oc', cv', wv, sv, hy, hyl, hc, rfl, rfl⟩ F' N'
    rw [accL_new rows lg k n (by omega) hn] at hy
    exact h acc h' tk nl' oc' wv sv hy (by omega) F' N'
  case turn =>
    rintro i m₁ news₁ hi ⟨acc, nl', oc', cv', wv, sv, hy, hyl, hc, rfl, rfl⟩ t h₁ tk₁ F₁ N₁
    obtain ⟨d, vs, hrow, hd, hv, hmem⟩ := hrows.at (n := i + 1) (by omega) (by omega)
    have hvl : vs.length ≤ 6561 := by have := hv.length; rw [List.length_map] at this; have := hb1 _ hmem; omega
    have hil := hrows.1
    rw [show (1 : Int) + (i : Int) = ((i + 1 : Nat) : Int) by omega] at F₁
    generalize itR (1 + ((i + 1 : Nat) : Int)) ((n : Int) - ((i + 1 : Nat) : Int)) = oI at N₁
    have N₂ : News h₀ L h₁ ((D, listOf acc.toArray nl') :: (L + 1, oc') :: (I, oI) :: rest) := fun p hp => N₁ p (by
      rcases List.mem_cons.mp hp with e | hp
      · exact .tail _ (e ▸ .head _)
      · rcases List.mem_cons.mp hp with e | hp
        · exact .tail _ (.tail _ (e ▸ .head _))
        · rcases List.mem_cons.mp hp with e | hp
          · exact e ▸ .head _
          · exact .tail _ (.tail _ (.tail _ hp)))
    clear N₁
    subst hs
    refine wpAny_execs_cons ?_
    refine inner_loop (hs := rfl) (hsc := hsc) (n := i + 1) (row := rows.getD (rows.length - (i + 1)) []) (vs := vs) (d := d) (S := S) (vals := vals) (sh := shownL k) (items := items) (R := R) (lg := lg) hE X T F₁ N₂ hc hDc ?_ ?_ ((if_neg ne_a1).trans ((if_neg ne_a2).trans ((if_neg ne_a1).trans m0))) ((if_neg ne_b1).trans ((if_neg ne_wd1).trans ((if_neg ne_b1).trans m2))) (if_pos rfl) ((if_neg ne_c1).trans ((if_neg ne_wd3).trans ((if_neg ne_c1).trans m4))) ((if_neg ne_d1).trans ((if_neg ne_wd4).trans ((if_neg ne_d1).trans m5))) (.tail _ hS) (hsh.mono fun p hp => .tail _ hp) (by simp [shownL]) hR (by omega) (by omega) (by omega) (by omega) hrow hd hv hvl (fun x hx => hb2 _ hmem x hx) (by omega) (by omega) ?_
    · intro p hp
      rcases List.mem_cons.mp hp with e | hp
      · rw [e]; exact hID
      · exact hDr p hp
    · intro p hp
      rcases List.mem_cons.mp hp with e | hp
      · rw [e]; exact hIc
      · exact hcr p hp
    · intro ys h' tk nl2 oc2 cv2 wv2 hys hysl F' hc2 N'
      refine wpAny_execs_nil ?_
      refine ⟨h', tk, _, (D, listOf (acc ++ ys).toArray nl2) :: (L + 1, oc2) :: rest, rfl, F', fun p hp => N' p ?_, ?_, acc ++ ys, nl2, oc2, cv2, wv2, some (.int ((i + 1 : Nat) : Int) t), ?_, ?_, hc2, ?_, rfl⟩
      · rcases List.mem_cons.mp hp with e | hp
        · exact .tail _ (.tail _ (e ▸ .head _))
        · rcases List.mem_cons.mp hp with e | hp
          · exact e ▸ .head _
          · rcases List.mem_cons.mp hp with e | hp
            · exact .tail _ (e ▸ .head _)
            · exact .tail _ (.tail _ (.tail _ hp))
      · intro p hp
        rcases List.mem_cons.mp hp with e | hp
        · rw [e]; exact Ne.symm hID
        · rcases List.mem_cons.mp hp with e | hp
          · rw [e]; exact Ne.symm hIc
          · exact hIr p hp
      · rw [accL, List.map_append]
        exact StrsAre.append' hy hys
      · rw [List.length_append]; omega
      · funext y
        by_cases a1 : y = Str.ofString "word"
        · rw [if_pos a1, if_pos a1]
        · rw [if_neg a1, if_neg a1]
          by_cases a2 : y = Str.ofString "size"
          · rw [if_pos a2, if_pos a2]
          · simp only [if_neg a1, if_neg a2]
def stTail : List Stmt := (fnAt 14).1.drop 4
local macro_rules | `(tactic| walk_at "subscriptTail Name Slice str ref") => `(tactic| k_dflt ((with_reducible show wpAny _ _ (subscriptTail _ (Expr.Slice (some _) none none _) (Value.str (Str.mk _) _) _) _ _ _); (with_reducible rename Fr _ _ _ _ => F'); (with_reducible rename News _ _ _ _ => N'); (refine slice_strN_sn (hsz := ?hsz) (s := ⟨_, _, _, _, _⟩) F' N' ?_); (case hsz => (show List.length _ ≤ _; simp only [List.length_cons, List.length_nil] at *; rw [sizeLine_eq]; omega)); intro h' t' k F2 N2; clear F' N'; (try dsimp only); simp only [nn1, nn2, nn3, slf1, slf2, slf3]))
local macro_rules | `(tactic| walk_at "subscriptTail Name Slice str ref") => `(tactic| k_dflt ((with_reducible show wpAny _ _ (subscriptTail _ (Expr.Slice none (some _) none _) (Value.str (Str.mk _) _) _) _ _ _); (with_reducible rename Fr _ _ _ _ => F'); (with_reducible rename News _ _ _ _ => N'); (refine slice_strN_ns (hsz := ?hsz) (s := ⟨_, _, _, _, _⟩) F' N' ?_); (case hsz => (show List.length _ ≤ _; simp only [List.length_cons, List.length_nil] at *; rw [sizeLine_eq]; omega)); intro h' t' k F2 N2; clear F' N'; (try dsimp only); simp only [nn1, nn2, nn3, slt1, slt2, slt3]))
local macro_rules | `(tactic| walk_at "call ref") => `(tactic| k_dflt (k_here; (with_reducible rename LinesIH _ _ _ _ _ => IH); (refine' IH _ ?k0 _ _ _ _ _ _ _ _ ?k1 ?k2 ?k3 ?_; (case k0 => (simp only [List.length_cons, List.length_nil]; omega)); (case k1 => k_in); (case k2 => (exact Top.keeps (by assumption) (Fr.keep (by assumption)))); (case k3 => (try simp only [depth_deeper, List.length_cons, List.length_nil] at *); (try dsimp only); omega)); intro D' vs' h' tk' hk hD hP hS; obtain ⟨n', hP⟩ := hP; (have hv := lines_len hS (by simp only [List.length_cons, List.length_nil] at *; omega)); (with_reducible rename Fr _ _ _ _ => kF); (with_reducible rename News _ _ _ _ => kN); (obtain ⟨kF2, kN2, l1⟩ := news_add kF kN hk hD hP); clear kF kN hk hD hP; k_lt l1; (try dsimp only)))
local macro_rules | `(tactic| walk_at "call ref") => `(tactic| k_dflt (k_here; (with_reducible show wpAny _ _ (call _ [Value.str (Str.mk #[_]) _]) _ _ _); refine' law_code1 ?k1 ?k2 ?k3 ?_ ?_; (case k1 => k_in); (case k2 => (exact Top.keeps (by assumption) (Fr.keep (by assumption)))); (case k3 => (try simp only [depth_deeper, List.length_cons, List.length_nil] at *); (try dsimp only); omega); intro h' tk' hc hk; ((with_reducible rename Fr _ _ _ _ => kF); (with_reducible rename News _ _ _ _ => kN); (replace kF := Fr.keeps kF hk); (replace kN := News.keeps kN hk); clear hk; (try dsimp only)); rotate_left; intro k h' tk tk' hc hk; (have hlt := codeL_lt hc); ((with_reducible rename Fr _ _ _ _ => kF); (with_reducible rename News _ _ _ _ => kN); (replace kF := Fr.keeps kF hk); (replace kN := News.keeps kN hk); clear hk; (try dsimp only))))
local macro_rules | `(tactic| walk_at "call ref") => `(tactic| k_dflt (k_here; (with_reducible show wpAny _ _ (call _ [Value.str (Str.mk #[_, _]) _]) _ _ _); refine' law_code2 ?k1 ?k2 ?k3 ?_ ?_; (case k1 => k_in); (case k2 => (exact Top.keeps (by assumption) (Fr.keep (by assumption)))); (case k3 => (try simp only [depth_deeper, List.length_cons, List.length_nil] at *); (try dsimp only); omega); intro h' tk' hc hk; ((with_reducible rename Fr _ _ _ _ => kF); (with_reducible rename News _ _ _ _ => kN); (replace kF := Fr.keeps kF hk); (replace kN := News.keeps kN hk); clear hk; (try dsimp only)); rotate_left; intro k h' tk tk' hc hk; (have hlt := codeL_lt hc); ((with_reducible rename Fr _ _ _ _ => kF); (with_reducible rename News _ _ _ _ => kN); (replace kF := Fr.keeps kF hk); (replace kN := News.keeps kN hk); clear hk; (try dsimp only))))
local macro_rules | `(tactic| walk_at "call ref") => `(tactic| k_dflt (k_here; (with_reducible show wpAny _ _ (call _ [Value.str (Str.mk #[_, _, _]) _]) _ _ _); refine' law_code3 ?k1 ?k2 ?k3 ?_ ?_; (case k1 => k_in); (case k2 => (exact Top.keeps (by assumption) (Fr.keep (by assumption)))); (case k3 => (try simp only [depth_deeper, List.length_cons, List.length_nil] at *); (try dsimp only); omega); intro h' tk' hc hk; ((with_reducible rename Fr _ _ _ _ => kF); (with_reducible rename News _ _ _ _ => kN); (replace kF := Fr.keeps kF hk); (replace kN := News.keeps kN hk); clear hk; (try dsimp only)); rotate_left; intro k h' tk tk' hc hk; (have hlt := codeL_lt hc); ((with_reducible rename Fr _ _ _ _ => kF); (with_reducible rename News _ _ _ _ => kN); (replace kF := Fr.keeps kF hk); (replace kN := News.keeps kN hk); clear hk; (try dsimp only))))
local macro_rules | `(tactic| walk_at "eval ListComp") => `(tactic| k_dflt (k_here; refine LCg.ListComp_U (F₀ := by k_asm) (by with_unfolding_all rfl) (by decide) (by rfl) (by decide) (by rfl) ?_))
local macro_rules | `(tactic| walk_at "binaryOp Add str str") => `(tactic| k_dflt (k_here; (refine SBL.add (hsz := ?hsz) ?_); (case hsz => (rw [sizeLine_eq]; (simp only [lenS1]); omega)); intro _ _ _))
local macro_rules | `(tactic| walk_at "CompSrc") => `(tactic| k_dflt (k_here; (refine LCg.CompSrc.ledger (by rfl) (by k_asm) (by k_asm) (by k_mem) (by rw [List.size_toArray, sizeLine_eq]; omega) ?_); intro g'; (with_reducible rename (codeL _ = some _) => hcd); (refine' strs_rest (gOf hcd) (by assumption) ?turn ?_); (case turn => (intro k' t' I' oI' C' oC' D' m' ys' h' tk' E' hk' hC' hx' F' N' off' ne'; (have hln := lines_each hk' (by simp only [List.length_cons, List.length_nil] at *; omega)); (simp only [LCg.Off3, and_true] at off'); k_steps; exact ⟨rfl, _, rfl⟩)); intro ys' hys' hyl' D' h' tk' F' N' o1; (simp only [LCg.Off1, and_true] at o1); (try k_sweep); (try dsimp only)))
local macro_rules | `(tactic| walk_at "inplaceOp Add ref ref") => `(tactic| k_dflt (k_here; (refine' iaddK ?k1 ?k2 ?k3 ?k4 ?k5 ?_; (case k1 => k_asm); (case k2 => k_asm); (case k3 => k_mem); (case k4 => k_updF); (case k5 => ((try simp only [List.length_append, List.length_nil]); omega)); k_whole); intro h' n' F' N'; (try k_sweep); (try dsimp only)))
local macro_rules | `(tactic| walk_at "call builtin:len") => `(tactic| k_dflt (k_here; (with_reducible show wpAny _ _ (call (Value.builtin "len") [Value.str (Str.mk _) _]) _ _ _); (first | refine len1 ?_ | refine len2 ?_ | (refine lenC (by simp only [List.length_cons] at *; omega) ?_)); intro _ _; (try simp only [List.length_cons]); (try dsimp only)))
local macro_rules | `(tactic| walk_at "call builtin:min") => `(tactic| k_dflt ((with_reducible show wpAny _ _ (call (Value.builtin _) [Value.int 3 _, Value.int (Nat.cast _) _]) _ _ _); (with_reducible rename News _ _ _ _ => N'); (with_unfolding_all apply min_two_N); (case hh => with_unfolding_all rfl); (case N => exact N'); (case F => assumption); clear N'; intro _ _ _ _; rw [minC]))
local macro_rules | `(tactic| walk_at "subscriptTail Name Slice str ref") => `(tactic| k_dflt ((with_reducible show wpAny _ _ (subscriptTail _ (Expr.Slice (some _) none none _) (Value.str (TX _) _) _) _ _ _); (with_reducible rename Fr _ _ _ _ => F'); (with_reducible rename News _ _ _ _ => N'); (refine slice_strN_sn (hsz := ?hsz) (s := ⟨_, _, _, _, _⟩) F' N' ?_); (case hsz => (rw [lenTX, sizeLine_eq]; omega)); intro h' t' k F2 N2; clear F' N'; (try dsimp only); rw [slL (by assumption) (by assumption)]))
local macro_rules | `(tactic| walk_at "subscriptTail Name UnaryOp ref int") => `(tactic| k_dflt (k_here; (with_reducible show wpAny _ _ (subscriptTail _ _ (Value.ref _) (Value.int _ _)) _ _ _); (refine' kde_neg ?k1 ?k2 ?k3 ?k4 ?k5 ?_ ?k6; (case k1 => exact Heap.IsList.at (h := _) (by assumption) (fun o e => Fr.keep (by assumption) _ _ e)); (case k2 => omega); (case k3 => omega); (case k4 => exact seqNeg (by assumption) (by assumption)); (case k5 => assumption); (case k6 => with_unfolding_all rfl)); (try dsimp only)))
local macro_rules | `(tactic| walk_at "newList") => `(tactic| k_dflt (k_here; (refine newList0 (by decide) (by k_asm) (by k_asm) ?_); intro D' h' F' N' l1 l2; (try dsimp only)))
local macro_rules | `(tactic| walk_at "call builtin:len") => `(tactic| k_dflt (k_here; (refine lenT (by assumption) ?_); intro _ _; (try dsimp only)))
local macro_rules | `(tactic| walk_at "call builtin:min") => `(tactic| k_dflt ((with_reducible show wpAny _ _ (call (Value.builtin _) [Value.int 3 _, Value.int (Nat.cast _) _]) _ _ _); (with_reducible rename News _ _ _ _ => N'); (with_unfolding_all apply min_two_N); (case hh => with_unfolding_all rfl); (case N => exact N'); (case F => assumption); clear N'; intro _ _ _ _))
local macro_rules | `(tactic| walk_at "pyIter ref") => `(tactic| (k_here; refine stop ?_))
local macro_rules | `(tactic| k_all) => `(tactic| assumption)
theorem step_tail {w : World} {mean : ExcName → Option Value} {mg mb : Str → Option Value} {dp un : Nat} {fr : Option (List Env)} {gd : Option (List Code)} {E : Value → Shared → Prop} {s : Shared} {Q : Flow → Shared → Prop} {body : List Stmt} {sc : Scope} (hs : stTail = body) (hsc : stSc = sc) {h₀ : Heap} {L R S : Addr} {m : Str → Option Value} {rest : List (Addr × Obj)} {oc : Obj} {cv : Option Value} {items vals : List Value} {nS k : Nat} {l lg : List Nat} {rows : List (List (List Nat))} {t2 : Tok}
    (X : Frag.In (Mine.hd.heap_39 w.params) h₀) (T : Top Mine.hd.view_39 (looseW Mine.hd.view_39 [Str.ofString "_initial_missing", Str.ofString "reduce"]) mean mg mb h₀)
    (F : Fr h₀ L s.heap m) (N : News h₀ L s.heap ((L + 1, oc) :: rest)) (hoc : oc.data = .cell cv) (hcr : ∀ p ∈ rest, p.1 ≠ L + 1)
    (m0 : m (Str.ofString "shown") = some (.ref S)) (m2 : m (Str.ofString "longer") = some (.str (TX lg) t2)) (m4 : m (Str.ofString "rows") = some (.ref R))
    (hS : (S, listOf vals.toArray nS) ∈ rest) (hsh : ShownAre rest vals (shownL k)) (hlg : lg = l ++ [k])
    (hR : h₀.IsList R items.toArray) (hrows : RowsAt h₀ items rows) (hl : rows.length = l.length + 1) (hl8 : l.length ≤ 7) (hb1 : ∀ row ∈ rows, row.length ≤ 6561) (hb2 : ∀ row ∈ rows, ∀ x ∈ row, x.length ≤ 8)
    (h : ∀ st' R' D' t' ys h' tk', HK h₀ h' → h₀.objs.size ≤ st' → h₀.objs.size ≤ R' → h₀.objs.size ≤ D' → IsTup h' st' #[.str (TX lg) t', .ref R'] → h'.IsList R' (items ++ [Value.ref D']).toArray → h'.IsList D' ys.toArray → StrsAre ys ((newL rows lg k).map TX) → Q (.ret (.ref st')) { s with heap := h', toks := tk' }) :
    wpAny (model PySem.Challenge.rw_mj0076_01.row.prog w) ((Around.mk none dp fr gd un).deeper (envOfC (Str.ofString "_law_step") sc L 82 (.ref 81))) (execs body (envOfC (Str.ofString "_law_step") sc L 82 (.ref 81))) Q
      (fun e s' => wpAny (model PySem.Challenge.rw_mj0076_01.row.prog w) ((Around.mk none dp fr gd un).deeper (envOfC (Str.ofString "_law_step") sc L 82 (.ref 81))) (leaving (envOfC (Str.ofString "_law_step") sc L 82 (.ref 81)) e) (fun _ s'' => E e s'') (fun e' s'' => E e' s'') s') s := by
  have e1 := (show stTail = [_, _, _] from rfl)
  have e2 := (show stSc = Scope.mk _ _ _ _ _ from rfl)
  rw [e1] at hs
  rw [e2] at hsc
  subst hs
  subst hsc
  clear e1 e2
  have hlgl : lg.length = l.length + 1 := by rw [hlg]; simp
  have hlg9 : lg.length ≤ 1000 := by omega
  rw [ov1 m0, ov1 m2, ov1 m4] at F
  revert X; k_fill; intro X; (try k_fold)
  k_steps
  with_reducible rename IsRange _ _ _ _ _ _ _ _ => hrg
  with_reducible rename Fr _ _ _ _ => F1
  with_reducible rename News _ _ _ _ => N1
  (refine' outer_loop (hs := ?k1) (hsc := ?k2) (l := l) ?k3 ?k4 ?k5 hrg ?k6 F1 N1 ?k7 ?k8 ?k9 ?ka ?kb ?kc ?kd ?ke ?kf hlgl ?kg ?kh ?ki ?kj ?kk ?kl ?_)
  case k1 => rfl
  case k2 => rfl
  case k3 => passes_own
  case k4 => assumption
  case k5 => assumption
  case k6 => rfl
  case k7 => assumption
  case k8 => assumption
  case k9 => assumption
  case ka => rfl
  case kb => rfl
  case kc => rfl
  case kd => rfl
  case ke => assumption
  case kf => assumption
  case kg => assumption
  case kh => assumption
  case ki => assumption
  case kj => assumption
  case kk => assumption
  case kl => assumption
  intro ys h' tk nl' oc' wv sv hys hyl F' N'
  clear F1 N1 hrg
  k_steps
  with_reducible rename Fr _ _ _ _ => F1
  with_reducible rename News _ _ _ _ => N1
  have hil := hrows.1
  have hLR : @LT.lt Nat _ L _ := F1.ns.lt
  refine add_lists (ws := [Value.ref _]) F1 N1 (Heap.IsList.at hR (fun o e => F1.keep _ _ e)) (News.isList N1 (.head _)) ?_ (hsz := ?_)
  rotate_left
  · rw [sizeLine_eq]; simp only [List.length_cons, List.length_nil]; omega
  intro h' F' N'
  clear F1 N1
  (try dsimp only)
  k_steps
  with_reducible rename Fr _ _ _ _ => F1
  with_reducible rename News _ _ _ _ => N1
  refine h _ _ _ _ ys _ _ F1.keep ?_ ?_ ?_ ⟨_, News.get N1 (.head _), rfl, _, rfl⟩ (News.isList N1 (.tail _ (.head _))) (News.isList N1 (.tail _ (.tail _ (.tail _ (.head _))))) hys
  all_goals (have hz := F1.above; (try dsimp only at hLR ⊢); omega)
end Mine
namespace Mine
theorem chr127 {prog : Program} {w : World} {A : Around} {E : Value → Shared → Prop} {s : Shared} {t : Tok} {Q : Value → Shared → Prop} (h : ∀ (e : Nat) k tk, e = 127 → Q (.str (TX [e]) k) { s with toks := tk }) : wpAny (model prog w) A (call (.builtin "chr") [.int 127 t]) Q E s :=
  chr_of_range (by decide) (by decide) (h _ _ _ rfl)
section
variable {prog : Program} {w : World} {A : Around} {h₀ : Heap} {L : Addr} {m : Str → Option Value} {env : Env} {elt : Expr} {x : Str} {scope : Scope} {cl : List (Str × Addr)} {s : Shared} {S : List (Addr × Obj) → Prop} {Fin : List Value → List (Addr × Obj) → Prop} {news : List (Addr × Obj)}
def ElT (nw : List (Addr × Obj)) (c : Nat) (y : Value) (nw' : List (Addr × Obj)) : Prop :=
  ∃ (T : Addr) (o : Obj) (u1 u2 : Tok) (n : Nat), y = .ref T ∧ nw' = (T, o) :: nw ∧ (∀ p ∈ nw, p.1 < T) ∧ o.cls = .type "tuple" ∧ o.data = .seq #[.str (TX [c]) u1, .str (TX (unc c)) u2] n
theorem ShownAre.snoc {rest : List (Addr × Obj)} {T : Addr} {k : Nat} {wd : List Nat} {t1 t2 : Tok} {n : Nat} {o : Obj} (hm : (T, o) ∈ rest) (hc : o.cls = .type "tuple") (hd : o.data = .seq #[.str (TX [k]) t1, .str (TX wd) t2] n) : ∀ {vs : List Value} {sh : List (Nat × List Nat)}, ShownAre rest vs sh → ShownAre rest (vs ++ [.ref T]) (sh ++ [(k, wd)])
  | _, _, .nil => .cons hm hc hd .nil
  | _, _, .cons a b c r => .cons a b c (ShownAre.snoc hm hc hd r)
theorem tups_rest {vs : List Value} {cs : List Nat} (hi : StrsAre vs (cs.map fun c => TX [c])) (hS : ∀ p nw, S nw → S (p :: nw)) (hS0 : S news)
    (turn : ∀ c t I oI C oC D m₂ ys nw h tk (E' : Value → Shared → Prop), c ∈ cs → LCg.NsObj oC m₂ → m₂ x = some (.str (TX [c]) t) → Fr h₀ L h m → News h₀ L h ((I, oI) :: (C, oC) :: (D, LCg.lst ys) :: nw) → LCg.Off3 I C D nw → ((@Ne Nat I C) ∧ (@Ne Nat I D) ∧ (@Ne Nat C D)) →
      wpAny (model prog w) A (eval elt (compEnvC scope cl C env)) (LCg.CompEnd h₀ L m { s with heap := h, toks := tk } I oI C oC D (LCg.lst ys) (fun _ => True) (fun y nw' => ElT nw c y nw')) E' { s with heap := h, toks := tk })
    (fin : ∀ ys tl, ShownAre tl ys (cs.map fun c => (c, unc c)) → (∀ p ∈ tl, ∀ q ∈ news, q.1 < p.1) → Fin ys (tl ++ news)) : LCg.CompRest prog w A h₀ L m env elt x scope cl s S (fun i v => vs.toArray[i]? = some v) Fin vs.toArray.size 0 [] news := by
  have hks : cs.length = vs.toArray.size := by rw [List.size_toArray, hi.length, List.length_map]
  have key : ∀ (j i : Nat) (ys : List Value) (tl : List (Addr × Obj)), i + j = vs.toArray.size → ys.length = i → ShownAre tl ys ((cs.take i).map fun c => (c, unc c)) → (∀ p ∈ tl, ∀ q ∈ news, q.1 < p.1) → S (tl ++ news) → LCg.CompRest prog w A h₀ L m env elt x scope cl s S (fun i v => vs.toArray[i]? = some v) Fin j i ys (tl ++ news) := by
    intro j
    induction j with
    | zero =>
      intro i ys tl hi' hl hy hlt hSn
      have e : i = cs.length := by omega
      subst e
      rw [List.take_length] at hy
      exact LCg.CompRest.zero (fin ys tl hy hlt)
    | succ j ih =>
      intro i ys tl hi' hl hy hlt hSn
      refine LCg.CompRest.succ ?_
      intro v I oI C oC D m₂ h tk E' hv hC hx F N off ne
      obtain ⟨k, t, hv', hk⟩ := StrsAre.item hi i v (by simpa using hv)
      rw [List.getElem?_map, Option.map_eq_some_iff] at hk
      obtain ⟨c, hc, rfl⟩ := hk
      rw [hv'] at hx
      refine wpAny_mono (turn c t I oI C oC D m₂ ys (tl ++ news) h tk E' (List.mem_of_getElem? hc) hC hx F N off ne) (fun y s₂ hq => ?_) fun _ _ e => e
      obtain ⟨h', tk', nw, e, F', N', off', _, T, o, u1, u2, n, rfl, rfl, hT, ho1, ho2⟩ := hq
      refine ⟨h', tk', (T, o) :: (tl ++ news), e, F', N', off', hS _ _ hSn, ?_⟩
      refine ih (i + 1) _ ((T, o) :: tl) (by omega) (by simp [hl]) ?_ ?_ (hS _ _ hSn)
      · rw [List.take_add_one, hc, Option.toList_some, List.map_append]
        exact ShownAre.snoc (.head _) ho1 ho2 (hy.mono fun p hp => .tail _ hp)
      · intro p hp q hq
        rcases List.mem_cons.mp hp with e | hp
        · rw [e]; exact hT q (List.mem_append_right _ hq)
        · exact hlt p hp q hq
  exact key vs.toArray.size 0 [] [] (by omega) rfl (by simp only [List.take_zero, List.map_nil]; exact .nil) (fun p hp => nomatch hp) hS0
end
theorem news_cell {h₀ h : Heap} {L : Addr} {all : List (Addr × Obj)} {oc : Obj} (N : News h₀ L h all) (hm : (L + 1, oc) ∈ all) : News h₀ L h ((L + 1, oc) :: all.filter fun p => decide (p.1 ≠ L + 1)) := fun p hp => by
  rcases List.mem_cons.mp hp with rfl | hp
  · exact N _ hm
  · exact N _ (List.mem_filter.mp hp).1
theorem news_rot {h₀ h : Heap} {L : Addr} {a b c d : Addr × Obj} {r : List (Addr × Obj)} (N : News h₀ L h (a :: b :: c :: d :: r)) : News h₀ L h (b :: c :: d :: a :: r) := fun p hp => N p (by
  rcases List.mem_cons.mp hp with e | hp
  · exact .tail _ (e ▸ .head _)
  · rcases List.mem_cons.mp hp with e | hp
    · exact .tail _ (.tail _ (e ▸ .head _))
    · rcases List.mem_cons.mp hp with e | hp
      · exact .tail _ (.tail _ (.tail _ (e ▸ .head _)))
      · rcases List.mem_cons.mp hp with e | hp
        · exact e ▸ .head _
        · exact .tail _ (.tail _ (.tail _ (.tail _ hp))))
theorem cell_off {L : Addr} {all : List (Addr × Obj)} : ∀ p ∈ all.filter (fun p => decide (p.1 ≠ L + 1)), p.1 ≠ L + 1 := fun p hp => by simpa using (List.mem_filter.mp hp).2
theorem cell_in {L : Addr} {all : List (Addr × Obj)} {p : Addr × Obj} (hp : p ∈ all) (hn : p.1 ≠ L + 1) : p ∈ all.filter (fun p => decide (p.1 ≠ L + 1)) := List.mem_filter.mpr ⟨hp, by simpa using hn⟩
theorem off1_mem {D : Addr} : ∀ {l : List (Addr × Obj)}, LCg.Off1 D l → ∀ p ∈ l, p.1 ≠ D
  | [], _, _, h => nomatch h
  | _ :: _, x, p, h => by
    rcases List.mem_cons.mp h with rfl | h
    · exact x.1
    · exact off1_mem x.2 p h
theorem allLt_mem {D : Addr} : ∀ {l : List (Addr × Obj)}, AllLt D l → ∀ p ∈ l, p.1 < D
  | [], _, _, h => nomatch h
  | _ :: _, x, p, h => by
    rcases List.mem_cons.mp h with rfl | h
    · exact x.1
    · exact allLt_mem x.2 p h
local macro_rules | `(tactic| walk_at "exec For") => `(tactic| (k_here; refine stop ?_))
local macro_rules | `(tactic| walk_at "call ref") => `(tactic| k_dflt (k_here; (refine' ctrl_str ?k1 ?k2 ?k3 ?_; (case k1 => k_in); (case k2 => (exact Top.keeps (by assumption) (Fr.keep (by assumption)))); (case k3 => ((try simp only [depth_deeper, depth_in1]); (try dsimp only); omega))); intro h' tk tk' hk; ((with_reducible rename Fr _ _ _ _ => kF); (with_reducible rename News _ _ _ _ => kN); (replace kF := Fr.keeps kF hk); (replace kN := News.keeps kN hk); clear hk; (try dsimp only))))
local macro_rules | `(tactic| walk_at "call ref") => `(tactic| k_dflt (k_here; (refine' alt_str ?k1 ?k2 ?k3 ?k4 ?_; (case k1 => k_in); (case k2 => (exact Top.keeps (by assumption) (Fr.keep (by assumption)))); (case k3 => ((try simp only [depth_deeper, depth_in1]); (try dsimp only); omega)); (case k4 => omega)); intro h' tk tk' hk; ((with_reducible rename Fr _ _ _ _ => kF); (with_reducible rename News _ _ _ _ => kN); (replace kF := Fr.keeps kF hk); (replace kN := News.keeps kN hk); clear hk; (try dsimp only))))
local macro_rules | `(tactic| walk_at "call ref") => `(tactic| k_dflt (k_here; (refine' unctrl_str ?k1 ?k2 ?k3 ?k4 ?_; (case k1 => k_in); (case k2 => (exact Top.keeps (by assumption) (Fr.keep (by assumption)))); (case k3 => ((try simp only [depth_deeper, depth_in1]); (try dsimp only); omega)); (case k4 => (first | omega | (refine altN_lt ?_; omega)))); intro h' tk tk' hk; ((with_reducible rename Fr _ _ _ _ => kF); (with_reducible rename News _ _ _ _ => kN); (replace kF := Fr.keeps kF hk); (replace kN := News.keeps kN hk); clear hk; (try dsimp only))))
local macro_rules | `(tactic| walk_at "binaryOp Add str str") => `(tactic| k_dflt (k_here; (refine addTX (by (simp only [List.length_cons, List.length_nil]; omega)) ?_); intro _ _))
local macro_rules | `(tactic| walk_at "call builtin:chr") => `(tactic| k_dflt (k_here; (refine chr127 ?_); intro _ _ _ _))
local macro_rules | `(tactic| walk_at "eval ListComp") => `(tactic| k_dflt (k_here; refine LCg.ListComp_U (F₀ := by k_asm) (by with_unfolding_all rfl) (by decide) (by rfl) (by decide) (by rfl) ?_))
local macro_rules | `(tactic| walk_at "CompRest") => `(tactic| (k_here; (with_reducible show LCg.CompRest _ _ _ _ _ _ _ (Expr.Tuple _ _ _) _ _ _ _ _ _ _ _ _ _ _); refine stop ?_))
theorem law_step {w : World} {mean : ExcName → Option Value} {mg mb : Str → Option Value} {dp un : Nat} {fr : Option (List Env)} {gd : Option (List Code)} {E : Value → Shared → Prop} {s : Shared} {Q : Value → Shared → Prop} {st R : Addr} {l : List Nat} {k : Nat} {t1 t : Tok} {items : List Value} {rows : List (List (List Nat))}
    (X : Frag.In (Mine.hd.heap_39 w.params) s.heap) (T : Top Mine.hd.view_39 (looseW Mine.hd.view_39 [Str.ofString "_initial_missing", Str.ofString "reduce"]) mean mg mb s.heap) (hroom : dp + 4 < recursionLimit) (hk : k < 1114112)
    (hst : IsTup s.heap st #[.str (TX l) t1, .ref R]) (hR : s.heap.IsList R items.toArray) (hrows : RowsAt s.heap items rows) (hl : rows.length = l.length + 1) (hl8 : l.length ≤ 7) (hb1 : ∀ row ∈ rows, row.length ≤ 6561) (hb2 : ∀ row ∈ rows, ∀ x ∈ row, x.length ≤ 8)
    (h : ∀ st' R' D' t' ys h' tk', HK s.heap h' → s.heap.objs.size ≤ st' → s.heap.objs.size ≤ R' → s.heap.objs.size ≤ D' → IsTup h' st' #[.str (TX (l ++ [k])) t', .ref R'] → h'.IsList R' (items ++ [Value.ref D']).toArray → h'.IsList D' ys.toArray → StrsAre ys ((newL rows (l ++ [k]) k).map TX) → Q (.ref st') { s with heap := h', toks := tk' }) :
    wpAny (model PySem.Challenge.rw_mj0076_01.row.prog w) (Around.mk none dp fr gd un) (call (.ref 82) [.ref st, .str (TX [k]) t]) Q E s := by
  (revert X; k_fill; intro X; k_dflt (refine' enter_fnC (K := (Mine.hd.heap_39 w.params)) (binds := [(Str.ofString "state", .ref st), (Str.ofString "sign", .str (TX [k]) t)]) ?e1 ?e2 ?e3 ?e4 ?e5 ?e6 ?e7 ?ec ?_ ?e8 ?e9 ?ea; (case e1 => assumption); (case e2 => exact Top.nolimit (by assumption)); (case e3 => k_is); (case e4 => k_is); (case e5 => (try simp only [depth_deeper, depth_in1]); (try dsimp only); omega); (case e6 => exact BindsTo.of_eq rfl); (case e7 => exact rfl); (case ec => decide +kernel); (case e8 => exact rfl); (case e9 => exact rfl); (case ea => exact rfl)); intro L h₁ tk₀ cells F N Y; k_cells Y; (try dsimp only); (try k_fold))
  k_steps
  with_reducible rename (_ = 127) => he
  subst he
  (refine' tups_rest (cs := [k, k % 32, 127, altN k, altN (k % 32), altN 127]) ?hi ?hS ?hS0 ?turn ?fin)
  case hi => exact .cons _ _ (.cons _ _ (.cons _ _ (.cons _ _ (.cons _ _ (.cons _ _ .nil)))))
  case hS =>
    rintro p nw (h | ⟨o, hm, r⟩)
    · exact .inl h
    · exact .inr ⟨o, .tail _ hm, r⟩
  case hS0 => exact .inr ⟨_, .head _, rfl, _, rfl⟩
  case turn =>
    intro c u I oI C oC D m₂ ys nw h₂ tk₂ E₂ hc hC hx F₂ N₂ off ne
    have hlt : c < 1114112 := by
      have hk2 := altN_lt hk
      have hk3 := altN_lt (show k % 32 < 1114112 by omega)
      have hk4 := altN_lt (show 127 < 1114112 by omega)
      simp only [List.mem_cons, List.not_mem_nil, or_false] at hc
      rcases hc with e | e | e | e | e | e <;> rw [e] <;> omega
    clear hc h
    k_steps
    with_reducible rename Fr _ _ _ _ => F3
    with_reducible rename News _ _ _ _ => N3
    with_reducible rename (_ ∧ _ ∧ _ ∧ AllLt _ _) => l3
    show LCg.CompEnd _ _ _ _ _ _ _ _ _ _ _ _ _ _
    refine ⟨_, _, _, rfl, F3, news_rot N3, ⟨⟨?_, ?_, ?_⟩, off⟩, trivial, _, _, _, _, _, rfl, rfl, allLt_mem l3.2.2.2, rfl, rfl⟩
    · exact Ne.symm (Nat.ne_of_lt l3.1)
    · exact Ne.symm (Nat.ne_of_lt l3.2.1)
    · exact Ne.symm (Nat.ne_of_lt l3.2.2.1)
  case fin =>
    intro ys tl hsh hlt D h₂ tk₂ F₂ N₂ off
    show wpAny _ _ (execs _ _) _ _ _
    have offD := off1_mem off
    (refine' step_tail (hs := ?k1) (hsc := ?k2) (l := l) (rows := rows) (vals := ys) (S := D) (k := k) ?k3 ?k4 F₂ (news_cell N₂ (.tail _ (List.mem_append_right _ (.tail _ (.tail _ (.tail _ (.head _))))))) ?k5 cell_off ?k6 ?k7 ?k8 (cell_in (.head _) ?k9) (hsh.mono fun p hp => cell_in (.tail _ (List.mem_append_left _ hp)) ?ka) ?kb ?kc ?kd ?ke ?kf ?kg ?kh ?_)
    case k1 => rfl
    case k2 => rfl
    case k3 => assumption
    case k4 => assumption
    case k5 => assumption
    case k6 => rfl
    case k7 => rfl
    case k8 => rfl
    case k9 => exact fun e => offD _ (List.mem_append_right _ (.tail _ (.tail _ (.tail _ (.head _))))) e.symm
    case ka => exact Ne.symm (Nat.ne_of_lt (hlt p hp _ (.tail _ (.tail _ (.tail _ (.head _))))))
    case kb => rfl
    case kc => assumption
    case kd => assumption
    case ke => assumption
    case kf => assumption
    case kg => assumption
    case kh => assumption
    intro st' R' D' t' ys' h' tk' a1 a2 a3 a4 a5 a6 a7 a8
    exact h st' R' D' t' ys' h' tk' a1 a2 a3 a4 a5 a6 a7 a8
end Mine
namespace Mine
def StateAt (h : Heap) (st : Addr) (l : List Nat) : Prop :=
  ∃ (t : Tok) (R : Addr) (items : List Value) (rows : List (List (List Nat))), Inv l rows ∧ IsTup h st #[.str (TX l) t, .ref R] ∧ h.IsList R items.toArray ∧ RowsAt h items rows
def StateL (h₀ : Heap) (news : List (Addr × Obj)) (st : Addr) (l : List Nat) : Prop :=
  ∃ (t : Tok) (R : Addr) (items : List Value) (rows : List (List (List Nat))), Inv l rows ∧ ∀ h : Heap, HK h₀ h → (∀ p ∈ news, h.get? p.1 = some p.2) → IsTup h st #[.str (TX l) t, .ref R] ∧ h.IsList R items.toArray ∧ RowsAt h items rows
theorem RowsAt.keeps {h h' : Heap} {items : List Value} {rows : List (List (List Nat))} (H : RowsAt h items rows) (hk : HK h h') : RowsAt h' items rows :=
  ⟨H.1, fun i v hv => let ⟨d, vs, row, a, b, c, e⟩ := H.2 i v hv; ⟨d, vs, row, a, b, c.at fun o q => hk _ _ q, e⟩⟩
theorem isTup_keeps {h h' : Heap} {a : Addr} {its : Array Value} (H : IsTup h a its) (hk : HK h h') : IsTup h' a its := let ⟨o, e, r⟩ := H; ⟨o, hk _ _ e, r⟩
theorem StateAt.toL {h : Heap} {st : Addr} {l : List Nat} (H : StateAt h st l) : StateL h [] st l :=
  let ⟨t, R, items, rows, a, b, c, d⟩ := H
  ⟨t, R, items, rows, a, fun _ hk _ => ⟨isTup_keeps b hk, c.at fun o q => hk _ _ q, d.keeps hk⟩⟩
theorem StateAt.keeps {h h' : Heap} {st : Addr} {l : List Nat} (H : StateAt h st l) (hk : HK h h') : StateAt h' st l :=
  let ⟨t, R, items, rows, a, b, c, d⟩ := H
  ⟨t, R, items, rows, a, isTup_keeps b hk, c.at fun o q => hk _ _ q, d.keeps hk⟩
theorem StateL.at {h₀ h : Heap} {news : List (Addr × Obj)} {st : Addr} {l : List Nat} (H : StateL h₀ news st l) (hk : HK h₀ h) (hn : ∀ p ∈ news, h.get? p.1 = some p.2) : StateAt h st l :=
  let ⟨t, R, items, rows, a, b⟩ := H
  ⟨t, R, items, rows, a, b h hk hn⟩
theorem Inv.len64 {l : List Nat} {rows : List (List (List Nat))} (H : Inv l rows) (hl : l.length ≤ 8) : ∀ row ∈ rows, row.length < 64 := fun row hr => by
  obtain ⟨i, hi⟩ := List.getElem?_of_mem hr
  have g := H.good i row hi
  rw [(g.perm (linesL_good _)).length_eq]
  exact linesL_64 _ (by rw [List.length_take]; omega)
theorem Inv.each8 {l : List Nat} {rows : List (List (List Nat))} (H : Inv l rows) (hl : l.length ≤ 8) : ∀ row ∈ rows, ∀ x ∈ row, x.length ≤ 8 := fun row hr x hx => by
  obtain ⟨i, hi⟩ := List.getElem?_of_mem hr
  have := (H.good i row hi).each hx
  rw [List.length_take] at this; omega
theorem RowsAt.snoc {h : Heap} {items : List Value} {rows : List (List (List Nat))} {D : Addr} {ys : List Value} {row : List (List Nat)} (H : RowsAt h items rows) (hd : h.IsList D ys.toArray) (hy : StrsAre ys (row.map TX)) : RowsAt h (items ++ [.ref D]) (rows ++ [row]) := by
  have hl := H.1
  refine ⟨by simp [hl], fun i v hv => ?_⟩
  by_cases hi : i < items.length
  · rw [List.getElem?_append_left hi] at hv
    obtain ⟨d, vs, r, a, b, c, e⟩ := H.2 i v hv
    exact ⟨d, vs, r, a, by rw [List.getElem?_append_left (by omega)]; exact b, c, e⟩
  · by_cases he : i = items.length
    · subst he
      rw [List.getElem?_append_right (Nat.le_refl _), Nat.sub_self] at hv
      simp at hv
      subst hv
      exact ⟨D, ys, row, rfl, by rw [hl, List.getElem?_append_right (Nat.le_refl _), Nat.sub_self]; rfl, hd, hy⟩
    · rw [List.getElem?_eq_none (by simp; omega)] at hv
      cases hv
theorem is_other2 {M : Model} {A : Around} {E : Value → Shared → Prop} {s : Shared} {Q : Value → Shared → Prop} {x y : Addr} {ox oy : Obj} (hx : s.heap.get? x = some ox) (hy : s.heap.get? y = some oy) (hxy : x ≠ y) (hnt : oy.cls ≠ .type "tuple") (h : Q (.bool false) s) : wpAny M A (compareOp .Is (.ref x) (.ref y)) Q E s := by
  show wpAny M A (do return .bool (← isSame (.ref x) (.ref y))) Q E s
  refine wpAny_bind ?_
  show wpAny M A (if (x == y) = true then pure true else _) _ E s
  rw [if_neg (by simpa using hxy)]
  refine wpAny_bind (wpAny_load hx (wpAny_bind (wpAny_load hy ?_)))
  split
  · rename_i h1 _ _; exact absurd h1 hnt
  · exact wpAny_pure (wpAny_pure h)
theorem iter_list {prog : Program} {w : World} {A : Around} {E : Value → Shared → Prop} {s : Shared} {h₀ : Heap} {L l : Addr} {m : Str → Option Value} {news : List (Addr × Obj)} {its : Array Value} {Q : Value → Shared → Prop} (F : Fr h₀ L s.heap m) (N : News h₀ L s.heap news) (hl : s.heap.IsList l its)
    (h : ∀ (I : Addr) h', Fr h₀ L h' m → News h₀ L h' ((I, ({ cls := .type "list_iterator", data := .fields #[.ref l, .int 0 0] } : Obj)) :: news) → (∀ p ∈ news, p.1 < I) → @LT.lt Nat _ L I → @Ne Nat l I → Q (.ref I) { s with heap := h' }) :
    wpAny (model prog w) A (call (.builtin "iter") [.ref l]) Q E s := by
  refine call_function_entry (by decide +kernel) (by decide +kernel) kdk_entry_iter (kdk_args_iter _) ?_
  unfold Builtin.«iter»
  refine wpAny_bind (m := someArgs "iter" 1 2 _) (wpAny_of_eq (a := [Value.ref l]) (by first | rfl | kernel_rfl!) ?_)
  show wpAny _ _ (pyIter (.ref l) >>= _) _ _ _
  refine wpAny_bind (wpAny_pyIter_list hl ?_)
  exact wpAny_pure ⟨_, rfl, h _ _ (F.push _) (News.push F N _ rfl) (fun q hq => Heap.lt_size (N q hq).1) F.ns.lt (Nat.ne_of_lt (by obtain ⟨_, e, _⟩ := hl; exact Heap.lt_size e))⟩
local macro_rules | `(tactic| walk_at "call builtin:iter") => `(tactic| k_dflt (k_here; (refine iter_list (by k_asm) (by k_asm) (Heap.IsList.at (h := _) (by assumption) (fun o e => Fr.keep (by assumption) _ _ e)) ?_); intro D' h' F' N' l1 l2 l3; (try dsimp only)))
local macro_rules | `(tactic| walk_at "compareOp Is ref ref") => `(tactic| k_dflt (k_here; (refine' is_other2 (Fr.keep ?k1 _ _ ?k2) (kto_K ?k3 ?k4) ?k5 ?k6 ?_; (case k1 => k_asm); (case k2 => assumption); (case k3 => k_in); (case k4 => k_is); (case k5 => assumption); (case k6 => decide)); (try dsimp only)))
local macro_rules | `(tactic| walk_at "exec For") => `(tactic| (k_here; refine stop ?_))
local macro_rules | `(tactic| walk_at "exec For Name Name cons nil") => `(tactic| (k_here; refine stop ?_))
theorem news_one {h₀ h h' : Heap} {L D : Addr} {m : Str → Option Value} {news : List (Addr × Obj)} {o : Obj} (F : Fr h₀ L h m) (N : News h₀ L h' news) (hD : h.objs.size ≤ D) (ho : h'.get? D = some o) : News h₀ L h' ((D, o) :: news) := fun p hp => by
  rcases List.mem_cons.mp hp with rfl | hp
  · refine ⟨ho, fun e => ?_, ?_⟩
    · have := F.ns.lt
      have e' : D = L := e
      rw [← e'] at this
      exact absurd this (Nat.not_lt.mpr hD)
    · cases q : h₀.get? D with
      | none => rfl
      | some o' => exact absurd (Heap.lt_size (F.keep _ _ q)) (Nat.not_lt.mpr hD)
  · exact N p hp
def stRed : List Stmt := match (fnAt 9).1 with | [_, _, .For _ _ b _ _, _] => b | _ => []
def scRed : Scope := (fnAt 9).2
theorem ne_vi : ¬ Str.ofString "it" = Str.ofString "element" := by decide +kernel
local macro_rules | `(tactic| walk_at "call ref") => `(tactic| (k_here; refine stop ?_))
theorem reduce_loop {w : World} {mean : ExcName → Option Value} {mg mb : Str → Option Value} {dp un : Nat} {fr : Option (List Env)} {gd : Option (List Code)} {E : Value → Shared → Prop} {s : Shared} {Q : Flow → Shared → Prop} {body : List Stmt} {sc : Scope} (hs : stRed = body) (hsc : scRed = sc) {h₀ hb : Heap} {nb : List (Addr × Obj)} {L sq st I : Addr} {m : Str → Option Value} {l ks : List Nat} {vs : List Value}
    (X : Frag.In (Mine.hd.heap_39 w.params) h₀) (T : Top Mine.hd.view_39 (looseW Mine.hd.view_39 [Str.ofString "_initial_missing", Str.ofString "reduce"]) mean mg mb h₀) (hroom : dp + 5 < recursionLimit) (hks : ∀ k ∈ ks, k < 1114112)
    (hsq : h₀.IsList sq vs.toArray) (hvs : StrsAre vs (ks.map fun k => TX [k])) (hhb : HK hb h₀) (hnb : ∀ p ∈ nb, h₀.get? p.1 = some p.2) (hst : StateL hb nb st l) (hlen : l.length + ks.length ≤ 8)
    (F : Fr h₀ L s.heap m) (N : News h₀ L s.heap [(I, ({ cls := .type "list_iterator", data := .fields #[.ref sq, .int 0 0] } : Obj))])
    (m1 : m (Str.ofString "function") = some (.ref 82)) (m2 : m (Str.ofString "value") = some (.ref st))
    (h : ∀ st' h' tk' m' news', HK h₀ h' → (st' = st ∨ h₀.objs.size ≤ st') → (∀ p ∈ news', h'.get? p.1 = some p.2 ∧ h₀.get? p.1 = none) → StateL hb (news' ++ nb) st' (l ++ ks) → Fr h₀ L h' m' → m' (Str.ofString "value") = some (.ref st') → Q .next { s with heap := h', toks := tk' }) :
    wpAny (model PySem.Challenge.rw_mj0076_01.row.prog w) ((Around.mk none dp fr gd un).deeper (envOf (Str.ofString "reduce") sc L 58 (.ref 57))) (pyIter (.ref I)) (fun it s₂ => LoopAtV PySem.Challenge.rw_mj0076_01.row.prog w ((Around.mk none dp fr gd un).deeper (envOf (Str.ofString "reduce") sc L 58 (.ref 57))) h₀ (envOf (Str.ofString "reduce") sc L 58 (.ref 57)) (Str.ofString "element") body Q E it s₂) E s := by
  have e1 := (show stRed = [_] from rfl)
  have e2 := (show scRed = Scope.mk _ _ _ _ _ from rfl)
  rw [e1] at hs
  rw [e2] at hsc
  subst hs
  subst hsc
  clear e1 e2
  have hIN := N _ (.head _)
  have hsI : sq ≠ I := by
    rintro rfl
    obtain ⟨o, e, _⟩ := hsq
    rw [e] at hIN
    cases hIN.2.2
  have hsqL : sq ≠ L := by
    obtain ⟨o, e, _⟩ := id hsq
    exact Nat.ne_of_lt (Nat.lt_of_lt_of_le (Heap.lt_size e) F.above)
  refine wpAny_pyIter_listiter (l := sq) (i := 0) ⟨_, hIN.1, rfl, rfl⟩ ?_
  refine ⟨I, [I, sq], [I], vs.toArray.size, _, _, m, [], (fun i m' news' => ∃ st' ev, StateL hb (news' ++ nb) st' (l ++ ks.take i) ∧ (st' = st ∨ h₀.objs.size ≤ st') ∧ m' = fun y => if y = Str.ofString "element" then ev else if y = Str.ofString "value" then some (.ref st') else m y), rfl, Walks.list (by rfl) I sq hsI vs.toArray, ?_, ?_, (fun p hp => nomatch hp), ⟨⟨_, hIN.1, rfl, rfl⟩, hsq.at fun o e => F.keep _ _ e⟩, F, News.nil, ⟨st, m (Str.ofString "element"), ?_, .inl rfl, ?_⟩, ?_, ?_⟩
  · intro hm
    rcases List.mem_cons.mp hm with e | hm
    · exact hIN.2.1 e.symm
    · exact hsqL (List.mem_singleton.mp hm).symm
  · intro b hb
    rw [List.mem_singleton.mp hb]
    exact hIN.2.2
  · rw [List.take_zero, List.append_nil]; exact hst
  · funext y
    split
    · subst_vars; rfl
    · split
      · subst_vars; exact m2
      · rfl
  · rintro i v m₁ news₁ s₁ own ⟨h₁, tk₁, rfl⟩ hi hP ⟨st', ev, hS, hor, rfl⟩ hoff hown hget hall hSt F₁ N₁
    obtain ⟨kS, u, hv, hk⟩ := StrsAre.item hvs i v (by simpa using hP)
    rw [List.getElem?_map, Option.map_eq_some_iff] at hk
    obtain ⟨k, hk, rfl⟩ := hk
    subst hv
    obtain ⟨t0, R, items, rows, hinv, hL⟩ := hS
    have hA := hL h₁ (fun b o e => F₁.keep b o (hhb b o e)) fun p hp => (List.mem_append.mp hp).elim (fun hp => (N₁ p (List.mem_append_right _ hp)).1) fun hp => F₁.keep _ _ (hnb p hp)
    have hlk : (l ++ ks.take i).length ≤ 7 := by
      have : i < ks.length := by rcases Nat.lt_or_ge i ks.length with h | h; · exact h
                                 · rw [List.getElem?_eq_none h] at hk; cases hk
      rw [List.length_append, List.length_take]; omega
    rw [ov1 m1] at F₁
    (try dsimp only at F₁ N₁)
    generalize hall' : own ++ news₁ = all at N₁
    have hIlt : I < h₁.objs.size := by obtain ⟨o, e, _⟩ := hSt.1; exact Heap.lt_size e
    have hbase : h₀.objs.size ≤ h₁.objs.size := Nat.le_of_lt (Nat.lt_of_le_of_lt F₁.above F₁.ns.lt)
    revert X; k_fill; intro X; (try k_fold)
    k_steps
    (refine' law_step ?k1 ?k2 ?k3 (hks k (List.mem_of_getElem? hk)) hA.1 hA.2.1 hA.2.2 hinv.len hlk (fun row hr => Nat.le_trans (Nat.le_of_lt (hinv.len64 (by omega) row hr)) (by decide)) (hinv.each8 (by omega)) ?_)
    case k1 => k_in
    case k2 => (exact Top.keeps (by assumption) (Fr.keep (by assumption)))
    case k3 => ((try simp only [depth_deeper, depth_in1]); (try dsimp only); omega)
    intro st2 R2 D2 t2 ys h2 tk2 hk2 b1 b2 b3 c1 c2 c3 c4
    have F₂ := Fr.keeps F₁ hk2
    obtain ⟨oT, eT, rT⟩ := c1
    obtain ⟨oR, eR, rR⟩ := c2
    obtain ⟨oD, eD, rD⟩ := c3
    have N₂ := news_one F₁ (news_one F₁ (news_one F₁ (News.keeps N₁ hk2) b3 eD) b2 eR) b1 eT
    clear F₁ N₁
    (try dsimp only at F₂ N₂ ⊢)
    k_steps
    with_reducible rename Fr _ _ _ _ => F3
    with_reducible rename News _ _ _ _ => N3
    show LoopStepU _ _ _ _ _ _ _ _
    refine ⟨rfl, _, _, _, (st2, oT) :: (R2, oR) :: (D2, oD) :: news₁, rfl, F3, fun p hp => N3 p ?_, fun p hp => ?_, st2, some (.str (TX [k]) u), ⟨t2, R2, items ++ [.ref D2], rows ++ [newL rows ((l ++ ks.take i) ++ [k]) k], ?_, fun h'' hk'' hn'' => ⟨⟨oT, hn'' _ (.head _), ?_⟩, ⟨oR, hn'' _ (.tail _ (.head _)), rR⟩, RowsAt.snoc (hL h'' hk'' fun p hp => hn'' p (.tail _ (.tail _ (.tail _ hp)))).2.2 ⟨oD, hn'' _ (.tail _ (.tail _ (.head _))), rD⟩ c4⟩⟩, .inr (Nat.le_trans hbase b1), ?_⟩
    · rw [← hall']
      rcases List.mem_append.mp hp with hp | hp
      · exact .tail _ (.tail _ (.tail _ (List.mem_append_left _ hp)))
      · rcases List.mem_cons.mp hp with e | hp
        · exact e ▸ .head _
        · rcases List.mem_cons.mp hp with e | hp
          · exact .tail _ (e ▸ .head _)
          · rcases List.mem_cons.mp hp with e | hp
            · exact .tail _ (.tail _ (e ▸ .head _))
            · exact .tail _ (.tail _ (.tail _ (List.mem_append_right _ hp)))
    · have big : ∀ x : Addr, h₁.objs.size ≤ x → x ∉ [I] := fun x hx hm => by
        rw [List.mem_singleton.mp hm] at hx
        exact absurd hIlt (Nat.not_lt.mpr hx)
      rcases List.mem_cons.mp hp with e | hp
      · rw [e]; exact big _ b1
      · rcases List.mem_cons.mp hp with e | hp
        · rw [e]; exact big _ b2
        · rcases List.mem_cons.mp hp with e | hp
          · rw [e]; exact big _ b3
          · exact hoff p hp
    · rw [List.take_add_one, hk, Option.toList_some, ← List.append_assoc]
      exact hinv.step k
    · rw [List.take_add_one, hk, Option.toList_some, ← List.append_assoc]
      exact rT
    · funext y
      by_cases a1 : y = Str.ofString "element"
      · subst a1; rfl
      · by_cases a2 : y = Str.ofString "value"
        · subst a2; rfl
        · by_cases a3 : y = Str.ofString "function"
          · subst a3; simp only [if_neg a1, if_neg a2, if_true, m1]
          · simp only [if_neg a1, if_neg a2, if_neg a3]
  · rintro h' tk' m' news' F' N' hoff ⟨st', ev, hS, hor, rfl⟩
    have hl := hvs.length
    rw [List.length_map] at hl
    rw [List.size_toArray, hl, List.take_length] at hS
    exact h st' h' tk' _ news' F'.keep hor (fun p hp => ⟨(N' p hp).1, (N' p hp).2.2⟩) hS F' rfl
theorem reduce_step {w : World} {mean : ExcName → Option Value} {mg mb : Str → Option Value} {dp un : Nat} {fr : Option (List Env)} {gd : Option (List Code)} {E : Value → Shared → Prop} {s : Shared} {Q : Value → Shared → Prop} {hb : Heap} {nb : List (Addr × Obj)} {sq st : Addr} {l ks : List Nat} {vs : List Value}
    (X : Frag.In (Mine.hd.heap_39 w.params) s.heap) (T : Top Mine.hd.view_39 (looseW Mine.hd.view_39 [Str.ofString "_initial_missing", Str.ofString "reduce"]) mean mg mb s.heap) (hroom : dp + 5 < recursionLimit) (hks : ∀ k ∈ ks, k < 1114112)
    (hsq : s.heap.IsList sq vs.toArray) (hvs : StrsAre vs (ks.map fun k => TX [k])) (hhb : HK hb s.heap) (hnb : ∀ p ∈ nb, s.heap.get? p.1 = some p.2) (hst : StateL hb nb st l) (h50 : st ≠ 50) (hlen : l.length + ks.length ≤ 8)
    (h : ∀ st' h' tk' news', HK s.heap h' → (st' = st ∨ s.heap.objs.size ≤ st') → (∀ p ∈ news', h'.get? p.1 = some p.2 ∧ s.heap.get? p.1 = none) → StateL hb (news' ++ nb) st' (l ++ ks) → Q (.ref st') { s with heap := h', toks := tk' }) :
    wpAny (model PySem.Challenge.rw_mj0076_01.row.prog w) (Around.mk none dp fr gd un) (call (.ref 58) [.ref 82, .ref sq, .ref st]) Q E s := by
  obtain ⟨oS, hoS⟩ : ∃ o, s.heap.get? st = some o := by obtain ⟨_, _, _, _, _, ⟨o, e, _⟩, _⟩ := hst.at hhb hnb; exact ⟨o, e⟩
  (revert X; k_fill; intro X; k_dflt (refine' enter_fn (K := (Mine.hd.heap_39 w.params)) (binds := [(Str.ofString "function", .ref 82), (Str.ofString "sequence", .ref sq), (Str.ofString "initial", .ref st)]) ?e1 ?e2 ?e3 ?e4 ?e5 ?e6 ?e7 ?_ ?e8 ?e9 ?ea ?eb; (case e1 => assumption); (case e2 => exact Top.nolimit (by assumption)); (case e3 => k_is); (case e4 => k_is); (case e5 => (try simp only [depth_deeper, depth_in1]); (try dsimp only); omega); (case e6 => exact kp_binds X (fun S => rfl)); (case e7 => exact locs rfl); (case e8 => exact rfl); (case e9 => exact rfl); (case ea => exact rfl); (case eb => decide)); intro L h₁ F N; (try dsimp only); (try k_fold))
  k_steps
  refine For_invV s.heap (by rfl) (by rfl) ?_
  walk1
  with_reducible rename Fr _ _ _ _ => F1
  with_reducible rename News _ _ _ _ => N1
  (refine' reduce_loop (hs := ?k1) (hsc := ?k2) ?k3 ?k4 ?k5 hks hsq hvs hhb hnb hst hlen F1 N1 ?k6 ?k7 ?_)
  case k1 => rfl
  case k2 => rfl
  case k3 => assumption
  case k4 => assumption
  case k5 => assumption
  case k6 => rfl
  case k7 => rfl
  intro st' h' tk' m' news' a b c d F' e
  rw [ov1 e] at F'
  clear F1 N1
  have N' : News s.heap L h' [] := News.nil
  show wpAny _ _ (execs _ _) _ _ _
  k_steps
  exact h st' _ _ news' a b c d
end Mine
namespace Mine
def leS (a b : Str) : Prop := a.cps.toList ≤ b.cps.toList
theorem not_ltCps {a b : List Nat} (h : PySem.Spec.ltCps b a = false) : a ≤ b := by
  rw [ltCps_eq] at h
  exact List.not_lt.mp (by simpa using h)
theorem rising_pw : ∀ (l : List Str) (p : Str), risingS p l = true → (p :: l).Pairwise leS
  | [], p, _ => by simp
  | x :: r, p, h => by
    have h' : (!PySem.Spec.ltCps x.cps.toList p.cps.toList && risingS x r) = true := h
    rw [Bool.and_eq_true] at h'
    have h1 : p.cps.toList ≤ x.cps.toList := not_ltCps (by simpa using h'.1)
    have ih := rising_pw r x h'.2
    refine List.pairwise_cons.mpr ⟨fun y hy => ?_, ih⟩
    rcases List.mem_cons.mp hy with rfl | hy
    · exact h1
    · exact List.le_trans h1 (List.rel_of_pairwise_cons ih hy)
theorem sorted_pw {l : List Str} (h : sortedS l = true) : l.Pairwise leS := by
  cases l with
  | nil => exact .nil
  | cons x r => exact rising_pw r x h
theorem sorted_unique {a b : List Str} (ha : sortedS a = true) (hb : sortedS b = true) (hp : a.Perm b) : a = b :=
  List.Perm.eq_of_pairwise (le := leS) (fun x y _ _ h1 h2 => by
    have := List.le_antisymm h1 h2
    cases x; cases y
    simp only at this
    exact congrArg Str.mk (Array.toList_inj.mp this)) (sorted_pw ha) (sorted_pw hb) hp
theorem strs_carried : ∀ {vs : List Value} {ss : List Str}, StrsAre vs ss → CarriedAll vs (ss.map PyData.str)
  | _, _, .nil => .nil
  | _, _, .cons _ t r => .cons (.str _ t) (strs_carried r)
theorem shaped_strs {ss : List Str} (h : ∀ x ∈ ss, PyData.strOk x = true) : SeqAt.shaped (.list (ss.map PyData.str)) = true := by
  simp only [SeqAt.shaped, PyData.canLay0, PyData.depth, canLayAll_strs', depthAll_strs']
  rw [List.all_eq_true.mpr h]
  rfl
theorem same_strs : ∀ ss : List Str, PySem.Spec.sameAll (ss.map PyData.str) (ss.map PyData.str) = true
  | [] => by simp [PySem.Spec.sameAll]
  | a :: r => by
    simp only [List.map_cons, PySem.Spec.sameAll, PySem.Spec.same, same_strs r]
    simp
theorem eq_strs {prog : Program} {w : World} {A : Around} {E : Value → Shared → Prop} {s : Shared} {a b : Addr} {xs ys : List Value} {ss : List Str} {Q : Value → Shared → Prop} (ha : s.heap.IsList a xs.toArray) (hb : s.heap.IsList b ys.toArray) (hi : StrsAre xs ss) (hj : StrsAre ys ss) (hok : ∀ x ∈ ss, PyData.strOk x = true) (hu : A.units + 64 < cLine) (h : Q (.bool true) s) :
    wpAny (model prog w) A (compareOp .Eq (.ref a) (.ref b)) Q E s :=
  eq_dataH_same (reads_newData ha (strs_carried hi)) (reads_newData hb (strs_carried hj)) (shaped_strs hok) (shaped_strs hok) hu (SeqAt.noMix_of_shape (.list .str) rfl _ _ (list_map_has fun _ => rfl) (list_map_has fun _ => rfl)) (by
    have e : PySem.Spec.same (.list (ss.map PyData.str)) (.list (ss.map PyData.str)) = true := by simp only [PySem.Spec.same]; exact same_strs ss
    rw [e]; exact h)
theorem Inv.last {l : List Nat} {rows : List (List (List Nat))} (H : Inv l rows) : Good l (rows.getD (rows.length - 1) []) := by
  have := H.row 1 (by omega) (by omega)
  simpa using this
theorem good_ok {l : List Nat} {row : List (List Nat)} (H : Good l row) : ∀ x ∈ row.map TX, PyData.strOk x = true := fun x hx => by
  obtain ⟨y, hy, rfl⟩ := List.mem_map.mp hx
  have h := ((H.2 y).mp hy).1
  unfold PyData.strOk TX
  simp only [List.all_toArray, List.all_eq_true]
  intro c hc
  have := h c hc
  simp
  omega
end Mine
namespace Mine
def lawRet : List Stmt := (fnAt 15).1.drop 5
def lawSc : Scope := (fnAt 15).2
local macro_rules | `(tactic| walk_at "compareOp Eq ref ref") => `(tactic| (k_here; refine stop ?_))
local macro_rules | `(tactic| walk_at "call builtin:sorted") => `(tactic| (k_here; refine stop ?_))
local macro_rules | `(tactic| walk_at "subscriptTail") => `(tactic| (k_here; refine stop ?_))
local macro_rules | `(tactic| walk_at "subscriptTail Name Constant ref int") => `(tactic| (k_here; refine stop ?_))
local macro_rules | `(tactic| walk_at "subscriptTail Name UnaryOp ref int") => `(tactic| (k_here; refine stop ?_))
local macro_rules | `(tactic| walk_at "subscriptTail Subscript UnaryOp ref int") => `(tactic| (k_here; refine stop ?_))
local macro_rules | `(tactic| walk_at "call ref") => `(tactic| (k_here; refine stop ?_))
theorem law_ret {w : World} {mean : ExcName → Option Value} {mg mb : Str → Option Value} {dp un : Nat} {fr : Option (List Env)} {gd : Option (List Code)} {E : Value → Shared → Prop} {s : Shared} {Q : Flow → Shared → Prop} {body : List Stmt} {sc : Scope} (hs : lawRet = body) (hsc : lawSc = sc) {h₀ : Heap} {L fa st1 R1 R2 : Addr} {cdv : Value} {m : Str → Option Value} {rest : List (Addr × Obj)} {l1 l2 : List Nat} {t1 t2 t3 : Tok} {items1 items2 : List Value} {rows1 rows2 : List (List (List Nat))}
    (X : Frag.In (Mine.hd.heap_39 w.params) h₀) (T : Top Mine.hd.view_39 (looseW Mine.hd.view_39 [Str.ofString "_initial_missing", Str.ofString "reduce"]) mean mg mb h₀) (hroom : dp + 20 < recursionLimit) (hun : un + 200 < cLine)
    (F : Fr h₀ L s.heap m) (N : News h₀ L s.heap rest)
    (m1 : m (Str.ofString "half") = some (.ref st1)) (m2 : m (Str.ofString "text") = some (.str (TX l2) t2)) (m3 : m (Str.ofString "rows") = some (.ref R2))
    (hl1 : l1.length ≤ 8) (hl2 : l2.length ≤ 8) (inv1 : Inv l1 rows1) (inv2 : Inv l2 rows2)
    (hL1 : ∀ h : Heap, HK h₀ h → (∀ p ∈ rest, h.get? p.1 = some p.2) → IsTup h st1 #[.str (TX l1) t1, .ref R1] ∧ h.IsList R1 items1.toArray ∧ RowsAt h items1 rows1)
    (hL2 : ∀ h : Heap, HK h₀ h → (∀ p ∈ rest, h.get? p.1 = some p.2) → h.IsList R2 items2.toArray ∧ RowsAt h items2 rows2)
    (h : ∀ h' tk m', Fr h₀ L h' m' → Q (.ret (.bool true)) { s with heap := h', toks := tk }) :
    wpAny (model PySem.Challenge.rw_mj0076_01.row.prog w) ((Around.mk none dp fr gd un).deeper (envOf (Str.ofString "law") sc L fa cdv)) (execs body (envOf (Str.ofString "law") sc L fa cdv)) Q
      (fun e s' => wpAny (model PySem.Challenge.rw_mj0076_01.row.prog w) ((Around.mk none dp fr gd un).deeper (envOf (Str.ofString "law") sc L fa cdv)) (leaving (envOf (Str.ofString "law") sc L fa cdv) e) (fun _ s'' => E e s'') (fun e' s'' => E e' s'') s') s := by
  have e1 := (show lawRet = [_] from rfl)
  have e2 := (show lawSc = Scope.mk _ _ _ _ _ from rfl)
  rw [e1] at hs
  rw [e2] at hsc
  subst hs
  subst hsc
  clear e1 e2
  rw [ov1 m1, ov1 m2, ov1 m3] at F
  revert X; k_fill; intro X; (try k_fold)
  have g1 := inv1.last
  have g2 := inv2.last
  have p1 := g1.perm (linesL_good l1)
  have p2 := g2.perm (linesL_good l2)
  have z1 := linesL_64 l1 hl1
  have z2 := linesL_64 l2 hl2
  have il1 := inv1.len
  have il2 := inv2.len
  k_steps
  -- half[1]
  refine item_tuple (j := 1) (x := .ref R1) (hL1 _ F.keep fun p hp => (N p hp).1).1 (by decide) (by decide) rfl rfl ?_
  k_steps
  -- half[1][-1]
  obtain ⟨d1, v1, hi1, hd1, hs1, _⟩ := (hL1 _ F.keep fun p hp => (N p hp).1).2.2.at (n := 1) (by omega) (by omega)
  have ii1 := (hL1 _ F.keep fun p hp => (N p hp).1).2.2.1
  refine kde_neg (hL1 _ F.keep fun p hp => (N p hp).1).2.1 (by decide) (by decide) (seqNeg (n := 1) (by omega) (by omega)) hi1 ?_
  k_steps
  -- sorted
  have hv1 : v1.length < 64 := by rw [hs1.length, List.length_map, p1.length_eq]; exact z1
  refine sorted_N_str F N hd1 hs1 hv1 ?_
  intro h3 o1 ss1 en1 F3 N3 ho1 hp1 hso1
  (try dsimp only at F3 N3 ⊢)
  k_steps
  -- half[0]
  refine item_tuple (j := 0) (x := .str (TX l1) t1) (hL1 _ F3.keep fun p hp => (N3 p (.tail _ hp)).1).1 (by decide) (by decide) rfl rfl ?_
  k_steps
  -- _law_lines
  refine law_lines (mean := mean) (mg := mg) (mb := mb) 9 l1 hl1 (by omega) _ _ _ _ _ _ _ _ ?k1 ?k2 ?k3 ?_
  case k1 => k_in
  case k2 => (exact Top.keeps (by assumption) (Fr.keep (by assumption)))
  case k3 => ((try simp only [depth_deeper, depth_in1]); (try dsimp only); omega)
  intro D4 v4 h4 tk4 hk4 hD4 hP4 hS4
  obtain ⟨n4, hP4⟩ := hP4
  obtain ⟨F4, N4, lt4⟩ := news_add F3 N3 hk4 hD4 hP4
  clear hk4 hD4 hP4 lt4
  (try dsimp only at F4 N4 ⊢)
  k_steps
  refine sorted_N_str F4 N4 (News.isList N4 (.head _)) hS4 (by rw [hS4.length, List.length_map]; exact z1) ?_
  intro h5 o2 ss2 en2 F5 N5 ho2 hp2 hso2
  (try dsimp only at F5 N5 ⊢)
  k_steps
  have hss : ss1 = ss2 := sorted_unique hso1 hso2 (hp1.trans ((p1.map TX).trans hp2.symm))
  subst hss
  refine eq_strs (News.isList N5 (.tail _ (.tail _ (.head _)))) (News.isList N5 (.head _)) ho1 ho2 (fun x hx => good_ok (linesL_good l1) x (hp2.mem_iff.mp hx)) ?k4 ?_
  case k4 => (try simp only [units_deeper, units_in1]); (try dsimp only); omega
  clear F F3 F4 N N3 N4
  k_steps
  -- rows[-1]
  obtain ⟨d6, v6, hi6, hd6, hs6, _⟩ := (hL2 _ F5.keep fun p hp => (N5 p (.tail _ (.tail _ (.tail _ hp)))).1).2.at (n := 1) (by omega) (by omega)
  have ii6 := (hL2 _ F5.keep fun p hp => (N5 p (.tail _ (.tail _ (.tail _ hp)))).1).2.1
  refine kde_neg (hL2 _ F5.keep fun p hp => (N5 p (.tail _ (.tail _ (.tail _ hp)))).1).1 (by decide) (by decide) (seqNeg (n := 1) (by omega) (by omega)) hi6 ?_
  k_steps
  have hv6 : v6.length < 64 := by rw [hs6.length, List.length_map, p2.length_eq]; exact z2
  refine sorted_N_str F5 N5 hd6 hs6 hv6 ?_
  intro h7 o7 ss7 en7 F7 N7 ho7 hp7 hso7
  (try dsimp only at F7 N7 ⊢)
  clear F5 N5
  k_steps
  refine law_lines (mean := mean) (mg := mg) (mb := mb) 9 l2 hl2 (by omega) _ _ _ _ _ _ _ _ ?k1 ?k2 ?k3 ?_
  case k1 => k_in
  case k2 => (exact Top.keeps (by assumption) (Fr.keep (by assumption)))
  case k3 => ((try simp only [depth_deeper, depth_in1]); (try dsimp only); omega)
  intro D8 v8 h8 tk8 hk8 hD8 hP8 hS8
  obtain ⟨n8, hP8⟩ := hP8
  obtain ⟨F8, N8, lt8⟩ := news_add F7 N7 hk8 hD8 hP8
  clear hk8 hD8 hP8 lt8 F7 N7
  (try dsimp only at F8 N8 ⊢)
  k_steps
  refine sorted_N_str F8 N8 (News.isList N8 (.head _)) hS8 (by rw [hS8.length, List.length_map]; exact z2) ?_
  intro h9 o9 ss9 en9 F9 N9 ho9 hp9 hso9
  (try dsimp only at F9 N9 ⊢)
  clear F8 N8
  k_steps
  have hss : ss7 = ss9 := sorted_unique hso7 hso9 (hp7.trans ((p2.map TX).trans hp9.symm))
  subst hss
  refine eq_strs (News.isList N9 (.tail _ (.tail _ (.head _)))) (News.isList N9 (.head _)) ho7 ho9 (fun x hx => good_ok (linesL_good l2) x (hp9.mem_iff.mp hx)) ?k4 ?_
  case k4 => (try simp only [units_deeper, units_in1]); (try dsimp only); omega
  k_steps
  exact h _ _ _ F9
end Mine
namespace Mine
def lawTail : List Stmt := (fnAt 15).1.drop 2
theorem lit_e : Str.ofString "" = TX [] := by decide +kernel
theorem StateL.mono {h₀ : Heap} {news news' : List (Addr × Obj)} {st : Addr} {l : List Nat} (H : StateL h₀ news st l) (hs : ∀ p ∈ news, p ∈ news') : StateL h₀ news' st l :=
  let ⟨t, R, items, rows, a, b⟩ := H
  ⟨t, R, items, rows, a, fun h hk hn => b h hk fun p hp => hn p (hs p hp)⟩
theorem start_state {h₀ : Heap} {news : List (Addr × Obj)} {Tt R d : Addr} {t1 t2 : Tok} {nT nR nd : Nat} (h1 : (Tt, ({ cls := .type "tuple", data := .seq #[.str (Str.ofString "") t1, .ref R] nT } : Obj)) ∈ news) (h2 : (R, listOf #[.ref d] nR) ∈ news) (h3 : (d, listOf #[.str (Str.ofString "") t2] nd) ∈ news) : StateL h₀ news Tt [] := by
  rw [lit_e] at h1 h3
  refine ⟨t1, R, [.ref d], [[[]]], Inv.start, fun h hk hn => ⟨⟨_, hn _ h1, rfl, _, rfl⟩, ⟨_, hn _ h2, rfl, _, rfl⟩, rfl, fun i v hv => ?_⟩⟩
  cases i with
  | zero =>
    simp at hv
    subst hv
    exact ⟨d, [.str (TX []) t2], [[]], rfl, rfl, ⟨_, hn _ h3, rfl, _, rfl⟩, .cons _ _ .nil⟩
  | succ i => simp at hv
theorem news_call {h₀ h h' : Heap} {L : Addr} {m : Str → Option Value} {all nw : List (Addr × Obj)} (F : Fr h₀ L h m) (N : News h₀ L h all) (hk : HK h h') (hn : ∀ p ∈ nw, h'.get? p.1 = some p.2 ∧ h.get? p.1 = none) : News h₀ L h' (nw ++ all) := fun p hp => by
  rcases List.mem_append.mp hp with hp | hp
  · have z := hn p hp
    refine ⟨z.1, fun e => ?_, ?_⟩
    · obtain ⟨o, _, _, ho, _⟩ := F.ns
      rw [e, ho] at z
      cases z.2
    · cases q : h₀.get? p.1 with
      | none => rfl
      | some o =>
        have := F.keep _ _ q
        rw [z.2] at this; cases this
  · exact ⟨hk _ _ (N p hp).1, (N p hp).2⟩
theorem strs_take {vs : List Value} {ks : List Str} (H : StrsAre vs ks) : ∀ n, StrsAre (vs.take n) (ks.take n) := by
  induction H with
  | nil => intro n; simp; exact .nil
  | cons x t _ ih =>
    intro n
    cases n with
    | zero => exact .nil
    | succ n => exact .cons x t (ih n)
theorem strs_drop {vs : List Value} {ks : List Str} (H : StrsAre vs ks) : ∀ n, StrsAre (vs.drop n) (ks.drop n) := by
  induction H with
  | nil => intro n; simp; exact .nil
  | cons x t r ih =>
    intro n
    cases n with
    | zero => exact .cons x t r
    | succ n => exact ih n
theorem join_ones : ∀ cs : List Nat, Str.join (TX []) (cs.map fun k => TX [k]) = TX cs
  | [] => rfl
  | [a] => rfl
  | a :: b :: r => by
    show TX [a] ++ TX [] ++ Str.join (TX []) ((b :: r).map fun k => TX [k]) = _
    rw [join_ones (b :: r), TX_app, TX_app]
    rfl
theorem ones_sum : ∀ cs : List Nat, ((cs.map fun k => TX [k]).map (·.length)).sum = cs.length
  | [] => rfl
  | a :: r => by
    have := ones_sum r
    simp only [List.map_cons, List.sum_cons, List.length_cons] at this ⊢
    rw [this, lenTX]; simp; omega
theorem joinT {prog : Program} {w : World} {A : Around} {E : Value → Shared → Prop} {s : Shared} {D : Addr} {vs : List Value} {cs : List Nat} {t : Tok} {Q : Value → Shared → Prop} (hl : s.heap.IsList D vs.toArray) (hi : StrsAre vs (cs.map fun k => TX [k])) (hc : cs.length ≤ 1000)
    (h : ∀ t' k, Q (.str (TX cs) t') { s with toks := k }) : wpAny (model prog w) A (call (.builtin "str.join") [.str (Str.ofString "") t, .ref D]) Q E s := by
  refine join_list hl (by simpa using hi) ?_ ?_
  · rw [ones_sum, List.length_map, lit_e, lenTX]; simp; omega
  · intro t' k
    have e : Txt.join (Str.ofString "") (cs.map fun k => TX [k]) = TX cs := by
      show Builtin.Str.glued _ _ = _
      rw [StrLaws.glued_eq_join, lit_e, join_ones]
    rw [e]
    exact h t' k
local macro_rules | `(tactic| walk_at "call builtin:str.join") => `(tactic| (k_here; refine stop ?_))
local macro_rules | `(tactic| walk_at "subscriptTail Name Constant ref int") => `(tactic| (k_here; refine stop ?_))
local macro_rules | `(tactic| walk_at "execs cons") => `(tactic| (k_here; (with_reducible show wpAny _ _ (execs (Stmt.Return (some (Expr.BoolOp _ _ _)) _ :: _) _) _ _ _); refine stop ?_))
local macro_rules | `(tactic| walk_at "call ref") => `(tactic| (k_here; refine stop ?_))
theorem law_tail {w : World} {mean : ExcName → Option Value} {mg mb : Str → Option Value} {dp un : Nat} {fr : Option (List Env)} {gd : Option (List Code)} {E : Value → Shared → Prop} {s : Shared} {Q : Flow → Shared → Prop} {body : List Stmt} {sc : Scope} (hs : lawTail = body) (hsc : lawSc = sc) {h₀ : Heap} {L D fa : Addr} {cdv : Value} {m : Str → Option Value} {rest : List (Addr × Obj)} {ys : List Value} {cs : List Nat} {nS n : Nat} {tc : Tok}
    (X : Frag.In (Mine.hd.heap_39 w.params) h₀) (T : Top Mine.hd.view_39 (looseW Mine.hd.view_39 [Str.ofString "_initial_missing", Str.ofString "reduce"]) mean mg mb h₀) (hroom : dp + 20 < recursionLimit) (hun : un + 200 < cLine)
    (F : Fr h₀ L s.heap m) (N : News h₀ L s.heap ((D, listOf ys.toArray nS) :: rest))
    (m1 : m (Str.ofString "signs") = some (.ref D)) (m2 : m (Str.ofString "cut") = some (.int (n : Nat) tc))
    (hys : StrsAre ys (cs.map fun k => TX [k])) (hcs : cs.length ≤ 8) (hlt : ∀ c ∈ cs, c < 1114112)
    (h : ∀ h' tk m', Fr h₀ L h' m' → Q (.ret (.bool true)) { s with heap := h', toks := tk }) :
    wpAny (model PySem.Challenge.rw_mj0076_01.row.prog w) ((Around.mk none dp fr gd un).deeper (envOf (Str.ofString "law") sc L fa cdv)) (execs body (envOf (Str.ofString "law") sc L fa cdv)) Q
      (fun e s' => wpAny (model PySem.Challenge.rw_mj0076_01.row.prog w) ((Around.mk none dp fr gd un).deeper (envOf (Str.ofString "law") sc L fa cdv)) (leaving (envOf (Str.ofString "law") sc L fa cdv) e) (fun _ s'' => E e s'') (fun e' s'' => E e' s'') s') s := by
  have e1 := (show lawTail = [_, _, _, _] from rfl)
  have e2 := (show lawSc = Scope.mk _ _ _ _ _ from rfl)
  rw [e1] at hs
  rw [e2] at hsc
  subst hs
  subst hsc
  clear e1 e2
  rw [ov1 m1, ov1 m2] at F
  revert X; k_fill; intro X; (try k_fold)
  have hysn : ∀ j, StrsAre (ys.take j) ((cs.take j).map fun k => TX [k]) := fun j => by rw [List.map_take]; exact strs_take hys j
  have hysd : ∀ j, StrsAre (ys.drop j) ((cs.drop j).map fun k => TX [k]) := fun j => by rw [List.map_drop]; exact strs_drop hys j
  k_steps
  with_reducible rename Fr _ _ _ _ => F1
  with_reducible rename News _ _ _ _ => N1
  rw [slicePick_upto', List.toList_toArray] at N1
  (refine' reduce_step (l := []) (ks := cs.take n) (vs := ys.take n) (hb := h₀) ?k1 ?k2 ?k3 (fun k hk => hlt k (List.mem_of_mem_take hk)) (News.isList N1 (.tail _ (.tail _ (.tail _ (.head _))))) (hysn n) F1.keep (fun p hp => (N1 p hp).1) (start_state (.head _) (.tail _ (.head _)) (.tail _ (.tail _ (.head _)))) ?k4 ?k5 ?_)
  case k1 => k_in
  case k2 => (exact Top.keeps (by assumption) (Fr.keep (by assumption)))
  case k3 => ((try simp only [depth_deeper, depth_in1]); (try dsimp only); omega)
  case k4 => exact kto_neNK N1 (.head _) X (by k_is)
  case k5 => rw [List.length_nil, List.length_take]; omega
  intro st1 h1 tk1 nw1 hk1 hor1 hn1 hS1
  have h50 : st1 ≠ 50 := by
    rcases hor1 with e | e
    · rw [e]; exact kto_neNK N1 (.head _) X (by k_is)
    · have : (50 : Nat) < _ := Heap.lt_size (F1.keep _ _ (kto_K X (a := 50) (by k_is)))
      intro e'; rw [e'] at e; exact absurd this (Nat.not_lt.mpr e)
  have F2 := Fr.keeps F1 hk1
  have N2 := news_call F1 N1 hk1 hn1
  rw [List.nil_append] at hS1
  obtain ⟨rest2, N3, hS1⟩ : ∃ rest2, News h₀ L h1 ((D, listOf ys.toArray nS) :: rest2) ∧ StateL h₀ rest2 st1 (cs.take n) := ⟨_, fun p hp => N2 p ((List.mem_cons.mp hp).elim (fun e => e ▸ List.mem_append_right _ (.tail _ (.tail _ (.tail _ (.tail _ (.head _)))))) id), hS1⟩
  clear F1 N1 N2 hn1 hk1 hor1
  (try dsimp only at F2 N3 ⊢)
  k_steps
  with_reducible rename Fr _ _ _ _ => F1
  with_reducible rename News _ _ _ _ => N1
  rw [slicePick_from', List.toList_toArray] at N1
  (refine' reduce_step (l := cs.take n) (ks := cs.drop n) (vs := ys.drop n) (hb := h₀) ?k1 ?k2 ?k3 (fun k hk => hlt k (List.mem_of_mem_drop hk)) (News.isList N1 (.head _)) (hysd n) F1.keep (fun p hp => (N1 p hp).1) (hS1.mono fun p hp => .tail _ (.tail _ hp)) h50 ?k5 ?_)
  case k1 => k_in
  case k2 => (exact Top.keeps (by assumption) (Fr.keep (by assumption)))
  case k3 => ((try simp only [depth_deeper, depth_in1]); (try dsimp only); omega)
  case k5 => rw [List.length_take, List.length_drop]; omega
  intro st2 h2 tk2 nw2 hk2 hor2 hn2 hS2
  rw [List.take_append_drop] at hS2
  have F4 := Fr.keeps F1 hk2
  have N4 := news_call F1 N1 hk2 hn2
  obtain ⟨rest3, N5, hS1, hS2⟩ : ∃ rest3, News h₀ L h2 ((D, listOf ys.toArray nS) :: rest3) ∧ StateL h₀ rest3 st1 (cs.take n) ∧ StateL h₀ rest3 st2 cs := ⟨_, fun p hp => N4 p ((List.mem_cons.mp hp).elim (fun e => e ▸ List.mem_append_right _ (.tail _ (.head _))) id), hS1.mono fun p hp => List.mem_append_right _ (.tail _ (.tail _ hp)), hS2⟩
  clear F1 N1 N4 hn2 hk2 hor2
  (try dsimp only at F4 N5 ⊢)
  obtain ⟨t1, R1, items1, rows1, inv1, hL1⟩ := hS1
  obtain ⟨t2, R2, items2, rows2, inv2, hL2⟩ := hS2
  have hT2 := (hL2 h2 F4.keep fun p hp => (N5 p (.tail _ hp)).1).1
  k_steps
  with_reducible rename Fr _ _ _ _ => F1
  with_reducible rename News _ _ _ _ => N1
  refine item_tuple (j := 0) (x := .str (TX (cs.take n)) t1) (hL1 _ F1.keep fun p hp => (N1 p (by repeat (first | exact hp | apply List.Mem.tail))).1).1 (by decide) (by decide) rfl rfl ?_
  k_steps
  with_reducible rename Fr _ _ _ _ => F1
  with_reducible rename News _ _ _ _ => N1
  rw [slicePick_upto', List.toList_toArray] at N1
  refine joinT (News.isList N1 (.head _)) (hysn n) (by rw [List.length_take]; omega) ?_
  intro _ _
  k_steps
  · exfalso
    with_reducible rename ((_ != _) = true) => hq
    simp at hq
  with_reducible rename Fr _ _ _ _ => F1
  refine joinT (News.isList N1 (.tail _ (.head _))) hys (by omega) ?_
  intro _ _
  k_steps
  · exfalso
    with_reducible rename ((_ != _) = true) => hq
    simp at hq
  with_reducible rename Fr _ _ _ _ => F1
  (refine' law_ret (hs := ?k1) (hsc := ?k2) (l1 := cs.take n) (l2 := cs) (items1 := items1) (items2 := items2) (R1 := R1) (R2 := R2) (t1 := t1) (t2 := t2) (t3 := t2) ?k3 ?k4 hroom hun F1 N1 ?k5 ?k6 ?k7 ?k8 hcs inv1 inv2 (fun h' a b => hL1 h' a fun p hp => b p ?k9) (fun h' a b => (hL2 h' a fun p hp => b p ?ka).2) ?_)
  case k1 => rfl
  case k2 => rfl
  case k3 => assumption
  case k4 => assumption
  case k5 => rfl
  case k6 => rfl
  case k7 => rfl
  case k8 => rw [List.length_take]; omega
  case k9 => repeat (first | exact hp | apply List.Mem.tail)
  case ka => repeat (first | exact hp | apply List.Mem.tail)
  exact h
theorem law_tail_int {w : World} {mean : ExcName → Option Value} {mg mb : Str → Option Value} {dp un : Nat} {fr : Option (List Env)} {gd : Option (List Code)} {E : Value → Shared → Prop} {s : Shared} {Q : Flow → Shared → Prop} {body : List Stmt} {sc : Scope} (hs : lawTail = body) (hsc : lawSc = sc) {h₀ : Heap} {L D fa : Addr} {cdv : Value} {m : Str → Option Value} {rest : List (Addr × Obj)} {ys : List Value} {cs : List Nat} {nS : Nat} {cut : Int} {tc : Tok}
    (X : Frag.In (Mine.hd.heap_39 w.params) h₀) (T : Top Mine.hd.view_39 (looseW Mine.hd.view_39 [Str.ofString "_initial_missing", Str.ofString "reduce"]) mean mg mb h₀) (hroom : dp + 20 < recursionLimit) (hun : un + 200 < cLine)
    (F : Fr h₀ L s.heap m) (N : News h₀ L s.heap ((D, listOf ys.toArray nS) :: rest))
    (m1 : m (Str.ofString "signs") = some (.ref D)) (m2 : m (Str.ofString "cut") = some (.int cut tc)) (hc0 : 0 ≤ cut)
    (hys : StrsAre ys (cs.map fun k => TX [k])) (hcs : cs.length ≤ 8) (hlt : ∀ c ∈ cs, c < 1114112)
    (h : ∀ h' tk m', Fr h₀ L h' m' → Q (.ret (.bool true)) { s with heap := h', toks := tk }) :
    wpAny (model PySem.Challenge.rw_mj0076_01.row.prog w) ((Around.mk none dp fr gd un).deeper (envOf (Str.ofString "law") sc L fa cdv)) (execs body (envOf (Str.ofString "law") sc L fa cdv)) Q
      (fun e s' => wpAny (model PySem.Challenge.rw_mj0076_01.row.prog w) ((Around.mk none dp fr gd un).deeper (envOf (Str.ofString "law") sc L fa cdv)) (leaving (envOf (Str.ofString "law") sc L fa cdv) e) (fun _ s'' => E e s'') (fun e' s'' => E e' s'') s') s := by
  obtain ⟨n, rfl⟩ := Int.eq_ofNat_of_zero_le hc0
  exact law_tail hs hsc X T hroom hun F N m1 m2 hys hcs hlt h
end Mine
namespace Mine
section
variable {prog : Program} {w : World} {A : Around} {h₀ : Heap} {L : Addr} {m : Str → Option Value} {env : Env} {elt : Expr} {x : Str} {scope : Scope} {cl : List (Str × Addr)} {s : Shared} {S : List (Addr × Obj) → Prop} {Fin : List Value → List (Addr × Obj) → Prop} {news : List (Addr × Obj)}
theorem strs_snoc {vs : List Value} {ks : List Str} {k : Str} {t : Tok} (H : StrsAre vs ks) : StrsAre (vs ++ [.str k t]) (ks ++ [k]) := StrsAre.append' H (.cons _ _ .nil)
theorem sgn_rest {vs : List Value} {ns : List Int} (hi : IntsAre vs ns) (hS0 : S news)
    (turn : ∀ n t I oI C oC D m₂ ys h tk (E' : Value → Shared → Prop), LCg.NsObj oC m₂ → m₂ x = some (.int n t) → Fr h₀ L h m → News h₀ L h ((I, oI) :: (C, oC) :: (D, LCg.lst ys) :: news) → LCg.Off3 I C D news → ((@Ne Nat I C) ∧ (@Ne Nat I D) ∧ (@Ne Nat C D)) →
      wpAny (model prog w) A (eval elt (compEnvC scope cl C env)) (LCg.CompEnd h₀ L m { s with heap := h, toks := tk } I oI C oC D (LCg.lst ys) (fun _ => True) (fun y nw' => nw' = news ∧ ∃ c t, c < 1114112 ∧ y = .str (TX [c]) t)) E' { s with heap := h, toks := tk })
    (fin : ∀ ys (cs : List Nat), StrsAre ys (cs.map fun c => TX [c]) → cs.length = ns.length → (∀ c ∈ cs, c < 1114112) → Fin ys news) : LCg.CompRest prog w A h₀ L m env elt x scope cl s S (fun i v => vs.toArray[i]? = some v) Fin vs.toArray.size 0 [] news := by
  have hks : ns.length = vs.toArray.size := by rw [List.size_toArray]; exact hi.length.symm
  have key : ∀ (j i : Nat) (ys : List Value) (cs : List Nat), i + j = vs.toArray.size → cs.length = i → StrsAre ys (cs.map fun c => TX [c]) → (∀ c ∈ cs, c < 1114112) → LCg.CompRest prog w A h₀ L m env elt x scope cl s S (fun i v => vs.toArray[i]? = some v) Fin j i ys news := by
    intro j
    induction j with
    | zero =>
      intro i ys cs hi' hl hy hlt
      exact LCg.CompRest.zero (fin ys cs hy (by omega) hlt)
    | succ j ih =>
      intro i ys cs hi' hl hy hlt
      refine LCg.CompRest.succ ?_
      intro v I oI C oC D m₂ h tk E' hv hC hx F N off ne
      have hin : i < ns.length := by omega
      obtain ⟨t, ht⟩ := hi.get i ns[i] (by simp [hin])
      have hv' : v = .int ns[i] t := by
        have hv2 : vs[i]? = some v := by simpa using hv
        rw [ht] at hv2; exact (Option.some.inj hv2).symm
      rw [hv'] at hx
      refine wpAny_mono (turn ns[i] t I oI C oC D m₂ ys h tk E' hC hx F N off ne) (fun y s₂ hq => ?_) fun _ _ e => e
      obtain ⟨h', tk', nw, e, F', N', off', _, rfl, c, t', hc, rfl⟩ := hq
      refine ⟨h', tk', nw, e, F', N', off', hS0, ?_⟩
      refine ih (i + 1) _ (cs ++ [c]) (by omega) (by simp [hl]) ?_ ?_
      · rw [List.map_append]; exact strs_snoc hy
      · intro d hd
        rcases List.mem_append.mp hd with hd | hd
        · exact hlt d hd
        · rw [List.mem_singleton.mp hd]; exact hc
  exact key vs.toArray.size 0 [] [] (by omega) rfl .nil (fun c hc => nomatch hc)
end
local macro_rules | `(tactic| walk_at "CompSrc") => `(tactic| (k_here; refine stop ?_))
local macro_rules | `(tactic| walk_at "execs cons") => `(tactic| (k_here; (with_reducible show wpAny _ _ (execs (Stmt.Assign _ (Expr.Call _ _ _ _) _ :: _) _) _ _ _); refine stop ?_))
local macro_rules | `(tactic| walk_at "call ref") => `(tactic| k_dflt (k_here; (refine' law_sign_int ?k1 ?k2 ?k3 ?_; (case k1 => k_in); (case k2 => (exact Top.keeps (by assumption) (Fr.keep (by assumption)))); (case k3 => first | ((try simp only [depth_deeper, depth_in1]); (try dsimp only); omega) | decide)); intro c' h' tk tk' hc hk; ((with_reducible rename Fr _ _ _ _ => kF); (with_reducible rename News _ _ _ _ => kN); (replace kF := Fr.keeps kF hk); (replace kN := News.keeps kN hk); clear hk; (try dsimp only))))
theorem fooL : PySem.Challenge.rw_mj0076_01.Holds := Mine.hd (by
  k_go0
  (all_goals try k_fold)
  k_steps
  with_reducible rename Fr _ _ _ _ => F1
  with_reducible rename News _ _ _ _ => N1
  with_reducible rename (IntsAre _ (List.take 5 _ ++ _)) => hI
  have hIl := hI.length
  rw [List.length_append, List.length_take] at hIl
  simp only [List.length_cons, List.length_nil] at hIl
  refine LCg.CompSrc.ledger (by rfl) F1 N1 (.head _) (by rw [List.size_toArray, sizeLine_eq]; omega) ?_
  intro g'
  refine' sgn_rest hI ?hS0 ?turn ?fin
  case hS0 => exact .inr ⟨_, .head _, rfl, _, rfl⟩
  case turn =>
    intro n t I oI C oC D m₂ ys h tk E' hC hx F N off ne
    k_steps
    with_reducible rename Fr _ _ _ _ => F3
    with_reducible rename News _ _ _ _ => N3
    with_reducible rename (_ < 1114112) => hc3
    show LCg.CompEnd _ _ _ _ _ _ _ _ _ _ _ _ _ _
    exact ⟨_, _, _, rfl, F3, N3, off, trivial, rfl, _, _, hc3, rfl⟩
  case fin =>
    intro ys cs hys hcl hclt D h tk F N off
    clear F1 N1
    rw [List.length_append, List.length_take] at hcl
    simp only [List.length_cons, List.length_nil] at hcl
    show wpAny _ _ (execs _ _) _ _ _
    k_steps
    with_reducible rename Fr _ _ _ _ => F3
    with_reducible rename News _ _ _ _ => N3
    (refine' law_tail_int (hs := ?k1) (hsc := ?k2) (mean := _) (mg := _) (mb := _) ?k3 ?k4 ?k5 ?k6 F3 N3 ?k7 ?k8 ?k9 hys ?ka hclt ?_)
    case k1 => rfl
    case k2 => rfl
    case k3 => assumption
    case k4 => assumption
    case k5 => decide
    case k6 => exact Nat.le_of_ble_eq_true rfl
    case k7 => rfl
    case k8 => rfl
    case k9 => exact fmod_lo _ (by decide)
    case ka => omega
    intro h' tk' m' F'
    k_steps)
end Mine
theorem PySem.Challenge.cw_mj0076_01_holds : PySem.Challenge.rw_mj0076_01.Holds := by
  exact Mine.fooL
