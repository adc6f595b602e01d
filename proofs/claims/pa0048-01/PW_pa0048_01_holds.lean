import PyProof.Rows.All
import Wide.All
import OpenK.AllK
import Wide.FinOn
import Open.Tops
import Lean
import PySem.Challenge.RW_pa0048_01
open PySem PySem.W PyProof.Rows PySem.Calls
set_option Elab.async false
set_option compiler.extract_closed false
set_option maxRecDepth 100000
set_option maxHeartbeats 8000000
set_option linter.unusedVariables false
set_option rowWalk.seconds 0
namespace Mine
def bodyAt (n : Nat) : Stmt := PySem.Challenge.pw_pa0048_01.main.body.getD n (.Pass ⟨0, 0, 0, 0⟩)
def st0 : Stmt := bodyAt 0
def st1 : Stmt := bodyAt 1
def st2 : Stmt := bodyAt 2
def st3 : Stmt := bodyAt 3
def st4 : Stmt := bodyAt 4
def st5 : Stmt := bodyAt 5
def st6 : Stmt := bodyAt 6
def st7 : Stmt := bodyAt 7
def st8 : Stmt := bodyAt 8
def st9 : Stmt := bodyAt 9
def st10 : Stmt := bodyAt 10
def st11 : Stmt := bodyAt 11
def st12 : Stmt := bodyAt 12
def st13 : Stmt := bodyAt 13
def st14 : Stmt := bodyAt 14
def st15 : Stmt := bodyAt 15
def st16 : Stmt := bodyAt 16
def st17 : Stmt := bodyAt 17
def st18 : Stmt := bodyAt 18
def st19 : Stmt := bodyAt 19
def st20 : Stmt := bodyAt 20
def st21 : Stmt := bodyAt 21
def st22 : Stmt := bodyAt 22
def st23 : Stmt := bodyAt 23
def st24 : Stmt := bodyAt 24
def st25 : Stmt := bodyAt 25
def st26 : Stmt := bodyAt 26
def st27 : Stmt := bodyAt 27
def st28 : Stmt := bodyAt 28
def st29 : Stmt := bodyAt 29
def st30 : Stmt := bodyAt 30
def pw2 : Program := { PySem.Challenge.pw_pa0048_01 with main := { PySem.Challenge.pw_pa0048_01.main with body := [st0, st1, st2, st3, st4, st5, st6, st7, st8, st9, st10, st11, st12, st13, st14, st15, st16, st17, st18, st19, st20, st21, st22, st23, st24, st25, st26, st27, st28, st29, st30] } }
def rw2 : PySem.W.OpenLaw := { PySem.Challenge.rw_pa0048_01 with prog := pw2 }
theorem rw_eq : PySem.Challenge.rw_pa0048_01 = rw2 := rfl
open_shared top for pw2 leaving 0
noncomputable def hdK : Params → Frag := fun P => (fun (_ : Str.ofString "a" = ⟨#[97]⟩) => (nat_lit 2, PySem.W.boot_o_2 P) :: (nat_lit 3, top.o_139 P) :: (nat_lit 15, top.o_7 P) :: (nat_lit 17, top.o_9 P) :: (nat_lit 18, top.o_10 P) :: (nat_lit 20, top.o_12 P) :: (nat_lit 21, top.o_13 P) :: (nat_lit 22, top.o_14 P) :: (nat_lit 24, top.o_16 P) :: (nat_lit 25, top.o_17 P) :: (nat_lit 27, top.o_19 P) :: (nat_lit 28, top.o_20 P) :: (nat_lit 29, top.o_21 P) :: (nat_lit 30, top.o_22 P) :: (nat_lit 32, top.o_24 P) :: (nat_lit 33, top.o_25 P) :: (nat_lit 35, top.o_27 P) :: (nat_lit 36, top.o_28 P) :: (nat_lit 37, top.o_29 P) :: (nat_lit 44, top.o_36 P) :: (nat_lit 45, top.o_37 P) :: (nat_lit 46, top.o_38 P) :: (nat_lit 47, top.o_39 P) :: (nat_lit 50, top.o_42 P) :: (nat_lit 52, top.o_44 P) :: (nat_lit 53, top.o_45 P) :: (nat_lit 55, top.o_47 P) :: (nat_lit 56, top.o_48 P) :: (nat_lit 57, top.o_49 P) :: (nat_lit 59, top.o_51 P) :: (nat_lit 60, top.o_52 P) :: (nat_lit 62, top.o_54 P) :: (nat_lit 63, top.o_55 P) :: (nat_lit 64, top.o_59 P) :: (nat_lit 66, top.o_61 P) :: (nat_lit 67, top.o_62 P) :: (nat_lit 69, top.o_64 P) :: (nat_lit 70, top.o_65 P) :: (nat_lit 71, top.o_66 P) :: (nat_lit 73, top.o_68 P) :: (nat_lit 74, top.o_69 P) :: (nat_lit 76, top.o_71 P) :: (nat_lit 77, top.o_72 P) :: (nat_lit 78, top.o_73 P) :: (nat_lit 79, top.o_74 P) :: (nat_lit 81, top.o_76 P) :: (nat_lit 82, top.o_77 P) :: (nat_lit 84, top.o_79 P) :: (nat_lit 85, top.o_80 P) :: (nat_lit 86, top.o_81 P) :: (nat_lit 87, top.o_82 P) :: (nat_lit 89, top.o_84 P) :: (nat_lit 90, top.o_85 P) :: (nat_lit 92, top.o_87 P) :: (nat_lit 93, top.o_88 P) :: (nat_lit 94, top.o_89 P) :: (nat_lit 95, top.o_90 P) :: (nat_lit 97, top.o_92 P) :: (nat_lit 98, top.o_93 P) :: (nat_lit 100, top.o_95 P) :: (nat_lit 101, top.o_96 P) :: (nat_lit 102, top.o_97 P) :: (nat_lit 103, top.o_98 P) :: (nat_lit 105, top.o_100 P) :: (nat_lit 106, top.o_101 P) :: (nat_lit 108, top.o_103 P) :: (nat_lit 109, top.o_104 P) :: (nat_lit 110, top.o_105 P) :: (nat_lit 112, top.o_107 P) :: (nat_lit 113, top.o_108 P) :: (nat_lit 115, top.o_110 P) :: (nat_lit 116, top.o_111 P) :: (nat_lit 117, top.o_112 P) :: (nat_lit 119, top.o_114 P) :: (nat_lit 120, top.o_115 P) :: (nat_lit 122, top.o_117 P) :: (nat_lit 123, top.o_118 P) :: (nat_lit 124, top.o_119 P) :: (nat_lit 126, top.o_121 P) :: (nat_lit 127, top.o_122 P) :: (nat_lit 129, top.o_124 P) :: (nat_lit 130, top.o_125 P) :: (nat_lit 131, top.o_126 P) :: (nat_lit 133, top.o_128 P) :: (nat_lit 134, top.o_129 P) :: (nat_lit 136, top.o_131 P) :: (nat_lit 137, top.o_132 P) :: (nat_lit 138, top.o_133 P) :: (nat_lit 141, top.o_136 P) :: (nat_lit 142, top.o_137 P) :: (nat_lit 143, top.o_141 P) :: (nat_lit 145, top.o_143 P) :: (nat_lit 146, top.o_144 P) :: (nat_lit 148, top.o_146 P) :: (nat_lit 149, top.o_147 P) :: (nat_lit 150, top.o_148 P) :: (nat_lit 152, top.o_150 P) :: (nat_lit 153, top.o_151 P) :: (nat_lit 155, top.o_153 P) :: (nat_lit 156, top.o_154 P) :: (nat_lit 157, top.o_155 P) :: (nat_lit 159, top.o_157 P) :: (nat_lit 160, top.o_158 P) :: (nat_lit 162, top.o_160 P) :: (nat_lit 163, top.o_161 P) :: (nat_lit 164, top.o_162 P) :: (nat_lit 167, top.o_165 P) :: (nat_lit 168, top.o_166 P) :: (nat_lit 169, top.o_167 P) :: (nat_lit 172, top.o_170 P) :: (nat_lit 173, top.o_171 P) :: (nat_lit 174, top.o_172 P) :: (nat_lit 177, top.o_175 P) :: (nat_lit 178, top.o_176 P) :: []) rfl
theorem fillit_all (w : World) (h : Heap) : (hdK w.params).In h → PySem.Challenge.rw_pa0048_01.foot = 7 → True := by
  k_fill
  intro _ _; trivial
section
variable {w : World} {s : Shared} {p : Program} {loose : List Str} {mean : ExcName → Option Value} {mg mb : Str → Option Value} {R : Result → Shared → Prop}
noncomputable abbrev prg := pw2
noncomputable abbrev AT (d u : Nat) : Around := ⟨none, d, none, none, u⟩

theorem codeAny_weaken {M : Model} {A : Around} {d u : Nat} {c : Code} {R : Result → Shared → Prop} {s : Shared}
    (h : codeAny M (AT d u) c R s) (hh : A.handled = none) (hd : A.depth ≤ d) (hu : A.units ≤ u) : codeAny M A c R s :=
  fun Γ p hc hΓ => h Γ p hc ⟨hΓ.1.trans hh, Nat.le_trans hΓ.2.1 hd, fun _ e => (nomatch e), fun _ e => (nomatch e), Nat.le_trans hΓ.2.2.2.2 hu⟩
theorem wpAny_weaken {M : Model} {A : Around} {d u : Nat} {α : Type} {t : Sem α} {Q : α → Shared → Prop} {E : Value → Shared → Prop} {s : Shared}
    (h : wpAny M (AT d u) t Q E s) (hh : A.handled = none) (hd : A.depth ≤ d) (hu : A.units ≤ u) : wpAny M A t Q E s :=
  fun Γ p hΓ => h Γ p ⟨hΓ.1.trans hh, Nat.le_trans hΓ.2.1 hd, fun _ e => (nomatch e), fun _ e => (nomatch e), Nat.le_trans hΓ.2.2.2.2 hu⟩

theorem enter {w : World} {A : Around} {s : Shared} {K : Frag} {R : Result → Shared → Prop} {name qual : Str} {params : Arguments} {body : List Stmt} {scope : Scope} {dV kV doc pm cdv ct oc : Value} {an od : Option Addr} {osl : Array (Option Value)} {f : Addr} {args : Args} (binds : List (Str × Value))
    (X : K.In s.heap) (hlim : s.heap.NoLimit)
    (ho : K.lookup f = some ⟨oc, od, .func (fnOf name qual params body scope dV kV doc pm an cdv ct), osl⟩) (hcd : codeIn K cdv qual = true) (hroom : A.depth < recursionLimit)
    (hbind : BindsTo s (fnOf name qual params body scope dV kV doc pm an cdv ct) args binds) (hloc : ∀ y ∈ binds, scope.names.lookup y.1 = some .local)
    (h : ∀ L h₁, Fr s.heap L h₁ (fun y => binds.reverse.lookup y) → News s.heap L h₁ [] →
      wpAny (model prg w) (A.deeper (envOf qual scope L f cdv)) (execs body (envOf qual scope L f cdv))
        (fun fl s' => R (.ok (.ret (match fl with | .ret v => v | _ => .none))) s') (fun _ _ => False)
        { s with heap := h₁, toks := s.toks + binds.length })
    (hco : scope.isCoroutine = false) (hgen : scope.isGenerator = false) (hk : scope.kind = .function)
    (hcell : ∀ x ∈ scope.names, x.2 ≠ .cell) : codeAny (model prg w) A (.call (.ref f) args) R s := by
  refine codeAny_call_def (fd := fnOf name qual params body scope dV kV doc pm an cdv ct) (body := body) (binds := binds) hroom (X _ _ ho) rfl hlim (codeRec_of X hcd) rfl hbind hcell hloc (fun h₁ hns hk₁ => ?_) hco hgen hk
  exact wpAny_mono (h _ h₁ ⟨hns, hk₁, Nat.le_refl _⟩ News.nil) (fun _ _ x => x) (fun _ _ x => x.elim)

theorem Fr.out {h₀ h h' : Heap} {L : Addr} {m : Str → Option Value} (F : Fr h₀ L h m) (k : h.StaysIn h') : Fr h₀ L h' m :=
  ⟨F.ns.keeps k, fun b o e => k b o (F.keep b o e), F.above⟩
theorem News.out {h₀ h h' : Heap} {L : Addr} {news : List (Addr × Obj)} (N : News h₀ L h news) (k : h.StaysIn h') : News h₀ L h' news :=
  fun p hp => ⟨k _ _ (N p hp).1, (N p hp).2⟩

noncomputable def Out1 (s : Shared) (V : Tok → Value) (v : Value) (s' : Shared) : Prop := ∃ t h' tk, v = V t ∧ s' = { s with heap := h', toks := tk }

theorem use1 {w : World} {A : Around} {s : Shared} {K : Frag} {p : Program} {loose : List Str} {mean : ExcName → Option Value} {mg mb : Str → Option Value} {h₀ : Heap} {L : Addr} {m : Str → Option Value} {news : List (Addr × Obj)} {d u : Nat} {f : Value} {pos : List Value} {kw : List (Str × Value)} {Q : Value → Shared → Prop} {E : Value → Shared → Prop} {V : Tok → Value}
    (F : Fr h₀ L s.heap m) (X : K.In h₀) (N : News h₀ L s.heap news) (T : Top p loose mean mg mb h₀)
    (c : ∀ R : Result → Shared → Prop, K.In s.heap → Top p loose mean mg mb s.heap → (∀ v s', Out1 s V v s' → s.heap.StaysIn s'.heap → R (.ok (.ret v)) s') → codeAny (model prg w) (AT d u) (.call f ⟨pos, kw⟩) R s)
    (hh : A.handled = none) (hd : A.depth ≤ d) (hu : A.units ≤ u)
    (k : ∀ t h' tk, Fr h₀ L h' m → News h₀ L h' news → Q (V t) { s with heap := h', toks := tk }) : wpAny (model prg w) A (call f pos kw) Q E s := by
  refine wpAny_call (codeAny_weaken (c _ (X.keeps F.keep) (T.keeps F.keep) fun v s' q st => ?_) hh hd hu)
  obtain ⟨t, h', tk, rfl, rfl⟩ := q
  exact k t h' tk (Fr.out F st) (News.out N st)
end
section
variable {w : World} {s : Shared} {p : Program} {loose : List Str} {mean : ExcName → Option Value} {mg mb : Str → Option Value} {R : Result → Shared → Prop}
theorem c_buffer {b : Array UInt8} {t : Tok} (X : (hdK w.params).In s.heap) (T : Top p loose mean mg mb s.heap)
    (hR : ∀ v s', Out1 s (fun t => .bytes b t) v s' → s.heap.StaysIn s'.heap → R (.ok (.ret v)) s') :
    codeAny (model prg w) (AT 900 9000) (.call (.ref 63) ⟨[.bytes b t], []⟩) R s := by
  refine' enter [(Str.ofString "data", .bytes b t)] X T.nolimit ?ho ?hcd (by decide) ?hb ?hl ?_ ?c1 ?c2 ?c3 ?c4
  ((case ho => k_is); (case hcd => k_is); (case hb => first | exact BindsTo.of_eq rfl | exact binds_K (by assumption) rfl (by k_is) rfl rfl rfl); (case hl => exact locs rfl); (case c1 => rfl); (case c2 => rfl); (case c3 => rfl); (case c4 => decide))
  intro L h₁ F N
  k_fold
  repeat' (first | (k_unfold; (try dsimp only)) | ((with_reducible show wpAny _ _ (call (Value.type "type") [Value.bytes _ _]) _ _ _); refine call_type_of (Tx := "bytes") rfl (by decide +kernel) ?_) | walk1 | (dsimp only; walk1))
  all_goals exact hR _ _ ⟨_, _, _, rfl, rfl⟩ (Fr.keep (by assumption))
theorem c_ascii_buffer {b : Array UInt8} {t : Tok} (X : (hdK w.params).In s.heap) (T : Top p loose mean mg mb s.heap)
    (hR : ∀ v s', Out1 s (fun t => .bytes b t) v s' → s.heap.StaysIn s'.heap → R (.ok (.ret v)) s') :
    codeAny (model prg w) (AT 900 9000) (.call (.ref 56) ⟨[.bytes b t], []⟩) R s := by
  refine' enter [(Str.ofString "data", .bytes b t)] X T.nolimit ?ho ?hcd (by decide) ?hb ?hl ?_ ?c1 ?c2 ?c3 ?c4
  ((case ho => k_is); (case hcd => k_is); (case hb => first | exact BindsTo.of_eq rfl | exact binds_K (by assumption) rfl (by k_is) rfl rfl rfl); (case hl => exact locs rfl); (case c1 => rfl); (case c2 => rfl); (case c3 => rfl); (case c4 => decide))
  intro L h₁ F N
  k_fold
  repeat' (first | (k_unfold; (try dsimp only)) | ((with_reducible show wpAny _ _ (call (Value.type "type") [Value.bytes _ _]) _ _ _); refine call_type_of (Tx := "bytes") rfl (by decide +kernel) ?_) | walk1 | (dsimp only; walk1))
  all_goals exact hR _ _ ⟨_, _, _, rfl, rfl⟩ (Fr.keep (by assumption))
theorem c_truth {b : Bool} (X : (hdK w.params).In s.heap) (T : Top p loose mean mg mb s.heap)
    (hR : ∀ v s', Out1 s (fun _ => .bool b) v s' → s.heap.StaysIn s'.heap → R (.ok (.ret v)) s') :
    codeAny (model prg w) (AT 900 9000) (.call (.ref 70) ⟨[.bool b], []⟩) R s := by
  refine' enter [(Str.ofString "x", .bool b)] X T.nolimit ?ho ?hcd (by decide) ?hb ?hl ?_ ?c1 ?c2 ?c3 ?c4
  ((case ho => k_is); (case hcd => k_is); (case hb => first | exact BindsTo.of_eq rfl | exact binds_K (by assumption) rfl (by k_is) rfl rfl rfl); (case hl => exact locs rfl); (case c1 => rfl); (case c2 => rfl); (case c3 => rfl); (case c4 => decide))
  intro L h₁ F N
  k_fold
  repeat' (first | (k_unfold; (try dsimp only)) | ((with_reducible show wpAny _ _ (call (Value.type "type") [Value.bytes _ _]) _ _ _); refine call_type_of (Tx := "bytes") rfl (by decide +kernel) ?_) | walk1 | (dsimp only; walk1))
  all_goals exact hR _ _ ⟨0, _, _, by simp_all, rfl⟩ (Fr.keep (by assumption))
end
section
variable {w : World} {s : Shared} {p : Program} {loose : List Str} {mean : ExcName → Option Value} {mg mb : Str → Option Value} {R : Result → Shared → Prop}
theorem forIn4 {β : Type} (init st1 : β) (f : Nat → β → Sem (ForInStep β)) (h1 : f 0 init = pure (.yield st1)) (h2 : f 1 st1 = pure (.done st1)) : forIn [0 : 4] init f = pure st1 := by
  rw [Std.Legacy.Range.forIn_eq_forIn_range']
  show forIn [0, 1, 2, 3] init f = pure st1
  rw [List.forIn_cons, h1]
  show forIn [1, 2, 3] st1 f = pure st1
  rw [List.forIn_cons, h2]
  rfl
open Builtin._codecs in
theorem encN4 (id : String) (self : Value) {c0 c1 c2 c3 : Nat} (h0 : c0 < 128) (h1 : c1 < 128) (h2 : c2 < 128) (h3 : c3 < 128) :
    encodeNarrow id asciiCodec none self ⟨#[c0, c1, c2, c3]⟩ = pure #[c0.toUInt8, c1.toUInt8, c2.toUInt8, c3.toUInt8] := by
  have e0 : decide (c0 ≥ 128) = false := decide_eq_false (by omega)
  have e1 : decide (c1 ≥ 128) = false := decide_eq_false (by omega)
  have e2 : decide (c2 ≥ 128) = false := decide_eq_false (by omega)
  have e3 : decide (c3 ≥ 128) = false := decide_eq_false (by omega)
  have hf : (#[c0, c1, c2, c3].findIdx? fun x => decide (x ≥ 128)) = none := by
    simp [Array.findIdx?, Array.findIdx?.loop, e0, e1, e2, e3]
  unfold encodeNarrow
  refine congrArg (fun (m : Sem (Nat × Array UInt8 × Faults)) => m >>= fun r => pure r.2.1) (forIn4 _ (4, #[c0.toUInt8, c1.toUInt8, c2.toUInt8, c3.toUInt8], {}) _ ?_ ?_)
  · dsimp only
    rw [if_neg (show ¬ (#[] : Array UInt8).size > sizeLine by decide)]
    show (if (!(decide (c0 ≥ 128))) = true then _ else _) = _
    rw [e0, if_pos (show (!false) = true from rfl)]
    have hx : #[c0, c1, c2, c3].extract 0 (#[c0, c1, c2, c3].size) = #[c0, c1, c2, c3] := by simp
    have hf' : Array.findIdx? asciiCodec.bad (#[c0, c1, c2, c3].extract 0 (#[c0, c1, c2, c3].size)) = none := by rw [hx]; exact hf
    rw [hf']
    rfl
  · dsimp only
    rw [if_neg (show ¬ (#[c0.toUInt8, c1.toUInt8, c2.toUInt8, c3.toUInt8] : Array UInt8).size > sizeLine by show ¬ 4 > sizeLine; decide)]
    rfl
open Builtin Builtin.Str in
theorem gives_encode4 {c0 c1 c2 c3 : Nat} (h0 : c0 < 128) (h1 : c1 < 128) (h2 : c2 < 128) (h3 : c3 < 128) (t u : Tok) :
    PySem.Gives («str.encode» ⟨[.str ⟨#[c0, c1, c2, c3]⟩ t, .str (PySem.Str.ofString "ascii") u], []⟩) (.bytes #[c0.toUInt8, c1.toUInt8, c2.toUInt8, c3.toUInt8]) := by
  refine PySem.Gives.of_eq ?_
  have e : «str.encode» ⟨[.str ⟨#[c0, c1, c2, c3]⟩ t, .str (PySem.Str.ofString "ascii") u], []⟩ = (do ret (← (do mkBytes (← _codecs.encodeNarrow "str.encode" _codecs.asciiCodec none (.str ⟨#[c0, c1, c2, c3]⟩ t) ⟨#[c0, c1, c2, c3]⟩)))) := by kernel_rfl
  rw [e]
  rw [encN4 _ _ h0 h1 h2 h3]
  rfl
section
open Builtin Builtin.Str
variable {prog : Program} {A : Around} {E : Value → Shared → Prop} {Q : Value → Shared → Prop} {Q2 : Value × List Value → Shared → Prop} {M : Model}
theorem gm_encode {x : PySem.Str} {t : Tok} {pl : Sem Bool} (h : Q2 (.builtin "str.encode", [.str x t]) s) : wpAny M A (getMethod (.str x t) "encode" pl) Q2 E s := by
  with_reducible exact GM.of (.str x t) (typeIs_str _ _ _) F.slot_str_encode F.type_str_encode GM.noRef h
theorem sc_encode4 {c0 c1 c2 c3 : Nat} {t u : Tok} (h0 : c0 < 128) (h1 : c1 < 128) (h2 : c2 < 128) (h3 : c3 < 128) (hq : Q (.bytes #[c0.toUInt8, c1.toUInt8, c2.toUInt8, c3.toUInt8] s.toks) { s with toks := s.toks + 1 }) :
    wpAny (model prog w) A (call (.builtin "str.encode") [.str ⟨#[c0, c1, c2, c3]⟩ t, .str (PySem.Str.ofString "ascii") u]) Q E s :=
  call_gives F.slot_str_encode (typeIs_str _ _ _) F.entry_str_encode (F.args_str_encode_2 _ _) (gives_encode4 h0 h1 h2 h3 t u) ⟨by show 4 ≤ sizeLine; decide, hq⟩
end
theorem c_bfdd {c0 c1 c2 c3 : Nat} (h0 : c0 < 128) (h1 : c1 < 128) (h2 : c2 < 128) (h3 : c3 < 128) {t : Tok} (X : (hdK w.params).In s.heap) (T : Top p loose mean mg mb s.heap)
    (hR : ∀ v s', Out1 s (fun t => .bytes #[c0.toUInt8, c1.toUInt8, c2.toUInt8, c3.toUInt8] t) v s' → s.heap.StaysIn s'.heap → R (.ok (.ret v)) s') :
    codeAny (model prg w) (AT 900 9000) (.call (.ref 36) ⟨[.str ⟨#[c0, c1, c2, c3]⟩ t], []⟩) R s := by
  refine' enter [(Str.ofString "s", .str ⟨#[c0, c1, c2, c3]⟩ t)] X T.nolimit ?ho ?hcd (by decide) ?hb ?hl ?_ ?c1 ?c2 ?c3 ?c4
  ((case ho => k_is); (case hcd => k_is); (case hb => first | exact BindsTo.of_eq rfl | exact binds_K (by assumption) rfl (by k_is) rfl rfl rfl); (case hl => exact locs rfl); (case c1 => rfl); (case c2 => rfl); (case c3 => rfl); (case c4 => decide))
  intro L h₁ F N
  k_fold
  repeat' (first | (k_unfold; (try dsimp only)) | ((with_reducible show wpAny _ _ (getMethod (Value.str _ _) _ _) _ _ _); with_reducible refine gm_encode ?_) | ((with_reducible show wpAny _ _ (call (Value.builtin "str.encode") _ _) _ _ _); refine sc_encode4 (by assumption) (by assumption) (by assumption) (by assumption) ?_) | walk1 | (dsimp only; walk1))
  all_goals exact hR _ _ ⟨_, _, _, rfl, rfl⟩ (Fr.keep (by assumption))
end
section
variable {w : World} {s : Shared} {p : Program} {loose : List Str} {mean : ExcName → Option Value} {mg mb : Str → Option Value} {R : Result → Shared → Prop}
noncomputable def b64L : List UInt8 := [65, 66, 67, 68, 69, 70, 71, 72, 73, 74, 75, 76, 77, 78, 79, 80, 81, 82, 83, 84, 85, 86, 87, 88, 89, 90, 97, 98, 99, 100, 101, 102, 103, 104, 105, 106, 107, 108, 109, 110, 111, 112, 113, 114, 115, 116, 117, 118, 119, 120, 121, 122, 48, 49, 50, 51, 52, 53, 54, 55, 56, 57, 43, 47]
noncomputable def b64n (v : Nat) : Nat := (b64L.getD v 0).toNat
theorem b64n_lt (v : Nat) : b64n v < 256 := (b64L.getD v 0).toNat_lt
theorem b64n_facts : ∀ v, v < 64 → b64n v < 128 ∧ b64n v ≠ 61 := by decide +kernel
section
variable {A : Around} {E : Value → Shared → Prop} {h₀ : Heap} {L I : Addr} {m : Str → Option Value} {news : List (Addr × Obj)} {o : Obj} {g : Obj → List (Addr × Obj)} {env : Env}

inductive DropI (d : Addr) : List (Addr × Obj) → List (Addr × Obj) → Prop
  | head {o r} : (∀ p ∈ r, p.1 ≠ d) → DropI d ((d, o) :: r) r
  | tail {p r r'} : p.1 ≠ d → DropI d r r' → DropI d (p :: r) (p :: r')
theorem DropI.mem {d : Addr} {l l' : List (Addr × Obj)} (x : DropI d l l') : ∀ p ∈ l', p ∈ l ∧ p.1 ≠ d := by
  induction x with
  | head h => exact fun p hp => ⟨.tail _ hp, h p hp⟩
  | tail h _ ih => exact fun p hp => (List.mem_cons.mp hp).elim (fun e => by subst e; exact ⟨.head _, h⟩) fun hp => ⟨.tail _ (ih p hp).1, (ih p hp).2⟩
theorem DropI.has {d : Addr} {l l' : List (Addr × Obj)} (x : DropI d l l') : ∃ o, (d, o) ∈ l := by
  induction x with
  | head h => exact ⟨_, .head _⟩
  | tail h _ ih => exact ih.elim fun o ho => ⟨o, .tail _ ho⟩

theorem fr_same {h h' : Heap} {o' : Obj} (F : Fr h₀ L h m) (N : News h₀ L h news) (U : UpdF I o news g) (hs : Heap.SameBut I h h') (ho : h'.get? I = some o') : Fr h₀ L h' m ∧ News h₀ L h' (g o') := by
  obtain ⟨pre, post, rfl, e, a, b⟩ := U.split
  have z := N (I, o) (List.mem_append.mpr (.inr (.head _)))
  refine ⟨F.change hs z.2.1 z.2.2, ?_⟩
  rw [e]
  exact news_set N a b hs ho
theorem fr_ext {h h' : Heap} {news' : List (Addr × Obj)} (F : Fr h₀ L h m) (N : News h₀ L h news) (D : DropI I news news') (hs : Heap.ExtBut I h h') : Fr h₀ L h' m ∧ News h₀ L h' news' := by
  obtain ⟨o, ho⟩ := D.has
  have z := N (I, o) ho
  obtain ⟨oL, a1, a2, hoL, a3⟩ := F.ns
  refine ⟨⟨⟨oL, a1, a2, hs L oL (Ne.symm z.2.1) hoL, a3⟩, fun b x e => hs b x ?_ (F.keep b x e), F.above⟩, fun p hp => ?_⟩
  · rintro rfl
    rw [z.2.2] at e
    cases e
  · have q := D.mem p hp
    exact ⟨hs _ _ q.2 (N p q.1).1, (N p q.1).2⟩

theorem for_step {target : PySem.Expr} {it : Value} {body : List Stmt}
    (h : wpAny (model prg w) A (pyNext it) (fun r s₁ => match r with
      | none => R (.ok .next) s₁
      | some v => wpAny (model prg w) A (letOwnedTupleGo target it v) (fun _ s₁ => wpAny (model prg w) A (assign target env v) (fun _ s₂ => wpAny (model prg w) A (execs body env) (fun f s₃ => match f with
          | .next | .cont => codeAny (model prg w) A (.forLoop target it body [] env) R s₃
          | .brk => R (.ok .next) s₃
          | .ret v => R (.ok (.ret v)) s₃) (notedBy (model prg w) A env fun e s' => R (.error e) s') s₂) (notedBy (model prg w) A env fun e s' => R (.error e) s') s₁) (notedBy (model prg w) A env fun e s' => R (.error e) s') s₁) (notedBy (model prg w) A env fun e s' => R (.error e) s') s) :
    codeAny (model prg w) A (.forLoop target it body [] env) R s := by
  refine codeAny_loop' rfl (fun _ s' => s' = s) (fun n s' e => ?_) 0 rfl
  subst e
  show wpAny _ A ((forTurn target it body [] env).onRaise (fun x => do noteFrame x env; theTreesLotGoes x)) _ _ _
  refine wpAny_noted ?_
  simp only [forTurn]
  refine wpAny_bind (wpAny_standAt (wpAny_bind (wpAny_onRaise (wpAny_mono h (fun r s₁ h₁ => ?_) fun _ _ h' => wpAny_standAt h'))))
  cases r with
  | none => exact wpAny_pure (.inr ⟨rfl, codeAny_block (wpAny_execs_nil h₁)⟩)
  | some v =>
    refine wpAny_bind (wpAny_mono h₁ (fun _ s₂ h₂ => ?_) fun _ _ h' => h')
    refine wpAny_bind (wpAny_mono h₂ (fun _ s₂ h₂ => wpAny_bind (wpAny_mono h₂ (fun f s₃ h₃ => ?_) fun _ _ h' => h')) fun _ _ h' => h')
    cases f with
    | next => exact wpAny_pure (.inr ⟨rfl, h₃⟩)
    | cont => exact wpAny_pure (.inr ⟨rfl, h₃⟩)
    | brk => exact wpAny_pure h₃
    | ret v => exact wpAny_pure h₃

theorem while_step {test : PySem.Expr} {body : List Stmt}
    (h : wpAny (model prg w) A (isTrue test env (eval test env)) (fun b s₁ => if b = true then wpAny (model prg w) A (execs body env) (fun f s₃ => match f with
          | .next | .cont => codeAny (model prg w) A (.whileLoop test body [] env) R s₃
          | .brk => R (.ok .next) s₃
          | .ret v => R (.ok (.ret v)) s₃) (notedBy (model prg w) A env fun e s' => R (.error e) s') s₁ else R (.ok .next) s₁) (notedBy (model prg w) A env fun e s' => R (.error e) s') s) :
    codeAny (model prg w) A (.whileLoop test body [] env) R s := by
  refine codeAny_loop' rfl (fun _ s' => s' = s) (fun n s' e => ?_) 0 rfl
  subst e
  show wpAny _ A ((whileTurn test body [] env).onRaise (fun x => do noteFrame x env; theTreesLotGoes x)) _ _ _
  refine wpAny_noted ?_
  simp only [whileTurn]
  refine wpAny_bind (wpAny_mono h (fun b s₁ h₁ => ?_) fun _ _ h' => h')
  cases b with
  | false =>
    rw [if_neg Bool.false_ne_true] at h₁ ⊢
    exact wpAny_bind (wpAny_execs_nil (wpAny_pure h₁))
  | true =>
    rw [if_pos rfl] at h₁ ⊢
    refine wpAny_bind (wpAny_mono h₁ (fun f s₃ h₃ => ?_) fun _ _ h' => h')
    cases f with
    | next => exact wpAny_pure (.inr ⟨rfl, h₃⟩)
    | cont => exact wpAny_pure (.inr ⟨rfl, h₃⟩)
    | brk => exact wpAny_pure h₃
    | ret v => exact wpAny_pure h₃
theorem exec_while {test : PySem.Expr} {body : List Stmt} {pos : Pos} {M : Model} {Q : Flow → Shared → Prop}
    (h : codeAny M A (.whileLoop test body [] env) (fun r s' => match r with | .ok f => Q f s' | .error e => cameBackBy M A env E e s') s) :
    wpAny M A (exec (.While test body [] pos) env) Q E s := by
  show wpAny M A (do standAt pos; runOwn (.whileLoop test body [] env) env) Q E s
  exact wpAny_bind (wpAny_standAt (wpAny_runOwn h))

theorem exec_for_Name {target : PySem.Expr} {x : Str} {px : Pos} {body : List Stmt} {pos : Pos} {M : Model} {Q : Flow → Shared → Prop}
    (h : wpAny M A (eval (.Name x px) env) (fun x s₁ => wpAny M A (pyIter x) (fun it s₂ =>
      codeAny M A (.forLoop target it body [] env) (fun r s' => match r with | .ok f => Q f s' | .error e => cameBackBy M A env E e s') s₂) E s₁) E s) :
    wpAny M A (exec (.For target (.Name x px) body [] pos) env) Q E s := wpAny_For h
theorem exec_for_Call {target f : PySem.Expr} {as : List PySem.Expr} {ks : List Keyword} {px : Pos} {body : List Stmt} {pos : Pos} {M : Model} {Q : Flow → Shared → Prop}
    (h : wpAny M A (eval (.Call f as ks px) env) (fun x s₁ => wpAny M A (pyIter x) (fun it s₂ =>
      codeAny M A (.forLoop target it body [] env) (fun r s' => match r with | .ok f => Q f s' | .error e => cameBackBy M A env E e s') s₂) E s₁) E s) :
    wpAny M A (exec (.For target (.Call f as ks px) body [] pos) env) Q E s := wpAny_For h

theorem iterB {b : Array UInt8} {t : Tok} {Q : Value → Shared → Prop} (F : Fr h₀ L s.heap m) (N : News h₀ L s.heap news)
    (k : ∀ I h' o, Fr h₀ L h' m → News h₀ L h' ((I, o) :: news) → (∀ p ∈ news, p.1 < I) → L < I → s.heap.StaysIn h' → (∀ b y, s.heap.get? b = some y → b < I) → o.cls = .type "bytes_iterator" → o.data = .fields #[.bytes b t, .int (0 : Nat) 0] → Q (.ref I) { s with heap := h' }) :
    wpAny (model prg w) A (pyIter (.bytes b t)) Q E s :=
  KBw.pyIter_bytes (k _ _ _ (F.push _) (N.push F _ rfl) (fun p hp => Heap.lt_size (N p hp).1) F.ns.lt (fun _ _ e => Heap.get?_push_of_some _ e) (fun _ _ e => Heap.lt_size e) rfl rfl)
theorem nextB {b : Array UInt8} {t : Tok} {i : Nat} {c : UInt8} {Q : Option Value → Shared → Prop} (F : Fr h₀ L s.heap m) (N : News h₀ L s.heap news) (U : UpdF I o news g)
    (hc : o.cls = .type "bytes_iterator") (hd : o.data = .fields #[.bytes b t, .int i 0]) (hx : b.toList[i]? = some c)
    (k : ∀ h' o', Fr h₀ L h' m → News h₀ L h' (g o') → o'.cls = .type "bytes_iterator" → o'.data = .fields #[.bytes b t, .int (i + 1 : Nat) 0] → Q (some (.int (c.toNat : Int) s.toks)) { s with heap := h', toks := s.toks + 1 }) :
    wpAny (model prg w) A (pyNext (.ref I)) Q E s := by
  obtain ⟨pre, post, e0, e, a, b'⟩ := U.split
  have z := N (I, o) (by rw [e0]; exact List.mem_append.mpr (.inr (.head _)))
  refine KBw.next_item ⟨o, z.1, hc, hd⟩ (by rw [← Array.getElem?_toList]; exact hx) fun h' hit hs => ?_
  obtain ⟨o', ho', hc', hd'⟩ := hit
  have q := fr_same F N U hs ho'
  exact k h' o' q.1 q.2 hc' hd'
theorem nextB_end {b : Array UInt8} {t : Tok} {i : Nat} {news' : List (Addr × Obj)} {Q : Option Value → Shared → Prop} (hh : A.handled = none) (F : Fr h₀ L s.heap m) (N : News h₀ L s.heap news) (hm : (I, o) ∈ news) (D : DropI I news news')
    (hc : o.cls = .type "bytes_iterator") (hd : o.data = .fields #[.bytes b t, .int i 0]) (hx : b[i]? = none)
    (k : ∀ h', Fr h₀ L h' m → News h₀ L h' news' → Q none { s with heap := h' }) : wpAny (model prg w) A (pyNext (.ref I)) Q E s := by
  refine KBw.next_end hh ⟨o, (N _ hm).1, hc, hd⟩ hx fun h' hs => ?_
  have q := fr_ext F N D hs
  exact k h' q.1 q.2

section
variable {Q : Value → Shared → Prop} {a b n v : Int} {t u : Tok}
theorem m_and (e : Builtin.bitAnd a b = v) (h : Q (.int v s.toks) { s with toks := s.toks + 1 }) : wpAny (model prg w) A (binaryOp .BitAnd (.int a t) (.int b u)) Q E s := and_int (by rw [e]; exact h)
theorem m_or (e : Builtin.bitOr a b = v) (h : Q (.int v s.toks) { s with toks := s.toks + 1 }) : wpAny (model prg w) A (binaryOp .BitOr (.int a t) (.int b u)) Q E s := or_int (by rw [e]; exact h)
theorem m_shl {K : Int} (hn : 0 ≤ n) (hn2 : n ≤ 1000000) (ha : 0 ≤ a ∧ a < 65536) (hK : (2 : Int) ^ n.toNat = K) (h : Q (.int (a * K) s.toks) { s with toks := s.toks + 1 }) : wpAny (model prg w) A (binaryOp .LShift (.int a t) (.int n u)) Q E s :=
  lshift_int_small hn hn2 (by omega) (by rw [hK]; exact h)
theorem m_shr {K : Int} (hn : 0 ≤ n) (hK : (2 : Int) ^ n.toNat = K) (h0 : 0 < K) (h : Q (.int (a / K) s.toks) { s with toks := s.toks + 1 }) : wpAny (model prg w) A (binaryOp .RShift (.int a t) (.int n u)) Q E s :=
  rshift_int hn (by rw [hK, Int.fdiv_eq_ediv_of_nonneg _ (by omega)]; exact h)
theorem bitOr_nat (x y : Nat) : Builtin.bitOr (x : Int) (y : Int) = ((x ||| y : Nat) : Int) := by
  have e : ∀ z : Nat, Builtin.bitNot (z : Int) = -(z : Int) - 1 := fun z => by unfold Builtin.bitNot; omega
  unfold Builtin.bitOr Builtin.bitAnd
  rw [e, e]
  have h1 : decide ((0 : Int) ≤ -(x : Int) - 1) = false := decide_eq_false (by omega)
  have h2 : decide ((0 : Int) ≤ -(y : Int) - 1) = false := decide_eq_false (by omega)
  rw [h1, h2]
  have f : ∀ z : Nat, (Builtin.bitNot (-(z : Int) - 1)).toNat = z := fun z => by unfold Builtin.bitNot; omega
  show Builtin.bitNot (Builtin.bitNot (((Builtin.bitNot (-(x : Int) - 1)).toNat ||| (Builtin.bitNot (-(y : Int) - 1)).toNat : Nat) : Int)) = _
  rw [f, f, e]
  unfold Builtin.bitNot; omega
theorem or_add (k : Nat) {x y : Int} (hx : 0 ≤ x) (h0 : 0 ≤ y) (h1 : y < 2 ^ k) : Builtin.bitOr (x * 2 ^ k) y = x * 2 ^ k + y := by
  obtain ⟨x, rfl⟩ := Int.eq_ofNat_of_zero_le hx
  obtain ⟨y, rfl⟩ := Int.eq_ofNat_of_zero_le h0
  have e : (x : Int) * 2 ^ k = ((x <<< k : Nat) : Int) := by rw [Nat.shiftLeft_eq]; simp
  have hy : y < 2 ^ k := by
    have : ((y : Nat) : Int) < ((2 ^ k : Nat) : Int) := by simpa using h1
    exact Int.ofNat_lt.mp this
  rw [e, bitOr_nat, ← Nat.shiftLeft_add_eq_or_of_lt hy]
  simp
theorem or4 {x y : Int} (hx : 0 ≤ x) (h0 : 0 ≤ y) (h1 : y < 4) : Builtin.bitOr (x * 4) y = x * 4 + y := or_add 2 hx h0 h1
theorem or16 {x y : Int} (hx : 0 ≤ x) (h0 : 0 ≤ y) (h1 : y < 16) : Builtin.bitOr (x * 16) y = x * 16 + y := or_add 4 hx h0 h1
theorem or64 {x y : Int} (hx : 0 ≤ x) (h0 : 0 ≤ y) (h1 : y < 64) : Builtin.bitOr (x * 64) y = x * 64 + y := or_add 6 hx h0 h1
theorem or256 {x y : Int} (hx : 0 ≤ x) (h0 : 0 ≤ y) (h1 : y < 256) : Builtin.bitOr (x * 256) y = x * 256 + y := or_add 8 hx h0 h1
theorem item_bytes {value slice : PySem.Expr} {l : List UInt8} {i : Int} {t u : Tok} (hfit : l.length ≤ 1099511627776) (h0 : 0 ≤ i) (h1 : i < l.length)
    (h : Q (.int (l.getD i.toNat 0).toNat s.toks) { s with toks := s.toks + 1 })
    (hs : subscripted slice false (.bytes l.toArray t) (.int i u) = operate [.bytes l.toArray t, .int i u] (getItem (.bytes l.toArray t) (.int i u))) :
    wpAny (model prg w) A (subscriptTail value slice (.bytes l.toArray t) (.int i u)) Q E s :=
  tail_any (PySem.W.typeIs_bytes s _ t) FB.slot_bytes_getitem.lookup (PySem.W.getItem_bytes hfit h0 h1 h) hs
end
theorem bytes_own {D : Addr} {its : Array Value} {n : Nat} {ns : List Int} {Q : Value → Shared → Prop} (hh : A.handled = none) (F : Fr h₀ L s.heap m) (N : News h₀ L s.heap news) (hm : (D, W.listOf its n) ∈ news)
    (hi : IntsAre its.toList ns) (hr : ∀ n ∈ ns, 0 ≤ n ∧ n < 256) (hz : ns.length ≤ 1000)
    (k : ∀ h' t tk, Fr h₀ L h' m → News h₀ L h' news → Q (.bytes (byteArr ns) t) { s with heap := h', toks := tk }) : wpAny (model prg w) A (call (.type "bytes") [.ref D]) Q E s := by
  have hl : s.heap.IsList D its.toList.toArray := ⟨_, (N _ hm).1, rfl, n, by simp⟩
  exact call_bytes_ints hl hi hr (by rw [hi.length]; exact Nat.le_trans hz (by decide)) hh fun h' t tk hk => k h' t tk (Fr.out F hk) (News.out N hk)
end
section
variable {A : Around} {E : Value → Shared → Prop} {Q : Value → Shared → Prop}
theorem item_b64 {value slice : PySem.Expr} {i : Int} {t u : Tok} (h0 : 0 ≤ i) (h1 : i < 64)
    (h : Q (.int (b64n i.toNat : Nat) s.toks) { s with toks := s.toks + 1 })
    (hs : subscripted slice false (.bytes b64L.toArray t) (.int i u) = operate [.bytes b64L.toArray t, .int i u] (getItem (.bytes b64L.toArray t) (.int i u))) :
    wpAny (model prg w) A (subscriptTail value slice (.bytes b64L.toArray t) (.int i u)) Q E s := item_bytes (by decide) h0 h1 h hs
end
theorem b64_in (v : Nat) : 0 ≤ ((b64n v : Nat) : Int) ∧ ((b64n v : Nat) : Int) < 256 := ⟨by omega, by have := b64n_lt v; omega⟩
theorem in256_nil : ∀ n ∈ ([] : List Int), 0 ≤ n ∧ n < 256 := fun _ h => nomatch h
theorem in256_cons {x : Int} {l : List Int} (hx : 0 ≤ x ∧ x < 256) (h : ∀ n ∈ l, 0 ≤ n ∧ n < 256) : ∀ n ∈ x :: l, 0 ≤ n ∧ n < 256 := fun n hn => by
  rcases List.mem_cons.mp hn with rfl | hn
  · exact hx
  · exact h n hn
theorem ints2 {l : List Value} {a b : Int} {t u : Tok} (e : l = [.int a t, .int b u]) : IntsAre l [a, b] := e ▸ .cons _ _ (.cons _ _ .nil)
theorem ints3 {l : List Value} {a b c : Int} {t u v : Tok} (e : l = [.int a t, .int b u, .int c v]) : IntsAre l [a, b, c] := e ▸ .cons _ _ (.cons _ _ (.cons _ _ .nil))
theorem ints4 {l : List Value} {a b c d : Int} {t u v x : Tok} (e : l = [.int a t, .int b u, .int c v, .int d x]) : IntsAre l [a, b, c, d] := e ▸ .cons _ _ (.cons _ _ (.cons _ _ (.cons _ _ .nil)))
end
section
variable {w : World} {s : Shared} {p : Program} {loose : List Str} {mean : ExcName → Option Value} {mg mb : Str → Option Value} {R : Result → Shared → Prop}
noncomputable def upd (x : Str) (v : Value) (m : Str → Option Value) : Str → Option Value := fun y => if y = x then some v else m y
structure Ctx where
  w : World
  A : Around
  env : Env
  h₀ : Heap
  h : Heap
  m : Str → Option Value
  news : List (Addr × Obj)
  gs : Array GenState
  dr : Drawn
  os : OsState
noncomputable def Ctx.at (c : Ctx) (tk : Nat) : Shared := ⟨c.h, c.gs, c.dr, tk, c.os⟩
structure Ctx.Ok (c : Ctx) : Prop where
  f : Fr c.h₀ c.env.locals c.h c.m
  n : News c.h₀ c.env.locals c.h c.news
noncomputable def Ctx.put (c : Ctx) (h' : Heap) (x : Str) (v : Value) : Ctx := { c with h := h', m := upd x v c.m }
noncomputable def Ctx.led (c : Ctx) (h' : Heap) (l : List (Addr × Obj)) : Ctx := { c with h := h', news := l }
noncomputable def isLoc (env : Env) (x : Str) : Bool := match env.scope.kind, env.kindOf x with
  | .function, some .local => !(x == ("__debug__" : Str))
  | _, _ => false
theorem isLoc_of {env : Env} {x : Str} (h : isLoc env x = true) : env.scope.kind = .function ∧ env.kindOf x = some .local ∧ (x == ("__debug__" : Str)) = false := by
  unfold isLoc at h
  split at h
  · exact ⟨by assumption, by assumption, by simpa using h⟩
  · cases h
noncomputable def isGlo (env : Env) (x : Str) : Bool := match env.scope.kind, env.kindOf x with
  | .function, some .globalImplicit => !(x == ("__debug__" : Str)) && Nat.beq env.globals mainGlobals && Nat.beq env.builtins builtinsNs
  | _, _ => false
theorem isGlo_of {env : Env} {x : Str} (h : isGlo env x = true) : env.scope.kind = .function ∧ env.kindOf x = some .globalImplicit ∧ (x == ("__debug__" : Str)) = false ∧ env.globals = mainGlobals ∧ env.builtins = builtinsNs := by
  unfold isGlo at h
  split at h
  · simp only [Bool.and_eq_true, Bool.not_eq_true'] at h
    exact ⟨by assumption, by assumption, h.1.1, Nat.eq_of_beq_eq_true h.1.2, Nat.eq_of_beq_eq_true h.2⟩
  · cases h
structure PE (c : Ctx) (e : PySem.Expr) (V : Tok → Value) : Prop where
  go : ∀ (Q : Value → Shared → Prop) (E : Value → Shared → Prop) tk, (∀ t k, Q (V t) (c.at k)) → wpAny (model prg c.w) c.A (eval e c.env) Q E (c.at tk)
section
variable {c : Ctx} {x : Str} {pos : Pos} {a b : PySem.Expr} {i j : Int} {t u : Tok}
theorem PE.locI (S : c.Ok) (hl : isLoc c.env x = true) (hv : c.m x = some (.int i t)) : PE c (.Name x pos) (.int i) := ⟨fun _ _ _ k => by
  obtain ⟨h1, h2, h3⟩ := isLoc_of hl
  exact wpAny_Name (wpAny_loadName_local h1 h2 S.f.ns hv (k _ _)) h3⟩
theorem PE.locV {v : Value} (S : c.Ok) (hl : isLoc c.env x = true) (hv : c.m x = some v) : PE c (.Name x pos) (fun _ => v) := ⟨fun _ _ _ k => by
  obtain ⟨h1, h2, h3⟩ := isLoc_of hl
  exact wpAny_Name (wpAny_loadName_local h1 h2 S.f.ns hv (k 0 _)) h3⟩
theorem PE.int {kd} : PE c (.Constant (.int i) kd pos) (.int i) := ⟨fun _ _ _ k => wpAny_Constant_int (k _ _)⟩
theorem PE.glo {K : Frag} {p : Program} {loose : List Str} {mg mb : Str → Option Value} {v : Value} (S : c.Ok) (X : K.In c.h₀) (T : TopRead p loose mg mb c.h₀) (hl : isGlo c.env x = true) (e : nsIn K mainGlobals x = some (some v)) : PE c (.Name x pos) (fun _ => v) := ⟨fun _ _ _ k => by
  obtain ⟨h1, h2, h3, hg, hb⟩ := isGlo_of hl
  exact Name_function_global h1 h2 (loadGlobal_global (by rw [hg]; exact T.g.keeps S.f.keep) (mg_of X T.g e) (k 0 _)) h3⟩
theorem PE.blt {K : Frag} {p : Program} {loose : List Str} {mean : ExcName → Option Value} {mg mb : Str → Option Value} {v : Value} (S : c.Ok) (X : K.In c.h₀) (T : TopRead p loose mg mb c.h₀) (hl : isGlo c.env x = true) (e : nsIn K mainGlobals x = some none) (hv : bootBuiltins x = some v) (hn : x ≠ "__name__") : PE c (.Name x pos) (fun _ => v) := ⟨fun _ _ _ k => by
  obtain ⟨h1, h2, h3, hg, hb⟩ := isGlo_of hl
  exact Name_function_global h1 h2 (loadGlobal_builtin (by rw [hg]; exact T.g.keeps S.f.keep) (mg_none_of X T.g e) (by rw [hb]; exact T.b.keeps S.f.keep) ((T.builtins x hn).trans hv) (k 0 _)) h3⟩
theorem PE.bin {op : Operator} {r : Int} (p : PE c a (.int i)) (q : PE c b (.int j)) (o : ∀ (Q : Value → Shared → Prop) (E : Value → Shared → Prop) t u s, Q (.int r s.toks) { s with toks := s.toks + 1 } → wpAny (model prg c.w) c.A (binaryOp op (.int i t) (.int j u)) Q E s) : PE c (.BinOp a op b pos) (.int r) := ⟨fun _ _ _ k => wpAny_BinOp (p.go _ _ _ fun _ _ => q.go _ _ _ fun _ _ => o _ _ _ _ _ (k _ _))⟩
theorem PE.add (p : PE c a (.int i)) (q : PE c b (.int j)) : PE c (.BinOp a .Add b pos) (.int (i + j)) := p.bin q fun _ _ _ _ _ k => add_int k
theorem PE.sub (p : PE c a (.int i)) (q : PE c b (.int j)) : PE c (.BinOp a .Sub b pos) (.int (i - j)) := p.bin q fun _ _ _ _ _ k => sub_int k
theorem PE.and {r : Int} (p : PE c a (.int i)) (q : PE c b (.int j)) (e : Builtin.bitAnd i j = r) : PE c (.BinOp a .BitAnd b pos) (.int r) := p.bin q fun _ _ _ _ _ k => m_and e k
theorem PE.or {r : Int} (p : PE c a (.int i)) (q : PE c b (.int j)) (e : Builtin.bitOr i j = r) : PE c (.BinOp a .BitOr b pos) (.int r) := p.bin q fun _ _ _ _ _ k => m_or e k
theorem PE.shl {K : Int} (p : PE c a (.int i)) (q : PE c b (.int j)) (h : 0 ≤ j ∧ j ≤ 1000000 ∧ 0 ≤ i ∧ i < 65536) (hK : (2 : Int) ^ j.toNat = K) : PE c (.BinOp a .LShift b pos) (.int (i * K)) := p.bin q fun _ _ _ _ _ k => m_shl h.1 h.2.1 h.2.2 hK k
theorem PE.shr {K : Int} (p : PE c a (.int i)) (q : PE c b (.int j)) (h : 0 ≤ j) (hK : (2 : Int) ^ j.toNat = K) (h0 : 0 < K) : PE c (.BinOp a .RShift b pos) (.int (i / K)) := p.bin q fun _ _ _ _ _ k => m_shr h hK h0 k
theorem or_of {K x y : Int} (hK : K = 4 ∨ K = 16 ∨ K = 64 ∨ K = 256) (h : 0 ≤ x ∧ 0 ≤ y ∧ y < K) : Builtin.bitOr (x * K) y = x * K + y := by
  rcases hK with rfl | rfl | rfl | rfl
  · exact or4 h.1 h.2.1 h.2.2
  · exact or16 h.1 h.2.1 h.2.2
  · exact or64 h.1 h.2.1 h.2.2
  · exact or256 h.1 h.2.1 h.2.2
structure BE (c : Ctx) (e : PySem.Expr) (b : Bool) : Prop where
  go : ∀ (Q : Bool → Shared → Prop) (E : Value → Shared → Prop) tk, (∀ k, Q b (c.at k)) → wpAny (model prg c.w) c.A (isTrue e c.env (eval e c.env)) Q E (c.at tk)
theorem BE.cmp {op : CmpOp} {r : Bool} (p : PE c a (.int i)) (q : PE c b (.int j)) (hm : behindInMarks op b = false) (o : ∀ (Q : Value → Shared → Prop) (E : Value → Shared → Prop) t u s, Q (.bool r) s → wpAny (model prg c.w) c.A (compareOp op (.int i t) (.int j u)) Q E s) : BE c (.Compare a [op] [b] pos) r := ⟨fun _ _ _ k => wpAny_isTrue_Compare1 (p.go _ _ _ fun _ _ => q.go _ _ _ fun _ _ => o _ _ _ _ _ (wpAny_truthy_bool (k _))) hm⟩
theorem BE.lt (p : PE c a (.int i)) (q : PE c b (.int j)) : BE c (.Compare a [.Lt] [b] pos) (decide (i < j)) := BE.cmp p q (by cases b <;> first | rfl | (simp [behindInMarks]; done) | (unfold behindInMarks; decide)) fun _ _ _ _ _ k => lt_int k
theorem BE.gt (p : PE c a (.int i)) (q : PE c b (.int j)) : BE c (.Compare a [.Gt] [b] pos) (decide (j < i)) := BE.cmp p q (by cases b <;> first | rfl | (simp [behindInMarks]; done) | (unfold behindInMarks; decide)) fun _ _ _ _ _ k => gt_int k
theorem BE.ge (p : PE c a (.int i)) (q : PE c b (.int j)) : BE c (.Compare a [.GtE] [b] pos) (decide (j ≤ i)) := BE.cmp p q (by cases b <;> first | rfl | (simp [behindInMarks]; done) | (unfold behindInMarks; decide)) fun _ _ _ _ _ k => ge_int k
theorem BE.le (p : PE c a (.int i)) (q : PE c b (.int j)) : BE c (.Compare a [.LtE] [b] pos) (decide (i ≤ j)) := BE.cmp p q (by cases b <;> first | rfl | (simp [behindInMarks]; done) | (unfold behindInMarks; decide)) fun _ _ _ _ _ k => le_int k
theorem BE.eq (p : PE c a (.int i)) (q : PE c b (.int j)) : BE c (.Compare a [.Eq] [b] pos) (decide (i = j)) := BE.cmp p q (by cases b <;> first | rfl | (simp [behindInMarks]; done) | (unfold behindInMarks; decide)) fun _ _ _ _ _ k => eq_int (by rw [show (i == j) = decide (i = j) from rfl]; exact k)
theorem BE.ne (p : PE c a (.int i)) (q : PE c b (.int j)) : BE c (.Compare a [.NotEq] [b] pos) (decide (i ≠ j)) := BE.cmp p q (by cases b <;> first | rfl | (simp [behindInMarks]; done) | (unfold behindInMarks; decide)) fun _ _ _ _ _ k => ne_int (by rw [show (i != j) = decide (i ≠ j) from by rw [bne, show (i == j) = decide (i = j) from rfl]; simp]; exact k)
theorem BE.nameI (p : PE c (.Name x pos) (.int i)) : BE c (.Name x pos) (decide (i ≠ 0)) := ⟨fun _ _ _ k => isTrue_plain (p.go _ _ _ fun _ _ => P.truthy_int (by rw [show (i != 0) = decide (i ≠ 0) from by rw [bne, show (i == 0) = decide (i = 0) from rfl]; simp]; exact k _))⟩
theorem BE.nameB {v : Bool} (p : PE c (.Name x pos) (fun _ => .bool v)) : BE c (.Name x pos) v := ⟨fun _ _ _ k => isTrue_plain (p.go _ _ _ fun _ _ => wpAny_truthy_bool (k _))⟩
theorem BE.and {p q : Bool} (P : BE c a p) (R : BE c b q) : BE c (.BoolOp .And [a, b] pos) (p && q) := ⟨fun Q E _ k => by
  refine wpAny_isTrue_BoolOp (wpAny_allTrue_And_cons (P.go _ _ _ fun _ => ?_))
  cases p
  · exact k _
  · refine wpAny_allTrue_And_cons (R.go _ _ _ fun _ => ?_)
    cases q
    · exact k _
    · exact wpAny_allTrue_And_nil (k _)⟩
end
structure Run (c : Ctx) (l : List Stmt) (Q : Flow → Shared → Prop) (E : Value → Shared → Prop) : Prop where
  go : ∀ tk, wpAny (model prg c.w) c.A (execs l c.env) Q E (c.at tk)
section
variable {c : Ctx} {x : Str} {pos px : Pos} {e : PySem.Expr} {rest : List Stmt} {Q : Flow → Shared → Prop} {E : Value → Shared → Prop} {V : Tok → Value}
theorem execs_app (env : Env) : ∀ a b : List Stmt, execs (a ++ b) env = (do match ← execs a env with | .next => execs b env | f => pure f)
  | [], b => rfl
  | st :: a, b => by
    rw [List.cons_append, execs_cons, execs_cons, bind_assoc]
    congr 1
    funext f
    cases f with
    | next => exact execs_app env a b
    | _ => rfl
theorem Run.nil (k : ∀ tk, Q .next (c.at tk)) : Run c [] Q E := ⟨fun _ => wpAny_execs_nil (k _)⟩
theorem Run.assign (S : c.Ok) (hl : isLoc c.env x = true) (hs : swapsWith e (some (.Name x px)) pos.line c.env = pure false) (P : PE c e V)
    (k : ∀ h' t, let c' := c.put h' x (V t); c'.Ok → Run c' rest Q E) : Run c (.Assign [.Name x px] e pos :: rest) Q E := ⟨fun tk => by
  obtain ⟨h1, h2, h3⟩ := isLoc_of hl
  refine wpAny_execs_cons (wpAny_Assign_Name (P.go _ _ _ fun t k' => ?_) hs)
  refine wpAny_storeName_local h2 S.f.ns (fun h' hn hs => (k h' t ⟨S.f.set hn hs, S.n.set hs⟩).go _) (by rw [h1]; rfl)⟩
theorem Run.if {test : PySem.Expr} {b : Bool} {body orelse : List Stmt} (B : BE c test b) (k : Run c ((if b then body else orelse) ++ rest) Q E) : Run c (.If test body orelse pos :: rest) Q E := ⟨fun tk Γ p hΓ => by
  have z := B.go (fun b' s' => wpAny (model prg c.w) c.A (execs ((if b' then body else orelse) ++ rest) c.env) Q E s') E tk (fun k' => k.go k') Γ
  rw [execs_cons, Sem.wp_bind']
  simp only [exec_If, Sem.wp_bind', Sem.wp_cmd_standAt]
  refine Sem.wp_mono _ Γ _ (fun b p₂ s₂ h₂ => ?_) (fun _ _ _ h' => h') _ _ (z _ hΓ)
  have z2 := h₂ Γ p₂ hΓ
  cases b <;> (rw [execs_app, Sem.wp_bind'] at z2; exact z2)⟩
theorem Run.ifT {test : PySem.Expr} {b : Bool} {body orelse : List Stmt} (B : BE c test b) (hb : b = true) (k : Run c (body ++ rest) Q E) : Run c (.If test body orelse pos :: rest) Q E := Run.if B (by rw [hb]; exact k)
theorem Run.ifF {test : PySem.Expr} {b : Bool} {body orelse : List Stmt} (B : BE c test b) (hb : b = false) (k : Run c (orelse ++ rest) Q E) : Run c (.If test body orelse pos :: rest) Q E := Run.if B (by rw [hb]; exact k)
theorem Run.ret (P : PE c e V) (k : ∀ t tk, Q (.ret (V t)) (c.at tk)) : Run c (.Return (some e) pos :: rest) Q E := ⟨fun tk => wpAny_execs_cons (wpAny_Return_some (P.go _ _ _ fun t k' => k t k'))⟩
theorem Run.cont (k : ∀ tk, Q .cont (c.at tk)) : Run c (.Continue pos :: rest) Q E := ⟨fun tk => wpAny_execs_cons (fun _ _ _ => k _)⟩
end
noncomputable def behind (M : Model) (A : Around) (env : Env) (rest : List Stmt) (Q : Flow → Shared → Prop) (E : Value → Shared → Prop) : Flow → Shared → Prop := fun f s' => match f with | .next => wpAny M A (execs rest env) Q E s' | f => Q f s'
noncomputable def loopR (M : Model) (A : Around) (env : Env) (rest : List Stmt) (Q : Flow → Shared → Prop) (E : Value → Shared → Prop) : Result → Shared → Prop := fun r s' => match r with | .ok f => behind M A env rest Q E f s' | .error e => cameBackBy M A env E e s'
noncomputable def turnQ (M : Model) (A : Around) (code : Code) (R : Result → Shared → Prop) : Flow → Shared → Prop := fun f s₃ => match f with
  | .next | .cont => codeAny M A code R s₃
  | .brk => R (.ok .next) s₃
  | .ret v => R (.ok (.ret v)) s₃
noncomputable def turnE (M : Model) (A : Around) (env : Env) (R : Result → Shared → Prop) : Value → Shared → Prop := notedBy M A env fun e s' => R (.error e) s'
noncomputable def Ctx.stat (c : Ctx) : World × Around × Env × Drawn × OsState := (c.w, c.A, c.env, c.dr, c.os)
noncomputable def Ctx.M (c : Ctx) : Model := model prg c.w
structure Loop (c : Ctx) (code : Code) (R : Result → Shared → Prop) : Prop where
  go : ∀ tk, codeAny c.M c.A code R (c.at tk)
noncomputable def Ctx.bh (c : Ctx) (rest : List Stmt) (Q : Flow → Shared → Prop) (E : Value → Shared → Prop) : Result → Shared → Prop := loopR c.M c.A c.env rest Q E
noncomputable def Ctx.tQ (c : Ctx) (code : Code) (R : Result → Shared → Prop) := turnQ c.M c.A code R
noncomputable def Ctx.tE (c : Ctx) (R : Result → Shared → Prop) := turnE c.M c.A c.env R
section
variable {c c' : Ctx} {x : Str} {pos px pa pn : Pos} {e : PySem.Expr} {body rest : List Stmt} {Q : Flow → Shared → Prop} {E : Value → Shared → Prop} {V : Tok → Value} {R : Result → Shared → Prop} {code : Code}
theorem stat_of (h : c'.stat = c.stat) : c'.w = c.w ∧ c'.A = c.A ∧ c'.env = c.env := by
  unfold Ctx.stat at h
  simp only [Prod.mk.injEq] at h
  exact ⟨h.1, h.2.1, h.2.2.1⟩
theorem Run.turn (h : c'.stat = c.stat) (L : Loop c' code R) : Run c' [] (c.tQ code R) E := Run.nil fun tk => by
  obtain ⟨h1, h2, -⟩ := stat_of h
  show codeAny _ _ _ _ _
  have L := L.go tk
  unfold Ctx.M at L
  rw [h1, h2] at L
  exact L
theorem Run.contT (h : c'.stat = c.stat) (L : Loop c' code R) : Run c' (.Continue pos :: rest) (c.tQ code R) E := Run.cont fun tk => by
  obtain ⟨h1, h2, -⟩ := stat_of h
  show codeAny _ _ _ _ _
  have L := L.go tk
  unfold Ctx.M at L
  rw [h1, h2] at L
  exact L
theorem Run.while {test : PySem.Expr} (L : Loop c (.whileLoop test body [] c.env) (c.bh rest Q E)) : Run c (.While test body [] pos :: rest) Q E := ⟨fun tk => wpAny_execs_cons (exec_while (codeAny_mono (L.go tk) fun r s h => by
  cases r with
  | ok f => cases f <;> exact h
  | error e => exact h))⟩
theorem Loop.whileT {test : PySem.Expr} {b : Bool} (B : BE c test b) (hb : b = true) (k : Run c body (c.tQ (.whileLoop test body [] c.env) R) (c.tE R)) : Loop c (.whileLoop test body [] c.env) R := ⟨fun tk => while_step (B.go _ _ _ fun tk' => by
  rw [if_pos hb]
  exact wpAny_mono (k.go tk') (fun f s h => by cases f <;> exact h) fun _ _ h => h)⟩
theorem Loop.whileF {test : PySem.Expr} {b : Bool} (h : c'.stat = c.stat) (B : BE c' test b) (hb : b = false) (k : Run c' rest Q E) : Loop c' (.whileLoop test body [] c'.env) (c.bh rest Q E) := ⟨fun tk => while_step (B.go _ _ _ fun tk' => by
  obtain ⟨h1, h2, h3⟩ := stat_of h
  rw [if_neg (by rw [hb]; decide)]
  show wpAny _ _ _ _ _ _
  have k := k.go tk'
  unfold Ctx.M
  rw [← h1, ← h2, ← h3]
  exact k)⟩
theorem Run.forB {y : PySem.Expr} {b : Array UInt8} {tb : Tok} (S : c.Ok) (hl : isLoc c.env x = true) (hv : c.m x = some (.bytes b tb))
    (k : ∀ I h' o, (∀ p ∈ c.news, @LT.lt Nat _ p.1 I) → o.cls = .type "bytes_iterator" → o.data = .fields #[.bytes b tb, .int (0 : Nat) 0] → let c' := c.led h' ((I, o) :: c.news); c'.Ok → Loop c' (.forLoop y (.ref I) body [] c.env) (c.bh rest Q E)) :
    Run c (.For y (.Name x px) body [] pos :: rest) Q E := ⟨fun tk => by
  obtain ⟨h1, h2, h3⟩ := isLoc_of hl
  refine wpAny_execs_cons (exec_for_Name (wpAny_Name (wpAny_loadName_local h1 h2 S.f.ns hv ?_) h3))
  refine iterB (s := c.at tk) S.f S.n fun I h' o F' N' l1 _ _ _ hc hd => ?_
  refine codeAny_mono ((k I h' o l1 hc hd ⟨F', N'⟩).go tk) fun r s h => ?_
  cases r with
  | ok f => cases f <;> exact h
  | error e => exact h⟩
theorem Loop.item {I : Addr} {o : Obj} {i : Nat} {b : Array UInt8} {tb : Tok} {ch : UInt8} {g : Obj → List (Addr × Obj)} {env : Env} (he : env = c.env) (S : c.Ok) (U : UpdF I o c.news g) (hc : o.cls = .type "bytes_iterator") (hd : o.data = .fields #[.bytes b tb, .int i 0]) (hx : b.toList[i]? = some ch) (hl : isLoc c.env x = true)
    (k : ∀ h' o' t, o'.cls = .type "bytes_iterator" → o'.data = .fields #[.bytes b tb, .int (i + 1 : Nat) 0] → let c' := (c.led c.h (g o')).put h' x (.int (ch.toNat : Int) t); c'.Ok → Run c' body (c.tQ (.forLoop (.Name x px) (.ref I) body [] env) R) (c.tE R)) :
    Loop c (.forLoop (.Name x px) (.ref I) body [] env) R := ⟨fun tk => by
  subst he
  obtain ⟨h1, h2, h3⟩ := isLoc_of hl
  refine for_step (nextB (s := c.at tk) S.f S.n U hc hd hx fun h' o' F' N' hc' hd' => ?_)
  refine wpAny_of_eq rfl (wpAny_assign_Name ?_)
  refine wpAny_storeName_local h2 (s := { c.at tk with heap := h', toks := _ }) F'.ns (fun h'' hn hs => ?_) (by rw [h1]; rfl)
  exact wpAny_mono ((k h'' o' _ hc' hd' ⟨F'.set hn hs, N'.set hs⟩).go _) (fun f s h => by cases f <;> exact h) fun _ _ h => h⟩
theorem Loop.done {y : PySem.Expr} {I : Addr} {o : Obj} {i : Nat} {b : Array UInt8} {tb : Tok} {l : List (Addr × Obj)} (h : c'.stat = c.stat) (hh : c'.A.handled = none) (S : c'.Ok) (hm : (I, o) ∈ c'.news) (D : DropI I c'.news l) (hc : o.cls = .type "bytes_iterator") (hd : o.data = .fields #[.bytes b tb, .int i 0]) (hx : b[i]? = none)
    (k : ∀ h', let c'' := c'.led h' l; c''.Ok → Run c'' rest Q E) : Loop c' (.forLoop y (.ref I) body [] c.env) (c.bh rest Q E) := ⟨fun tk => by
  obtain ⟨h1, h2, h3⟩ := stat_of h
  rw [← h3]
  refine for_step (nextB_end (s := c'.at tk) hh S.f S.n hm D hc hd hx fun h' F' N' => ?_)
  show wpAny _ _ _ _ _ _
  unfold Ctx.M
  rw [← h1, ← h2, ← h3]
  exact (k h' ⟨F', N'⟩).go tk⟩
theorem Run.newL (S : c.Ok) (hl : isLoc c.env x = true) (k : ∀ a h' h'', (∀ p ∈ c.news, @LT.lt Nat _ p.1 a) → let c' := (c.led h' ((a, W.listOf #[] 0) :: c.news)).put h'' x (.ref a); c'.Ok → Run c' rest Q E) :
    Run c (.Assign [.Name x px] (.List [] pn) pos :: rest) Q E := ⟨fun tk => by
  obtain ⟨h1, h2, h3⟩ := isLoc_of hl
  refine wpAny_execs_cons (wpAny_Assign_Name (List_ (args_nil (newList_K (s := c.at tk) S.f S.n (fun a h' F' N' l1 => ?_) (Nat.zero_le _)))) rfl)
  exact wpAny_storeName_local h2 (s := { c.at tk with heap := h' }) F'.ns (fun h'' hn hs => (k a h' h'' l1 ⟨F'.set hn hs, N'.set hs⟩).go _) (by rw [h1]; rfl)⟩
theorem Run.append {pl : Sem Bool} {D : Addr} {its : Array Value} {n : Nat} {l : Tok → List (Addr × Obj)} (S : c.Ok) (hl : isLoc c.env x = true) (hv : c.m x = some (.ref D)) (hm : (D, W.listOf its n) ∈ c.news) (P : PE c e V)
    (U : ∀ t, Upd D (W.listOf its n) (W.listOf (its.push (V t)) (n + 1)) c.news (l t)) (hsz : its.size ≤ sizeLine)
    (hi : interactive c.env = false) (hs : swapsWith (.Call (.Attribute (.Name x px) (Str.ofString "append") pa) [e] [] pn) none pos.line c.env = pure false)
    (he : eval (.Call (.Attribute (.Name x px) (Str.ofString "append") pa) [e] [] pn) c.env = (do
      let ov ← eval (.Name x px) c.env
      standAt pa.atName
      let (f, first) ← holding [ov] (getMethod ov (Str.ofString "append") pl)
      callWith pn f first (backTo pn (starEach [e] c.env)) (backToKw pn (keywordEach [] c.env))))
    (hst : starEach [e] c.env = (false, eval e c.env) :: starEach [] c.env)
    (k : ∀ h' t, let c' := c.led h' (l t); c'.Ok → Run c' rest Q E) :
    Run c (.Expr (.Call (.Attribute (.Name x px) (Str.ofString "append") pa) [e] [] pn) pos :: rest) Q E := ⟨fun tk => by
  obtain ⟨h1, h2, h3⟩ := isLoc_of hl
  refine wpAny_execs_cons (wpAny_Expr_any ?_ hi hs)
  refine methodCall_KW (wpAny_Name (wpAny_loadName_local h1 h2 S.f.ns hv ?_) h3) he
  refine listMethod_K (s := c.at tk) S.n hm PySem.F.slot_list_append PySem.F.type_list_append ?_
  refine callWith_method1 (args_cons (P.go _ _ _ fun t k' => args_nil ?_) hst) hst
  exact append_K (s := c.at k') S.f S.n (U t) (fun h' F' N' => (k h' t ⟨F', N'⟩).go _) hsz⟩
end
noncomputable def Gl (w : World) (h : Heap) : Prop := (hdK w.params).In h ∧ ∃ p loose mean mg mb, Top p loose mean mg mb h
theorem Gl.mk' {p : Program} {loose : List Str} {mean : ExcName → Option Value} {mg mb : Str → Option Value} {h : Heap} (X : (hdK w.params).In h) (T : Top p loose mean mg mb h) : Gl w h := ⟨X, _, _, _, _, _, T⟩
theorem Gl.keeps {h h' : Heap} (G : Gl w h) (k : h.StaysIn h') : Gl w h' := let ⟨X, p, l, me, mg, mb, T⟩ := G; ⟨X.keeps k, p, l, me, mg, mb, T.keeps k⟩
structure Con (d u : Nat) (w : World) (f : Addr) (args : List Value) (kw : List (Str × Value)) (V : Tok → Value) : Prop where
  go : ∀ (s : Shared) (R : Result → Shared → Prop), Gl w s.heap → (∀ v s', Out1 s V v s' → s.heap.StaysIn s'.heap → R (.ok (.ret v)) s') → codeAny (model prg w) (AT d u) (.call (.ref f) ⟨args, kw⟩) R s
structure GFn (w : World) (fn : Str) (f : Addr) : Prop where
  e : nsIn (hdK w.params) mainGlobals fn = some (some (.ref f))
  k : keepIn (hdK w.params) (.ref f) = true
structure AOk (A : Around) (d u : Nat) : Prop where
  h : A.handled = none
  d : A.depth ≤ d
  u : A.units ≤ u
section
variable {c c' : Ctx} {x fn : Str} {pos px pa pn : Pos} {e a b : PySem.Expr} {body rest : List Stmt} {Q : Flow → Shared → Prop} {E : Value → Shared → Prop} {V V' : Tok → Value} {i : Int} {d u : Nat} {f : Addr}
theorem PE.gloG {v : Value} (S : c.Ok) (G : Gl c.w c.h₀) (hl : isGlo c.env x = true) (e : nsIn (hdK c.w.params) mainGlobals x = some (some v)) : PE c (.Name x pos) (fun _ => v) := let ⟨X, _, _, _, _, _, T⟩ := G; PE.glo S X (topRead_of T) hl e
theorem PE.bltG {v : Value} (S : c.Ok) (G : Gl c.w c.h₀) (hl : isGlo c.env x = true) (e : nsIn (hdK c.w.params) mainGlobals x = some none) (hv : bootBuiltins x = some v) (hn : x ≠ "__name__") : PE c (.Name x pos) (fun _ => v) := let ⟨X, _, _, me, _, _, T⟩ := G; PE.blt (mean := me) S X (topRead_of T) hl e hv hn
theorem PE.b64 {tb : Tok} (p : PE c a (fun _ => .bytes b64L.toArray tb)) (q : PE c b (.int i)) (hi : 0 ≤ i ∧ i < 64)
    (hs : ∀ t u, subscripted b false (.bytes b64L.toArray t) (.int i u) = operate [.bytes b64L.toArray t, .int i u] (getItem (.bytes b64L.toArray t) (.int i u))) : PE c (.Subscript a b pos) (.int (b64n i.toNat : Nat)) := ⟨fun _ _ _ k => Subscript_ (p.go _ _ _ fun _ _ => q.go _ _ _ fun _ _ => item_b64 hi.1 hi.2 (k _ _) (hs _ _))⟩
theorem EX.call1 (S : c.Ok) (G : Gl c.w c.h₀) (gf : isGlo c.env fn = true) (g : GFn c.w fn f) (hA : AOk c.A d u) (P : PE c a V) (C : ∀ t, Con d u c.w f [V t] [] V') (hst : starEach [a] c.env = (false, eval a c.env) :: starEach [] c.env) (he : eval (.Call (.Name fn pn) [a] [] pa) c.env = (do callWith pa (← eval (.Name fn pn) c.env) [] (backTo pa (starEach [a] c.env)) (backToKw pa (keywordEach [] c.env))))
    {Q : Value → Shared → Prop} {tk : Nat} (k : ∀ h' t tk, Fr c.h₀ c.env.locals h' c.m → News c.h₀ c.env.locals h' c.news → Q (V' t) ⟨h', c.gs, c.dr, tk, c.os⟩) :
    wpAny (model prg c.w) c.A (eval (.Call (.Name fn pn) [a] [] pa) c.env) Q E (c.at tk) := by
  refine Call_ ((PE.gloG S G gf g.e).go _ _ _ fun _ _ => ?_) he
  refine callWith_K (h₀ := c.h₀) G.1 g.k (args_cons (P.go _ _ _ fun t k' => args_nil ⟨Frag.In.keeps G.1 S.f.keep, ?_⟩) hst) hst
  refine wpAny_call (codeAny_weaken ((C t).go (c.at k') _ (G.keeps S.f.keep) fun v s' q st => ?_) hA.h hA.d hA.u)
  obtain ⟨t', h', tk', rfl, rfl⟩ := q
  exact k h' t' tk' (Fr.out S.f st) (News.out S.n st)
theorem Run.call1 (S : c.Ok) (G : Gl c.w c.h₀) (hl : isLoc c.env x = true) (gf : isGlo c.env fn = true) (g : GFn c.w fn f) (hA : AOk c.A d u) (P : PE c a V) (C : ∀ t, Con d u c.w f [V t] [] V') (hst : starEach [a] c.env = (false, eval a c.env) :: starEach [] c.env) (he : eval (.Call (.Name fn pn) [a] [] pa) c.env = (do callWith pa (← eval (.Name fn pn) c.env) [] (backTo pa (starEach [a] c.env)) (backToKw pa (keywordEach [] c.env))))
    (k : ∀ h' t, let c' := c.put h' x (V' t); c'.Ok → Run c' rest Q E) : Run c (.Assign [.Name x px] (.Call (.Name fn pn) [a] [] pa) pos :: rest) Q E := ⟨fun tk => by
  obtain ⟨h1, h2, h3⟩ := isLoc_of hl
  refine wpAny_execs_cons (wpAny_Assign_Name (EX.call1 S G gf g hA P C hst he fun h' t tk' F N => ?_) rfl)
  exact wpAny_storeName_local h2 (s := ⟨h', c.gs, c.dr, tk', c.os⟩) F.ns (fun h'' hn hs => (k h'' t ⟨F.set hn hs, N.set hs⟩).go _) (by rw [h1]; rfl)⟩
theorem Run.retBytes {D : Addr} {its : Array Value} {n : Nat} {ns : List Int} (S : c.Ok) (G : Gl c.w c.h₀) (hl : isLoc c.env x = true) (gf : isGlo c.env (Str.ofString "bytes") = true) (g : nsIn (hdK c.w.params) mainGlobals (Str.ofString "bytes") = some none)
    (hA : c.A.handled = none) (hv : c.m x = some (.ref D)) (hm : (D, W.listOf its n) ∈ c.news) (hi : IntsAre its.toList ns) (hr : ∀ n ∈ ns, 0 ≤ n ∧ n < 256) (hz : ns.length ≤ 1000)
    (k : ∀ h' t tk, c.h₀.StaysIn h' → Q (.ret (.bytes (byteArr ns) t)) ⟨h', c.gs, c.dr, tk, c.os⟩) : Run c (.Return (some (.Call (.Name (Str.ofString "bytes") pn) [.Name x px] [] pa)) pos :: rest) Q E := ⟨fun tk => by
  refine wpAny_execs_cons (wpAny_Return_some (Call_ ((PE.bltG S G gf g rfl (by decide)).go _ _ _ fun _ _ => ?_) rfl))
  refine PyProof.Rows.callWith_type1 ?_
  refine args_cons ((PE.locV S hl hv).go _ _ _ fun _ k' => args_nil ?_) rfl
  exact bytes_own (s := c.at k') hA S.f S.n hm hi hr hz fun h' t tk F N => k h' t tk F.keep⟩
end
noncomputable def retQ (R : Result → Shared → Prop) : Flow → Shared → Prop := fun fl s' => R (.ok (.ret (match fl with | .ret v => v | _ => .none))) s'
theorem enterX {w : World} {A : Around} {s : Shared} {K : Frag} {R : Result → Shared → Prop} {name qual : Str} {params : Arguments} {body : List Stmt} {scope : Scope} {dV kV doc pm cdv ct oc : Value} {an od : Option Addr} {osl : Array (Option Value)} {f : Addr} {args : Args} (binds : List (Str × Value))
    (X : K.In s.heap) (hlim : s.heap.NoLimit)
    (ho : K.lookup f = some ⟨oc, od, .func (fnOf name qual params body scope dV kV doc pm an cdv ct), osl⟩) (hcd : codeIn K cdv qual = true) (hroom : A.depth < recursionLimit)
    (hbind : BindsTo s (fnOf name qual params body scope dV kV doc pm an cdv ct) args binds) (hloc : ∀ y ∈ binds, scope.names.lookup y.1 = some .local)
    (h : ∀ L h₁, let c : Ctx := ⟨w, A.deeper (envOf qual scope L f cdv), envOf qual scope L f cdv, s.heap, h₁, fun y => binds.reverse.lookup y, [], s.gens, s.drawn, s.os⟩; c.Ok → Run c body (retQ R) (fun _ _ => False))
    (hco : scope.isCoroutine = false) (hgen : scope.isGenerator = false) (hk : scope.kind = .function)
    (hcell : ∀ x ∈ scope.names, x.2 ≠ .cell) : codeAny (model prg w) A (.call (.ref f) args) R s :=
  enter binds X hlim ho hcd hroom hbind hloc (fun L h₁ F N => (h L h₁ ⟨F, N⟩).go _) hco hgen hk hcell
end
section
variable {w : World} {s : Shared} {p : Program} {loose : List Str} {mean : ExcName → Option Value} {mg mb : Str → Option Value} {R : Result → Shared → Prop}
noncomputable def val64 (c : Int) : Int :=
  if 65 ≤ c ∧ c ≤ 90 then c - 65 else if 97 ≤ c ∧ c ≤ 122 then c - 71 else if 48 ≤ c ∧ c ≤ 57 then c + 4 else if c = 43 then 62 else if c = 47 then 63 else 64

theorem BE.le2 {c : Ctx} {a b d : PySem.Expr} {i j k : Int} {pos : Pos} (P : PE c a (.int i)) (q : PE c b (.int j)) (r : PE c d (.int k)) : BE c (.Compare a [.LtE, .LtE] [b, d] pos) (decide (i ≤ j) && decide (j ≤ k)) := ⟨fun Q E tk K => by
  refine isTrue_chain (P.go _ _ _ fun _ _ => test_link (q.go _ _ _ fun _ k2 => le_int (wpAny_truthy_bool ?_))) (by cases d <;> first | rfl | (simp [lastMarks, behindInMarks]; done))
  by_cases h : i ≤ j
  · rw [if_pos (decide_eq_true h)]
    rw [decide_eq_true h, Bool.true_and] at K
    exact test_last (r.go _ _ _ fun _ k3 => le_int (wpAny_truthy_bool (K _)))
  · rw [if_neg (by rw [decide_eq_false h]; decide)]
    rw [decide_eq_false h, Bool.false_and] at K
    exact K _⟩
theorem val64_1 {c : Int} (h : 65 ≤ c ∧ c ≤ 90) : val64 c = c - 65 := by unfold val64; rw [if_pos h]
theorem val64_2 {c : Int} (h1 : ¬ (65 ≤ c ∧ c ≤ 90)) (h : 97 ≤ c ∧ c ≤ 122) : val64 c = c - 71 := by unfold val64; rw [if_neg h1, if_pos h]
theorem val64_3 {c : Int} (h1 : ¬ (65 ≤ c ∧ c ≤ 90)) (h2 : ¬ (97 ≤ c ∧ c ≤ 122)) (h : 48 ≤ c ∧ c ≤ 57) : val64 c = c + 4 := by unfold val64; rw [if_neg h1, if_neg h2, if_pos h]
theorem val64_4 {c : Int} (h1 : ¬ (65 ≤ c ∧ c ≤ 90)) (h2 : ¬ (97 ≤ c ∧ c ≤ 122)) (h3 : ¬ (48 ≤ c ∧ c ≤ 57)) : val64 c = if c = 43 then 62 else if c = 47 then 63 else 64 := by unfold val64; rw [if_neg h1, if_neg h2, if_neg h3]
theorem and_dec {p q : Prop} [Decidable p] [Decidable q] (h : p ∧ q) : (decide p && decide q) = true := by rw [decide_eq_true h.1, decide_eq_true h.2]; rfl
theorem and_ndec {p q : Prop} [Decidable p] [Decidable q] (h : ¬ (p ∧ q)) : (decide p && decide q) = false := by
  rw [← Bool.decide_and]; exact decide_eq_false h
theorem c_b64_value {x : Int} {t : Tok} (X : (hdK w.params).In s.heap) (T : Top p loose mean mg mb s.heap)
    (hR : ∀ v s', Out1 s (fun t => .int (val64 x) t) v s' → s.heap.StaysIn s'.heap → R (.ok (.ret v)) s') :
    codeAny (model prg w) (AT 900 9000) (.call (.ref 77) ⟨[.int x t], []⟩) R s := by
  refine' enterX [(Str.ofString "c", .int x t)] X T.nolimit ?ho ?hcd (by decide) ?hb ?hl ?_ ?c1 ?c2 ?c3 ?c4
  ((case ho => k_is); (case hcd => k_is); (case hb => first | exact BindsTo.of_eq rfl | exact binds_K (by assumption) rfl (by k_is) rfl rfl rfl); (case hl => exact locs rfl); (case c1 => rfl); (case c2 => rfl); (case c3 => rfl); (case c4 => decide))
  intro L h₁ c S
  by_cases h1 : 65 ≤ x ∧ x ≤ 90
  · refine Run.ifT (BE.le2 PE.int (PE.locI S rfl rfl) PE.int) (and_dec h1) ?_
    exact Run.ret (PE.sub (PE.locI S rfl rfl) PE.int) fun t tk => hR _ _ ⟨_, _, _, congrArg (Value.int · t) (val64_1 h1).symm, rfl⟩ S.f.keep
  refine Run.ifF (BE.le2 PE.int (PE.locI S rfl rfl) PE.int) (and_ndec h1) ?_
  by_cases h2 : 97 ≤ x ∧ x ≤ 122
  · refine Run.ifT (BE.le2 PE.int (PE.locI S rfl rfl) PE.int) (and_dec h2) ?_
    exact Run.ret (PE.sub (PE.locI S rfl rfl) PE.int) fun t tk => hR _ _ ⟨_, _, _, congrArg (Value.int · t) (val64_2 h1 h2).symm, rfl⟩ S.f.keep
  refine Run.ifF (BE.le2 PE.int (PE.locI S rfl rfl) PE.int) (and_ndec h2) ?_
  by_cases h3 : 48 ≤ x ∧ x ≤ 57
  · refine Run.ifT (BE.le2 PE.int (PE.locI S rfl rfl) PE.int) (and_dec h3) ?_
    exact Run.ret (PE.add (PE.locI S rfl rfl) PE.int) fun t tk => hR _ _ ⟨_, _, _, congrArg (Value.int · t) (val64_3 h1 h2 h3).symm, rfl⟩ S.f.keep
  refine Run.ifF (BE.le2 PE.int (PE.locI S rfl rfl) PE.int) (and_ndec h3) ?_
  rw [val64_4 h1 h2 h3] at hR
  by_cases h4 : x = 43
  · rw [if_pos h4] at hR
    refine Run.ifT (BE.eq (PE.locI S rfl rfl) PE.int) (decide_eq_true h4) ?_
    exact Run.ret PE.int fun t tk => hR _ _ ⟨t, _, _, rfl, rfl⟩ S.f.keep
  rw [if_neg h4] at hR
  refine Run.ifF (BE.eq (PE.locI S rfl rfl) PE.int) (decide_eq_false h4) ?_
  by_cases h5 : x = 47
  · rw [if_pos h5] at hR
    refine Run.ifT (BE.eq (PE.locI S rfl rfl) PE.int) (decide_eq_true h5) ?_
    exact Run.ret PE.int fun t tk => hR _ _ ⟨t, _, _, rfl, rfl⟩ S.f.keep
  rw [if_neg h5] at hR
  refine Run.ifF (BE.eq (PE.locI S rfl rfl) PE.int) (decide_eq_false h5) ?_
  exact Run.ret PE.int fun t tk => hR _ _ ⟨t, _, _, rfl, rfl⟩ S.f.keep
end
section
theorem reset7 : True := by
  w_top off
  trivial
variable {w : World} {s : Shared} {p : Program} {loose : List Str} {mean : ExcName → Option Value} {mg mb : Str → Option Value} {R : Result → Shared → Prop}
noncomputable def encL : List UInt8 → List Nat
  | [a, b] => [b64n (a.toNat / 4), b64n (a.toNat % 4 * 16 + b.toNat / 16), b64n (b.toNat % 16 * 4), 61]
  | [a, b, c] => [b64n (a.toNat / 4), b64n (a.toNat % 4 * 16 + b.toNat / 16), b64n (b.toNat % 16 * 4 + c.toNat / 64), b64n (c.toNat % 64)]
  | _ => []
noncomputable def encB (b : Array UInt8) : Array UInt8 := ((encL b.toList).map Nat.toUInt8).toArray
theorem K_buffer {b : Array UInt8} {t : Tok} : Con 900 9000 w 63 [.bytes b t] [] (.bytes b) := ⟨fun s R G k => let ⟨X, _, _, _, _, _, T⟩ := G; c_buffer X T k⟩
theorem K_truth {b : Bool} : Con 900 9000 w 70 [.bool b] [] (fun _ => .bool b) := ⟨fun s R G k => let ⟨X, _, _, _, _, _, T⟩ := G; c_truth X T k⟩
theorem g_buffer : GFn w (Str.ofString "_buffer") 63 := ⟨by k_is, by k_is⟩
theorem g_truth : GFn w (Str.ofString "_truth") 70 := ⟨by k_is, by k_is⟩
theorem g_B64 : ∃ t, nsIn (hdK w.params) mainGlobals (Str.ofString "_B64") = some (some (.bytes b64L.toArray t)) := ⟨_, by k_is⟩
theorem g_bytes : nsIn (hdK w.params) mainGlobals (Str.ofString "bytes") = some none := by k_is
theorem acc1 {a : Nat} (h : a < 256) : (0 * 256 + (a : Int)) % 65536 = (a : Int) := by omega
theorem acc2 {a b : Nat} (h : a < 256) (k : b < 256) : ((0 * 256 + (a : Int)) % 65536 * 256 + (b : Int)) % 65536 = ((a * 256 + b : Nat) : Int) := by rw [acc1 h]; omega
theorem acc3 {a b d : Nat} (h : a < 256) (k : b < 256) (j : d < 256) : (((0 * 256 + (a : Int)) % 65536 * 256 + (b : Int)) % 65536 * 256 + (d : Int)) % 65536 = ((b * 256 + d : Nat) : Int) := by rw [acc2 h k]; omega
theorem sx1 {a : Nat} (h : a < 256) : ((a : Int) / 4 % 64).toNat = a / 4 := Nat.mod_eq_of_lt (by omega : a / 4 < 64)
theorem sx2 {a b : Nat} (k : b < 256) : (((a * 256 + b : Nat) : Int) / 16 % 64).toNat = a % 4 * 16 + b / 16 := (by omega : (a * 256 + b) / 16 % 64 = a % 4 * 16 + b / 16)
theorem sx3 {a b : Nat} : (((a * 256 + b : Nat) : Int) % 16 * 4).toNat = b % 16 * 4 := (by omega : (a * 256 + b) % 16 * 4 = b % 16 * 4)
theorem sx4 {a b : Nat} (k : b < 256) : (((a * 256 + b : Nat) : Int) / 64 % 64).toNat = a % 16 * 4 + b / 64 := (by omega : (a * 256 + b) / 64 % 64 = a % 16 * 4 + b / 64)
theorem sx5 {a b : Nat} : (((a * 256 + b : Nat) : Int) / 1 % 64).toNat = b % 64 := (by omega : (a * 256 + b) / 1 % 64 = b % 64)
theorem c_b2a2 {a b : UInt8} {t : Tok} (X : (hdK w.params).In s.heap) (T : Top p loose mean mg mb s.heap)
    (hR : ∀ v s', Out1 s (fun t => .bytes (encB #[a, b]) t) v s' → s.heap.StaysIn s'.heap → R (.ok (.ret v)) s') :
    codeAny (model prg w) (AT 890 8900) (.call (.ref 93) ⟨[.bytes #[a, b] t], [(Str.ofString "newline", .bool false)]⟩) R s := by
  have ha : a.toNat < 256 := a.toNat_lt
  have hb : b.toNat < 256 := b.toNat_lt
  refine' enterX [(Str.ofString "data", .bytes #[a, b] t), (Str.ofString "newline", .bool false)] X T.nolimit ?ho ?hcd (by decide) ?hb ?hl ?_ ?c1 ?c2 ?c3 ?c4
  ((case ho => k_is); (case hcd => k_is); (case hb => first | exact BindsTo.of_eq rfl | exact binds_K (by assumption) rfl (by k_is) rfl rfl rfl); (case hl => exact locs rfl); (case c1 => rfl); (case c2 => rfl); (case c3 => rfl); (case c4 => decide))
  intro L h₁ c S
  have G : Gl c.w c.h₀ := Gl.mk' X T
  obtain ⟨tb, eb⟩ := g_B64 (w := w)
  ((refine Run.call1 S G rfl rfl g_buffer ⟨rfl, Nat.le_of_ble_eq_true rfl, Nat.le_of_ble_eq_true rfl⟩ (PE.locV S rfl rfl) (fun _ => K_buffer) rfl rfl ?_); intro h' t c S; (refine Run.call1 S G rfl rfl g_truth ⟨rfl, Nat.le_of_ble_eq_true rfl, Nat.le_of_ble_eq_true rfl⟩ (PE.locV S rfl rfl) (fun _ => K_truth) rfl rfl ?_); intro h' t c S; (refine Run.newL S rfl ?_); intro O h' h'' hlt c S; ((with_reducible show Run _ (Stmt.Assign _ _ _ :: _) _ _); refine' Run.assign (by assumption) rfl rfl ?P ?_; (case P => repeat' (first | ((with_reducible show PE _ _ _); first | ((with_reducible show PE _ (Expr.Name _ _) _); first | exact PE.locI (by assumption) rfl rfl | exact PE.locV (by assumption) rfl rfl | exact PE.gloG (by assumption) (by assumption) rfl (by assumption)) | ((with_reducible show PE _ (Expr.BinOp _ _ _ _) _); first | refine' PE.add ?_ ?_ | refine' PE.sub ?_ ?_ | refine' PE.and ?_ ?_ ?_ | refine' PE.or ?_ ?_ ?_ | refine' PE.shl ?_ ?_ ?_ ?_ | refine' PE.shr ?_ ?_ ?_ ?_ ?_) | exact PE.int | ((with_reducible show PE _ (Expr.Subscript _ _ _) _); refine' PE.b64 (PE.gloG (by assumption) (by assumption) rfl (by assumption)) ?_ ?_ (fun _ _ => rfl))) | ((with_reducible show Builtin.bitAnd _ _ = _); first | with_reducible exact bitAnd_m6 _ | with_reducible exact bitAnd_m16 _ | with_reducible exact bitAnd_m2 _ | with_reducible exact bitAnd_m4 _) | ((with_reducible show Builtin.bitOr _ _ = _); exact or_of (by decide) (by omega)) | ((with_reducible show HPow.hPow (2 : Int) _ = _); first | (show _ = (1 : Int); decide) | (show _ = (2 : Int); decide) | (show _ = (4 : Int); decide) | (show _ = (16 : Int); decide) | (show _ = (64 : Int); decide) | (show _ = (256 : Int); decide)) | ((with_reducible first | show _ ∧ _ | show _ ≤ _ | show _ < _); omega))); intro h' t c S); ((with_reducible show Run _ (Stmt.Assign _ _ _ :: _) _ _); refine' Run.assign (by assumption) rfl rfl ?P ?_; (case P => repeat' (first | ((with_reducible show PE _ _ _); first | ((with_reducible show PE _ (Expr.Name _ _) _); first | exact PE.locI (by assumption) rfl rfl | exact PE.locV (by assumption) rfl rfl | exact PE.gloG (by assumption) (by assumption) rfl (by assumption)) | ((with_reducible show PE _ (Expr.BinOp _ _ _ _) _); first | refine' PE.add ?_ ?_ | refine' PE.sub ?_ ?_ | refine' PE.and ?_ ?_ ?_ | refine' PE.or ?_ ?_ ?_ | refine' PE.shl ?_ ?_ ?_ ?_ | refine' PE.shr ?_ ?_ ?_ ?_ ?_) | exact PE.int | ((with_reducible show PE _ (Expr.Subscript _ _ _) _); refine' PE.b64 (PE.gloG (by assumption) (by assumption) rfl (by assumption)) ?_ ?_ (fun _ _ => rfl))) | ((with_reducible show Builtin.bitAnd _ _ = _); first | with_reducible exact bitAnd_m6 _ | with_reducible exact bitAnd_m16 _ | with_reducible exact bitAnd_m2 _ | with_reducible exact bitAnd_m4 _) | ((with_reducible show Builtin.bitOr _ _ = _); exact or_of (by decide) (by omega)) | ((with_reducible show HPow.hPow (2 : Int) _ = _); first | (show _ = (1 : Int); decide) | (show _ = (2 : Int); decide) | (show _ = (4 : Int); decide) | (show _ = (16 : Int); decide) | (show _ = (64 : Int); decide) | (show _ = (256 : Int); decide)) | ((with_reducible first | show _ ∧ _ | show _ ≤ _ | show _ < _); omega))); intro h' t c S); (refine Run.forB S rfl rfl ?_); intro I h' o hlt hoc hod c S; (have hI : @LT.lt Nat _ O I := hlt _ (.head _)))
  repeat' (first | ((with_reducible show Run _ (Stmt.Assign _ _ _ :: _) _ _); refine' Run.assign (by assumption) rfl rfl ?P ?_; (case P => repeat' (first | ((with_reducible show PE _ _ _); first | ((with_reducible show PE _ (Expr.Name _ _) _); first | exact PE.locI (by assumption) rfl rfl | exact PE.locV (by assumption) rfl rfl | exact PE.gloG (by assumption) (by assumption) rfl (by assumption)) | ((with_reducible show PE _ (Expr.BinOp _ _ _ _) _); first | refine' PE.add ?_ ?_ | refine' PE.sub ?_ ?_ | refine' PE.and ?_ ?_ ?_ | refine' PE.or ?_ ?_ ?_ | refine' PE.shl ?_ ?_ ?_ ?_ | refine' PE.shr ?_ ?_ ?_ ?_ ?_) | exact PE.int | ((with_reducible show PE _ (Expr.Subscript _ _ _) _); refine' PE.b64 (PE.gloG (by assumption) (by assumption) rfl (by assumption)) ?_ ?_ (fun _ _ => rfl))) | ((with_reducible show Builtin.bitAnd _ _ = _); first | with_reducible exact bitAnd_m6 _ | with_reducible exact bitAnd_m16 _ | with_reducible exact bitAnd_m2 _ | with_reducible exact bitAnd_m4 _) | ((with_reducible show Builtin.bitOr _ _ = _); exact or_of (by decide) (by omega)) | ((with_reducible show HPow.hPow (2 : Int) _ = _); first | (show _ = (1 : Int); decide) | (show _ = (2 : Int); decide) | (show _ = (4 : Int); decide) | (show _ = (16 : Int); decide) | (show _ = (64 : Int); decide) | (show _ = (256 : Int); decide)) | ((with_reducible first | show _ ∧ _ | show _ ≤ _ | show _ < _); omega))); intro h' t c S) | ((with_reducible show Run _ (Stmt.Expr _ _ :: _) _ _); refine' Run.append (by assumption) rfl rfl ?M ?P ?U ?Z rfl rfl rfl rfl ?_; (case M => k_mem); (case P => repeat' (first | ((with_reducible show PE _ _ _); first | ((with_reducible show PE _ (Expr.Name _ _) _); first | exact PE.locI (by assumption) rfl rfl | exact PE.locV (by assumption) rfl rfl | exact PE.gloG (by assumption) (by assumption) rfl (by assumption)) | ((with_reducible show PE _ (Expr.BinOp _ _ _ _) _); first | refine' PE.add ?_ ?_ | refine' PE.sub ?_ ?_ | refine' PE.and ?_ ?_ ?_ | refine' PE.or ?_ ?_ ?_ | refine' PE.shl ?_ ?_ ?_ ?_ | refine' PE.shr ?_ ?_ ?_ ?_ ?_) | exact PE.int | ((with_reducible show PE _ (Expr.Subscript _ _ _) _); refine' PE.b64 (PE.gloG (by assumption) (by assumption) rfl (by assumption)) ?_ ?_ (fun _ _ => rfl))) | ((with_reducible show Builtin.bitAnd _ _ = _); first | with_reducible exact bitAnd_m6 _ | with_reducible exact bitAnd_m16 _ | with_reducible exact bitAnd_m2 _ | with_reducible exact bitAnd_m4 _) | ((with_reducible show Builtin.bitOr _ _ = _); exact or_of (by decide) (by omega)) | ((with_reducible show HPow.hPow (2 : Int) _ = _); first | (show _ = (1 : Int); decide) | (show _ = (2 : Int); decide) | (show _ = (4 : Int); decide) | (show _ = (16 : Int); decide) | (show _ = (64 : Int); decide) | (show _ = (256 : Int); decide)) | ((with_reducible first | show _ ∧ _ | show _ ≤ _ | show _ < _); omega))); (case U => (intro _; k_upd)); (case Z => exact Nat.le_of_ble_eq_true rfl); intro h' t c S) | ((with_reducible show Run _ (Stmt.While _ _ _ _ :: _) _ _); refine Run.while ?_) | ((with_reducible show Loop _ (Code.whileLoop _ _ _ _) _); refine' Loop.whileT ?B ?H ?_; (case B => repeat' (first | ((with_reducible show PE _ (Expr.Name _ _) _); first | exact PE.locI (by assumption) rfl rfl | exact PE.locV (by assumption) rfl rfl | exact PE.gloG (by assumption) (by assumption) rfl (by assumption)) | ((with_reducible show BE _ (Expr.Name _ _) _); first | exact BE.nameB (PE.locV (by assumption) rfl rfl) | exact BE.nameI (PE.locI (by assumption) rfl rfl)) | ((with_reducible show PE _ _ _); first | exact PE.int | ((with_reducible show PE _ (Expr.BinOp _ _ _ _) _); first | refine' PE.add ?_ ?_ | refine' PE.sub ?_ ?_ | refine' PE.and ?_ ?_ ?_ | refine' PE.or ?_ ?_ ?_ | refine' PE.shl ?_ ?_ ?_ ?_ | refine' PE.shr ?_ ?_ ?_ ?_ ?_)) | ((with_reducible show BE _ _ _); first | refine' BE.ge ?_ ?_ | refine' BE.lt ?_ ?_ | refine' BE.le ?_ ?_ | refine' BE.gt ?_ ?_ | refine' BE.eq ?_ ?_ | refine' BE.ne ?_ ?_ | refine' BE.and ?_ ?_))); (case H => first | rfl | exact decide_eq_true (by omega))) | ((with_reducible show Loop _ (Code.whileLoop _ _ _ _) _); refine' Loop.whileF rfl ?B ?H ?_; (case B => repeat' (first | ((with_reducible show PE _ (Expr.Name _ _) _); first | exact PE.locI (by assumption) rfl rfl | exact PE.locV (by assumption) rfl rfl | exact PE.gloG (by assumption) (by assumption) rfl (by assumption)) | ((with_reducible show BE _ (Expr.Name _ _) _); first | exact BE.nameB (PE.locV (by assumption) rfl rfl) | exact BE.nameI (PE.locI (by assumption) rfl rfl)) | ((with_reducible show PE _ _ _); first | exact PE.int | ((with_reducible show PE _ (Expr.BinOp _ _ _ _) _); first | refine' PE.add ?_ ?_ | refine' PE.sub ?_ ?_ | refine' PE.and ?_ ?_ ?_ | refine' PE.or ?_ ?_ ?_ | refine' PE.shl ?_ ?_ ?_ ?_ | refine' PE.shr ?_ ?_ ?_ ?_ ?_)) | ((with_reducible show BE _ _ _); first | refine' BE.ge ?_ ?_ | refine' BE.lt ?_ ?_ | refine' BE.le ?_ ?_ | refine' BE.gt ?_ ?_ | refine' BE.eq ?_ ?_ | refine' BE.ne ?_ ?_ | refine' BE.and ?_ ?_))); (case H => first | rfl | exact decide_eq_false (by omega))) | ((with_reducible show Run _ [] (Ctx.tQ _ _ _) _); refine Run.turn rfl ?_) | ((with_reducible show Loop _ (Code.forLoop _ _ _ _ _) _); refine' Loop.item rfl (by assumption) ?U (by assumption) (by assumption) rfl rfl ?_; (case U => k_updF); intro h' o' t hoc hod c S) | ((with_reducible show Loop _ (Code.forLoop _ _ _ _ _) _); refine' Loop.done rfl rfl (by assumption) ?M ?D (by assumption) (by assumption) rfl ?_; (case M => k_mem); (case D => (repeat' (first | exact DropI.head (by first | k_all | assumption) | (refine DropI.tail (by k_ne) ?_)))); intro h' c S) | ((with_reducible show Run _ (Stmt.If _ _ _ _ :: _) _ _); refine' Run.ifT ?B ?H ?_; (case B => repeat' (first | ((with_reducible show PE _ (Expr.Name _ _) _); first | exact PE.locI (by assumption) rfl rfl | exact PE.locV (by assumption) rfl rfl | exact PE.gloG (by assumption) (by assumption) rfl (by assumption)) | ((with_reducible show BE _ (Expr.Name _ _) _); first | exact BE.nameB (PE.locV (by assumption) rfl rfl) | exact BE.nameI (PE.locI (by assumption) rfl rfl)) | ((with_reducible show PE _ _ _); first | exact PE.int | ((with_reducible show PE _ (Expr.BinOp _ _ _ _) _); first | refine' PE.add ?_ ?_ | refine' PE.sub ?_ ?_ | refine' PE.and ?_ ?_ ?_ | refine' PE.or ?_ ?_ ?_ | refine' PE.shl ?_ ?_ ?_ ?_ | refine' PE.shr ?_ ?_ ?_ ?_ ?_)) | ((with_reducible show BE _ _ _); first | refine' BE.ge ?_ ?_ | refine' BE.lt ?_ ?_ | refine' BE.le ?_ ?_ | refine' BE.gt ?_ ?_ | refine' BE.eq ?_ ?_ | refine' BE.ne ?_ ?_ | refine' BE.and ?_ ?_))); (case H => first | rfl | exact decide_eq_true (by omega)); (try dsimp only [List.cons_append, List.nil_append])) | ((with_reducible show Run _ (Stmt.If _ _ _ _ :: _) _ _); refine' Run.ifF ?B ?H ?_; (case B => repeat' (first | ((with_reducible show PE _ (Expr.Name _ _) _); first | exact PE.locI (by assumption) rfl rfl | exact PE.locV (by assumption) rfl rfl | exact PE.gloG (by assumption) (by assumption) rfl (by assumption)) | ((with_reducible show BE _ (Expr.Name _ _) _); first | exact BE.nameB (PE.locV (by assumption) rfl rfl) | exact BE.nameI (PE.locI (by assumption) rfl rfl)) | ((with_reducible show PE _ _ _); first | exact PE.int | ((with_reducible show PE _ (Expr.BinOp _ _ _ _) _); first | refine' PE.add ?_ ?_ | refine' PE.sub ?_ ?_ | refine' PE.and ?_ ?_ ?_ | refine' PE.or ?_ ?_ ?_ | refine' PE.shl ?_ ?_ ?_ ?_ | refine' PE.shr ?_ ?_ ?_ ?_ ?_)) | ((with_reducible show BE _ _ _); first | refine' BE.ge ?_ ?_ | refine' BE.lt ?_ ?_ | refine' BE.le ?_ ?_ | refine' BE.gt ?_ ?_ | refine' BE.eq ?_ ?_ | refine' BE.ne ?_ ?_ | refine' BE.and ?_ ?_))); (case H => first | rfl | exact decide_eq_false (by omega)); (try dsimp only [List.cons_append, List.nil_append])))
  refine' Run.retBytes S G rfl rfl g_bytes rfl rfl ?M ?I ?N ?Z ?_
  case M => k_mem
  case I => exact ints4 rfl
  case N => (repeat' (first | exact in256_nil | exact b64_in _ | exact u8_in _ | (refine in256_cons ?_ ?_) | omega | decide))
  case Z => exact Nat.le_of_ble_eq_true rfl
  intro h' t tk st
  refine hR _ _ ⟨_, _, _, congrArg (Value.bytes · _) ?_, rfl⟩ st
  show byteArr _ = byteArr [(b64n (a.toNat / 4) : Int), (b64n (a.toNat % 4 * 16 + b.toNat / 16) : Int), (b64n (b.toNat % 16 * 4) : Int), 61]
  rw [acc2 ha hb, acc1 ha, sx1 ha, sx2 hb, sx3]
theorem c_b2a3 {a b d : UInt8} {t : Tok} (X : (hdK w.params).In s.heap) (T : Top p loose mean mg mb s.heap)
    (hR : ∀ v s', Out1 s (fun t => .bytes (encB #[a, b, d]) t) v s' → s.heap.StaysIn s'.heap → R (.ok (.ret v)) s') :
    codeAny (model prg w) (AT 890 8900) (.call (.ref 93) ⟨[.bytes #[a, b, d] t], [(Str.ofString "newline", .bool false)]⟩) R s := by
  have ha : a.toNat < 256 := a.toNat_lt
  have hb : b.toNat < 256 := b.toNat_lt
  have hd : d.toNat < 256 := d.toNat_lt
  refine' enterX [(Str.ofString "data", .bytes #[a, b, d] t), (Str.ofString "newline", .bool false)] X T.nolimit ?ho ?hcd (by decide) ?hb ?hl ?_ ?c1 ?c2 ?c3 ?c4
  ((case ho => k_is); (case hcd => k_is); (case hb => first | exact BindsTo.of_eq rfl | exact binds_K (by assumption) rfl (by k_is) rfl rfl rfl); (case hl => exact locs rfl); (case c1 => rfl); (case c2 => rfl); (case c3 => rfl); (case c4 => decide))
  intro L h₁ c S
  have G : Gl c.w c.h₀ := Gl.mk' X T
  obtain ⟨tb, eb⟩ := g_B64 (w := w)
  ((refine Run.call1 S G rfl rfl g_buffer ⟨rfl, Nat.le_of_ble_eq_true rfl, Nat.le_of_ble_eq_true rfl⟩ (PE.locV S rfl rfl) (fun _ => K_buffer) rfl rfl ?_); intro h' t c S; (refine Run.call1 S G rfl rfl g_truth ⟨rfl, Nat.le_of_ble_eq_true rfl, Nat.le_of_ble_eq_true rfl⟩ (PE.locV S rfl rfl) (fun _ => K_truth) rfl rfl ?_); intro h' t c S; (refine Run.newL S rfl ?_); intro O h' h'' hlt c S; ((with_reducible show Run _ (Stmt.Assign _ _ _ :: _) _ _); refine' Run.assign (by assumption) rfl rfl ?P ?_; (case P => repeat' (first | ((with_reducible show PE _ _ _); first | ((with_reducible show PE _ (Expr.Name _ _) _); first | exact PE.locI (by assumption) rfl rfl | exact PE.locV (by assumption) rfl rfl | exact PE.gloG (by assumption) (by assumption) rfl (by assumption)) | ((with_reducible show PE _ (Expr.BinOp _ _ _ _) _); first | refine' PE.add ?_ ?_ | refine' PE.sub ?_ ?_ | refine' PE.and ?_ ?_ ?_ | refine' PE.or ?_ ?_ ?_ | refine' PE.shl ?_ ?_ ?_ ?_ | refine' PE.shr ?_ ?_ ?_ ?_ ?_) | exact PE.int | ((with_reducible show PE _ (Expr.Subscript _ _ _) _); refine' PE.b64 (PE.gloG (by assumption) (by assumption) rfl (by assumption)) ?_ ?_ (fun _ _ => rfl))) | ((with_reducible show Builtin.bitAnd _ _ = _); first | with_reducible exact bitAnd_m6 _ | with_reducible exact bitAnd_m16 _ | with_reducible exact bitAnd_m2 _ | with_reducible exact bitAnd_m4 _) | ((with_reducible show Builtin.bitOr _ _ = _); exact or_of (by decide) (by omega)) | ((with_reducible show HPow.hPow (2 : Int) _ = _); first | (show _ = (1 : Int); decide) | (show _ = (2 : Int); decide) | (show _ = (4 : Int); decide) | (show _ = (16 : Int); decide) | (show _ = (64 : Int); decide) | (show _ = (256 : Int); decide)) | ((with_reducible first | show _ ∧ _ | show _ ≤ _ | show _ < _); omega))); intro h' t c S); ((with_reducible show Run _ (Stmt.Assign _ _ _ :: _) _ _); refine' Run.assign (by assumption) rfl rfl ?P ?_; (case P => repeat' (first | ((with_reducible show PE _ _ _); first | ((with_reducible show PE _ (Expr.Name _ _) _); first | exact PE.locI (by assumption) rfl rfl | exact PE.locV (by assumption) rfl rfl | exact PE.gloG (by assumption) (by assumption) rfl (by assumption)) | ((with_reducible show PE _ (Expr.BinOp _ _ _ _) _); first | refine' PE.add ?_ ?_ | refine' PE.sub ?_ ?_ | refine' PE.and ?_ ?_ ?_ | refine' PE.or ?_ ?_ ?_ | refine' PE.shl ?_ ?_ ?_ ?_ | refine' PE.shr ?_ ?_ ?_ ?_ ?_) | exact PE.int | ((with_reducible show PE _ (Expr.Subscript _ _ _) _); refine' PE.b64 (PE.gloG (by assumption) (by assumption) rfl (by assumption)) ?_ ?_ (fun _ _ => rfl))) | ((with_reducible show Builtin.bitAnd _ _ = _); first | with_reducible exact bitAnd_m6 _ | with_reducible exact bitAnd_m16 _ | with_reducible exact bitAnd_m2 _ | with_reducible exact bitAnd_m4 _) | ((with_reducible show Builtin.bitOr _ _ = _); exact or_of (by decide) (by omega)) | ((with_reducible show HPow.hPow (2 : Int) _ = _); first | (show _ = (1 : Int); decide) | (show _ = (2 : Int); decide) | (show _ = (4 : Int); decide) | (show _ = (16 : Int); decide) | (show _ = (64 : Int); decide) | (show _ = (256 : Int); decide)) | ((with_reducible first | show _ ∧ _ | show _ ≤ _ | show _ < _); omega))); intro h' t c S); (refine Run.forB S rfl rfl ?_); intro I h' o hlt hoc hod c S; (have hI : @LT.lt Nat _ O I := hlt _ (.head _)))
  repeat' (first | ((with_reducible show Run _ (Stmt.Assign _ _ _ :: _) _ _); refine' Run.assign (by assumption) rfl rfl ?P ?_; (case P => repeat' (first | ((with_reducible show PE _ _ _); first | ((with_reducible show PE _ (Expr.Name _ _) _); first | exact PE.locI (by assumption) rfl rfl | exact PE.locV (by assumption) rfl rfl | exact PE.gloG (by assumption) (by assumption) rfl (by assumption)) | ((with_reducible show PE _ (Expr.BinOp _ _ _ _) _); first | refine' PE.add ?_ ?_ | refine' PE.sub ?_ ?_ | refine' PE.and ?_ ?_ ?_ | refine' PE.or ?_ ?_ ?_ | refine' PE.shl ?_ ?_ ?_ ?_ | refine' PE.shr ?_ ?_ ?_ ?_ ?_) | exact PE.int | ((with_reducible show PE _ (Expr.Subscript _ _ _) _); refine' PE.b64 (PE.gloG (by assumption) (by assumption) rfl (by assumption)) ?_ ?_ (fun _ _ => rfl))) | ((with_reducible show Builtin.bitAnd _ _ = _); first | with_reducible exact bitAnd_m6 _ | with_reducible exact bitAnd_m16 _ | with_reducible exact bitAnd_m2 _ | with_reducible exact bitAnd_m4 _) | ((with_reducible show Builtin.bitOr _ _ = _); exact or_of (by decide) (by omega)) | ((with_reducible show HPow.hPow (2 : Int) _ = _); first | (show _ = (1 : Int); decide) | (show _ = (2 : Int); decide) | (show _ = (4 : Int); decide) | (show _ = (16 : Int); decide) | (show _ = (64 : Int); decide) | (show _ = (256 : Int); decide)) | ((with_reducible first | show _ ∧ _ | show _ ≤ _ | show _ < _); omega))); intro h' t c S) | ((with_reducible show Run _ (Stmt.Expr _ _ :: _) _ _); refine' Run.append (by assumption) rfl rfl ?M ?P ?U ?Z rfl rfl rfl rfl ?_; (case M => k_mem); (case P => repeat' (first | ((with_reducible show PE _ _ _); first | ((with_reducible show PE _ (Expr.Name _ _) _); first | exact PE.locI (by assumption) rfl rfl | exact PE.locV (by assumption) rfl rfl | exact PE.gloG (by assumption) (by assumption) rfl (by assumption)) | ((with_reducible show PE _ (Expr.BinOp _ _ _ _) _); first | refine' PE.add ?_ ?_ | refine' PE.sub ?_ ?_ | refine' PE.and ?_ ?_ ?_ | refine' PE.or ?_ ?_ ?_ | refine' PE.shl ?_ ?_ ?_ ?_ | refine' PE.shr ?_ ?_ ?_ ?_ ?_) | exact PE.int | ((with_reducible show PE _ (Expr.Subscript _ _ _) _); refine' PE.b64 (PE.gloG (by assumption) (by assumption) rfl (by assumption)) ?_ ?_ (fun _ _ => rfl))) | ((with_reducible show Builtin.bitAnd _ _ = _); first | with_reducible exact bitAnd_m6 _ | with_reducible exact bitAnd_m16 _ | with_reducible exact bitAnd_m2 _ | with_reducible exact bitAnd_m4 _) | ((with_reducible show Builtin.bitOr _ _ = _); exact or_of (by decide) (by omega)) | ((with_reducible show HPow.hPow (2 : Int) _ = _); first | (show _ = (1 : Int); decide) | (show _ = (2 : Int); decide) | (show _ = (4 : Int); decide) | (show _ = (16 : Int); decide) | (show _ = (64 : Int); decide) | (show _ = (256 : Int); decide)) | ((with_reducible first | show _ ∧ _ | show _ ≤ _ | show _ < _); omega))); (case U => (intro _; k_upd)); (case Z => exact Nat.le_of_ble_eq_true rfl); intro h' t c S) | ((with_reducible show Run _ (Stmt.While _ _ _ _ :: _) _ _); refine Run.while ?_) | ((with_reducible show Loop _ (Code.whileLoop _ _ _ _) _); refine' Loop.whileT ?B ?H ?_; (case B => repeat' (first | ((with_reducible show PE _ (Expr.Name _ _) _); first | exact PE.locI (by assumption) rfl rfl | exact PE.locV (by assumption) rfl rfl | exact PE.gloG (by assumption) (by assumption) rfl (by assumption)) | ((with_reducible show BE _ (Expr.Name _ _) _); first | exact BE.nameB (PE.locV (by assumption) rfl rfl) | exact BE.nameI (PE.locI (by assumption) rfl rfl)) | ((with_reducible show PE _ _ _); first | exact PE.int | ((with_reducible show PE _ (Expr.BinOp _ _ _ _) _); first | refine' PE.add ?_ ?_ | refine' PE.sub ?_ ?_ | refine' PE.and ?_ ?_ ?_ | refine' PE.or ?_ ?_ ?_ | refine' PE.shl ?_ ?_ ?_ ?_ | refine' PE.shr ?_ ?_ ?_ ?_ ?_)) | ((with_reducible show BE _ _ _); first | refine' BE.ge ?_ ?_ | refine' BE.lt ?_ ?_ | refine' BE.le ?_ ?_ | refine' BE.gt ?_ ?_ | refine' BE.eq ?_ ?_ | refine' BE.ne ?_ ?_ | refine' BE.and ?_ ?_))); (case H => first | rfl | exact decide_eq_true (by omega))) | ((with_reducible show Loop _ (Code.whileLoop _ _ _ _) _); refine' Loop.whileF rfl ?B ?H ?_; (case B => repeat' (first | ((with_reducible show PE _ (Expr.Name _ _) _); first | exact PE.locI (by assumption) rfl rfl | exact PE.locV (by assumption) rfl rfl | exact PE.gloG (by assumption) (by assumption) rfl (by assumption)) | ((with_reducible show BE _ (Expr.Name _ _) _); first | exact BE.nameB (PE.locV (by assumption) rfl rfl) | exact BE.nameI (PE.locI (by assumption) rfl rfl)) | ((with_reducible show PE _ _ _); first | exact PE.int | ((with_reducible show PE _ (Expr.BinOp _ _ _ _) _); first | refine' PE.add ?_ ?_ | refine' PE.sub ?_ ?_ | refine' PE.and ?_ ?_ ?_ | refine' PE.or ?_ ?_ ?_ | refine' PE.shl ?_ ?_ ?_ ?_ | refine' PE.shr ?_ ?_ ?_ ?_ ?_)) | ((with_reducible show BE _ _ _); first | refine' BE.ge ?_ ?_ | refine' BE.lt ?_ ?_ | refine' BE.le ?_ ?_ | refine' BE.gt ?_ ?_ | refine' BE.eq ?_ ?_ | refine' BE.ne ?_ ?_ | refine' BE.and ?_ ?_))); (case H => first | rfl | exact decide_eq_false (by omega))) | ((with_reducible show Run _ [] (Ctx.tQ _ _ _) _); refine Run.turn rfl ?_) | ((with_reducible show Loop _ (Code.forLoop _ _ _ _ _) _); refine' Loop.item rfl (by assumption) ?U (by assumption) (by assumption) rfl rfl ?_; (case U => k_updF); intro h' o' t hoc hod c S) | ((with_reducible show Loop _ (Code.forLoop _ _ _ _ _) _); refine' Loop.done rfl rfl (by assumption) ?M ?D (by assumption) (by assumption) rfl ?_; (case M => k_mem); (case D => (repeat' (first | exact DropI.head (by first | k_all | assumption) | (refine DropI.tail (by k_ne) ?_)))); intro h' c S) | ((with_reducible show Run _ (Stmt.If _ _ _ _ :: _) _ _); refine' Run.ifT ?B ?H ?_; (case B => repeat' (first | ((with_reducible show PE _ (Expr.Name _ _) _); first | exact PE.locI (by assumption) rfl rfl | exact PE.locV (by assumption) rfl rfl | exact PE.gloG (by assumption) (by assumption) rfl (by assumption)) | ((with_reducible show BE _ (Expr.Name _ _) _); first | exact BE.nameB (PE.locV (by assumption) rfl rfl) | exact BE.nameI (PE.locI (by assumption) rfl rfl)) | ((with_reducible show PE _ _ _); first | exact PE.int | ((with_reducible show PE _ (Expr.BinOp _ _ _ _) _); first | refine' PE.add ?_ ?_ | refine' PE.sub ?_ ?_ | refine' PE.and ?_ ?_ ?_ | refine' PE.or ?_ ?_ ?_ | refine' PE.shl ?_ ?_ ?_ ?_ | refine' PE.shr ?_ ?_ ?_ ?_ ?_)) | ((with_reducible show BE _ _ _); first | refine' BE.ge ?_ ?_ | refine' BE.lt ?_ ?_ | refine' BE.le ?_ ?_ | refine' BE.gt ?_ ?_ | refine' BE.eq ?_ ?_ | refine' BE.ne ?_ ?_ | refine' BE.and ?_ ?_))); (case H => first | rfl | exact decide_eq_true (by omega)); (try dsimp only [List.cons_append, List.nil_append])) | ((with_reducible show Run _ (Stmt.If _ _ _ _ :: _) _ _); refine' Run.ifF ?B ?H ?_; (case B => repeat' (first | ((with_reducible show PE _ (Expr.Name _ _) _); first | exact PE.locI (by assumption) rfl rfl | exact PE.locV (by assumption) rfl rfl | exact PE.gloG (by assumption) (by assumption) rfl (by assumption)) | ((with_reducible show BE _ (Expr.Name _ _) _); first | exact BE.nameB (PE.locV (by assumption) rfl rfl) | exact BE.nameI (PE.locI (by assumption) rfl rfl)) | ((with_reducible show PE _ _ _); first | exact PE.int | ((with_reducible show PE _ (Expr.BinOp _ _ _ _) _); first | refine' PE.add ?_ ?_ | refine' PE.sub ?_ ?_ | refine' PE.and ?_ ?_ ?_ | refine' PE.or ?_ ?_ ?_ | refine' PE.shl ?_ ?_ ?_ ?_ | refine' PE.shr ?_ ?_ ?_ ?_ ?_)) | ((with_reducible show BE _ _ _); first | refine' BE.ge ?_ ?_ | refine' BE.lt ?_ ?_ | refine' BE.le ?_ ?_ | refine' BE.gt ?_ ?_ | refine' BE.eq ?_ ?_ | refine' BE.ne ?_ ?_ | refine' BE.and ?_ ?_))); (case H => first | rfl | exact decide_eq_false (by omega)); (try dsimp only [List.cons_append, List.nil_append])))
  refine' Run.retBytes S G rfl rfl g_bytes rfl rfl ?M ?I ?N ?Z ?_
  case M => k_mem
  case I => exact ints4 rfl
  case N => (repeat' (first | exact in256_nil | exact b64_in _ | exact u8_in _ | (refine in256_cons ?_ ?_) | omega | decide))
  case Z => exact Nat.le_of_ble_eq_true rfl
  intro h' t tk st
  refine hR _ _ ⟨_, _, _, congrArg (Value.bytes · _) ?_, rfl⟩ st
  show byteArr _ = byteArr [(b64n (a.toNat / 4) : Int), (b64n (a.toNat % 4 * 16 + b.toNat / 16) : Int), (b64n (b.toNat % 16 * 4 + d.toNat / 64) : Int), (b64n (d.toNat % 64) : Int)]
  rw [acc3 ha hb hd, acc2 ha hb, acc1 ha, sx1 ha, sx2 hb, sx4 hd, sx5]
end
section
theorem reset8 : True := by
  w_top off
  trivial
variable {w : World} {s : Shared} {p : Program} {loose : List Str} {mean : ExcName → Option Value} {mg mb : Str → Option Value} {R : Result → Shared → Prop}
theorem K_abuffer {b : Array UInt8} {t : Tok} : Con 900 9000 w 56 [.bytes b t] [] (.bytes b) := ⟨fun s R G k => let ⟨X, _, _, _, _, _, T⟩ := G; c_ascii_buffer X T k⟩
theorem K_b64v {c : Int} {t : Tok} : Con 900 9000 w 77 [.int c t] [] (.int (val64 c)) := ⟨fun s R G k => let ⟨X, _, _, _, _, _, T⟩ := G; c_b64_value X T k⟩
theorem g_abuffer : GFn w (Str.ofString "_ascii_buffer") 56 := ⟨by k_is, by k_is⟩
theorem g_b64v : GFn w (Str.ofString "_b64_value") 77 := ⟨by k_is, by k_is⟩
theorem c_a2b2 {a b e d : UInt8} {t : Tok} (ha : a.toNat ≠ 61) (hb : b.toNat ≠ 61) (hc : e.toNat ≠ 61) (hd1 : d.toNat = 61)
    (va : 0 ≤ val64 a.toNat ∧ val64 a.toNat < 64) (vb : 0 ≤ val64 b.toNat ∧ val64 b.toNat < 64) (vc : 0 ≤ val64 e.toNat ∧ val64 e.toNat < 64)
    (X : (hdK w.params).In s.heap) (T : Top p loose mean mg mb s.heap)
    (hR : ∀ v s', Out1 s (fun t => .bytes (byteArr [val64 a.toNat * 4 + val64 b.toNat / 16, val64 b.toNat % 16 * 16 + val64 e.toNat / 4]) t) v s' → s.heap.StaysIn s'.heap → R (.ok (.ret v)) s') :
    codeAny (model prg w) (AT 890 8900) (.call (.ref 85) ⟨[.bytes #[a, b, e, d] t], [(Str.ofString "strict_mode", .bool false)]⟩) R s := by
  refine' enterX [(Str.ofString "data", .bytes #[a, b, e, d] t), (Str.ofString "strict_mode", .bool false)] X T.nolimit ?ho ?hcd (by decide) ?hb ?hl ?_ ?c1 ?c2 ?c3 ?c4
  ((case ho => k_is); (case hcd => k_is); (case hb => first | exact BindsTo.of_eq rfl | exact binds_K (by assumption) rfl (by k_is) rfl rfl rfl); (case hl => exact locs rfl); (case c1 => rfl); (case c2 => rfl); (case c3 => rfl); (case c4 => decide))
  intro L h₁ c S
  have G : Gl c.w c.h₀ := Gl.mk' X T
  (refine Run.call1 S G rfl rfl g_abuffer ⟨rfl, Nat.le_of_ble_eq_true rfl, Nat.le_of_ble_eq_true rfl⟩ (PE.locV S rfl rfl) (fun _ => K_abuffer) rfl rfl ?_)
  intro h' t c S
  (refine Run.call1 S G rfl rfl g_truth ⟨rfl, Nat.le_of_ble_eq_true rfl, Nat.le_of_ble_eq_true rfl⟩ (PE.locV S rfl rfl) (fun _ => K_truth) rfl rfl ?_)
  intro h' t c S
  refine Run.newL S rfl ?_
  intro O h' h'' hlt c S
  iterate 4 ((with_reducible show Run _ (Stmt.Assign _ _ _ :: _) _ _); refine' Run.assign (by assumption) rfl rfl ?P ?_; (case P => repeat' (first | ((with_reducible show PE _ _ _); first | ((with_reducible show PE _ (Expr.Name _ _) _); first | exact PE.locI (by assumption) rfl rfl | exact PE.locV (by assumption) rfl rfl | exact PE.gloG (by assumption) (by assumption) rfl (by assumption)) | ((with_reducible show PE _ (Expr.BinOp _ _ _ _) _); first | refine' PE.add ?_ ?_ | refine' PE.sub ?_ ?_ | refine' PE.and ?_ ?_ ?_ | refine' PE.or ?_ ?_ ?_ | refine' PE.shl ?_ ?_ ?_ ?_ | refine' PE.shr ?_ ?_ ?_ ?_ ?_) | exact PE.int | ((with_reducible show PE _ (Expr.Subscript _ _ _) _); refine' PE.b64 (PE.gloG (by assumption) (by assumption) rfl (by assumption)) ?_ ?_ (fun _ _ => rfl))) | ((with_reducible show Builtin.bitAnd _ _ = _); first | with_reducible exact bitAnd_m6 _ | with_reducible exact bitAnd_m16 _ | with_reducible exact bitAnd_m2 _ | with_reducible exact bitAnd_m4 _) | ((with_reducible show Builtin.bitOr _ _ = _); exact or_of (by decide) (by omega)) | ((with_reducible show HPow.hPow (2 : Int) _ = _); first | (show _ = (1 : Int); decide) | (show _ = (2 : Int); decide) | (show _ = (4 : Int); decide) | (show _ = (16 : Int); decide) | (show _ = (64 : Int); decide) | (show _ = (256 : Int); decide)) | ((with_reducible first | show _ ∧ _ | show _ ≤ _ | show _ < _); omega))); intro h' t c S)
  refine Run.forB S rfl rfl ?_
  intro I h' o hlt hoc hod c S
  have hI : @LT.lt Nat _ O I := hlt _ (.head _)
  repeat' (first | ((with_reducible show Run _ (Stmt.Assign _ (Expr.Call (Expr.Name (Str.ofString "_b64_value") _) _ _ _) _ :: _) _ _); (refine Run.call1 (by assumption) G rfl rfl g_b64v ⟨rfl, Nat.le_of_ble_eq_true rfl, Nat.le_of_ble_eq_true rfl⟩ (PE.locI (by assumption) rfl rfl) (fun _ => K_b64v) rfl rfl ?_); intro h' t c S) | ((with_reducible show Run _ (Stmt.Assign _ _ _ :: _) _ _); refine' Run.assign (by assumption) rfl rfl ?P ?_; (case P => repeat' (first | ((with_reducible show PE _ _ _); first | ((with_reducible show PE _ (Expr.Name _ _) _); first | exact PE.locI (by assumption) rfl rfl | exact PE.locV (by assumption) rfl rfl | exact PE.gloG (by assumption) (by assumption) rfl (by assumption)) | ((with_reducible show PE _ (Expr.BinOp _ _ _ _) _); first | refine' PE.add ?_ ?_ | refine' PE.sub ?_ ?_ | refine' PE.and ?_ ?_ ?_ | refine' PE.or ?_ ?_ ?_ | refine' PE.shl ?_ ?_ ?_ ?_ | refine' PE.shr ?_ ?_ ?_ ?_ ?_) | exact PE.int | ((with_reducible show PE _ (Expr.Subscript _ _ _) _); refine' PE.b64 (PE.gloG (by assumption) (by assumption) rfl (by assumption)) ?_ ?_ (fun _ _ => rfl))) | ((with_reducible show Builtin.bitAnd _ _ = _); first | with_reducible exact bitAnd_m6 _ | with_reducible exact bitAnd_m16 _ | with_reducible exact bitAnd_m2 _ | with_reducible exact bitAnd_m4 _) | ((with_reducible show Builtin.bitOr _ _ = _); exact or_of (by decide) (by omega)) | ((with_reducible show HPow.hPow (2 : Int) _ = _); first | (show _ = (1 : Int); decide) | (show _ = (2 : Int); decide) | (show _ = (4 : Int); decide) | (show _ = (16 : Int); decide) | (show _ = (64 : Int); decide) | (show _ = (256 : Int); decide)) | ((with_reducible first | show _ ∧ _ | show _ ≤ _ | show _ < _); omega))); intro h' t c S) | ((with_reducible show Run _ (Stmt.Expr _ _ :: _) _ _); refine' Run.append (by assumption) rfl rfl ?M ?P ?U ?Z rfl rfl rfl rfl ?_; (case M => k_mem); (case P => repeat' (first | ((with_reducible show PE _ _ _); first | ((with_reducible show PE _ (Expr.Name _ _) _); first | exact PE.locI (by assumption) rfl rfl | exact PE.locV (by assumption) rfl rfl | exact PE.gloG (by assumption) (by assumption) rfl (by assumption)) | ((with_reducible show PE _ (Expr.BinOp _ _ _ _) _); first | refine' PE.add ?_ ?_ | refine' PE.sub ?_ ?_ | refine' PE.and ?_ ?_ ?_ | refine' PE.or ?_ ?_ ?_ | refine' PE.shl ?_ ?_ ?_ ?_ | refine' PE.shr ?_ ?_ ?_ ?_ ?_) | exact PE.int | ((with_reducible show PE _ (Expr.Subscript _ _ _) _); refine' PE.b64 (PE.gloG (by assumption) (by assumption) rfl (by assumption)) ?_ ?_ (fun _ _ => rfl))) | ((with_reducible show Builtin.bitAnd _ _ = _); first | with_reducible exact bitAnd_m6 _ | with_reducible exact bitAnd_m16 _ | with_reducible exact bitAnd_m2 _ | with_reducible exact bitAnd_m4 _) | ((with_reducible show Builtin.bitOr _ _ = _); exact or_of (by decide) (by omega)) | ((with_reducible show HPow.hPow (2 : Int) _ = _); first | (show _ = (1 : Int); decide) | (show _ = (2 : Int); decide) | (show _ = (4 : Int); decide) | (show _ = (16 : Int); decide) | (show _ = (64 : Int); decide) | (show _ = (256 : Int); decide)) | ((with_reducible first | show _ ∧ _ | show _ ≤ _ | show _ < _); omega))); (case U => (intro _; k_upd)); (case Z => exact Nat.le_of_ble_eq_true rfl); intro h' t c S) | ((with_reducible show Run _ [] (Ctx.tQ _ _ _) _); refine Run.turn rfl ?_) | ((with_reducible show Run _ (Stmt.Continue _ :: _) (Ctx.tQ _ _ _) _); refine Run.contT rfl ?_) | ((with_reducible show Loop _ (Code.forLoop _ _ _ _ _) _); refine' Loop.item rfl (by assumption) ?U (by assumption) (by assumption) rfl rfl ?_; (case U => k_updF); intro h' o' t hoc hod c S) | ((with_reducible show Loop _ (Code.forLoop _ _ _ _ _) _); refine' Loop.done rfl rfl (by assumption) ?M ?D (by assumption) (by assumption) rfl ?_; (case M => k_mem); (case D => (repeat' (first | exact DropI.head (by first | k_all | assumption) | (refine DropI.tail (by k_ne) ?_)))); intro h' c S) | ((with_reducible show Run _ (Stmt.If _ _ _ _ :: _) _ _); refine' Run.ifT ?B ?H ?_; (case B => repeat' (first | ((with_reducible show PE _ (Expr.Name _ _) _); first | exact PE.locI (by assumption) rfl rfl | exact PE.locV (by assumption) rfl rfl | exact PE.gloG (by assumption) (by assumption) rfl (by assumption)) | ((with_reducible show BE _ (Expr.Name _ _) _); first | exact BE.nameB (PE.locV (by assumption) rfl rfl) | exact BE.nameI (PE.locI (by assumption) rfl rfl)) | ((with_reducible show PE _ _ _); first | exact PE.int | ((with_reducible show PE _ (Expr.BinOp _ _ _ _) _); first | refine' PE.add ?_ ?_ | refine' PE.sub ?_ ?_ | refine' PE.and ?_ ?_ ?_ | refine' PE.or ?_ ?_ ?_ | refine' PE.shl ?_ ?_ ?_ ?_ | refine' PE.shr ?_ ?_ ?_ ?_ ?_)) | ((with_reducible show BE _ _ _); first | refine' BE.ge ?_ ?_ | refine' BE.lt ?_ ?_ | refine' BE.le ?_ ?_ | refine' BE.gt ?_ ?_ | refine' BE.eq ?_ ?_ | refine' BE.ne ?_ ?_ | refine' BE.and ?_ ?_))); (case H => first | rfl | exact decide_eq_true (by omega)); (try dsimp only [List.cons_append, List.nil_append])) | ((with_reducible show Run _ (Stmt.If _ _ _ _ :: _) _ _); refine' Run.ifF ?B ?H ?_; (case B => repeat' (first | ((with_reducible show PE _ (Expr.Name _ _) _); first | exact PE.locI (by assumption) rfl rfl | exact PE.locV (by assumption) rfl rfl | exact PE.gloG (by assumption) (by assumption) rfl (by assumption)) | ((with_reducible show BE _ (Expr.Name _ _) _); first | exact BE.nameB (PE.locV (by assumption) rfl rfl) | exact BE.nameI (PE.locI (by assumption) rfl rfl)) | ((with_reducible show PE _ _ _); first | exact PE.int | ((with_reducible show PE _ (Expr.BinOp _ _ _ _) _); first | refine' PE.add ?_ ?_ | refine' PE.sub ?_ ?_ | refine' PE.and ?_ ?_ ?_ | refine' PE.or ?_ ?_ ?_ | refine' PE.shl ?_ ?_ ?_ ?_ | refine' PE.shr ?_ ?_ ?_ ?_ ?_)) | ((with_reducible show BE _ _ _); first | refine' BE.ge ?_ ?_ | refine' BE.lt ?_ ?_ | refine' BE.le ?_ ?_ | refine' BE.gt ?_ ?_ | refine' BE.eq ?_ ?_ | refine' BE.ne ?_ ?_ | refine' BE.and ?_ ?_))); (case H => first | rfl | exact decide_eq_false (by omega)); (try dsimp only [List.cons_append, List.nil_append])))
  refine' Run.retBytes S G rfl rfl g_bytes rfl rfl ?M ?I ?N ?Z ?_
  case M => k_mem
  case I => exact ints2 rfl
  case N => (repeat' (first | exact in256_nil | exact b64_in _ | exact u8_in _ | (refine in256_cons ?_ ?_) | omega | decide))
  case Z => exact Nat.le_of_ble_eq_true rfl
  intro h' t tk st
  exact hR _ _ ⟨_, _, _, rfl, rfl⟩ st
theorem c_a2b3 {a b e d : UInt8} {t : Tok} (ha : a.toNat ≠ 61) (hb : b.toNat ≠ 61) (hc : e.toNat ≠ 61) (hd1 : d.toNat ≠ 61)
    (va : 0 ≤ val64 a.toNat ∧ val64 a.toNat < 64) (vb : 0 ≤ val64 b.toNat ∧ val64 b.toNat < 64) (vc : 0 ≤ val64 e.toNat ∧ val64 e.toNat < 64) (vd : 0 ≤ val64 d.toNat ∧ val64 d.toNat < 64)
    (X : (hdK w.params).In s.heap) (T : Top p loose mean mg mb s.heap)
    (hR : ∀ v s', Out1 s (fun t => .bytes (byteArr [val64 a.toNat * 4 + val64 b.toNat / 16, val64 b.toNat % 16 * 16 + val64 e.toNat / 4, val64 e.toNat % 4 * 64 + val64 d.toNat]) t) v s' → s.heap.StaysIn s'.heap → R (.ok (.ret v)) s') :
    codeAny (model prg w) (AT 890 8900) (.call (.ref 85) ⟨[.bytes #[a, b, e, d] t], [(Str.ofString "strict_mode", .bool false)]⟩) R s := by
  refine' enterX [(Str.ofString "data", .bytes #[a, b, e, d] t), (Str.ofString "strict_mode", .bool false)] X T.nolimit ?ho ?hcd (by decide) ?hb ?hl ?_ ?c1 ?c2 ?c3 ?c4
  ((case ho => k_is); (case hcd => k_is); (case hb => first | exact BindsTo.of_eq rfl | exact binds_K (by assumption) rfl (by k_is) rfl rfl rfl); (case hl => exact locs rfl); (case c1 => rfl); (case c2 => rfl); (case c3 => rfl); (case c4 => decide))
  intro L h₁ c S
  have G : Gl c.w c.h₀ := Gl.mk' X T
  (refine Run.call1 S G rfl rfl g_abuffer ⟨rfl, Nat.le_of_ble_eq_true rfl, Nat.le_of_ble_eq_true rfl⟩ (PE.locV S rfl rfl) (fun _ => K_abuffer) rfl rfl ?_)
  intro h' t c S
  (refine Run.call1 S G rfl rfl g_truth ⟨rfl, Nat.le_of_ble_eq_true rfl, Nat.le_of_ble_eq_true rfl⟩ (PE.locV S rfl rfl) (fun _ => K_truth) rfl rfl ?_)
  intro h' t c S
  refine Run.newL S rfl ?_
  intro O h' h'' hlt c S
  iterate 4 ((with_reducible show Run _ (Stmt.Assign _ _ _ :: _) _ _); refine' Run.assign (by assumption) rfl rfl ?P ?_; (case P => repeat' (first | ((with_reducible show PE _ _ _); first | ((with_reducible show PE _ (Expr.Name _ _) _); first | exact PE.locI (by assumption) rfl rfl | exact PE.locV (by assumption) rfl rfl | exact PE.gloG (by assumption) (by assumption) rfl (by assumption)) | ((with_reducible show PE _ (Expr.BinOp _ _ _ _) _); first | refine' PE.add ?_ ?_ | refine' PE.sub ?_ ?_ | refine' PE.and ?_ ?_ ?_ | refine' PE.or ?_ ?_ ?_ | refine' PE.shl ?_ ?_ ?_ ?_ | refine' PE.shr ?_ ?_ ?_ ?_ ?_) | exact PE.int | ((with_reducible show PE _ (Expr.Subscript _ _ _) _); refine' PE.b64 (PE.gloG (by assumption) (by assumption) rfl (by assumption)) ?_ ?_ (fun _ _ => rfl))) | ((with_reducible show Builtin.bitAnd _ _ = _); first | with_reducible exact bitAnd_m6 _ | with_reducible exact bitAnd_m16 _ | with_reducible exact bitAnd_m2 _ | with_reducible exact bitAnd_m4 _) | ((with_reducible show Builtin.bitOr _ _ = _); exact or_of (by decide) (by omega)) | ((with_reducible show HPow.hPow (2 : Int) _ = _); first | (show _ = (1 : Int); decide) | (show _ = (2 : Int); decide) | (show _ = (4 : Int); decide) | (show _ = (16 : Int); decide) | (show _ = (64 : Int); decide) | (show _ = (256 : Int); decide)) | ((with_reducible first | show _ ∧ _ | show _ ≤ _ | show _ < _); omega))); intro h' t c S)
  refine Run.forB S rfl rfl ?_
  intro I h' o hlt hoc hod c S
  have hI : @LT.lt Nat _ O I := hlt _ (.head _)
  repeat' (first | ((with_reducible show Run _ (Stmt.Assign _ (Expr.Call (Expr.Name (Str.ofString "_b64_value") _) _ _ _) _ :: _) _ _); (refine Run.call1 (by assumption) G rfl rfl g_b64v ⟨rfl, Nat.le_of_ble_eq_true rfl, Nat.le_of_ble_eq_true rfl⟩ (PE.locI (by assumption) rfl rfl) (fun _ => K_b64v) rfl rfl ?_); intro h' t c S) | ((with_reducible show Run _ (Stmt.Assign _ _ _ :: _) _ _); refine' Run.assign (by assumption) rfl rfl ?P ?_; (case P => repeat' (first | ((with_reducible show PE _ _ _); first | ((with_reducible show PE _ (Expr.Name _ _) _); first | exact PE.locI (by assumption) rfl rfl | exact PE.locV (by assumption) rfl rfl | exact PE.gloG (by assumption) (by assumption) rfl (by assumption)) | ((with_reducible show PE _ (Expr.BinOp _ _ _ _) _); first | refine' PE.add ?_ ?_ | refine' PE.sub ?_ ?_ | refine' PE.and ?_ ?_ ?_ | refine' PE.or ?_ ?_ ?_ | refine' PE.shl ?_ ?_ ?_ ?_ | refine' PE.shr ?_ ?_ ?_ ?_ ?_) | exact PE.int | ((with_reducible show PE _ (Expr.Subscript _ _ _) _); refine' PE.b64 (PE.gloG (by assumption) (by assumption) rfl (by assumption)) ?_ ?_ (fun _ _ => rfl))) | ((with_reducible show Builtin.bitAnd _ _ = _); first | with_reducible exact bitAnd_m6 _ | with_reducible exact bitAnd_m16 _ | with_reducible exact bitAnd_m2 _ | with_reducible exact bitAnd_m4 _) | ((with_reducible show Builtin.bitOr _ _ = _); exact or_of (by decide) (by omega)) | ((with_reducible show HPow.hPow (2 : Int) _ = _); first | (show _ = (1 : Int); decide) | (show _ = (2 : Int); decide) | (show _ = (4 : Int); decide) | (show _ = (16 : Int); decide) | (show _ = (64 : Int); decide) | (show _ = (256 : Int); decide)) | ((with_reducible first | show _ ∧ _ | show _ ≤ _ | show _ < _); omega))); intro h' t c S) | ((with_reducible show Run _ (Stmt.Expr _ _ :: _) _ _); refine' Run.append (by assumption) rfl rfl ?M ?P ?U ?Z rfl rfl rfl rfl ?_; (case M => k_mem); (case P => repeat' (first | ((with_reducible show PE _ _ _); first | ((with_reducible show PE _ (Expr.Name _ _) _); first | exact PE.locI (by assumption) rfl rfl | exact PE.locV (by assumption) rfl rfl | exact PE.gloG (by assumption) (by assumption) rfl (by assumption)) | ((with_reducible show PE _ (Expr.BinOp _ _ _ _) _); first | refine' PE.add ?_ ?_ | refine' PE.sub ?_ ?_ | refine' PE.and ?_ ?_ ?_ | refine' PE.or ?_ ?_ ?_ | refine' PE.shl ?_ ?_ ?_ ?_ | refine' PE.shr ?_ ?_ ?_ ?_ ?_) | exact PE.int | ((with_reducible show PE _ (Expr.Subscript _ _ _) _); refine' PE.b64 (PE.gloG (by assumption) (by assumption) rfl (by assumption)) ?_ ?_ (fun _ _ => rfl))) | ((with_reducible show Builtin.bitAnd _ _ = _); first | with_reducible exact bitAnd_m6 _ | with_reducible exact bitAnd_m16 _ | with_reducible exact bitAnd_m2 _ | with_reducible exact bitAnd_m4 _) | ((with_reducible show Builtin.bitOr _ _ = _); exact or_of (by decide) (by omega)) | ((with_reducible show HPow.hPow (2 : Int) _ = _); first | (show _ = (1 : Int); decide) | (show _ = (2 : Int); decide) | (show _ = (4 : Int); decide) | (show _ = (16 : Int); decide) | (show _ = (64 : Int); decide) | (show _ = (256 : Int); decide)) | ((with_reducible first | show _ ∧ _ | show _ ≤ _ | show _ < _); omega))); (case U => (intro _; k_upd)); (case Z => exact Nat.le_of_ble_eq_true rfl); intro h' t c S) | ((with_reducible show Run _ [] (Ctx.tQ _ _ _) _); refine Run.turn rfl ?_) | ((with_reducible show Run _ (Stmt.Continue _ :: _) (Ctx.tQ _ _ _) _); refine Run.contT rfl ?_) | ((with_reducible show Loop _ (Code.forLoop _ _ _ _ _) _); refine' Loop.item rfl (by assumption) ?U (by assumption) (by assumption) rfl rfl ?_; (case U => k_updF); intro h' o' t hoc hod c S) | ((with_reducible show Loop _ (Code.forLoop _ _ _ _ _) _); refine' Loop.done rfl rfl (by assumption) ?M ?D (by assumption) (by assumption) rfl ?_; (case M => k_mem); (case D => (repeat' (first | exact DropI.head (by first | k_all | assumption) | (refine DropI.tail (by k_ne) ?_)))); intro h' c S) | ((with_reducible show Run _ (Stmt.If _ _ _ _ :: _) _ _); refine' Run.ifT ?B ?H ?_; (case B => repeat' (first | ((with_reducible show PE _ (Expr.Name _ _) _); first | exact PE.locI (by assumption) rfl rfl | exact PE.locV (by assumption) rfl rfl | exact PE.gloG (by assumption) (by assumption) rfl (by assumption)) | ((with_reducible show BE _ (Expr.Name _ _) _); first | exact BE.nameB (PE.locV (by assumption) rfl rfl) | exact BE.nameI (PE.locI (by assumption) rfl rfl)) | ((with_reducible show PE _ _ _); first | exact PE.int | ((with_reducible show PE _ (Expr.BinOp _ _ _ _) _); first | refine' PE.add ?_ ?_ | refine' PE.sub ?_ ?_ | refine' PE.and ?_ ?_ ?_ | refine' PE.or ?_ ?_ ?_ | refine' PE.shl ?_ ?_ ?_ ?_ | refine' PE.shr ?_ ?_ ?_ ?_ ?_)) | ((with_reducible show BE _ _ _); first | refine' BE.ge ?_ ?_ | refine' BE.lt ?_ ?_ | refine' BE.le ?_ ?_ | refine' BE.gt ?_ ?_ | refine' BE.eq ?_ ?_ | refine' BE.ne ?_ ?_ | refine' BE.and ?_ ?_))); (case H => first | rfl | exact decide_eq_true (by omega)); (try dsimp only [List.cons_append, List.nil_append])) | ((with_reducible show Run _ (Stmt.If _ _ _ _ :: _) _ _); refine' Run.ifF ?B ?H ?_; (case B => repeat' (first | ((with_reducible show PE _ (Expr.Name _ _) _); first | exact PE.locI (by assumption) rfl rfl | exact PE.locV (by assumption) rfl rfl | exact PE.gloG (by assumption) (by assumption) rfl (by assumption)) | ((with_reducible show BE _ (Expr.Name _ _) _); first | exact BE.nameB (PE.locV (by assumption) rfl rfl) | exact BE.nameI (PE.locI (by assumption) rfl rfl)) | ((with_reducible show PE _ _ _); first | exact PE.int | ((with_reducible show PE _ (Expr.BinOp _ _ _ _) _); first | refine' PE.add ?_ ?_ | refine' PE.sub ?_ ?_ | refine' PE.and ?_ ?_ ?_ | refine' PE.or ?_ ?_ ?_ | refine' PE.shl ?_ ?_ ?_ ?_ | refine' PE.shr ?_ ?_ ?_ ?_ ?_)) | ((with_reducible show BE _ _ _); first | refine' BE.ge ?_ ?_ | refine' BE.lt ?_ ?_ | refine' BE.le ?_ ?_ | refine' BE.gt ?_ ?_ | refine' BE.eq ?_ ?_ | refine' BE.ne ?_ ?_ | refine' BE.and ?_ ?_))); (case H => first | rfl | exact decide_eq_false (by omega)); (try dsimp only [List.cons_append, List.nil_append])))
  refine' Run.retBytes S G rfl rfl g_bytes rfl rfl ?M ?I ?N ?Z ?_
  case M => k_mem
  case I => exact ints3 rfl
  case N => (repeat' (first | exact in256_nil | exact b64_in _ | exact u8_in _ | (refine in256_cons ?_ ?_) | omega | decide))
  case Z => exact Nat.le_of_ble_eq_true rfl
  intro h' t tk st
  exact hR _ _ ⟨_, _, _, rfl, rfl⟩ st
theorem val64_b64n : ∀ v, v < 64 → val64 (b64n v) = v := by decide +kernel
theorem u8_nat {n : Nat} (h : n < 256) : (n.toUInt8).toNat = n := by
  show (UInt8.ofNat n).toNat = n
  rw [UInt8.toNat_ofNat']; omega
theorem u8_back {x : UInt8} {n : Int} (h : n = (x.toNat : Int)) : n.toNat.toUInt8 = x := by
  subst h
  show UInt8.ofNat ((x.toNat : Int).toNat) = x
  rw [Int.toNat_natCast]; exact UInt8.ofNat_toNat
noncomputable def IsRow (b : Array UInt8) : Prop := (∃ x y, b = #[x, y]) ∨ ∃ x y z, b = #[x, y, z]
noncomputable def txt (b : Array UInt8) : Str := ⟨(encL b.toList).toArray⟩
theorem dec2 (x y : UInt8) : byteArr [(x.toNat / 4 : Int) * 4 + (x.toNat % 4 * 16 + y.toNat / 16 : Int) / 16, (x.toNat % 4 * 16 + y.toNat / 16 : Int) % 16 * 16 + (y.toNat % 16 * 4 : Int) / 4] = #[x, y] := by
  have hx := x.toNat_lt
  have hy := y.toNat_lt
  show #[(_ : Int).toNat.toUInt8, (_ : Int).toNat.toUInt8] = #[x, y]
  rw [u8_back (x := x) (by omega), u8_back (x := y) (by omega)]
theorem dec3 (x y z : UInt8) : byteArr [(x.toNat / 4 : Int) * 4 + (x.toNat % 4 * 16 + y.toNat / 16 : Int) / 16, (x.toNat % 4 * 16 + y.toNat / 16 : Int) % 16 * 16 + (y.toNat % 16 * 4 + z.toNat / 64 : Int) / 4, (y.toNat % 16 * 4 + z.toNat / 64 : Int) % 4 * 64 + (z.toNat % 64 : Int)] = #[x, y, z] := by
  have hx := x.toNat_lt
  have hy := y.toNat_lt
  have hz := z.toNat_lt
  show #[(_ : Int).toNat.toUInt8, (_ : Int).toNat.toUInt8, (_ : Int).toNat.toUInt8] = #[x, y, z]
  rw [u8_back (x := x) (by omega), u8_back (x := y) (by omega), u8_back (x := z) (by omega)]
end
section
variable {w : World} {s : Shared} {p : Program} {loose : List Str} {mean : ExcName → Option Value} {mg mb : Str → Option Value} {R : Result → Shared → Prop}
theorem c_encode2 {a b : UInt8} {t : Tok} (X : (hdK w.params).In s.heap) (T : Top p loose mean mg mb s.heap)
    (hR : ∀ v s', Out1 s (fun t => .bytes (encB #[a, b]) t) v s' → s.heap.StaysIn s'.heap → R (.ok (.ret v)) s') :
    codeAny (model prg w) (AT 880 8800) (.call (.ref 101) ⟨[.bytes #[a, b] t], []⟩) R s := by
  refine' enter [(Str.ofString "s", .bytes #[a, b] t), (Str.ofString "altchars", .none)] X T.nolimit ?ho ?hcd (by decide) ?hb ?hl ?_ ?c1 ?c2 ?c3 ?c4
  ((case ho => k_is); (case hcd => k_is); (case hb => first | exact BindsTo.of_eq rfl | exact binds_K (by assumption) rfl (by k_is) rfl rfl rfl); (case hl => exact locs rfl); (case c1 => rfl); (case c2 => rfl); (case c3 => rfl); (case c4 => decide))
  intro L h₁ F N
  k_fold
  repeat' (first | (k_unfold; (try dsimp only)) | ((with_reducible show wpAny _ _ (call (Value.ref 93) [Value.bytes _ _] _) _ _ _); first | (refine' use1 (by k_asm) (by k_asm) (by k_asm) (by k_asm) (fun _ => c_b2a2) rfl (Nat.le_of_ble_eq_true rfl) (Nat.le_of_ble_eq_true rfl) ?_; (k_whole; intro _ _ _ _ _; (try dsimp only); (try k_sweep))) | (refine' use1 (by k_asm) (by k_asm) (by k_asm) (by k_asm) (fun _ => c_b2a3) rfl (Nat.le_of_ble_eq_true rfl) (Nat.le_of_ble_eq_true rfl) ?_; (k_whole; intro _ _ _ _ _; (try dsimp only); (try k_sweep)))) | walk1 | (dsimp only; walk1))
  exact hR _ _ ⟨_, _, _, rfl, rfl⟩ (Fr.keep (by assumption))
theorem c_encode3 {a b c : UInt8} {t : Tok} (X : (hdK w.params).In s.heap) (T : Top p loose mean mg mb s.heap)
    (hR : ∀ v s', Out1 s (fun t => .bytes (encB #[a, b, c]) t) v s' → s.heap.StaysIn s'.heap → R (.ok (.ret v)) s') :
    codeAny (model prg w) (AT 880 8800) (.call (.ref 101) ⟨[.bytes #[a, b, c] t], []⟩) R s := by
  refine' enter [(Str.ofString "s", .bytes #[a, b, c] t), (Str.ofString "altchars", .none)] X T.nolimit ?ho ?hcd (by decide) ?hb ?hl ?_ ?c1 ?c2 ?c3 ?c4
  ((case ho => k_is); (case hcd => k_is); (case hb => first | exact BindsTo.of_eq rfl | exact binds_K (by assumption) rfl (by k_is) rfl rfl rfl); (case hl => exact locs rfl); (case c1 => rfl); (case c2 => rfl); (case c3 => rfl); (case c4 => decide))
  intro L h₁ F N
  k_fold
  repeat' (first | (k_unfold; (try dsimp only)) | ((with_reducible show wpAny _ _ (call (Value.ref 93) [Value.bytes _ _] _) _ _ _); first | (refine' use1 (by k_asm) (by k_asm) (by k_asm) (by k_asm) (fun _ => c_b2a2) rfl (Nat.le_of_ble_eq_true rfl) (Nat.le_of_ble_eq_true rfl) ?_; (k_whole; intro _ _ _ _ _; (try dsimp only); (try k_sweep))) | (refine' use1 (by k_asm) (by k_asm) (by k_asm) (by k_asm) (fun _ => c_b2a3) rfl (Nat.le_of_ble_eq_true rfl) (Nat.le_of_ble_eq_true rfl) ?_; (k_whole; intro _ _ _ _ _; (try dsimp only); (try k_sweep)))) | walk1 | (dsimp only; walk1))
  exact hR _ _ ⟨_, _, _, rfl, rfl⟩ (Fr.keep (by assumption))
theorem c_decode2 {c0 c1 c2 c3 : Nat} {t : Tok} (h0 : c0 < 128) (h1 : c1 < 128) (h2 : c2 < 128) (h3 : c3 < 128)
    (ha : c0.toUInt8.toNat ≠ 61) (hb : c1.toUInt8.toNat ≠ 61) (hc : c2.toUInt8.toNat ≠ 61) (hd1 : c3.toUInt8.toNat = 61)
    (va : 0 ≤ val64 c0.toUInt8.toNat ∧ val64 c0.toUInt8.toNat < 64) (vb : 0 ≤ val64 c1.toUInt8.toNat ∧ val64 c1.toUInt8.toNat < 64) (vc : 0 ≤ val64 c2.toUInt8.toNat ∧ val64 c2.toUInt8.toNat < 64)
    (X : (hdK w.params).In s.heap) (T : Top p loose mean mg mb s.heap)
    (hR : ∀ v s', Out1 s (fun t => .bytes (byteArr [val64 c0.toUInt8.toNat * 4 + val64 c1.toUInt8.toNat / 16, val64 c1.toUInt8.toNat % 16 * 16 + val64 c2.toUInt8.toNat / 4]) t) v s' → s.heap.StaysIn s'.heap → R (.ok (.ret v)) s') :
    codeAny (model prg w) (AT 880 8800) (.call (.ref 109) ⟨[.str ⟨#[c0, c1, c2, c3]⟩ t], []⟩) R s := by
  refine' enter [(Str.ofString "s", .str ⟨#[c0, c1, c2, c3]⟩ t), (Str.ofString "altchars", .none), (Str.ofString "validate", .bool false)] X T.nolimit ?ho ?hcd (by decide) ?hb ?hl ?_ ?c1 ?c2 ?c3 ?c4
  ((case ho => k_is); (case hcd => k_is); (case hb => first | exact BindsTo.of_eq rfl | exact binds_K (by assumption) rfl (by k_is) rfl rfl rfl); (case hl => exact locs rfl); (case c1 => rfl); (case c2 => rfl); (case c3 => rfl); (case c4 => decide))
  intro L h₁ F N
  k_fold
  repeat' (first | (k_unfold; (try dsimp only)) | ((with_reducible show wpAny _ _ (call (Value.ref 36) [Value.str _ _]) _ _ _); refine' use1 (by k_asm) (by k_asm) (by k_asm) (by k_asm) (fun _ => c_bfdd (by assumption) (by assumption) (by assumption) (by assumption)) rfl (Nat.le_of_ble_eq_true rfl) (Nat.le_of_ble_eq_true rfl) ?_; (k_whole; intro _ _ _ _ _; (try dsimp only); (try k_sweep))) | ((with_reducible show wpAny _ _ (call (Value.ref 85) [Value.bytes _ _] _) _ _ _); first | (refine' use1 (by k_asm) (by k_asm) (by k_asm) (by k_asm) (fun _ => c_a2b2 (by assumption) (by assumption) (by assumption) (by assumption) (by assumption) (by assumption) (by assumption)) rfl (Nat.le_of_ble_eq_true rfl) (Nat.le_of_ble_eq_true rfl) ?_; (k_whole; intro _ _ _ _ _; (try dsimp only); (try k_sweep))) | (refine' use1 (by k_asm) (by k_asm) (by k_asm) (by k_asm) (fun _ => c_a2b3 (by assumption) (by assumption) (by assumption) (by assumption) (by assumption) (by assumption) (by assumption) (by assumption)) rfl (Nat.le_of_ble_eq_true rfl) (Nat.le_of_ble_eq_true rfl) ?_; (k_whole; intro _ _ _ _ _; (try dsimp only); (try k_sweep)))) | walk1 | (dsimp only; walk1))
  exact hR _ _ ⟨_, _, _, rfl, rfl⟩ (Fr.keep (by assumption))
theorem c_decode3 {c0 c1 c2 c3 : Nat} {t : Tok} (h0 : c0 < 128) (h1 : c1 < 128) (h2 : c2 < 128) (h3 : c3 < 128)
    (ha : c0.toUInt8.toNat ≠ 61) (hb : c1.toUInt8.toNat ≠ 61) (hc : c2.toUInt8.toNat ≠ 61) (hd1 : c3.toUInt8.toNat ≠ 61)
    (va : 0 ≤ val64 c0.toUInt8.toNat ∧ val64 c0.toUInt8.toNat < 64) (vb : 0 ≤ val64 c1.toUInt8.toNat ∧ val64 c1.toUInt8.toNat < 64) (vc : 0 ≤ val64 c2.toUInt8.toNat ∧ val64 c2.toUInt8.toNat < 64) (vd : 0 ≤ val64 c3.toUInt8.toNat ∧ val64 c3.toUInt8.toNat < 64)
    (X : (hdK w.params).In s.heap) (T : Top p loose mean mg mb s.heap)
    (hR : ∀ v s', Out1 s (fun t => .bytes (byteArr [val64 c0.toUInt8.toNat * 4 + val64 c1.toUInt8.toNat / 16, val64 c1.toUInt8.toNat % 16 * 16 + val64 c2.toUInt8.toNat / 4, val64 c2.toUInt8.toNat % 4 * 64 + val64 c3.toUInt8.toNat]) t) v s' → s.heap.StaysIn s'.heap → R (.ok (.ret v)) s') :
    codeAny (model prg w) (AT 880 8800) (.call (.ref 109) ⟨[.str ⟨#[c0, c1, c2, c3]⟩ t], []⟩) R s := by
  refine' enter [(Str.ofString "s", .str ⟨#[c0, c1, c2, c3]⟩ t), (Str.ofString "altchars", .none), (Str.ofString "validate", .bool false)] X T.nolimit ?ho ?hcd (by decide) ?hb ?hl ?_ ?c1 ?c2 ?c3 ?c4
  ((case ho => k_is); (case hcd => k_is); (case hb => first | exact BindsTo.of_eq rfl | exact binds_K (by assumption) rfl (by k_is) rfl rfl rfl); (case hl => exact locs rfl); (case c1 => rfl); (case c2 => rfl); (case c3 => rfl); (case c4 => decide))
  intro L h₁ F N
  k_fold
  repeat' (first | (k_unfold; (try dsimp only)) | ((with_reducible show wpAny _ _ (call (Value.ref 36) [Value.str _ _]) _ _ _); refine' use1 (by k_asm) (by k_asm) (by k_asm) (by k_asm) (fun _ => c_bfdd (by assumption) (by assumption) (by assumption) (by assumption)) rfl (Nat.le_of_ble_eq_true rfl) (Nat.le_of_ble_eq_true rfl) ?_; (k_whole; intro _ _ _ _ _; (try dsimp only); (try k_sweep))) | ((with_reducible show wpAny _ _ (call (Value.ref 85) [Value.bytes _ _] _) _ _ _); first | (refine' use1 (by k_asm) (by k_asm) (by k_asm) (by k_asm) (fun _ => c_a2b2 (by assumption) (by assumption) (by assumption) (by assumption) (by assumption) (by assumption) (by assumption)) rfl (Nat.le_of_ble_eq_true rfl) (Nat.le_of_ble_eq_true rfl) ?_; (k_whole; intro _ _ _ _ _; (try dsimp only); (try k_sweep))) | (refine' use1 (by k_asm) (by k_asm) (by k_asm) (by k_asm) (fun _ => c_a2b3 (by assumption) (by assumption) (by assumption) (by assumption) (by assumption) (by assumption) (by assumption) (by assumption)) rfl (Nat.le_of_ble_eq_true rfl) (Nat.le_of_ble_eq_true rfl) ?_; (k_whole; intro _ _ _ _ _; (try dsimp only); (try k_sweep)))) | walk1 | (dsimp only; walk1))
  exact hR _ _ ⟨_, _, _, rfl, rfl⟩ (Fr.keep (by assumption))

theorem b64n_u8 {v : Nat} (h : v < 64) : (b64n v).toUInt8.toNat = b64n v := u8_nat (b64n_lt v)
theorem b64n_val {v : Nat} (h : v < 64) : 0 ≤ val64 (b64n v).toUInt8.toNat ∧ val64 (b64n v).toUInt8.toNat < 64 := by
  rw [b64n_u8 h, val64_b64n v h]; omega
theorem b64n_ne {v : Nat} (h : v < 64) : (b64n v).toUInt8.toNat ≠ 61 := by rw [b64n_u8 h]; exact (b64n_facts v h).2
theorem c_decode {b : Array UInt8} {t : Tok} (hb : IsRow b) (X : (hdK w.params).In s.heap) (T : Top p loose mean mg mb s.heap)
    (hR : ∀ v s', Out1 s (fun t => .bytes b t) v s' → s.heap.StaysIn s'.heap → R (.ok (.ret v)) s') :
    codeAny (model prg w) (AT 880 8800) (.call (.ref 109) ⟨[.str (txt b) t], []⟩) R s := by
  rcases hb with ⟨x, y, rfl⟩ | ⟨x, y, z, rfl⟩
  · have hx := x.toNat_lt
    have hy := y.toNat_lt
    have i0 : x.toNat / 4 < 64 := by omega
    have i1 : x.toNat % 4 * 16 + y.toNat / 16 < 64 := by omega
    have i2 : y.toNat % 16 * 4 < 64 := by omega
    refine c_decode2 (b64n_facts _ i0).1 (b64n_facts _ i1).1 (b64n_facts _ i2).1 (by decide) (b64n_ne i0) (b64n_ne i1) (b64n_ne i2) (by decide) (b64n_val i0) (b64n_val i1) (b64n_val i2) X T fun v s' q st => hR v s' ?_ st
    rw [b64n_u8 i0, b64n_u8 i1, b64n_u8 i2, val64_b64n _ i0, val64_b64n _ i1, val64_b64n _ i2] at q
    have e := dec2 x y
    simp only [Int.natCast_ediv, Int.natCast_add, Int.natCast_mul, Int.natCast_emod, Int.cast_ofNat_Int] at q
    rw [e] at q
    exact q
  · have hx := x.toNat_lt
    have hy := y.toNat_lt
    have hz := z.toNat_lt
    have i0 : x.toNat / 4 < 64 := by omega
    have i1 : x.toNat % 4 * 16 + y.toNat / 16 < 64 := by omega
    have i2 : y.toNat % 16 * 4 + z.toNat / 64 < 64 := by omega
    have i3 : z.toNat % 64 < 64 := by omega
    refine c_decode3 (b64n_facts _ i0).1 (b64n_facts _ i1).1 (b64n_facts _ i2).1 (b64n_facts _ i3).1 (b64n_ne i0) (b64n_ne i1) (b64n_ne i2) (b64n_ne i3) (b64n_val i0) (b64n_val i1) (b64n_val i2) (b64n_val i3) X T fun v s' q st => hR v s' ?_ st
    rw [b64n_u8 i0, b64n_u8 i1, b64n_u8 i2, b64n_u8 i3, val64_b64n _ i0, val64_b64n _ i1, val64_b64n _ i2, val64_b64n _ i3] at q
    have e := dec3 x y z
    simp only [Int.natCast_ediv, Int.natCast_add, Int.natCast_mul, Int.natCast_emod, Int.cast_ofNat_Int] at q
    rw [e] at q
    exact q
theorem c_encodeR {b e : Array UInt8} {t : Tok} (hb : IsRow b) (he : encB b = e) (X : (hdK w.params).In s.heap) (T : Top p loose mean mg mb s.heap)
    (hR : ∀ v s', Out1 s (fun t => .bytes e t) v s' → s.heap.StaysIn s'.heap → R (.ok (.ret v)) s') :
    codeAny (model prg w) (AT 880 8800) (.call (.ref 101) ⟨[.bytes b t], []⟩) R s := by
  subst he
  rcases hb with ⟨x, y, rfl⟩ | ⟨x, y, z, rfl⟩
  · exact c_encode2 X T hR
  · exact c_encode3 X T hR
end
section
variable {w : World} {s : Shared} {p : Program} {loose : List Str} {mean : ExcName → Option Value} {mg mb : Str → Option Value} {R : Result → Shared → Prop}
section
variable {A : Around} {E : Value → Shared → Prop} {h₀ : Heap} {L C c : Nat} {m : Str → Option Value} {news : List (Addr × Obj)} {o : Obj} {env : Env} {sc : Scope} {cl : List (Str × Addr)} {x : Str} {pos : Pos} {v : Value} {K : Frag}

theorem m_ListComp {elt target iter : PySem.Expr} {ifs : List PySem.Expr} {rest : List Comprehension} {Q : Value → Shared → Prop}
    (hclos : closureFor sc env = pure cl) (hcell : ∀ y ∈ sc.names, y.2 ≠ .cell) (hkind : sc.kind = .function) (hnames : ∀ y ∈ sc.names, y.2 = .local → sc.names.lookup y.1 = some .local) (hs : ∀ x, foldedSetIterable iter env x = pure x)
    (h : wpAny (model prg w) A (eval iter env) (fun x s₁ => wpAny (model prg w) A (pyIter x) (fun it s₂ => ∀ D C h₄, D = s₂.heap.objs.size → C = D + 1 → h₄.Ns C (fun _ => none) → h₄.get? D = some (W.listOf #[] 0) → s₂.heap.StaysIn h₄ →
      codeAny (model prg w) A (.compStart (.ListComp elt (⟨target, iter, ifs, 0⟩ :: rest) sc pos) 0 it (.ref D) (compEnvC sc cl C env)) (compPost (model prg w) A E none Q (.ref D) C) { s₂ with heap := h₄ }) E s₁) E s) :
    wpAny (model prg w) A (eval (.ListComp elt (⟨target, iter, ifs, 0⟩ :: rest) sc pos) env) Q E s := by
  rw [eval_ListComp]
  refine wpAny_comprehension_free (use := none) rfl hs hclos hkind hnames (wpAny_mono h (fun xv s₁ h₁ => wpAny_mono h₁ (fun it s₂ h₂ => ?_) fun _ _ e => e) fun _ _ e => e)
  refine wpAny_newObj_type (wpAny_newFunctionEnv hcell (by intro y hy; simp at hy) (fun h₁ hns₁ hsb₁ => ?_) hkind)
  have hsz : (s₂.heap.push (W.listOf #[] 0)).objs.size = s₂.heap.objs.size + 1 := Heap.size_push ..
  refine h₂ s₂.heap.objs.size _ h₁ rfl hsz ?_ ?_ ?_
  · have q : h₁.Ns (s₂.heap.push (W.listOf #[] 0)).objs.size (fun _ => none) := by simpa using hns₁
    exact q
  · refine hsb₁.extBut _ _ ?_ (Heap.get?_push_of_some _ (Heap.get?_push_size _ rfl))
    exact fun e => Nat.lt_irrefl s₂.heap.objs.size (by
      have q : s₂.heap.objs.size = (s₂.heap.push (W.listOf #[] 0)).objs.size := e
      omega)
  · intro b o e
    refine hsb₁.extBut b o ?_ (Heap.get?_push_of_some _ (Heap.get?_push_of_some _ e))
    have l := ltN (Heap.lt_size e)
    exact neN (Nat.ne_of_lt (Nat.lt_of_lt_of_le l (by rw [hsz]; exact Nat.le_succ _)))

theorem comp_in {I D : Nat} {h h₄ : Heap} (F : Fr h₀ L h m) (hI : h.get? I = some o) (hD : D = h.objs.size) (hC : C = D + 1) (hns : h₄.Ns C (fun _ => none)) (hDo : h₄.get? D = some (W.listOf #[] 0)) (st : h.StaysIn h₄) :
    Fr (h.hide I) C h₄ (fun _ => none) ∧ News (h.hide I) C h₄ [(D, W.listOf #[] 0), (I, o)] := by
  have hlt : (I : Nat) < h.objs.size := Heap.lt_size hI
  refine ⟨⟨hns, fun b x e => st b x (Heap.of_hide e), ?_⟩, fun q hq => ?_⟩
  · have e : (h.hide I).objs.size = h.objs.size := Heap.hide_size ..
    exact Nat.le_of_lt (by omega)
  · rcases List.mem_cons.mp hq with rfl | hq
    · refine ⟨hDo, neN (by show D ≠ C; omega), ?_⟩
      cases e : (h.hide I).get? D with
      | none => rfl
      | some y =>
        have l : (D : Nat) < h.objs.size := Heap.lt_size (Heap.of_hide e)
        omega
    · rw [List.mem_singleton.mp hq]
      exact ⟨st _ _ hI, neN (by show I ≠ C; omega), Heap.hide_self ..⟩
theorem hide_keeps {h : Heap} {I b : Addr} {y : Obj} (hne : b ≠ I) (e : h.get? b = some y) : (h.hide I).get? b = some y := (Heap.hide_ne h hne).trans e
theorem comp_out {I D : Nat} {h h₅ h₆ : Heap} {mC : Str → Option Value} {oD : Obj} (F : Fr h₀ L h m) (N : News h₀ L h ((I, o) :: news)) (hne : ∀ q ∈ news, q.1 ≠ I) (hD : D = h.objs.size) (hC : C = D + 1)
    (F5 : Fr (h.hide I) C h₅ mC) (hDo : h₅.get? D = some oD) (hs : Heap.SameBut C h₅ h₆) : Fr h₀ L h₆ m ∧ News h₀ L h₆ ((D, oD) :: news) := by
  have hIL : I ≠ L := (N _ (.head _)).2.1
  have hI0 : h₀.get? I = none := (N _ (.head _)).2.2
  have hCh : ∀ b y, h.get? b = some y → b ≠ C := fun b y e => by
    have l := ltN (Heap.lt_size e)
    exact neN (by omega)
  have up : ∀ b y, b ≠ I → h.get? b = some y → h₆.get? b = some y := fun b y hb e => (hs.2 b (hCh b y e)).trans (F5.keep b y (hide_keeps hb e))
  obtain ⟨oL, a1, a2, hoL, a3⟩ := F.ns
  have lL : (L : Nat) < h.objs.size := Heap.lt_size hoL
  refine ⟨⟨⟨oL, a1, a2, up L oL (Ne.symm hIL) hoL, a3⟩, fun b y e => up b y ?_ (F.keep b y e), F.above⟩, fun q hq => ?_⟩
  · rintro rfl; rw [hI0] at e; cases e
  · rcases List.mem_cons.mp hq with rfl | hq
    · refine ⟨(hs.2 D (neN (by omega))).trans hDo, neN (by show D ≠ L; omega), ?_⟩
      cases e : h₀.get? D with
      | none => rfl
      | some y =>
        have l : (D : Nat) < h.objs.size := Heap.lt_size (F.keep _ _ e)
        omega
    · exact ⟨up _ _ (hne q hq) (N q (.tail _ hq)).1, (N q (.tail _ hq)).2⟩
theorem comp_start {elt target iter : PySem.Expr} {ifs : List PySem.Expr} {rest : List Comprehension} {it acc : Value}
    (hself : ∀ Q E, Q it s → wpAny (model prg w) A (pyIter it) Q E s)
    (h : codeAny (model prg w) A (.compLoop (.ListComp elt (⟨target, iter, ifs, 0⟩ :: rest) sc pos) 0 it acc env) R s) :
    codeAny (model prg w) A (.compStart (.ListComp elt (⟨target, iter, ifs, 0⟩ :: rest) sc pos) 0 it acc env) R s := codeAny_compStart_list h (hself _ _ h)
theorem comp_step {elt target iter : PySem.Expr} {it acc : Value}
    (h : wpAny (model prg w) A (pyNext it) (fun r s₁ => match r with
      | none => R (.ok .next) s₁
      | some v => wpAny (model prg w) A (letOwnedTupleGo target it v) (fun _ s₁ => wpAny (model prg w) A (assign target env v) (fun _ s₂ => wpAny (model prg w) A (eval elt env) (fun x s₃ =>
          wpAny (model prg w) A (call (.builtin "list.append") [acc, x]) (fun _ s₄ => codeAny (model prg w) A (.compLoop (.ListComp elt [⟨target, iter, [], 0⟩] sc pos) 0 it acc env) R s₄) (notedBy (model prg w) A env fun e s' => R (.error e) s') s₃)
          (notedBy (model prg w) A env fun e s' => R (.error e) s') s₂) (notedBy (model prg w) A env fun e s' => R (.error e) s') s₁) (notedBy (model prg w) A env fun e s' => R (.error e) s') s₁) (notedBy (model prg w) A env fun e s' => R (.error e) s') s) :
    codeAny (model prg w) A (.compLoop (.ListComp elt [⟨target, iter, [], 0⟩] sc pos) 0 it acc env) R s := by
  refine codeAny_loop' rfl (fun _ s' => s' = s) (fun n s' e => ?_) 0 rfl
  subst e
  show wpAny _ _ ((compTurn (.ListComp elt [⟨target, iter, [], 0⟩] sc pos) 0 it acc env).onRaise (fun x => do noteFrame x env; theTreesLotGoes x)) _ _ _
  refine wpAny_noted ?_
  rw [compTurn_list1]
  refine wpAny_bind (wpAny_standAt (wpAny_bind (wpAny_mono h (fun r s₁ h₁ => ?_) fun _ _ h' => h')))
  cases r with
  | none => exact wpAny_pure h₁
  | some v =>
    refine wpAny_bind (wpAny_mono h₁ (fun _ s₂ h₂ => ?_) fun _ _ h' => h')
    exact wpAny_bind (wpAny_mono h₂ (fun _ s₂ h₂ => wpAny_bind (wpAny_bind (wpAny_mono h₂ (fun x s₃ h₃ => wpAny_bind (wpAny_mono h₃
      (fun _ s₄ h₄ => wpAny_pure (wpAny_pure (.inr ⟨rfl, h₄⟩))) fun _ _ h' => h')) fun _ _ h' => h'))) fun _ _ h' => h')
noncomputable def CompEnd (h₀ : Heap) (L : Nat) (m : Str → Option Value) (news : List (Addr × Obj)) (g : Heap) (C D : Nat) (Q : Value → Shared → Prop) (r : Result) (s' : Shared) : Prop :=
  ∃ its n mC, r = .ok .next ∧ Fr g C s'.heap mC ∧ s'.heap.get? D = some (W.listOf its n) ∧ ∀ h'', Fr h₀ L h'' m → News h₀ L h'' ((D, W.listOf its n) :: news) → (∀ b o, b ≠ C → s'.heap.get? b = some o → h''.get? b = some o) → Q (.ref D) { s' with heap := h'' }
theorem CompEnd.intro {g : Heap} {D : Nat} {Q : Value → Shared → Prop} {s' : Shared} {its : Array Value} {n : Nat} {mC : Str → Option Value} {led : List (Addr × Obj)} (F : Fr g C s'.heap mC) (N : News g C s'.heap led) (hm : (D, W.listOf its n) ∈ led)
    (k : ∀ h'', Fr h₀ L h'' m → News h₀ L h'' ((D, W.listOf its n) :: news) → (∀ b o, b ≠ C → s'.heap.get? b = some o → h''.get? b = some o) → Q (.ref D) { s' with heap := h'' }) : CompEnd h₀ L m news g C D Q (.ok .next) s' := ⟨its, n, mC, rfl, F, (N _ hm).1, k⟩
theorem hide_base {h : Heap} {I : Nat} (F : Fr h₀ L h m) (hI0 : h₀.get? I = none) : h₀.StaysIn (h.hide I) := fun b y e => hide_keeps (by rintro rfl; rw [hI0] at e; cases e) (F.keep b y e)
theorem comp_enter {I : Nat} {elt target iter : PySem.Expr} {ifs : List PySem.Expr} {rest : List Comprehension} {Q : Value → Shared → Prop}
    (F : Fr h₀ L s.heap m) (X : K.In h₀) (N : News h₀ L s.heap ((I, o) :: news)) (T : Top p loose mean mg mb h₀) (hne : ∀ q ∈ news, q.1 ≠ I)
    (hself : ∀ s' : Shared, s'.heap.get? I = some o → ∀ Q E, Q (.ref I) s' → wpAny (model prg w) A (pyIter (.ref I)) Q E s')
    (k : ∀ (D C : Nat) h₄, I < D → C = D + 1 → Fr (s.heap.hide I) C h₄ (fun _ => none) → News (s.heap.hide I) C h₄ [(D, W.listOf #[] 0), (I, o)] → K.In (s.heap.hide I) → Top p loose mean mg mb (s.heap.hide I) →
      codeAny (model prg w) A (.compLoop (.ListComp elt (⟨target, iter, ifs, 0⟩ :: rest) sc pos) 0 (.ref I) (.ref D) (compEnvC sc cl C env)) (CompEnd h₀ L m news (s.heap.hide I) C D Q) { s with heap := h₄ }) :
    ∀ D C h₄, D = s.heap.objs.size → C = D + 1 → h₄.Ns C (fun _ => none) → h₄.get? D = some (W.listOf #[] 0) → s.heap.StaysIn h₄ →
      codeAny (model prg w) A (.compStart (.ListComp elt (⟨target, iter, ifs, 0⟩ :: rest) sc pos) 0 (.ref I) (.ref D) (compEnvC sc cl C env)) (compPost (model prg w) A E none Q (.ref D) C) { s with heap := h₄ } := by
  intro D C h₄ hD hC hns hDo st
  have hI := (N _ (.head _)).1
  have q := comp_in F hI hD hC hns hDo st
  have hb := hide_base F (N _ (.head _)).2.2
  refine comp_start (fun Q E hq => hself _ (st _ _ hI) Q E hq) (codeAny_mono (k D C h₄ (by have l := ltN (Heap.lt_size hI); have e : @Eq Nat D _ := hD; omega) hC q.1 q.2 (X.keeps hb) (T.keeps hb)) fun r s' hr => ?_)
  obtain ⟨its, n, mC, rfl, F5, hDo5, kk⟩ := hr
  refine ⟨mC, F5.ns, fun h'' hs => ?_⟩
  have z := comp_out F N hne hD hC F5 hDo5 hs
  exact kk h'' z.1 z.2 fun b o hb e => (hs.2 b hb).trans e
theorem selfB {I : Nat} {b : Array UInt8} {t : Tok} {i : Nat} (hc : o.cls = .type "bytes_iterator") (hd : o.data = .fields #[.bytes b t, .int i 0]) :
    ∀ s' : Shared, s'.heap.get? I = some o → ∀ Q E, Q (.ref I) s' → wpAny (model prg w) A (pyIter (.ref I)) Q E s' := fun s' ho Q E hq => KBw.pyIter_self ⟨o, ho, hc, hd⟩ hq
theorem iterB_comp {b : Array UInt8} {t : Tok} {elt target iter : PySem.Expr} {ifs : List PySem.Expr} {rest : List Comprehension} {Q : Value → Shared → Prop}
    (F : Fr h₀ L s.heap m) (X : K.In h₀) (N : News h₀ L s.heap news) (T : Top p loose mean mg mb h₀)
    (k : ∀ g (I D C : Nat) h₄ o, s.heap.StaysIn g → I < D → D < C → Fr g C h₄ (fun _ => none) → News g C h₄ [(D, W.listOf #[] 0), (I, o)] → K.In g → Top p loose mean mg mb g → o.cls = .type "bytes_iterator" → o.data = .fields #[.bytes b t, .int (0 : Nat) 0] →
      codeAny (model prg w) A (.compLoop (.ListComp elt (⟨target, iter, ifs, 0⟩ :: rest) sc pos) 0 (.ref I) (.ref D) (compEnvC sc cl C env)) (CompEnd h₀ L m news g C D Q) { s with heap := h₄ }) :
    wpAny (model prg w) A (pyIter (.bytes b t)) (fun it s₂ => ∀ D C h₄, D = s₂.heap.objs.size → C = D + 1 → h₄.Ns C (fun _ => none) → h₄.get? D = some (W.listOf #[] 0) → s₂.heap.StaysIn h₄ →
      codeAny (model prg w) A (.compStart (.ListComp elt (⟨target, iter, ifs, 0⟩ :: rest) sc pos) 0 it (.ref D) (compEnvC sc cl C env)) (compPost (model prg w) A E none Q (.ref D) C) { s₂ with heap := h₄ }) E s := by
  refine iterB F N fun I h' o F' N' l1 l2 st lt hc hd => ?_
  refine comp_enter (s := { s with heap := h' }) F' X N' T (fun q hq => Nat.ne_of_lt (l1 q hq)) (selfB hc hd) fun D C h₄ hID hC F4 N4 X4 T4 => ?_
  exact k _ I D C h₄ o (fun b y e => hide_keeps (Nat.ne_of_lt (lt b y e)) (st b y e)) hID (by omega) F4 N4 X4 T4 hc hd
end
section
open Builtin Builtin.Str
variable {A : Around} {E : Value → Shared → Prop} {Q : Value → Shared → Prop} {h₀ : Heap} {L : Addr} {m : PySem.Str → Option Value} {news : List (Addr × Obj)}
theorem chr_u8 {x : UInt8} {t : Tok} (h : Q (.str ⟨#[x.toNat]⟩ s.toks) { s with toks := s.toks + 1 }) : wpAny (model prg w) A (call (.builtin "chr") [.int (x.toNat : Int) t]) Q E s :=
  chr_of_range (by omega) (by have := x.toNat_lt; omega) (by simpa using h)
theorem join4 {D : Addr} {its : Array Value} {n a b c d : Nat} {t ta tb tc td : Tok} (N : News h₀ L s.heap news) (hm : (D, W.listOf its n) ∈ news)
    (e : its.toList = [.str ⟨#[a]⟩ ta, .str ⟨#[b]⟩ tb, .str ⟨#[c]⟩ tc, .str ⟨#[d]⟩ td]) (h : Q (.str ⟨#[a, b, c, d]⟩ s.toks) { s with toks := s.toks + 1 }) :
    wpAny (model prg w) A (call (.builtin "str.join") [.str (PySem.Str.ofString "") t, .ref D]) Q E s := by
  have hl : s.heap.IsList D (strValues [(⟨#[a]⟩, ta), (⟨#[b]⟩, tb), (⟨#[c]⟩, tc), (⟨#[d]⟩, td)]).toArray := ⟨_, (N _ hm).1, rfl, n, by
    show Data.seq its n = Data.seq _ n
    congr 1
    exact Array.ext' e⟩
  refine call_meets F.slot_str_join (typeIs_str _ _ _) F.entry_str_join (F.args_str_join_2 _ _) (meets_str_join_list (PySem.Str.ofString "") t D [(⟨#[a]⟩, ta), (⟨#[b]⟩, tb), (⟨#[c]⟩, tc), (⟨#[d]⟩, td)] (by rfl)) ⟨hl, ?_⟩
  have e2 : glued (PySem.Str.ofString "") ([(⟨#[a]⟩, ta), (⟨#[b]⟩, tb), (⟨#[c]⟩, tc), (⟨#[d]⟩, td)].map (fun (p : PySem.Str × Tok) => p.1)) = ⟨#[a, b, c, d]⟩ := by rfl
  exact ⟨(by show 4 ≤ sizeLine; decide), h⟩
end
end
section
variable {w : World} {s : Shared} {p : Program} {loose : List Str} {mean : ExcName → Option Value} {mg mb : Str → Option Value} {R : Result → Shared → Prop}
namespace FL
open Builtin
theorem slot_bytes_lt : Slot "bytes" (cmpInfo .Lt).2.1 "bytes.__lt__" :=
  .of (owner := "bytes") (n := "__lt__") (by rw [typeLookup_type, builtinLookup_eq_fast]; kernel_rfl) (by decide +kernel) (by decide +kernel) (by decide +kernel)
    (by first | exact .inl (by decide +kernel) | exact .inr (by decide +kernel)) (by rw [isSubtype_type]; kernel_rfl)
theorem entry_bytes_lt : entryFor table "bytes.__lt__" = some Builtin.«bytes.__lt__» := entryFor_of_tree (by kernel_rfl)
theorem args_bytes_lt_2 (a b : Value) : argsOk "bytes.__lt__" ⟨[a, b], []⟩ := by unfold argsOk; kernel_rfl
end FL
section
open Builtin
variable {A : Around} {E : Value → Shared → Prop} {Q : Value → Shared → Prop} {a b : Addr} {n n' : Array UInt8} {l l' : PySem.Str} {t u : Tok}
noncomputable def bltB (n n' : Array UInt8) : Bool := Bytes.holds "__lt__" (Bytes.order n.toList n'.toList)
theorem gives_bytes_lt : PySem.Gives («bytes.__lt__» ⟨[.bytes n t, .bytes n' u], []⟩) (.val (.bool (bltB n n'))) := by
  refine .of_wp fun M A E s Q hq => ?_
  show wpAny M A (isInstance (.bytes n' u) (.type "bytes") >>= fun r => _) _ E s
  refine wpAny_bind (wpAny_isInstance (PySem.W.typeIs_bytes s n' u) F.sub_bytes_bytes ?_)
  exact wpAny_pure ⟨_, rfl, hq⟩
theorem lt_bytes (h : Q (.bool (bltB n n')) s) : wpAny (model prg w) A (richCompare .Lt (.bytes n t) (.bytes n' u)) Q E s :=
  richCompare_gives (op := .Lt) (PySem.W.typeIs_bytes s n t) (PySem.W.typeIs_bytes s n' u) FL.slot_bytes_lt FL.entry_bytes_lt (FL.args_bytes_lt_2 _ _) gives_bytes_lt (fun e => nomatch e) h
noncomputable def PTup (h : Heap) (a : Addr) (n : Array UInt8) (l : PySem.Str) : Prop := ∃ o t u k, h.get? a = some o ∧ o.cls = .type "tuple" ∧ o.data = .seq #[.bytes n t, .str l u] k
theorem PTup.keeps {h h' : Heap} (x : PTup h a n l) (k : h.StaysIn h') : PTup h' a n l := by
  obtain ⟨o, t, u, q, ho, r⟩ := x
  exact ⟨o, t, u, q, k _ _ ho, r⟩
noncomputable def pltB (n : Array UInt8) (l : PySem.Str) (n' : Array UInt8) (l' : PySem.Str) : Bool :=
  if n.toList = n'.toList then (if l = l' then false else decide (l.cps.toList < l'.cps.toList)) else bltB n n'
theorem tup_lt (hu : A.units < cLine) (ha : PTup s.heap a n l) (hb : PTup s.heap b n' l') (h : Q (.bool (pltB n l n' l')) s) : wpAny (model prg w) A (compareOp .Lt (.ref a) (.ref b)) Q E s := by
  obtain ⟨oa, ta, ua, ka, hoa, hca, hda⟩ := ha
  obtain ⟨ob, tb, ub, kb, hob, hcb, hdb⟩ := hb
  have hTa : s.TypeIs (.ref a) "tuple" := ⟨oa, hoa, hca⟩
  have hTb : s.TypeIs (.ref b) "tuple" := ⟨ob, hob, hcb⟩
  show wpAny _ _ (richCompare .Lt (.ref a) (.ref b)) Q E s
  refine wpAny_richCompare_same_room (op := .Lt) hTa hTb F.slot_tuple_lt (wpAny_call_entry F.slot_tuple_lt hTa F.entry_tuple_lt ?_ (F.args_tuple_lt_2 _ _)) hu
  show wpAny _ _ (isInstance (.ref b) (.type "tuple") >>= _) _ _ s
  refine wpAny_bind (wpAny_isInstance hTb isSubtype_tuple_tuple ?_)
  simp only [Bool.not_true, Bool.false_eq_true, if_false]
  refine wpAny_bind (wpAny_tupleItemsOf hoa hda ?_)
  refine wpAny_bind (wpAny_tupleItemsOf hob hdb ?_)
  refine wpAny_bind ?_
  show wpAny _ _ (forIn [((Value.bytes n ta), (Value.bytes n' tb)), ((Value.str l ua), (Value.str l' ub))] _ _) _ _ s
  rw [List.forIn_cons]
  refine wpAny_bind (wpAny_bind (PySem.W.eqBool_bytes ?_))
  unfold pltB at h
  by_cases hn : n.toList = n'.toList
  · rw [if_pos hn] at h
    rw [decide_eq_true hn]
    simp only [Bool.not_true, Bool.false_eq_true, if_false]
    refine wpAny_pure ?_
    dsimp only
    rw [List.forIn_cons]
    refine wpAny_bind (wpAny_bind (wpAny_eqBool_str ?_))
    by_cases hl : l = l'
    · rw [if_pos hl] at h
      rw [decide_eq_true hl]
      simp only [Bool.not_true, Bool.false_eq_true, if_false]
      refine wpAny_pure ?_
      dsimp only
      rw [List.forIn_nil]
      exact wpAny_pure (wpAny_pure ⟨_, rfl, (fun e => nomatch e), h⟩)
    · rw [if_neg hl] at h
      rw [decide_eq_false hl]
      simp only [Bool.not_false, if_true]
      refine wpAny_bind (wpAny_rule (wpAny_bind (lt_str (Q := fun v s' => _) ?_)))
      exact wpAny_bind (wpAny_pure (wpAny_pure (wpAny_pure (wpAny_pure ⟨_, rfl, (fun e => nomatch e), h⟩))))
  · rw [if_neg hn] at h
    rw [decide_eq_false hn]
    simp only [Bool.not_false, if_true]
    refine wpAny_bind (wpAny_rule (wpAny_bind (lt_bytes ?_)))
    exact wpAny_bind (wpAny_pure (wpAny_pure (wpAny_pure (wpAny_pure ⟨_, rfl, (fun e => nomatch e), h⟩))))
end
end
section
variable {w : World} {s : Shared} {p : Program} {loose : List Str} {mean : ExcName → Option Value} {mg mb : Str → Option Value} {R : Result → Shared → Prop}
structure Ordd (lt : Nat → Nat → Bool) : Prop where
  asym : ∀ a b, lt a b = true → lt b a = false
  ntr : ∀ a b c, lt b a = false → lt c b = false → lt c a = false
section
variable {lt : Nat → Nat → Bool} {xs : List Nat} {pos c x i : Nat}
theorem Ordd.irr (O : Ordd lt) (a : Nat) : lt a a = false := by
  cases h : lt a a with
  | false => rfl
  | true => rw [O.asym a a h] at h; cases h
noncomputable def HeapL (lt : Nat → Nat → Bool) (xs : List Nat) : Prop := ∀ i, 0 < i → i < xs.length → lt (xs.getD i 0) (xs.getD ((i - 1) / 2) 0) = false
structure Gap (lt : Nat → Nat → Bool) (xs : List Nat) (pos x : Nat) : Prop where
  inb : pos < xs.length
  off : ∀ i, 0 < i → i < xs.length → i ≠ pos → (i - 1) / 2 ≠ pos → lt (xs.getD i 0) (xs.getD ((i - 1) / 2) 0) = false
  kid : ∀ i, 0 < i → i < xs.length → (i - 1) / 2 = pos → lt (xs.getD i 0) x = false
  gp : 0 < pos → ∀ i, 0 < i → i < xs.length → (i - 1) / 2 = pos → lt (xs.getD i 0) (xs.getD ((pos - 1) / 2) 0) = false
structure Down (lt : Nat → Nat → Bool) (xs : List Nat) (pos : Nat) : Prop where
  inb : pos < xs.length
  off : ∀ i, 0 < i → i < xs.length → i ≠ pos → (i - 1) / 2 ≠ pos → lt (xs.getD i 0) (xs.getD ((i - 1) / 2) 0) = false
  gp : 0 < pos → ∀ i, 0 < i → i < xs.length → (i - 1) / 2 = pos → lt (xs.getD i 0) (xs.getD ((pos - 1) / 2) 0) = false
theorem getD_set_self {v : Nat} (h : pos < xs.length) : (xs.set pos v).getD pos 0 = v := by simp [List.getD, h]
theorem getD_set_ne {v : Nat} (h : i ≠ pos) : (xs.set pos v).getD i 0 = xs.getD i 0 := by simp [List.getD, List.getElem?_set_ne (Ne.symm h)]
theorem perm_swap {u : Nat} (hp : pos < xs.length) (hc : c < xs.length) (hne : pos ≠ c) (hu : u = xs.getD c 0) : ((xs.set pos u).set c x).Perm (xs.set pos x) := by
  subst hu
  have key : ∀ (n : Nat) (l : List Nat) (p q : Nat), l.length = n → p < q → q < l.length → ∀ a, ((l.set p (l.getD q 0)).set q a).Perm (l.set p a) := by
    intro n
    induction n with
    | zero => intro l p q hl _ hq; omega
    | succ n ih =>
      intro l p q hl hpq hq a
      cases l with
      | nil => simp at hl
      | cons y l =>
        cases q with
        | zero => omega
        | succ q =>
          cases p with
          | zero =>
            simp only [List.getD_cons_succ, List.set_cons_zero, List.set_cons_succ]
            have hq' : q < l.length := by simpa using hq
            have e : l.set q a = l.take q ++ a :: l.drop (q + 1) := by rw [List.set_eq_take_append_cons_drop, if_pos hq']
            have e2 : l = l.take q ++ l.getD q 0 :: l.drop (q + 1) := by
              have : l.getD q 0 = l[q] := by simp [List.getD, hq']
              rw [this, List.getElem_cons_drop, List.take_append_drop]
            rw [e]
            have p1 : (l.getD q 0 :: (l.take q ++ a :: l.drop (q + 1))).Perm (a :: (l.take q ++ l.getD q 0 :: l.drop (q + 1))) := by
              refine (List.Perm.cons _ List.perm_middle).trans ?_
              refine (List.Perm.swap _ _ _).trans ?_
              exact List.Perm.cons _ List.perm_middle.symm
            rw [← e2] at p1
            exact p1
          | succ p =>
            simp only [List.getD_cons_succ, List.set_cons_succ]
            exact List.Perm.cons _ (ih l p q (by simpa using hl) (by omega) (by simpa using hq) a)
  rcases Nat.lt_or_gt_of_ne hne with h | h
  · exact key _ xs pos c rfl h hc x
  · have h2 := key _ (xs.set pos x) c pos (by rfl) h (by simpa using hp) (xs.getD c 0)
    have e1 : (xs.set pos x).getD pos 0 = x := getD_set_self hp
    rw [e1] at h2
    have e2 : ((xs.set pos x).set c x).set pos (xs.getD c 0) = (xs.set pos (xs.getD c 0)).set c x := by
      rw [List.set_comm _ _ (by omega : c ≠ pos), List.set_set]
    rw [e2] at h2
    have e3 : (xs.set pos x).set c (xs.getD c 0) = xs.set pos x := by
      rw [List.set_comm _ _ (by omega : pos ≠ c)]
      congr 1
      have : xs.getD c 0 = xs[c] := by simp [List.getD, hc]
      rw [this]; simp
    rw [e3] at h2
    exact h2
theorem Gap.up (O : Ordd lt) (G : Gap lt xs pos x) (hp : 0 < pos) (hl : lt x (xs.getD ((pos - 1) / 2) 0) = true) :
    Gap lt (xs.set pos (xs.getD ((pos - 1) / 2) 0)) ((pos - 1) / 2) x := by
  have hne : (pos - 1) / 2 ≠ pos := by omega
  have hpl : (pos - 1) / 2 < xs.length := by have := G.inb; omega
  refine ⟨by simpa using hpl, fun i h0 hi h1 h2 => ?_, fun i h0 hi h1 => ?_, fun hq i h0 hi h1 => ?_⟩
  · rw [List.length_set] at hi
    by_cases hip : i = pos
    · subst hip; exact absurd rfl h2
    · rw [getD_set_ne hip]
      by_cases hpp : (i - 1) / 2 = pos
      · rw [hpp, getD_set_self G.inb]; exact G.gp hp i h0 hi hpp
      · rw [getD_set_ne hpp]; exact G.off i h0 hi hip hpp
  · rw [List.length_set] at hi
    by_cases hip : i = pos
    · subst hip; rw [getD_set_self G.inb]; exact O.asym _ _ hl
    · rw [getD_set_ne hip]
      have h3 := G.off i h0 hi hip (by omega)
      rw [h1] at h3
      exact O.ntr _ _ _ (O.asym _ _ hl) h3
  · rw [List.length_set] at hi
    have hgp : ((pos - 1) / 2 - 1) / 2 ≠ pos := by omega
    rw [getD_set_ne hgp]
    have h4 := G.off ((pos - 1) / 2) hq hpl hne (by omega)
    by_cases hip : i = pos
    · subst hip; rw [getD_set_self G.inb]; exact h4
    · rw [getD_set_ne hip]
      have h3 := G.off i h0 hi hip (by omega)
      rw [h1] at h3
      exact O.ntr _ _ _ h4 h3
theorem Gap.fill (G : Gap lt xs pos x) (h : pos = 0 ∨ lt x (xs.getD ((pos - 1) / 2) 0) = false) : HeapL lt (xs.set pos x) := by
  intro i h0 hi
  rw [List.length_set] at hi
  by_cases hip : i = pos
  · subst hip
    rw [getD_set_self G.inb, getD_set_ne (by omega)]
    rcases h with h | h
    · omega
    · exact h
  · rw [getD_set_ne hip]
    by_cases hpp : (i - 1) / 2 = pos
    · rw [hpp, getD_set_self G.inb]; exact G.kid i h0 hi hpp
    · rw [getD_set_ne hpp]; exact G.off i h0 hi hip hpp
theorem Down.step (D : Down lt xs pos) (hc : c < xs.length) (hk : (c - 1) / 2 = pos) (h0 : 0 < c) (hmin : ∀ i, 0 < i → i < xs.length → (i - 1) / 2 = pos → lt (xs.getD i 0) (xs.getD c 0) = false) :
    Down lt (xs.set pos (xs.getD c 0)) c := by
  have hne : c ≠ pos := by omega
  refine ⟨by simpa using hc, fun i hi0 hi h1 h2 => ?_, fun _ i hi0 hi h1 => ?_⟩
  · rw [List.length_set] at hi
    by_cases hip : i = pos
    · subst hip
      rw [getD_set_self D.inb, getD_set_ne (by omega)]
      exact D.gp hi0 c h0 hc hk
    · rw [getD_set_ne hip]
      by_cases hpp : (i - 1) / 2 = pos
      · rw [hpp, getD_set_self D.inb]; exact hmin i hi0 hi hpp
      · rw [getD_set_ne hpp]; exact D.off i hi0 hi hip hpp
  · rw [List.length_set] at hi
    rw [hk, getD_set_self D.inb, getD_set_ne (by omega)]
    have h3 := D.off i hi0 hi (by omega) (by omega)
    rw [h1] at h3
    exact h3
theorem Down.gap (D : Down lt xs pos) (h : xs.length ≤ 2 * pos + 1) : Gap lt xs pos x :=
  ⟨D.inb, D.off, fun i h0 hi h1 => by omega, fun _ i h0 hi h1 => by omega⟩
theorem HeapL.push (H : HeapL lt xs) : Gap lt (xs ++ [x]) xs.length x := by
  refine ⟨by simp, fun i h0 hi h1 h2 => ?_, fun i h0 hi h1 => ?_, fun _ i h0 hi h1 => ?_⟩
  · simp only [List.length_append, List.length_cons, List.length_nil] at hi
    have e : ∀ j, j < xs.length → (xs ++ [x]).getD j 0 = xs.getD j 0 := fun j hj => by simp [List.getD, List.getElem?_append_left hj]
    rw [e i (by omega), e ((i - 1) / 2) (by omega)]
    exact H i h0 (by omega)
  · simp only [List.length_append, List.length_cons, List.length_nil] at hi; omega
  · simp only [List.length_append, List.length_cons, List.length_nil] at hi; omega
theorem HeapL.init {l : List Nat} (H : HeapL lt (l ++ [x])) : HeapL lt l := by
  intro i h0 hi
  have e : ∀ j, j < l.length → (l ++ [x]).getD j 0 = l.getD j 0 := fun j hj => by simp [List.getD, List.getElem?_append_left hj]
  have := H i h0 (by simp; omega)
  rw [e i hi, e ((i - 1) / 2) (by omega)] at this
  exact this
theorem HeapL.least (O : Ordd lt) (H : HeapL lt xs) : ∀ i, i < xs.length → lt (xs.getD i 0) (xs.getD 0 0) = false := by
  intro i
  induction i using Nat.strongRecOn with
  | ind i ih =>
    intro hi
    by_cases h0 : i = 0
    · subst h0; exact O.irr _
    · exact O.ntr _ _ _ (ih ((i - 1) / 2) (by omega) (by omega)) (H i (by omega) hi)
end
theorem Gap.lay {lt : Nat → Nat → Bool} {xs : List Nat} {pos x v : Nat} (G : Gap lt xs pos x) : Gap lt (xs.set pos v) pos x := by
  refine ⟨by simpa using G.inb, fun i h0 hi h1 h2 => ?_, fun i h0 hi h1 => ?_, fun hp i h0 hi h1 => ?_⟩
  · rw [List.length_set] at hi
    rw [getD_set_ne h1, getD_set_ne h2]; exact G.off i h0 hi h1 h2
  · rw [List.length_set] at hi
    rw [getD_set_ne (by omega)]; exact G.kid i h0 hi h1
  · rw [List.length_set] at hi
    rw [getD_set_ne (by omega), getD_set_ne (by omega)]; exact G.gp hp i h0 hi h1
end
section
variable {w : World} {s : Shared} {p : Program} {loose : List Str} {mean : ExcName → Option Value} {mg mb : Str → Option Value} {R : Result → Shared → Prop}
noncomputable def refs (as : List Nat) : List Value := as.map fun a => Value.ref a
theorem refs_length (as : List Nat) : (refs as).length = as.length := by simp [refs]
theorem refs_set (as : List Nat) (i x : Nat) : (refs as).set i (.ref x) = refs (as.set i x) := by simp [refs, List.map_set]
theorem refs_get {as : List Nat} {i : Nat} (h : i < as.length) : (refs as)[i]? = some (.ref (as.getD i 0)) := by simp [refs, List.getD, h]
noncomputable abbrev hobj (as : List Nat) (n : Nat) : Obj := W.listOf (refs as).toArray n
noncomputable def ovr (l : List (Str × Value)) (m : Str → Option Value) : Str → Option Value := fun y => match l.lookup y with | some v => some v | none => m y
theorem lookup_mem : ∀ {l : List (Str × Value)} {y : Str} {v : Value}, l.lookup y = some v → (y, v) ∈ l
  | [], _, _, h => by simp at h
  | (a, b) :: r, y, v, h => by
    rw [List.lookup_cons] at h
    cases e : y == a with
    | true =>
      rw [e] at h
      cases h
      rw [beq_iff_eq.mp e]
      exact .head _
    | false =>
      rw [e] at h
      exact .tail _ (lookup_mem h)
noncomputable def Told (m : Str → Option Value) (l : List (Str × Value)) : Prop := ∀ q ∈ l, m q.1 = some q.2
theorem ovr_eq {l : List (Str × Value)} {m : Str → Option Value} (h : Told m l) : ovr l m = m := by
  funext y
  unfold ovr
  cases e : l.lookup y with
  | none => rfl
  | some v => exact (h _ (lookup_mem e)).symm
noncomputable def ltK (key : Nat → Array UInt8 × Str) (a b : Nat) : Bool := pltB (key a).1 (key a).2 (key b).1 (key b).2
section
variable {A : Around} {E : Value → Shared → Prop} {h₀ : Heap} {L H D : Addr} {m : Str → Option Value} {news news' : List (Addr × Obj)} {as : List Nat} {n : Nat} {k : Int} {t u : Tok} {x : Nat}
theorem hp_get {value slice : PySem.Expr} {Q : Value → Shared → Prop} (N : News h₀ L s.heap news) (hm : (H, hobj as n) ∈ news) (h0 : 0 ≤ k) (h1 : k < as.length) (hfit : k < 2 ^ 63) (h : Q (.ref (as.getD k.toNat 0)) s)
    (hs : subscripted slice false (.ref H) (.int k u) = operate [.ref H, .int k u] (getItem (.ref H) (.int k u))) (hg : ∀ r, letTemporaryGo value (.ref H) r = pure ()) :
    wpAny (model prg w) A (subscriptTail value slice (.ref H) (.int k u)) Q E s :=
  kim_list N hm rfl rfl h0 hfit (refs_get (by omega)) h hs hg
theorem hp_set {Q : Unit → Shared → Prop} (F : Fr h₀ L s.heap m) (N : News h₀ L s.heap news) (U : Upd H (hobj as n) (hobj (as.set k.toNat x) n) news news') (h0 : 0 ≤ k) (h1 : k < as.length) (hfit : k < 2 ^ 63)
    (h : ∀ h', Fr h₀ L h' m → News h₀ L h' news' → Q () { s with heap := h' }) : wpAny (model prg w) A (setItem (.ref H) (.int k t) (.ref x)) Q E s := by
  obtain ⟨pre, post, rfl, rfl, a, b⟩ := U.split
  have z := N (H, hobj as n) (List.mem_append.mpr (.inr (.head _)))
  have hl := refs_length as
  refine ki_setAt z.1 h0 hfit (by rw [List.size_toArray]; omega) (h _ (F.change (Heap.SameBut.update ..) z.2.1 z.2.2) (ki_turn _ N a b ?_ ?_))
  · show (refs as).toArray.setIfInBounds k.toNat (.ref x) = (refs (as.set k.toNat x)).toArray
    apply Array.toList_inj.mp
    simp [← refs_set]
  · simp [refs]
theorem hp_lt {Q : Value → Shared → Prop} {key : Nat → Array UInt8 × Str} {a b : Nat} (hu : A.units < cLine) (F : Fr h₀ L s.heap m) (ha : PTup h₀ a (key a).1 (key a).2) (hb : PTup h₀ b (key b).1 (key b).2) (h : Q (.bool (ltK key a b)) s) :
    wpAny (model prg w) A (compareOp .Lt (.ref a) (.ref b)) Q E s := tup_lt hu (ha.keeps F.keep) (hb.keeps F.keep) h
theorem PTup.ne {h : Heap} {a H : Nat} {n' : Array UInt8} {l : Str} (x : PTup h a n' l) (hH : h.get? H = some (hobj as n)) : a ≠ H := by
  rintro rfl
  obtain ⟨o, _, _, _, ho, hc, _⟩ := x
  rw [hH] at ho
  cases ho
  exact absurd (Value.type.inj hc) (by decide)
theorem enterM {K : Frag} {name qual : Str} {params : Arguments} {body : List Stmt} {scope : Scope} {dV kV doc pm cdv ct oc : Value} {an od : Option Addr} {osl : Array (Option Value)} {f H : Nat} {o : Obj} {args : Args} (binds : List (Str × Value))
    (X : K.In h₀) (T : Top p loose mean mg mb h₀) (st : h₀.StaysIn s.heap) (hH0 : h₀.get? H = none) (hH : s.heap.get? H = some o)
    (ho : K.lookup f = some ⟨oc, od, .func (fnOf name qual params body scope dV kV doc pm an cdv ct), osl⟩) (hcd : codeIn K cdv qual = true) (hroom : A.depth < recursionLimit)
    (hbind : BindsTo s (fnOf name qual params body scope dV kV doc pm an cdv ct) args binds) (hloc : ∀ y ∈ binds, scope.names.lookup y.1 = some .local)
    (h : ∀ L h₁, Fr (s.heap.hide H) L h₁ (fun y => binds.reverse.lookup y) → News (s.heap.hide H) L h₁ [(H, o)] → K.In (s.heap.hide H) → Top p loose mean mg mb (s.heap.hide H) →
      wpAny (model prg w) (A.deeper (envOf qual scope L f cdv)) (execs body (envOf qual scope L f cdv))
        (fun fl s' => R (.ok (.ret (match fl with | .ret v => v | _ => .none))) s') (fun _ _ => False)
        { s with heap := h₁, toks := s.toks + binds.length })
    (hco : scope.isCoroutine = false) (hgen : scope.isGenerator = false) (hk : scope.kind = .function)
    (hcell : ∀ x ∈ scope.names, x.2 ≠ .cell) : codeAny (model prg w) A (.call (.ref f) args) R s := by
  have hb : h₀.StaysIn (s.heap.hide H) := fun b y e => hide_keeps (by rintro rfl; rw [hH0] at e; cases e) (st b y e)
  refine enter binds (X.keeps st) (T.keeps st).nolimit ho hcd hroom hbind hloc (fun L h₁ F N => ?_) hco hgen hk hcell
  refine h L h₁ ⟨F.ns, fun b y e => F.keep b y (Heap.of_hide e), by rw [Heap.hide_size]; exact F.above⟩ (fun q hq => ?_) (X.keeps hb) (T.keeps hb)
  rw [List.mem_singleton.mp hq]
  exact ⟨F.keep _ _ hH, Nat.ne_of_lt (Nat.lt_of_lt_of_le (Heap.lt_size hH) F.above), Heap.hide_self ..⟩
end
noncomputable def HOut (s : Shared) (H : Nat) (P : Value → List Nat → Prop) (v : Value) (s' : Shared) : Prop :=
  ∃ h' tk as' n', s' = { s with heap := h', toks := tk } ∧ h'.get? H = some (hobj as' n') ∧ P v as' ∧ ∀ b o, b ≠ H → s.heap.get? b = some o → h'.get? b = some o

noncomputable def Again (I : Nat → Shared → Prop) (n : Nat) (s : Shared) : Prop := ∃ m, m < n ∧ I m s
theorem for_inv {A : Around} {target : PySem.Expr} {it : Value} {body : List Stmt} {env : Env} (I : Nat → Shared → Prop)
    (turn : ∀ n s, I n s → wpAny (model prg w) A (pyNext it) (fun r s₁ => match r with
      | none => R (.ok .next) s₁
      | some v => wpAny (model prg w) A (letOwnedTupleGo target it v) (fun _ s₁ => wpAny (model prg w) A (assign target env v) (fun _ s₂ => wpAny (model prg w) A (execs body env) (fun f s₃ => match f with
          | .next | .cont => Again I n s₃
          | .brk => R (.ok .next) s₃
          | .ret v => R (.ok (.ret v)) s₃) (notedBy (model prg w) A env fun e s' => R (.error e) s') s₂) (notedBy (model prg w) A env fun e s' => R (.error e) s') s₁) (notedBy (model prg w) A env fun e s' => R (.error e) s') s₁) (notedBy (model prg w) A env fun e s' => R (.error e) s') s)
    (n : Nat) (h : I n s) : codeAny (model prg w) A (.forLoop target it body [] env) R s := by
  refine codeAny_forLoop_any I (fun n s hI => wpAny_mono (turn n s hI) (fun r s₁ h₁ => ?_) fun _ _ x => x) n h
  cases r with
  | none => exact wpAny_execs_nil h₁
  | some v => exact wpAny_mono h₁ (fun _ s₂ h₂ => wpAny_mono h₂ (fun _ s₃ h₃ => wpAny_mono h₃ (fun f s₄ h₄ => by cases f <;> exact h₄) fun _ _ x => x) fun _ _ x => x) fun _ _ x => x
noncomputable def KeysBut (g : Heap) (key : Nat → Array UInt8 × Str) (as : List Nat) (p : Nat) : Prop := ∀ i, i < as.length → i ≠ p → PTup g (as.getD i 0) (key (as.getD i 0)).1 (key (as.getD i 0)).2
theorem mem_getD {as : List Nat} {i : Nat} (h : i < as.length) : as.getD i 0 ∈ as := by
  have : as.getD i 0 = as[i] := by simp [List.getD, h]
  rw [this]; exact List.getElem_mem _
theorem keysBut {g : Heap} {key : Nat → Array UInt8 × Str} {as as' : List Nat} {p x : Nat} (hk : ∀ a ∈ as, PTup g a (key a).1 (key a).2) (hP : (as'.set p x).Perm as) : KeysBut g key as' p := fun i hi hne => by
  have hm : (as'.set p x).getD i 0 ∈ as'.set p x := mem_getD (by simpa using hi)
  rw [getD_set_ne hne] at hm
  exact hk _ (hP.mem_iff.mp hm)
section
variable {A : Around} {E : Value → Shared → Prop} {h₀ : Heap} {L : Addr} {m : Str → Option Value} {as : List Nat} {k j : Int} {x q : Nat} {key : Nat → Array UInt8 × Str} {Q : Value → Shared → Prop}
end
theorem told_nil {m : Str → Option Value} : Told m [] := fun _ h => nomatch h
theorem told_cons {m : Str → Option Value} {a : Str} {v : Value} {l : List (Str × Value)} (h : m a = some v) (r : Told m l) : Told m ((a, v) :: l) := fun q hq => by
  rcases List.mem_cons.mp hq with rfl | hq
  · exact h
  · exact r q hq
end
section
variable {w : World} {s : Shared} {p : Program} {loose : List Str} {mean : ExcName → Option Value} {mg mb : Str → Option Value} {R : Result → Shared → Prop}
section
variable {A : Around} {E : Value → Shared → Prop} {h₀ : Heap} {L : Addr} {H : Nat} {m : Str → Option Value} {news : List (Addr × Obj)} {as : List Nat} {n : Nat} {g : Obj → List (Addr × Obj)} {Q : Value → Shared → Prop}
theorem hp_len (N : News h₀ L s.heap news) (hm : (H, hobj as n) ∈ news) (hsz : as.length < 1000000) (h : Q (.int as.length (s.toks + 1)) { s with toks := s.toks + 1 + 1 }) : wpAny (model prg w) A (call (.builtin "len") [.ref H]) Q E s := by
  have e : (refs as).toArray.size = as.length := by simp [refs]
  exact len_list (items := (refs as).toArray) ⟨_, (N _ hm).1, rfl, n, rfl⟩ (by rw [e]; omega) (by rw [e]; exact h)
theorem useM {d u : Nat} {f : Value} {pos : List Value} {P : Value → List Nat → Prop} (F : Fr h₀ L s.heap m) (N : News h₀ L s.heap news) (U : UpdF H (hobj as n) news g)
    (hh : A.handled = none) (hd : A.depth ≤ d) (hu : A.units ≤ u)
    (c : ∀ R : Result → Shared → Prop, (∀ v s', HOut s H P v s' → R (.ok (.ret v)) s') → codeAny (model prg w) (AT d u) (.call f ⟨pos, []⟩) R s)
    (k : ∀ v h' tk as' n', P v as' → Fr h₀ L h' m → News h₀ L h' (g (hobj as' n')) → Q v { s with heap := h', toks := tk }) : wpAny (model prg w) A (call f pos) Q E s := by
  refine wpAny_call (codeAny_weaken (c _ fun v s' q => ?_) hh hd hu)
  obtain ⟨h', tk, as', n', rfl, ho, hp, hk⟩ := q
  obtain ⟨pre, post, rfl, eg, a, b⟩ := U.split
  have z := N (H, hobj as n) (List.mem_append.mpr (.inr (.head _)))
  obtain ⟨oL, a1, a2, hoL, a3⟩ := F.ns
  refine k v h' tk as' n' hp ⟨⟨oL, a1, a2, hk L oL (Ne.symm z.2.1) hoL, a3⟩, fun b' x e => hk b' x (fun hb => ?_) (F.keep b' x e), F.above⟩ ?_
  · have z2 := z.2.2
    rw [← hb, e] at z2
    cases z2
  · rw [eg]
    intro q hq
    rcases List.mem_append.mp hq with hq | hq
    · have y := N q (List.mem_append_left _ hq); exact ⟨hk _ _ (a q hq) y.1, y.2⟩
    · rcases List.mem_cons.mp hq with rfl | hq
      · exact ⟨ho, z.2⟩
      · have y := N q (List.mem_append_right _ (.tail _ hq)); exact ⟨hk _ _ (b q hq) y.1, y.2⟩
end
noncomputable def vals : List (Tok → Value) → (Nat → Tok) → List Value
  | [], _ => []
  | V :: F, ts => V (ts 0) :: vals F fun i => ts (i + 1)
structure PA (c : Ctx) (es : List PySem.Expr) (F : List (Tok → Value)) : Prop where
  go : ∀ (Q : List Value → Shared → Prop) (E : Value → Shared → Prop) pos tk, (∀ ts k, Q (vals F ts) (c.at k)) → wpAny (model prg c.w) c.A (spliced (backTo pos (starEach es c.env))) Q E (c.at tk)
section
variable {c c' : Ctx} {x fn : Str} {pos px pa pn : Pos} {a b e : PySem.Expr} {es : List PySem.Expr} {i : Int} {V : Tok → Value} {F : List (Tok → Value)} {Q : Flow → Shared → Prop} {E E2 : Value → Shared → Prop} {R : Result → Shared → Prop} {code : Code} {rest r2 : List Stmt} {H n d u : Nat} {f : Addr} {as : List Nat} {key : Nat → Array UInt8 × Str}
theorem PA.nil : PA c [] [] := ⟨fun _ _ _ tk k => args_nil (k (fun _ => 0) tk)⟩
theorem PA.cons (P : PE c e V) (R : PA c es F) (he : starEach (e :: es) c.env = (false, eval e c.env) :: starEach es c.env) : PA c (e :: es) (V :: F) :=
  ⟨fun _ _ _ _ k => args_cons (P.go _ _ _ fun t _ => R.go _ _ _ _ fun ts k' => k (fun | 0 => t | i + 1 => ts i) k') he⟩
theorem PE.hget (S : c.Ok) (hm : (H, hobj as n) ∈ c.news) (p : PE c a (fun _ => .ref H)) (q : PE c b (.int i)) (h : 0 ≤ i ∧ i < as.length ∧ i < 2 ^ 63)
    (hs : ∀ u, subscripted b false (.ref H) (.int i u) = operate [.ref H, .int i u] (getItem (.ref H) (.int i u))) (hg : ∀ r, letTemporaryGo a (.ref H) r = pure ()) : PE c (.Subscript a b pos) (fun _ => .ref (as.getD i.toNat 0)) :=
  ⟨fun _ _ _ k => Subscript_ (p.go _ _ _ fun _ _ => q.go _ _ _ fun _ k' => hp_get (s := c.at k') S.n hm h.1 h.2.1 h.2.2 (k 0 _) (hs _) hg)⟩
theorem PE.hlen (S : c.Ok) (G : Gl c.w c.h₀) (hm : (H, hobj as n) ∈ c.news) (gf : isGlo c.env (Str.ofString "len") = true) (g : nsIn (hdK c.w.params) mainGlobals (Str.ofString "len") = some none) (hl : isLoc c.env x = true) (hv : c.m x = some (.ref H)) (hz : as.length < 1000000) :
    PE c (.Call (.Name (Str.ofString "len") pn) [.Name x px] [] pa) (.int as.length) :=
  ⟨fun _ _ _ k => Call_ ((PE.bltG S G gf g (by boot_fast) (by decide)).go _ _ _ fun _ _ => PyProof.Rows.callWith_builtin1 (args_cons ((PE.locV S hl hv).go _ _ _ fun _ k' => args_nil (hp_len (s := c.at k') S.n hm hz (k _ _)))))⟩
theorem BE.tupLt {x y : Nat} (S : c.Ok) (hu : c.A.units < cLine) (p : PE c a (fun _ => .ref x)) (q : PE c b (fun _ => .ref y)) (hx : PTup c.h₀ x (key x).1 (key x).2) (hy : PTup c.h₀ y (key y).1 (key y).2) : BE c (.Compare a [.Lt] [b] pos) (ltK key x y) :=
  ⟨fun _ _ _ k => wpAny_isTrue_Compare1 (p.go _ _ _ fun _ _ => q.go _ _ _ fun _ k' => hp_lt (s := c.at k') hu S.f hx hy (wpAny_truthy_bool (k _))) (by cases b <;> first | rfl | (simp [behindInMarks]; done) | (unfold behindInMarks; decide))⟩
theorem BE.not {p : Bool} (P : BE c a p) : BE c (.UnaryOp .Not a pos) (!p) := ⟨fun _ _ _ k => wpAny_isTrue_Not (P.go _ _ _ fun _ => k _)⟩
theorem Run.hset {v : Nat} {l : List (Addr × Obj)} (S : c.Ok) (hs : swapsWith e (some (.Subscript a b px)) pos.line c.env = pure false) (P : PE c e (fun _ => .ref v)) (p : PE c a (fun _ => .ref H)) (q : PE c b (.int i)) (h : 0 ≤ i ∧ i < as.length ∧ i < 2 ^ 63) (U : Upd H (hobj as n) (hobj (as.set i.toNat v) n) c.news l)
    (k : ∀ h', let c' := c.led h' l; c'.Ok → Run c' rest Q E) : Run c (.Assign [.Subscript a b px] e pos :: rest) Q E :=
  ⟨fun tk => wpAny_execs_cons (wpAny_Assign_Subscript (P.go _ _ _ fun _ _ => p.go _ _ _ fun _ _ => q.go _ _ _ fun _ k' => hp_set (s := c.at k') S.f S.n U h.1 h.2.1 h.2.2 fun h' F' N' => (k h' ⟨F', N'⟩).go _) hs)⟩
theorem Run.breakT (h : c'.stat = c.stat) (k : Run c' rest Q E) : Run c' (.Break pos :: r2) (c.tQ code (c.bh rest Q E)) E2 := ⟨fun tk => by
  obtain ⟨h1, h2, h3⟩ := stat_of h
  refine wpAny_execs_cons (fun _ _ _ => ?_)
  show wpAny _ _ _ _ _ _
  have k := k.go tk
  unfold Ctx.M
  rw [← h1, ← h2, ← h3]
  exact k⟩
theorem Loop.told {l : List (Str × Value)} (h : Told c.m l) (k : Loop { c with m := ovr l c.m } code R) : Loop c code R := by
  rw [ovr_eq h] at k
  exact k
theorem Run.callM {g : Obj → List (Addr × Obj)} {P : Value → List Nat → Prop} (S : c.Ok) (G : Gl c.w c.h₀) (gf : isGlo c.env fn = true) (gn : GFn c.w fn f) (hA : AOk c.A d u) (hi : interactive c.env = false) (hs : swapsWith (.Call (.Name fn pn) (e :: es) [] pa) none pos.line c.env = pure false)
    (he : eval (.Call (.Name fn pn) (e :: es) [] pa) c.env = (do callWith pa (← eval (.Name fn pn) c.env) [] (backTo pa (starEach (e :: es) c.env)) (backToKw pa (keywordEach [] c.env)))) (hst : starEach (e :: es) c.env = (false, eval e c.env) :: starEach es c.env) (hpl : (backTo pa (starEach es c.env)).any (·.1) = false)
    (p : PA c (e :: es) F) (U : UpdF H (hobj as n) c.news g)
    (C : ∀ ts k (R : Result → Shared → Prop), (∀ v s', HOut (c.at k) H P v s' → R (.ok (.ret v)) s') → codeAny (model prg c.w) (AT d u) (.call (.ref f) ⟨vals F ts, []⟩) R (c.at k))
    (k : ∀ v h' as' n', P v as' → let c' := c.led h' (g (hobj as' n')); c'.Ok → Run c' rest Q E) : Run c (.Expr (.Call (.Name fn pn) (e :: es) [] pa) pos :: rest) Q E :=
  ⟨fun tk => wpAny_execs_cons (wpAny_Expr_any (Call_ ((PE.gloG S G gf gn.e).go _ _ _ fun _ _ => callWith_K (h₀ := c.h₀) G.1 gn.k (p.go _ _ _ _ fun ts k' => ⟨Frag.In.keeps G.1 S.f.keep, useM (s := c.at k') S.f S.n U hA.h hA.d hA.u (C ts k') fun v h' tk' as' n' hp F' N' => (k v h' as' n' hp ⟨F', N'⟩).go _⟩) hst hpl) he) hi hs)⟩
theorem enterMX {w : World} {s : Shared} {p : Program} {loose : List Str} {mean : ExcName → Option Value} {mg mb : Str → Option Value} {h₀ : Heap} {A : Around} {K : Frag} {name qual : Str} {params : Arguments} {body : List Stmt} {scope : Scope} {dV kV doc pm cdv ct oc : Value} {an od : Option Addr} {osl : Array (Option Value)} {f H : Nat} {o : Obj} {args : Args} (binds : List (Str × Value))
    (X : K.In h₀) (T : Top p loose mean mg mb h₀) (st : h₀.StaysIn s.heap) (hH0 : h₀.get? H = none) (hH : s.heap.get? H = some o)
    (ho : K.lookup f = some ⟨oc, od, .func (fnOf name qual params body scope dV kV doc pm an cdv ct), osl⟩) (hcd : codeIn K cdv qual = true) (hroom : A.depth < recursionLimit)
    (hbind : BindsTo s (fnOf name qual params body scope dV kV doc pm an cdv ct) args binds) (hloc : ∀ y ∈ binds, scope.names.lookup y.1 = some .local)
    (h : ∀ L h₁, let c : Ctx := ⟨w, A.deeper (envOf qual scope L f cdv), envOf qual scope L f cdv, s.heap.hide H, h₁, fun y => binds.reverse.lookup y, [(H, o)], s.gens, s.drawn, s.os⟩; c.Ok → K.In (s.heap.hide H) → Top p loose mean mg mb (s.heap.hide H) → Run c body (retQ R) (fun _ _ => False))
    (hco : scope.isCoroutine = false) (hgen : scope.isGenerator = false) (hk : scope.kind = .function)
    (hcell : ∀ x ∈ scope.names, x.2 ≠ .cell) : codeAny (model prg w) A (.call (.ref f) args) R s :=
  enterM binds X T st hH0 hH ho hcd hroom hbind hloc (fun L h₁ F N X' T' => (h L h₁ ⟨F, N⟩ X' T').go _) hco hgen hk hcell
end
theorem Loop.ind {ι : Type} {code : Code} {R : Result → Shared → Prop} (mk : ι → Ctx) (μ : ι → Nat) (I : ι → Prop)
    (step : ∀ i, (mk i).Ok → I i → (∀ j, μ j < μ i → (mk j).Ok → I j → Loop (mk j) code R) → Loop (mk i) code R) (i : ι) (S : (mk i).Ok) (h : I i) : Loop (mk i) code R := by
  have H : ∀ n i, μ i = n → (mk i).Ok → I i → Loop (mk i) code R := fun n => by
    induction n using Nat.strongRecOn with
    | ind n ih => exact fun i e S h => step i S h fun j hj S' h' => ih (μ j) (e ▸ hj) j rfl S' h'
  exact H _ i rfl S h
theorem bnd {p n : Nat} (h : p < n) (hn : n < 1000000) : 0 ≤ (p : Int) ∧ (p : Int) < n ∧ (p : Int) < 2 ^ 63 := ⟨by omega, by omega, by omega⟩
theorem bnd' {i : Int} {p n : Nat} (e : i = p) (h : p < n) (hn : n < 1000000) : 0 ≤ i ∧ i < n ∧ i < 2 ^ 63 := e ▸ bnd h hn
theorem half_sub {p : Nat} (h : 0 < p) : ((p : Int) - 1) / 2 = (((p - 1) / 2 : Nat) : Int) := by omega
theorem kid_l {p : Nat} : 2 * (p : Int) + 1 = ((2 * p + 1 : Nat) : Int) := by omega
theorem kid_r {p : Nat} : 2 * (p : Int) + 1 + 1 = ((2 * p + 2 : Nat) : Int) := by omega
theorem nat_ge {p : Int} {q : Nat} (h : p = (q : Int)) : p.toNat = q := by omega
section
variable {c : Ctx} {a b : PySem.Expr} {i j : Int} {pos : Pos}
theorem PE.mul (p : PE c a (.int i)) (q : PE c b (.int j)) (h : IntMulOk i j) : PE c (.BinOp a .Mult b pos) (.int (i * j)) := p.bin q fun _ _ _ _ _ k => P.mul_int k h
end
theorem BE.andF {c : Ctx} {a b : PySem.Expr} {pos : Pos} {p : Bool} (P : BE c a p) (hp : p = false) : BE c (.BoolOp .And [a, b] pos) false := ⟨fun _ _ _ k => wpAny_isTrue_BoolOp (wpAny_allTrue_And_cons (P.go _ _ _ fun _ => by subst hp; exact k _))⟩
theorem mem_ix {α : Type} {l : List α} {a : α} (i : Nat) (h : l[i]? = some a) : a ∈ l := List.mem_of_getElem? h
theorem tail_of {α : Type} {l r : List α} (n : Nat) (h : l.drop n = r) : ∀ q ∈ r, q ∈ l := fun q hq => List.mem_of_mem_drop (h ▸ hq)
end
section
theorem reset15 : True := by
  w_top off
  trivial
variable {w : World} {s : Shared} {p : Program} {loose : List Str} {mean : ExcName → Option Value} {mg mb : Str → Option Value} {R : Result → Shared → Prop}
theorem c_siftdown {key : Nat → Array UInt8 × Str} {h₀ : Heap} {H n pos : Nat} {as : List Nat} {t0 t1 : Tok} (O : Ordd (ltK key)) (X : (hdK w.params).In h₀) (T : Top p loose mean mg mb h₀) (st : h₀.StaysIn s.heap) (hH0 : h₀.get? H = none)
    (hH : s.heap.get? H = some (hobj as n)) (hk : ∀ a ∈ as, PTup s.heap a (key a).1 (key a).2) (hsz : as.length < 1000000) (G : Gap (ltK key) as pos (as.getD pos 0))
    (hR : ∀ v s', HOut s H (fun v as' => v = .none ∧ as'.Perm as ∧ HeapL (ltK key) as') v s' → R (.ok (.ret v)) s') :
    codeAny (model prg w) (AT 900 9000) (.call (.ref 130) ⟨[.ref H, .int 0 t0, .int pos t1], []⟩) R s := by
  have hpos := G.inb
  refine' enterMX [(Str.ofString "heap", .ref H), (Str.ofString "startpos", .int 0 t0), (Str.ofString "pos", .int pos t1)] X T st hH0 hH ?ho ?hcd (by decide) ?hb ?hl ?_ ?c1 ?c2 ?c3 ?c4
  ((case ho => k_is); (case hcd => k_is); (case hb => first | exact BindsTo.of_eq rfl | exact binds_K (by assumption) rfl (by k_is) rfl rfl rfl); (case hl => exact locs rfl); (case c1 => rfl); (case c2 => rfl); (case c3 => rfl); (case c4 => decide))
  intro L h₁ c S X' T'
  have hk' : ∀ a ∈ as, PTup (s.heap.hide H) a (key a).1 (key a).2 := fun a ha => by
    obtain ⟨o, t, u, k', ho, r⟩ := hk a ha
    exact ⟨o, t, u, k', hide_keeps (PTup.ne (hk a ha) hH) ho, r⟩
  have hx := hk' _ (mem_getD hpos)
  generalize hxe : as.getD pos 0 = x at hx G
  refine' Run.assign S rfl rfl (PE.hget S (.head _) (PE.locV S rfl rfl) (PE.locI S rfl rfl) (bnd hpos hsz) (fun _ => rfl) (fun _ => rfl)) ?_
  intro h' t c S
  refine Run.while ?_
  refine Loop.told (l := [(Str.ofString "heap", Value.ref H), (Str.ofString "startpos", .int 0 t0), (Str.ofString "pos", .int pos t1), (Str.ofString "newitem", .ref x)]) ?told
    (Loop.ind (ι := Nat × Heap × (Str → Option Value) × List Nat × Nat × Tok)
      (fun (p, h, m, as', n', t) => ⟨c.w, c.A, c.env, c.h₀, h, ovr [(Str.ofString "heap", Value.ref H), (Str.ofString "startpos", .int 0 t0), (Str.ofString "pos", .int p t), (Str.ofString "newitem", .ref x)] m, [(H, hobj as' n')], c.gs, c.dr, c.os⟩)
      (fun i => i.1) (fun (p, h, m, as', n', t) => Gap (ltK key) as' p x ∧ (as'.set p x).Perm as) ?step (pos, h', c.m, as, n, t1) ⟨by have := S.f; rw [← ovr_eq (l := [(Str.ofString "heap", Value.ref H), (Str.ofString "startpos", .int 0 t0), (Str.ofString "pos", .int pos t1), (Str.ofString "newitem", .ref x)]) (m := c.m) ?told] at this; exact this, S.n⟩ ⟨G, ?perm⟩)
  case told =>
    refine told_cons rfl (told_cons rfl (told_cons rfl (told_cons ?_ told_nil)))
    show some (Value.ref (as.getD ((pos : Int)).toNat 0)) = some (Value.ref x)
    rw [Int.toNat_natCast, hxe]
  case perm =>
    rw [← hxe]
    have : as.getD pos 0 = as[pos] := by simp [List.getD, hpos]
    rw [this]; simp
  case step =>
    rintro ⟨p, h, m, as', n', t⟩ S1 ⟨G1, hP⟩ ih
    dsimp only at S1 ih ⊢
    have hp1 := G1.inb
    have hlen : as'.length = as.length := by simpa using hP.length_eq
    have hK := keysBut hk' hP
    have hsz' : as'.length < 1000000 := by omega
    have fin : ∀ h' tk, Heap.StaysIn (s.heap.hide H) h' → h'.get? H = some (hobj (as'.set (p : Int).toNat x) n') → (p = 0 ∨ ltK key x (as'.getD ((p - 1) / 2) 0) = false) → R (.ok (.ret .none)) { s with heap := h', toks := tk } := fun h' tk F' N' hc => by
      rw [Int.toNat_natCast] at N'
      exact hR _ _ ⟨_, _, as'.set p x, n', rfl, N', ⟨rfl, hP, Gap.fill G1 hc⟩, fun b o hb e => F' b o (hide_keeps hb e)⟩
    by_cases hp0 : 0 < p
    · refine Loop.whileT (BE.gt (PE.locI S1 rfl rfl) (PE.locI S1 rfl rfl)) (decide_eq_true (by omega)) ?_
      refine Run.assign S1 rfl rfl (PE.shr (K := 2) (PE.sub (PE.locI S1 rfl rfl) PE.int) PE.int (by decide) (by decide) (by decide)) ?_
      intro h' t c S
      have e0 := half_sub hp0
      have h2 : (p - 1) / 2 < as'.length := by omega
      refine Run.assign S rfl rfl (PE.hget S (.head _) (PE.locV S rfl rfl) (PE.locI S rfl rfl) (bnd' e0 h2 (by omega)) (fun _ => rfl) (fun _ => rfl)) ?_
      intro h' t c S
      have e1 := nat_ge e0
      have hy := hK ((p - 1) / 2) h2 (by omega)
      rw [← e1] at hy
      cases hlt : ltK key x (as'.getD (((p : Int) - 1) / 2).toNat 0) with
      | true =>
        refine Run.ifT (BE.tupLt (key := key) S (by k_units) (PE.locV S rfl rfl) (PE.locV S rfl rfl) hx hy) hlt ?_
        dsimp only [List.cons_append, List.nil_append]
        refine' Run.hset S rfl (PE.locV S rfl rfl) (PE.locV S rfl rfl) (PE.locI S rfl rfl) ?B ?U ?_
        case U => k_upd
        case B => exact bnd hp1 hsz'
        intro h' c S
        refine Run.assign S rfl rfl (PE.locI S rfl rfl) ?_
        intro h' t c S
        refine Run.contT rfl ?_
        rw [e1] at hlt
        have tl : Told c.m [(Str.ofString "heap", Value.ref H), (Str.ofString "startpos", .int 0 t0), (Str.ofString "pos", .int (((p - 1) / 2 : Nat) : Int) t), (Str.ofString "newitem", .ref x)] :=
          told_cons rfl (told_cons rfl (told_cons (by rw [← e0]; rfl) (told_cons rfl told_nil)))
        refine Loop.told tl (ih ((p - 1) / 2, h', c.m, as'.set p (as'.getD (((p : Int) - 1) / 2).toNat 0), n', t) (by show (p - 1) / 2 < p; omega) ⟨by have := S.f; rw [← ovr_eq tl] at this; exact this, S.n⟩ ?_)
        show Gap (ltK key) (as'.set p (as'.getD (((p : Int) - 1) / 2).toNat 0)) ((p - 1) / 2) x ∧ _
        rw [e1]
        exact ⟨Gap.up O G1 hp0 hlt, (perm_swap hp1 (by omega) (by omega) rfl).trans hP⟩
      | false =>
        refine Run.ifF (BE.tupLt (key := key) S (by k_units) (PE.locV S rfl rfl) (PE.locV S rfl rfl) hx hy) hlt ?_
        dsimp only [List.nil_append]
        refine Run.breakT rfl ?_
        refine' Run.hset S rfl (PE.locV S rfl rfl) (PE.locV S rfl rfl) (PE.locI S rfl rfl) ?B ?U ?_
        case U => k_upd
        case B => exact bnd hp1 hsz'
        intro h' c S
        rw [e1] at hlt
        exact Run.nil fun tk => fin _ _ S.f.keep (S.n _ (.head _)).1 (.inr hlt)
    · refine Loop.whileF rfl (BE.gt (PE.locI S1 rfl rfl) (PE.locI S1 rfl rfl)) (decide_eq_false (by omega)) ?_
      refine' Run.hset S1 rfl (PE.locV S1 rfl rfl) (PE.locV S1 rfl rfl) (PE.locI S1 rfl rfl) ?B ?U ?_
      case U => k_upd
      case B => exact bnd hp1 hsz'
      intro h' c S
      exact Run.nil fun tk => fin _ _ S.f.keep (S.n _ (.head _)).1 (.inl (by omega))
end
section
theorem reset16 : True := by
  w_top off
  trivial
variable {w : World} {s : Shared} {p : Program} {loose : List Str} {mean : ExcName → Option Value} {mg mb : Str → Option Value} {R : Result → Shared → Prop}
theorem g_siftdown : GFn w (Str.ofString "_siftdown") 130 := ⟨by k_is, by k_is⟩
theorem g_len : nsIn (hdK w.params) mainGlobals (Str.ofString "len") = some none := by k_is
theorem c_siftup {key : Nat → Array UInt8 × Str} {h₀ : Heap} {H n : Nat} {as : List Nat} {t1 : Tok} (O : Ordd (ltK key)) (X : (hdK w.params).In h₀) (T : Top p loose mean mg mb h₀) (st : h₀.StaysIn s.heap) (hH0 : h₀.get? H = none)
    (hH : s.heap.get? H = some (hobj as n)) (hk : ∀ a ∈ as, PTup s.heap a (key a).1 (key a).2) (hsz : as.length < 1000000) (hD : Down (ltK key) as 0)
    (hR : ∀ v s', HOut s H (fun v as' => v = .none ∧ as'.Perm as ∧ HeapL (ltK key) as') v s' → R (.ok (.ret v)) s') :
    codeAny (model prg w) (AT 890 8900) (.call (.ref 137) ⟨[.ref H, .int 0 t1], []⟩) R s := by
  have hpos := hD.inb
  refine' enterMX [(Str.ofString "heap", .ref H), (Str.ofString "pos", .int 0 t1)] X T st hH0 hH ?ho ?hcd (by decide) ?hb ?hl ?_ ?c1 ?c2 ?c3 ?c4
  ((case ho => k_is); (case hcd => k_is); (case hb => first | exact BindsTo.of_eq rfl | exact binds_K (by assumption) rfl (by k_is) rfl rfl rfl); (case hl => exact locs rfl); (case c1 => rfl); (case c2 => rfl); (case c3 => rfl); (case c4 => decide))
  intro L h₁ c S X' T'
  have GG : Gl c.w c.h₀ := Gl.mk' X' T'
  have hk' : ∀ a ∈ as, PTup (s.heap.hide H) a (key a).1 (key a).2 := fun a ha => by
    obtain ⟨o, t, u, k', ho, r⟩ := hk a ha
    exact ⟨o, t, u, k', hide_keeps (PTup.ne (hk a ha) hH) ho, r⟩
  have hx := hk' _ (mem_getD hpos)
  generalize hxe : as.getD 0 0 = x at hx
  refine Run.assign S rfl rfl (PE.hlen S GG (.head _) rfl g_len rfl rfl hsz) ?_
  intro h' t c S
  refine Run.assign S rfl rfl (PE.locI S rfl rfl) ?_
  intro h' t c S
  refine Run.assign S rfl rfl (PE.hget S (.head _) (PE.locV S rfl rfl) (PE.locI S rfl rfl) (bnd (p := 0) hpos hsz) (fun _ => rfl) (fun _ => rfl)) ?_
  intro h' t c S
  refine Run.assign S rfl rfl (PE.add (PE.mul PE.int (PE.locI S rfl rfl) (by mul_fits)) PE.int) ?_
  intro h' t c S
  refine Run.while ?_
  obtain ⟨u1, hu1⟩ : ∃ u, c.m (Str.ofString "endpos") = some (.int as.length u) := ⟨_, rfl⟩
  obtain ⟨s1, hs1⟩ : ∃ u, c.m (Str.ofString "startpos") = some (.int 0 u) := ⟨_, rfl⟩
  have tl : Told c.m [(Str.ofString "heap", Value.ref H), (Str.ofString "startpos", .int 0 s1), (Str.ofString "pos", .int ((0 : Nat) : Int) t1), (Str.ofString "newitem", .ref x), (Str.ofString "endpos", .int as.length u1), (Str.ofString "childpos", .int (2 * ((0 : Nat) : Int) + 1) t)] :=
    told_cons rfl (told_cons hs1 (told_cons rfl (told_cons (congrArg (fun z => some (Value.ref z)) hxe) (told_cons hu1 (told_cons rfl told_nil)))))
  refine Loop.told tl (Loop.ind (ι := Nat × Heap × (Str → Option Value) × List Nat × Nat × Tok × Tok × Tok × Tok)
      (fun i => ⟨c.w, c.A, c.env, c.h₀, i.2.1, ovr [(Str.ofString "heap", Value.ref H), (Str.ofString "startpos", .int 0 i.2.2.2.2.2.2.2.2), (Str.ofString "pos", .int ((i.1 : Nat) : Int) i.2.2.2.2.2.1), (Str.ofString "newitem", .ref x), (Str.ofString "endpos", .int as.length i.2.2.2.2.2.2.1), (Str.ofString "childpos", .int (2 * ((i.1 : Nat) : Int) + 1) i.2.2.2.2.2.2.2.1)] i.2.2.1, [(H, hobj i.2.2.2.1 i.2.2.2.2.1)], c.gs, c.dr, c.os⟩)
      (fun i => as.length - i.1) (fun i => Down (ltK key) i.2.2.2.1 i.1 ∧ (i.2.2.2.1.set i.1 x).Perm as) ?step (0, h', c.m, as, n, t1, u1, t, s1) ⟨by have := S.f; rw [← ovr_eq tl] at this; exact this, S.n⟩ ⟨hD, ?perm⟩)
  case perm =>
    show (as.set 0 x).Perm as
    rw [← hxe]
    have : as.getD 0 0 = as[0] := by simp [List.getD, hpos]
    rw [this]; simp
  case step =>
    rintro ⟨p, h, m, as', n', t, u, v, ts⟩ S1 ⟨G1, hP⟩ ih
    dsimp only at S1 ih G1 hP ⊢
    have hp1 := G1.inb
    have hlen : as'.length = as.length := by simpa using hP.length_eq
    have hK := keysBut hk' hP
    have hsz' : as'.length < 1000000 := by omega
    have e1 := @kid_l p
    have e2 := @kid_r p
    have O1 := O.irr
    by_cases hw : 2 * p + 1 < as'.length
    · refine Loop.whileT (BE.lt (PE.locI S1 rfl rfl) (PE.locI S1 rfl rfl)) (decide_eq_true (by omega)) ?_
      refine Run.assign S1 rfl rfl (PE.add (PE.locI S1 rfl rfl) PE.int) ?_
      intro h' t' c S
      have step2 : ∀ q, q < as'.length → (q - 1) / 2 = p → 0 < q → (∀ i, 0 < i → i < as'.length → (i - 1) / 2 = p → ltK key (as'.getD i 0) (as'.getD q 0) = false) → Down (ltK key) (as'.set p (as'.getD q 0)) q ∧ ((as'.set p (as'.getD q 0)).set q x).Perm as :=
        fun q h1 h2 h3 h4 => ⟨Down.step G1 h1 h2 h3 h4, (perm_swap hp1 h1 (by omega) rfl).trans hP⟩
      by_cases hr : 2 * p + 2 < as'.length
      · have hyl := hK (2 * p + 1) hw (by omega)
        have hyr := hK (2 * p + 2) hr (by omega)
        cases hlt : ltK key (as'.getD (2 * p + 1) 0) (as'.getD (2 * p + 2) 0) with
        | true =>
          rw [← nat_ge e1] at hyl hlt
          rw [← nat_ge e2] at hyr hlt
          refine Run.ifF (BE.and (BE.lt (PE.locI S rfl rfl) (PE.locI S rfl rfl)) (BE.not (BE.tupLt (key := key) S (by k_units) (PE.hget S (.head _) (PE.locV S rfl rfl) (PE.locI S rfl rfl) (bnd' e1 hw hsz') (fun _ => rfl) (fun _ => rfl)) (PE.hget S (.head _) (PE.locV S rfl rfl) (PE.locI S rfl rfl) (bnd' e2 hr hsz') (fun _ => rfl) (fun _ => rfl)) hyl hyr))) (by rw [hlt]; simp) ?_
          dsimp only [List.nil_append]
          rw [nat_ge e1, nat_ge e2] at hlt
          have eq := e1
          have hq := hw
          ((refine' Run.hset S rfl (PE.hget S (.head _) (PE.locV S rfl rfl) (PE.locI S rfl rfl) (bnd' eq hq hsz') (fun _ => rfl) (fun _ => rfl)) (PE.locV S rfl rfl) (PE.locI S rfl rfl) ?B ?U ?_); (case U => k_upd); (case B => exact bnd hp1 hsz'); intro h' c S; (refine Run.assign S rfl rfl (PE.locI S rfl rfl) ?_); intro h' t c S; (refine Run.assign S rfl rfl (PE.add (PE.mul PE.int (PE.locI S rfl rfl) (by mul_fits)) PE.int) ?_); intro h' t c S; (refine Run.turn rfl ?_))
          refine Loop.told (told_cons rfl (told_cons rfl (told_cons (by first | rfl | (rw [← eq]; rfl)) (told_cons rfl (told_cons rfl (told_cons (by first | rfl | (rw [← eq]; rfl)) told_nil))))) : Told c.m [(Str.ofString "heap", Value.ref H), (Str.ofString "startpos", .int 0 ts), (Str.ofString "pos", .int ((2 * p + 1 : Nat) : Int) _), (Str.ofString "newitem", .ref x), (Str.ofString "endpos", .int as.length u), (Str.ofString "childpos", .int (2 * ((2 * p + 1 : Nat) : Int) + 1) _)]) (ih (2 * p + 1, h', c.m, as'.set p (as'.getD (2 * (p : Int) + 1).toNat 0), n', _, u, _, ts) (by show as.length - (2 * p + 1) < as.length - p; omega) ⟨by have := S.f; rw [← ovr_eq (told_cons rfl (told_cons rfl (told_cons (by first | rfl | (rw [← eq]; rfl)) (told_cons rfl (told_cons rfl (told_cons (by first | rfl | (rw [← eq]; rfl)) told_nil))))) : Told c.m [(Str.ofString "heap", Value.ref H), (Str.ofString "startpos", .int 0 ts), (Str.ofString "pos", .int ((2 * p + 1 : Nat) : Int) _), (Str.ofString "newitem", .ref x), (Str.ofString "endpos", .int as.length u), (Str.ofString "childpos", .int (2 * ((2 * p + 1 : Nat) : Int) + 1) _)])] at this; exact this, S.n⟩ ?_)
          show Down _ (as'.set p (as'.getD (2 * (p : Int) + 1).toNat 0)) _ ∧ _
          rw [nat_ge e1]
          refine step2 _ hw (by omega) (by omega) fun i h0 hi hpi => ?_
          rcases (show i = 2 * p + 1 ∨ i = 2 * p + 2 by omega) with rfl | rfl
          · exact O.irr _
          · exact O.asym _ _ hlt
        | false =>
          rw [← nat_ge e1] at hyl hlt
          rw [← nat_ge e2] at hyr hlt
          refine Run.ifT (BE.and (BE.lt (PE.locI S rfl rfl) (PE.locI S rfl rfl)) (BE.not (BE.tupLt (key := key) S (by k_units) (PE.hget S (.head _) (PE.locV S rfl rfl) (PE.locI S rfl rfl) (bnd' e1 hw hsz') (fun _ => rfl) (fun _ => rfl)) (PE.hget S (.head _) (PE.locV S rfl rfl) (PE.locI S rfl rfl) (bnd' e2 hr hsz') (fun _ => rfl) (fun _ => rfl)) hyl hyr))) (by rw [hlt, decide_eq_true (by omega)]; rfl) ?_
          dsimp only [List.cons_append, List.nil_append]
          rw [nat_ge e1, nat_ge e2] at hlt
          refine Run.assign S rfl rfl (PE.locI S rfl rfl) ?_
          intro h' t' c S
          have eq := e2
          have hq := hr
          ((refine' Run.hset S rfl (PE.hget S (.head _) (PE.locV S rfl rfl) (PE.locI S rfl rfl) (bnd' eq hq hsz') (fun _ => rfl) (fun _ => rfl)) (PE.locV S rfl rfl) (PE.locI S rfl rfl) ?B ?U ?_); (case U => k_upd); (case B => exact bnd hp1 hsz'); intro h' c S; (refine Run.assign S rfl rfl (PE.locI S rfl rfl) ?_); intro h' t c S; (refine Run.assign S rfl rfl (PE.add (PE.mul PE.int (PE.locI S rfl rfl) (by mul_fits)) PE.int) ?_); intro h' t c S; (refine Run.turn rfl ?_))
          refine Loop.told (told_cons rfl (told_cons rfl (told_cons (by first | rfl | (rw [← eq]; rfl)) (told_cons rfl (told_cons rfl (told_cons (by first | rfl | (rw [← eq]; rfl)) told_nil))))) : Told c.m [(Str.ofString "heap", Value.ref H), (Str.ofString "startpos", .int 0 ts), (Str.ofString "pos", .int ((2 * p + 2 : Nat) : Int) _), (Str.ofString "newitem", .ref x), (Str.ofString "endpos", .int as.length u), (Str.ofString "childpos", .int (2 * ((2 * p + 2 : Nat) : Int) + 1) _)]) (ih (2 * p + 2, h', c.m, as'.set p (as'.getD (2 * (p : Int) + 1 + 1).toNat 0), n', _, u, _, ts) (by show as.length - (2 * p + 2) < as.length - p; omega) ⟨by have := S.f; rw [← ovr_eq (told_cons rfl (told_cons rfl (told_cons (by first | rfl | (rw [← eq]; rfl)) (told_cons rfl (told_cons rfl (told_cons (by first | rfl | (rw [← eq]; rfl)) told_nil))))) : Told c.m [(Str.ofString "heap", Value.ref H), (Str.ofString "startpos", .int 0 ts), (Str.ofString "pos", .int ((2 * p + 2 : Nat) : Int) _), (Str.ofString "newitem", .ref x), (Str.ofString "endpos", .int as.length u), (Str.ofString "childpos", .int (2 * ((2 * p + 2 : Nat) : Int) + 1) _)])] at this; exact this, S.n⟩ ?_)
          show Down _ (as'.set p (as'.getD (2 * (p : Int) + 1 + 1).toNat 0)) _ ∧ _
          rw [nat_ge e2]
          refine step2 _ hr (by omega) (by omega) fun i h0 hi hpi => ?_
          rcases (show i = 2 * p + 1 ∨ i = 2 * p + 2 by omega) with rfl | rfl
          · exact hlt
          · exact O.irr _
      · refine Run.ifF (BE.andF (BE.lt (PE.locI S rfl rfl) (PE.locI S rfl rfl)) (decide_eq_false (by omega))) rfl ?_
        dsimp only [List.nil_append]
        have eq := e1
        have hq := hw
        ((refine' Run.hset S rfl (PE.hget S (.head _) (PE.locV S rfl rfl) (PE.locI S rfl rfl) (bnd' eq hq hsz') (fun _ => rfl) (fun _ => rfl)) (PE.locV S rfl rfl) (PE.locI S rfl rfl) ?B ?U ?_); (case U => k_upd); (case B => exact bnd hp1 hsz'); intro h' c S; (refine Run.assign S rfl rfl (PE.locI S rfl rfl) ?_); intro h' t c S; (refine Run.assign S rfl rfl (PE.add (PE.mul PE.int (PE.locI S rfl rfl) (by mul_fits)) PE.int) ?_); intro h' t c S; (refine Run.turn rfl ?_))
        refine Loop.told (told_cons rfl (told_cons rfl (told_cons (by first | rfl | (rw [← eq]; rfl)) (told_cons rfl (told_cons rfl (told_cons (by first | rfl | (rw [← eq]; rfl)) told_nil))))) : Told c.m [(Str.ofString "heap", Value.ref H), (Str.ofString "startpos", .int 0 ts), (Str.ofString "pos", .int ((2 * p + 1 : Nat) : Int) _), (Str.ofString "newitem", .ref x), (Str.ofString "endpos", .int as.length u), (Str.ofString "childpos", .int (2 * ((2 * p + 1 : Nat) : Int) + 1) _)]) (ih (2 * p + 1, h', c.m, as'.set p (as'.getD (2 * (p : Int) + 1).toNat 0), n', _, u, _, ts) (by show as.length - (2 * p + 1) < as.length - p; omega) ⟨by have := S.f; rw [← ovr_eq (told_cons rfl (told_cons rfl (told_cons (by first | rfl | (rw [← eq]; rfl)) (told_cons rfl (told_cons rfl (told_cons (by first | rfl | (rw [← eq]; rfl)) told_nil))))) : Told c.m [(Str.ofString "heap", Value.ref H), (Str.ofString "startpos", .int 0 ts), (Str.ofString "pos", .int ((2 * p + 1 : Nat) : Int) _), (Str.ofString "newitem", .ref x), (Str.ofString "endpos", .int as.length u), (Str.ofString "childpos", .int (2 * ((2 * p + 1 : Nat) : Int) + 1) _)])] at this; exact this, S.n⟩ ?_)
        show Down _ (as'.set p (as'.getD (2 * (p : Int) + 1).toNat 0)) _ ∧ _
        rw [nat_ge e1]
        refine step2 _ hw (by omega) (by omega) fun i h0 hi hpi => ?_
        rcases (show i = 2 * p + 1 by omega) with rfl
        exact O.irr _
    · refine Loop.whileF rfl (BE.lt (PE.locI S1 rfl rfl) (PE.locI S1 rfl rfl)) (decide_eq_false (by omega)) ?_
      refine' Run.hset S1 rfl (PE.locV S1 rfl rfl) (PE.locV S1 rfl rfl) (PE.locI S1 rfl rfl) ?B ?U ?_
      case U => k_upd
      case B => exact bnd hp1 hsz'
      intro h' c S
      have hxl : (as'.set p x).getD p 0 = x := getD_set_self hp1
      have g0 : Gap (ltK key) (as'.set p x) p ((as'.set p x).getD p 0) := by rw [hxl]; exact Gap.lay (Down.gap G1 (by omega))
      refine' Run.callM (H := H) (as := as'.set p x) (n := n') S GG rfl g_siftdown ⟨rfl, Nat.le_of_ble_eq_true rfl, Nat.le_of_ble_eq_true rfl⟩ rfl rfl rfl rfl rfl (PA.cons (PE.locV S rfl rfl) (PA.cons (PE.locI S rfl rfl) (PA.cons (PE.locI S rfl rfl) PA.nil rfl) rfl) rfl) ?U
        (fun ts k R hR => c_siftdown (s := c.at k) (h₀ := s.heap.hide H) O X' T' S.f.keep (Heap.hide_self ..) (S.n _ (.head _)).1 (fun a ha => (hk' a (hP.mem_iff.mp ha)).keeps S.f.keep) (by simp; omega) g0 hR) ?_
      case U => k_updF
      rintro v' h' as2 n2 ⟨rfl, hP2, hH2⟩ c S
      exact Run.nil fun tk => hR _ _ ⟨_, _, as2, n2, rfl, (S.n _ (.head _)).1, ⟨rfl, hP2.trans hP, hH2⟩, fun b o hb e => S.f.keep b o (hide_keeps hb e)⟩
end
section
variable {w : World} {s : Shared} {p : Program} {loose : List Str} {mean : ExcName → Option Value} {mg mb : Str → Option Value} {R : Result → Shared → Prop}
section
variable {A : Around} {E : Value → Shared → Prop} {h₀ : Heap} {L : Addr} {H : Nat} {m : Str → Option Value} {news news' : List (Addr × Obj)} {as : List Nat} {n x : Nat} {Q : Value → Shared → Prop}
theorem kl_last_append : ∀ (l : List Value) (y : Value), kl_last (l ++ [y]) = some (l, y)
  | [], _ => rfl
  | a :: l, y => by
    show kl_last (a :: (l ++ [y])) = _
    rw [kl_last, kl_last_append l y]
theorem hp_pop (F : Fr h₀ L s.heap m) (N : News h₀ L s.heap news) (U : Upd H (hobj (as ++ [x]) n) (hobj as (n + 1)) news news') (hsz : as.length < 1000000)
    (h : ∀ h', Fr h₀ L h' m → News h₀ L h' news' → Q (.ref x) { s with heap := h' }) : wpAny (model prg w) A (call (.builtin "list.pop") [.ref H]) Q E s := by
  have e : (refs (as ++ [x])).toArray.toList = refs as ++ [.ref x] := by simp [refs]
  refine kl_pop F N (its := (refs (as ++ [x])).toArray) (n := n) (p := refs as) (y := .ref x) ?_ U ?_ h
  · rw [e]; exact kl_last_append _ _
  · rw [e, List.length_append, refs_length]
    exact Nat.le_trans (Nat.succ_le_of_lt hsz) (Nat.le_of_ble_eq_true rfl)
theorem hp_truthy0 {Q : Bool → Shared → Prop} (N : News h₀ L s.heap news) (hm : (H, hobj [] n) ∈ news) (h : Q false { s with toks := s.toks + 1 + 1 }) : wpAny (model prg w) A (truthy (.ref H)) Q E s :=
  wpAny_truthy_list (items := (refs []).toArray) ⟨_, (N _ hm).1, rfl, n, rfl⟩ (by decide) h
theorem hp_truthy1 {Q : Bool → Shared → Prop} (N : News h₀ L s.heap news) (hm : (H, hobj as n) ∈ news) (h0 : 0 < as.length) (hsz : as.length < 1000000) (h : Q true { s with toks := s.toks + 1 + 1 }) : wpAny (model prg w) A (truthy (.ref H)) Q E s := by
  have e : (refs as).toArray.size = as.length := by simp [refs]
  refine wpAny_truthy_list (items := (refs as).toArray) ⟨_, (N _ hm).1, rfl, n, rfl⟩ (by rw [e]; omega) ?_
  have e3 : (!(refs as).toArray.isEmpty) = true := by
    cases as with
    | nil => exact absurd h0 (by simp)
    | cons a r => simp [refs]
  rw [e3]; exact h
end
end
section
variable {w : World} {s : Shared} {p : Program} {loose : List Str} {mean : ExcName → Option Value} {mg mb : Str → Option Value} {R : Result → Shared → Prop}
noncomputable def tailOf (h₀ : Heap) (L : Addr) (h : Heap) (ex : List (Addr × Obj)) : List (Addr × Obj) :=
  (List.range h.objs.size).filterMap fun b => match h.get? b with
    | some o => if b ≠ L ∧ (∀ p ∈ ex, p.1 ≠ b) ∧ h₀.get? b = none then some (b, o) else none
    | none => none
theorem mem_tailOf {h₀ : Heap} {L : Addr} {h : Heap} {ex : List (Addr × Obj)} {b : Addr} {o : Obj} : (b, o) ∈ tailOf h₀ L h ex ↔ h.get? b = some o ∧ b ≠ L ∧ (∀ p ∈ ex, p.1 ≠ b) ∧ h₀.get? b = none := by
  unfold tailOf
  rw [List.mem_filterMap]
  constructor
  · rintro ⟨a, _, e⟩
    split at e
    · rename_i o' ho
      split at e
      · rename_i hc
        cases e
        exact ⟨ho, hc⟩
      · cases e
    · cases e
  · rintro ⟨ho, hc⟩
    refine ⟨b, List.mem_range.mpr (Heap.lt_size ho), ?_⟩
    rw [ho]
    simp only
    rw [if_pos hc]
theorem ledger {h₀ : Heap} {L : Addr} {h : Heap} {m : Str → Option Value} (F : Fr h₀ L h m) (ex : List (Addr × Obj)) (N : News h₀ L h ex) :
    ∃ fz, News h₀ L h (ex ++ fz) ∧ (∀ p ∈ ex, ∀ q ∈ fz, q.1 ≠ p.1) ∧ (∀ b o, h.get? b = some o → b ≠ L → h₀.get? b = none → (∀ p ∈ ex, p.1 ≠ b) → (b, o) ∈ fz) ∧ ∀ h' : Heap, (∀ b o, h₀.get? b = some o → h'.get? b = some o) → (∀ q ∈ fz, h'.get? q.1 = some q.2) → ∀ b o, b ≠ L → (∀ p ∈ ex, p.1 ≠ b) → h.get? b = some o → h'.get? b = some o := by
  refine ⟨tailOf h₀ L h ex, fun p hp => ?_, fun p hp q hq => ?_, fun b o ho hb hn he => mem_tailOf.mpr ⟨ho, hb, he, hn⟩, fun h' hk hf b o hb he ho => ?_⟩
  · rcases List.mem_append.mp hp with hp | hp
    · exact N p hp
    · obtain ⟨b, o⟩ := p
      have z := mem_tailOf.mp hp
      exact ⟨z.1, z.2.1, z.2.2.2⟩
  · obtain ⟨b, o⟩ := q
    exact Ne.symm ((mem_tailOf.mp hq).2.2.1 p hp)
  · cases e : h₀.get? b with
    | none => exact hf (b, o) (mem_tailOf.mpr ⟨ho, hb, he, e⟩)
    | some o' =>
      have := F.keep b o' e
      rw [ho] at this
      cases this
      exact hk b o e
theorem ne_of_cls {h : Heap} {a b : Addr} {o o' : Obj} (ha : h.get? a = some o) (hb : h.get? b = some o') (hc : o.cls ≠ o'.cls) : a ≠ b := by
  rintro rfl
  rw [ha] at hb
  cases hb
  exact hc rfl
theorem for_enum {A : Around} {elts : List PySem.Expr} {x1} {pos : Pos} {body : List Stmt} {env : Env} {E I l L : Addr} {items : Array Value} (J : Nat → Shared → Prop) (hh : A.handled = none) (hne : E ≠ I)
    (hl : ∀ i s, J i s → s.heap.IsList l items) (hL : ∀ i s, J i s → L < s.heap.objs.size)
    (stab : ∀ i s h' tk, J i s → (∀ b o, b ≠ E → b ≠ I → s.heap.get? b = some o → h'.get? b = some o) → J i { s with heap := h', toks := tk })
    (he : IsEnum s.heap E I (0 : Nat) .none) (hi : s.heap.IsListIter I l 0) (h0 : J 0 s)
    (step : ∀ i v s₁ T t, items[i]? = some v → J i s₁ → s₁.heap.get? T = some { cls := .type "tuple", data := .seq #[.int (i : Nat) t, v] } → L < T → IsEnum s₁.heap E I ((i + 1 : Nat) : Int) v → s₁.heap.IsListIter I l (i + 1) →
      wpAny (model prg w) A (assign (.Tuple elts x1 pos) env (.ref T)) (fun _ s₂ => wpAny (model prg w) A (execs body env) (fun f s₃ => (f = .next ∨ f = .cont) ∧ J (i + 1) s₃ ∧ s₃.heap.get? E = s₁.heap.get? E ∧ s₃.heap.get? I = s₁.heap.get? I)
        (notedBy (model prg w) A env fun e s' => R (.error e) s') s₂) (notedBy (model prg w) A env fun e s' => R (.error e) s') s₁)
    (hR : ∀ s', J items.size s' → R (.ok .next) s') : codeAny (model prg w) A (.forLoop (.Tuple elts x1 pos) (.ref E) body [] env) R s := by
  refine for_inv (fun n s' => ∃ i old, n = items.size - i ∧ i ≤ items.size ∧ IsEnum s'.heap E I (i : Nat) old ∧ s'.heap.IsListIter I l i ∧ J i s') ?_ items.size ⟨0, .none, rfl, Nat.zero_le _, he, hi, h0⟩
  rintro n s' ⟨i, old, rfl, hle, he', hi', hJ⟩
  by_cases hlt : i < items.size
  · have hx : items[i]? = some items[i] := by simp [hlt]
    refine wpAny_pyNext_enum_item he' hi' (hl _ _ hJ) hx hne fun h' e1 e2 e3 e4 e5 => ?_
    show wpAny _ _ (letOwnedTupleGo _ _ _) _ _ _
    refine wpAny_letOwnedTupleGo_enum e1 fun h'' f1 f2 => ?_
    have hsz := hL _ _ hJ
    have hEs : E < s'.heap.objs.size := Heap.lt_size he'
    have hIs : I < s'.heap.objs.size := by obtain ⟨o, ho, _⟩ := hi'; exact Heap.lt_size ho
    have hJ2 : J i { s' with heap := h'', toks := s'.toks + 1 } := stab _ _ _ _ hJ fun b o h1 h2 h3 => (f2.2 b h1).trans (e5 b o h1 h2 h3)
    have hI2 : Heap.IsListIter h'' I l (i + 1) := by obtain ⟨o, ho, r⟩ := e2; exact ⟨o, (f2.2 I (Ne.symm hne)).trans ho, r⟩
    have hE2 : IsEnum h'' E I ((i + 1 : Nat) : Int) items[i] := by simpa using f1
    refine wpAny_mono (step i _ _ s'.heap.objs.size s'.toks hx hJ2 ((f2.2 _ (Ne.symm (Nat.ne_of_lt hEs))).trans e3) hsz hE2 hI2) (fun _ s₂ h₂ => wpAny_mono h₂ (fun f s₃ h₃ => ?_) fun _ _ x => x) fun _ _ x => x
    obtain ⟨hf, hJ3, g1, g2⟩ := h₃
    have ag : Again (fun n s' => ∃ i old, n = items.size - i ∧ i ≤ items.size ∧ IsEnum s'.heap E I (i : Nat) old ∧ s'.heap.IsListIter I l i ∧ J i s') (items.size - i) s₃ := by
      refine ⟨items.size - (i + 1), by omega, i + 1, _, rfl, by omega, g1.trans hE2, ?_, hJ3⟩
      obtain ⟨o, ho, r⟩ := hI2
      exact ⟨o, g2.trans ho, r⟩
    rcases hf with rfl | rfl <;> exact ag
  · have hx : items[i]? = none := by simp; omega
    refine wpAny_pyNext_enum_end hh he' hi' (hl _ _ hJ) hx fun h' e1 => ?_
    have hi3 : i = items.size := by omega
    subst hi3
    exact hR _ (stab _ _ h' s'.toks hJ fun b o _ h2 h3 => e1 b o h2 h3)
end
local macro_rules | `(tactic| k_all) => `(tactic| assumption)
section
variable {w : World} {s : Shared} {p : Program} {loose : List Str} {mean : ExcName → Option Value} {mg mb : Str → Option Value} {R : Result → Shared → Prop}
noncomputable def LJ {X : Type} (g : Heap) (s : Shared) (L : Addr) (told : X → List (Str × Value)) (led : X → List (Addr × Obj)) (Φ : Nat → Heap → X → Prop) (i : Nat) (s' : Shared) : Prop :=
  ∃ x h tk m, s' = { s with heap := h, toks := tk } ∧ Fr g L h m ∧ Told m (told x) ∧ News g L h (led x) ∧ Φ i h x
noncomputable def LEnd {X : Type} (g : Heap) (s : Shared) (L : Addr) (told : X → List (Str × Value)) (led : X → List (Addr × Obj)) (Φ : Nat → Heap → X → Prop) (i : Nat) (adr : List Addr) (ex fz : List (Addr × Obj)) (h : Heap) (s₃ : Shared) : Prop :=
  ∃ x' h' tk' m' news', s₃ = { s with heap := h', toks := tk' } ∧ Fr g L h' m' ∧ Told m' (told x') ∧ News g L h' news' ∧ (∀ q ∈ ex, q ∈ news') ∧ (∀ q ∈ led x', q ∈ news') ∧ (∀ q ∈ fz, q ∈ news') ∧
    ((∀ b o, b ≠ L → (∀ a ∈ adr, a ≠ b) → h.get? b = some o → h'.get? b = some o) → Φ (i + 1) h' x')
theorem fr_but {h₀ h h' : Heap} {L : Addr} {m : Str → Option Value} {E I : Addr} (F : Fr h₀ L h m) (hE : E ≠ L) (hI : I ≠ L) (hE0 : h₀.get? E = none) (hI0 : h₀.get? I = none)
    (k : ∀ b o, b ≠ E → b ≠ I → h.get? b = some o → h'.get? b = some o) : Fr h₀ L h' m := by
  obtain ⟨oL, a1, a2, hoL, a3⟩ := F.ns
  refine ⟨⟨oL, a1, a2, k L oL (Ne.symm hE) (Ne.symm hI) hoL, a3⟩, fun b o e => k b o ?_ ?_ (F.keep b o e), F.above⟩
  · rintro rfl; rw [hE0] at e; cases e
  · rintro rfl; rw [hI0] at e; cases e
theorem none_above {h : Heap} {a : Addr} (le : h.objs.size ≤ a) : h.get? a = none := by
  cases e : h.get? a with
  | none => rfl
  | some o => exact absurd (Heap.lt_size e) (Nat.not_lt.mpr le)
section
variable {X : Type} {g : Heap} {L : Addr} {told : X → List (Str × Value)} {led : X → List (Addr × Obj)} {Φ : Nat → Heap → X → Prop} {adr : List Addr} {i : Nat}
theorem adr_mem (hadr : ∀ x, (led x).map (·.1) = adr) {x : X} {q : Addr × Obj} (hq : q ∈ led x) : q.1 ∈ adr := hadr x ▸ List.mem_map.mpr ⟨q, hq, rfl⟩
theorem mem_adr (hadr : ∀ x, (led x).map (·.1) = adr) {x : X} {a : Addr} (ha : a ∈ adr) : ∃ q ∈ led x, q.1 = a := List.mem_map.mp (hadr x ▸ ha)
theorem LJ.stab {s' : Shared} {E I : Addr} {h' : Heap} {tk : Nat} (hadr : ∀ x, (led x).map (·.1) = adr) (hE : E ≠ L) (hI : I ≠ L) (hE0 : g.get? E = none) (hI0 : g.get? I = none) (hEa : ∀ a ∈ adr, a ≠ E) (hIa : ∀ a ∈ adr, a ≠ I)
    (hst : ∀ i h h' x, Φ i h x → (∀ b o, b ≠ E → b ≠ I → h.get? b = some o → h'.get? b = some o) → Φ i h' x)
    (k : ∀ b o, b ≠ E → b ≠ I → s'.heap.get? b = some o → h'.get? b = some o) (hJ : LJ g s L told led Φ i s') : LJ g s L told led Φ i { s' with heap := h', toks := tk } := by
  obtain ⟨x, h, tk0, m, rfl, F, hm, N, hp⟩ := hJ
  refine ⟨x, h', tk, m, rfl, fr_but F hE hI hE0 hI0 k, hm, fun q hq => ?_, hst _ _ _ _ hp k⟩
  have z := N q hq
  have ha := adr_mem hadr hq
  exact ⟨k _ _ (hEa _ ha) (hIa _ ha) z.1, z.2⟩
theorem lj_open {s' : Shared} (hadr : ∀ x, (led x).map (·.1) = adr) (hJ : LJ g s L told led Φ i s') (ex : List (Addr × Obj)) (hex : ∀ p ∈ ex, s'.heap.get? p.1 = some p.2 ∧ p.1 ≠ L ∧ g.get? p.1 = none) :
    ∃ x h tk m fz, s' = { s with heap := h, toks := tk } ∧ Fr g L h (ovr (told x) m) ∧ News g L h (ex ++ (led x ++ fz)) ∧ (∀ q ∈ fz, (∀ a ∈ adr, q.1 ≠ a) ∧ ∀ p ∈ ex, q.1 ≠ p.1) ∧ (∀ b o, h.get? b = some o → b ≠ L → g.get? b = none → (∀ a ∈ adr, a ≠ b) → (∀ p ∈ ex, p.1 ≠ b) → (b, o) ∈ fz) ∧ Φ i h x ∧
      ∀ s₃, LEnd g s L told led Φ i adr ex fz h s₃ → LJ g s L told led Φ (i + 1) s₃ ∧ ∀ p ∈ ex, s₃.heap.get? p.1 = some p.2 := by
  obtain ⟨x, h, tk, m, rfl, F, hm, N, hp⟩ := hJ
  have N0 : News g L h (ex ++ led x) := fun q hq => by
    rcases List.mem_append.mp hq with hq | hq
    · exact hex q hq
    · exact N q hq
  obtain ⟨fz, NN, hfz, hal, keep⟩ := ledger F (ex ++ led x) N0
  refine ⟨x, h, tk, m, fz, rfl, by rw [ovr_eq hm]; exact F, by rw [← List.append_assoc]; exact NN, fun q hq => ⟨fun a ha => ?_, fun p hp' => hfz p (List.mem_append_left _ hp') q hq⟩, fun b o ho hb hn h1 h2 => hal b o ho hb hn fun p hp' => ?_, hp, ?_⟩
  · obtain ⟨r, hr, rfl⟩ := mem_adr (x := x) hadr ha
    exact hfz r (List.mem_append_right _ hr) q hq
  · rcases List.mem_append.mp hp' with hp' | hp'
    · exact h2 p hp'
    · exact h1 _ (adr_mem hadr hp')
  · rintro s₃ ⟨x', h', tk', m', news', rfl, F', hm', N', e1, e2, e3, e4⟩
    refine ⟨⟨x', h', tk', m', rfl, F', hm', fun q hq => N' q (e2 q hq), e4 fun b o hb h1 hbo => ?_⟩, fun p hp' => (N' p (e1 p hp')).1⟩
    by_cases hc : ∃ p ∈ ex, p.1 = b
    · obtain ⟨p, hp', rfl⟩ := hc
      have z := (N0 p (List.mem_append_left _ hp')).1
      rw [hbo] at z
      cases z
      exact (N' p (e1 p hp')).1
    · refine keep h' F'.keep (fun q hq => (N' q (e3 q hq)).1) b o hb (fun p hp' => ?_) hbo
      rcases List.mem_append.mp hp' with hp' | hp'
      · exact fun e => hc ⟨p, hp', e⟩
      · exact h1 _ (adr_mem hadr hp')
end
section
variable {X : Type} {g : Heap} {L : Addr} {told : X → List (Str × Value)} {led : X → List (Addr × Obj)} {Φ : Nat → Heap → X → Prop} {adr : List Addr} {A : Around} {body : List Stmt} {env : Env} {I l : Addr} {s0 : Shared}
theorem itsAt {h : Heap} {I l : Addr} {i : Nat} (x : h.IsListIter I l i) : ∃ o, h.get? I = some o ∧ o.cls = .type "list_iterator" ∧ ∀ h' : Heap, h'.get? I = some o → h'.IsListIter I l i := by
  obtain ⟨o, ho, hc, hd⟩ := x
  exact ⟨o, ho, hc, fun h' e => ⟨o, e, hc, hd⟩⟩
theorem for_listJ {target : PySem.Expr} {items : Array Value} (hh : A.handled = none) (htg : ∀ v, letOwnedTupleGo target (.ref I) v = pure ()) (hadr : ∀ x, (led x).map (·.1) = adr) (hIL : I ≠ L) (hI0 : g.get? I = none) (hIa : ∀ a ∈ adr, a ≠ I)
    (hl : g.IsList l items) (hst : ∀ i h h' x, Φ i h x → (∀ b o, b ≠ I → h.get? b = some o → h'.get? b = some o) → Φ i h' x)
    (hi : s0.heap.IsListIter I l 0) (h0 : LJ g s L told led Φ 0 s0)
    (step : ∀ i v oI x h tk m fz, items[i]? = some v → oI.cls = .type "list_iterator" → Fr g L h (ovr (told x) m) → News g L h ((I, oI) :: (led x ++ fz)) → (∀ q ∈ fz, (∀ a ∈ adr, q.1 ≠ a) ∧ ∀ p ∈ [(I, oI)], q.1 ≠ p.1) → (∀ b o, h.get? b = some o → b ≠ L → g.get? b = none → (∀ a ∈ adr, a ≠ b) → (∀ p ∈ [(I, oI)], p.1 ≠ b) → (b, o) ∈ fz) → Φ i h x →
      wpAny (model prg w) A (assign target env v) (fun _ s₂ => wpAny (model prg w) A (execs body env) (fun f s₃ => (f = .next ∨ f = .cont) ∧ LEnd g s L told led Φ i adr [(I, oI)] fz h s₃)
        (notedBy (model prg w) A env fun e s' => R (.error e) s') s₂) (notedBy (model prg w) A env fun e s' => R (.error e) s') { s with heap := h, toks := tk })
    (hR : ∀ s', LJ g s L told led Φ items.size s' → R (.ok .next) s') : codeAny (model prg w) A (.forLoop target (.ref I) body [] env) R s0 := by
  have base : ∀ i s', LJ g s L told led Φ i s' → s'.heap.IsList l items := by
    rintro i s' ⟨x, h, tk, m, rfl, F, _⟩
    obtain ⟨o, ho, r⟩ := hl
    exact ⟨o, F.keep _ _ ho, r⟩
  refine for_inv (fun n s' => ∃ i, n = items.size - i ∧ i ≤ items.size ∧ s'.heap.IsListIter I l i ∧ LJ g s L told led Φ i s') ?_ items.size ⟨0, rfl, Nat.zero_le _, hi, h0⟩
  rintro n s' ⟨i, rfl, hle, hi', hJ⟩
  by_cases hlt : i < items.size
  · have hx : items[i]? = some items[i] := by simp [hlt]
    refine wpAny_pyNext_list_item hi' (base _ _ hJ) hx fun h' e1 e2 => ?_
    show wpAny _ _ (letOwnedTupleGo _ _ _) _ _ _
    refine wpAny_of_eq (htg _) ?_
    have hJ2 : LJ g s L told led Φ i { s' with heap := h', toks := s'.toks } := LJ.stab hadr hIL hIL hI0 hI0 hIa hIa (fun i h h' x hp k => hst i h h' x hp fun b o hb e => k b o hb hb e) (fun b o hb _ e => e2.extBut b o hb e) hJ
    obtain ⟨oI, ho, hc, hoI⟩ := itsAt e1
    obtain ⟨x, h, tk, m, fz, he, F, N, hfz, hal, hp, fin⟩ := lj_open hadr hJ2 [(I, oI)] (by
      intro p hp
      rw [List.mem_singleton.mp hp]
      exact ⟨ho, hIL, hI0⟩)
    have he' : ({ s' with heap := h' } : Shared) = { s with heap := h, toks := tk } := he
    rw [he']
    refine wpAny_mono (step i _ oI x h tk m fz hx hc F N hfz hal hp) (fun _ s₂ h₂ => wpAny_mono h₂ (fun f s₃ h₃ => ?_) fun _ _ x => x) fun _ _ x => x
    obtain ⟨hf, h₃⟩ := h₃
    obtain ⟨hJ3, hE⟩ := fin _ h₃
    have ag : Again (fun n s' => ∃ i, n = items.size - i ∧ i ≤ items.size ∧ s'.heap.IsListIter I l i ∧ LJ g s L told led Φ i s') (items.size - i) s₃ :=
      ⟨items.size - (i + 1), by omega, i + 1, rfl, by omega, hoI _ (hE _ (.head _)), hJ3⟩
    rcases hf with rfl | rfl <;> exact ag
  · have hx : items[i]? = none := by simp; omega
    refine wpAny_pyNext_list_end hh hi' (base _ _ hJ) hx fun h' e1 => ?_
    have hi3 : i = items.size := by omega
    subst hi3
    exact hR _ (LJ.stab hadr hIL hIL hI0 hI0 hIa hIa (fun i h h' x hp k => hst i h h' x hp fun b o hb e => k b o hb hb e) (fun b o hb _ e => e1 b o hb e) hJ)
theorem for_rangeJ {target : PySem.Expr} {n : Nat} (hh : A.handled = none) (htg : ∀ v, letOwnedTupleGo target (.ref I) v = pure ()) (hadr : ∀ x, (led x).map (·.1) = adr) (hIL : I ≠ L) (hI0 : g.get? I = none) (hIa : ∀ a ∈ adr, a ≠ I)
    (hst : ∀ i h h' x, Φ i h x → (∀ b o, b ≠ I → h.get? b = some o → h'.get? b = some o) → Φ i h' x)
    (hi : IsRangeIter s0.heap I 0 n 1) (h0 : LJ g s L told led Φ 0 s0)
    (step : ∀ (i : Nat) t oI x h tk m fz, i < n → oI.cls = .type "range_iterator" → Fr g L h (ovr (told x) m) → News g L h ((I, oI) :: (led x ++ fz)) → (∀ q ∈ fz, (∀ a ∈ adr, q.1 ≠ a) ∧ ∀ p ∈ [(I, oI)], q.1 ≠ p.1) → (∀ b o, h.get? b = some o → b ≠ L → g.get? b = none → (∀ a ∈ adr, a ≠ b) → (∀ p ∈ [(I, oI)], p.1 ≠ b) → (b, o) ∈ fz) → Φ i h x →
      wpAny (model prg w) A (assign target env (.int i t)) (fun _ s₂ => wpAny (model prg w) A (execs body env) (fun f s₃ => (f = .next ∨ f = .cont) ∧ LEnd g s L told led Φ i adr [(I, oI)] fz h s₃)
        (notedBy (model prg w) A env fun e s' => R (.error e) s') s₂) (notedBy (model prg w) A env fun e s' => R (.error e) s') { s with heap := h, toks := tk })
    (hR : ∀ s', LJ g s L told led Φ n s' → R (.ok .next) s') : codeAny (model prg w) A (.forLoop target (.ref I) body [] env) R s0 := by
  refine for_inv (fun k s' => ∃ i : Nat, k = n - i ∧ i ≤ n ∧ IsRangeIter s'.heap I i ((n - i : Nat) : Int) 1 ∧ LJ g s L told led Φ i s') ?_ n ⟨0, rfl, Nat.zero_le _, hi, h0⟩
  rintro k s' ⟨i, rfl, hle, hi', hJ⟩
  by_cases hlt : i < n
  · refine wpAny_pyNext_range_item hi' (by omega) fun h' e1 e2 => ?_
    show wpAny _ _ (letOwnedTupleGo _ _ _) _ _ _
    refine wpAny_of_eq (htg _) ?_
    have hJ2 : LJ g s L told led Φ i { s' with heap := h', toks := s'.toks + 1 } := LJ.stab hadr hIL hIL hI0 hI0 hIa hIa (fun i h h' x hp k => hst i h h' x hp fun b o hb e => k b o hb hb e) (fun b o hb _ e => e2.extBut b o hb e) hJ
    have e1' : IsRangeIter h' I ((i + 1 : Nat) : Int) ((n - (i + 1) : Nat) : Int) 1 := by
      have q : (((n - i : Nat) : Int) - 1) = ((n - (i + 1) : Nat) : Int) := by omega
      rw [q] at e1
      simpa using e1
    obtain ⟨x, h, tk, m, fz, he, F, N, hfz, hal, hp, fin⟩ := lj_open hadr hJ2 [(I, _)] (by
      intro p hp
      rw [List.mem_singleton.mp hp]
      exact ⟨e1', hIL, hI0⟩)
    rw [he]
    refine wpAny_mono (step i _ _ x h tk m fz hlt rfl F N hfz hal hp) (fun _ s₂ h₂ => wpAny_mono h₂ (fun f s₃ h₃ => ?_) fun _ _ x => x) fun _ _ x => x
    obtain ⟨hf, h₃⟩ := h₃
    obtain ⟨hJ3, hE⟩ := fin _ h₃
    have ag : Again (fun k s' => ∃ i : Nat, k = n - i ∧ i ≤ n ∧ IsRangeIter s'.heap I i ((n - i : Nat) : Int) 1 ∧ LJ g s L told led Φ i s') (n - i) s₃ :=
      ⟨n - (i + 1), by omega, i + 1, rfl, by omega, hE _ (.head _), hJ3⟩
    rcases hf with rfl | rfl <;> exact ag
  · refine wpAny_pyNext_range_end hh hi' (by omega) fun h' e1 => ?_
    have hi3 : i = n := by omega
    subst hi3
    exact hR _ (LJ.stab hadr hIL hIL hI0 hI0 hIa hIa (fun i h h' x hp k => hst i h h' x hp fun b o hb e => k b o hb hb e) (fun b o hb _ e => e1 b o hb e) hJ)
theorem for_enumJ {elts : List PySem.Expr} {x1} {pos : Pos} {E : Addr} {items : Array Value} (hh : A.handled = none) (hadr : ∀ x, (led x).map (·.1) = adr) (hEI : E ≠ I) (hEL : E ≠ L) (hE0 : g.get? E = none) (hEa : ∀ a ∈ adr, a ≠ E) (hIL : I ≠ L) (hI0 : g.get? I = none) (hIa : ∀ a ∈ adr, a ≠ I)
    (hl : g.IsList l items) (hst : ∀ i h h' x, Φ i h x → (∀ b o, b ≠ E → b ≠ I → h.get? b = some o → h'.get? b = some o) → Φ i h' x)
    (he : IsEnum s0.heap E I (0 : Nat) .none) (hi : s0.heap.IsListIter I l 0) (h0 : LJ g s L told led Φ 0 s0)
    (hadT : ∀ (x : X), ∀ q ∈ led x, q.2.cls ≠ .type "tuple")
    (step : ∀ i v T t oE oI x h tk m fz, items[i]? = some v → T ≠ E → T ≠ I → (∀ a ∈ adr, T ≠ a) → oI.cls = .type "list_iterator" → Fr g L h (ovr (told x) m) → News g L h ((T, { cls := .type "tuple", data := .seq #[.int (i : Nat) t, v] }) :: (E, oE) :: (I, oI) :: (led x ++ fz)) →
      (∀ q ∈ fz, (∀ a ∈ adr, q.1 ≠ a) ∧ ∀ p ∈ [(T, ({ cls := .type "tuple", data := .seq #[.int (i : Nat) t, v] } : Obj)), (E, oE), (I, oI)], q.1 ≠ p.1) → (∀ b o, h.get? b = some o → b ≠ L → g.get? b = none → (∀ a ∈ adr, a ≠ b) → (∀ p ∈ [(T, ({ cls := .type "tuple", data := .seq #[.int (i : Nat) t, v] } : Obj)), (E, oE), (I, oI)], p.1 ≠ b) → (b, o) ∈ fz) → Φ i h x →
      wpAny (model prg w) A (assign (.Tuple elts x1 pos) env (.ref T)) (fun _ s₂ => wpAny (model prg w) A (execs body env) (fun f s₃ => (f = .next ∨ f = .cont) ∧ LEnd g s L told led Φ i adr [(T, { cls := .type "tuple", data := .seq #[.int (i : Nat) t, v] }), (E, oE), (I, oI)] fz h s₃)
        (notedBy (model prg w) A env fun e s' => R (.error e) s') s₂) (notedBy (model prg w) A env fun e s' => R (.error e) s') { s with heap := h, toks := tk })
    (hR : ∀ s', LJ g s L told led Φ items.size s' → R (.ok .next) s') : codeAny (model prg w) A (.forLoop (.Tuple elts x1 pos) (.ref E) body [] env) R s0 := by
  refine for_enum (L := L) (LJ g s L told led Φ) hh hEI ?_ ?_ ?_ he hi h0 ?_ hR
  · rintro i s' ⟨x, h, tk, m, rfl, F, _⟩
    obtain ⟨o, ho, r⟩ := hl
    exact ⟨o, F.keep _ _ ho, r⟩
  · rintro i s' ⟨x, h, tk, m, rfl, F, _⟩
    exact F.ns.lt
  · intro i s' h' tk hJ k
    exact LJ.stab hadr hEL hIL hE0 hI0 hEa hIa hst k hJ
  · intro i v s₁ T t hv hJ hT hLT hE1 hI1
    obtain ⟨oI, ho, hc, hoI⟩ := itsAt hI1
    have nE : T ≠ E := ne_of_cls hT hE1 (fun e => absurd (Value.type.inj e) (by decide))
    have nI : T ≠ I := ne_of_cls hT ho (by rw [hc]; exact fun e => absurd (Value.type.inj e) (by decide))
    have nA : ∀ a ∈ adr, T ≠ a := by
      obtain ⟨x, h, tk, m, rfl, F, hm, N, hp⟩ := hJ
      intro a ha
      obtain ⟨q, hq, rfl⟩ := mem_adr (x := x) hadr ha
      exact ne_of_cls hT (N q hq).1 (Ne.symm (hadT x q hq))
    have hT0 : g.get? T = none := by
      obtain ⟨x, h, tk, m, rfl, F, hm, N, hp⟩ := hJ
      exact none_above (Nat.le_of_lt (Nat.lt_of_le_of_lt F.above hLT))
    obtain ⟨x, h, tk, m, fz, rfl, F, N, hfz, hal, hp, fin⟩ := lj_open hadr hJ [(T, { cls := .type "tuple", data := .seq #[.int (i : Nat) t, v] }), (E, _), (I, oI)] (by
      intro p hp
      simp only [List.mem_cons, List.not_mem_nil, or_false] at hp
      rcases hp with rfl | rfl | rfl
      · exact ⟨hT, Nat.ne_of_gt hLT, hT0⟩
      · exact ⟨hE1, hEL, hE0⟩
      · exact ⟨ho, hIL, hI0⟩)
    refine wpAny_mono (step i _ T t _ oI x h tk m fz hv nE nI nA hc F N hfz hal hp) (fun _ s₂ h₂ => wpAny_mono h₂ (fun f s₃ h₃ => ?_) fun _ _ x => x) fun _ _ x => x
    obtain ⟨hf, h₃⟩ := h₃
    obtain ⟨hJ3, hX⟩ := fin _ h₃
    exact ⟨hf, hJ3, (hX _ (.tail _ (.head _))).trans (N _ (.tail _ (.head _))).1.symm, (hX _ (.tail _ (.tail _ (.head _)))).trans (N _ (.tail _ (.tail _ (.head _)))).1.symm⟩
end
section
variable {A : Around} {E : Value → Shared → Prop} {h₀ : Heap} {L l : Addr} {news : List (Addr × Obj)} {n : Nat} {j : Int} {u : Tok} {v0 v1 : Value} {Q : Value → Shared → Prop}
theorem item2 {value slice : PySem.Expr} (N : News h₀ L s.heap news) (hm : (l, W.listOf #[v0, v1] n) ∈ news) (hb : j = 0 ∨ j = 1) (h0 : j = 0 → Q v0 s) (h1 : j = 1 → Q v1 s)
    (hs : subscripted slice false (.ref l) (.int j u) = operate [.ref l, .int j u] (getItem (.ref l) (.int j u))) (hg : ∀ r, letTemporaryGo value (.ref l) r = pure ()) :
    wpAny (model prg w) A (subscriptTail value slice (.ref l) (.int j u)) Q E s := by
  rcases hb with rfl | rfl
  · exact kim_list N hm rfl rfl (by decide) (by decide) rfl (h0 rfl) hs hg
  · exact kim_list N hm rfl rfl (by decide) (by decide) rfl (h1 rfl) hs hg
theorem item2s {a b : Str} {ta tb : Tok} {value slice : PySem.Expr} (N : News h₀ L s.heap news) (hm : (l, W.listOf #[.str a ta, .str b tb] n) ∈ news) (hb : j = 0 ∨ j = 1) (h : ∀ t, Q (.str (if j = 1 then b else a) t) s)
    (hs : subscripted slice false (.ref l) (.int j u) = operate [.ref l, .int j u] (getItem (.ref l) (.int j u))) (hg : ∀ r, letTemporaryGo value (.ref l) r = pure ()) :
    wpAny (model prg w) A (subscriptTail value slice (.ref l) (.int j u)) Q E s := by
  refine item2 N hm hb (fun e => ?_) (fun e => ?_) hs hg
  · subst e; exact h ta
  · subst e; exact h tb
theorem bit01 (y : Int) : y.fmod 2 = 0 ∨ y.fmod 2 = 1 := by
  rw [Int.fmod_eq_emod_of_nonneg _ (by omega)]; omega
end
end
section
variable {w : World} {s : Shared} {p : Program} {loose : List Str} {mean : ExcName → Option Value} {mg mb : Str → Option Value} {R : Result → Shared → Prop}
structure EV (c : Ctx) (e : PySem.Expr) (Q : Value → Ctx → Prop) : Prop where
  go : ∀ (Q' : Value → Shared → Prop) (E : Value → Shared → Prop) tk, (∀ v c' k, c'.stat = c.stat → Q v c' → Q' v (c'.at k)) → wpAny (model prg c.w) c.A (eval e c.env) Q' E (c.at tk)
structure EVs (c : Ctx) (es : List PySem.Expr) (Q : List Value → Ctx → Prop) : Prop where
  go : ∀ (Q' : List Value → Shared → Prop) (E : Value → Shared → Prop) pos tk, (∀ vs c' k, c'.stat = c.stat → Q vs c' → Q' vs (c'.at k)) → wpAny (model prg c.w) c.A (spliced (backTo pos (starEach es c.env))) Q' E (c.at tk)
theorem EV.at {c c' : Ctx} {e : PySem.Expr} {Q : Value → Ctx → Prop} (h : c'.stat = c.stat) (p : EV c' e Q) (Q' : Value → Shared → Prop) (E : Value → Shared → Prop) (tk : Nat) (k : ∀ v c' k, c'.stat = c.stat → Q v c' → Q' v (c'.at k)) : wpAny (model prg c.w) c.A (eval e c.env) Q' E (c'.at tk) := by
  obtain ⟨h1, h2, h3⟩ := stat_of h
  rw [← h1, ← h2, ← h3]
  exact p.go _ _ _ fun v c2 k2 hs hq => k v c2 k2 (hs.trans h) hq
theorem EVs.at {c c' : Ctx} {es : List PySem.Expr} {Q : List Value → Ctx → Prop} (h : c'.stat = c.stat) (p : EVs c' es Q) (Q' : List Value → Shared → Prop) (E : Value → Shared → Prop) (pos : Pos) (tk : Nat) (k : ∀ v c' k, c'.stat = c.stat → Q v c' → Q' v (c'.at k)) : wpAny (model prg c.w) c.A (spliced (backTo pos (starEach es c.env))) Q' E (c'.at tk) := by
  obtain ⟨h1, h2, h3⟩ := stat_of h
  rw [← h1, ← h2, ← h3]
  exact p.go _ _ _ _ fun v c2 k2 hs hq => k v c2 k2 (hs.trans h) hq
theorem PE.at {c c' : Ctx} {e : PySem.Expr} {V : Tok → Value} (h : c'.stat = c.stat) (p : PE c' e V) (Q' : Value → Shared → Prop) (E : Value → Shared → Prop) (tk : Nat) (k : ∀ t k, Q' (V t) (c'.at k)) : wpAny (model prg c.w) c.A (eval e c.env) Q' E (c'.at tk) := by
  obtain ⟨h1, h2, h3⟩ := stat_of h
  rw [← h1, ← h2, ← h3]
  exact p.go _ _ _ k
theorem Run.at {c c' : Ctx} {rest : List Stmt} {Q : Flow → Shared → Prop} {E : Value → Shared → Prop} (h : c'.stat = c.stat) (p : Run c' rest Q E) (tk : Nat) : wpAny (model prg c.w) c.A (execs rest c.env) Q E (c'.at tk) := by
  obtain ⟨h1, h2, h3⟩ := stat_of h
  rw [← h1, ← h2, ← h3]
  exact p.go _
noncomputable def tupO (vs : List Value) : Obj := { cls := .type "tuple", data := .seq vs.toArray }
section
variable {c : Ctx} {x y fn : Str} {pos px pa pn : Pos} {a b e : PySem.Expr} {es : List PySem.Expr} {i j : Int} {V W : Tok → Value} {F : List (Tok → Value)} {Q : Value → Ctx → Prop}
theorem PE.str {z : Str} {kd} : PE c (.Constant (.str z) kd pos) (.str z) := ⟨fun _ _ _ k => Calls.Constant_str (k _ _)⟩
theorem PE.fdiv (p : PE c a (.int i)) (q : PE c b (.int j)) (h : j ≠ 0 ∧ j.natAbs.log2 < 9000) : PE c (.BinOp a .FloorDiv b pos) (.int (i.fdiv j)) := p.bin q fun _ _ _ _ _ k => floordiv_int h.1 k (.inl (PyProof.noPylong_of_log2 h.2))
theorem PE.mod (p : PE c a (.int i)) (q : PE c b (.int j)) (h : j ≠ 0) : PE c (.BinOp a .Mod b pos) (.int (i.fmod j)) := p.bin q fun _ _ _ _ _ k => mod_int' h k
theorem PE.pow (p : PE c a (.int i)) (q : PE c b (.int j)) (h : 0 ≤ j ∧ j ≤ 1000000 ∧ i.natAbs < 2 ^ 64) : PE c (.BinOp a .Pow b pos) (.int (i ^ j.toNat)) := p.bin q fun _ _ _ _ _ k => pow_int_small h.1 h.2.1 h.2.2 k
theorem EV.pe (P : PE c e V) (k : ∀ t, Q (V t) c) : EV c e Q := ⟨fun _ _ _ K => P.go _ _ _ fun t _ => K _ _ _ rfl (k t)⟩
theorem EVs.nil {Q : List Value → Ctx → Prop} (k : Q [] c) : EVs c [] Q := ⟨fun _ _ _ tk K => args_nil (K [] c tk rfl k)⟩
theorem EVs.cons {Q : List Value → Ctx → Prop} (he : starEach (e :: es) c.env = (false, eval e c.env) :: starEach es c.env) (p : EV c e fun v c1 => EVs c1 es fun vs c2 => Q (v :: vs) c2) : EVs c (e :: es) Q :=
  ⟨fun _ _ _ _ K => args_cons (p.go _ _ _ fun v c1 k h1 q => EVs.at h1 q _ _ _ _ fun vs c2 k2 h2 q2 => K _ _ _ h2 q2) he⟩
theorem EVs.ofPA {Q : List Value → Ctx → Prop} (P : PA c es F) (k : ∀ ts, Q (vals F ts) c) : EVs c es Q := ⟨fun _ _ _ _ K => P.go _ _ _ _ fun ts k' => K _ _ _ rfl (k ts)⟩
inductive ListK (Q : Value → Ctx → Prop) : List Value → Ctx → Prop
  | mk {vs c1} (S : c1.Ok) (hz : vs.length ≤ sizeLine) (k : ∀ l h', (∀ p ∈ c1.news, @LT.lt Nat _ p.1 l) → let c2 := c1.led h' ((l, PySem.W.listOf vs.toArray 0) :: c1.news); c2.Ok → Q (.ref l) c2) : ListK Q vs c1
theorem EV.list (p : EVs c es (ListK Q)) : EV c (.List es pos) Q := ⟨fun Q' E tk K => List_ (p.go _ _ _ _ fun vs c1 k1 h1 q => by
  obtain ⟨S, hz, k⟩ := q
  exact newList_K (s := c1.at k1) S.f S.n (fun l h' F' N' l1 => K _ (c1.led h' _) k1 h1 (k l h' l1 ⟨F', N'⟩)) hz)⟩
inductive TupK (Q : Value → Ctx → Prop) : List Value → Ctx → Prop
  | mk {vs c1} (S : c1.Ok) (hz : vs.length ≤ sizeLine) (k : ∀ D h', (∀ p ∈ c1.news, @LT.lt Nat _ p.1 D) → let c2 := c1.led h' ((D, tupO vs) :: c1.news); c2.Ok → Q (.ref D) c2) : TupK Q vs c1
theorem EV.tuple {kd : Nat} (p : EVs c es (TupK Q)) : EV c (.Tuple es kd pos) Q := ⟨fun Q' E tk K => Tuple_ (p.go _ _ _ _ fun vs c1 k1 h1 q => by
  obtain ⟨S, hz, k⟩ := q
  exact kup_newTuple (s := c1.at k1) S.f S.n (fun l h' F' N' l1 => K _ (c1.led h' _) k1 h1 (k l h' l1 ⟨F', N'⟩)) hz)⟩
inductive BytesK (Q : Value → Ctx → Prop) : Value → Ctx → Prop
  | mk {D its n ns c1} (S : c1.Ok) (hm : (D, PySem.W.listOf its n) ∈ c1.news) (hi : IntsAre its.toList ns) (hr : ∀ n ∈ ns, 0 ≤ n ∧ n < 256) (hz : ns.length ≤ 1000)
      (k : ∀ h' t, let c2 := c1.led h' c1.news; c2.Ok → Q (.bytes (byteArr ns) t) c2) : BytesK Q (.ref D) c1
theorem EV.bytes (S : c.Ok) (G : Gl c.w c.h₀) (gf : isGlo c.env (Str.ofString "bytes") = true) (g : nsIn (hdK c.w.params) mainGlobals (Str.ofString "bytes") = some none) (hA : c.A.handled = none) (hst : starEach [a] c.env = (false, eval a c.env) :: starEach [] c.env)
    (p : EV c a (BytesK Q)) (he : eval (.Call (.Name (Str.ofString "bytes") pn) [a] [] pa) c.env = (do callWith pa (← eval (.Name (Str.ofString "bytes") pn) c.env) [] (backTo pa (starEach [a] c.env)) (backToKw pa (keywordEach [] c.env)))) : EV c (.Call (.Name (Str.ofString "bytes") pn) [a] [] pa) Q :=
  ⟨fun Q' E tk K => Call_ ((PE.bltG S G gf g rfl (by decide)).go _ _ _ fun _ _ => PyProof.Rows.callWith_type1 (args_cons (p.go _ _ _ fun v c1 k1 h1 q => by
    obtain ⟨S1, hm, hi, hr, hz, k⟩ := q
    refine args_nil ?_
    obtain ⟨e1, e2, e3⟩ := stat_of h1
    rw [← e1, ← e2]
    exact bytes_own (s := c1.at k1) (by rw [e2]; exact hA) S1.f S1.n hm hi hr hz fun h' t tk F N => K _ (c1.led h' c1.news) tk h1 (k h' t ⟨F, N⟩)) hst) hst) he⟩
inductive SubK (b : PySem.Expr) (a : PySem.Expr) (Q : Value → Ctx → Prop) : Value → Ctx → Prop
  | mk {l n v0 v1 j c1} (S : c1.Ok) (hm : (l, PySem.W.listOf #[v0, v1] n) ∈ c1.news) (q : PE c1 b (.int j)) (hj : j = 0 ∨ j = 1)
      (hs : ∀ u, subscripted b false (.ref l) (.int j u) = operate [.ref l, .int j u] (getItem (.ref l) (.int j u))) (hg : ∀ r, letTemporaryGo a (.ref l) r = pure ()) (k0 : j = 0 → Q v0 c1) (k1 : j = 1 → Q v1 c1) : SubK b a Q (.ref l) c1
theorem EV.sub {a' : PySem.Expr} (hv : ∀ v i Q E s, wpAny (model prg c.w) c.A (subscriptTail a' b v i) Q E s → wpAny (model prg c.w) c.A (subscriptTail a b v i) Q E s) (p : EV c a (SubK b a' Q)) : EV c (.Subscript a b pos) Q :=
  ⟨fun Q' E tk K => Subscript_ (p.go _ _ _ fun v c1 k1 h1 q => by
    obtain ⟨S, hm, q, hj, hs, hg, q0, q1⟩ := q
    refine PE.at h1 q _ _ _ fun t k2 => hv _ _ _ _ _ ?_
    exact item2 (s := c1.at k2) S.n hm hj (fun e => K _ c1 k2 h1 (q0 e)) (fun e => K _ c1 k2 h1 (q1 e)) (hs _) hg)⟩
inductive SubSK (b : PySem.Expr) (a : PySem.Expr) (Q : Value → Ctx → Prop) : Value → Ctx → Prop
  | mk {l n j c1} {z0 z1 : Str} {t0 t1 : Tok} (S : c1.Ok) (hm : (l, PySem.W.listOf #[.str z0 t0, .str z1 t1] n) ∈ c1.news) (q : PE c1 b (.int j)) (hj : j = 0 ∨ j = 1)
      (hs : ∀ u, subscripted b false (.ref l) (.int j u) = operate [.ref l, .int j u] (getItem (.ref l) (.int j u))) (hg : ∀ r, letTemporaryGo a (.ref l) r = pure ()) (k : ∀ t, Q (.str (if j = 1 then z1 else z0) t) c1) : SubSK b a Q (.ref l) c1
theorem EV.subS {a' : PySem.Expr} (hv : ∀ v i Q E s, wpAny (model prg c.w) c.A (subscriptTail a' b v i) Q E s → wpAny (model prg c.w) c.A (subscriptTail a b v i) Q E s) (p : EV c a (SubSK b a' Q)) : EV c (.Subscript a b pos) Q :=
  ⟨fun Q' E tk K => Subscript_ (p.go _ _ _ fun v c1 k1 h1 q => by
    obtain ⟨S, hm, q, hj, hs, hg, q0⟩ := q
    refine PE.at h1 q _ _ _ fun t k2 => hv _ _ _ _ _ ?_
    exact item2s (s := c1.at k2) S.n hm hj (fun t => K _ c1 k2 h1 (q0 t)) (hs _) hg)⟩
inductive AddK (Q : Value → Ctx → Prop) (l : Addr) : Value → Ctx → Prop
  | mk {l2 its its2 zs c1} (S : c1.Ok) (ha : c1.h.IsList l its) (hb : c1.h.IsList l2 its2) (e : its.toList ++ its2.toList = zs) (hz : its.toList.length + its2.toList.length ≤ sizeLine)
      (k : ∀ D h', (∀ p ∈ c1.news, @LT.lt Nat _ p.1 D) → let c2 := c1.led h' ((D, PySem.W.listOf zs.toArray 0) :: c1.news); c2.Ok → Q (.ref D) c2) : AddK Q l (.ref l2) c1
inductive AddL (b : PySem.Expr) (Q : Value → Ctx → Prop) : Value → Ctx → Prop
  | mk {l c1} (p : EV c1 b (AddK Q l)) : AddL b Q (.ref l) c1
theorem EV.addL (p : EV c a (AddL b Q)) : EV c (.BinOp a .Add b pos) Q :=
  ⟨fun Q' E tk K => wpAny_BinOp (p.go _ _ _ fun v c1 k1 h1 q => by
    obtain ⟨p2⟩ := q
    refine EV.at h1 p2 _ _ _ fun v2 c2 k2 h2 q2 => ?_
    obtain ⟨S, ha, hb, e, hz, k⟩ := q2
    obtain ⟨e1, e2, e3⟩ := stat_of h2
    exact kmk_add_lit (s := c2.at k2) S.f S.n ha hb e (fun D h' F' N' l1 => K _ (c2.led h' _) k2 h2 (k D h' l1 ⟨F', N'⟩)) hz)⟩
theorem EV.rev {l : Addr} {its : Array Value} {zs : List Value} {kd : Nat} {p1 p2 p3 : Pos} (S : c.Ok) (P : PE c a (fun _ => .ref l)) (hl : c.h.IsList l its) (e : its.toList.reverse = zs)
    (hs : ∀ o, subscripted (.Slice none none (some (.UnaryOp .USub (.Constant (.int 1) kd p1) p2)) p3) false (.ref l) (.ref o) = operate [.ref l, .ref o] (getItem (.ref l) (.ref o))) (ht : ∀ r, letTemporaryGo a (.ref l) r = pure ()) (hz : its.size ≤ sizeLine)
    (k : ∀ D h', (∀ p ∈ c.news, @LT.lt Nat _ p.1 D) → let c2 := c.led h' ((D, PySem.W.listOf zs.toArray 0) :: c.news); c2.Ok → Q (.ref D) c2) : EV c (.Subscript a (.Slice none none (some (.UnaryOp .USub (.Constant (.int 1) kd p1) p2)) p3) pos) Q :=
  ⟨fun Q' E tk K => Subscript_ (P.go _ _ _ fun _ k1 => wpAny_Slice (evalPart_none_step (evalPart_none_step (evalPart_some_step (wpAny_UnaryOp (wpAny_Constant_int (neg_int
    (krv_lit (s := c.at (k1 + 1 + 1)) S.f S.n hl (.int _ _) e (fun D h' F' N' l1 => K _ (c.led h' _) _ rfl (k D h' l1 ⟨F', N'⟩)) (hs _) ht hz))))))))⟩
end
section
variable {c : Ctx} {x : Str} {pos px pa pn : Pos} {e : PySem.Expr} {rest : List Stmt} {Q : Flow → Shared → Prop} {E : Value → Shared → Prop}
inductive StoreK (x : Str) (rest : List Stmt) (Q : Flow → Shared → Prop) (E : Value → Shared → Prop) : Value → Ctx → Prop
  | mk {v c1} (S : c1.Ok) (k : ∀ h', let c2 := c1.put h' x v; c2.Ok → Run c2 rest Q E) : StoreK x rest Q E v c1
theorem Run.assignV (hl : isLoc c.env x = true) (hs : swapsWith e (some (.Name x px)) pos.line c.env = pure false) (p : EV c e (StoreK x rest Q E)) : Run c (.Assign [.Name x px] e pos :: rest) Q E := ⟨fun tk => by
  obtain ⟨h1, h2, h3⟩ := isLoc_of hl
  refine wpAny_execs_cons (wpAny_Assign_Name (p.go _ _ _ fun v c1 k1 hs1 q => ?_) hs)
  obtain ⟨S, k⟩ := q
  obtain ⟨e1, e2, e3⟩ := stat_of hs1
  rw [← e3] at h1 h2 ⊢
  refine wpAny_storeName_local h2 (s := c1.at k1) S.f.ns (fun h' hn hs => ?_) (by rw [h1]; rfl)
  have z := Run.at (c := c) (c' := c1.put h' x v) hs1 (k h' ⟨S.f.set hn hs, S.n.set hs⟩) (k1 + 1)
  rw [← e3] at z
  exact z⟩
inductive AppK (D : Addr) (rest : List Stmt) (Q : Flow → Shared → Prop) (E : Value → Shared → Prop) : Value → Ctx → Prop
  | mk {v c1 l its n} (S : c1.Ok) (U : Upd D (PySem.W.listOf its n) (PySem.W.listOf (its.push v) (n + 1)) c1.news l) (hsz : its.size ≤ sizeLine) (k : ∀ h', let c2 := c1.led h' l; c2.Ok → Run c2 rest Q E) : AppK D rest Q E v c1
theorem Run.appendV {pl : Sem Bool} {D : Addr} {its0 : Array Value} {n0 : Nat} (S : c.Ok) (hl : isLoc c.env x = true) (hv : c.m x = some (.ref D)) (hm : (D, PySem.W.listOf its0 n0) ∈ c.news)
    (hi : interactive c.env = false) (hs : swapsWith (.Call (.Attribute (.Name x px) (Str.ofString "append") pa) [e] [] pn) none pos.line c.env = pure false)
    (he : eval (.Call (.Attribute (.Name x px) (Str.ofString "append") pa) [e] [] pn) c.env = (do
      let ov ← eval (.Name x px) c.env
      standAt pa.atName
      let (f, first) ← holding [ov] (getMethod ov (Str.ofString "append") pl)
      callWith pn f first (backTo pn (starEach [e] c.env)) (backToKw pn (keywordEach [] c.env))))
    (hst : starEach [e] c.env = (false, eval e c.env) :: starEach [] c.env) (p : EV c e (AppK D rest Q E)) :
    Run c (.Expr (.Call (.Attribute (.Name x px) (Str.ofString "append") pa) [e] [] pn) pos :: rest) Q E := ⟨fun tk => by
  obtain ⟨h1, h2, h3⟩ := isLoc_of hl
  refine wpAny_execs_cons (wpAny_Expr_any ?_ hi hs)
  refine methodCall_KW (wpAny_Name (wpAny_loadName_local h1 h2 S.f.ns hv ?_) h3) he
  refine listMethod_K (s := c.at tk) S.n hm PySem.F.slot_list_append PySem.F.type_list_append ?_
  refine callWith_method1 (args_cons (p.go _ _ _ fun v c1 k1 hs1 q => ?_) hst) hst
  obtain ⟨S1, U, hsz, k⟩ := q
  refine args_nil ?_
  exact append_K (s := c1.at k1) S1.f S1.n U (fun h' F' N' => Run.at (c := c) (c' := c1.led h' _) hs1 (k h' ⟨F', N'⟩) k1) hsz⟩
end
theorem Run.start {A : Around} {env : Env} {h₀ h : Heap} {L : Addr} {m : Str → Option Value} {news : List (Addr × Obj)} {gs : Array GenState} {dr : Drawn} {tk : Nat} {os : OsState} {l : List Stmt} {Q : Flow → Shared → Prop} {E : Value → Shared → Prop} (hL : env.locals = L) (F : Fr h₀ L h m) (N : News h₀ L h news)
    (k : let c : Ctx := ⟨w, A, env, h₀, h, m, news, gs, dr, os⟩; c.Ok → Run c l Q E) : wpAny (model prg w) A (execs l env) Q E ⟨h, gs, dr, tk, os⟩ := by
  subst hL
  exact (k ⟨F, N⟩).go tk
theorem hv_list {c : Ctx} {es : List PySem.Expr} {p : Pos} {b : PySem.Expr} (v i : Value) (Q : Value → Shared → Prop) (E : Value → Shared → Prop) {s : Shared}
    (h : wpAny (model prg c.w) c.A (subscriptTail (.Name (Str.ofString "_") ⟨0, 0, 0, 0⟩) b v i) Q E s) : wpAny (model prg c.w) c.A (subscriptTail (.List es p) b v i) Q E s := kba_turn (fun _ => rfl) h
theorem p2ok {k : Nat} (h : k ≤ 3) : ((2 : Int) ^ (k : Int).toNat ≠ 0) ∧ ((2 : Int) ^ (k : Int).toNat).natAbs.log2 < 9000 := by
  rw [Int.toNat_natCast]
  have : k = 0 ∨ k = 1 ∨ k = 2 ∨ k = 3 := by omega
  rcases this with rfl | rfl | rfl | rfl <;> exact ⟨by decide, by decide +kernel⟩
theorem p2ok' {j : Int} (h : 0 ≤ j ∧ j ≤ 3) : ((2 : Int) ^ j.toNat ≠ 0) ∧ ((2 : Int) ^ j.toNat).natAbs.log2 < 9000 := by
  obtain ⟨k, rfl⟩ := Int.eq_ofNat_of_zero_le h.1
  exact p2ok (by omega)
theorem AppK.ofH {rest : List Stmt} {Q : Flow → Shared → Prop} {E : Value → Shared → Prop} {c1 : Ctx} {H x n : Nat} {as : List Nat} {l : List (Addr × Obj)} (S : c1.Ok) (hsz : as.length < 1000000) (U : Upd H (hobj as n) (hobj (as ++ [x]) (n + 1)) c1.news l) (k : ∀ h', let c2 := c1.led h' l; c2.Ok → Run c2 rest Q E) : AppK H rest Q E (.ref x) c1 := by
  have e : (refs as).toArray.push (.ref x) = (refs (as ++ [x])).toArray := by simp [refs]
  refine AppK.mk (its := (refs as).toArray) (n := n) S (by rw [e]; exact U) ?_ k
  rw [List.size_toArray, refs_length]
  exact Nat.le_of_lt (Nat.lt_of_lt_of_le hsz (Nat.le_of_ble_eq_true rfl))
theorem fm256 (y : Int) : 0 ≤ y.fmod 256 ∧ y.fmod 256 < 256 := by
  rw [Int.fmod_eq_emod_of_nonneg _ (by omega)]; omega
end
section
theorem reset21 : True := by
  w_top off
  trivial
variable {w : World} {s : Shared} {p : Program} {loose : List Str} {mean : ExcName → Option Value} {mg mb : Str → Option Value} {R : Result → Shared → Prop}
noncomputable abbrev LInf := Int × Str × Array UInt8
noncomputable def LTup (h : Heap) (a : Nat) (q : LInf) : Prop := ∃ o t u v k, h.get? a = some o ∧ o.cls = .type "tuple" ∧ o.data = .seq #[.int q.1 t, .str q.2.1 u, .bytes q.2.2 v] k
theorem LTup.at {h h' : Heap} {a : Nat} {q : LInf} (x : LTup h a q) (k : ∀ o, h.get? a = some o → h'.get? a = some o) : LTup h' a q := by
  obtain ⟨o, t, u, v, r, ho, z⟩ := x
  exact ⟨o, t, u, v, r, k _ ho, z⟩
noncomputable def octet (x : Int) : UInt8 := (x.fmod 256).toNat.toUInt8
noncomputable def rowOf (x : Int) : Array UInt8 := #[octet (x.fdiv 16), octet (x.fdiv 4096)]
noncomputable def bitB (x : Int) (k : Nat) : Bool := decide ((x.fdiv (2 ^ k)).fmod 2 = 1)
noncomputable abbrev bitOf (x : Int) (k : Nat) : Prop := bitB x k = true
theorem bit_if {α : Type} {x : Int} {hand : Nat} {a b : α} : (if bitOf x hand then a else b) = if (x.fdiv (2 ^ (hand : Int).toNat)).fmod 2 = 1 then a else b := by
  show (if decide ((x.fdiv (2 ^ hand)).fmod 2 = 1) = true then a else b) = if (x.fdiv (2 ^ hand)).fmod 2 = 1 then a else b
  by_cases h : (x.fdiv (2 ^ hand)).fmod 2 = 1
  · rw [if_pos (decide_eq_true h), if_pos h]
  · rw [if_neg (fun e => h (of_decide_eq_true e)), if_neg h]
noncomputable def layOf (hand : Nat) (x : Int) : Array UInt8 := if hand = 0 then #[octet (x.fdiv 4096), octet (x.fdiv 16), 1] else #[octet (x.fdiv 16), octet (x.fdiv 4096), 2]
noncomputable def linesAt (hand : Nat) (k : Nat) (x : Int) : List LInf :=
  (3 * (k : Int), (if bitOf x hand then Str.ofString "- " else Str.ofString "  "), rowOf x) ::
    (if bitOf x (2 + hand) then [(3 * (k : Int) + 1 + hand, Str.ofString "+ ", layOf hand x)] else [])
noncomputable def linesUp (hand : Nat) (xs : List Int) : Nat → List LInf
  | 0 => []
  | i + 1 => linesUp hand xs i ++ (match xs[i]? with | some x => linesAt hand i x | none => [])
inductive LTups (h : Heap) : List Nat → List LInf → Prop
  | nil : LTups h [] []
  | cons {a q as qs} : LTup h a q → LTups h as qs → LTups h (a :: as) (q :: qs)
theorem LTups.append {h : Heap} {as qs bs rs} (x : LTups h as qs) (y : LTups h bs rs) : LTups h (as ++ bs) (qs ++ rs) := by
  induction x with
  | nil => exact y
  | cons a _ ih => exact .cons a ih
theorem LTups.at {h h' : Heap} {as qs} (x : LTups h as qs) (k : ∀ a ∈ as, ∀ o, h.get? a = some o → h'.get? a = some o) : LTups h' as qs := by
  induction x with
  | nil => exact .nil
  | cons a _ ih => exact .cons (a.at (k _ (.head _))) (ih fun c hc => k c (.tail _ hc))
structure IntsAt (items : Array Value) (xs : List Int) : Prop where
  size : items.size = xs.length
  get : ∀ (i : Nat) x, xs[i]? = some x → ∃ t, items[i]? = some (Value.int x t)
noncomputable abbrev LX := List Nat × Nat
noncomputable def lnLed (H : Nat) (x : LX) : List (Addr × Obj) := [(H, hobj x.1 x.2)]
noncomputable def lnPhi (g : Heap) (L H E I : Nat) (hand : Nat) (xs : List Int) (i : Nat) (h : Heap) (x : LX) : Prop :=
  x.1.length ≤ 2 * i ∧ (∀ a ∈ x.1, a ≠ L ∧ a ≠ E ∧ a ≠ I ∧ a ≠ H ∧ g.get? a = none) ∧ LTups h x.1 (linesUp hand xs i)
theorem lines_end {g h h' : Heap} {L H E I hand i n n' : Nat} {xs : List Int} {x : Int} {as as' Ds : List Nat} {qs : List LInf} (hp : lnPhi g L H E I hand xs i h (as, n)) (hx : xs[i]? = some x)
    (keep : ∀ (b : Addr) o, b ≠ L → (∀ a ∈ [H], a ≠ b) → h.get? b = some o → h'.get? b = some o) (hD : ∀ a ∈ Ds, a ≠ L ∧ a ≠ E ∧ a ≠ I ∧ a ≠ H ∧ g.get? a = none) (hq : LTups h' Ds qs) (hqs : linesAt hand i x = qs) (hz : Ds.length ≤ 2) (e : as' = as ++ Ds) :
    lnPhi g L H E I hand xs (i + 1) h' (as', n') := by
  subst e
  refine ⟨?_, fun a ha => ?_, ?_⟩
  · have := hp.1
    simp only [List.length_append] at this ⊢
    omega
  · rcases List.mem_append.mp ha with ha | ha
    · exact hp.2.1 a ha
    · exact hD a ha
  · have e2 : linesUp hand xs (i + 1) = linesUp hand xs i ++ qs := by rw [linesUp, hx, ← hqs]
    rw [e2]
    exact (hp.2.2.at fun a ha o ho => keep a o (hp.2.1 a ha).1 (List.forall_mem_singleton.mpr (Ne.symm (hp.2.1 a ha).2.2.2.1)) ho).append hq
theorem ltup_new {g h : Heap} {L : Addr} {news : List (Addr × Obj)} {D : Nat} {a : Int} {b : Str} {c : Array UInt8} {t u v : Tok} (N : News g L h news) (hm : (D, ({ cls := .type "tuple", data := .seq #[.int a t, .str b u, .bytes c v] } : Obj)) ∈ news) : LTup h D (a, b, c) :=
  ⟨_, _, _, _, _, (N _ hm).1, rfl, rfl⟩
theorem ln_new {g h : Heap} {L : Addr} {E I H : Nat} {news : List (Addr × Obj)} {D : Nat} {o : Obj} (N : News g L h news) (hm : (D, o) ∈ news) (e1 : D ≠ E) (e2 : D ≠ I) (e3 : D ≠ H) : D ≠ L ∧ D ≠ E ∧ D ≠ I ∧ D ≠ H ∧ g.get? D = none :=
  ⟨(N _ hm).2.1, e1, e2, e3, (N _ hm).2.2⟩
theorem la_two {hand i : Nat} {x : Int} {row lay : Array UInt8} {k1 k2 : Int} (h : (x.fdiv (2 ^ (2 + (hand : Int)).toNat)).fmod 2 = 1) (e1 : rowOf x = row) (e2 : layOf hand x = lay) (e3 : k1 = 3 * (i : Int)) (e4 : k2 = 3 * (i : Int) + 1 + hand) :
    linesAt hand i x = [(k1, (if (x.fdiv (2 ^ (hand : Int).toNat)).fmod 2 = 1 then Str.ofString "- " else Str.ofString "  "), row), (k2, Str.ofString "+ ", lay)] := by
  subst e1 e2 e3 e4
  have q : (2 + (hand : Int)).toNat = 2 + hand := by omega
  rw [q] at h
  unfold linesAt
  rw [if_pos (show bitOf x (2 + hand) from decide_eq_true h), bit_if]
theorem la_one {hand i : Nat} {x : Int} {row : Array UInt8} {k1 : Int} (h : ¬ (x.fdiv (2 ^ (2 + (hand : Int)).toNat)).fmod 2 = 1) (e1 : rowOf x = row) (e3 : k1 = 3 * (i : Int)) :
    linesAt hand i x = [(k1, (if (x.fdiv (2 ^ (hand : Int).toNat)).fmod 2 = 1 then Str.ofString "- " else Str.ofString "  "), row)] := by
  subst e1 e3
  have q : (2 + (hand : Int)).toNat = 2 + hand := by omega
  rw [q] at h
  unfold linesAt
  rw [if_neg (show ¬ bitOf x (2 + hand) from fun e => h (of_decide_eq_true e)), bit_if]
theorem lay0 {hand : Nat} {x : Int} (e : (hand : Int) = 0) : layOf hand x = #[((x.fdiv 4096).fmod 256).toNat.toUInt8, ((x.fdiv 16).fmod 256).toNat.toUInt8, ((hand : Int) + 1).toNat.toUInt8] := by
  have q : hand = 0 := by omega
  subst q; rfl
theorem lay1 {hand : Nat} {x : Int} (e : (hand : Int) = 1) : layOf hand x = #[((x.fdiv 16).fmod 256).toNat.toUInt8, ((x.fdiv 4096).fmod 256).toNat.toUInt8, ((hand : Int) + 1).toNat.toUInt8] := by
  have q : hand = 1 := by omega
  subst q; rfl
theorem c_lines {A hand : Nat} (hh2 : hand < 2) {items : Array Value} {xs : List Int} {t0 : Tok} (X : (hdK w.params).In s.heap) (T : Top p loose mean mg mb s.heap) (hA : s.heap.IsList A items) (hxs : IntsAt items xs) (hsz : items.size < 1000)
    (hR : ∀ H h tk as n, s.heap.StaysIn h → h.get? H = some (hobj as n) → s.heap.get? H = none → (∀ a ∈ as, a ≠ H ∧ s.heap.get? a = none) → LTups h as (linesUp hand xs xs.length) → R (.ok (.ret (.ref H))) { s with heap := h, toks := tk }) :
    codeAny (model prg w) (AT 860 8600) (.call (.ref 149) ⟨[.ref A, .int (hand : Int) t0], []⟩) R s := by
  refine' enter [(Str.ofString "numbers", .ref A), (Str.ofString "hand", .int (hand : Int) t0)] X T.nolimit ?ho ?hcd (by decide) ?hb ?hl ?_ ?c1 ?c2 ?c3 ?c4
  ((case ho => k_is); (case hcd => k_is); (case hb => first | exact BindsTo.of_eq rfl | exact binds_K (by assumption) rfl (by k_is) rfl rfl rfl); (case hl => exact locs rfl); (case c1 => rfl); (case c2 => rfl); (case c3 => rfl); (case c4 => decide))
  intro L h₁ F N
  k_fold
  repeat' (first | (k_unfold; (try dsimp only)) | ((fail_if_success (with_reducible show codeAny _ _ _ _ _)); first | (with_reducible refine exec_for_Call ?_) | walk1 | (dsimp only; walk1)))
  rename_i H hx l1 h2 F1 N1
  have hA1 : h2.IsList A items := let ⟨o, ho, r⟩ := hA; ⟨o, F1.keep _ _ ho, r⟩
  have hH1 := N1 _ (.head _)
  refine call_enumerate_list hA1 fun h3 e1 e2 e3 e4 => ?_
  have hHs : H < h2.objs.size := Heap.lt_size hH1.1
  have hLs : L < h2.objs.size := F1.ns.lt
  have hab := F1.above
  generalize hE : h2.objs.size + 1 = E at *
  generalize hI : h2.objs.size = I at *
  repeat' (first | (k_unfold; (try dsimp only)) | ((fail_if_success (with_reducible show codeAny _ _ _ _ _)); first | (with_reducible refine exec_for_Call ?_) | walk1 | (dsimp only; walk1)))
  refine wpAny_pyIter_enum e1 ?_
  repeat' (first | (k_unfold; (try dsimp only)) | ((fail_if_success (with_reducible show codeAny _ _ _ _ _)); first | (with_reducible refine exec_for_Call ?_) | walk1 | (dsimp only; walk1)))
  have hEI : E ≠ I := by rw [← hE]; exact Nat.succ_ne_self _
  have hEL : E ≠ L := by rw [← hE]; exact Nat.ne_of_gt (Nat.lt_succ_of_lt hLs)
  have hIL : I ≠ L := Nat.ne_of_gt hLs
  have hHI : H ≠ I := Nat.ne_of_lt hHs
  have hHE : H ≠ E := by rw [← hE]; exact Nat.ne_of_lt (Nat.lt_succ_of_lt hHs)
  have hI0 : s.heap.get? I = none := none_above (Nat.le_of_lt (Nat.lt_of_le_of_lt hab hLs))
  have hE0 : s.heap.get? E = none := none_above (by rw [← hE]; exact Nat.le_succ_of_le (Nat.le_of_lt (Nat.lt_of_le_of_lt hab hLs)))
  refine for_enumJ (X := LX) (g := s.heap) (s := s) (L := L) (told := fun _ => [(Str.ofString "numbers", Value.ref A), (Str.ofString "hand", Value.int (hand : Int) t0), (Str.ofString "lines", Value.ref H)]) (led := lnLed H) (Φ := lnPhi s.heap L H E I hand xs) (adr := [H]) (l := A) rfl (fun _ => rfl) hEI hEL hE0 (List.forall_mem_singleton.mpr hHE) hIL hI0 (List.forall_mem_singleton.mpr hHI) hA
    (fun i h h' x hp k => ⟨hp.1, hp.2.1, hp.2.2.at fun a ha o e => k a o (hp.2.1 a ha).2.1 (hp.2.1 a ha).2.2.1 e⟩) e1 e2 ⟨([], 0), h3, _, _, rfl, fr_but F1 hEL hIL hE0 hI0 fun b o _ _ e => e4 b o e, told_cons rfl (told_cons rfl (told_cons rfl told_nil)), fun q hq => ?_, Nat.zero_le _, (fun a h => nomatch h), .nil⟩ ?_ ?_ ?_
  · rw [List.mem_singleton.mp hq]
    exact ⟨e4 _ _ hH1.1, hH1.2⟩
  · intro x q hq
    rw [List.mem_singleton.mp hq]
    exact fun e => absurd (Value.type.inj e) (by decide)
  · rintro i v T0 t oE oI ⟨as, n⟩ h tk m fz hv nE nI nA hcI F' N' hfz _ hpp
    have hn := hpp.1
    have hilt : i < xs.length := by
      have : i < items.size := by
        by_cases hc : i < items.size
        · exact hc
        · have : items[i]? = none := by simp; omega
          rw [this] at hv; cases hv
      rw [← hxs.size]; exact this
    have hxi : xs[i]? = some xs[i] := by simp [hilt]
    obtain ⟨tx, htx⟩ := hxs.get i _ hxi
    rw [htx] at hv
    cases hv
    have hsx := hxs.size
    have n1' := neN (nA H (.head _))
    have n4' := neN hHE
    have n5' := neN hHI
    have z4 : ∀ q ∈ fz, q.1 ≠ H := fun q hq => (hfz q hq).1 H (.head _)
    simp only [lnLed, List.cons_append, List.nil_append] at N'
    dsimp only at hn
    generalize hxe : xs[i] = x at *
    repeat' (first | (k_unfold; (try dsimp only)) | ((fail_if_success (with_reducible show wpAny _ _ (execs _ _) _ _ _)); (fail_if_success (with_reducible show codeAny _ _ _ _ _)); first | walk1 | (dsimp only; walk1)))
    k_fold
    refine Run.start rfl (by assumption) (by assumption) ?_
    intro c S
    have G : Gl c.w c.h₀ := Gl.mk' X T
    refine Run.assignV rfl rfl (EV.list (EVs.ofPA (PA.cons (PE.mod (PE.fdiv (PE.locI S rfl rfl) PE.int (by decide +kernel)) PE.int (by decide)) (PA.cons (PE.mod (PE.fdiv (PE.locI S rfl rfl) PE.int (by decide +kernel)) PE.int (by decide)) PA.nil rfl) rfl) fun ts => ListK.mk S (Nat.le_of_ble_eq_true rfl) ?_))
    intro D1 h1 hlt1 c S
    have hD1 : @LT.lt Nat _ H D1 := hlt1 (H, _) (by (first | exact mem_ix 0 rfl | exact mem_ix 1 rfl | exact mem_ix 2 rfl | exact mem_ix 3 rfl | exact mem_ix 4 rfl | exact mem_ix 5 rfl | exact mem_ix 6 rfl | exact mem_ix 7 rfl | exact mem_ix 8 rfl | exact mem_ix 9 rfl | exact mem_ix 10 rfl | exact mem_ix 11 rfl | exact mem_ix 12 rfl | exact mem_ix 13 rfl | exact mem_ix 14 rfl | exact mem_ix 15 rfl))
    refine StoreK.mk S ?_
    intro h2 c S
    refine Run.appendV S rfl rfl (by (first | exact mem_ix 0 rfl | exact mem_ix 1 rfl | exact mem_ix 2 rfl | exact mem_ix 3 rfl | exact mem_ix 4 rfl | exact mem_ix 5 rfl | exact mem_ix 6 rfl | exact mem_ix 7 rfl | exact mem_ix 8 rfl | exact mem_ix 9 rfl | exact mem_ix 10 rfl | exact mem_ix 11 rfl | exact mem_ix 12 rfl | exact mem_ix 13 rfl | exact mem_ix 14 rfl | exact mem_ix 15 rfl)) rfl rfl rfl rfl (EV.tuple (EVs.cons rfl (EV.pe (PE.mul PE.int (PE.locI S rfl rfl) (by mul_fits)) fun t3 => EVs.cons rfl (EV.subS hv_list (EV.list (EVs.ofPA (PA.cons PE.str (PA.cons PE.str PA.nil rfl) rfl) fun ts => ListK.mk S (Nat.le_of_ble_eq_true rfl) ?_))))))
    intro D2 h3 hlt2 c S
    have hD2 : @LT.lt Nat _ H D2 := hlt2 (H, _) (by (first | exact mem_ix 0 rfl | exact mem_ix 1 rfl | exact mem_ix 2 rfl | exact mem_ix 3 rfl | exact mem_ix 4 rfl | exact mem_ix 5 rfl | exact mem_ix 6 rfl | exact mem_ix 7 rfl | exact mem_ix 8 rfl | exact mem_ix 9 rfl | exact mem_ix 10 rfl | exact mem_ix 11 rfl | exact mem_ix 12 rfl | exact mem_ix 13 rfl | exact mem_ix 14 rfl | exact mem_ix 15 rfl))
    refine SubSK.mk S (.head _) (PE.mod (PE.fdiv (PE.locI S rfl rfl) (PE.pow PE.int (PE.locI S rfl rfl) (by omega)) (p2ok' (by omega))) PE.int (by decide)) (bit01 _) (fun _ => rfl) (fun _ => rfl) ?_
    intro t4
    refine EVs.cons rfl (EV.bytes S G rfl g_bytes rfl rfl (EV.pe (PE.locV S rfl rfl) fun _ => BytesK.mk S (by (first | exact mem_ix 0 rfl | exact mem_ix 1 rfl | exact mem_ix 2 rfl | exact mem_ix 3 rfl | exact mem_ix 4 rfl | exact mem_ix 5 rfl | exact mem_ix 6 rfl | exact mem_ix 7 rfl | exact mem_ix 8 rfl | exact mem_ix 9 rfl | exact mem_ix 10 rfl | exact mem_ix 11 rfl | exact mem_ix 12 rfl | exact mem_ix 13 rfl | exact mem_ix 14 rfl | exact mem_ix 15 rfl)) (ints2 rfl) (in256_cons (fm256 _) (in256_cons (fm256 _) in256_nil)) (Nat.le_of_ble_eq_true rfl) ?_) rfl)
    intro h4 t5 c S
    refine EVs.nil (TupK.mk S (Nat.le_of_ble_eq_true rfl) ?_)
    intro D3 h5 hlt3 c S
    have hD3 : @LT.lt Nat _ H D3 := hlt3 (H, _) (by (first | exact mem_ix 0 rfl | exact mem_ix 1 rfl | exact mem_ix 2 rfl | exact mem_ix 3 rfl | exact mem_ix 4 rfl | exact mem_ix 5 rfl | exact mem_ix 6 rfl | exact mem_ix 7 rfl | exact mem_ix 8 rfl | exact mem_ix 9 rfl | exact mem_ix 10 rfl | exact mem_ix 11 rfl | exact mem_ix 12 rfl | exact mem_ix 13 rfl | exact mem_ix 14 rfl | exact mem_ix 15 rfl))
    have hD3E : @LT.lt Nat _ E D3 := hlt3 (E, _) (by (first | exact mem_ix 0 rfl | exact mem_ix 1 rfl | exact mem_ix 2 rfl | exact mem_ix 3 rfl | exact mem_ix 4 rfl | exact mem_ix 5 rfl | exact mem_ix 6 rfl | exact mem_ix 7 rfl | exact mem_ix 8 rfl | exact mem_ix 9 rfl | exact mem_ix 10 rfl | exact mem_ix 11 rfl | exact mem_ix 12 rfl | exact mem_ix 13 rfl | exact mem_ix 14 rfl | exact mem_ix 15 rfl))
    have hD3I : @LT.lt Nat _ I D3 := hlt3 (I, _) (by (first | exact mem_ix 0 rfl | exact mem_ix 1 rfl | exact mem_ix 2 rfl | exact mem_ix 3 rfl | exact mem_ix 4 rfl | exact mem_ix 5 rfl | exact mem_ix 6 rfl | exact mem_ix 7 rfl | exact mem_ix 8 rfl | exact mem_ix 9 rfl | exact mem_ix 10 rfl | exact mem_ix 11 rfl | exact mem_ix 12 rfl | exact mem_ix 13 rfl | exact mem_ix 14 rfl | exact mem_ix 15 rfl))
    refine' AppK.ofH (as := as) (n := n) S (by omega) ?U1 ?_
    case U1 => k_upd
    intro h6 c S
    by_cases hb : (x.fdiv (2 ^ (2 + (hand : Int)).toNat)).fmod 2 = 1
    · refine Run.ifT (BE.eq (PE.mod (PE.fdiv (PE.locI S rfl rfl) (PE.pow PE.int (PE.add PE.int (PE.locI S rfl rfl)) (by omega)) (p2ok' (by omega))) PE.int (by decide)) PE.int) (decide_eq_true hb) ?_
      dsimp only [List.cons_append, List.nil_append]
      refine Run.appendV S rfl rfl (by (first | exact mem_ix 0 rfl | exact mem_ix 1 rfl | exact mem_ix 2 rfl | exact mem_ix 3 rfl | exact mem_ix 4 rfl | exact mem_ix 5 rfl | exact mem_ix 6 rfl | exact mem_ix 7 rfl | exact mem_ix 8 rfl | exact mem_ix 9 rfl | exact mem_ix 10 rfl | exact mem_ix 11 rfl | exact mem_ix 12 rfl | exact mem_ix 13 rfl | exact mem_ix 14 rfl | exact mem_ix 15 rfl)) rfl rfl rfl rfl (EV.tuple (EVs.cons rfl (EV.pe (PE.add (PE.add (PE.mul PE.int (PE.locI S rfl rfl) (by mul_fits)) PE.int) (PE.locI S rfl rfl)) fun t6 => EVs.cons rfl (EV.pe PE.str fun t7 => EVs.cons rfl (EV.bytes S G rfl g_bytes rfl rfl (EV.addL (EV.sub hv_list (EV.list (EVs.cons rfl (EV.rev S (PE.locV S rfl rfl) (News.isList S.n (by (first | exact mem_ix 0 rfl | exact mem_ix 1 rfl | exact mem_ix 2 rfl | exact mem_ix 3 rfl | exact mem_ix 4 rfl | exact mem_ix 5 rfl | exact mem_ix 6 rfl | exact mem_ix 7 rfl | exact mem_ix 8 rfl | exact mem_ix 9 rfl | exact mem_ix 10 rfl | exact mem_ix 11 rfl | exact mem_ix 12 rfl | exact mem_ix 13 rfl | exact mem_ix 14 rfl | exact mem_ix 15 rfl))) rfl (fun _ => rfl) (fun _ => rfl) (Nat.le_of_ble_eq_true rfl) ?_))))) rfl)))))
      intro D4 h7 hlt4 c S
      have hD4 : @LT.lt Nat _ H D4 := hlt4 (H, _) (by (first | exact mem_ix 0 rfl | exact mem_ix 1 rfl | exact mem_ix 2 rfl | exact mem_ix 3 rfl | exact mem_ix 4 rfl | exact mem_ix 5 rfl | exact mem_ix 6 rfl | exact mem_ix 7 rfl | exact mem_ix 8 rfl | exact mem_ix 9 rfl | exact mem_ix 10 rfl | exact mem_ix 11 rfl | exact mem_ix 12 rfl | exact mem_ix 13 rfl | exact mem_ix 14 rfl | exact mem_ix 15 rfl))
      refine EVs.ofPA (PA.cons (PE.locV S rfl rfl) PA.nil rfl) fun ts => ListK.mk S (Nat.le_of_ble_eq_true rfl) ?_
      intro D5 h8 hlt5 c S
      have hD5 : @LT.lt Nat _ H D5 := hlt5 (H, _) (by (first | exact mem_ix 0 rfl | exact mem_ix 1 rfl | exact mem_ix 2 rfl | exact mem_ix 3 rfl | exact mem_ix 4 rfl | exact mem_ix 5 rfl | exact mem_ix 6 rfl | exact mem_ix 7 rfl | exact mem_ix 8 rfl | exact mem_ix 9 rfl | exact mem_ix 10 rfl | exact mem_ix 11 rfl | exact mem_ix 12 rfl | exact mem_ix 13 rfl | exact mem_ix 14 rfl | exact mem_ix 15 rfl))
      refine SubK.mk S (.head _) (PE.locI S rfl rfl) (by omega) (fun _ => rfl) (fun _ => rfl) (fun ej => AddL.mk (EV.list (EVs.ofPA (PA.cons (PE.add (PE.locI S rfl rfl) PE.int) PA.nil rfl) fun ts => ListK.mk S (Nat.le_of_ble_eq_true rfl) ?_))) (fun ej => AddL.mk (EV.list (EVs.ofPA (PA.cons (PE.add (PE.locI S rfl rfl) PE.int) PA.nil rfl) fun ts => ListK.mk S (Nat.le_of_ble_eq_true rfl) ?_)))
      all_goals (
        intro D6 h9 hlt6 c S
        have hD6 : @LT.lt Nat _ H D6 := hlt6 (H, _) (by (first | exact mem_ix 0 rfl | exact mem_ix 1 rfl | exact mem_ix 2 rfl | exact mem_ix 3 rfl | exact mem_ix 4 rfl | exact mem_ix 5 rfl | exact mem_ix 6 rfl | exact mem_ix 7 rfl | exact mem_ix 8 rfl | exact mem_ix 9 rfl | exact mem_ix 10 rfl | exact mem_ix 11 rfl | exact mem_ix 12 rfl | exact mem_ix 13 rfl | exact mem_ix 14 rfl | exact mem_ix 15 rfl))
        refine AddK.mk S (News.isList S.n (by (first | exact mem_ix 0 rfl | exact mem_ix 1 rfl | exact mem_ix 2 rfl | exact mem_ix 3 rfl | exact mem_ix 4 rfl | exact mem_ix 5 rfl | exact mem_ix 6 rfl | exact mem_ix 7 rfl | exact mem_ix 8 rfl | exact mem_ix 9 rfl | exact mem_ix 10 rfl | exact mem_ix 11 rfl | exact mem_ix 12 rfl | exact mem_ix 13 rfl | exact mem_ix 14 rfl | exact mem_ix 15 rfl))) (News.isList S.n (.head _)) rfl (Nat.le_of_ble_eq_true rfl) ?_
        intro D7 h10 hlt7 c S
        have hD7 : @LT.lt Nat _ H D7 := hlt7 (H, _) (by (first | exact mem_ix 0 rfl | exact mem_ix 1 rfl | exact mem_ix 2 rfl | exact mem_ix 3 rfl | exact mem_ix 4 rfl | exact mem_ix 5 rfl | exact mem_ix 6 rfl | exact mem_ix 7 rfl | exact mem_ix 8 rfl | exact mem_ix 9 rfl | exact mem_ix 10 rfl | exact mem_ix 11 rfl | exact mem_ix 12 rfl | exact mem_ix 13 rfl | exact mem_ix 14 rfl | exact mem_ix 15 rfl))
        refine BytesK.mk S (.head _) (ints3 rfl) (in256_cons (fm256 _) (in256_cons (fm256 _) (in256_cons (by omega) in256_nil))) (Nat.le_of_ble_eq_true rfl) ?_
        intro h11 t8 c S
        refine EVs.nil (TupK.mk S (Nat.le_of_ble_eq_true rfl) ?_)
        intro D8 h12 hlt8 c S
        have hD8 : @LT.lt Nat _ H D8 := hlt8 (H, _) (by (first | exact mem_ix 0 rfl | exact mem_ix 1 rfl | exact mem_ix 2 rfl | exact mem_ix 3 rfl | exact mem_ix 4 rfl | exact mem_ix 5 rfl | exact mem_ix 6 rfl | exact mem_ix 7 rfl | exact mem_ix 8 rfl | exact mem_ix 9 rfl | exact mem_ix 10 rfl | exact mem_ix 11 rfl | exact mem_ix 12 rfl | exact mem_ix 13 rfl | exact mem_ix 14 rfl | exact mem_ix 15 rfl))
        have hD8E : @LT.lt Nat _ E D8 := hlt8 (E, _) (by (first | exact mem_ix 0 rfl | exact mem_ix 1 rfl | exact mem_ix 2 rfl | exact mem_ix 3 rfl | exact mem_ix 4 rfl | exact mem_ix 5 rfl | exact mem_ix 6 rfl | exact mem_ix 7 rfl | exact mem_ix 8 rfl | exact mem_ix 9 rfl | exact mem_ix 10 rfl | exact mem_ix 11 rfl | exact mem_ix 12 rfl | exact mem_ix 13 rfl | exact mem_ix 14 rfl | exact mem_ix 15 rfl))
        have hD8I : @LT.lt Nat _ I D8 := hlt8 (I, _) (by (first | exact mem_ix 0 rfl | exact mem_ix 1 rfl | exact mem_ix 2 rfl | exact mem_ix 3 rfl | exact mem_ix 4 rfl | exact mem_ix 5 rfl | exact mem_ix 6 rfl | exact mem_ix 7 rfl | exact mem_ix 8 rfl | exact mem_ix 9 rfl | exact mem_ix 10 rfl | exact mem_ix 11 rfl | exact mem_ix 12 rfl | exact mem_ix 13 rfl | exact mem_ix 14 rfl | exact mem_ix 15 rfl))
        refine' AppK.ofH (as := as ++ [D3]) (n := n + 1) S (by rw [List.length_append, List.length_singleton]; omega) ?U2 ?_
        case U2 => k_upd
        intro h13 c S
        refine Run.nil fun tk => ⟨.inl rfl, (as ++ [D3] ++ [D8], n + 1 + 1), _, _, c.m, c.news, rfl, S.f, told_cons rfl (told_cons rfl (told_cons rfl told_nil)), S.n, (by (repeat' (first | exact List.forall_mem_nil _ | (refine List.forall_mem_cons.mpr ⟨?_, ?_⟩) | (first | exact mem_ix 0 rfl | exact mem_ix 1 rfl | exact mem_ix 2 rfl | exact mem_ix 3 rfl | exact mem_ix 4 rfl | exact mem_ix 5 rfl | exact mem_ix 6 rfl | exact mem_ix 7 rfl | exact mem_ix 8 rfl | exact mem_ix 9 rfl | exact mem_ix 10 rfl | exact mem_ix 11 rfl | exact mem_ix 12 rfl | exact mem_ix 13 rfl | exact mem_ix 14 rfl | exact mem_ix 15 rfl)))), (by (repeat' (first | exact List.forall_mem_nil _ | (refine List.forall_mem_cons.mpr ⟨?_, ?_⟩) | (first | exact mem_ix 0 rfl | exact mem_ix 1 rfl | exact mem_ix 2 rfl | exact mem_ix 3 rfl | exact mem_ix 4 rfl | exact mem_ix 5 rfl | exact mem_ix 6 rfl | exact mem_ix 7 rfl | exact mem_ix 8 rfl | exact mem_ix 9 rfl | exact mem_ix 10 rfl | exact mem_ix 11 rfl | exact mem_ix 12 rfl | exact mem_ix 13 rfl | exact mem_ix 14 rfl | exact mem_ix 15 rfl)))), (by (first | exact tail_of 1 rfl | exact tail_of 2 rfl | exact tail_of 3 rfl | exact tail_of 4 rfl | exact tail_of 5 rfl | exact tail_of 6 rfl | exact tail_of 7 rfl | exact tail_of 8 rfl | exact tail_of 9 rfl | exact tail_of 10 rfl | exact tail_of 11 rfl | exact tail_of 12 rfl | exact tail_of 13 rfl | exact tail_of 14 rfl | exact tail_of 15 rfl)), fun kp => ?_⟩
        refine lines_end hpp hxi kp (List.forall_mem_cons.mpr ⟨ln_new S.n (by (first | exact mem_ix 0 rfl | exact mem_ix 1 rfl | exact mem_ix 2 rfl | exact mem_ix 3 rfl | exact mem_ix 4 rfl | exact mem_ix 5 rfl | exact mem_ix 6 rfl | exact mem_ix 7 rfl | exact mem_ix 8 rfl | exact mem_ix 9 rfl | exact mem_ix 10 rfl | exact mem_ix 11 rfl | exact mem_ix 12 rfl | exact mem_ix 13 rfl | exact mem_ix 14 rfl | exact mem_ix 15 rfl)) (Nat.ne_of_gt hD3E) (Nat.ne_of_gt hD3I) (Nat.ne_of_gt hD3), List.forall_mem_singleton.mpr (ln_new S.n (by (first | exact mem_ix 0 rfl | exact mem_ix 1 rfl | exact mem_ix 2 rfl | exact mem_ix 3 rfl | exact mem_ix 4 rfl | exact mem_ix 5 rfl | exact mem_ix 6 rfl | exact mem_ix 7 rfl | exact mem_ix 8 rfl | exact mem_ix 9 rfl | exact mem_ix 10 rfl | exact mem_ix 11 rfl | exact mem_ix 12 rfl | exact mem_ix 13 rfl | exact mem_ix 14 rfl | exact mem_ix 15 rfl)) (Nat.ne_of_gt hD8E) (Nat.ne_of_gt hD8I) (Nat.ne_of_gt hD8))⟩) (.cons (ltup_new S.n (by (first | exact mem_ix 0 rfl | exact mem_ix 1 rfl | exact mem_ix 2 rfl | exact mem_ix 3 rfl | exact mem_ix 4 rfl | exact mem_ix 5 rfl | exact mem_ix 6 rfl | exact mem_ix 7 rfl | exact mem_ix 8 rfl | exact mem_ix 9 rfl | exact mem_ix 10 rfl | exact mem_ix 11 rfl | exact mem_ix 12 rfl | exact mem_ix 13 rfl | exact mem_ix 14 rfl | exact mem_ix 15 rfl))) (.cons (ltup_new S.n (by (first | exact mem_ix 0 rfl | exact mem_ix 1 rfl | exact mem_ix 2 rfl | exact mem_ix 3 rfl | exact mem_ix 4 rfl | exact mem_ix 5 rfl | exact mem_ix 6 rfl | exact mem_ix 7 rfl | exact mem_ix 8 rfl | exact mem_ix 9 rfl | exact mem_ix 10 rfl | exact mem_ix 11 rfl | exact mem_ix 12 rfl | exact mem_ix 13 rfl | exact mem_ix 14 rfl | exact mem_ix 15 rfl))) .nil)) ?_ (Nat.le_refl 2) (List.append_assoc _ _ _)
        exact la_two hb rfl (by first | exact lay0 ej | exact lay1 ej) rfl rfl)
    · refine Run.ifF (BE.eq (PE.mod (PE.fdiv (PE.locI S rfl rfl) (PE.pow PE.int (PE.add PE.int (PE.locI S rfl rfl)) (by omega)) (p2ok' (by omega))) PE.int (by decide)) PE.int) (decide_eq_false hb) ?_
      refine Run.nil fun tk => ⟨.inl rfl, (as ++ [D3], n + 1), _, _, c.m, c.news, rfl, S.f, told_cons rfl (told_cons rfl (told_cons rfl told_nil)), S.n, (by (repeat' (first | exact List.forall_mem_nil _ | (refine List.forall_mem_cons.mpr ⟨?_, ?_⟩) | (first | exact mem_ix 0 rfl | exact mem_ix 1 rfl | exact mem_ix 2 rfl | exact mem_ix 3 rfl | exact mem_ix 4 rfl | exact mem_ix 5 rfl | exact mem_ix 6 rfl | exact mem_ix 7 rfl | exact mem_ix 8 rfl | exact mem_ix 9 rfl | exact mem_ix 10 rfl | exact mem_ix 11 rfl | exact mem_ix 12 rfl | exact mem_ix 13 rfl | exact mem_ix 14 rfl | exact mem_ix 15 rfl)))), (by (repeat' (first | exact List.forall_mem_nil _ | (refine List.forall_mem_cons.mpr ⟨?_, ?_⟩) | (first | exact mem_ix 0 rfl | exact mem_ix 1 rfl | exact mem_ix 2 rfl | exact mem_ix 3 rfl | exact mem_ix 4 rfl | exact mem_ix 5 rfl | exact mem_ix 6 rfl | exact mem_ix 7 rfl | exact mem_ix 8 rfl | exact mem_ix 9 rfl | exact mem_ix 10 rfl | exact mem_ix 11 rfl | exact mem_ix 12 rfl | exact mem_ix 13 rfl | exact mem_ix 14 rfl | exact mem_ix 15 rfl)))), (by (first | exact tail_of 1 rfl | exact tail_of 2 rfl | exact tail_of 3 rfl | exact tail_of 4 rfl | exact tail_of 5 rfl | exact tail_of 6 rfl | exact tail_of 7 rfl | exact tail_of 8 rfl | exact tail_of 9 rfl | exact tail_of 10 rfl | exact tail_of 11 rfl | exact tail_of 12 rfl | exact tail_of 13 rfl | exact tail_of 14 rfl | exact tail_of 15 rfl)), fun kp => ?_⟩
      refine lines_end hpp hxi kp (List.forall_mem_singleton.mpr (ln_new S.n (by (first | exact mem_ix 0 rfl | exact mem_ix 1 rfl | exact mem_ix 2 rfl | exact mem_ix 3 rfl | exact mem_ix 4 rfl | exact mem_ix 5 rfl | exact mem_ix 6 rfl | exact mem_ix 7 rfl | exact mem_ix 8 rfl | exact mem_ix 9 rfl | exact mem_ix 10 rfl | exact mem_ix 11 rfl | exact mem_ix 12 rfl | exact mem_ix 13 rfl | exact mem_ix 14 rfl | exact mem_ix 15 rfl)) (Nat.ne_of_gt hD3E) (Nat.ne_of_gt hD3I) (Nat.ne_of_gt hD3))) (.cons (ltup_new S.n (by (first | exact mem_ix 0 rfl | exact mem_ix 1 rfl | exact mem_ix 2 rfl | exact mem_ix 3 rfl | exact mem_ix 4 rfl | exact mem_ix 5 rfl | exact mem_ix 6 rfl | exact mem_ix 7 rfl | exact mem_ix 8 rfl | exact mem_ix 9 rfl | exact mem_ix 10 rfl | exact mem_ix 11 rfl | exact mem_ix 12 rfl | exact mem_ix 13 rfl | exact mem_ix 14 rfl | exact mem_ix 15 rfl))) .nil) ?_ (Nat.le_succ 1) rfl
      exact la_one hb rfl rfl
  · rintro s' ⟨⟨as, n⟩, h, tk, m, rfl, F', hm, N', hn, ha, hT⟩
    rw [← ovr_eq hm] at F'
    repeat' (first | (k_unfold; (try dsimp only)) | ((fail_if_success (with_reducible show codeAny _ _ _ _ _)); first | (with_reducible refine exec_for_Call ?_) | walk1 | (dsimp only; walk1)))
    have z := N' _ (.head _)
    rw [hxs.size] at hT
    exact hR H h tk as n F'.keep z.1 z.2.2 (fun a h => ⟨(ha a h).2.2.2.1, (ha a h).2.2.2.2⟩) hT
end
section
variable {w : World} {s : Shared} {p : Program} {loose : List Str} {mean : ExcName → Option Value} {mg mb : Str → Option Value} {R : Result → Shared → Prop}
inductive Flat {α : Type} (f : α → Tok → Value) : List Value → List α → Prop
  | nil : Flat f [] []
  | cons (x : α) (t : Tok) {vs xs} : Flat f vs xs → Flat f (f x t :: vs) (x :: xs)
noncomputable abbrev FlatS := Flat Value.str
noncomputable abbrev FlatB := Flat Value.bytes
section
variable {α : Type} {f : α → Tok → Value}
theorem Flat.length {vs : List Value} {xs : List α} (x : Flat f vs xs) : vs.length = xs.length := by
  induction x with
  | nil => rfl
  | cons _ _ _ ih => exact congrArg Nat.succ ih
theorem Flat.append {vs ws : List Value} {xs ys : List α} (x : Flat f vs xs) (y : Flat f ws ys) : Flat f (vs ++ ws) (xs ++ ys) := by
  induction x with
  | nil => exact y
  | cons _ _ _ ih => exact .cons _ _ ih
theorem Flat.one (x : α) (t : Tok) : Flat f [f x t] [x] := .cons x t .nil
theorem Flat.get {vs : List Value} {xs : List α} (h : Flat f vs xs) : ∀ {i : Nat} {x : α}, xs[i]? = some x → ∃ t, vs[i]? = some (f x t) := by
  induction h with
  | nil => intro i x hx; simp at hx
  | cons y t h ih =>
    intro i x hx
    cases i with
    | zero =>
      simp at hx
      subst hx
      exact ⟨t, rfl⟩
    | succ i =>
      simp at hx
      obtain ⟨u, hu⟩ := ih hx
      exact ⟨u, by simpa using hu⟩
theorem Flat.take {vs : List Value} {xs : List α} (h : Flat f vs xs) : ∀ k, Flat f (vs.take k) (xs.take k) := by
  induction h with
  | nil => intro k; simp; exact .nil
  | cons y t h ih =>
    intro k
    cases k with
    | zero => exact .nil
    | succ k => exact .cons y t (ih k)
theorem Flat.drop {vs : List Value} {xs : List α} (h : Flat f vs xs) : ∀ k, Flat f (vs.drop k) (xs.drop k) := by
  induction h with
  | nil => intro k; simp; exact .nil
  | cons y t h ih =>
    intro k
    cases k with
    | zero => exact .cons y t h
    | succ k => exact ih k
theorem Flat.ins {vs : List Value} {xs : List α} (h : Flat f vs xs) (x : Int) (y : α) (t : Tok) : ∃ ys, Flat f (kl_ins vs x (f y t)) ys ∧ ys.Perm (xs ++ [y]) := by
  unfold kl_ins
  generalize (if x < 0 then (x + (vs.length : Int)).toNat else min x.toNat vs.length) = k
  refine ⟨xs.take k ++ y :: xs.drop k, (h.take k).append (.cons y t (h.drop k)), ?_⟩
  refine List.perm_middle.trans ?_
  rw [List.take_append_drop]
  exact (List.perm_append_singleton y xs).symm
end
section
variable {A : Around} {E : Value → Shared → Prop} {h₀ : Heap} {L l D : Addr} {m : Str → Option Value} {news news' : List (Addr × Obj)} {items : Array Value} {vs : List Value} {n : Nat} {k : Int} {u : Tok} {v : Value} {Q : Value → Shared → Prop}
theorem itemB {value slice : PySem.Expr} (F : Fr h₀ L s.heap m) (hl : h₀.IsList l items) (h0 : 0 ≤ k) (hfit : k < 2 ^ 63) (hx : items[k.toNat]? = some v) (h : Q v s)
    (hs : subscripted slice false (.ref l) (.int k u) = operate [.ref l, .int k u] (getItem (.ref l) (.int k u))) (hg : ∀ r, letTemporaryGo value (.ref l) r = pure ()) :
    wpAny (model prg w) A (subscriptTail value slice (.ref l) (.int k u)) Q E s := by
  obtain ⟨o, ho, r⟩ := hl
  exact item_list ⟨o, F.keep _ _ ho, r⟩ h0 hfit hx h hs hg
theorem lenB (F : Fr h₀ L s.heap m) (hl : h₀.IsList l items) (hsz : items.size < 1000000) (h : Q (.int items.size (s.toks + 1)) { s with toks := s.toks + 1 + 1 }) : wpAny (model prg w) A (call (.builtin "len") [.ref l]) Q E s := by
  obtain ⟨o, ho, r⟩ := hl
  exact len_list ⟨o, F.keep _ _ ho, r⟩ (by omega) h
theorem appV (F : Fr h₀ L s.heap m) (N : News h₀ L s.heap news) (U : Upd D (W.listOf vs.toArray n) (W.listOf (vs ++ [v]).toArray (n + 1)) news news') (hsz : vs.length < 1000000)
    (h : ∀ h', Fr h₀ L h' m → News h₀ L h' news' → Q .none { s with heap := h' }) : wpAny (model prg w) A (call (.builtin "list.append") [.ref D, v]) Q E s := by
  have e : vs.toArray.push v = (vs ++ [v]).toArray := by simp
  refine append_K F N (its := vs.toArray) (n := n) (by rw [e]; exact U) h ?_
  rw [List.size_toArray]
  exact Nat.le_of_lt (Nat.lt_of_lt_of_le hsz (Nat.le_of_ble_eq_true rfl))
theorem insV {x : Int} (F : Fr h₀ L s.heap m) (N : News h₀ L s.heap news) (U : Upd D (W.listOf vs.toArray n) (W.listOf (kl_ins vs x v).toArray (n + 1)) news news') (hf : Builtin.List.listFitsIndex x = true) (hsz : vs.length < 1000000)
    (h : ∀ h', Fr h₀ L h' m → News h₀ L h' news' → Q .none { s with heap := h' }) : wpAny (model prg w) A (call (.builtin "list.insert") [.ref D, .int x u, v]) Q E s := by
  refine kl_insert F N (its := vs.toArray) (n := n) hf rfl U ?_ h
  show vs.length ≤ sizeLine
  exact Nat.le_of_lt (Nat.lt_of_lt_of_le hsz (Nat.le_of_ble_eq_true rfl))
theorem fits_fmod {a : Int} {i : Nat} (hi : i < 1000000) : Builtin.List.listFitsIndex (a.fmod ((i : Int) + 1)) = true := by
  have h0 : 0 ≤ a.fmod ((i : Int) + 1) := Int.fmod_nonneg_of_pos _ (by omega)
  have h1 : a.fmod ((i : Int) + 1) < (i : Int) + 1 := Int.fmod_lt_of_pos _ (by omega)
  unfold Builtin.List.listFitsIndex
  simp only [Bool.and_eq_true, decide_eq_true_eq]
  omega
end
theorem small_txt {b : Array UInt8} (h : IsRow b) : (txt b).length ≤ 4 := by
  rcases h with ⟨x, y, rfl⟩ | ⟨x, y, z, rfl⟩ <;> exact Nat.le_refl 4
theorem len_app (x y : Str) : (x ++ y).length = x.length + y.length := by
  show (x.cps ++ y.cps).size = _
  rw [Array.size_append]; rfl
theorem add_small {A : Around} {E : Value → Shared → Prop} {x y : Str} {t u : Tok} {Q : Value → Shared → Prop} (hab : x.length + y.length ≤ 1000000) (h : ∀ t' tk, Q (.str (x ++ y) t') { s with toks := tk }) :
    wpAny (model prg w) A (binaryOp .Add (.str x t) (.str y u)) Q E s :=
  PyProof.Rows.add_str h (by
    have q : (1000000 : Nat) ≤ sizeLine := Nat.le_of_ble_eq_true rfl
    omega)
section
variable {A : Around} {E : Value → Shared → Prop} {h₀ : Heap} {L l r : Addr} {m : Str → Option Value} {news : List (Addr × Obj)} {items : Array Value} {n : Nat} {t u v : Tok} {Q : Value → Shared → Prop}
theorem iter_range0 (F : Fr h₀ L s.heap m) (N : News h₀ L s.heap news) (hr : IsRange s.heap r 0 (n : Int) 1 t u v) (hn : n < 1000000)
    (k : ∀ I h', Fr h₀ L h' m → News h₀ L h' news → IsRangeIter h' I 0 n 1 → I ≠ L → h₀.get? I = none → (∀ b o, s.heap.get? b = some o → b ≠ I ∧ h'.get? b = some o) → Q (.ref I) { s with heap := h' }) : wpAny (model prg w) A (pyIter (.ref r)) Q E s := by
  have hab := F.above
  have hLs := F.ns.lt
  have e : Builtin.Range.rangeSize 0 (n : Int) 1 = (n : Int) := by
    unfold Builtin.Range.rangeSize
    by_cases h : 0 < (n : Int)
    · simp
      omega
    · have : n = 0 := by omega
      subst this
      simp
  refine wpAny_pyIter_range hr ?_ (k _ _ (F.push _) (fun q hq => ⟨Heap.get?_push_of_some _ (N q hq).1, (N q hq).2⟩) ?_ (Nat.ne_of_gt hLs) (none_above (Nat.le_of_lt (Nat.lt_of_le_of_lt hab hLs))) fun b o e => ⟨Nat.ne_of_lt (Heap.lt_size e), Heap.get?_push_of_some _ e⟩)
  · unfold Builtin.Range.small
    rw [e]
    simp [Builtin.Range.rangeFitsLong]
    omega
  · show _ = _
    rw [e]
    exact Heap.get?_push_size _ rfl
theorem iter_listB (F : Fr h₀ L s.heap m) (N : News h₀ L s.heap news) (hl : h₀.IsList l items)
    (k : ∀ I h', Fr h₀ L h' m → News h₀ L h' news → h'.IsListIter I l 0 → I ≠ L → h₀.get? I = none → (∀ b o, s.heap.get? b = some o → b ≠ I ∧ h'.get? b = some o) → Q (.ref I) { s with heap := h' }) : wpAny (model prg w) A (pyIter (.ref l)) Q E s := by
  have hab := F.above
  have hLs := F.ns.lt
  obtain ⟨o, ho, r⟩ := hl
  refine wpAny_pyIter_list ⟨o, F.keep _ _ ho, r⟩ (k _ _ (F.push _) (fun q hq => ⟨Heap.get?_push_of_some _ (N q hq).1, (N q hq).2⟩) ⟨_, Heap.get?_push_size _ rfl, rfl, rfl⟩ (Nat.ne_of_gt hLs) (none_above (Nat.le_of_lt (Nat.lt_of_le_of_lt hab hLs))) fun b o e => ⟨Nat.ne_of_lt (Heap.lt_size e), Heap.get?_push_of_some _ e⟩)
end
end
section
variable {w : World} {s : Shared} {p : Program} {loose : List Str} {mean : ExcName → Option Value} {mg mb : Str → Option Value} {R : Result → Shared → Prop}
theorem Loop.listJ {X : Type} {c : Ctx} {told : X → List (Str × Value)} {led : X → List (Addr × Obj)} {Φ : Nat → Heap → X → Prop} {adr : List Addr} {x : Str} {px : Pos} {body rest : List Stmt} {Q : Flow → Shared → Prop} {E : Value → Shared → Prop} {I l : Addr} {items : Array Value}
    (hh : c.A.handled = none) (hadr : ∀ x, (led x).map (·.1) = adr) (hIL : I ≠ c.env.locals) (hI0 : c.h₀.get? I = none) (hIa : ∀ a ∈ adr, a ≠ I) (hl : c.h₀.IsList l items)
    (hst : ∀ i h h' x, Φ i h x → (∀ b o, b ≠ I → h.get? b = some o → h'.get? b = some o) → Φ i h' x) (hi : c.h.IsListIter I l 0) (hx : isLoc c.env x = true)
    (x0 : X) (S : c.Ok) (ht : Told c.m (told x0)) (hn : ∀ q ∈ led x0, q ∈ c.news) (hΦ : Φ 0 c.h x0)
    (step : ∀ i v oI y h h' m fz Q' E', items[i]? = some v → (∀ q ∈ fz, (∀ a ∈ adr, q.1 ≠ a) ∧ q.1 ≠ I) → (∀ b o, h.get? b = some o → b ≠ c.env.locals → c.h₀.get? b = none → (∀ a ∈ adr, a ≠ b) → I ≠ b → (b, o) ∈ fz) → Φ i h y →
      (∀ s₃, LEnd c.h₀ (c.at 0) c.env.locals told led Φ i adr [(I, oI)] fz h s₃ → Q' .next s₃ ∧ Q' .cont s₃) → let c' : Ctx := { c with h := h', m := upd x v (ovr (told y) m), news := (I, oI) :: (led y ++ fz) }; c'.Ok → Run c' body Q' E')
    (hR : ∀ y h m, Φ items.size h y → let c' : Ctx := { c with h := h, m := ovr (told y) m, news := led y }; c'.Ok → Run c' rest Q E) : Loop c (.forLoop (.Name x px) (.ref I) body [] c.env) (c.bh rest Q E) := ⟨fun tk => by
  obtain ⟨h1, h2, h3⟩ := isLoc_of hx
  refine for_listJ (s := c.at 0) (told := told) (led := led) (Φ := Φ) hh (fun _ => rfl) hadr hIL hI0 hIa hl hst hi ⟨x0, _, _, _, rfl, S.f, ht, fun q hq => S.n q (hn q hq), hΦ⟩ ?_ ?_
  · intro i v oI y h tk m fz hv hc F N hfz hal hp
    refine wpAny_assign_Name ?_
    refine wpAny_storeName_local h2 (s := ⟨h, c.gs, c.dr, tk, c.os⟩) F.ns (fun h'' hn hs => ?_) (by rw [h1]; rfl)
    exact (step i v oI y h h'' m fz _ _ hv (fun q hq => ⟨(hfz q hq).1, (hfz q hq).2 _ (.head _)⟩) (fun b o a1 a2 a3 a4 a5 => hal b o a1 a2 a3 a4 (List.forall_mem_singleton.mpr a5)) hp (fun s₃ z => ⟨⟨.inl rfl, z⟩, ⟨.inr rfl, z⟩⟩) ⟨F.set hn hs, N.set hs⟩).go _
  · rintro s' ⟨y, h, tk, m, rfl, F, hm, N, hp⟩
    rw [← ovr_eq hm] at F
    exact (hR y h m hp ⟨F, N⟩).go tk⟩
theorem Run.forL {c : Ctx} {x : Str} {px pos : Pos} {y : PySem.Expr} {body rest : List Stmt} {Q : Flow → Shared → Prop} {E : Value → Shared → Prop} {l : Addr} {items : Array Value} (S : c.Ok) (hl : isLoc c.env x = true) (hv : c.m x = some (.ref l)) (hL : c.h₀.IsList l items)
    (k : ∀ I h2, h2.IsListIter I l 0 → I ≠ c.env.locals → c.h₀.get? I = none → (∀ b o, c.h.get? b = some o → b ≠ I ∧ h2.get? b = some o) → let c' := c.led h2 c.news; c'.Ok → Loop c' (.forLoop y (.ref I) body [] c'.env) (c'.bh rest Q E)) :
    Run c (.For y (.Name x px) body [] pos :: rest) Q E := ⟨fun tk => by
  obtain ⟨h1, h2, h3⟩ := isLoc_of hl
  refine wpAny_execs_cons (exec_for_Name (wpAny_Name (wpAny_loadName_local h1 h2 S.f.ns hv ?_) h3))
  refine iter_listB (s := c.at tk) S.f S.n hL fun I h' F' N' a1 a2 a3 a4 => ?_
  refine codeAny_mono ((k I h' a1 a2 a3 a4 ⟨F', N'⟩).go tk) fun r s h => ?_
  cases r with
  | ok f => cases f <;> exact h
  | error e => exact h⟩
theorem LEnd.of {X : Type} {c c' : Ctx} {told : X → List (Str × Value)} {led : X → List (Addr × Obj)} {Φ : Nat → Heap → X → Prop} {i : Nat} {adr : List Addr} {ex fz : List (Addr × Obj)} {h : Heap} {tk : Nat} (y : X) (S : c'.Ok) (hs : c'.stat = c.stat) (hg : c'.gs = c.gs) (h0 : c'.h₀ = c.h₀) (hm : Told c'.m (told y))
    (e1 : ∀ q ∈ ex, q ∈ c'.news) (e2 : ∀ q ∈ led y, q ∈ c'.news) (e3 : ∀ q ∈ fz, q ∈ c'.news) (e4 : (∀ b o, b ≠ c.env.locals → (∀ a ∈ adr, a ≠ b) → h.get? b = some o → c'.h.get? b = some o) → Φ (i + 1) c'.h y) : LEnd c.h₀ (c.at 0) c.env.locals told led Φ i adr ex fz h (c'.at tk) := by
  unfold Ctx.stat at hs
  simp only [Prod.mk.injEq] at hs
  obtain ⟨-, -, h3, h5, h6⟩ := hs
  refine ⟨y, c'.h, tk, c'.m, c'.news, ?_, ?_, hm, ?_, e1, e2, e3, e4⟩
  · unfold Ctx.at
    rw [hg, h5, h6]
  · rw [← h0, ← h3]; exact S.f
  · rw [← h0, ← h3]; exact S.n
end
section
variable {w : World} {s : Shared} {p : Program} {loose : List Str} {mean : ExcName → Option Value} {mg mb : Str → Option Value} {R : Result → Shared → Prop}
noncomputable def numB (x : Int) : Array UInt8 := byteArr [0, x.fdiv 256, x.fmod 256]
theorem row_numB (x : Int) : IsRow (numB x) := .inr ⟨_, _, _, rfl⟩
noncomputable def pk (q : LInf) : Str := txt (numB q.1) ++ q.2.1 ++ txt q.2.2
noncomputable def okL (q : LInf) : Prop := 0 ≤ q.1 ∧ q.1 < 256 ∧ q.2.1.length ≤ 2 ∧ IsRow q.2.2
theorem LTups.get {h : Heap} {as : List Nat} {qs : List LInf} (x : LTups h as qs) : ∀ i q, qs[i]? = some q → LTup h (as.getD i 0) q := by
  induction x with
  | nil => exact fun i q e => nomatch e
  | cons a _ ih =>
    intro i q e
    cases i with
    | zero => cases e; exact a
    | succ i => exact ih i q e
theorem LTups.length {h : Heap} {as : List Nat} {qs : List LInf} (x : LTups h as qs) : as.length = qs.length := by
  induction x with
  | nil => rfl
  | cons _ _ ih => exact congrArg Nat.succ ih
noncomputable abbrev FX := List Value × Nat
noncomputable def flLed (D : Nat) (x : FX) : List (Addr × Obj) := [(D, W.listOf x.1.toArray x.2)]
noncomputable abbrev FlatP := Flat (fun (q : LInf) t => Value.str (pk q) t)
noncomputable def pkPhi (qs : List LInf) (i : Nat) (_ : Heap) (x : FX) : Prop := x.1.length = i ∧ ∃ ps : List LInf, FlatP x.1 ps ∧ ps.Perm (qs.take i)
end
section
variable {w : World} {s : Shared} {p : Program} {loose : List Str} {mean : ExcName → Option Value} {mg mb : Str → Option Value} {R : Result → Shared → Prop}
structure STO {α : Type} (lt : α → α → Bool) : Prop where
  irr : ∀ a, lt a a = false
  trans : ∀ a b c, lt a b = true → lt b c = true → lt a c = true
  tri : ∀ a b, a ≠ b → lt a b = true ∨ lt b a = true
theorem STO.asym {α : Type} {lt : α → α → Bool} (O : STO lt) {a b : α} (h : lt a b = true) : lt b a = false := by
  cases e : lt b a with
  | false => rfl
  | true =>
    have := O.trans _ _ _ h e
    rw [O.irr] at this
    cases this
theorem STO.ntr {α : Type} {lt : α → α → Bool} (O : STO lt) {a b c : α} (h : lt b a = false) (k : lt c b = false) : lt c a = false := by
  cases e : lt c a with
  | false => rfl
  | true =>
    by_cases hab : a = b
    · subst hab; rw [e] at k; cases k
    · rcases O.tri _ _ hab with h1 | h1
      · rw [O.trans _ _ _ e h1] at k; cases k
      · rw [h1] at h; cases h
theorem order_refl : ∀ x : List UInt8, Builtin.Bytes.order x x = .eq
  | [] => rfl
  | a :: x => by
    have h : ¬ a < a := by simp
    simp only [Builtin.Bytes.order, gt_iff_lt, h, if_false]
    exact order_refl x
theorem order_trans : ∀ x y z : List UInt8, Builtin.Bytes.order x y = .lt → Builtin.Bytes.order y z = .lt → Builtin.Bytes.order x z = .lt
  | [], [], z, h, _ => by simp [Builtin.Bytes.order] at h
  | [], b :: y, [], _, k => by simp [Builtin.Bytes.order] at k
  | [], b :: y, c :: z, _, _ => rfl
  | a :: x, [], z, h, _ => by simp [Builtin.Bytes.order] at h
  | a :: x, b :: y, [], _, k => by simp [Builtin.Bytes.order] at k
  | a :: x, b :: y, c :: z, h, k => by
    simp only [Builtin.Bytes.order, gt_iff_lt, UInt8.lt_iff_toNat_lt] at h k ⊢
    by_cases h1 : a.toNat < b.toNat
    · by_cases k1 : b.toNat < c.toNat
      · rw [if_pos (by omega)]
      · rw [if_neg k1] at k
        by_cases k2 : c.toNat < b.toNat
        · rw [if_pos k2] at k; cases k
        · rw [if_pos (by omega)]
    · rw [if_neg h1] at h
      by_cases h2 : b.toNat < a.toNat
      · rw [if_pos h2] at h; cases h
      · rw [if_neg h2] at h
        by_cases k1 : b.toNat < c.toNat
        · rw [if_pos (by omega)]
        · rw [if_neg k1] at k
          by_cases k2 : c.toNat < b.toNat
          · rw [if_pos k2] at k; cases k
          · rw [if_neg k2] at k
            rw [if_neg (by omega), if_neg (by omega)]
            exact order_trans x y z h k
theorem order_tri : ∀ x y : List UInt8, x ≠ y → Builtin.Bytes.order x y = .lt ∨ Builtin.Bytes.order y x = .lt
  | [], [], h => absurd rfl h
  | [], b :: y, _ => .inl rfl
  | a :: x, [], _ => .inr rfl
  | a :: x, b :: y, h => by
    simp only [Builtin.Bytes.order, gt_iff_lt, UInt8.lt_iff_toNat_lt]
    by_cases h1 : a.toNat < b.toNat
    · rw [if_pos h1]; exact .inl rfl
    · by_cases h2 : b.toNat < a.toNat
      · rw [if_neg h1, if_pos h2, if_pos h2]; exact .inr rfl
      · rw [if_neg h1, if_neg h2, if_neg h2, if_neg h1]
        have e : a = b := UInt8.toNat_inj.mp (by omega)
        subst e
        exact order_tri x y fun e => h (by rw [e])
theorem sto_bytes : STO (fun x y : List UInt8 => Builtin.Bytes.holds "__lt__" (Builtin.Bytes.order x y)) := by
  have e : ∀ o : Ordering, Builtin.Bytes.holds "__lt__" o = (o == .lt) := fun o => rfl
  refine ⟨fun a => ?_, fun a b c h k => ?_, fun a b h => ?_⟩
  · show Builtin.Bytes.holds "__lt__" (Builtin.Bytes.order a a) = false
    rw [order_refl]; rfl
  · show Builtin.Bytes.holds "__lt__" (Builtin.Bytes.order a c) = true
    rw [e] at h k ⊢
    rw [order_trans a b c (by simpa using h) (by simpa using k)]
    rfl
  · show Builtin.Bytes.holds "__lt__" (Builtin.Bytes.order a b) = true ∨ Builtin.Bytes.holds "__lt__" (Builtin.Bytes.order b a) = true
    rw [e, e]
    rcases order_tri a b h with h | h
    · rw [h]; exact .inl rfl
    · rw [h]; exact .inr rfl
noncomputable def sltB (l l' : Str) : Bool := if l = l' then false else decide (l.cps.toList < l'.cps.toList)
theorem str_ext {l l' : Str} (h : l.cps.toList = l'.cps.toList) : l = l' := by
  cases l; cases l'
  simp only [Array.toList_inj] at h
  rw [h]
theorem sto_str : STO sltB := by
  refine ⟨fun a => if_pos rfl, fun a b c h k => ?_, fun a b h => ?_⟩
  · unfold sltB at h k ⊢
    by_cases h1 : a = b
    · rw [if_pos h1] at h; cases h
    by_cases k1 : b = c
    · rw [if_pos k1] at k; cases k
    rw [if_neg h1, decide_eq_true_eq] at h
    rw [if_neg k1, decide_eq_true_eq] at k
    have t := List.lt_trans h k
    have hne : a ≠ c := by
      rintro rfl
      exact absurd t (List.lt_irrefl _)
    rw [if_neg hne, decide_eq_true_eq]
    exact t
  · unfold sltB
    rw [if_neg h, if_neg (Ne.symm h), decide_eq_true_eq, decide_eq_true_eq]
    by_cases h1 : a.cps.toList < b.cps.toList
    · exact .inl h1
    · by_cases h2 : b.cps.toList < a.cps.toList
      · exact .inr h2
      · exact absurd (str_ext (List.le_antisymm (List.not_lt.mp h2) (List.not_lt.mp h1))) h
theorem sto_lex {α β : Type} [DecidableEq α] {f : α → α → Bool} {g : β → β → Bool} (F : STO f) (G : STO g) : STO (fun (p q : α × β) => if p.1 = q.1 then g p.2 q.2 else f p.1 q.1) := by
  refine ⟨fun a => ?_, fun a b c h k => ?_, fun a b h => ?_⟩
  · show (if a.1 = a.1 then g a.2 a.2 else f a.1 a.1) = false
    rw [if_pos rfl]; exact G.irr _
  · show (if a.1 = c.1 then g a.2 c.2 else f a.1 c.1) = true
    (try dsimp only at h k)
    by_cases h1 : a.1 = b.1
    · rw [if_pos h1] at h
      by_cases k1 : b.1 = c.1
      · rw [if_pos k1] at k
        rw [if_pos (h1.trans k1)]
        exact G.trans _ _ _ h k
      · rw [if_neg k1] at k
        rw [h1, if_neg k1]; exact k
    · rw [if_neg h1] at h
      by_cases k1 : b.1 = c.1
      · rw [← k1, if_neg h1]; exact h
      · rw [if_neg k1] at k
        have t := F.trans _ _ _ h k
        have hne : a.1 ≠ c.1 := fun e => by
          rw [e, F.irr] at t
          cases t
        rw [if_neg hne]; exact t
  · show (if a.1 = b.1 then g a.2 b.2 else f a.1 b.1) = true ∨ (if b.1 = a.1 then g b.2 a.2 else f b.1 a.1) = true
    by_cases h1 : a.1 = b.1
    · rw [if_pos h1, if_pos h1.symm]
      exact G.tri _ _ fun e => h (Prod.ext h1 e)
    · rw [if_neg h1, if_neg (Ne.symm h1)]
      exact F.tri _ _ h1
noncomputable def kc (q : LInf) : Array UInt8 × Str := (numB q.1, q.2.1 ++ txt q.2.2)
noncomputable def pltP (a b : Array UInt8 × Str) : Bool := pltB a.1 a.2 b.1 b.2
theorem sto_p : STO pltP := by
  have L := sto_lex sto_bytes sto_str
  have e : ∀ a b, pltP a b = (fun (p q : List UInt8 × Str) => if p.1 = q.1 then sltB p.2 q.2 else Builtin.Bytes.holds "__lt__" (Builtin.Bytes.order p.1 q.1)) (a.1.toList, a.2) (b.1.toList, b.2) := fun a b => by
    unfold pltP pltB sltB bltB
    rfl
  refine ⟨fun a => ?_, fun a b c h k => ?_, fun a b h => ?_⟩
  · rw [e]; exact L.irr _
  · rw [e] at h k ⊢; exact L.trans _ _ _ h k
  · rw [e, e]
    refine L.tri _ _ fun z => h ?_
    have z1 := congrArg Prod.fst z
    have z2 := congrArg Prod.snd z
    exact Prod.ext (Array.toList_inj.mp z1) z2
theorem ordd_key (key : Nat → Array UInt8 × Str) : Ordd (ltK key) :=
  ⟨fun a b h => sto_p.asym (a := key a) (b := key b) h, fun a b c h k => sto_p.ntr (a := key a) (b := key b) (c := key c) h k⟩
theorem HeapL.congr {lt lt' : Nat → Nat → Bool} {xs : List Nat} (h : HeapL lt xs) (e : ∀ a ∈ xs, ∀ b ∈ xs, lt a b = lt' a b) : HeapL lt' xs := fun i h0 hi => by
  rw [← e _ (mem_getD hi) _ (mem_getD (by omega))]
  exact h i h0 hi
section
variable {A : Around} {E : Value → Shared → Prop} {h₀ : Heap} {L : Addr} {m : Str → Option Value} {news : List (Addr × Obj)} {value slice : PySem.Expr} {x y : Str} {i : Int} {t u : Tok} {Q : Value → Shared → Prop}
theorem cut_ns (F : Fr h₀ L s.heap m) (N : News h₀ L s.heap news) (e : Txt.slice x none (some i) = y) (hsz : x.length ≤ 1000000) (h : ∀ h' t' k, Fr h₀ L h' m → News h₀ L h' news → Q (.str y t') { s with heap := h', toks := k })
    (hs : subscripted slice false (.str x t) (.ref s.heap.objs.size) = operate [.ref s.heap.objs.size, .str x t] (getItem (.str x t) (.ref s.heap.objs.size))) (ht : ∀ r, letTemporaryGo value (.str x t) r = pure ()) :
    wpAny (model prg w) A (subscriptTail value slice (.str x t) (.ref s.heap.objs.size)) Q E { s with heap := s.heap.push { cls := .type "slice", data := .fields #[.none, .int i u, .none] } } := by
  subst e
  exact slice_strN_ns F N h hs ht (Nat.le_trans hsz (Nat.le_of_ble_eq_true rfl))
theorem cut_sn (F : Fr h₀ L s.heap m) (N : News h₀ L s.heap news) (e : Txt.slice x (some i) none = y) (hsz : x.length ≤ 1000000) (h : ∀ h' t' k, Fr h₀ L h' m → News h₀ L h' news → Q (.str y t') { s with heap := h', toks := k })
    (hs : subscripted slice false (.str x t) (.ref s.heap.objs.size) = operate [.ref s.heap.objs.size, .str x t] (getItem (.str x t) (.ref s.heap.objs.size))) (ht : ∀ r, letTemporaryGo value (.str x t) r = pure ()) :
    wpAny (model prg w) A (subscriptTail value slice (.str x t) (.ref s.heap.objs.size)) Q E { s with heap := s.heap.push { cls := .type "slice", data := .fields #[.int i u, .none, .none] } } := by
  subst e
  exact slice_strN_sn F N h hs ht (Nat.le_trans hsz (Nat.le_of_ble_eq_true rfl))
end
theorem tag0 : Str.ofString "  " = ⟨#[32, 32]⟩ := by rfl
theorem tag1 : Str.ofString "- " = ⟨#[45, 32]⟩ := by rfl
theorem tag2 : Str.ofString "+ " = ⟨#[43, 32]⟩ := by rfl
noncomputable def okP (q : LInf) : Prop := 0 ≤ q.1 ∧ q.1 < 256 ∧ (q.2.1 = Str.ofString "  " ∨ q.2.1 = Str.ofString "- " ∨ q.2.1 = Str.ofString "+ ") ∧ IsRow q.2.2
noncomputable def lineOf (q : LInf) : Str := q.2.1 ++ txt q.2.2
theorem pk_form {q : LInf} (h : okP q) : ∃ a b c d e f g i j k : Nat, txt (numB q.1) = ⟨#[a, b, c, d]⟩ ∧ lineOf q = ⟨#[e, f, g, i, j, k]⟩ ∧ pk q = ⟨#[a, b, c, d, e, f, g, i, j, k]⟩ ∧ (e = 32 ∨ e = 45 ∨ e = 43) ∧ f = 32 ∧ q.2.1 = ⟨#[e, f]⟩ := by
  obtain ⟨n, tag, row⟩ := q
  obtain ⟨h0, h1, h2, h3⟩ := h
  dsimp only at h0 h1 h2 h3
  rw [tag0, tag1, tag2] at h2
  unfold pk lineOf
  dsimp only
  rcases h2 with rfl | rfl | rfl <;> rcases h3 with ⟨x, y, rfl⟩ | ⟨x, y, z, rfl⟩ <;> exact ⟨_, _, _, _, _, _, _, _, _, _, rfl, rfl, rfl, by decide, rfl, rfl⟩
theorem cut4 {a b c d e f g i j k : Nat} : Txt.slice ⟨#[a, b, c, d, e, f, g, i, j, k]⟩ none (some 4) = ⟨#[a, b, c, d]⟩ := by rfl
theorem cut4r {a b c d e f g i j k : Nat} : Txt.slice ⟨#[a, b, c, d, e, f, g, i, j, k]⟩ (some 4) none = ⟨#[e, f, g, i, j, k]⟩ :=
  (slice_from_eq (b := 10) (by decide) (by show (4 : Int) ≤ ((10 : Nat) : Int); decide) rfl).trans rfl
theorem cut2 {e f g i j k : Nat} : Txt.slice ⟨#[e, f, g, i, j, k]⟩ none (some 2) = ⟨#[e, f]⟩ := by rfl
theorem cut2r {e f g i j k : Nat} : Txt.slice ⟨#[e, f, g, i, j, k]⟩ (some 2) none = ⟨#[g, i, j, k]⟩ :=
  (slice_from_eq (b := 6) (by decide) (by show (2 : Int) ≤ ((6 : Nat) : Int); decide) rfl).trans rfl
section
variable {A : Around} {E : Value → Shared → Prop} {value slice : PySem.Expr} {x : Str} {c : Nat} {t u : Tok} {Q : Value → Shared → Prop}
theorem str0 (hc : x.cps[0]? = some c) (h : Q (.str ⟨#[c]⟩ s.toks) { s with toks := s.toks + 1 })
    (hs : subscripted slice false (.str x t) (.int 0 u) = operate [.str x t, .int 0 u] (getItem (.str x t) (.int 0 u))) :
    wpAny (model prg w) A (subscriptTail value slice (.str x t) (.int 0 u)) Q E s := by
  have hz : 0 < x.length := by
    show 0 < x.cps.size
    by_cases hz : 0 < x.cps.size
    · exact hz
    · rw [Array.getElem?_eq_none (by omega)] at hc; cases hc
  refine tail_any (typeIs_str s x t) F.slot_str_getitem.lookup (P.getItem_str (by decide) ?_ h) hs
  have e : seqIndex? 0 x.length = some 0 := by
    unfold seqIndex?
    simp
    omega
  rw [e]
  exact hc
end
section
variable {A : Around} {E : Value → Shared → Prop} {h₀ : Heap} {L D : Addr} {m : Str → Option Value} {news news' : List (Addr × Obj)} {vs : List Value} {n : Nat} {v : Value} {t : Tok} {Q : Unit → Shared → Prop}
theorem setLast (F : Fr h₀ L s.heap m) (N : News h₀ L s.heap news) (U : Upd D (W.listOf vs.toArray n) (W.listOf (vs.dropLast ++ [v]).toArray n) news news') (hne : vs ≠ [])
    (h : ∀ h', Fr h₀ L h' m → News h₀ L h' news' → Q () { s with heap := h' }) : wpAny (model prg w) A (setItem (.ref D) (.int (-1) t) v) Q E s := by
  obtain ⟨l, y, rfl⟩ : ∃ l y, vs = l ++ [y] := ⟨vs.dropLast, vs.getLast hne, (List.dropLast_concat_getLast hne).symm⟩
  obtain ⟨pre, post, rfl, rfl, a, b⟩ := U.split
  have z := N (D, W.listOf (l ++ [y]).toArray n) (List.mem_append.mpr (.inr (.head _)))
  have hz : (l ++ [y]).toArray.size = l.length + 1 := by simp
  refine ki_setBack z.1 (by decide) (by rw [hz]; omega) (by decide) (h _ (F.change (Heap.SameBut.update ..) z.2.1 z.2.2) (ki_turn _ N a b ?_ ?_))
  · have e : (-1 + ((l ++ [y]).toArray.size : Int)).toNat = l.length := by rw [hz]; omega
    rw [e, List.dropLast_concat]
    apply Array.toList_inj.mp
    simp
  · simp
end
end
section
variable {w : World} {s : Shared} {p : Program} {loose : List Str} {mean : ExcName → Option Value} {mg mb : Str → Option Value} {R : Result → Shared → Prop}
section
variable {c : Ctx} {x y fn : Str} {pos px py p1 p3 pa pn pt : Pos} {a b e : PySem.Expr} {es : List PySem.Expr} {rest : List Stmt} {Q : Flow → Shared → Prop} {E : Value → Shared → Prop} {QV : Value → Ctx → Prop} {d u : Nat} {f : Addr}
theorem EV.ns {i : Int} {kd : Nat} {z z' : Str} {t : Tok} (S : c.Ok) (P : PE c a (fun _ => .str z t)) (e : Txt.slice z none (some i) = z') (hsz : z.length ≤ 1000000)
    (hs : ∀ o, subscripted (.Slice none (some (.Constant (.int i) kd p1)) none p3) false (.str z t) (.ref o) = operate [.ref o, .str z t] (getItem (.str z t) (.ref o))) (ht : ∀ r, letTemporaryGo a (.str z t) r = pure ())
    (k : ∀ h' t', let c2 := c.led h' c.news; c2.Ok → QV (.str z' t') c2) : EV c (.Subscript a (.Slice none (some (.Constant (.int i) kd p1)) none p3) pos) QV :=
  ⟨fun Q' E tk K => Subscript_ (P.go _ _ _ fun _ k1 => wpAny_Slice (evalPart_none_step (evalPart_some_step (wpAny_Constant_int (evalPart_none_step
    (cut_ns (s := c.at (k1 + 1)) S.f S.n e hsz (fun h' t' k2 F' N' => K _ (c.led h' c.news) k2 rfl (k h' t' ⟨F', N'⟩)) (hs _) ht))))))⟩
theorem EV.sn {i : Int} {kd : Nat} {z z' : Str} {t : Tok} (S : c.Ok) (P : PE c a (fun _ => .str z t)) (e : Txt.slice z (some i) none = z') (hsz : z.length ≤ 1000000)
    (hs : ∀ o, subscripted (.Slice (some (.Constant (.int i) kd p1)) none none p3) false (.str z t) (.ref o) = operate [.ref o, .str z t] (getItem (.str z t) (.ref o))) (ht : ∀ r, letTemporaryGo a (.str z t) r = pure ())
    (k : ∀ h' t', let c2 := c.led h' c.news; c2.Ok → QV (.str z' t') c2) : EV c (.Subscript a (.Slice (some (.Constant (.int i) kd p1)) none none p3) pos) QV :=
  ⟨fun Q' E tk K => Subscript_ (P.go _ _ _ fun _ k1 => wpAny_Slice (evalPart_some_step (wpAny_Constant_int (evalPart_none_step (evalPart_none_step
    (cut_sn (s := c.at (k1 + 1)) S.f S.n e hsz (fun h' t' k2 F' N' => K _ (c.led h' c.news) k2 rfl (k h' t' ⟨F', N'⟩)) (hs _) ht))))))⟩
inductive ConK (f : Addr) (d u : Nat) (QV : Value → Ctx → Prop) : Value → Ctx → Prop
  | mk {v c1 V} (S : c1.Ok) (C : Con d u c1.w f [v] [] V) (k : ∀ h' t, let c2 := c1.led h' c1.news; c2.Ok → QV (V t) c2) : ConK f d u QV v c1
theorem EV.con (S : c.Ok) (G : Gl c.w c.h₀) (gf : isGlo c.env fn = true) (g : GFn c.w fn f) (hA : AOk c.A d u) (hst : starEach [a] c.env = (false, eval a c.env) :: starEach [] c.env)
    (he : eval (.Call (.Name fn pn) [a] [] pa) c.env = (do callWith pa (← eval (.Name fn pn) c.env) [] (backTo pa (starEach [a] c.env)) (backToKw pa (keywordEach [] c.env))))
    (p : EV c a fun v c1 => Gl c1.w c1.h₀ ∧ ConK f d u QV v c1) : EV c (.Call (.Name fn pn) [a] [] pa) QV := ⟨fun Q' E tk K => by
  refine Call_ ((PE.gloG S G gf g.e).go _ _ _ fun _ _ => ?_) he
  refine callWith_K (h₀ := c.h₀) G.1 g.k (args_cons (p.go _ _ _ fun v c1 k1 hs1 q => args_nil ?_) hst) hst
  obtain ⟨G1, S1, C, k⟩ := q
  obtain ⟨e1, e2, e3⟩ := stat_of hs1
  rw [← e1]
  refine ⟨Frag.In.keeps G1.1 S1.f.keep, ?_⟩
  rw [← e2]
  refine wpAny_call (codeAny_weaken (C.go (c1.at k1) _ (G1.keeps S1.f.keep) fun v s' q st => ?_) (by rw [e2]; exact hA.h) (by rw [e2]; exact hA.d) (by rw [e2]; exact hA.u))
  obtain ⟨t', h', tk', rfl, rfl⟩ := q
  exact K _ (c1.led h' c1.news) tk' hs1 (k h' t' ⟨Fr.out S1.f st, News.out S1.n st⟩)⟩
inductive TurnK (f : Addr) (d u : Nat) (QV : Value → Ctx → Prop) : List Value → Ctx → Prop
  | mk {vs c1} {H n : Nat} {as : List Nat} {g : Obj → List (Addr × Obj)} {P : Value → List Nat → Prop} (S : c1.Ok) (G : Gl c1.w c1.h₀) (U : UpdF H (hobj as n) c1.news g)
      (C : ∀ k (R : Result → Shared → Prop), (∀ v s', HOut (c1.at k) H P v s' → R (.ok (.ret v)) s') → codeAny (model prg c1.w) (AT d u) (.call (.ref f) ⟨vs, []⟩) R (c1.at k))
      (k : ∀ v h' as' n', P v as' → let c2 := c1.led h' (g (hobj as' n')); c2.Ok → QV v c2) : TurnK f d u QV vs c1
theorem EV.turn (S : c.Ok) (G : Gl c.w c.h₀) (gf : isGlo c.env fn = true) (g : GFn c.w fn f) (hA : AOk c.A d u) (hst : starEach (e :: es) c.env = (false, eval e c.env) :: starEach es c.env) (hpl : (backTo pa (starEach es c.env)).any (·.1) = false)
    (he : eval (.Call (.Name fn pn) (e :: es) [] pa) c.env = (do callWith pa (← eval (.Name fn pn) c.env) [] (backTo pa (starEach (e :: es) c.env)) (backToKw pa (keywordEach [] c.env))))
    (p : EVs c (e :: es) (TurnK f d u QV)) : EV c (.Call (.Name fn pn) (e :: es) [] pa) QV := ⟨fun Q' E tk K => by
  refine Call_ ((PE.gloG S G gf g.e).go _ _ _ fun _ _ => ?_) he
  refine callWith_K (h₀ := c.h₀) G.1 g.k (p.go _ _ _ _ fun vs c1 k1 hs1 q => ?_) hst hpl
  obtain ⟨S1, G1, U, C, k⟩ := q
  obtain ⟨e1, e2, e3⟩ := stat_of hs1
  rw [← e1]
  refine ⟨Frag.In.keeps G1.1 S1.f.keep, ?_⟩
  rw [← e2]
  exact useM (s := c1.at k1) S1.f S1.n U (by rw [e2]; exact hA.h) (by rw [e2]; exact hA.d) (by rw [e2]; exact hA.u) (C k1) fun v h' tk' as' n' hp F' N' => K _ (c1.led h' _) tk' hs1 (k v h' as' n' hp ⟨F', N'⟩)⟩
inductive DropK (rest : List Stmt) (Q : Flow → Shared → Prop) (E : Value → Shared → Prop) : Value → Ctx → Prop
  | mk {v c1} (k : Run c1 rest Q E) : DropK rest Q E v c1
theorem Run.exprV (hi : interactive c.env = false) (hs : swapsWith e none pos.line c.env = pure false) (p : EV c e (DropK rest Q E)) : Run c (.Expr e pos :: rest) Q E :=
  ⟨fun tk => wpAny_execs_cons (wpAny_Expr_any (p.go _ _ _ fun v c1 k1 hs1 q => Run.at hs1 (let ⟨k⟩ := q; k) k1) hi hs)⟩
inductive PairK (x y : Str) (rest : List Stmt) (Q : Flow → Shared → Prop) (E : Value → Shared → Prop) : Value → Ctx → Prop
  | mk {D v1 v2 c1} (S : c1.Ok) (ht : IsTup c1.h D #[v1, v2]) (k : ∀ h', let c2 : Ctx := { c1 with h := h', m := upd y v2 (upd x v1 c1.m) }; c2.Ok → Run c2 rest Q E) : PairK x y rest Q E (.ref D) c1
theorem Run.pair {kd} (hh : c.A.handled = none) (hx : isLoc c.env x = true) (hy : isLoc c.env y = true) (hs : swapsWithSole [.Tuple [.Name x px, .Name y py] kd pt] e pos.line c.env = pure false) (hw : swappedStores [.Tuple [.Name x px, .Name y py] kd pt] e c.env = pure none)
    (p : EV c e (PairK x y rest Q E)) : Run c (.Assign [.Tuple [.Name x px, .Name y py] kd pt] e pos :: rest) Q E := ⟨fun tk => by
  obtain ⟨h1, h2, h3⟩ := isLoc_of hx
  obtain ⟨i1, i2, i3⟩ := isLoc_of hy
  refine wpAny_execs_cons (Assign_Tuple (p.go _ _ _ fun v c1 k1 hs1 q => ?_) hs hw)
  obtain ⟨S, ht, k⟩ := q
  obtain ⟨e1, e2, e3⟩ := stat_of hs1
  have hh1 : c1.A.handled = none := by rw [e2]; exact hh
  rw [← e1, ← e2, ← e3]
  rw [← e3] at h1 h2 i1 i2
  refine unpackN_ (s := c1.at k1) S.f S.n ht hh1 rfl rfl fun h' F' N' => ?_
  refine assignInOrder_cons (wpAny_assign_Name (wpAny_storeName_local h2 (s := ⟨h', c1.gs, c1.dr, k1, c1.os⟩) F'.ns (fun h'' hn hs => ?_) (by rw [h1]; rfl)))
  have F2 := F'.set hn hs
  have N2 := N'.set hs
  refine assignInOrder_cons (wpAny_assign_Name (wpAny_storeName_local i2 (s := ⟨h'', c1.gs, c1.dr, k1 + 1, c1.os⟩) F2.ns (fun h3 hn hs => ?_) (by rw [i1]; rfl)))
  exact assignInOrder_nil ((k h3 ⟨F2.set hn hs, N2.set hs⟩).go _)⟩
theorem BE.bytesNe {p q : Array UInt8} {t u : Tok} (P : PE c a (fun _ => .bytes p t)) (R : PE c b (fun _ => .bytes q u)) (hm : behindInMarks .NotEq b = false) : BE c (.Compare a [.NotEq] [b] pos) (p.toList != q.toList) :=
  ⟨fun _ _ _ k => wpAny_isTrue_Compare1 (P.go _ _ _ fun _ _ => R.go _ _ _ fun _ _ => ne_bytes (wpAny_truthy_bool (k _))) hm⟩
theorem BE.strEq {p q : Str} (P : PE c a (.str p)) (R : PE c b (.str q)) (hm : behindInMarks .Eq b = false) : BE c (.Compare a [.Eq] [b] pos) (p == q) :=
  ⟨fun _ _ _ k => wpAny_isTrue_Compare1 (P.go _ _ _ fun _ _ => R.go _ _ _ fun _ _ => eq_str (wpAny_truthy_bool (k _))) hm⟩
theorem PE.str0 {z : Str} {ch : Nat} {t : Tok} (P : PE c a (fun _ => .str z t)) (R : PE c b (.int 0)) (hc : z.cps[0]? = some ch) (hs : ∀ u, subscripted b false (.str z t) (.int 0 u) = operate [.str z t, .int 0 u] (getItem (.str z t) (.int 0 u))) :
    PE c (.Subscript a b pos) (.str ⟨#[ch]⟩) := ⟨fun _ _ _ k => Subscript_ (P.go _ _ _ fun _ _ => R.go _ _ _ fun _ _ => Mine.str0 hc (k _ _) (hs _))⟩
theorem PE.neg {i : Int} (P : PE c a (.int i)) : PE c (.UnaryOp .USub a pos) (.int (-i)) := ⟨fun _ _ _ k => wpAny_UnaryOp (P.go _ _ _ fun _ _ => PySem.P.neg_int (k _ _))⟩
theorem AppK.ofV {D : Addr} {c1 : Ctx} {v : Value} {vs : List Value} {n : Nat} {l : List (Addr × Obj)} (S : c1.Ok) (hsz : vs.length < 1000000) (U : Upd D (PySem.W.listOf vs.toArray n) (PySem.W.listOf (vs ++ [v]).toArray (n + 1)) c1.news l) (k : ∀ h', let c2 := c1.led h' l; c2.Ok → Run c2 rest Q E) : AppK D rest Q E v c1 :=
  AppK.mk (its := vs.toArray) S (by rw [show vs.toArray.push v = (vs ++ [v]).toArray by simp]; exact U) (by rw [List.size_toArray]; exact Nat.le_of_lt (Nat.lt_of_lt_of_le hsz (Nat.le_of_ble_eq_true rfl))) k
theorem Run.setLast {D : Addr} {v : Value} {vs : List Value} {n : Nat} {l : List (Addr × Obj)} (S : c.Ok) (hs : swapsWith e (some (.Subscript a b px)) pos.line c.env = pure false) (P : PE c e (fun _ => v)) (p : PE c a (fun _ => .ref D)) (q : PE c b (.int (-1)))
    (U : Upd D (W.listOf vs.toArray n) (W.listOf (vs.dropLast ++ [v]).toArray n) c.news l) (hne : vs ≠ []) (k : ∀ h', let c' := c.led h' l; c'.Ok → Run c' rest Q E) : Run c (.Assign [.Subscript a b px] e pos :: rest) Q E :=
  ⟨fun tk => wpAny_execs_cons (wpAny_Assign_Subscript (P.go _ _ _ fun _ _ => p.go _ _ _ fun _ _ => q.go _ _ _ fun _ k' => Mine.setLast (s := c.at k') S.f S.n U hne fun h' F' N' => (k h' ⟨F', N'⟩).go _) hs)⟩
end
end
section
variable {w : World} {s : Shared} {p : Program} {loose : List Str} {mean : ExcName → Option Value} {mg mb : Str → Option Value} {R : Result → Shared → Prop}
theorem g_siftup : GFn w (Str.ofString "_siftup") 137 := ⟨by k_is, by k_is⟩
theorem BE.heap {c : Ctx} {x : Str} {pos : Pos} {H n : Nat} {as : List Nat} (S : c.Ok) (hm : (H, hobj as n) ∈ c.news) (hsz : as.length < 1000000) (P : PE c (.Name x pos) (fun _ => .ref H)) : BE c (.Name x pos) (decide (0 < as.length)) := ⟨fun _ _ _ k => isTrue_plain (P.go _ _ _ fun _ k1 => by
  cases as with
  | nil => exact hp_truthy0 (s := c.at k1) S.n hm (k _)
  | cons a r => exact hp_truthy1 (s := c.at k1) S.n hm (Nat.succ_pos _) hsz (k _))⟩
theorem EV.pop {c : Ctx} {x : Str} {px pa pn : Pos} {pl : Sem Bool} {H n y : Nat} {as : List Nat} {l : List (Addr × Obj)} {QV : Value → Ctx → Prop} (S : c.Ok) (hl : isLoc c.env x = true) (hv : c.m x = some (.ref H)) (U : Upd H (hobj (as ++ [y]) n) (hobj as (n + 1)) c.news l) (hsz : as.length < 1000000)
    (he : eval (.Call (.Attribute (.Name x px) (Str.ofString "pop") pa) [] [] pn) c.env = (do
      let ov ← eval (.Name x px) c.env
      standAt pa.atName
      let (f, first) ← holding [ov] (getMethod ov (Str.ofString "pop") pl)
      callWith pn f first (backTo pn (starEach [] c.env)) (backToKw pn (keywordEach [] c.env))))
    (k : ∀ h', let c2 := c.led h' l; c2.Ok → QV (.ref y) c2) : EV c (.Call (.Attribute (.Name x px) (Str.ofString "pop") pa) [] [] pn) QV := ⟨fun Q' E tk K => by
  obtain ⟨h1, h2, h3⟩ := isLoc_of hl
  obtain ⟨pre, post, e0, -, -, -⟩ := U.split
  have hm : (H, hobj (as ++ [y]) n) ∈ c.news := by rw [e0]; exact List.mem_append_right _ (.head _)
  refine methodCall_KW (wpAny_Name (wpAny_loadName_local h1 h2 S.f.ns hv ?_) h3) he
  refine listMethod_K (s := c.at tk) S.n hm PySem.F.slot_list_pop PySem.F.type_list_pop ?_
  refine PyProof.Rows.callWith_method0 ?_
  exact hp_pop (s := c.at tk) S.f S.n U hsz fun h' F' N' => K _ (c.led h' l) tk rfl (k h' ⟨F', N'⟩)⟩
theorem c_heappush {key : Nat → Array UInt8 × Str} {h₀ : Heap} {H n x : Nat} {as : List Nat} (O : Ordd (ltK key)) (X : (hdK w.params).In h₀) (T : Top p loose mean mg mb h₀) (st : h₀.StaysIn s.heap) (hH0 : h₀.get? H = none)
    (hH : s.heap.get? H = some (hobj as n)) (hk : ∀ a ∈ as ++ [x], PTup s.heap a (key a).1 (key a).2) (hsz : as.length < 900000) (hHp : HeapL (ltK key) as)
    (hR : ∀ v s', HOut s H (fun v as' => v = .none ∧ as'.Perm (as ++ [x]) ∧ HeapL (ltK key) as') v s' → R (.ok (.ret v)) s') :
    codeAny (model prg w) (AT 880 8800) (.call (.ref 116) ⟨[.ref H, .ref x], []⟩) R s := by
  have hlen : (as ++ [x]).length = as.length + 1 := by simp
  have hk' : ∀ a ∈ as ++ [x], PTup (s.heap.hide H) a (key a).1 (key a).2 := fun a ha => by
    obtain ⟨o, t, u, k', ho, r⟩ := hk a ha
    exact ⟨o, t, u, k', hide_keeps (PTup.ne (hk a ha) hH) ho, r⟩
  have hx : (as ++ [x]).getD as.length 0 = x := by simp [List.getD]
  have g0 : Gap (ltK key) (as ++ [x]) as.length ((as ++ [x]).getD as.length 0) := by rw [hx]; exact hHp.push
  refine' enterMX [(Str.ofString "heap", .ref H), (Str.ofString "item", .ref x)] X T st hH0 hH ?ho ?hcd (by decide) ?hb ?hl ?_ ?c1 ?c2 ?c3 ?c4
  ((case ho => k_is); (case hcd => k_is); (case hb => first | exact BindsTo.of_eq rfl | exact binds_K (by assumption) rfl (by k_is) rfl rfl rfl); (case hl => exact locs rfl); (case c1 => rfl); (case c2 => rfl); (case c3 => rfl); (case c4 => decide))
  intro L h₁ c S X' T'
  have GG : Gl c.w c.h₀ := Gl.mk' X' T'
  refine Run.appendV S rfl rfl (.head _) rfl rfl rfl rfl (EV.pe (PE.locV S rfl rfl) fun _ => AppK.ofH (as := as) (n := n) S (by omega) (.head fun _ h => nomatch h) ?_)
  intro h2 c S
  refine Run.exprV rfl rfl (EV.turn (d := 900) (u := 9000) S GG rfl g_siftdown ⟨rfl, Nat.le_of_ble_eq_true rfl, Nat.le_of_ble_eq_true rfl⟩ rfl rfl rfl (EVs.cons rfl (EV.pe (PE.locV S rfl rfl) fun _ => EVs.cons rfl (EV.pe PE.int fun t1 => EVs.cons rfl (EV.pe (PE.sub (PE.hlen S GG (.head _) rfl g_len rfl rfl (by omega)) PE.int) fun t2 => EVs.nil ?_)))))
  refine TurnK.mk (as := as ++ [x]) (n := n + 1) (P := fun v as' => v = .none ∧ as'.Perm (as ++ [x]) ∧ HeapL (ltK key) as') S GG (.head fun _ h => nomatch h) (fun k R hR => ?_) ?_
  · rw [show (((as ++ [x]).length : Int) - 1) = ((as.length : Nat) : Int) by omega]
    exact c_siftdown (h₀ := s.heap.hide H) O X' T' S.f.keep (Heap.hide_self ..) ((S.n _ (.head _)).1) (fun a ha => (hk' a ha).keeps S.f.keep) (by omega) g0 hR
  rintro v' h' as2 n2 ⟨rfl, hP2, hH2⟩
  intro c S
  refine DropK.mk (Run.nil fun tk => hR _ _ ⟨_, _, as2, n2, rfl, (S.n _ (.head _)).1, ⟨rfl, hP2, hH2⟩, fun b o hb e => S.f.keep b o (hide_keeps hb e)⟩)
theorem c_heappop0 {h₀ : Heap} {H n x : Nat} (X : (hdK w.params).In h₀) (T : Top p loose mean mg mb h₀) (st : h₀.StaysIn s.heap) (hH0 : h₀.get? H = none)
    (hH : s.heap.get? H = some (hobj ([] ++ [x]) n))
    (hR : ∀ v s', HOut s H (fun v as' => v = .ref x ∧ as' = []) v s' → R (.ok (.ret v)) s') :
    codeAny (model prg w) (AT 880 8800) (.call (.ref 123) ⟨[.ref H], []⟩) R s := by
  refine' enterMX [(Str.ofString "heap", .ref H)] X T st hH0 hH ?ho ?hcd (by decide) ?hb ?hl ?_ ?c1 ?c2 ?c3 ?c4
  ((case ho => k_is); (case hcd => k_is); (case hb => first | exact BindsTo.of_eq rfl | exact binds_K (by assumption) rfl (by k_is) rfl rfl rfl); (case hl => exact locs rfl); (case c1 => rfl); (case c2 => rfl); (case c3 => rfl); (case c4 => decide))
  intro L h₁ c S X' T'
  refine Run.assignV rfl rfl (EV.pop (as := []) S rfl rfl (.head fun _ h => nomatch h) (Nat.le_of_ble_eq_true rfl) rfl ?_)
  intro h2 c S
  refine StoreK.mk S ?_
  intro h3 c S
  refine Run.ifF (BE.heap S (.head _) (Nat.le_of_ble_eq_true rfl) (PE.locV S rfl rfl)) (decide_eq_false (Nat.lt_irrefl 0)) ?_
  exact Run.ret (PE.locV S rfl rfl) fun t tk => hR _ _ ⟨_, _, [], n + 1, rfl, (S.n _ (.head _)).1, ⟨rfl, rfl⟩, fun b o hb e => S.f.keep b o (hide_keeps hb e)⟩
theorem c_heappop1 {key : Nat → Array UInt8 × Str} {h₀ : Heap} {H n x : Nat} {as : List Nat} (O : Ordd (ltK key)) (X : (hdK w.params).In h₀) (T : Top p loose mean mg mb h₀) (st : h₀.StaysIn s.heap) (hH0 : h₀.get? H = none)
    (hH : s.heap.get? H = some (hobj (as ++ [x]) n)) (hk : ∀ a ∈ as ++ [x], PTup s.heap a (key a).1 (key a).2) (hsz : as.length < 900000) (h0 : 0 < as.length) (hHp : HeapL (ltK key) (as ++ [x]))
    (hR : ∀ v s', HOut s H (fun v as' => v = .ref (as.getD 0 0) ∧ as'.Perm (as.set 0 x) ∧ HeapL (ltK key) as') v s' → R (.ok (.ret v)) s') :
    codeAny (model prg w) (AT 880 8800) (.call (.ref 123) ⟨[.ref H], []⟩) R s := by
  have hk' : ∀ a ∈ as.set 0 x, PTup (s.heap.hide H) a (key a).1 (key a).2 := fun a ha => by
    have hm : a ∈ as ++ [x] := (List.mem_or_eq_of_mem_set ha).elim (List.mem_append_left _) fun e => List.mem_append_right _ (by simp [e])
    obtain ⟨o, t, u, k', ho, r⟩ := hk a hm
    exact ⟨o, t, u, k', hide_keeps (PTup.ne (hk a hm) hH) ho, r⟩
  have hi := hHp.init
  have hD : Down (ltK key) (as.set 0 x) 0 := ⟨by simpa using h0, fun i j1 j2 j3 j4 => by
    rw [List.length_set] at j2
    rw [getD_set_ne j3, getD_set_ne j4]; exact hi i j1 j2, fun h => absurd h (by omega)⟩
  have hz : (as.set 0 x).length < 1000000 := by rw [List.length_set]; omega
  refine' enterMX [(Str.ofString "heap", .ref H)] X T st hH0 hH ?ho ?hcd (by decide) ?hb ?hl ?_ ?c1 ?c2 ?c3 ?c4
  ((case ho => k_is); (case hcd => k_is); (case hb => first | exact BindsTo.of_eq rfl | exact binds_K (by assumption) rfl (by k_is) rfl rfl rfl); (case hl => exact locs rfl); (case c1 => rfl); (case c2 => rfl); (case c3 => rfl); (case c4 => decide))
  intro L h₁ c S X' T'
  have GG : Gl c.w c.h₀ := Gl.mk' X' T'
  refine Run.assignV rfl rfl (EV.pop (as := as) S rfl rfl (.head fun _ h => nomatch h) (by omega) rfl ?_)
  intro h2 c S
  refine StoreK.mk S ?_
  intro h3 c S
  refine Run.ifT (BE.heap S (.head _) (by omega) (PE.locV S rfl rfl)) (decide_eq_true h0) ?_
  dsimp only [List.cons_append, List.nil_append]
  have hb0 : 0 ≤ (0 : Int) ∧ (0 : Int) < as.length ∧ (0 : Int) < 2 ^ 63 := ⟨Int.le_refl _, by omega, by decide⟩
  refine Run.assign S rfl rfl (PE.hget S (.head _) (PE.locV S rfl rfl) PE.int hb0 (fun _ => rfl) (fun _ => rfl)) ?_
  intro h4 t4 c S
  refine Run.hset S rfl (PE.locV S rfl rfl) (PE.locV S rfl rfl) PE.int hb0 (.head fun _ h => nomatch h) ?_
  intro h5 c S
  refine Run.exprV rfl rfl (EV.turn (d := 890) (u := 8900) S GG rfl g_siftup ⟨rfl, Nat.le_of_ble_eq_true rfl, Nat.le_of_ble_eq_true rfl⟩ rfl rfl rfl (EVs.cons rfl (EV.pe (PE.locV S rfl rfl) fun _ => EVs.cons rfl (EV.pe PE.int fun t1 => EVs.nil ?_))))
  refine TurnK.mk (as := as.set 0 x) (n := n + 1) S GG (.head fun _ h => nomatch h) (fun k R hR => c_siftup (h₀ := s.heap.hide H) O X' T' S.f.keep (Heap.hide_self ..) ((S.n _ (.head _)).1) (fun a ha => (hk' a ha).keeps S.f.keep) hz hD hR) ?_
  rintro v' h' as2 n2 ⟨rfl, hP2, hH2⟩
  intro c S
  refine DropK.mk (Run.ret (PE.locV S rfl rfl) fun t tk => hR _ _ ⟨_, _, as2, n2, rfl, (S.n _ (.head _)).1, ⟨rfl, hP2, hH2⟩, fun b o hb e => S.f.keep b o (hide_keeps hb e)⟩)
theorem c_heappop {key : Nat → Array UInt8 × Str} {h₀ : Heap} {H n : Nat} {as : List Nat} (O : Ordd (ltK key)) (X : (hdK w.params).In h₀) (T : Top p loose mean mg mb h₀) (st : h₀.StaysIn s.heap) (hH0 : h₀.get? H = none)
    (hH : s.heap.get? H = some (hobj as n)) (hk : ∀ a ∈ as, PTup s.heap a (key a).1 (key a).2) (hsz : as.length < 900000) (h0 : 0 < as.length) (hHp : HeapL (ltK key) as)
    (hR : ∀ v s', HOut s H (fun v as' => ∃ r, v = .ref r ∧ (r :: as').Perm as ∧ HeapL (ltK key) as' ∧ ∀ a ∈ as', ltK key a r = false) v s' → R (.ok (.ret v)) s') :
    codeAny (model prg w) (AT 880 8800) (.call (.ref 123) ⟨[.ref H], []⟩) R s := by
  have hne : as ≠ [] := by intro h; rw [h] at h0; exact absurd h0 (by simp)
  obtain ⟨l, x, rfl⟩ : ∃ l x, as = l ++ [x] := ⟨as.dropLast, as.getLast hne, (List.dropLast_concat_getLast hne).symm⟩
  have hll : (l ++ [x]).length = l.length + 1 := by simp
  cases l with
  | nil =>
    refine c_heappop0 X T st hH0 hH fun v s' q => hR v s' ?_
    obtain ⟨h', tk, as', n', e1, e2, ⟨rfl, rfl⟩, e4⟩ := q
    exact ⟨h', tk, [], n', e1, e2, ⟨x, rfl, .refl _, fun i _ h => absurd h (by simp), fun a h => nomatch h⟩, e4⟩
  | cons r t =>
    refine c_heappop1 O X T st hH0 hH hk (by omega) (by simp) hHp fun v s' q => hR v s' ?_
    obtain ⟨h', tk, as', n', e1, e2, ⟨rfl, hP, hH'⟩, e4⟩ := q
    have hP0 : (r :: as').Perm (r :: t ++ [x]) := by
      refine .cons r (hP.trans ?_)
      exact (List.perm_append_singleton x t).symm
    refine ⟨h', tk, as', n', e1, e2, ⟨r, rfl, hP0, hH', fun a ha => ?_⟩, e4⟩
    have hm : a ∈ r :: t ++ [x] := hP0.mem_iff.mp (.tail _ ha)
    obtain ⟨i, hi, rfl⟩ := List.getElem_of_mem hm
    have := HeapL.least O hHp i hi
    have e : (r :: t ++ [x]).getD i 0 = (r :: t ++ [x])[i] := by rw [List.getD, List.getElem?_eq_getElem hi]; rfl
    rw [e] at this
    exact this
end
section
theorem reset28 : True := by
  w_top off
  trivial
variable {w : World} {s : Shared} {p : Program} {loose : List Str} {mean : ExcName → Option Value} {mg mb : Str → Option Value} {R : Result → Shared → Prop}
noncomputable abbrev FlatL := Flat (fun (q : LInf) t => Value.str (lineOf q) t)
noncomputable def h1Led (H G : Nat) (x : LX) : List (Addr × Obj) := [(H, hobj x.1 x.2), (G, W.listOf #[] 0)]
noncomputable def kcq (kq : Nat → LInf) (a : Nat) : Array UInt8 × Str := kc (kq a)
structure h1Phi (g : Heap) (L I H G : Nat) (qs : List LInf) (i : Nat) (h : Heap) (x : LX) : Prop where
  len : x.1.length = i
  off : ∀ a ∈ x.1, a ≠ L ∧ a ≠ I ∧ a ≠ H ∧ a ≠ G ∧ g.get? a = none
  key : ∃ kq : Nat → LInf, (∀ a ∈ x.1, PTup h a (kcq kq a).1 (kcq kq a).2) ∧ HeapL (ltK (kcq kq)) x.1 ∧ (x.1.map kq).Perm (qs.take i)
theorem PTup.at {h h' : Heap} {a : Nat} {n : Array UInt8} {l : Str} (x : PTup h a n l) (k : ∀ o, h.get? a = some o → h'.get? a = some o) : PTup h' a n l := let ⟨o, t, u, q, ho, r⟩ := x; ⟨o, t, u, q, k _ ho, r⟩
theorem h1Phi.at {g h h' : Heap} {L I H G : Nat} {qs : List LInf} {i : Nat} {x : LX} (hp : h1Phi g L I H G qs i h x) (k : ∀ (b : Addr) o, b ≠ I → h.get? b = some o → h'.get? b = some o) : h1Phi g L I H G qs i h' x := by
  obtain ⟨kq, a1, a2, a3⟩ := hp.key
  exact ⟨hp.len, hp.off, kq, fun a ha => (a1 a ha).at fun o e => k a o (hp.off a ha).2.1 e, a2, a3⟩
noncomputable def laidS (st : List LInf × Array UInt8) (q : LInf) : List LInf × Array UInt8 :=
  if numB q.1 ≠ st.2 then (st.1 ++ [q], numB q.1) else if q.2.1 = Str.ofString "- " then (st.1.dropLast ++ [q], numB q.1) else (st.1, numB q.1)
noncomputable def laidF (pp : List LInf) : List LInf × Array UInt8 := pp.foldl laidS ([], #[])
theorem laidF_snoc (pp : List LInf) (q : LInf) : laidF (pp ++ [q]) = laidS (laidF pp) q := by simp [laidF]
structure L2X where
  as : List Nat
  n : Nat
  vs : List Value
  m : Nat
  last : Array UInt8
  t : Tok
noncomputable def h2Led (H G : Nat) (x : L2X) : List (Addr × Obj) := [(H, hobj x.as x.n), (G, W.listOf x.vs.toArray x.m)]
noncomputable def h2Told (P H G : Nat) (x : L2X) : List (Str × Value) := [(Str.ofString "packets", Value.ref P), (Str.ofString "heap", Value.ref H), (Str.ofString "lines", Value.ref G), (Str.ofString "last", Value.bytes x.last x.t)]
structure h2Phi (g : Heap) (L I H G : Nat) (qs : List LInf) (i : Nat) (h : Heap) (x : L2X) : Prop where
  off : ∀ a ∈ x.as, a ≠ L ∧ a ≠ I ∧ a ≠ H ∧ a ≠ G ∧ g.get? a = none
  key : ∃ (kq : Nat → LInf) (pp : List LInf), pp.length = i ∧ (∀ a ∈ x.as, PTup h a (kcq kq a).1 (kcq kq a).2) ∧ HeapL (ltK (kcq kq)) x.as ∧ (pp ++ x.as.map kq).Perm qs ∧
    pp.Pairwise (fun a b => pltP (kc b) (kc a) = false) ∧ (∀ a ∈ x.as, ∀ b ∈ pp, pltP (kcq kq a) (kc b) = false) ∧ FlatL x.vs (laidF pp).1 ∧ x.last = (laidF pp).2
  nil0 : x.vs = [] → x.last = #[]
  few : x.vs.length ≤ i
theorem h2Phi.at {g h h' : Heap} {L I H G : Nat} {qs : List LInf} {i : Nat} {x : L2X} (hp : h2Phi g L I H G qs i h x) (k : ∀ (b : Addr) o, b ≠ I → h.get? b = some o → h'.get? b = some o) : h2Phi g L I H G qs i h' x := by
  obtain ⟨kq, pp, a0, a1, r⟩ := hp.key
  exact ⟨hp.off, ⟨kq, pp, a0, fun a ha => (a1 a ha).at fun o e => k a o (hp.off a ha).2.1 e, r⟩, hp.nil0, hp.few⟩
theorem numB_ne (x : Int) : numB x ≠ #[] := fun e => by
  have := congrArg Array.size e
  exact absurd this (by show ¬ (3 : Nat) = 0; decide)
theorem bne_toList {a b : Array UInt8} (h : (a.toList != b.toList) = true) : a ≠ b := by
  rintro rfl
  simp at h
theorem beq_toList {a b : Array UInt8} (h : (a.toList != b.toList) = false) : a = b := by
  simpa using h
theorem laidS_new {st : List LInf × Array UInt8} {q : LInf} {last : Array UInt8} (e : last = st.2) (h : ((numB q.1).toList != last.toList) = true) : laidS st q = (st.1 ++ [q], numB q.1) := by
  subst e
  unfold laidS
  rw [if_pos (bne_toList h)]
theorem laidS_minus {st : List LInf × Array UInt8} {q : LInf} {last : Array UInt8} (e : last = st.2) (h : ((numB q.1).toList != last.toList) = false) (h2 : q.2.1 = Str.ofString "- ") : laidS st q = (st.1.dropLast ++ [q], numB q.1) := by
  subst e
  unfold laidS
  rw [if_neg (fun n => n (beq_toList h)), if_pos h2]
theorem laidS_old {st : List LInf × Array UInt8} {q : LInf} {last : Array UInt8} (e : last = st.2) (h : ((numB q.1).toList != last.toList) = false) (h2 : q.2.1 ≠ Str.ofString "- ") : laidS st q = (st.1, numB q.1) := by
  subst e
  unfold laidS
  rw [if_neg (fun n => n (beq_toList h)), if_neg h2]
theorem minus_of {c4 c5 : Nat} {tag : Str} (a : (({ cps := #[c4] } : Str) == Str.ofString "-") = true) (p5 : c5 = 32) (p6 : tag = { cps := #[c4, c5] }) : tag = Str.ofString "- " := by
  have e : ({ cps := #[c4] } : Str) = { cps := #[45] } := beq_iff_eq.mp a
  have e1 : c4 = 45 := by simpa using e
  rw [p6, e1, p5]; exact tag1.symm
theorem not_minus_of {c4 c5 : Nat} {tag : Str} (a : (({ cps := #[c4] } : Str) == Str.ofString "-") = false) (p6 : tag = { cps := #[c4, c5] }) : tag ≠ Str.ofString "- " := by
  intro h
  rw [p6, tag1] at h
  have e1 : c4 = 45 := by
    have := congrArg Str.cps h
    simp at this
    exact this.1
  rw [e1] at a
  exact absurd a (by decide)
theorem h2next {g h h' : Heap} {L I H G : Nat} {qs : List LInf} {i : Nat} {as as2 : List Nat} {kq : Nat → LInf} {pp : List LInf} {r n' m' : Nat} {vl' : List Value} {last' : Array UInt8} {t' : Tok}
    (hoff : ∀ a ∈ as, a ≠ L ∧ a ≠ I ∧ a ≠ H ∧ a ≠ G ∧ g.get? a = none) (b0 : pp.length = i) (b1 : ∀ a ∈ as, PTup h a (kcq kq a).1 (kcq kq a).2) (b3 : (pp ++ as.map kq).Perm qs) (b4 : pp.Pairwise (fun a b => pltP (kc b) (kc a) = false))
    (b5 : ∀ a ∈ as, ∀ b ∈ pp, pltP (kcq kq a) (kc b) = false) (hP2 : (r :: as2).Perm as) (hH2 : HeapL (ltK (kcq kq)) as2) (hleast : ∀ a ∈ as2, ltK (kcq kq) a r = false)
    (kp : ∀ (b : Addr) o, b ≠ L → (∀ a ∈ [H, G], a ≠ b) → h.get? b = some o → h'.get? b = some o) (e1 : FlatL vl' (laidS (laidF pp) (kq r)).1) (e2 : last' = (laidS (laidF pp) (kq r)).2) (e3 : vl' ≠ []) (e4 : vl'.length ≤ i + 1) :
    h2Phi g L I H G qs (i + 1) h' ⟨as2, n', vl', m', last', t'⟩ := by
  have sub : ∀ a ∈ as2, a ∈ as := fun a ha => hP2.mem_iff.mp (.tail _ ha)
  have hr : r ∈ as := hP2.mem_iff.mp (.head _)
  refine ⟨fun a ha => hoff a (sub a ha), ⟨kq, pp ++ [kq r], ?_, fun a ha => ?_, hH2, ?_, ?_, ?_, ?_, ?_⟩, fun e => absurd e e3, e4⟩
  · rw [List.length_append, b0]; rfl
  · have z := hoff a (sub a ha)
    exact (b1 a (sub a ha)).at fun o e => kp a o z.1 (List.forall_mem_cons.mpr ⟨Ne.symm z.2.2.1, List.forall_mem_singleton.mpr (Ne.symm z.2.2.2.1)⟩) e
  · rw [List.append_assoc]
    exact ((hP2.map kq).append_left pp).trans b3
  · rw [List.pairwise_append]
    refine ⟨b4, List.pairwise_singleton _ _, fun a ha b hb => ?_⟩
    rw [List.mem_singleton.mp hb]
    exact b5 r hr a ha
  · intro a ha b hb
    rcases List.mem_append.mp hb with hb | hb
    · exact b5 a (sub a ha) b hb
    · rw [List.mem_singleton.mp hb]
      exact hleast a ha
  · rw [laidF_snoc]; exact e1
  · rw [laidF_snoc]; exact e2
theorem Flat.dropLast {α : Type} {f : α → Tok → Value} {vs : List Value} {xs : List α} (h : Flat f vs xs) : Flat f vs.dropLast xs.dropLast := by
  rw [List.dropLast_eq_take, List.dropLast_eq_take, ← h.length]
  exact h.take _
theorem g_push : GFn w (Str.ofString "heappush") 116 := ⟨by k_is, by k_is⟩
theorem g_pop : GFn w (Str.ofString "heappop") 123 := ⟨by k_is, by k_is⟩
theorem g_dec : GFn w (Str.ofString "b64decode") 109 := ⟨by k_is, by k_is⟩
theorem K_dec {b : Array UInt8} {t : Tok} (h : IsRow b) : Con 880 8800 w 109 [.str (txt b) t] [] (.bytes b) := ⟨fun s R G k => let ⟨X, _, _, _, _, _, T⟩ := G; c_decode h X T k⟩
theorem flat_at {α : Type} {f : α → Tok → Value} {vs : List Value} {qs : List α} {i : Nat} {v : Value} (hq : Flat f vs qs) (hv : vs.toArray[i]? = some v) : ∃ q t, qs[i]? = some q ∧ v = f q t := by
  have e : vs.toArray[i]? = vs[i]? := by simp
  rw [e] at hv
  have hlt : i < vs.length := by
    by_cases hc : i < vs.length
    · exact hc
    · rw [List.getElem?_eq_none (by omega)] at hv; cases hv
  have hqe : qs[i]? = some (qs[i]'(by rw [← hq.length]; exact hlt)) := List.getElem?_eq_getElem _
  obtain ⟨t, ht⟩ := hq.get hqe
  exact ⟨_, t, hqe, Option.some.inj (hv.symm.trans ht)⟩
theorem h1step {g h h6 : Heap} {L I H G D i n2 : Nat} {qs : List LInf} {q : LInf} {as as2 : List Nat} {kq : Nat → LInf} (hl : as.length = i) (hoff : ∀ a ∈ as, a ≠ L ∧ a ≠ I ∧ a ≠ H ∧ a ≠ G ∧ g.get? a = none)
    (hk1 : ∀ a ∈ as, PTup h a (kcq kq a).1 (kcq kq a).2) (hk3 : (as.map kq).Perm (qs.take i)) (hqe : qs[i]? = some q) (hlt : ∀ a ∈ as, a < D) (hD : D ≠ L ∧ D ≠ I ∧ D ≠ H ∧ D ≠ G ∧ g.get? D = none) (hP2 : as2.Perm (as ++ [D])) (hH2 : HeapL (ltK (kcq fun a => if a = D then q else kq a)) as2)
    (kp : ∀ (b : Addr) o, b ≠ L → (∀ a ∈ [H, G], a ≠ b) → h.get? b = some o → h6.get? b = some o) (hDq : PTup h6 D (kc q).1 (kc q).2) : h1Phi g L I H G qs (i + 1) h6 (as2, n2) := by
  have hmem : ∀ a ∈ as2, a ∈ as ∨ a = D := fun a ha => by
    rcases List.mem_append.mp (hP2.mem_iff.mp ha) with h | h
    · exact .inl h
    · exact .inr (List.mem_singleton.mp h)
  have hkeq : ∀ a ∈ as, kcq (fun a => if a = D then q else kq a) a = kcq kq a := fun a ha => by
    show kc (if a = D then q else kq a) = kc (kq a)
    rw [if_neg (Nat.ne_of_lt (hlt a ha))]
  have hkD : kcq (fun a => if a = D then q else kq a) D = kc q := by
    show kc (if D = D then q else kq D) = kc q
    rw [if_pos rfl]
  refine ⟨?_, fun a ha => ?_, fun a => if a = D then q else kq a, fun a ha => ?_, hH2, ?_⟩
  · show as2.length = i + 1
    rw [hP2.length_eq, List.length_append, hl]; rfl
  · rcases hmem a ha with h | rfl
    · exact hoff a h
    · exact hD
  · rcases hmem a ha with h | rfl
    · rw [hkeq a h]
      exact (hk1 a h).at fun o e => kp a o (hoff a h).1 (List.forall_mem_cons.mpr ⟨Ne.symm (hoff a h).2.2.1, List.forall_mem_singleton.mpr (Ne.symm (hoff a h).2.2.2.1)⟩) e
    · rw [hkD]; exact hDq
  · show (as2.map fun a => if a = D then q else kq a).Perm (qs.take (i + 1))
    refine (hP2.map _).trans ?_
    rw [List.map_append, List.take_add_one, hqe]
    have e1 : (as.map fun a => if a = D then q else kq a) = as.map kq := List.map_congr_left fun a ha => if_neg (Nat.ne_of_lt (hlt a ha))
    rw [e1]
    show (as.map kq ++ [if D = D then q else kq D]).Perm (qs.take i ++ [q])
    rw [if_pos rfl]
    exact hk3.append_right _
theorem h1key {h : Heap} {D : Nat} {q : LInf} {as : List Nat} {kq : Nat → LInf} (hk1 : ∀ a ∈ as, PTup h a (kcq kq a).1 (kcq kq a).2) (hlt : ∀ a ∈ as, a < D) (hk2 : HeapL (ltK (kcq kq)) as) (hDq : PTup h D (kc q).1 (kc q).2) :
    (∀ a ∈ as ++ [D], PTup h a (kcq (fun a => if a = D then q else kq a) a).1 (kcq (fun a => if a = D then q else kq a) a).2) ∧ HeapL (ltK (kcq fun a => if a = D then q else kq a)) as := by
  have hkeq : ∀ a ∈ as, kcq (fun a => if a = D then q else kq a) a = kcq kq a := fun a ha => by
    show kc (if a = D then q else kq a) = kc (kq a)
    rw [if_neg (Nat.ne_of_lt (hlt a ha))]
  have hkD : kcq (fun a => if a = D then q else kq a) D = kc q := by
    show kc (if D = D then q else kq D) = kc q
    rw [if_pos rfl]
  refine ⟨fun a ha => ?_, hk2.congr fun a ha b hb => ?_⟩
  · rcases List.mem_append.mp ha with ha | ha
    · rw [hkeq a ha]; exact hk1 a ha
    · rw [List.mem_singleton.mp ha, hkD]; exact hDq
  · show pltP (kcq kq a) (kcq kq b) = pltP _ _
    rw [hkeq a ha, hkeq b hb]
theorem mem_fz {g h : Heap} {L I H G a : Nat} {fz : List (Addr × Obj)} {n : Array UInt8} {l : Str} (x : PTup h a n l) (z : a ≠ L ∧ a ≠ I ∧ a ≠ H ∧ a ≠ G ∧ g.get? a = none)
    (hal : ∀ (b : Addr) o, h.get? b = some o → b ≠ L → g.get? b = none → (∀ a ∈ [H, G], a ≠ b) → I ≠ b → (b, o) ∈ fz) : ∃ o, (a, o) ∈ fz ∧ h.get? a = some o :=
  let ⟨o, _, _, _, ho, _⟩ := x
  ⟨o, hal a o ho z.1 z.2.2.2.2 (List.forall_mem_cons.mpr ⟨Ne.symm z.2.2.1, List.forall_mem_singleton.mpr (Ne.symm z.2.2.2.1)⟩) (Ne.symm z.2.1), ho⟩
theorem c_laid {P n0 : Nat} {vs : List Value} {qs : List LInf} (X : (hdK w.params).In s.heap) (T : Top p loose mean mg mb s.heap) (hP : s.heap.get? P = some (W.listOf vs.toArray n0)) (hq : FlatP vs qs) (hok : ∀ q ∈ qs, okP q) (hlen : vs.length < 1000)
    (hR : ∀ D h tk (vs' : List Value) n pp, s.heap.StaysIn h → h.get? D = some (W.listOf vs'.toArray n) → s.heap.get? D = none → pp.Perm qs → pp.Pairwise (fun a b => pltP (kc b) (kc a) = false) → FlatL vs' (laidF pp).1 → R (.ok (.ret (.ref D))) { s with heap := h, toks := tk }) :
    codeAny (model prg w) (AT 860 8600) (.call (.ref 163) ⟨[.ref P], []⟩) R s := by
  have hPl : s.heap.IsList P vs.toArray := ⟨_, hP, rfl, n0, rfl⟩
  have hvq := hq.length
  refine' enter [(Str.ofString "packets", .ref P)] X T.nolimit ?ho ?hcd (by decide) ?hb ?hl ?_ ?c1 ?c2 ?c3 ?c4
  ((case ho => k_is); (case hcd => k_is); (case hb => first | exact BindsTo.of_eq rfl | exact binds_K (by assumption) rfl (by k_is) rfl rfl rfl); (case hl => exact locs rfl); (case c1 => rfl); (case c2 => rfl); (case c3 => rfl); (case c4 => decide))
  intro L h₁ F N
  k_fold
  repeat' (first | (k_unfold; (try dsimp only)) | ((fail_if_success (with_reducible show wpAny _ _ (execs (Stmt.For _ _ _ _ _ :: _) _) _ _ _)); first | walk1 | (dsimp only; walk1)))
  rename_i H _ _ G _ lHG W0 _ lW _ _ _ _ F1 N1
  refine Run.start rfl F1 N1 ?_
  intro c S
  have GG : Gl c.w c.h₀ := Gl.mk' X T
  have hHG : H ≠ G := Nat.ne_of_lt lHG
  have hHG2 := neN hHG
  refine Run.forL S rfl rfl hPl fun I h2 hi hIL hI0 hIn => ?_
  have hHI : H ≠ I := (hIn _ _ (N1 _ (.tail _ (.tail _ (.head _)))).1).1
  have hGI : G ≠ I := (hIn _ _ (N1 _ (.tail _ (.head _))).1).1
  have hHI2 := neN hHI
  have hGI2 := neN hGI
  intro c S
  refine Loop.listJ (X := LX) (told := fun _ => [(Str.ofString "packets", Value.ref P), (Str.ofString "heap", Value.ref H), (Str.ofString "lines", Value.ref G), (Str.ofString "last", Value.bytes #[] tk)]) (led := h1Led H G) (Φ := h1Phi s.heap L I H G qs) (adr := [H, G]) rfl (fun _ => rfl) hIL hI0 (List.forall_mem_cons.mpr ⟨hHI, List.forall_mem_singleton.mpr hGI⟩) hPl
    (fun i h h' x hp k => hp.at k) hi rfl ([], 0) S (told_cons rfl (told_cons rfl (told_cons rfl (told_cons rfl told_nil)))) (List.forall_mem_cons.mpr ⟨by (first | exact mem_ix 0 rfl | exact mem_ix 1 rfl | exact mem_ix 2 rfl | exact mem_ix 3 rfl | exact mem_ix 4 rfl | exact mem_ix 5 rfl | exact mem_ix 6 rfl | exact mem_ix 7 rfl | exact mem_ix 8 rfl | exact mem_ix 9 rfl | exact mem_ix 10 rfl | exact mem_ix 11 rfl | exact mem_ix 12 rfl | exact mem_ix 13 rfl | exact mem_ix 14 rfl | exact mem_ix 15 rfl), List.forall_mem_singleton.mpr (by (first | exact mem_ix 0 rfl | exact mem_ix 1 rfl | exact mem_ix 2 rfl | exact mem_ix 3 rfl | exact mem_ix 4 rfl | exact mem_ix 5 rfl | exact mem_ix 6 rfl | exact mem_ix 7 rfl | exact mem_ix 8 rfl | exact mem_ix 9 rfl | exact mem_ix 10 rfl | exact mem_ix 11 rfl | exact mem_ix 12 rfl | exact mem_ix 13 rfl | exact mem_ix 14 rfl | exact mem_ix 15 rfl))⟩) ⟨rfl, (fun a ha => nomatch ha), fun _ => (0, ⟨#[]⟩, #[]), (fun a ha => nomatch ha), (fun i h0 hi => absurd hi (Nat.not_lt_zero _)), .refl _⟩ ?_ ?_
  · rintro i v oI ⟨as, na⟩ h h' m fz Q' E' hv hfz hal hp hQ
    intro c S
    obtain ⟨q, t, hqe, rfl⟩ := flat_at hq hv
    have hokq := hok _ (List.mem_of_getElem? hqe)
    have hiq : i < qs.length := (List.getElem?_eq_some_iff.mp hqe).1
    have z4 : ∀ q ∈ fz, q.1 ≠ H := fun q hq => (hfz q hq).1 H (.head _)
    have z5 : ∀ q ∈ fz, q.1 ≠ G := fun q hq => (hfz q hq).1 G (.tail _ (.head _))
    obtain ⟨hcutA, hcutB, hpl⟩ : Txt.slice (pk q) none (some 4) = txt (numB q.1) ∧ Txt.slice (pk q) (some 4) none = lineOf q ∧ (pk q).length ≤ 1000000 := by
      obtain ⟨c0, c1, c2, c3, c4, c5, c6, c7, c8, c9, p1, p2, p3, p4, p5, p6⟩ := pk_form hokq
      exact ⟨by rw [p3, p1]; exact cut4, by rw [p3, p2]; exact cut4r, by rw [p3]; exact Nat.le_of_ble_eq_true rfl⟩
    obtain ⟨hl, hoff, kq, hk1, hk2, hk3⟩ := hp
    dsimp only at hl hoff hk1 hk2 hk3
    refine Run.exprV rfl rfl (EV.turn (d := 880) (u := 8800) S GG rfl g_push ⟨rfl, Nat.le_of_ble_eq_true rfl, Nat.le_of_ble_eq_true rfl⟩ rfl rfl rfl (EVs.cons rfl (EV.pe (PE.locV S rfl rfl) fun _ => EVs.cons rfl (EV.tuple (EVs.cons rfl (EV.con (d := 880) (u := 8800) S GG rfl g_dec ⟨rfl, Nat.le_of_ble_eq_true rfl, Nat.le_of_ble_eq_true rfl⟩ rfl rfl (EV.ns S (PE.locV S rfl rfl) hcutA hpl (fun _ => rfl) (fun _ => rfl) ?_)))))))
    intro h2 t2 c S
    refine ⟨GG, ConK.mk S (K_dec (row_numB q.1)) ?_⟩
    intro h3 t3 c S
    refine EVs.cons rfl (EV.sn S (PE.locV S rfl rfl) hcutB hpl (fun _ => rfl) (fun _ => rfl) ?_)
    intro h4 t4 c S
    refine EVs.nil (TupK.mk S (Nat.le_of_ble_eq_true rfl) ?_)
    intro D h5 hlt c S
    have hDI : @LT.lt Nat _ I D := hlt (I, _) (by (first | exact mem_ix 0 rfl | exact mem_ix 1 rfl | exact mem_ix 2 rfl | exact mem_ix 3 rfl | exact mem_ix 4 rfl | exact mem_ix 5 rfl | exact mem_ix 6 rfl | exact mem_ix 7 rfl | exact mem_ix 8 rfl | exact mem_ix 9 rfl | exact mem_ix 10 rfl | exact mem_ix 11 rfl | exact mem_ix 12 rfl | exact mem_ix 13 rfl | exact mem_ix 14 rfl | exact mem_ix 15 rfl))
    have hDH : @LT.lt Nat _ H D := hlt (H, _) (by (first | exact mem_ix 0 rfl | exact mem_ix 1 rfl | exact mem_ix 2 rfl | exact mem_ix 3 rfl | exact mem_ix 4 rfl | exact mem_ix 5 rfl | exact mem_ix 6 rfl | exact mem_ix 7 rfl | exact mem_ix 8 rfl | exact mem_ix 9 rfl | exact mem_ix 10 rfl | exact mem_ix 11 rfl | exact mem_ix 12 rfl | exact mem_ix 13 rfl | exact mem_ix 14 rfl | exact mem_ix 15 rfl))
    have hDG : @LT.lt Nat _ G D := hlt (G, _) (by (first | exact mem_ix 0 rfl | exact mem_ix 1 rfl | exact mem_ix 2 rfl | exact mem_ix 3 rfl | exact mem_ix 4 rfl | exact mem_ix 5 rfl | exact mem_ix 6 rfl | exact mem_ix 7 rfl | exact mem_ix 8 rfl | exact mem_ix 9 rfl | exact mem_ix 10 rfl | exact mem_ix 11 rfl | exact mem_ix 12 rfl | exact mem_ix 13 rfl | exact mem_ix 14 rfl | exact mem_ix 15 rfl))
    have hall : ∀ a ∈ as, a < D ∧ PTup h5 a (kcq kq a).1 (kcq kq a).2 := fun a ha => by
      obtain ⟨o, hm, ho⟩ := mem_fz (hk1 a ha) (hoff a ha) hal
      exact ⟨hlt _ (.tail _ (.tail _ (.tail _ hm))), (hk1 a ha).at fun o' e => by rw [ho] at e; cases e; exact (S.n _ (.tail _ (.tail _ (.tail _ (.tail _ hm))))).1⟩
    have hDq : PTup h5 D (kc q).1 (kc q).2 := ⟨_, _, _, _, (S.n _ (.head _)).1, rfl, rfl⟩
    have hkk := h1key (fun a ha => (hall a ha).2) (fun a ha => (hall a ha).1) hk2 hDq
    refine EVs.nil ?_
    refine' TurnK.mk (n := na) S GG ?U (fun k R hR => c_heappush (h₀ := s.heap) (key := kcq (fun a => if a = D then q else kq a)) (ordd_key _) X T S.f.keep (S.n (H, hobj as na) (by (first | exact mem_ix 0 rfl | exact mem_ix 1 rfl | exact mem_ix 2 rfl | exact mem_ix 3 rfl | exact mem_ix 4 rfl | exact mem_ix 5 rfl | exact mem_ix 6 rfl | exact mem_ix 7 rfl | exact mem_ix 8 rfl | exact mem_ix 9 rfl | exact mem_ix 10 rfl | exact mem_ix 11 rfl | exact mem_ix 12 rfl | exact mem_ix 13 rfl | exact mem_ix 14 rfl | exact mem_ix 15 rfl))).2.2 (S.n (H, hobj as na) (by (first | exact mem_ix 0 rfl | exact mem_ix 1 rfl | exact mem_ix 2 rfl | exact mem_ix 3 rfl | exact mem_ix 4 rfl | exact mem_ix 5 rfl | exact mem_ix 6 rfl | exact mem_ix 7 rfl | exact mem_ix 8 rfl | exact mem_ix 9 rfl | exact mem_ix 10 rfl | exact mem_ix 11 rfl | exact mem_ix 12 rfl | exact mem_ix 13 rfl | exact mem_ix 14 rfl | exact mem_ix 15 rfl))).1 hkk.1 (by omega) hkk.2 hR) ?_
    case U => k_updF
    rintro v' h6 as2 n2 ⟨rfl, hP2, hH2⟩
    have hDn : D ≠ L ∧ D ≠ I ∧ D ≠ H ∧ D ≠ G ∧ s.heap.get? D = none := ⟨(S.n _ (.head _)).2.1, Nat.ne_of_gt hDI, Nat.ne_of_gt hDH, Nat.ne_of_gt hDG, (S.n _ (.head _)).2.2⟩
    intro c S
    refine DropK.mk (Run.nil fun tk => (hQ _ (LEnd.of (as2, n2) S rfl rfl rfl (told_cons rfl (told_cons rfl (told_cons rfl (told_cons rfl told_nil)))) (by (repeat' (first | exact List.forall_mem_nil _ | (refine List.forall_mem_cons.mpr ⟨?_, ?_⟩) | (first | exact mem_ix 0 rfl | exact mem_ix 1 rfl | exact mem_ix 2 rfl | exact mem_ix 3 rfl | exact mem_ix 4 rfl | exact mem_ix 5 rfl | exact mem_ix 6 rfl | exact mem_ix 7 rfl | exact mem_ix 8 rfl | exact mem_ix 9 rfl | exact mem_ix 10 rfl | exact mem_ix 11 rfl | exact mem_ix 12 rfl | exact mem_ix 13 rfl | exact mem_ix 14 rfl | exact mem_ix 15 rfl)))) (by (repeat' (first | exact List.forall_mem_nil _ | (refine List.forall_mem_cons.mpr ⟨?_, ?_⟩) | (first | exact mem_ix 0 rfl | exact mem_ix 1 rfl | exact mem_ix 2 rfl | exact mem_ix 3 rfl | exact mem_ix 4 rfl | exact mem_ix 5 rfl | exact mem_ix 6 rfl | exact mem_ix 7 rfl | exact mem_ix 8 rfl | exact mem_ix 9 rfl | exact mem_ix 10 rfl | exact mem_ix 11 rfl | exact mem_ix 12 rfl | exact mem_ix 13 rfl | exact mem_ix 14 rfl | exact mem_ix 15 rfl)))) (by (first | exact tail_of 1 rfl | exact tail_of 2 rfl | exact tail_of 3 rfl | exact tail_of 4 rfl | exact tail_of 5 rfl | exact tail_of 6 rfl | exact tail_of 7 rfl | exact tail_of 8 rfl | exact tail_of 9 rfl | exact tail_of 10 rfl | exact tail_of 11 rfl | exact tail_of 12 rfl | exact tail_of 13 rfl | exact tail_of 14 rfl | exact tail_of 15 rfl)) fun kp => ?_)).1)
    exact h1step hl hoff hk1 hk3 hqe (fun a ha => (hall a ha).1) hDn hP2 hH2 kp ⟨_, _, _, _, (S.n _ (.head _)).1, rfl, rfl⟩
  · rintro ⟨as, na⟩ h m hp
    intro c S
    have N' := S.n
    refine Run.forL S rfl rfl hPl fun I2 h3 hi3 hIL3 hI03 hIn3 => ?_
    obtain ⟨hl, hoff, kq, hk1, hk2, hk3⟩ := hp
    dsimp only at hl hoff hk1 hk2 hk3
    have hHI2 : H ≠ I2 := (hIn3 _ _ (N' _ (.head _)).1).1
    have hGI2 : G ≠ I2 := (hIn3 _ _ (N' _ (.tail _ (.head _))).1).1
    have hHI3 := neN hHI2
    have hGI3 := neN hGI2
    intro c S
    refine Loop.listJ (X := L2X) (told := h2Told P H G) (led := h2Led H G) (Φ := h2Phi s.heap L I2 H G qs) (adr := [H, G]) rfl (fun _ => rfl) hIL3 hI03 (List.forall_mem_cons.mpr ⟨hHI2, List.forall_mem_singleton.mpr hGI2⟩) hPl
      (fun i h h' x hp k => hp.at k) hi3 rfl ⟨as, na, [], 0, #[], tk⟩ S (told_cons rfl (told_cons rfl (told_cons rfl (told_cons rfl told_nil)))) (by (repeat' (first | exact List.forall_mem_nil _ | (refine List.forall_mem_cons.mpr ⟨?_, ?_⟩) | (first | exact mem_ix 0 rfl | exact mem_ix 1 rfl | exact mem_ix 2 rfl | exact mem_ix 3 rfl | exact mem_ix 4 rfl | exact mem_ix 5 rfl | exact mem_ix 6 rfl | exact mem_ix 7 rfl | exact mem_ix 8 rfl | exact mem_ix 9 rfl | exact mem_ix 10 rfl | exact mem_ix 11 rfl | exact mem_ix 12 rfl | exact mem_ix 13 rfl | exact mem_ix 14 rfl | exact mem_ix 15 rfl)))) ⟨?_, ⟨kq, [], rfl, ?_, hk2, ?_, .nil, (fun a ha b hb => nomatch hb), .nil, rfl⟩, (fun _ => rfl), Nat.le_refl _⟩ ?_ ?_
    · intro a ha
      obtain ⟨o, t1, u1, k1, ho, r⟩ := hk1 a ha
      have z := hoff a ha
      exact ⟨z.1, (hIn3 _ _ ho).1, z.2.2⟩
    · exact fun a ha => (hk1 a ha).at fun o e => (hIn3 _ _ e).2
    · have e : vs.toArray.size = qs.length := by rw [← hq.length]; simp
      rw [e, List.take_length] at hk3
      exact hk3
    · rintro i v oI ⟨as, na, vl, nl, last, tl⟩ h h' m fz Q' E' hv hfz hal ⟨hoff, ⟨kq, pp, b0, b1, b2, b3, b4, b5, b6, b7⟩, b8, b9⟩ hQ
      dsimp only at hoff b1 b2 b3 b5 b6 b7 b8 b9
      intro c S
      have hlt : i < qs.length := by
        obtain ⟨q, t, hqe, -⟩ := flat_at hq hv
        exact (List.getElem?_eq_some_iff.mp hqe).1
      have z4 : ∀ q ∈ fz, q.1 ≠ H := fun q hq => (hfz q hq).1 H (.head _)
      have z5 : ∀ q ∈ fz, q.1 ≠ G := fun q hq => (hfz q hq).1 G (.tail _ (.head _))
      have e1 := b3.length_eq
      rw [List.length_append, List.length_map] at e1
      have hk9 : ∀ a ∈ as, PTup h' a (kcq kq a).1 (kcq kq a).2 := fun a ha => by
        obtain ⟨o, hm, ho⟩ := mem_fz (b1 a ha) (hoff a ha) hal
        exact (b1 a ha).at fun o' e => by rw [ho] at e; cases e; exact (S.n _ (.tail _ (.tail _ (.tail _ hm)))).1
      refine Run.pair rfl rfl rfl rfl rfl (EV.turn (d := 880) (u := 8800) S GG rfl g_pop ⟨rfl, Nat.le_of_ble_eq_true rfl, Nat.le_of_ble_eq_true rfl⟩ rfl rfl rfl (EVs.cons rfl (EV.pe (PE.locV S rfl rfl) fun _ => EVs.nil ?_)))
      refine' TurnK.mk (n := na) S GG ?U (fun k R hR => c_heappop (h₀ := s.heap) (key := kcq kq) (ordd_key _) X T S.f.keep (S.n (H, hobj as na) (by (first | exact mem_ix 0 rfl | exact mem_ix 1 rfl | exact mem_ix 2 rfl | exact mem_ix 3 rfl | exact mem_ix 4 rfl | exact mem_ix 5 rfl | exact mem_ix 6 rfl | exact mem_ix 7 rfl | exact mem_ix 8 rfl | exact mem_ix 9 rfl | exact mem_ix 10 rfl | exact mem_ix 11 rfl | exact mem_ix 12 rfl | exact mem_ix 13 rfl | exact mem_ix 14 rfl | exact mem_ix 15 rfl))).2.2 (S.n (H, hobj as na) (by (first | exact mem_ix 0 rfl | exact mem_ix 1 rfl | exact mem_ix 2 rfl | exact mem_ix 3 rfl | exact mem_ix 4 rfl | exact mem_ix 5 rfl | exact mem_ix 6 rfl | exact mem_ix 7 rfl | exact mem_ix 8 rfl | exact mem_ix 9 rfl | exact mem_ix 10 rfl | exact mem_ix 11 rfl | exact mem_ix 12 rfl | exact mem_ix 13 rfl | exact mem_ix 14 rfl | exact mem_ix 15 rfl))).1 hk9 (by omega) (by omega) b2 hR) ?_
      case U => k_updF
      rintro v' h5 as2 n2 ⟨r, rfl, hP2, hH2, hleast⟩
      have hr : r ∈ as := hP2.mem_iff.mp (.head _)
      have hokq := hok _ (b3.mem_iff.mp (List.mem_append_right _ (List.mem_map.mpr ⟨r, hr, rfl⟩)))
      obtain ⟨oR, hmR, hoR⟩ := mem_fz (b1 r hr) (hoff r hr) hal
      obtain ⟨oR', tr, ur, kr, hoR', hcr, hdr⟩ := b1 r hr
      rw [hoR] at hoR'
      cases hoR'
      obtain ⟨c4, c5, hc0, p5, p6⟩ : ∃ c4 c5, (lineOf (kq r)).cps[0]? = some c4 ∧ c5 = 32 ∧ (kq r).2.1 = ⟨#[c4, c5]⟩ := by
        obtain ⟨c0, c1, c2, c3, c4, c5, c6, c7, c8, c9, p1, p2, p3, p4, p5, p6⟩ := pk_form hokq
        exact ⟨c4, c5, by rw [p2]; rfl, p5, p6⟩
      intro c S
      refine PairK.mk (v1 := .bytes (numB (kq r).1) tr) (v2 := .str (lineOf (kq r)) ur) S ⟨oR, (S.n _ (.tail _ (.tail _ (.tail _ hmR)))).1, hcr, kr, hdr⟩ ?_
      intro h6 c S
      by_cases hne : (numB (kq r).1).toList != last.toList
      · have e := laidS_new b7 hne
        refine Run.ifT (BE.bytesNe (PE.locV S rfl rfl) (PE.locV S rfl rfl) rfl) hne ?_
        dsimp only [List.cons_append, List.nil_append]
        refine' Run.appendV (n0 := nl) S rfl rfl (by (first | exact mem_ix 0 rfl | exact mem_ix 1 rfl | exact mem_ix 2 rfl | exact mem_ix 3 rfl | exact mem_ix 4 rfl | exact mem_ix 5 rfl | exact mem_ix 6 rfl | exact mem_ix 7 rfl | exact mem_ix 8 rfl | exact mem_ix 9 rfl | exact mem_ix 10 rfl | exact mem_ix 11 rfl | exact mem_ix 12 rfl | exact mem_ix 13 rfl | exact mem_ix 14 rfl | exact mem_ix 15 rfl)) rfl rfl rfl rfl (EV.pe (PE.locV S rfl rfl) fun _ => AppK.ofV (vs := vl) (n := nl) S (by omega) ?U1 ?_)
        case U1 => k_upd
        intro h7 c S
        refine Run.assign S rfl rfl (PE.locV S rfl rfl) ?_
        intro h8 t8 c S
        refine Run.nil fun tk => (hQ _ (LEnd.of ⟨as2, n2, vl ++ [.str (lineOf (kq r)) ur], nl + 1, numB (kq r).1, tr⟩ S rfl rfl rfl (told_cons rfl (told_cons rfl (told_cons rfl (told_cons rfl told_nil)))) (by (repeat' (first | exact List.forall_mem_nil _ | (refine List.forall_mem_cons.mpr ⟨?_, ?_⟩) | (first | exact mem_ix 0 rfl | exact mem_ix 1 rfl | exact mem_ix 2 rfl | exact mem_ix 3 rfl | exact mem_ix 4 rfl | exact mem_ix 5 rfl | exact mem_ix 6 rfl | exact mem_ix 7 rfl | exact mem_ix 8 rfl | exact mem_ix 9 rfl | exact mem_ix 10 rfl | exact mem_ix 11 rfl | exact mem_ix 12 rfl | exact mem_ix 13 rfl | exact mem_ix 14 rfl | exact mem_ix 15 rfl)))) (by (repeat' (first | exact List.forall_mem_nil _ | (refine List.forall_mem_cons.mpr ⟨?_, ?_⟩) | (first | exact mem_ix 0 rfl | exact mem_ix 1 rfl | exact mem_ix 2 rfl | exact mem_ix 3 rfl | exact mem_ix 4 rfl | exact mem_ix 5 rfl | exact mem_ix 6 rfl | exact mem_ix 7 rfl | exact mem_ix 8 rfl | exact mem_ix 9 rfl | exact mem_ix 10 rfl | exact mem_ix 11 rfl | exact mem_ix 12 rfl | exact mem_ix 13 rfl | exact mem_ix 14 rfl | exact mem_ix 15 rfl)))) (by (first | exact tail_of 1 rfl | exact tail_of 2 rfl | exact tail_of 3 rfl | exact tail_of 4 rfl | exact tail_of 5 rfl | exact tail_of 6 rfl | exact tail_of 7 rfl | exact tail_of 8 rfl | exact tail_of 9 rfl | exact tail_of 10 rfl | exact tail_of 11 rfl | exact tail_of 12 rfl | exact tail_of 13 rfl | exact tail_of 14 rfl | exact tail_of 15 rfl)) fun kp => ?_)).1
        exact h2next hoff b0 b1 b3 b4 b5 hP2 hH2 hleast kp (by rw [e]; exact b6.append (.one _ _)) (by rw [e]) (by simp) (by simp only [List.length_append, List.length_dropLast, List.length_cons, List.length_nil]; omega)
      · have hne := Bool.eq_false_iff.mpr hne
        have hvn : vl ≠ [] := fun e => numB_ne (kq r).1 ((beq_toList hne).trans (b8 e))
        refine Run.ifF (BE.bytesNe (PE.locV S rfl rfl) (PE.locV S rfl rfl) rfl) hne ?_
        dsimp only [List.cons_append, List.nil_append]
        by_cases hmn : (({ cps := #[c4] } : Str) == Str.ofString "-") = true
        · have e := laidS_minus b7 hne (minus_of hmn p5 p6)
          refine Run.ifT (BE.strEq (PE.str0 (PE.locV S rfl rfl) PE.int hc0 (fun _ => rfl)) PE.str rfl) hmn ?_
          dsimp only [List.cons_append, List.nil_append]
          refine' Run.setLast S rfl (PE.locV S rfl rfl) (PE.locV S rfl rfl) (PE.neg PE.int) ?U2 hvn ?_
          case U2 => k_upd
          intro h7 c S
          refine Run.assign S rfl rfl (PE.locV S rfl rfl) ?_
          intro h8 t8 c S
          refine Run.nil fun tk => (hQ _ (LEnd.of ⟨as2, n2, vl.dropLast ++ [.str (lineOf (kq r)) ur], nl, numB (kq r).1, tr⟩ S rfl rfl rfl (told_cons rfl (told_cons rfl (told_cons rfl (told_cons rfl told_nil)))) (by (repeat' (first | exact List.forall_mem_nil _ | (refine List.forall_mem_cons.mpr ⟨?_, ?_⟩) | (first | exact mem_ix 0 rfl | exact mem_ix 1 rfl | exact mem_ix 2 rfl | exact mem_ix 3 rfl | exact mem_ix 4 rfl | exact mem_ix 5 rfl | exact mem_ix 6 rfl | exact mem_ix 7 rfl | exact mem_ix 8 rfl | exact mem_ix 9 rfl | exact mem_ix 10 rfl | exact mem_ix 11 rfl | exact mem_ix 12 rfl | exact mem_ix 13 rfl | exact mem_ix 14 rfl | exact mem_ix 15 rfl)))) (by (repeat' (first | exact List.forall_mem_nil _ | (refine List.forall_mem_cons.mpr ⟨?_, ?_⟩) | (first | exact mem_ix 0 rfl | exact mem_ix 1 rfl | exact mem_ix 2 rfl | exact mem_ix 3 rfl | exact mem_ix 4 rfl | exact mem_ix 5 rfl | exact mem_ix 6 rfl | exact mem_ix 7 rfl | exact mem_ix 8 rfl | exact mem_ix 9 rfl | exact mem_ix 10 rfl | exact mem_ix 11 rfl | exact mem_ix 12 rfl | exact mem_ix 13 rfl | exact mem_ix 14 rfl | exact mem_ix 15 rfl)))) (by (first | exact tail_of 1 rfl | exact tail_of 2 rfl | exact tail_of 3 rfl | exact tail_of 4 rfl | exact tail_of 5 rfl | exact tail_of 6 rfl | exact tail_of 7 rfl | exact tail_of 8 rfl | exact tail_of 9 rfl | exact tail_of 10 rfl | exact tail_of 11 rfl | exact tail_of 12 rfl | exact tail_of 13 rfl | exact tail_of 14 rfl | exact tail_of 15 rfl)) fun kp => ?_)).1
          exact h2next hoff b0 b1 b3 b4 b5 hP2 hH2 hleast kp (by rw [e]; exact b6.dropLast.append (.one _ _)) (by rw [e]) (by simp) (by simp only [List.length_append, List.length_dropLast, List.length_cons, List.length_nil]; omega)
        · have hmn := Bool.eq_false_iff.mpr hmn
          have e := laidS_old b7 hne (not_minus_of hmn p6)
          refine Run.ifF (BE.strEq (PE.str0 (PE.locV S rfl rfl) PE.int hc0 (fun _ => rfl)) PE.str rfl) hmn ?_
          dsimp only [List.cons_append, List.nil_append]
          refine Run.assign S rfl rfl (PE.locV S rfl rfl) ?_
          intro h8 t8 c S
          refine Run.nil fun tk => (hQ _ (LEnd.of ⟨as2, n2, vl, nl, numB (kq r).1, tr⟩ S rfl rfl rfl (told_cons rfl (told_cons rfl (told_cons rfl (told_cons rfl told_nil)))) (by (repeat' (first | exact List.forall_mem_nil _ | (refine List.forall_mem_cons.mpr ⟨?_, ?_⟩) | (first | exact mem_ix 0 rfl | exact mem_ix 1 rfl | exact mem_ix 2 rfl | exact mem_ix 3 rfl | exact mem_ix 4 rfl | exact mem_ix 5 rfl | exact mem_ix 6 rfl | exact mem_ix 7 rfl | exact mem_ix 8 rfl | exact mem_ix 9 rfl | exact mem_ix 10 rfl | exact mem_ix 11 rfl | exact mem_ix 12 rfl | exact mem_ix 13 rfl | exact mem_ix 14 rfl | exact mem_ix 15 rfl)))) (by (repeat' (first | exact List.forall_mem_nil _ | (refine List.forall_mem_cons.mpr ⟨?_, ?_⟩) | (first | exact mem_ix 0 rfl | exact mem_ix 1 rfl | exact mem_ix 2 rfl | exact mem_ix 3 rfl | exact mem_ix 4 rfl | exact mem_ix 5 rfl | exact mem_ix 6 rfl | exact mem_ix 7 rfl | exact mem_ix 8 rfl | exact mem_ix 9 rfl | exact mem_ix 10 rfl | exact mem_ix 11 rfl | exact mem_ix 12 rfl | exact mem_ix 13 rfl | exact mem_ix 14 rfl | exact mem_ix 15 rfl)))) (by (first | exact tail_of 1 rfl | exact tail_of 2 rfl | exact tail_of 3 rfl | exact tail_of 4 rfl | exact tail_of 5 rfl | exact tail_of 6 rfl | exact tail_of 7 rfl | exact tail_of 8 rfl | exact tail_of 9 rfl | exact tail_of 10 rfl | exact tail_of 11 rfl | exact tail_of 12 rfl | exact tail_of 13 rfl | exact tail_of 14 rfl | exact tail_of 15 rfl)) fun kp => ?_)).1
          exact h2next hoff b0 b1 b3 b4 b5 hP2 hH2 hleast kp (by rw [e]; exact b6) (by rw [e]) hvn (by omega)
    · rintro ⟨as, na, vl, nl, last, tl⟩ h m ⟨hoff, ⟨kq, pp, b0, b1, b2, b3, b4, b5, b6, b7⟩, b8, b9⟩
      dsimp only at hoff b1 b2 b3 b5 b6 b7 b8 b9
      intro c S
      refine Run.ret (PE.locV S rfl rfl) fun t tk => ?_
      have e1 := b3.length_eq
      rw [List.length_append, List.length_map, b0, List.size_toArray] at e1
      have e3 : as = [] := List.eq_nil_of_length_eq_zero (by omega)
      subst e3
      rw [List.map_nil, List.append_nil] at b3
      have z := S.n (G, W.listOf vl.toArray nl) (by (first | exact mem_ix 0 rfl | exact mem_ix 1 rfl | exact mem_ix 2 rfl | exact mem_ix 3 rfl | exact mem_ix 4 rfl | exact mem_ix 5 rfl | exact mem_ix 6 rfl | exact mem_ix 7 rfl | exact mem_ix 8 rfl | exact mem_ix 9 rfl | exact mem_ix 10 rfl | exact mem_ix 11 rfl | exact mem_ix 12 rfl | exact mem_ix 13 rfl | exact mem_ix 14 rfl | exact mem_ix 15 rfl))
      exact hR G _ _ vl nl pp S.f.keep z.1 z.2.2 b3 b4 b6
end
section
variable {w : World} {s : Shared} {p : Program} {loose : List Str} {mean : ExcName → Option Value} {mg mb : Str → Option Value} {R : Result → Shared → Prop}
theorem enterC {w : World} {A : Around} {s : Shared} {K : Frag} {R : Result → Shared → Prop} {name qual : Str} {params : Arguments} {body : List Stmt} {scope : Scope} {dV kV doc pm cdv ct oc : Value} {an od : Option Addr} {osl : Array (Option Value)} {f : Addr} {args : Args} (binds : List (Str × Value))
    (X : K.In s.heap) (hlim : s.heap.NoLimit)
    (ho : K.lookup f = some ⟨oc, od, .func (fnOf name qual params body scope dV kV doc pm an cdv ct), osl⟩) (hcd : codeIn K cdv qual = true) (hroom : A.depth < recursionLimit)
    (hbind : BindsTo s (fnOf name qual params body scope dV kV doc pm an cdv ct) args binds) (hkind : (binds.all fun y => scope.names.lookup y.1 == some .local || scope.names.lookup y.1 == some .cell) = true)
    (hnd : ((cellsFrom 0 scope.names []).map (·.1)).Nodup)
    (h : ∀ L h₁ tk cells, Fr s.heap L h₁ (bindL (envOfC qual scope L f cdv).kindOf binds fun _ => none) → News s.heap L h₁ cells → CellsAre (bindC (envOfC qual scope L f cdv).kindOf binds fun _ => none) (cellsFrom (L + 1) scope.names []) cells →
      wpAny (model prg w) (A.deeper (envOfC qual scope L f cdv)) (execs body (envOfC qual scope L f cdv))
        (fun fl s' => R (.ok (.ret (match fl with | .ret v => v | _ => .none))) s') (fun _ _ => False)
        { s with heap := h₁, toks := tk })
    (hco : scope.isCoroutine = false) (hgen : scope.isGenerator = false) (hk : scope.kind = .function) : codeAny (model prg w) A (.call (.ref f) args) R s := by
  refine codeAny_call_function hroom (X _ _ ho) rfl hco hgen rfl (codeRec_of X hcd) (hbind _ _ _ _ ?_)
  refine wpAny_newFunctionEnv_cells hk (kindsX hkind _) fun env' he s' x => ?_
  subst he
  refine ⟨hlim.keeps x.toInCall.keep, codeAny_func ?_⟩
  obtain ⟨h₁, tk, rfl, _⟩ := x.done
  have hk₁ := x.toInCall.keep
  obtain ⟨cells, NC, Y⟩ := Cl.news (h₀ := s.heap) (Nat.le_refl _) fun n c hm => ⟨x.cell n c (lookup_of_mem_nodup (cellsFrom_names scope.names 0 (s.heap.objs.size + 1) [] [] rfl ▸ hnd) hm), x.above n c hm⟩
  exact wpAny_mono (h s.heap.objs.size h₁ tk cells ⟨x.toInCall.ns, hk₁, Nat.le_refl _⟩ NC Y) (fun fl s' hl => hl) fun _ _ y => y.elim
theorem fr_told {h₀ h : Heap} {L : Addr} {m : Str → Option Value} (l : List (Str × Value)) (F : Fr h₀ L h m) (hm : Told m l) : ∃ m0, Fr h₀ L h (ovr l m0) := ⟨m, by rw [ovr_eq hm]; exact F⟩
end
section
variable {w : World} {s : Shared} {p : Program} {loose : List Str} {mean : ExcName → Option Value} {mg mb : Str → Option Value} {R : Result → Shared → Prop}
section
variable {A : Around} {E : Value → Shared → Prop} {h₀ : Heap} {L l I C : Addr} {m : Str → Option Value} {news : List (Addr × Obj)} {items : Array Value} {o : Obj} {env : Env} {sc : Scope} {cl : List (Str × Addr)} {pos : Pos} {K : Frag}
theorem letGo_list {target : PySem.Expr} {i : Nat} {v : Value} {Q : Unit → Shared → Prop} (hi : s.heap.IsListIter I l i) (h : Q () s) : wpAny (model prg w) A (letOwnedTupleGo target (.ref I) v) Q E s := by
  obtain ⟨o, ho, hc, hd⟩ := hi
  have key : ∀ a : Addr, wpAny (model prg w) A (do
      let o ← load I
      match o.cls, o.data with
      | .type n, .fields vs =>
        if ["enumerate", "zip", "dict_itemiterator", "dict_reverseitemiterator", "odict_iterator", "itertools.zip_longest", "itertools.pairwise"].contains n && vs[0]? == some (rawInt a) then
          rule "for.unpacks-the-owned-tuple"
          updateField I 0 .none
      | _, _ => pure ()) Q E s := fun a => by
    refine wpAny_bind (wpAny_load ho ?_)
    rw [hc, hd]
    exact wpAny_pure h
  unfold letOwnedTupleGo
  cases target <;> first | exact wpAny_pure h | (cases v <;> first | exact wpAny_pure h | exact key _)
theorem selfL {i : Nat} (hc : o.cls = .type "list_iterator") (hd : o.data = .fields #[.ref l, .int i 0]) :
    ∀ s' : Shared, s'.heap.get? I = some o → ∀ Q E, Q (.ref I) s' → wpAny (model prg w) A (pyIter (.ref I)) Q E s' := fun s' ho Q E hq => wpAny_pyIter_listiter ⟨o, ho, hc, hd⟩ hq
theorem iterL_comp {elt target iter : PySem.Expr} {ifs : List PySem.Expr} {rest : List Comprehension} {Q : Value → Shared → Prop}
    (F : Fr h₀ L s.heap m) (X : K.In h₀) (N : News h₀ L s.heap news) (T : Top p loose mean mg mb h₀) (hl : s.heap.IsList l items)
    (k : ∀ g (I D C : Nat) h₄ o, s.heap.StaysIn g → (∀ b y, s.heap.get? b = some y → b < I) → I < D → D < C → Fr g C h₄ (fun _ => none) → News g C h₄ [(D, W.listOf #[] 0), (I, o)] → K.In g → Top p loose mean mg mb g → o.cls = .type "list_iterator" → o.data = .fields #[.ref l, .int (0 : Nat) 0] →
      codeAny (model prg w) A (.compLoop (.ListComp elt (⟨target, iter, ifs, 0⟩ :: rest) sc pos) 0 (.ref I) (.ref D) (compEnvC sc cl C env)) (CompEnd h₀ L m news g C D Q) { s with heap := h₄ }) :
    wpAny (model prg w) A (pyIter (.ref l)) (fun it s₂ => ∀ D C h₄, D = s₂.heap.objs.size → C = D + 1 → h₄.Ns C (fun _ => none) → h₄.get? D = some (W.listOf #[] 0) → s₂.heap.StaysIn h₄ →
      codeAny (model prg w) A (.compStart (.ListComp elt (⟨target, iter, ifs, 0⟩ :: rest) sc pos) 0 it (.ref D) (compEnvC sc cl C env)) (compPost (model prg w) A E none Q (.ref D) C) { s₂ with heap := h₄ }) E s := by
  refine wpAny_pyIter_list hl ?_
  have hsz : (s.heap.push ({ cls := .type "list_iterator", data := .fields #[.ref l, .int 0 0] } : Obj)).get? s.heap.objs.size = some { cls := .type "list_iterator", data := .fields #[.ref l, .int 0 0] } := Heap.get?_push_size _ rfl
  have st : ∀ b y, s.heap.get? b = some y → b < s.heap.objs.size := fun b y e => Heap.lt_size e
  refine comp_enter (s := { s with heap := s.heap.push ({ cls := .type "list_iterator", data := .fields #[.ref l, .int 0 0] } : Obj) }) (I := s.heap.objs.size) (F.push _) X (N.push F _ rfl) T (fun q hq => Nat.ne_of_lt (st _ _ (N q hq).1)) (selfL (l := l) (i := 0) rfl rfl) fun D C h₄ hID hC F4 N4 X4 T4 => ?_
  exact k _ s.heap.objs.size D C h₄ _ (fun b y e => hide_keeps (Nat.ne_of_lt (st b y e)) (Heap.get?_push_of_some _ e)) st hID (by omega) F4 N4 X4 T4 rfl rfl
theorem nextL {g : Obj → List (Addr × Obj)} {i : Nat} {v : Value} {Q : Option Value → Shared → Prop} (F : Fr h₀ L s.heap m) (N : News h₀ L s.heap news) (U : UpdF I o news g) (hl : h₀.IsList l items)
    (hc : o.cls = .type "list_iterator") (hd : o.data = .fields #[.ref l, .int i 0]) (hx : items[i]? = some v)
    (k : ∀ h' o', Fr h₀ L h' m → News h₀ L h' (g o') → o'.cls = .type "list_iterator" → o'.data = .fields #[.ref l, .int (i + 1 : Nat) 0] → Q (some v) { s with heap := h' }) :
    wpAny (model prg w) A (pyNext (.ref I)) Q E s := by
  obtain ⟨pre, post, e0, e, a, b'⟩ := U.split
  have z := N (I, o) (by rw [e0]; exact List.mem_append.mpr (.inr (.head _)))
  obtain ⟨ol, hol, r⟩ := hl
  refine wpAny_pyNext_list_item ⟨o, z.1, hc, hd⟩ ⟨ol, F.keep _ _ hol, r⟩ hx fun h' hit hs => ?_
  obtain ⟨o', ho', hc', hd'⟩ := hit
  have q := fr_same F N U hs ho'
  exact k h' o' q.1 q.2 hc' hd'
theorem nextL_end {i : Nat} {news' : List (Addr × Obj)} {Q : Option Value → Shared → Prop} (hh : A.handled = none) (F : Fr h₀ L s.heap m) (N : News h₀ L s.heap news) (hm : (I, o) ∈ news) (D : DropI I news news') (hl : h₀.IsList l items)
    (hc : o.cls = .type "list_iterator") (hd : o.data = .fields #[.ref l, .int i 0]) (hx : items[i]? = none)
    (k : ∀ h', Fr h₀ L h' m → News h₀ L h' news' → Q none { s with heap := h' }) : wpAny (model prg w) A (pyNext (.ref I)) Q E s := by
  obtain ⟨ol, hol, r⟩ := hl
  refine wpAny_pyNext_list_end hh ⟨o, (N _ hm).1, hc, hd⟩ ⟨ol, F.keep _ _ hol, r⟩ hx fun h' hs => ?_
  have q := fr_ext F N D hs
  exact k h' q.1 q.2
theorem comp_turns {elt target iter : PySem.Expr} {ifs : List PySem.Expr} {it acc : Value} (I : Nat → Shared → Prop)
    (turn : ∀ n s, I n s → wpAny (model prg w) A (pyNext it) (fun r s₁ => match r with
      | none => R (.ok .next) s₁
      | some v => wpAny (model prg w) A (letOwnedTupleGo target it v) (fun _ s₁ => wpAny (model prg w) A (assign target env v) (fun _ s₂ =>
          wpAny (model prg w) A (forIn ifs true fun c r => if r = true then do let ok ← isTrue c env (eval c env); pure (ForInStep.yield ok) else pure (ForInStep.yield r)) (fun ok s₃ =>
            if ok = true then wpAny (model prg w) A (eval elt env) (fun x s₄ =>
              wpAny (model prg w) A (call (.builtin "list.append") [acc, x]) (fun _ s₅ => Again I n s₅) (notedBy (model prg w) A env fun e s' => R (.error e) s') s₄) (notedBy (model prg w) A env fun e s' => R (.error e) s') s₃
            else Again I n s₃) (notedBy (model prg w) A env fun e s' => R (.error e) s') s₂) (notedBy (model prg w) A env fun e s' => R (.error e) s') s₁) (notedBy (model prg w) A env fun e s' => R (.error e) s') s₁) (notedBy (model prg w) A env fun e s' => R (.error e) s') s)
    (n : Nat) (h : I n s) : codeAny (model prg w) A (.compLoop (.ListComp elt [⟨target, iter, ifs, 0⟩] sc pos) 0 it acc env) R s := by
  refine codeAny_loop rfl I (fun n s hI => ?_) n h
  show wpAny _ A ((compTurn (.ListComp elt [⟨target, iter, ifs, 0⟩] sc pos) 0 it acc env).onRaise (fun x => do noteFrame x env; theTreesLotGoes x)) _ _ s
  refine wpAny_noted ?_
  rw [compTurn_list]
  refine wpAny_bind (wpAny_standAt (wpAny_bind (wpAny_mono (turn n s hI) (fun r s₁ h₁ => ?_) fun _ _ h' => h')))
  cases r with
  | none => exact wpAny_pure h₁
  | some v =>
    refine wpAny_bind (wpAny_mono h₁ (fun _ s₁' h₁' => ?_) fun _ _ h' => h')
    refine wpAny_bind (wpAny_mono h₁' (fun _ s₂ h₂ => wpAny_bind (wpAny_mono h₂ (fun ok s₃ h₃ => ?_) fun _ _ h' => h')) fun _ _ h' => h')
    cases ok with
    | false => exact wpAny_pure ⟨rfl, h₃⟩
    | true => exact wpAny_bind (wpAny_bind (wpAny_mono h₃ (fun x s₄ h₄ => wpAny_bind (wpAny_mono h₄ (fun _ s₅ h₅ => wpAny_pure (wpAny_pure ⟨rfl, h₅⟩)) fun _ _ h' => h')) fun _ _ h' => h'))
end
section
variable {X : Type} {g : Heap} {C : Addr} {told : X → List (Str × Value)} {led : X → List (Addr × Obj)} {Φ : Nat → Heap → X → Prop} {adr : List Addr} {A : Around} {env : Env} {I l : Addr} {s0 : Shared} {sc : Scope} {pos : Pos}
theorem comp_listJ {elt target iter : PySem.Expr} {ifs : List PySem.Expr} {acc : Value} {items : Array Value} (hh : A.handled = none) (hadr : ∀ x, (led x).map (·.1) = adr) (hIL : I ≠ C) (hI0 : g.get? I = none) (hIa : ∀ a ∈ adr, a ≠ I)
    (hl : g.IsList l items) (hst : ∀ i h h' x, Φ i h x → (∀ b o, b ≠ I → h.get? b = some o → h'.get? b = some o) → Φ i h' x)
    (hi : s0.heap.IsListIter I l 0) (h0 : LJ g s C told led Φ 0 s0)
    (step : ∀ i v oI x h tk m fz, items[i]? = some v → oI.cls = .type "list_iterator" → Fr g C h (ovr (told x) m) → News g C h ((I, oI) :: (led x ++ fz)) → (∀ q ∈ fz, (∀ a ∈ adr, q.1 ≠ a) ∧ ∀ p ∈ [(I, oI)], q.1 ≠ p.1) → (∀ b o, h.get? b = some o → b ≠ C → g.get? b = none → (∀ a ∈ adr, a ≠ b) → (∀ p ∈ [(I, oI)], p.1 ≠ b) → (b, o) ∈ fz) → Φ i h x →
      wpAny (model prg w) A (assign target env v) (fun _ s₂ =>
          wpAny (model prg w) A (forIn ifs true fun c r => if r = true then do let ok ← isTrue c env (eval c env); pure (ForInStep.yield ok) else pure (ForInStep.yield r)) (fun ok s₃ =>
            if ok = true then wpAny (model prg w) A (eval elt env) (fun x s₄ =>
              wpAny (model prg w) A (call (.builtin "list.append") [acc, x]) (fun _ s₅ => LEnd g s C told led Φ i adr [(I, oI)] fz h s₅) (notedBy (model prg w) A env fun e s' => R (.error e) s') s₄) (notedBy (model prg w) A env fun e s' => R (.error e) s') s₃
            else LEnd g s C told led Φ i adr [(I, oI)] fz h s₃) (notedBy (model prg w) A env fun e s' => R (.error e) s') s₂) (notedBy (model prg w) A env fun e s' => R (.error e) s') { s with heap := h, toks := tk })
    (hR : ∀ s', LJ g s C told led Φ items.size s' → R (.ok .next) s') : codeAny (model prg w) A (.compLoop (.ListComp elt [⟨target, iter, ifs, 0⟩] sc pos) 0 (.ref I) acc env) R s0 := by
  have base : ∀ i s', LJ g s C told led Φ i s' → s'.heap.IsList l items := by
    rintro i s' ⟨x, h, tk, m, rfl, F, _⟩
    obtain ⟨o, ho, r⟩ := hl
    exact ⟨o, F.keep _ _ ho, r⟩
  refine comp_turns (fun n s' => ∃ i, n = items.size - i ∧ i ≤ items.size ∧ s'.heap.IsListIter I l i ∧ LJ g s C told led Φ i s') ?_ items.size ⟨0, rfl, Nat.zero_le _, hi, h0⟩
  rintro n s' ⟨i, rfl, hle, hi', hJ⟩
  by_cases hlt : i < items.size
  · have hx : items[i]? = some items[i] := by simp [hlt]
    refine wpAny_pyNext_list_item hi' (base _ _ hJ) hx fun h' e1 e2 => ?_
    show wpAny _ _ (letOwnedTupleGo _ _ _) _ _ _
    refine letGo_list e1 ?_
    have hJ2 : LJ g s C told led Φ i { s' with heap := h', toks := s'.toks } := LJ.stab hadr hIL hIL hI0 hI0 hIa hIa (fun i h h' x hp k => hst i h h' x hp fun b o hb e => k b o hb hb e) (fun b o hb _ e => e2.extBut b o hb e) hJ
    obtain ⟨oI, ho, hc, hoI⟩ := itsAt e1
    obtain ⟨x, h, tk, m, fz, he, F, N, hfz, hal, hp, fin⟩ := lj_open hadr hJ2 [(I, oI)] (by
      intro p hp
      rw [List.mem_singleton.mp hp]
      exact ⟨ho, hIL, hI0⟩)
    have he' : ({ s' with heap := h' } : Shared) = { s with heap := h, toks := tk } := he
    rw [he']
    have ag : ∀ s₃, LEnd g s C told led Φ i adr [(I, oI)] fz h s₃ → Again (fun n s' => ∃ i, n = items.size - i ∧ i ≤ items.size ∧ s'.heap.IsListIter I l i ∧ LJ g s C told led Φ i s') (items.size - i) s₃ := fun s₃ h₃ => by
      obtain ⟨hJ3, hE⟩ := fin _ h₃
      exact ⟨items.size - (i + 1), by omega, i + 1, rfl, by omega, hoI _ (hE _ (.head _)), hJ3⟩
    refine wpAny_mono (step i _ oI x h tk m fz hx hc F N hfz hal hp) (fun _ s₂ h₂ => wpAny_mono h₂ (fun ok s₃ h₃ => ?_) fun _ _ x => x) fun _ _ x => x
    cases ok with
    | false => exact ag _ h₃
    | true => exact wpAny_mono h₃ (fun x s₄ h₄ => wpAny_mono h₄ (fun _ s₅ h₅ => ag _ h₅) fun _ _ x => x) fun _ _ x => x
  · have hx : items[i]? = none := by simp; omega
    refine wpAny_pyNext_list_end hh hi' (base _ _ hJ) hx fun h' e1 => ?_
    have hi3 : i = items.size := by omega
    subst hi3
    exact hR _ (LJ.stab hadr hIL hIL hI0 hI0 hIa hIa (fun i h h' x hp k => hst i h h' x hp fun b o hb e => k b o hb hb e) (fun b o hb _ e => e1 b o hb e) hJ)
end
end
section
variable {w : World} {s : Shared} {p : Program} {loose : List Str} {mean : ExcName → Option Value} {mg mb : Str → Option Value} {R : Result → Shared → Prop}
noncomputable def compOk (sc : Scope) : Bool := sc.names.all (fun y => match y.2 with
  | .cell => false
  | .local => (match sc.names.lookup y.1 with | some .local => true | _ => false)
  | _ => true) && (match sc.kind with | .function => true | _ => false)
theorem compOk_of {sc : Scope} (h : compOk sc = true) : (∀ y ∈ sc.names, y.2 ≠ .cell) ∧ sc.kind = .function ∧ ∀ y ∈ sc.names, y.2 = .local → sc.names.lookup y.1 = some .local := by
  unfold compOk at h
  rw [Bool.and_eq_true, List.all_eq_true] at h
  refine ⟨fun y hy e => ?_, ?_, fun y hy e => ?_⟩
  · have := h.1 y hy
    rw [e] at this
    cases this
  · have := h.2
    split at this
    · assumption
    · cases this
  · have := h.1 y hy
    rw [e] at this
    dsimp only at this
    split at this
    · assumption
    · cases this
section
variable {c : Ctx} {x : Str} {pos px : Pos} {elt target iter : PySem.Expr} {ifs : List PySem.Expr} {rest : List Comprehension} {sc : Scope} {cl : List (Str × Addr)} {QV : Value → Ctx → Prop} {R : Result → Shared → Prop} {D I l : Addr} {items : Array Value} {o : Obj} {i : Nat} {v : Value}
inductive CompK (elt target iter : PySem.Expr) (ifs : List PySem.Expr) (rest : List Comprehension) (sc : Scope) (cl : List (Str × Addr)) (pos : Pos) (QV : Value → Ctx → Prop) : Value → Ctx → Prop
  | mk {l items c1} (S : c1.Ok) (hl : c1.h.IsList l items) (G : Gl c1.w c1.h₀)
      (k : ∀ g I D C h₄ o R, c1.h.StaysIn g → (∀ b y, c1.h.get? b = some y → b < I) → @LT.lt Nat _ I D → @LT.lt Nat _ D C → o.cls = .type "list_iterator" → o.data = .fields #[.ref l, .int (0 : Nat) 0] →
        (∀ (cE : Ctx) tk its n, cE.h₀ = g → cE.env.locals = C → cE.dr = c1.dr → cE.os = c1.os → cE.Ok → (D, PySem.W.listOf its n) ∈ cE.news →
          (∀ h'', (∀ b o, b ≠ C → cE.h.get? b = some o → h''.get? b = some o) → let c2 : Ctx := { c1 with h := h'', news := (D, PySem.W.listOf its n) :: c1.news, gs := cE.gs }; c2.Ok → QV (.ref D) c2) → R (.ok .next) (cE.at tk)) →
        let cB : Ctx := ⟨c1.w, c1.A, compEnvC sc cl C c1.env, g, h₄, fun _ => none, [(D, PySem.W.listOf #[] 0), (I, o)], c1.gs, c1.dr, c1.os⟩; cB.Ok → Gl cB.w cB.h₀ →
        Loop cB (.compLoop (.ListComp elt (⟨target, iter, ifs, 0⟩ :: rest) sc pos) 0 (.ref I) (.ref D) cB.env) R) : CompK elt target iter ifs rest sc cl pos QV (.ref l) c1
theorem EV.comp (hclos : closureFor sc c.env = pure cl) (hok : compOk sc = true) (hs : ∀ x, foldedSetIterable iter c.env x = pure x) (p : EV c iter (CompK elt target iter ifs rest sc cl pos QV)) :
    EV c (.ListComp elt (⟨target, iter, ifs, 0⟩ :: rest) sc pos) QV := ⟨fun Q' E tk K => by
  obtain ⟨h1, h2, h3⟩ := compOk_of hok
  refine m_ListComp hclos h1 h2 h3 hs (p.go _ _ _ fun v c1 k1 hs1 q => ?_)
  obtain ⟨S, hl, G, k⟩ := q
  obtain ⟨X, _, _, _, _, _, T⟩ := G
  obtain ⟨e1, e2, e3⟩ := stat_of hs1
  rw [← e1, ← e2, ← e3]
  refine iterL_comp (s := c1.at k1) S.f X S.n T hl fun g I D C h₄ o st hnew l1 l2 F4 N4 X4 T4 hc hd => ?_
  refine (k g I D C h₄ o _ st hnew l1 l2 hc hd (fun cE tk its n hg hC hdr hos SE hm kk => ?_) ⟨F4, N4⟩ ⟨X4, _, _, _, _, _, T4⟩).go k1
  subst hg hC
  refine CompEnd.intro SE.f SE.n hm fun h'' F'' N'' k'' => ?_
  have z := K (.ref D) { c1 with h := h'', news := (D, PySem.W.listOf its n) :: c1.news, gs := cE.gs } tk hs1 (kk h'' k'' ⟨F'', N''⟩)
  unfold Ctx.at at z ⊢
  dsimp only at z ⊢
  rw [hdr, hos]
  exact z⟩
inductive LayK (D : Addr) (code : Code) (R : Result → Shared → Prop) : Value → Ctx → Prop
  | mk {v c1 vs n news'} (S : c1.Ok) (U : Upd D (PySem.W.listOf (List.toArray vs) n) (PySem.W.listOf (vs ++ [v]).toArray (n + 1)) c1.news news') (hsz : vs.length < 1000000) (k : ∀ h', let c2 := c1.led h' news'; c2.Ok → Loop c2 code R) : LayK D code R v c1
theorem Loop.compTurn {env : Env} {g : Obj → List (Addr × Obj)} (he : env = c.env) (S : c.Ok) (U : UpdF I o c.news g) (hl : c.h₀.IsList l items) (hc : o.cls = .type "list_iterator") (hd : o.data = .fields #[.ref l, .int i 0]) (hx : items[i]? = some v) (hloc : isLoc c.env x = true)
    (k : ∀ h' o', o'.cls = .type "list_iterator" → o'.data = .fields #[.ref l, .int (i + 1 : Nat) 0] → let c' := (c.led c.h (g o')).put h' x v; c'.Ok → EV c' elt (LayK D (.compLoop (.ListComp elt [⟨.Name x px, iter, [], 0⟩] sc pos) 0 (.ref I) (.ref D) env) R)) :
    Loop c (.compLoop (.ListComp elt [⟨.Name x px, iter, [], 0⟩] sc pos) 0 (.ref I) (.ref D) env) R := ⟨fun tk => by
  subst he
  obtain ⟨h1, h2, h3⟩ := isLoc_of hloc
  refine comp_step (nextL (s := c.at tk) S.f S.n U hl hc hd hx fun h' o' F' N' hc' hd' => ?_)
  refine wpAny_of_eq rfl (wpAny_assign_Name ?_)
  refine wpAny_storeName_local h2 (s := { c.at tk with heap := h' }) F'.ns (fun h'' hn hs => ?_) (by rw [h1]; rfl)
  refine (k h'' o' hc' hd' ⟨F'.set hn hs, N'.set hs⟩).go _ _ _ fun r c1 k1 hs1 q => ?_
  obtain ⟨S1, U1, hsz, k2⟩ := q
  obtain ⟨e1, e2, e3⟩ := stat_of hs1
  refine appV (s := c1.at k1) S1.f S1.n U1 hsz fun h3 F3 N3 => ?_
  have z := (k2 h3 ⟨F3, N3⟩).go k1
  unfold Ctx.M at z
  have e1' : c1.w = c.w := e1
  have e2' : c1.A = c.A := e2
  rw [show (c1.led h3 _).w = c.w from e1', show (c1.led h3 _).A = c.A from e2'] at z
  exact z⟩
theorem Loop.compDone {env : Env} {news' : List (Addr × Obj)} (S : c.Ok) (hh : c.A.handled = none) (hm : (I, o) ∈ c.news) (Dr : DropI I c.news news') (hl : c.h₀.IsList l items) (hc : o.cls = .type "list_iterator") (hd : o.data = .fields #[.ref l, .int i 0]) (hx : items[i]? = none)
    (k : ∀ h', let c' := c.led h' news'; c'.Ok → ∀ tk, R (.ok .next) (c'.at tk)) :
    Loop c (.compLoop (.ListComp elt [⟨target, iter, [], 0⟩] sc pos) 0 (.ref I) (.ref D) env) R :=
  ⟨fun tk => comp_step (nextL_end (s := c.at tk) hh S.f S.n hm Dr hl hc hd hx fun h' F' N' => k h' ⟨F', N'⟩ tk)⟩
structure Cel (env : Env) (x : Str) (a : Addr) : Prop where
  k : env.scope.kind = .function
  n : env.kindOf x = some .cell
  l : env.cells.lookup x = some a
  d : (x == ("__debug__" : Str)) = false
theorem PE.cellB {a : Addr} {v : Value} (S : c.Ok) (hc : Cel c.env x a) (ho : c.h₀.IsCell a (some v)) : PE c (.Name x pos) (fun _ => v) :=
  ⟨fun _ _ _ k => wpAny_Name (wpAny_loadName_cell hc.k hc.n hc.l (let ⟨o, ho', hd'⟩ := ho; ⟨o, S.f.keep _ _ ho', hd'⟩) (k 0 _)) hc.d⟩
theorem PE.cellN {a : Addr} {o : Obj} {v : Value} (S : c.Ok) (hc : Cel c.env x a) (hm : (a, o) ∈ c.news) (hd : o.data = .cell (some v)) : PE c (.Name x pos) (fun _ => v) :=
  ⟨fun _ _ _ k => wpAny_Name (wpAny_loadName_cell hc.k hc.n hc.l ⟨o, (S.n _ hm).1, hd⟩ (k 0 _)) hc.d⟩
theorem PE.cellI {a : Addr} {o : Obj} {j : Int} {t : Tok} (S : c.Ok) (hc : Cel c.env x a) (hm : (a, o) ∈ c.news) (hd : o.data = .cell (some (.int j t))) : PE c (.Name x pos) (.int j) :=
  ⟨fun _ _ _ k => wpAny_Name (wpAny_loadName_cell hc.k hc.n hc.l ⟨o, (S.n _ hm).1, hd⟩ (k _ _)) hc.d⟩
theorem PE.cellBI {a : Addr} {j : Int} {t : Tok} (S : c.Ok) (hc : Cel c.env x a) (ho : c.h₀.IsCell a (some (.int j t))) : PE c (.Name x pos) (.int j) :=
  ⟨fun _ _ _ k => wpAny_Name (wpAny_loadName_cell hc.k hc.n hc.l (let ⟨o, ho', hd'⟩ := ho; ⟨o, S.f.keep _ _ ho', hd'⟩) (k _ _)) hc.d⟩
end
structure CallC (c : Ctx) (f : Addr) (vs : List Value) (QV : Value → Ctx → Prop) : Prop where
  go : ∀ (k : Nat) (Q' : Value → Shared → Prop) (E : Value → Shared → Prop), (∀ v c' k', c'.stat = c.stat → QV v c' → Q' v (c'.at k')) → wpAny (model prg c.w) c.A (call (.ref f) vs) Q' E (c.at k)
section
variable {c : Ctx} {fn : Str} {pa pn : Pos} {e : PySem.Expr} {es : List PySem.Expr} {QV : Value → Ctx → Prop} {f : Addr} {d u : Nat} {v : Value} {V : Tok → Value}
theorem EV.callC (S : c.Ok) (G : Gl c.w c.h₀) (gf : isGlo c.env fn = true) (g : GFn c.w fn f) (hst : starEach (e :: es) c.env = (false, eval e c.env) :: starEach es c.env) (hpl : (backTo pa (starEach es c.env)).any (·.1) = false)
    (he : eval (.Call (.Name fn pn) (e :: es) [] pa) c.env = (do callWith pa (← eval (.Name fn pn) c.env) [] (backTo pa (starEach (e :: es) c.env)) (backToKw pa (keywordEach [] c.env))))
    (p : EVs c (e :: es) fun vs c1 => (Gl c1.w c1.h₀ ∧ c1.Ok) ∧ CallC c1 f vs QV) : EV c (.Call (.Name fn pn) (e :: es) [] pa) QV := ⟨fun Q' E tk K => by
  refine Call_ ((PE.gloG S G gf g.e).go _ _ _ fun _ _ => ?_) he
  refine callWith_K (h₀ := c.h₀) G.1 g.k (p.go _ _ _ _ fun vs c1 k1 hs1 q => ?_) hst hpl
  obtain ⟨⟨G1, S1⟩, C⟩ := q
  obtain ⟨e1, e2, e3⟩ := stat_of hs1
  rw [← e1]
  refine ⟨Frag.In.keeps G1.1 S1.f.keep, ?_⟩
  rw [← e2]
  exact C.go k1 _ _ fun v c' k' hs q => K v c' k' (hs.trans hs1) q⟩
theorem CallC.con (S : c.Ok) (G : Gl c.w c.h₀) (hA : AOk c.A d u) (C : Con d u c.w f [v] [] V) (k : ∀ h' t, let c2 := c.led h' c.news; c2.Ok → QV (V t) c2) : CallC c f [v] QV := ⟨fun tk Q' E K => by
  refine wpAny_call (codeAny_weaken (C.go (c.at tk) _ (G.keeps S.f.keep) fun v s' q st => ?_) hA.h hA.d hA.u)
  obtain ⟨t', h', tk', rfl, rfl⟩ := q
  exact K _ (c.led h' c.news) tk' rfl (k h' t' ⟨Fr.out S.f st, News.out S.n st⟩)⟩
end
end
section
variable {w : World} {s : Shared} {p : Program} {loose : List Str} {mean : ExcName → Option Value} {mg mb : Str → Option Value} {R : Result → Shared → Prop}
structure BV (c : Ctx) (e : PySem.Expr) (QB : Bool → Ctx → Prop) : Prop where
  go : ∀ (Q' : Bool → Shared → Prop) (E : Value → Shared → Prop) tk, (∀ b c' k, c'.stat = c.stat → QB b c' → Q' b (c'.at k)) → wpAny (model prg c.w) c.A (isTrue e c.env (eval e c.env)) Q' E (c.at tk)
section
variable {c : Ctx} {x : Str} {pos px pn pa : Pos} {a b e : PySem.Expr} {body orelse rest : List Stmt} {Q : Flow → Shared → Prop} {E : Value → Shared → Prop} {QB : Bool → Ctx → Prop}
theorem Run.ifV (p : BV c e fun b c1 => Run c1 ((if b then body else orelse) ++ rest) Q E) : Run c (.If e body orelse pos :: rest) Q E := ⟨fun tk Γ p' hΓ => by
  have z := p.go (fun b' s' => wpAny (model prg c.w) c.A (execs ((if b' then body else orelse) ++ rest) c.env) Q E s') E tk (fun b c1 k hs q => Run.at hs q k) Γ
  rw [execs_cons, Sem.wp_bind']
  simp only [exec_If, Sem.wp_bind', Sem.wp_cmd_standAt]
  refine Sem.wp_mono _ Γ _ (fun b p₂ s₂ h₂ => ?_) (fun _ _ _ h' => h') _ _ (z _ hΓ)
  have z2 := h₂ Γ p₂ hΓ
  cases b <;> (rw [execs_app, Sem.wp_bind'] at z2; exact z2)⟩
inductive CmpK (op : CmpOp) (QB : Bool → Ctx → Prop) (v : Value) : Value → Ctx → Prop
  | mk {w2 c1 r} (o : ∀ (Q : Value → Shared → Prop) (E : Value → Shared → Prop) k, Q (.bool r) (c1.at k) → wpAny (model prg c1.w) c1.A (compareOp op v w2) Q E (c1.at k)) (k : QB r c1) : CmpK op QB v w2 c1
inductive CmpL (op : CmpOp) (b : PySem.Expr) (QB : Bool → Ctx → Prop) : Value → Ctx → Prop
  | mk {v c1} (p : EV c1 b (CmpK op QB v)) : CmpL op b QB v c1
theorem BV.cmp {op : CmpOp} (hm : behindInMarks op b = false) (p : EV c a (CmpL op b QB)) : BV c (.Compare a [op] [b] pos) QB := ⟨fun Q' E tk K => by
  refine wpAny_isTrue_Compare1 (p.go _ _ _ fun v c1 k1 h1 q => ?_) hm
  obtain ⟨p2⟩ := q
  refine EV.at h1 p2 _ _ _ fun v2 c2 k2 h2 q2 => ?_
  obtain ⟨o, k⟩ := q2
  obtain ⟨e1, e2, e3⟩ := stat_of h2
  have z := o (fun v s' => wpAny (model prg c2.w) c2.A (truthy v) Q' E s') E k2 (wpAny_truthy_bool (K _ c2 k2 h2 k))
  rw [e1, e2] at z
  exact z⟩
theorem Loop.listJC {X : Type} {c : Ctx} {told : X → List (Str × Value)} {led : X → List (Addr × Obj)} {Φ : Nat → Heap → X → Prop} {adr : List Addr} {x : Str} {px : Pos} {body rest : List Stmt} {Q : Flow → Shared → Prop} {E : Value → Shared → Prop} {I l a : Addr} {items : Array Value} {co : X → Obj} {gU : Addr → Obj → X → List (Addr × Obj) → Obj → List (Addr × Obj)}
    (hh : c.A.handled = none) (hadr : ∀ x, (led x).map (·.1) = adr) (hIL : I ≠ c.env.locals) (hI0 : c.h₀.get? I = none) (hIa : ∀ a ∈ adr, a ≠ I) (hl : c.h₀.IsList l items)
    (hst : ∀ i h h' x, Φ i h x → (∀ b o, b ≠ I → h.get? b = some o → h'.get? b = some o) → Φ i h' x) (hi : c.h.IsListIter I l 0) (hx : Cel c.env x a)
    (x0 : X) (S : c.Ok) (ht : Told c.m (told x0)) (hn : ∀ q ∈ led x0, q ∈ c.news) (hΦ : Φ 0 c.h x0)
    (hU : ∀ oI y fz, (∀ q ∈ fz, (∀ a ∈ adr, q.1 ≠ a) ∧ q.1 ≠ I) → UpdF a (co y) ((I, oI) :: (led y ++ fz)) (gU I oI y fz)) (hco : ∀ i h y, Φ i h y → ∃ v, (co y).data = .cell v)
    (step : ∀ i v oI y h h' oX m fz Q' E', items[i]? = some v → (∀ q ∈ fz, (∀ a ∈ adr, q.1 ≠ a) ∧ q.1 ≠ I) → (∀ b o, h.get? b = some o → b ≠ c.env.locals → c.h₀.get? b = none → (∀ a ∈ adr, a ≠ b) → I ≠ b → (b, o) ∈ fz) → Φ i h y → oX.data = .cell (some v) →
      (∀ s₃, LEnd c.h₀ (c.at 0) c.env.locals told led Φ i adr [(I, oI)] fz h s₃ → Q' .next s₃ ∧ Q' .cont s₃) → let c' : Ctx := { c with h := h', m := ovr (told y) m, news := gU I oI y fz oX }; c'.Ok → Run c' body Q' E')
    (hR : ∀ y h m, Φ items.size h y → let c' : Ctx := { c with h := h, m := ovr (told y) m, news := led y }; c'.Ok → Run c' rest Q E) : Loop c (.forLoop (.Name x px) (.ref I) body [] c.env) (c.bh rest Q E) := ⟨fun tk => by
  refine for_listJ (s := c.at 0) (told := told) (led := led) (Φ := Φ) hh (fun _ => rfl) hadr hIL hI0 hIa hl hst hi ⟨x0, _, _, _, rfl, S.f, ht, fun q hq => S.n q (hn q hq), hΦ⟩ ?_ ?_
  · intro i v oI y h tk m fz hv hc F N hfz hal hp
    have hfz' : ∀ q ∈ fz, (∀ a ∈ adr, q.1 ≠ a) ∧ q.1 ≠ I := fun q hq => ⟨(hfz q hq).1, (hfz q hq).2 _ (.head _)⟩
    refine wpAny_assign_Name ?_
    obtain ⟨v₀, hv₀⟩ := hco i h y hp
    obtain ⟨own, rst, eg, hg, h1, h2⟩ := (hU oI y fz hfz').split
    have hmem := N (a, co y) (by rw [eg]; exact List.mem_append_right _ (.head _))
    refine wpAny_storeName_cell (s := ⟨h, c.gs, c.dr, tk, c.os⟩) hx.k hx.n hx.l ⟨_, hmem.1, hv₀⟩ fun h' hv' hs => ?_
    obtain ⟨o', ho', hd'⟩ := hv'
    have F' : Fr c.h₀ c.env.locals h' (ovr (told y) m) := ⟨F.ns.sameBut hs (Ne.symm hmem.2.1), fun b ob e => (hs.2 b (fun q => by rw [q, hmem.2.2] at e; cases e)).trans (F.keep b ob e), F.above⟩
    have N' : News c.h₀ c.env.locals h' (gU I oI y fz o') := by
      rw [hg]
      rw [eg] at N
      exact N.setAt h1 h2 hs ho'
    exact (step i v oI y h h' o' m fz _ _ hv hfz' (fun b o a1 a2 a3 a4 a5 => hal b o a1 a2 a3 a4 (List.forall_mem_singleton.mpr a5)) hp hd' (fun s₃ z => ⟨⟨.inl rfl, z⟩, ⟨.inr rfl, z⟩⟩) ⟨F', N'⟩).go _
  · rintro s' ⟨y, h, tk, m, rfl, F, hm, N, hp⟩
    rw [← ovr_eq hm] at F
    exact (hR y h m hp ⟨F, N⟩).go tk⟩
inductive LayJ (D : Addr) (P : Shared → Prop) : Value → Ctx → Prop
  | mk {v c1 vs n news'} (S : c1.Ok) (U : Upd D (PySem.W.listOf (List.toArray vs) n) (PySem.W.listOf (vs ++ [v]).toArray (n + 1)) c1.news news') (hsz : vs.length < 1000000) (k : ∀ h' tk, let c2 := c1.led h' news'; c2.Ok → P (c2.at tk)) : LayJ D P v c1
theorem Loop.compJ {X : Type} {c : Ctx} {told : X → List (Str × Value)} {led : X → List (Addr × Obj)} {Φ : Nat → Heap → X → Prop} {adr : List Addr} {x : Str} {px pos : Pos} {elt iter test : PySem.Expr} {sc : Scope} {R : Result → Shared → Prop} {I l D : Addr} {items : Array Value}
    (hh : c.A.handled = none) (hadr : ∀ x, (led x).map (·.1) = adr) (hIL : I ≠ c.env.locals) (hI0 : c.h₀.get? I = none) (hIa : ∀ a ∈ adr, a ≠ I) (hl : c.h₀.IsList l items)
    (hst : ∀ i h h' x, Φ i h x → (∀ b o, b ≠ I → h.get? b = some o → h'.get? b = some o) → Φ i h' x) (hi : c.h.IsListIter I l 0) (hx : isLoc c.env x = true)
    (x0 : X) (S : c.Ok) (ht : Told c.m (told x0)) (hn : ∀ q ∈ led x0, q ∈ c.news) (hΦ : Φ 0 c.h x0)
    (step : ∀ i v oI y h h' m fz (P : Shared → Prop), items[i]? = some v → (∀ q ∈ fz, (∀ a ∈ adr, q.1 ≠ a) ∧ q.1 ≠ I) → Φ i h y → (∀ s₃, LEnd c.h₀ (c.at 0) c.env.locals told led Φ i adr [(I, oI)] fz h s₃ → P s₃) →
      let c' : Ctx := { c with h := h', m := upd x v (ovr (told y) m), news := (I, oI) :: (led y ++ fz) }; c'.Ok → ∃ b, BE c' test b ∧ (b = true → EV c' elt (LayJ D P)) ∧ (b = false → ∀ tk, P (c'.at tk)))
    (hR : ∀ y h m, Φ items.size h y → let c' : Ctx := { c with h := h, m := ovr (told y) m, news := led y }; c'.Ok → ∀ tk, R (.ok .next) (c'.at tk)) :
    Loop c (.compLoop (.ListComp elt [⟨.Name x px, iter, [test], 0⟩] sc pos) 0 (.ref I) (.ref D) c.env) R := ⟨fun tk => by
  obtain ⟨h1, h2, h3⟩ := isLoc_of hx
  refine comp_listJ (s := c.at 0) (told := told) (led := led) (Φ := Φ) hh hadr hIL hI0 hIa hl hst hi ⟨x0, _, _, _, rfl, S.f, ht, fun q hq => S.n q (hn q hq), hΦ⟩ ?_ ?_
  · intro i v oI y h tk m fz hv hc F N hfz hal hp
    refine wpAny_assign_Name ?_
    refine wpAny_storeName_local h2 (s := ⟨h, c.gs, c.dr, tk, c.os⟩) F.ns (fun h'' hn hs => ?_) (by rw [h1]; rfl)
    obtain ⟨b, B, k1, k2⟩ := step i v oI y h h'' m fz (fun s₃ => LEnd c.h₀ (c.at 0) c.env.locals told led Φ i adr [(I, oI)] fz h s₃) hv (fun q hq => ⟨(hfz q hq).1, (hfz q hq).2 _ (.head _)⟩) hp (fun _ z => z) ⟨F.set hn hs, N.set hs⟩
    refine wpAny_bind (wpAny_bind (B.go _ _ _ fun k => wpAny_pure (wpAny_pure ?_)))
    cases b with
    | false =>
      rw [if_neg (by decide)]
      exact k2 rfl k
    | true =>
      rw [if_pos rfl]
      refine (k1 rfl).go _ _ _ fun r c1 k hs1 q => ?_
      obtain ⟨S1, U1, hsz, k3⟩ := q
      exact appV (s := c1.at k) S1.f S1.n U1 hsz fun h3 F3 N3 => k3 h3 k ⟨F3, N3⟩
  · rintro s' ⟨y, h, tk, m, rfl, F, hm, N, hp⟩
    rw [← ovr_eq hm] at F
    exact hR y h m hp ⟨F, N⟩ tk⟩
end
section
variable {c : Ctx} {x : Str} {pos px : Pos} {a b : PySem.Expr} {st : Stmt} {rest : List Stmt} {Q : Flow → Shared → Prop} {E : Value → Shared → Prop}
theorem Run.cut (P : Ctx → Prop) (h1 : ∀ Q1 : Flow → Shared → Prop, (∀ c1 tk, P c1 → c1.stat = c.stat → Q1 .next (c1.at tk)) → Run c [st] Q1 E) (h2 : ∀ c1, P c1 → Run c1 rest Q E) : Run c (st :: rest) Q E := ⟨fun tk => by
  have z := (h1 (fun f s => match f with | .next => wpAny (model prg c.w) c.A (execs rest c.env) Q E s | f => Q f s) fun c1 tk p hs => Run.at hs (h2 c1 p) tk).go tk
  rw [show st :: rest = [st] ++ rest from rfl, execs_app]
  refine wpAny_bind (wpAny_mono z (fun f s h => ?_) fun _ _ h => h)
  cases f with
  | next => exact h
  | _ => exact wpAny_pure h⟩
theorem PE.itemN {l : Addr} {items : Array Value} {n : Nat} {i j : Int} {t : Tok} (S : c.Ok) (P : PE c a (fun _ => .ref l)) (R : PE c b (.int i)) (hm : (l, PySem.W.listOf items n) ∈ c.news) (h0 : 0 ≤ i) (hf : i < 2 ^ 63) (hx : items.toList[i.toNat]? = some (.int j t))
    (hs : ∀ u, subscripted b false (.ref l) (.int i u) = operate [.ref l, .int i u] (getItem (.ref l) (.int i u))) (hg : ∀ r, letTemporaryGo a (.ref l) r = pure ()) : PE c (.Subscript a b pos) (.int j) :=
  ⟨fun _ _ _ k => Subscript_ (P.go _ _ _ fun _ _ => R.go _ _ _ fun _ k1 => kim_list (s := c.at k1) S.n hm rfl rfl h0 hf hx (k _ _) (hs _) hg)⟩
end
section
variable {c : Ctx} {pos : Pos} {e : PySem.Expr} {rest : List Stmt} {Q : Flow → Shared → Prop} {E : Value → Shared → Prop}
inductive RetK (Q : Flow → Shared → Prop) : Value → Ctx → Prop
  | mk {v c1} (k : ∀ tk, Q (.ret v) (c1.at tk)) : RetK Q v c1
theorem Run.retV (p : EV c e (RetK Q)) : Run c (.Return (some e) pos :: rest) Q E := ⟨fun tk => wpAny_execs_cons (wpAny_Return_some (p.go _ _ _ fun v c1 k1 _ q => let ⟨k⟩ := q; k k1))⟩
end
end
section
variable {w : World} {s : Shared} {p : Program} {loose : List Str} {mean : ExcName → Option Value} {mg mb : Str → Option Value} {R : Result → Shared → Prop}
theorem u8b (v : Nat) : (b64n v).toUInt8.toNat = b64n v := u8_nat (b64n_lt v)
section
variable {c : Ctx} {x : Str} {pos px pa pn pk : Pos} {elt target iter a e : PySem.Expr} {ifs : List PySem.Expr} {rest : List Comprehension} {sc : Scope} {cl : List (Str × Addr)} {QV : Value → Ctx → Prop} {R : Result → Shared → Prop} {D I : Addr} {b : Array UInt8} {tb : Tok} {o : Obj} {i : Nat} {ch : UInt8}
inductive CompKB (elt target iter : PySem.Expr) (ifs : List PySem.Expr) (rest : List Comprehension) (sc : Scope) (cl : List (Str × Addr)) (pos : Pos) (QV : Value → Ctx → Prop) : Value → Ctx → Prop
  | mk {b tb c1} (S : c1.Ok) (G : Gl c1.w c1.h₀)
      (k : ∀ g I D C h₄ o R, @LT.lt Nat _ I D → o.cls = .type "bytes_iterator" → o.data = .fields #[.bytes b tb, .int (0 : Nat) 0] →
        (∀ (cE : Ctx) tk its n, cE.h₀ = g → cE.env.locals = C → cE.gs = c1.gs → cE.dr = c1.dr → cE.os = c1.os → cE.Ok → (D, PySem.W.listOf its n) ∈ cE.news →
          (∀ h'', let c2 : Ctx := c1.led h'' ((D, PySem.W.listOf its n) :: c1.news); c2.Ok → QV (.ref D) c2) → R (.ok .next) (cE.at tk)) →
        let cB : Ctx := ⟨c1.w, c1.A, compEnvC sc cl C c1.env, g, h₄, fun _ => none, [(D, PySem.W.listOf #[] 0), (I, o)], c1.gs, c1.dr, c1.os⟩; cB.Ok → Gl cB.w cB.h₀ →
        Loop cB (.compLoop (.ListComp elt (⟨target, iter, ifs, 0⟩ :: rest) sc pos) 0 (.ref I) (.ref D) cB.env) R) : CompKB elt target iter ifs rest sc cl pos QV (.bytes b tb) c1
theorem EV.compB (hclos : closureFor sc c.env = pure cl) (hok : compOk sc = true) (hs : ∀ x, foldedSetIterable iter c.env x = pure x) (p : EV c iter (CompKB elt target iter ifs rest sc cl pos QV)) :
    EV c (.ListComp elt (⟨target, iter, ifs, 0⟩ :: rest) sc pos) QV := ⟨fun Q' E tk K => by
  obtain ⟨h1, h2, h3⟩ := compOk_of hok
  refine m_ListComp hclos h1 h2 h3 hs (p.go _ _ _ fun v c1 k1 hs1 q => ?_)
  obtain ⟨S, ⟨X, _, _, _, _, _, T⟩, k⟩ := q
  obtain ⟨e1, e2, e3⟩ := stat_of hs1
  rw [← e1, ← e2, ← e3]
  refine iterB_comp (s := c1.at k1) S.f X S.n T fun g I D C h₄ o st l1 l2 F4 N4 X4 T4 hc hd => ?_
  refine (k g I D C h₄ o _ l1 hc hd (fun cE tk its n hg hC hgs hdr hos SE hm kk => ?_) ⟨F4, N4⟩ ⟨X4, _, _, _, _, _, T4⟩).go k1
  subst hg hC
  refine CompEnd.intro SE.f SE.n hm fun h'' F'' N'' _ => ?_
  have z := K (.ref D) (c1.led h'' ((D, PySem.W.listOf its n) :: c1.news)) tk hs1 (kk h'' ⟨F'', N''⟩)
  unfold Ctx.at at z ⊢
  dsimp only at z ⊢
  rw [hgs, hdr, hos]
  exact z⟩
theorem Loop.compTurnB {env : Env} {g : Obj → List (Addr × Obj)} (he : env = c.env) (S : c.Ok) (U : UpdF I o c.news g) (hc : o.cls = .type "bytes_iterator") (hd : o.data = .fields #[.bytes b tb, .int i 0]) (hx : b.toList[i]? = some ch) (hloc : isLoc c.env x = true)
    (k : ∀ h' o' t, o'.cls = .type "bytes_iterator" → o'.data = .fields #[.bytes b tb, .int (i + 1 : Nat) 0] → let c' := (c.led c.h (g o')).put h' x (.int (ch.toNat : Int) t); c'.Ok → EV c' elt (LayK D (.compLoop (.ListComp elt [⟨.Name x px, iter, [], 0⟩] sc pos) 0 (.ref I) (.ref D) env) R)) :
    Loop c (.compLoop (.ListComp elt [⟨.Name x px, iter, [], 0⟩] sc pos) 0 (.ref I) (.ref D) env) R := ⟨fun tk => by
  subst he
  obtain ⟨h1, h2, h3⟩ := isLoc_of hloc
  refine comp_step (nextB (s := c.at tk) S.f S.n U hc hd hx fun h' o' F' N' hc' hd' => ?_)
  refine wpAny_of_eq rfl (wpAny_assign_Name ?_)
  refine wpAny_storeName_local h2 (s := { c.at tk with heap := h', toks := _ }) F'.ns (fun h'' hn hs => ?_) (by rw [h1]; rfl)
  refine (k h'' o' _ hc' hd' ⟨F'.set hn hs, N'.set hs⟩).go _ _ _ fun r c1 k1 hs1 q => ?_
  obtain ⟨S1, U1, hsz, k2⟩ := q
  obtain ⟨e1, e2, e3⟩ := stat_of hs1
  refine appV (s := c1.at k1) S1.f S1.n U1 hsz fun h3 F3 N3 => ?_
  have z := (k2 h3 ⟨F3, N3⟩).go k1
  unfold Ctx.M at z
  rw [show (c1.led h3 _).w = c.w from e1, show (c1.led h3 _).A = c.A from e2] at z
  exact z⟩
theorem Loop.compDoneB {env : Env} {news' : List (Addr × Obj)} (S : c.Ok) (hh : c.A.handled = none) (hm : (I, o) ∈ c.news) (Dr : DropI I c.news news') (hc : o.cls = .type "bytes_iterator") (hd : o.data = .fields #[.bytes b tb, .int i 0]) (hx : b[i]? = none)
    (k : ∀ h', let c' := c.led h' news'; c'.Ok → ∀ tk, R (.ok .next) (c'.at tk)) :
    Loop c (.compLoop (.ListComp elt [⟨target, iter, [], 0⟩] sc pos) 0 (.ref I) (.ref D) env) R :=
  ⟨fun tk => comp_step (nextB_end (s := c.at tk) hh S.f S.n hm Dr hc hd hx fun h' F' N' => k h' ⟨F', N'⟩ tk)⟩
theorem PE.chr {y : UInt8} (S : c.Ok) (G : Gl c.w c.h₀) (gf : isGlo c.env (Str.ofString "chr") = true) (g : nsIn (hdK c.w.params) mainGlobals (Str.ofString "chr") = some none) (P : PE c a (.int (y.toNat : Int))) (hst : starEach [a] c.env = (false, eval a c.env) :: starEach [] c.env)
    (he : eval (.Call (.Name (Str.ofString "chr") pn) [a] [] pa) c.env = (do callWith pa (← eval (.Name (Str.ofString "chr") pn) c.env) [] (backTo pa (starEach [a] c.env)) (backToKw pa (keywordEach [] c.env)))) :
    PE c (.Call (.Name (Str.ofString "chr") pn) [a] [] pa) (.str ⟨#[y.toNat]⟩) :=
  ⟨fun _ _ _ k => Call_ ((PE.bltG S G gf g (by boot_fast) (by decide)).go _ _ _ fun _ _ => PyProof.Rows.callWith_builtin1 (args_cons (P.go _ _ _ fun _ k' => args_nil (chr_u8 (s := c.at k') (k _ _))) hst) hst) he⟩
inductive JoinK (QV : Value → Ctx → Prop) : Value → Ctx → Prop
  | mk {D its n a b d e ta tb td te c1} (S : c1.Ok) (hm : (D, PySem.W.listOf its n) ∈ c1.news) (h : its.toList = [.str ⟨#[a]⟩ ta, .str ⟨#[b]⟩ tb, .str ⟨#[d]⟩ td, .str ⟨#[e]⟩ te]) (k : ∀ t, QV (.str ⟨#[a, b, d, e]⟩ t) c1) : JoinK QV (.ref D) c1
theorem EV.join {pl : Sem Bool} {kd : Nat} (hst : starEach [e] c.env = (false, eval e c.env) :: starEach [] c.env)
    (he : eval (.Call (.Attribute (.Constant (.str (Str.ofString "")) kd pk) (Str.ofString "join") pa) [e] [] pn) c.env = (do
      let ov ← eval (.Constant (.str (Str.ofString "")) kd pk) c.env
      standAt pa.atName
      let (f, first) ← holding [ov] (getMethod ov (Str.ofString "join") pl)
      callWith pn f first (backTo pn (starEach [e] c.env)) (backToKw pn (keywordEach [] c.env))))
    (p : EV c e (JoinK QV)) : EV c (.Call (.Attribute (.Constant (.str (Str.ofString "")) kd pk) (Str.ofString "join") pa) [e] [] pn) QV := ⟨fun Q' E tk K => by
  refine methodCall_KW (PE.str.go _ _ _ fun t k1 => ?_) he
  refine GM.join ?_
  refine callWith_method1 (args_cons (p.go _ _ _ fun v c1 k2 hs1 q => args_nil ?_) hst) hst
  obtain ⟨S, hm, h, k⟩ := q
  obtain ⟨e1, e2, e3⟩ := stat_of hs1
  have z := join4 (w := c1.w) (A := c1.A) (s := c1.at k2) (t := t) (Q := Q') (E := E) S.n hm h (K _ c1 (k2 + 1) hs1 (k _))
  rw [e1, e2] at z
  exact z⟩
end
theorem g_chr : nsIn (hdK w.params) mainGlobals (Str.ofString "chr") = some none := by k_is
theorem g_enc : GFn w (Str.ofString "b64encode") 101 := ⟨by k_is, by k_is⟩
theorem K_enc {b e : Array UInt8} {t : Tok} (hb : IsRow b) (he : encB b = e) : Con 880 8800 w 101 [.bytes b t] [] (.bytes e) := ⟨fun s R G k => let ⟨X, _, _, _, _, _, T⟩ := G; c_encodeR hb he X T k⟩
theorem c_text4 {b : Array UInt8} {e0 e1 e2 e3 : UInt8} {t : Tok} (hb : IsRow b) (he : encB b = #[e0, e1, e2, e3]) (X : (hdK w.params).In s.heap) (T : Top p loose mean mg mb s.heap)
    (hR : ∀ v s', Out1 s (fun t => .str ⟨#[e0.toNat, e1.toNat, e2.toNat, e3.toNat]⟩ t) v s' → s.heap.StaysIn s'.heap → R (.ok (.ret v)) s') :
    codeAny (model prg w) (AT 870 8700) (.call (.ref 142) ⟨[.bytes b t], []⟩) R s := by
  refine' enterX [(Str.ofString "octets", .bytes b t)] X T.nolimit ?ho ?hcd (by decide) ?hb ?hl ?_ ?c1 ?c2 ?c3 ?c4
  ((case ho => k_is); (case hcd => k_is); (case hb => first | exact BindsTo.of_eq rfl | exact binds_K (by assumption) rfl (by k_is) rfl rfl rfl); (case hl => exact locs rfl); (case c1 => rfl); (case c2 => rfl); (case c3 => rfl); (case c4 => decide))
  intro L h₁ c S
  have GG : Gl c.w c.h₀ := Gl.mk' X T
  refine Run.retV (EV.join rfl rfl (EV.compB rfl rfl (fun _ => rfl) (EV.callC S GG rfl g_enc rfl rfl rfl (EVs.cons rfl (EV.pe (PE.locV S rfl rfl) fun _ => EVs.nil ⟨⟨GG, S⟩, CallC.con S GG ⟨rfl, Nat.le_of_ble_eq_true rfl, Nat.le_of_ble_eq_true rfl⟩ (K_enc hb he) ?_⟩)))))
  intro h2 t2 c S
  refine CompKB.mk S GG fun g I D C h4 o R' hID hc hd hR5 => ?_
  have hDI : D ≠ I := Nat.ne_of_gt hID
  have hID' : I ≠ D := Nat.ne_of_lt hID
  intro cB S GB
  refine Loop.compTurnB (i := 0) rfl S (.tail hDI (.head fun _ h => nomatch h)) hc hd rfl rfl ?_
  (intro h' o' t' hc hd c S; refine EV.pe (PE.chr S GB rfl g_chr (PE.locI S rfl rfl) rfl rfl) fun _ => ?_; refine LayK.mk S (.head (List.forall_mem_singleton.mpr hID')) (Nat.le_of_ble_eq_true rfl) ?_; intro h' c S)
  refine Loop.compTurnB (i := 1) rfl S (.tail hDI (.head fun _ h => nomatch h)) hc hd rfl rfl ?_
  (intro h' o' t' hc hd c S; refine EV.pe (PE.chr S GB rfl g_chr (PE.locI S rfl rfl) rfl rfl) fun _ => ?_; refine LayK.mk S (.head (List.forall_mem_singleton.mpr hID')) (Nat.le_of_ble_eq_true rfl) ?_; intro h' c S)
  refine Loop.compTurnB (i := 2) rfl S (.tail hDI (.head fun _ h => nomatch h)) hc hd rfl rfl ?_
  (intro h' o' t' hc hd c S; refine EV.pe (PE.chr S GB rfl g_chr (PE.locI S rfl rfl) rfl rfl) fun _ => ?_; refine LayK.mk S (.head (List.forall_mem_singleton.mpr hID')) (Nat.le_of_ble_eq_true rfl) ?_; intro h' c S)
  refine Loop.compTurnB (i := 3) rfl S (.tail hDI (.head fun _ h => nomatch h)) hc hd rfl rfl ?_
  (intro h' o' t' hc hd c S; refine EV.pe (PE.chr S GB rfl g_chr (PE.locI S rfl rfl) rfl rfl) fun _ => ?_; refine LayK.mk S (.head (List.forall_mem_singleton.mpr hID')) (Nat.le_of_ble_eq_true rfl) ?_; intro h' c S)
  refine Loop.compDoneB (i := 4) S rfl (.tail _ (.head _)) (.tail hDI (.head fun _ h => nomatch h)) hc hd rfl ?_
  intro h9 cE S tk
  refine hR5 cE tk _ _ rfl rfl rfl rfl rfl S (.head _) fun h10 => ?_
  intro c S
  exact JoinK.mk S (.head _) rfl fun t => RetK.mk fun tk => hR _ _ ⟨_, _, _, rfl, rfl⟩ S.f.keep
theorem c_text {b : Array UInt8} {t : Tok} (hb : IsRow b) (X : (hdK w.params).In s.heap) (T : Top p loose mean mg mb s.heap)
    (hR : ∀ v s', Out1 s (fun t => .str (txt b) t) v s' → s.heap.StaysIn s'.heap → R (.ok (.ret v)) s') :
    codeAny (model prg w) (AT 870 8700) (.call (.ref 142) ⟨[.bytes b t], []⟩) R s := by
  rcases hb with ⟨x, y, rfl⟩ | ⟨x, y, z, rfl⟩
  · refine c_text4 (.inl ⟨x, y, rfl⟩) rfl X T fun v s' q => hR v s' ?_
    rw [u8b, u8b, u8b] at q
    exact q
  · refine c_text4 (.inr ⟨x, y, z, rfl⟩) rfl X T fun v s' q => hR v s' ?_
    rw [u8b, u8b, u8b, u8b] at q
    exact q
end
section
theorem reset34 : True := by
  w_top off
  trivial
variable {w : World} {s : Shared} {p : Program} {loose : List Str} {mean : ExcName → Option Value} {mg mb : Str → Option Value} {R : Result → Shared → Prop}
noncomputable def dueAt (hs : List Nat) (x : Int) : List (Array UInt8) :=
  (if ∃ h ∈ hs, bitOf x h then [] else [rowOf x]) ++ (if 0 ∈ hs ∧ bitOf x 2 then [layOf 0 x] else []) ++ (if 1 ∈ hs ∧ bitOf x 3 then [layOf 1 x] else [])
noncomputable def dueUp (hs : List Nat) (xs : List Int) (i : Nat) : List (Array UInt8) := (xs.take i).flatMap (dueAt hs)
theorem dueUp_succ {hs : List Nat} {xs : List Int} {i : Nat} {x : Int} (h : xs[i]? = some x) : dueUp hs xs (i + 1) = dueUp hs xs i ++ dueAt hs x := by
  unfold dueUp
  rw [List.take_add_one, h, List.flatMap_append]
  simp
noncomputable abbrev DX := (List Value × Nat) × Obj
noncomputable def duLed (G c : Nat) (x : DX) : List (Addr × Obj) := [(G, W.listOf x.1.1.toArray x.1.2), (c, x.2)]
structure duPhi (hs : List Nat) (xs : List Int) (i : Nat) (x : DX) : Prop where
  rows : FlatB x.1.1 (dueUp hs xs i)
  few : x.1.1.length ≤ 3 * i
  cell : ∃ v, x.2.data = .cell v
noncomputable abbrev FlatI := Flat Value.int
noncomputable def cmPhi (hs : List Nat) (x : Int) (i : Nat) (y : List Value × Nat) : Prop := ∃ ns, FlatI y.1 ns ∧ y.1.length ≤ i ∧ (ns = [] ↔ ∀ h ∈ hs.take i, ¬ bitOf x h)
theorem flat_ints {vs : List Value} {ns : List Int} (x : FlatI vs ns) : IntsAre vs ns := by
  induction x with
  | nil => exact .nil
  | cons _ _ _ ih => exact .cons _ _ ih
theorem inH {A : Around} {E : Value → Shared → Prop} {h₀ : Heap} {L Hd : Addr} {m : Str → Option Value} {itemsH : Array Value} {hs : List Nat} {k : Int} {kn : Nat} {t : Tok} {Q : Value → Shared → Prop} (F : Fr h₀ L s.heap m) (hl : h₀.IsList Hd itemsH) (hhs : IntsAt itemsH (hs.map Int.ofNat)) (hk : k = (kn : Int))
    (h : Q (.bool (decide (kn ∈ hs))) s) : wpAny (model prg w) A (compareOp .In (.int k t) (.ref Hd)) Q E s := by
  subst hk
  have sz : itemsH.size = hs.length := by rw [hhs.size]; simp
  have at' : ∀ i (hi : i < hs.length), ∃ u, itemsH[i]? = some (Value.int (hs[i] : Nat) u) := fun i hi => hhs.get i _ (by simp [hi])
  refine SeqAt.in_listAt (isInt (kn : Int)) (let ⟨o, ho, r⟩ := hl; ⟨o, F.keep _ _ ho, r⟩) (fun y hy => ?_) ?_
  · obtain ⟨i, hi, rfl⟩ := Array.getElem_of_mem hy
    obtain ⟨u, hu⟩ := at' i (by omega)
    have e : itemsH[i] = Value.int (hs[i]'(by omega) : Nat) u := by
      have := Array.getElem?_eq_getElem hi
      rw [hu] at this
      exact (Option.some.inj this).symm
    rw [e]
    exact (MeetsSeq.EqGives.int _ _ _ _).at _ _
  · have e : itemsH.any (isInt (kn : Int)) = decide (kn ∈ hs) := by
      rw [Bool.eq_iff_iff, Array.any_eq_true, decide_eq_true_eq]
      constructor
      · rintro ⟨i, hi, he⟩
        obtain ⟨u, hu⟩ := at' i (by omega)
        have e : itemsH[i] = Value.int (hs[i]'(by omega) : Nat) u := by
          have := Array.getElem?_eq_getElem hi
          rw [hu] at this
          exact (Option.some.inj this).symm
        rw [e] at he
        have e2 : ((hs[i]'(by omega) : Nat) : Int) = (kn : Int) := by simpa [isInt] using he
        have e3 : hs[i]'(by omega) = kn := by omega
        rw [← e3]
        exact List.getElem_mem _
      · intro hm
        obtain ⟨i, hi, he⟩ := List.getElem_of_mem hm
        obtain ⟨u, hu⟩ := at' i hi
        refine ⟨i, by omega, ?_⟩
        have e : itemsH[i]'(by omega) = Value.int (hs[i] : Nat) u := by
          have := Array.getElem?_eq_getElem (xs := itemsH) (i := i) (by omega)
          rw [hu] at this
          exact (Option.some.inj this).symm
        rw [e, he]
        simp [isInt]
    rw [e]
    exact h
theorem dueA_new {hs : List Nat} {x : Int} (h : ∀ h ∈ hs, ¬ bitOf x h) : [rowOf x] = if ∃ h ∈ hs, bitOf x h then [] else [rowOf x] := by
  rw [if_neg]
  rintro ⟨a, ha, hb⟩
  exact h a ha hb
theorem dueA_old {hs : List Nat} {x : Int} (h : ¬ ∀ h ∈ hs, ¬ bitOf x h) : [] = if ∃ h ∈ hs, bitOf x h then [] else [rowOf x] := by
  rw [if_pos]
  false_or_by_contra
  rename_i hn
  exact h fun a ha hb => hn ⟨a, ha, hb⟩
noncomputable def dueA (hs : List Nat) (x : Int) : List (Array UInt8) := if ∃ h ∈ hs, bitOf x h then [] else [rowOf x]
noncomputable def dueB (hs : List Nat) (x : Int) : List (Array UInt8) := if 0 ∈ hs ∧ bitOf x 2 then [layOf 0 x] else []
noncomputable def dueC (hs : List Nat) (x : Int) : List (Array UInt8) := if 1 ∈ hs ∧ bitOf x 3 then [layOf 1 x] else []
structure duAcc (a : List (Array UInt8)) (k : Nat) (vs : List Value) : Prop where
  rows : FlatB vs a
  few : vs.length ≤ k
theorem news_sub {g h : Heap} {L : Addr} {l l' : List (Addr × Obj)} (N : News g L h l') (e : ∀ q ∈ l, q ∈ l') : News g L h l := fun q hq => N q (e q hq)
theorem and_dec2 {p q : Prop} [Decidable p] [Decidable q] (h : p ∧ q) : (decide p && decide q) = true := by rw [decide_eq_true h.1, decide_eq_true h.2]; rfl
theorem and_ndec2 {p q : Prop} [Decidable p] [Decidable q] (h : ¬ (p ∧ q)) : (decide p && decide q) = false := by
  rw [Bool.and_eq_false_iff]
  by_cases hp : p
  · exact .inr (decide_eq_false fun hq => h ⟨hp, hq⟩)
  · exact .inl (decide_eq_false hp)
structure duMid (c : Ctx) (R0 : Addr) (ro : Obj) (I : Addr) (oI : Obj) (G cA : Addr) (oX : Obj) (fz : List (Addr × Obj)) (P : List Value → Prop) (c1 : Ctx) : Prop where
  at' : ∃ h vs n, c1 = { c with h := h, news := (R0, ro) :: (I, oI) :: (G, W.listOf vs.toArray n) :: (cA, oX) :: fz } ∧ c1.Ok ∧ P vs
theorem duMid.of {c c1 : Ctx} {R0 : Addr} {ro : Obj} {I : Addr} {oI : Obj} {G cA : Addr} {oX : Obj} {fz : List (Addr × Obj)} {P : List Value → Prop} (vs : List Value) (n : Nat) (S : c1.Ok) (h1 : c1.h₀ = c.h₀) (h2 : c1.env = c.env) (h3 : c1.m = c.m) (hn : ∀ q ∈ (R0, ro) :: (I, oI) :: (G, W.listOf vs.toArray n) :: (cA, oX) :: fz, q ∈ c1.news) (p : P vs) :
    duMid c R0 ro I oI G cA oX fz P { c with h := c1.h, news := (R0, ro) :: (I, oI) :: (G, W.listOf vs.toArray n) :: (cA, oX) :: fz } :=
  ⟨c1.h, vs, n, rfl, ⟨by show Fr c.h₀ c.env.locals c1.h c.m; rw [← h1, ← h2, ← h3]; exact S.f, by show News c.h₀ c.env.locals c1.h _; rw [← h1, ← h2]; exact news_sub S.n hn⟩, p⟩
theorem Run.nilMid {c c1 : Ctx} {R0 : Addr} {ro : Obj} {I : Addr} {oI : Obj} {G cA : Addr} {oX : Obj} {fz : List (Addr × Obj)} {P : List Value → Prop} {Q1 : Flow → Shared → Prop} {E : Value → Shared → Prop} (hQ1 : ∀ c1 tk, duMid c R0 ro I oI G cA oX fz P c1 → c1.stat = c.stat → Q1 .next (c1.at tk)) (vs : List Value) (n : Nat) (S : c1.Ok)
    (hs : c1.stat = c.stat) (hg : c1.gs = c.gs) (h1 : c1.h₀ = c.h₀) (h3 : c1.m = c.m) (hn : ∀ q ∈ (R0, ro) :: (I, oI) :: (G, W.listOf vs.toArray n) :: (cA, oX) :: fz, q ∈ c1.news) (p : P vs) : Run c1 [] Q1 E := Run.nil fun tk => by
  have z := hQ1 _ tk (duMid.of vs n S h1 (stat_of hs).2.2 h3 hn p) rfl
  unfold Ctx.stat at hs
  simp only [Prod.mk.injEq] at hs
  unfold Ctx.at at z ⊢
  rw [hg, hs.2.2.2.1, hs.2.2.2.2]
  exact z
theorem BE.inH {c : Ctx} {a b : PySem.Expr} {pos : Pos} {Hd : Addr} {itemsH : Array Value} {hs : List Nat} {k : Int} {kn : Nat} (S : c.Ok) (P : PE c a (.int k)) (R : PE c b (fun _ => .ref Hd)) (hl : c.h₀.IsList Hd itemsH) (hhs : IntsAt itemsH (hs.map Int.ofNat)) (hk : k = (kn : Int)) (hm : behindInMarks .In b = false) :
    BE c (.Compare a [.In] [b] pos) (decide (kn ∈ hs)) := ⟨fun _ _ _ K => wpAny_isTrue_Compare1 (P.go _ _ _ fun _ _ => R.go _ _ _ fun _ k1 => Mine.inH (s := c.at k1) S.f hl hhs hk (wpAny_truthy_bool (K _))) hm⟩
theorem int_at {items : Array Value} {xs : List Int} {i : Nat} {v : Value} (hxs : IntsAt items xs) (hv : items[i]? = some v) : ∃ x t, xs[i]? = some x ∧ v = .int x t := by
  have hlt : i < xs.length := by
    have : i < items.size := by
      by_cases hc : i < items.size
      · exact hc
      · have : items[i]? = none := by simp; omega
        rw [this] at hv; cases hv
    rw [← hxs.size]; exact this
  have hxi : xs[i]? = some xs[i] := by simp [hlt]
  obtain ⟨t, ht⟩ := hxs.get i _ hxi
  exact ⟨_, t, hxi, Option.some.inj (hv.symm.trans ht)⟩
theorem c_due {A Hd : Nat} {items itemsH : Array Value} {xs : List Int} {hs : List Nat} (X : (hdK w.params).In s.heap) (T : Top p loose mean mg mb s.heap) (hA : s.heap.IsList A items) (hxs : IntsAt items xs) (hsz : items.size < 1000)
    (hH : s.heap.IsList Hd itemsH) (hhs : IntsAt itemsH (hs.map Int.ofNat)) (hh2 : ∀ h ∈ hs, h < 2) (hlen : hs.length < 1000)
    (hR : ∀ D h tk vs n, s.heap.StaysIn h → h.get? D = some (W.listOf vs.toArray n) → s.heap.get? D = none → FlatB vs (dueUp hs xs xs.length) → R (.ok (.ret (.ref D))) { s with heap := h, toks := tk }) :
    codeAny (model prg w) (AT 860 8600) (.call (.ref 173) ⟨[.ref A, .ref Hd], []⟩) R s := by
  refine' enterC [(Str.ofString "numbers", .ref A), (Str.ofString "hands", .ref Hd)] X T.nolimit ?ho ?hcd (by decide) ?hb ?hl ?c4 ?_ ?c1 ?c2 ?c3
  ((case ho => k_is); (case hcd => k_is); (case hb => first | exact BindsTo.of_eq rfl | exact binds_K (by assumption) rfl (by k_is) rfl rfl rfl); (case hl => rfl); (case c1 => rfl); (case c2 => rfl); (case c3 => rfl); (case c4 => decide))
  intro L h₁ tk cells F N Y
  obtain ⟨oX, rfl, hoX⟩ := CellsAre.one (n := Str.ofString "x") (c := L + 1) Y
  replace hoX : oX.data = .cell none := hoX
  obtain ⟨m0, F⟩ := fr_told [(Str.ofString "numbers", Value.ref A), (Str.ofString "hands", Value.ref Hd)] F (told_cons rfl (told_cons rfl told_nil))
  clear Y
  have hHl : ∀ h' : Heap, s.heap.StaysIn h' → h'.IsList Hd itemsH := fun h' st => let ⟨o, ho, r⟩ := hH; ⟨o, st _ _ ho, r⟩
  have hxsz := hxs.size
  have hhsz : itemsH.size = hs.length := by rw [hhs.size]; simp
  change wpAny _ _ _ _ _ _
  k_fold
  refine Run.start rfl F N ?_
  intro c S
  have GG : Gl c.w c.h₀ := Gl.mk' X T
  refine Run.newL S rfl ?_
  intro G h2 h3 hlG c S
  have hcG : @LT.lt Nat _ (L + 1) G := hlG (L + 1, _) (.head _)
  refine Run.forL S rfl rfl hA fun I h4 hi hIL hI0 hIn => ?_
  have hGI : G ≠ I := (hIn _ _ (S.n _ (.head _)).1).1
  have hcI : (L + 1 : Nat) ≠ I := (hIn _ _ (S.n _ (.tail _ (.head _))).1).1
  have hGI2 := neN hGI
  have hcI2 := neN hcI
  intro c S
  refine Loop.listJC (X := DX) (a := L + 1) (co := fun x => x.2) (gU := fun I oI y fz oX => (I, oI) :: (G, W.listOf y.1.1.toArray y.1.2) :: (L + 1, oX) :: fz) (told := fun _ => [(Str.ofString "numbers", Value.ref A), (Str.ofString "hands", Value.ref Hd), (Str.ofString "rows", Value.ref G)]) (led := duLed G (L + 1)) (Φ := fun i _ x => duPhi hs xs i x) (adr := [G, L + 1]) rfl (fun _ => rfl) hIL hI0 (List.forall_mem_cons.mpr ⟨hGI, List.forall_mem_singleton.mpr hcI⟩) hA
    (fun i h h' x hp k => hp) hi ⟨rfl, rfl, rfl, rfl⟩ (([], 0), oX) S (told_cons rfl (told_cons rfl (told_cons rfl told_nil))) (by (repeat' (first | exact List.forall_mem_nil _ | (refine List.forall_mem_cons.mpr ⟨?_, ?_⟩) | (first | exact mem_ix 0 rfl | exact mem_ix 1 rfl | exact mem_ix 2 rfl | exact mem_ix 3 rfl | exact mem_ix 4 rfl | exact mem_ix 5 rfl | exact mem_ix 6 rfl | exact mem_ix 7 rfl | exact mem_ix 8 rfl | exact mem_ix 9 rfl | exact mem_ix 10 rfl | exact mem_ix 11 rfl | exact mem_ix 12 rfl | exact mem_ix 13 rfl | exact mem_ix 14 rfl | exact mem_ix 15 rfl)))) ⟨.nil, Nat.zero_le _, _, hoX⟩ ?hU (fun i h y hp => hp.cell) ?_ ?_
  case hU =>
    intro oI y fz hfz
    have z5 : ∀ q ∈ fz, q.1 ≠ L + 1 := fun q hq => (hfz q hq).1 (L + 1) (.tail _ (.head _))
    dsimp only [duLed, List.cons_append, List.nil_append]
    k_updF
  · rintro i v oI ⟨⟨vs, nv⟩, oC⟩ h h' oX2 m fz Q' E' hv hfz hal ⟨hp1, hp2, -⟩ dX hQ
    dsimp only at hp1 hp2
    intro c S
    obtain ⟨x, tx, hxi, rfl⟩ := int_at hxs hv
    have hilt : i < xs.length := (List.getElem?_eq_some_iff.mp hxi).1
    have z4 : ∀ q ∈ fz, q.1 ≠ G := fun q hq => (hfz q hq).1 G (.head _)
    have z5 : ∀ q ∈ fz, q.1 ≠ L + 1 := fun q hq => (hfz q hq).1 (L + 1) (.tail _ (.head _))
    refine Run.assignV rfl rfl (EV.list (EVs.ofPA (PA.cons (PE.mod (PE.fdiv (PE.cellI S ⟨rfl, rfl, rfl, rfl⟩ (by (first | exact mem_ix 0 rfl | exact mem_ix 1 rfl | exact mem_ix 2 rfl | exact mem_ix 3 rfl | exact mem_ix 4 rfl | exact mem_ix 5 rfl | exact mem_ix 6 rfl | exact mem_ix 7 rfl | exact mem_ix 8 rfl | exact mem_ix 9 rfl | exact mem_ix 10 rfl | exact mem_ix 11 rfl | exact mem_ix 12 rfl | exact mem_ix 13 rfl | exact mem_ix 14 rfl | exact mem_ix 15 rfl)) dX) PE.int (by decide +kernel)) PE.int (by decide)) (PA.cons (PE.mod (PE.fdiv (PE.cellI S ⟨rfl, rfl, rfl, rfl⟩ (by (first | exact mem_ix 0 rfl | exact mem_ix 1 rfl | exact mem_ix 2 rfl | exact mem_ix 3 rfl | exact mem_ix 4 rfl | exact mem_ix 5 rfl | exact mem_ix 6 rfl | exact mem_ix 7 rfl | exact mem_ix 8 rfl | exact mem_ix 9 rfl | exact mem_ix 10 rfl | exact mem_ix 11 rfl | exact mem_ix 12 rfl | exact mem_ix 13 rfl | exact mem_ix 14 rfl | exact mem_ix 15 rfl)) dX) PE.int (by decide +kernel)) PE.int (by decide)) PA.nil rfl) rfl) fun ts => ListK.mk S (Nat.le_of_ble_eq_true rfl) ?_))
    intro R0 h2 hlR c S
    have hRI : @LT.lt Nat _ I R0 := hlR (I, _) (by (first | exact mem_ix 0 rfl | exact mem_ix 1 rfl | exact mem_ix 2 rfl | exact mem_ix 3 rfl | exact mem_ix 4 rfl | exact mem_ix 5 rfl | exact mem_ix 6 rfl | exact mem_ix 7 rfl | exact mem_ix 8 rfl | exact mem_ix 9 rfl | exact mem_ix 10 rfl | exact mem_ix 11 rfl | exact mem_ix 12 rfl | exact mem_ix 13 rfl | exact mem_ix 14 rfl | exact mem_ix 15 rfl))
    have hRG : @LT.lt Nat _ G R0 := hlR (G, _) (by (first | exact mem_ix 0 rfl | exact mem_ix 1 rfl | exact mem_ix 2 rfl | exact mem_ix 3 rfl | exact mem_ix 4 rfl | exact mem_ix 5 rfl | exact mem_ix 6 rfl | exact mem_ix 7 rfl | exact mem_ix 8 rfl | exact mem_ix 9 rfl | exact mem_ix 10 rfl | exact mem_ix 11 rfl | exact mem_ix 12 rfl | exact mem_ix 13 rfl | exact mem_ix 14 rfl | exact mem_ix 15 rfl))
    have hRX : @LT.lt Nat _ (L + 1) R0 := hlR (L + 1, _) (by (first | exact mem_ix 0 rfl | exact mem_ix 1 rfl | exact mem_ix 2 rfl | exact mem_ix 3 rfl | exact mem_ix 4 rfl | exact mem_ix 5 rfl | exact mem_ix 6 rfl | exact mem_ix 7 rfl | exact mem_ix 8 rfl | exact mem_ix 9 rfl | exact mem_ix 10 rfl | exact mem_ix 11 rfl | exact mem_ix 12 rfl | exact mem_ix 13 rfl | exact mem_ix 14 rfl | exact mem_ix 15 rfl))
    refine StoreK.mk S ?_
    intro h3 c S
    refine Run.cut (duMid c R0 (W.listOf #[.int ((x.fdiv 16).fmod 256) (ts 0), .int ((x.fdiv 4096).fmod 256) (ts 1)] 0) I oI G (L + 1) oX2 fz (duAcc (dueUp hs xs i ++ dueA hs x) (3 * i + 1))) (fun Q1 hQ1 => ?_) ?_
    · refine Run.ifV (BV.cmp rfl (EV.comp rfl rfl (fun _ => rfl) (EV.pe (PE.locV S rfl rfl) fun _ => CompK.mk S (hHl _ S.f.keep) GG ?_)))
      intro g J D C h5 o R' st hnew hJD hDC hc5 hd5 hR5 cB S5 _
      have hDJ : D ≠ J := Nat.ne_of_gt hJD
      have hDJ2 := neN hDJ
      have hGD := ltN (Nat.lt_trans (hnew G _ (S.n _ (.tail _ (.tail _ (.head _)))).1) hJD)
      have hcell : g.IsCell (L + 1) (some (.int x tx)) := ⟨_, st _ _ (S.n _ (.tail _ (.tail _ (.tail _ (.head _))))).1, dX⟩
      refine Loop.compJ (X := FX) (told := fun _ => []) (led := flLed D) (Φ := fun i _ y => cmPhi hs x i y) (adr := [D]) rfl (fun _ => rfl) (S5.n _ (.tail _ (.head _))).2.1 (S5.n _ (.tail _ (.head _))).2.2 (List.forall_mem_singleton.mpr hDJ) (hHl g fun b o e => st _ _ (S.f.keep b o e))
        (fun i h h' x hp k => hp) ⟨o, (S5.n _ (.tail _ (.head _))).1, hc5, hd5⟩ rfl ([], 0) S5 told_nil (by (repeat' (first | exact List.forall_mem_nil _ | (refine List.forall_mem_cons.mpr ⟨?_, ?_⟩) | (first | exact mem_ix 0 rfl | exact mem_ix 1 rfl | exact mem_ix 2 rfl | exact mem_ix 3 rfl | exact mem_ix 4 rfl | exact mem_ix 5 rfl | exact mem_ix 6 rfl | exact mem_ix 7 rfl | exact mem_ix 8 rfl | exact mem_ix 9 rfl | exact mem_ix 10 rfl | exact mem_ix 11 rfl | exact mem_ix 12 rfl | exact mem_ix 13 rfl | exact mem_ix 14 rfl | exact mem_ix 15 rfl)))) ⟨[], .nil, Nat.le_refl _, by simp⟩ ?_ ?_
      · rintro j v oJ ⟨ws, nw⟩ h6 h7 m5 fy P hv5 hfy ⟨ns, c1, c2, c3⟩ hP
        dsimp only at c1 c2
        obtain ⟨hdi, th, hje0, rfl⟩ := int_at hhs hv5
        obtain ⟨hd, hje, rfl⟩ : ∃ hd, hs[j]? = some hd ∧ hdi = (hd : Int) := by
          rw [List.getElem?_map] at hje0
          obtain ⟨a, ha, e⟩ := Option.map_eq_some_iff.mp hje0
          exact ⟨a, ha, e.symm⟩
        have hh := hh2 hd (List.mem_of_getElem? hje)
        have hjl : j < hs.length := (List.getElem?_eq_some_iff.mp hje).1
        have y4 : ∀ q ∈ fy, q.1 ≠ D := fun q hq => (hfy q hq).1 D (.head _)
        intro c S
        refine ⟨_, BE.eq (PE.mod (PE.fdiv (PE.cellBI S ⟨rfl, rfl, rfl, rfl⟩ hcell) (PE.pow PE.int (PE.locI S rfl rfl) (by omega)) (p2ok' (by omega))) PE.int (by decide)) PE.int, fun hb => EV.pe (PE.locI S rfl rfl) fun t => ?_, fun hb tk => ?_⟩
        · refine' LayJ.mk (vs := ws) (n := nw) S ?U (by omega) ?_
          case U => k_upd
          intro h8 tk c S
          refine hP _ (LEnd.of (ws ++ [.int hd t], nw + 1) S rfl rfl rfl told_nil (by (repeat' (first | exact List.forall_mem_nil _ | (refine List.forall_mem_cons.mpr ⟨?_, ?_⟩) | (first | exact mem_ix 0 rfl | exact mem_ix 1 rfl | exact mem_ix 2 rfl | exact mem_ix 3 rfl | exact mem_ix 4 rfl | exact mem_ix 5 rfl | exact mem_ix 6 rfl | exact mem_ix 7 rfl | exact mem_ix 8 rfl | exact mem_ix 9 rfl | exact mem_ix 10 rfl | exact mem_ix 11 rfl | exact mem_ix 12 rfl | exact mem_ix 13 rfl | exact mem_ix 14 rfl | exact mem_ix 15 rfl)))) (by (repeat' (first | exact List.forall_mem_nil _ | (refine List.forall_mem_cons.mpr ⟨?_, ?_⟩) | (first | exact mem_ix 0 rfl | exact mem_ix 1 rfl | exact mem_ix 2 rfl | exact mem_ix 3 rfl | exact mem_ix 4 rfl | exact mem_ix 5 rfl | exact mem_ix 6 rfl | exact mem_ix 7 rfl | exact mem_ix 8 rfl | exact mem_ix 9 rfl | exact mem_ix 10 rfl | exact mem_ix 11 rfl | exact mem_ix 12 rfl | exact mem_ix 13 rfl | exact mem_ix 14 rfl | exact mem_ix 15 rfl)))) (by (first | exact tail_of 1 rfl | exact tail_of 2 rfl | exact tail_of 3 rfl | exact tail_of 4 rfl | exact tail_of 5 rfl | exact tail_of 6 rfl | exact tail_of 7 rfl | exact tail_of 8 rfl | exact tail_of 9 rfl | exact tail_of 10 rfl | exact tail_of 11 rfl | exact tail_of 12 rfl | exact tail_of 13 rfl | exact tail_of 14 rfl | exact tail_of 15 rfl)) fun kp => ⟨ns ++ [(hd : Int)], c1.append (.one _ _), by simp only [List.length_append, List.length_cons, List.length_nil]; omega, ?_⟩)
          rw [List.take_add_one, hje]
          refine ⟨fun e => absurd e (by simp), fun e => absurd ?_ (e hd (by simp))⟩
          exact hb
        · refine hP _ (LEnd.of (ws, nw) S rfl rfl rfl told_nil (by (repeat' (first | exact List.forall_mem_nil _ | (refine List.forall_mem_cons.mpr ⟨?_, ?_⟩) | (first | exact mem_ix 0 rfl | exact mem_ix 1 rfl | exact mem_ix 2 rfl | exact mem_ix 3 rfl | exact mem_ix 4 rfl | exact mem_ix 5 rfl | exact mem_ix 6 rfl | exact mem_ix 7 rfl | exact mem_ix 8 rfl | exact mem_ix 9 rfl | exact mem_ix 10 rfl | exact mem_ix 11 rfl | exact mem_ix 12 rfl | exact mem_ix 13 rfl | exact mem_ix 14 rfl | exact mem_ix 15 rfl)))) (by (repeat' (first | exact List.forall_mem_nil _ | (refine List.forall_mem_cons.mpr ⟨?_, ?_⟩) | (first | exact mem_ix 0 rfl | exact mem_ix 1 rfl | exact mem_ix 2 rfl | exact mem_ix 3 rfl | exact mem_ix 4 rfl | exact mem_ix 5 rfl | exact mem_ix 6 rfl | exact mem_ix 7 rfl | exact mem_ix 8 rfl | exact mem_ix 9 rfl | exact mem_ix 10 rfl | exact mem_ix 11 rfl | exact mem_ix 12 rfl | exact mem_ix 13 rfl | exact mem_ix 14 rfl | exact mem_ix 15 rfl)))) (by (first | exact tail_of 1 rfl | exact tail_of 2 rfl | exact tail_of 3 rfl | exact tail_of 4 rfl | exact tail_of 5 rfl | exact tail_of 6 rfl | exact tail_of 7 rfl | exact tail_of 8 rfl | exact tail_of 9 rfl | exact tail_of 10 rfl | exact tail_of 11 rfl | exact tail_of 12 rfl | exact tail_of 13 rfl | exact tail_of 14 rfl | exact tail_of 15 rfl)) fun kp => ⟨ns, c1, Nat.le_succ_of_le c2, ?_⟩)
          rw [List.take_add_one, hje, c3]
          refine ⟨fun e h hm => ?_, fun e h hm => e h (List.mem_append_left _ hm)⟩
          rcases List.mem_append.mp hm with hm | hm
          · exact e h hm
          · have e2 : h = hd := by simpa using hm
            subst e2
            exact ne_true_of_eq_false hb
      · rintro ⟨ws, nw⟩ h6 m5 ⟨ns, c1, c2, c3⟩
        dsimp only at c1 c2
        rw [hhsz, List.take_length] at c3
        intro cE SE tk
        refine hR5 cE tk _ _ rfl rfl rfl rfl SE (.head _) fun h7 k7 => ?_
        intro c S
        refine CmpL.mk (EV.list (EVs.ofPA PA.nil fun ts => ListK.mk S (Nat.zero_le _) ?_))
        intro D2 h8 hl8 c S
        have hD2G : @LT.lt Nat _ G D2 := hl8 (G, _) (by (first | exact mem_ix 0 rfl | exact mem_ix 1 rfl | exact mem_ix 2 rfl | exact mem_ix 3 rfl | exact mem_ix 4 rfl | exact mem_ix 5 rfl | exact mem_ix 6 rfl | exact mem_ix 7 rfl | exact mem_ix 8 rfl | exact mem_ix 9 rfl | exact mem_ix 10 rfl | exact mem_ix 11 rfl | exact mem_ix 12 rfl | exact mem_ix 13 rfl | exact mem_ix 14 rfl | exact mem_ix 15 rfl))
        refine CmpK.mk (r := decide (ns = [])) (fun Q E k z => ke_eq_ints (s := c.at k) (News.isList S.n (.tail _ (.head _))) (News.isList S.n (.head _)) (flat_ints c1) .nil (by ke_room) z) ?_
        by_cases hns : ns = []
        · rw [decide_eq_true hns, if_pos rfl]
          dsimp only [List.cons_append, List.nil_append]
          refine Run.appendV S rfl rfl (by (first | exact mem_ix 0 rfl | exact mem_ix 1 rfl | exact mem_ix 2 rfl | exact mem_ix 3 rfl | exact mem_ix 4 rfl | exact mem_ix 5 rfl | exact mem_ix 6 rfl | exact mem_ix 7 rfl | exact mem_ix 8 rfl | exact mem_ix 9 rfl | exact mem_ix 10 rfl | exact mem_ix 11 rfl | exact mem_ix 12 rfl | exact mem_ix 13 rfl | exact mem_ix 14 rfl | exact mem_ix 15 rfl)) rfl rfl rfl rfl (EV.bytes S GG rfl g_bytes rfl rfl (EV.pe (PE.locV S rfl rfl) fun _ => BytesK.mk S (by (first | exact mem_ix 0 rfl | exact mem_ix 1 rfl | exact mem_ix 2 rfl | exact mem_ix 3 rfl | exact mem_ix 4 rfl | exact mem_ix 5 rfl | exact mem_ix 6 rfl | exact mem_ix 7 rfl | exact mem_ix 8 rfl | exact mem_ix 9 rfl | exact mem_ix 10 rfl | exact mem_ix 11 rfl | exact mem_ix 12 rfl | exact mem_ix 13 rfl | exact mem_ix 14 rfl | exact mem_ix 15 rfl)) (ints2 rfl) (in256_cons (fm256 _) (in256_cons (fm256 _) in256_nil)) (Nat.le_of_ble_eq_true rfl) ?_) rfl)
          intro h9 t9 c S
          refine' AppK.ofV (vs := vs) (n := nv) S (by omega) ?U1 ?_
          case U1 => k_upd
          intro h10 c S
          refine Run.nilMid hQ1 (vs ++ [_]) (nv + 1) S rfl rfl rfl rfl (by (repeat' (first | exact List.forall_mem_nil _ | (refine List.forall_mem_cons.mpr ⟨?_, ?_⟩) | (first | exact mem_ix 0 rfl | exact mem_ix 1 rfl | exact mem_ix 2 rfl | exact mem_ix 3 rfl | exact mem_ix 4 rfl | exact mem_ix 5 rfl | exact mem_ix 6 rfl | exact mem_ix 7 rfl | exact mem_ix 8 rfl | exact mem_ix 9 rfl | exact mem_ix 10 rfl | exact mem_ix 11 rfl | exact mem_ix 12 rfl | exact mem_ix 13 rfl | exact mem_ix 14 rfl | exact mem_ix 15 rfl) | (first | exact tail_of 1 rfl | exact tail_of 2 rfl | exact tail_of 3 rfl | exact tail_of 4 rfl | exact tail_of 5 rfl | exact tail_of 6 rfl | exact tail_of 7 rfl | exact tail_of 8 rfl | exact tail_of 9 rfl | exact tail_of 10 rfl | exact tail_of 11 rfl | exact tail_of 12 rfl | exact tail_of 13 rfl | exact tail_of 14 rfl | exact tail_of 15 rfl)))) ⟨?_, by simp only [List.length_append, List.length_cons, List.length_nil]; omega⟩
          refine hp1.append ?_
          show FlatB _ (if ∃ h ∈ hs, bitOf x h then [] else [rowOf x])
          rw [← dueA_new (c3.mp hns)]
          exact .one (f := Value.bytes) (rowOf x) _
        · rw [decide_eq_false hns, if_neg (by decide)]
          refine Run.nilMid hQ1 vs nv S rfl rfl rfl rfl (by (repeat' (first | exact List.forall_mem_nil _ | (refine List.forall_mem_cons.mpr ⟨?_, ?_⟩) | (first | exact mem_ix 0 rfl | exact mem_ix 1 rfl | exact mem_ix 2 rfl | exact mem_ix 3 rfl | exact mem_ix 4 rfl | exact mem_ix 5 rfl | exact mem_ix 6 rfl | exact mem_ix 7 rfl | exact mem_ix 8 rfl | exact mem_ix 9 rfl | exact mem_ix 10 rfl | exact mem_ix 11 rfl | exact mem_ix 12 rfl | exact mem_ix 13 rfl | exact mem_ix 14 rfl | exact mem_ix 15 rfl) | (first | exact tail_of 1 rfl | exact tail_of 2 rfl | exact tail_of 3 rfl | exact tail_of 4 rfl | exact tail_of 5 rfl | exact tail_of 6 rfl | exact tail_of 7 rfl | exact tail_of 8 rfl | exact tail_of 9 rfl | exact tail_of 10 rfl | exact tail_of 11 rfl | exact tail_of 12 rfl | exact tail_of 13 rfl | exact tail_of 14 rfl | exact tail_of 15 rfl)))) ⟨?_, by omega⟩
          show FlatB _ (dueUp hs xs i ++ if ∃ h ∈ hs, bitOf x h then [] else [rowOf x])
          rw [← dueA_old (fun e => hns (c3.mpr e)), List.append_nil]
          exact hp1
    · rintro _ ⟨h5, vs, nv, rfl, S, hv6, hf6⟩
      refine Run.cut (duMid c R0 (W.listOf #[.int ((x.fdiv 16).fmod 256) (ts 0), .int ((x.fdiv 4096).fmod 256) (ts 1)] 0) I oI G (L + 1) oX2 fz (duAcc (dueUp hs xs i ++ dueA hs x ++ dueB hs x) (3 * i + 2))) (fun Q1 hQ1 => ?_) ?_
      · by_cases hb : 0 ∈ hs ∧ (x.fdiv 4).fmod 2 = 1
        · refine Run.ifT (BE.and (BE.inH (kn := 0) S PE.int (PE.locV S rfl rfl) hH hhs rfl rfl) (BE.eq (PE.mod (PE.fdiv (PE.cellI S ⟨rfl, rfl, rfl, rfl⟩ (by (first | exact mem_ix 0 rfl | exact mem_ix 1 rfl | exact mem_ix 2 rfl | exact mem_ix 3 rfl | exact mem_ix 4 rfl | exact mem_ix 5 rfl | exact mem_ix 6 rfl | exact mem_ix 7 rfl | exact mem_ix 8 rfl | exact mem_ix 9 rfl | exact mem_ix 10 rfl | exact mem_ix 11 rfl | exact mem_ix 12 rfl | exact mem_ix 13 rfl | exact mem_ix 14 rfl | exact mem_ix 15 rfl)) dX) PE.int (by decide +kernel)) PE.int (by decide)) PE.int)) (and_dec2 hb) ?_
          dsimp only [List.cons_append, List.nil_append]
          refine Run.appendV S rfl rfl (by (first | exact mem_ix 0 rfl | exact mem_ix 1 rfl | exact mem_ix 2 rfl | exact mem_ix 3 rfl | exact mem_ix 4 rfl | exact mem_ix 5 rfl | exact mem_ix 6 rfl | exact mem_ix 7 rfl | exact mem_ix 8 rfl | exact mem_ix 9 rfl | exact mem_ix 10 rfl | exact mem_ix 11 rfl | exact mem_ix 12 rfl | exact mem_ix 13 rfl | exact mem_ix 14 rfl | exact mem_ix 15 rfl)) rfl rfl rfl rfl (EV.bytes S GG rfl g_bytes rfl rfl (EV.list (EVs.ofPA (PA.cons (PE.itemN S (PE.locV S rfl rfl) PE.int (by (first | exact mem_ix 0 rfl | exact mem_ix 1 rfl | exact mem_ix 2 rfl | exact mem_ix 3 rfl | exact mem_ix 4 rfl | exact mem_ix 5 rfl | exact mem_ix 6 rfl | exact mem_ix 7 rfl | exact mem_ix 8 rfl | exact mem_ix 9 rfl | exact mem_ix 10 rfl | exact mem_ix 11 rfl | exact mem_ix 12 rfl | exact mem_ix 13 rfl | exact mem_ix 14 rfl | exact mem_ix 15 rfl)) (by decide) (by decide) rfl (fun _ => rfl) (fun _ => rfl)) (PA.cons (PE.itemN S (PE.locV S rfl rfl) PE.int (by (first | exact mem_ix 0 rfl | exact mem_ix 1 rfl | exact mem_ix 2 rfl | exact mem_ix 3 rfl | exact mem_ix 4 rfl | exact mem_ix 5 rfl | exact mem_ix 6 rfl | exact mem_ix 7 rfl | exact mem_ix 8 rfl | exact mem_ix 9 rfl | exact mem_ix 10 rfl | exact mem_ix 11 rfl | exact mem_ix 12 rfl | exact mem_ix 13 rfl | exact mem_ix 14 rfl | exact mem_ix 15 rfl)) (by decide) (by decide) rfl (fun _ => rfl) (fun _ => rfl)) (PA.cons PE.int PA.nil rfl) rfl) rfl) fun ts => ListK.mk S (Nat.le_of_ble_eq_true rfl) ?_)) rfl)
          intro D1 h6 hl6 c S
          have hD1G : @LT.lt Nat _ G D1 := hl6 (G, _) (by (first | exact mem_ix 0 rfl | exact mem_ix 1 rfl | exact mem_ix 2 rfl | exact mem_ix 3 rfl | exact mem_ix 4 rfl | exact mem_ix 5 rfl | exact mem_ix 6 rfl | exact mem_ix 7 rfl | exact mem_ix 8 rfl | exact mem_ix 9 rfl | exact mem_ix 10 rfl | exact mem_ix 11 rfl | exact mem_ix 12 rfl | exact mem_ix 13 rfl | exact mem_ix 14 rfl | exact mem_ix 15 rfl))
          refine BytesK.mk S (.head _) (ints3 rfl) (in256_cons (fm256 _) (in256_cons (fm256 _) (in256_cons (by decide) in256_nil))) (Nat.le_of_ble_eq_true rfl) ?_
          intro h7 t7 c S
          refine' AppK.ofV (vs := vs) (n := nv) S (by omega) ?U2 ?_
          case U2 => k_upd
          intro h10 c S
          refine Run.nilMid hQ1 (vs ++ [_]) (nv + 1) S rfl rfl rfl rfl (by (repeat' (first | exact List.forall_mem_nil _ | (refine List.forall_mem_cons.mpr ⟨?_, ?_⟩) | (first | exact mem_ix 0 rfl | exact mem_ix 1 rfl | exact mem_ix 2 rfl | exact mem_ix 3 rfl | exact mem_ix 4 rfl | exact mem_ix 5 rfl | exact mem_ix 6 rfl | exact mem_ix 7 rfl | exact mem_ix 8 rfl | exact mem_ix 9 rfl | exact mem_ix 10 rfl | exact mem_ix 11 rfl | exact mem_ix 12 rfl | exact mem_ix 13 rfl | exact mem_ix 14 rfl | exact mem_ix 15 rfl) | (first | exact tail_of 1 rfl | exact tail_of 2 rfl | exact tail_of 3 rfl | exact tail_of 4 rfl | exact tail_of 5 rfl | exact tail_of 6 rfl | exact tail_of 7 rfl | exact tail_of 8 rfl | exact tail_of 9 rfl | exact tail_of 10 rfl | exact tail_of 11 rfl | exact tail_of 12 rfl | exact tail_of 13 rfl | exact tail_of 14 rfl | exact tail_of 15 rfl)))) ⟨?_, by simp only [List.length_append, List.length_cons, List.length_nil]; omega⟩
          refine hv6.append ?_
          show FlatB _ (if 0 ∈ hs ∧ bitOf x 2 then [layOf 0 x] else [])
          rw [if_pos (show 0 ∈ hs ∧ bitOf x 2 from ⟨hb.1, decide_eq_true hb.2⟩)]
          exact .one (f := Value.bytes) (layOf 0 x) _
        · refine Run.ifF (BE.and (BE.inH (kn := 0) S PE.int (PE.locV S rfl rfl) hH hhs rfl rfl) (BE.eq (PE.mod (PE.fdiv (PE.cellI S ⟨rfl, rfl, rfl, rfl⟩ (by (first | exact mem_ix 0 rfl | exact mem_ix 1 rfl | exact mem_ix 2 rfl | exact mem_ix 3 rfl | exact mem_ix 4 rfl | exact mem_ix 5 rfl | exact mem_ix 6 rfl | exact mem_ix 7 rfl | exact mem_ix 8 rfl | exact mem_ix 9 rfl | exact mem_ix 10 rfl | exact mem_ix 11 rfl | exact mem_ix 12 rfl | exact mem_ix 13 rfl | exact mem_ix 14 rfl | exact mem_ix 15 rfl)) dX) PE.int (by decide +kernel)) PE.int (by decide)) PE.int)) (and_ndec2 hb) ?_
          refine Run.nilMid hQ1 vs nv S rfl rfl rfl rfl (by (repeat' (first | exact List.forall_mem_nil _ | (refine List.forall_mem_cons.mpr ⟨?_, ?_⟩) | (first | exact mem_ix 0 rfl | exact mem_ix 1 rfl | exact mem_ix 2 rfl | exact mem_ix 3 rfl | exact mem_ix 4 rfl | exact mem_ix 5 rfl | exact mem_ix 6 rfl | exact mem_ix 7 rfl | exact mem_ix 8 rfl | exact mem_ix 9 rfl | exact mem_ix 10 rfl | exact mem_ix 11 rfl | exact mem_ix 12 rfl | exact mem_ix 13 rfl | exact mem_ix 14 rfl | exact mem_ix 15 rfl) | (first | exact tail_of 1 rfl | exact tail_of 2 rfl | exact tail_of 3 rfl | exact tail_of 4 rfl | exact tail_of 5 rfl | exact tail_of 6 rfl | exact tail_of 7 rfl | exact tail_of 8 rfl | exact tail_of 9 rfl | exact tail_of 10 rfl | exact tail_of 11 rfl | exact tail_of 12 rfl | exact tail_of 13 rfl | exact tail_of 14 rfl | exact tail_of 15 rfl)))) ⟨?_, by omega⟩
          show FlatB _ (dueUp hs xs i ++ dueA hs x ++ if 0 ∈ hs ∧ bitOf x 2 then [layOf 0 x] else [])
          rw [if_neg (show ¬ (0 ∈ hs ∧ bitOf x 2) from fun z => hb ⟨z.1, of_decide_eq_true z.2⟩), List.append_nil]
          exact hv6
      · rintro _ ⟨h5, vs, nv, rfl, S, hv7, hf7⟩
        refine Run.cut (duMid c R0 (W.listOf #[.int ((x.fdiv 16).fmod 256) (ts 0), .int ((x.fdiv 4096).fmod 256) (ts 1)] 0) I oI G (L + 1) oX2 fz (duAcc (dueUp hs xs i ++ dueA hs x ++ dueB hs x ++ dueC hs x) (3 * i + 3))) (fun Q1 hQ1 => ?_) ?_
        · by_cases hb : 1 ∈ hs ∧ (x.fdiv 8).fmod 2 = 1
          · refine Run.ifT (BE.and (BE.inH (kn := 1) S PE.int (PE.locV S rfl rfl) hH hhs rfl rfl) (BE.eq (PE.mod (PE.fdiv (PE.cellI S ⟨rfl, rfl, rfl, rfl⟩ (by (first | exact mem_ix 0 rfl | exact mem_ix 1 rfl | exact mem_ix 2 rfl | exact mem_ix 3 rfl | exact mem_ix 4 rfl | exact mem_ix 5 rfl | exact mem_ix 6 rfl | exact mem_ix 7 rfl | exact mem_ix 8 rfl | exact mem_ix 9 rfl | exact mem_ix 10 rfl | exact mem_ix 11 rfl | exact mem_ix 12 rfl | exact mem_ix 13 rfl | exact mem_ix 14 rfl | exact mem_ix 15 rfl)) dX) PE.int (by decide +kernel)) PE.int (by decide)) PE.int)) (and_dec2 hb) ?_
            dsimp only [List.cons_append, List.nil_append]
            refine Run.appendV S rfl rfl (by (first | exact mem_ix 0 rfl | exact mem_ix 1 rfl | exact mem_ix 2 rfl | exact mem_ix 3 rfl | exact mem_ix 4 rfl | exact mem_ix 5 rfl | exact mem_ix 6 rfl | exact mem_ix 7 rfl | exact mem_ix 8 rfl | exact mem_ix 9 rfl | exact mem_ix 10 rfl | exact mem_ix 11 rfl | exact mem_ix 12 rfl | exact mem_ix 13 rfl | exact mem_ix 14 rfl | exact mem_ix 15 rfl)) rfl rfl rfl rfl (EV.bytes S GG rfl g_bytes rfl rfl (EV.list (EVs.ofPA (PA.cons (PE.itemN S (PE.locV S rfl rfl) PE.int (by (first | exact mem_ix 0 rfl | exact mem_ix 1 rfl | exact mem_ix 2 rfl | exact mem_ix 3 rfl | exact mem_ix 4 rfl | exact mem_ix 5 rfl | exact mem_ix 6 rfl | exact mem_ix 7 rfl | exact mem_ix 8 rfl | exact mem_ix 9 rfl | exact mem_ix 10 rfl | exact mem_ix 11 rfl | exact mem_ix 12 rfl | exact mem_ix 13 rfl | exact mem_ix 14 rfl | exact mem_ix 15 rfl)) (by decide) (by decide) rfl (fun _ => rfl) (fun _ => rfl)) (PA.cons (PE.itemN S (PE.locV S rfl rfl) PE.int (by (first | exact mem_ix 0 rfl | exact mem_ix 1 rfl | exact mem_ix 2 rfl | exact mem_ix 3 rfl | exact mem_ix 4 rfl | exact mem_ix 5 rfl | exact mem_ix 6 rfl | exact mem_ix 7 rfl | exact mem_ix 8 rfl | exact mem_ix 9 rfl | exact mem_ix 10 rfl | exact mem_ix 11 rfl | exact mem_ix 12 rfl | exact mem_ix 13 rfl | exact mem_ix 14 rfl | exact mem_ix 15 rfl)) (by decide) (by decide) rfl (fun _ => rfl) (fun _ => rfl)) (PA.cons PE.int PA.nil rfl) rfl) rfl) fun ts => ListK.mk S (Nat.le_of_ble_eq_true rfl) ?_)) rfl)
            intro D1 h6 hl6 c S
            have hD1G : @LT.lt Nat _ G D1 := hl6 (G, _) (by (first | exact mem_ix 0 rfl | exact mem_ix 1 rfl | exact mem_ix 2 rfl | exact mem_ix 3 rfl | exact mem_ix 4 rfl | exact mem_ix 5 rfl | exact mem_ix 6 rfl | exact mem_ix 7 rfl | exact mem_ix 8 rfl | exact mem_ix 9 rfl | exact mem_ix 10 rfl | exact mem_ix 11 rfl | exact mem_ix 12 rfl | exact mem_ix 13 rfl | exact mem_ix 14 rfl | exact mem_ix 15 rfl))
            refine BytesK.mk S (.head _) (ints3 rfl) (in256_cons (fm256 _) (in256_cons (fm256 _) (in256_cons (by decide) in256_nil))) (Nat.le_of_ble_eq_true rfl) ?_
            intro h7 t7 c S
            refine' AppK.ofV (vs := vs) (n := nv) S (by omega) ?U3 ?_
            case U3 => k_upd
            intro h10 c S
            refine Run.nilMid hQ1 (vs ++ [_]) (nv + 1) S rfl rfl rfl rfl (by (repeat' (first | exact List.forall_mem_nil _ | (refine List.forall_mem_cons.mpr ⟨?_, ?_⟩) | (first | exact mem_ix 0 rfl | exact mem_ix 1 rfl | exact mem_ix 2 rfl | exact mem_ix 3 rfl | exact mem_ix 4 rfl | exact mem_ix 5 rfl | exact mem_ix 6 rfl | exact mem_ix 7 rfl | exact mem_ix 8 rfl | exact mem_ix 9 rfl | exact mem_ix 10 rfl | exact mem_ix 11 rfl | exact mem_ix 12 rfl | exact mem_ix 13 rfl | exact mem_ix 14 rfl | exact mem_ix 15 rfl) | (first | exact tail_of 1 rfl | exact tail_of 2 rfl | exact tail_of 3 rfl | exact tail_of 4 rfl | exact tail_of 5 rfl | exact tail_of 6 rfl | exact tail_of 7 rfl | exact tail_of 8 rfl | exact tail_of 9 rfl | exact tail_of 10 rfl | exact tail_of 11 rfl | exact tail_of 12 rfl | exact tail_of 13 rfl | exact tail_of 14 rfl | exact tail_of 15 rfl)))) ⟨?_, by simp only [List.length_append, List.length_cons, List.length_nil]; omega⟩
            refine hv7.append ?_
            show FlatB _ (if 1 ∈ hs ∧ bitOf x 3 then [layOf 1 x] else [])
            rw [if_pos (show 1 ∈ hs ∧ bitOf x 3 from ⟨hb.1, decide_eq_true hb.2⟩)]
            exact .one (f := Value.bytes) (layOf 1 x) _
          · refine Run.ifF (BE.and (BE.inH (kn := 1) S PE.int (PE.locV S rfl rfl) hH hhs rfl rfl) (BE.eq (PE.mod (PE.fdiv (PE.cellI S ⟨rfl, rfl, rfl, rfl⟩ (by (first | exact mem_ix 0 rfl | exact mem_ix 1 rfl | exact mem_ix 2 rfl | exact mem_ix 3 rfl | exact mem_ix 4 rfl | exact mem_ix 5 rfl | exact mem_ix 6 rfl | exact mem_ix 7 rfl | exact mem_ix 8 rfl | exact mem_ix 9 rfl | exact mem_ix 10 rfl | exact mem_ix 11 rfl | exact mem_ix 12 rfl | exact mem_ix 13 rfl | exact mem_ix 14 rfl | exact mem_ix 15 rfl)) dX) PE.int (by decide +kernel)) PE.int (by decide)) PE.int)) (and_ndec2 hb) ?_
            refine Run.nilMid hQ1 vs nv S rfl rfl rfl rfl (by (repeat' (first | exact List.forall_mem_nil _ | (refine List.forall_mem_cons.mpr ⟨?_, ?_⟩) | (first | exact mem_ix 0 rfl | exact mem_ix 1 rfl | exact mem_ix 2 rfl | exact mem_ix 3 rfl | exact mem_ix 4 rfl | exact mem_ix 5 rfl | exact mem_ix 6 rfl | exact mem_ix 7 rfl | exact mem_ix 8 rfl | exact mem_ix 9 rfl | exact mem_ix 10 rfl | exact mem_ix 11 rfl | exact mem_ix 12 rfl | exact mem_ix 13 rfl | exact mem_ix 14 rfl | exact mem_ix 15 rfl) | (first | exact tail_of 1 rfl | exact tail_of 2 rfl | exact tail_of 3 rfl | exact tail_of 4 rfl | exact tail_of 5 rfl | exact tail_of 6 rfl | exact tail_of 7 rfl | exact tail_of 8 rfl | exact tail_of 9 rfl | exact tail_of 10 rfl | exact tail_of 11 rfl | exact tail_of 12 rfl | exact tail_of 13 rfl | exact tail_of 14 rfl | exact tail_of 15 rfl)))) ⟨?_, by omega⟩
            show FlatB _ (dueUp hs xs i ++ dueA hs x ++ dueB hs x ++ if 1 ∈ hs ∧ bitOf x 3 then [layOf 1 x] else [])
            rw [if_neg (show ¬ (1 ∈ hs ∧ bitOf x 3) from fun z => hb ⟨z.1, of_decide_eq_true z.2⟩), List.append_nil]
            exact hv7
        · rintro _ ⟨h5, vs, nv, rfl, S, hv8, hf8⟩
          refine Run.nil fun tk => (hQ _ (LEnd.of ((vs, nv), oX2) S rfl rfl rfl (told_cons rfl (told_cons rfl (told_cons rfl told_nil))) (by (repeat' (first | exact List.forall_mem_nil _ | (refine List.forall_mem_cons.mpr ⟨?_, ?_⟩) | (first | exact mem_ix 0 rfl | exact mem_ix 1 rfl | exact mem_ix 2 rfl | exact mem_ix 3 rfl | exact mem_ix 4 rfl | exact mem_ix 5 rfl | exact mem_ix 6 rfl | exact mem_ix 7 rfl | exact mem_ix 8 rfl | exact mem_ix 9 rfl | exact mem_ix 10 rfl | exact mem_ix 11 rfl | exact mem_ix 12 rfl | exact mem_ix 13 rfl | exact mem_ix 14 rfl | exact mem_ix 15 rfl)))) (by (repeat' (first | exact List.forall_mem_nil _ | (refine List.forall_mem_cons.mpr ⟨?_, ?_⟩) | (first | exact mem_ix 0 rfl | exact mem_ix 1 rfl | exact mem_ix 2 rfl | exact mem_ix 3 rfl | exact mem_ix 4 rfl | exact mem_ix 5 rfl | exact mem_ix 6 rfl | exact mem_ix 7 rfl | exact mem_ix 8 rfl | exact mem_ix 9 rfl | exact mem_ix 10 rfl | exact mem_ix 11 rfl | exact mem_ix 12 rfl | exact mem_ix 13 rfl | exact mem_ix 14 rfl | exact mem_ix 15 rfl)))) (by (first | exact tail_of 1 rfl | exact tail_of 2 rfl | exact tail_of 3 rfl | exact tail_of 4 rfl | exact tail_of 5 rfl | exact tail_of 6 rfl | exact tail_of 7 rfl | exact tail_of 8 rfl | exact tail_of 9 rfl | exact tail_of 10 rfl | exact tail_of 11 rfl | exact tail_of 12 rfl | exact tail_of 13 rfl | exact tail_of 14 rfl | exact tail_of 15 rfl)) fun kp => ⟨?_, by dsimp only; omega, _, dX⟩)).1
          rw [dueUp_succ hxi]
          have e : dueUp hs xs i ++ dueA hs x ++ dueB hs x ++ dueC hs x = dueUp hs xs i ++ dueAt hs x := by
            show _ = dueUp hs xs i ++ (dueA hs x ++ dueB hs x ++ dueC hs x)
            simp only [List.append_assoc]
          rw [← e]
          exact hv8
  · rintro ⟨⟨vs, nv⟩, oC⟩ h m ⟨hp1, hp2, _⟩
    intro c S
    refine Run.ret (PE.locV S rfl rfl) fun t tk => ?_
    have z := S.n (G, W.listOf vs.toArray nv) (by (first | exact mem_ix 0 rfl | exact mem_ix 1 rfl | exact mem_ix 2 rfl | exact mem_ix 3 rfl | exact mem_ix 4 rfl | exact mem_ix 5 rfl | exact mem_ix 6 rfl | exact mem_ix 7 rfl | exact mem_ix 8 rfl | exact mem_ix 9 rfl | exact mem_ix 10 rfl | exact mem_ix 11 rfl | exact mem_ix 12 rfl | exact mem_ix 13 rfl | exact mem_ix 14 rfl | exact mem_ix 15 rfl))
    rw [hxs.size] at hp1
    exact hR G h _ vs nv S.f.keep z.1 z.2.2 hp1
end
section
theorem reset35 : True := by
  w_top off
  trivial
variable {w : World} {s : Shared} {p : Program} {loose : List Str} {mean : ExcName → Option Value} {mg mb : Str → Option Value} {R : Result → Shared → Prop}
section
variable {c : Ctx} {x y z fn : Str} {pos px py pz pa pn pl pt : Pos} {a b e e2 : PySem.Expr} {body rest : List Stmt} {Q : Flow → Shared → Prop} {E : Value → Shared → Prop} {QV : Value → Ctx → Prop} {l : Addr} {items : Array Value} {i j : Int} {t : Tok} {v : Value}
theorem PE.lenB (S : c.Ok) (G : Gl c.w c.h₀) (hl : c.h₀.IsList l items) (gf : isGlo c.env (Str.ofString "len") = true) (g : nsIn (hdK c.w.params) mainGlobals (Str.ofString "len") = some none) (P : PE c a (fun _ => .ref l)) (hz : items.size < 1000000) (hst : starEach [a] c.env = (false, eval a c.env) :: starEach [] c.env)
    (he : eval (.Call (.Name (Str.ofString "len") pn) [a] [] pa) c.env = (do callWith pa (← eval (.Name (Str.ofString "len") pn) c.env) [] (backTo pa (starEach [a] c.env)) (backToKw pa (keywordEach [] c.env)))) :
    PE c (.Call (.Name (Str.ofString "len") pn) [a] [] pa) (.int items.size) :=
  ⟨fun _ _ _ k => Call_ ((PE.bltG S G gf g (by boot_fast) (by decide)).go _ _ _ fun _ _ => PyProof.Rows.callWith_builtin1 (args_cons (P.go _ _ _ fun _ k' => args_nil (Mine.lenB (s := c.at k') S.f hl hz (k _ _))) hst) hst) he⟩
theorem PE.itemB (S : c.Ok) (P : PE c a (fun _ => .ref l)) (R : PE c b (.int i)) (hl : c.h₀.IsList l items) (h0 : 0 ≤ i) (hf : i < 2 ^ 63) (hx : items[i.toNat]? = some v)
    (hs : ∀ u, subscripted b false (.ref l) (.int i u) = operate [.ref l, .int i u] (getItem (.ref l) (.int i u))) (hg : ∀ r, letTemporaryGo a (.ref l) r = pure ()) : PE c (.Subscript a b pos) (fun _ => v) :=
  ⟨fun _ _ _ k => Subscript_ (P.go _ _ _ fun _ _ => R.go _ _ _ fun _ k1 => Mine.itemB (s := c.at k1) S.f hl h0 hf hx (k 0 _) (hs _) hg)⟩
theorem PE.itemBI (S : c.Ok) (P : PE c a (fun _ => .ref l)) (R : PE c b (.int i)) (hl : c.h₀.IsList l items) (h0 : 0 ≤ i) (hf : i < 2 ^ 63) (hx : items[i.toNat]? = some (.int j t))
    (hs : ∀ u, subscripted b false (.ref l) (.int i u) = operate [.ref l, .int i u] (getItem (.ref l) (.int i u))) (hg : ∀ r, letTemporaryGo a (.ref l) r = pure ()) : PE c (.Subscript a b pos) (.int j) :=
  ⟨fun _ _ _ k => Subscript_ (P.go _ _ _ fun _ _ => R.go _ _ _ fun _ k1 => Mine.itemB (s := c.at k1) S.f hl h0 hf hx (k _ _) (hs _) hg)⟩
inductive AddSK (QV : Value → Ctx → Prop) (z : Str) : Value → Ctx → Prop
  | mk {z2 u c1} (hz : z.length + z2.length ≤ 1000000) (k : ∀ t, QV (.str (z ++ z2) t) c1) : AddSK QV z (.str z2 u) c1
inductive AddSL (b : PySem.Expr) (QV : Value → Ctx → Prop) : Value → Ctx → Prop
  | mk {z t c1} (p : EV c1 b (AddSK QV z)) : AddSL b QV (.str z t) c1
theorem EV.addS (p : EV c a (AddSL b QV)) : EV c (.BinOp a .Add b pos) QV :=
  ⟨fun Q' E tk K => wpAny_BinOp (p.go _ _ _ fun v c1 k1 h1 q => by
    obtain ⟨p2⟩ := q
    refine EV.at h1 p2 _ _ _ fun v2 c2 k2 h2 q2 => ?_
    obtain ⟨hz, k⟩ := q2
    exact add_small hz fun t tk => K _ c2 tk h2 (k t))⟩
inductive TripK (x y z : Str) (rest : List Stmt) (Q : Flow → Shared → Prop) (E : Value → Shared → Prop) : Value → Ctx → Prop
  | mk {D v1 v2 v3 c1} (S : c1.Ok) (ht : IsTup c1.h D #[v1, v2, v3]) (k : ∀ h', let c2 : Ctx := { c1 with h := h', m := upd z v3 (upd y v2 (upd x v1 c1.m)) }; c2.Ok → Run c2 rest Q E) : TripK x y z rest Q E (.ref D) c1
theorem asg3 {kd} {D : Addr} {v1 v2 v3 : Value} {tk : Nat} {QU : Unit → Shared → Prop} (S : c.Ok) (hh : c.A.handled = none) (hx : isLoc c.env x = true) (hy : isLoc c.env y = true) (hz : isLoc c.env z = true) (ht : IsTup c.h D #[v1, v2, v3])
    (k : ∀ h' tk, let c2 : Ctx := { c with h := h', m := upd z v3 (upd y v2 (upd x v1 c.m)) }; c2.Ok → QU () (c2.at tk)) : wpAny (model prg c.w) c.A (assign (.Tuple [.Name x px, .Name y py, .Name z pz] kd pt) c.env (.ref D)) QU E (c.at tk) := by
  obtain ⟨h1, h2, h3⟩ := isLoc_of hx
  obtain ⟨i1, i2, i3⟩ := isLoc_of hy
  obtain ⟨j1, j2, j3⟩ := isLoc_of hz
  refine unpackN_ (s := c.at tk) S.f S.n ht hh rfl rfl fun h' F' N' => ?_
  refine assignInOrder_cons (wpAny_assign_Name (wpAny_storeName_local h2 (s := ⟨h', c.gs, c.dr, tk, c.os⟩) F'.ns (fun h'' hn hs => ?_) (by rw [h1]; rfl)))
  have F2 := F'.set hn hs
  have N2 := N'.set hs
  refine assignInOrder_cons (wpAny_assign_Name (wpAny_storeName_local i2 (s := ⟨h'', c.gs, c.dr, tk + 1, c.os⟩) F2.ns (fun h3 hn hs => ?_) (by rw [i1]; rfl)))
  have F3 := F2.set hn hs
  have N3 := N2.set hs
  refine assignInOrder_cons (wpAny_assign_Name (wpAny_storeName_local j2 (s := ⟨h3, c.gs, c.dr, tk + 1 + 1, c.os⟩) F3.ns (fun h4 hn hs => ?_) (by rw [j1]; rfl)))
  exact assignInOrder_nil (k h4 _ ⟨F3.set hn hs, N3.set hs⟩)
theorem Run.trip {kd} (hh : c.A.handled = none) (hx : isLoc c.env x = true) (hy : isLoc c.env y = true) (hz : isLoc c.env z = true) (hs : swapsWithSole [.Tuple [.Name x px, .Name y py, .Name z pz] kd pt] e pos.line c.env = pure false) (hw : swappedStores [.Tuple [.Name x px, .Name y py, .Name z pz] kd pt] e c.env = pure none)
    (p : EV c e (TripK x y z rest Q E)) : Run c (.Assign [.Tuple [.Name x px, .Name y py, .Name z pz] kd pt] e pos :: rest) Q E := ⟨fun tk => by
  refine wpAny_execs_cons (Assign_Tuple (p.go _ _ _ fun v c1 k1 hs1 q => ?_) hs hw)
  obtain ⟨S, ht, k⟩ := q
  obtain ⟨e1, e2, e3⟩ := stat_of hs1
  rw [← e3] at hx hy hz
  have hh1 : c1.A.handled = none := by rw [e2]; exact hh
  rw [← e1, ← e2, ← e3]
  exact asg3 S hh1 hx hy hz ht fun h' tk S2 => (k h' S2).go tk⟩
inductive InsK (D : Addr) (rest : List Stmt) (Q : Flow → Shared → Prop) (E : Value → Shared → Prop) : List Value → Ctx → Prop
  | mk {i u v c1 vs n l} (S : c1.Ok) (hf : Builtin.List.listFitsIndex i = true) (hsz : vs.length < 1000000) (U : Upd D (PySem.W.listOf (List.toArray vs) n) (PySem.W.listOf (kl_ins vs i v).toArray (n + 1)) c1.news l) (k : ∀ h', let c2 := c1.led h' l; c2.Ok → Run c2 rest Q E) : InsK D rest Q E [.int i u, v] c1
theorem Run.insertV {pl : Sem Bool} {D : Addr} {its0 : Array Value} {n0 : Nat} (S : c.Ok) (hl : isLoc c.env x = true) (hv : c.m x = some (.ref D)) (hm : (D, PySem.W.listOf its0 n0) ∈ c.news)
    (hi : interactive c.env = false) (hs : swapsWith (.Call (.Attribute (.Name x px) (Str.ofString "insert") pa) [e, e2] [] pn) none pos.line c.env = pure false)
    (he : eval (.Call (.Attribute (.Name x px) (Str.ofString "insert") pa) [e, e2] [] pn) c.env = (do
      let ov ← eval (.Name x px) c.env
      standAt pa.atName
      let (f, first) ← holding [ov] (getMethod ov (Str.ofString "insert") pl)
      callWith pn f first (backTo pn (starEach [e, e2] c.env)) (backToKw pn (keywordEach [] c.env))))
    (hst : starEach [e, e2] c.env = (false, eval e c.env) :: starEach [e2] c.env) (hpl : (backTo pn (starEach [e2] c.env)).any (·.1) = false) (p : EVs c [e, e2] (InsK D rest Q E)) :
    Run c (.Expr (.Call (.Attribute (.Name x px) (Str.ofString "insert") pa) [e, e2] [] pn) pos :: rest) Q E := ⟨fun tk => by
  obtain ⟨h1, h2, h3⟩ := isLoc_of hl
  refine wpAny_execs_cons (wpAny_Expr_any ?_ hi hs)
  refine methodCall_KW (wpAny_Name (wpAny_loadName_local h1 h2 S.f.ns hv ?_) h3) he
  refine listMethod_K (s := c.at tk) S.n hm PySem.F.slot_list_insert PySem.F.type_list_insert ?_
  refine callWith_method1 (p.go _ _ _ _ fun v c1 k1 hs1 q => ?_) hst hpl
  obtain ⟨S1, hf, hsz, U, k⟩ := q
  obtain ⟨e1, e2, e3⟩ := stat_of hs1
  exact insV (s := c1.at k1) S1.f S1.n U hf hsz (fun h' F' N' => Run.at (c := c) (c' := c1.led h' _) hs1 (k h' ⟨F', N'⟩) k1)⟩
theorem Run.forRange {yy : PySem.Expr} (S : c.Ok) (G : Gl c.w c.h₀) (gr : isGlo c.env (Str.ofString "range") = true) (g : nsIn (hdK c.w.params) mainGlobals (Str.ofString "range") = some none) (P : PE c a (.int (items.size : Int))) (hz : items.size < 1000000) (hst : starEach [a] c.env = (false, eval a c.env) :: starEach [] c.env)
    (he : eval (.Call (.Name (Str.ofString "range") pn) [a] [] pa) c.env = (do callWith pa (← eval (.Name (Str.ofString "range") pn) c.env) [] (backTo pa (starEach [a] c.env)) (backToKw pa (keywordEach [] c.env))))
    (k : ∀ I h2, IsRangeIter h2 I 0 items.size 1 → I ≠ c.env.locals → c.h₀.get? I = none → (∀ b o, c.h.get? b = some o → b ≠ I ∧ h2.get? b = some o) → let c' := c.led h2 c.news; c'.Ok → Loop c' (.forLoop yy (.ref I) body [] c'.env) (c'.bh rest Q E)) :
    Run c (.For yy (.Call (.Name (Str.ofString "range") pn) [a] [] pa) body [] pos :: rest) Q E := ⟨fun tk => by
  refine wpAny_execs_cons (exec_for_Call (Call_ ((PE.bltG S G gr g (by boot_fast) (by decide)).go _ _ _ fun _ _ => PyProof.Rows.callWith_type1 (args_cons (P.go _ _ _ fun t k1 => args_nil ?_) hst) hst) he))
  refine PyProof.Rows.range1_rows (s := c.at k1) S.f S.n fun h' tk' t₁ u₁ v₁ hr F' N' st => ?_
  refine iter_range0 (s := ⟨h', c.gs, c.dr, tk', c.os⟩) F' N' hr hz fun I h2 F2 N2 hi a1 a2 a3 => ?_
  refine codeAny_mono ((k I h2 hi a1 a2 (fun b o e => a3 b o (st b o e)) ⟨F2, N2⟩).go tk') fun r s h => ?_
  cases r with
  | ok f => cases f <;> exact h
  | error e => exact h⟩
theorem Loop.rangeJ {X : Type} {c : Ctx} {told : X → List (Str × Value)} {led : X → List (Addr × Obj)} {Φ : Nat → Heap → X → Prop} {adr : List Addr} {x : Str} {px : Pos} {body rest : List Stmt} {Q : Flow → Shared → Prop} {E : Value → Shared → Prop} {I : Addr} {n : Nat}
    (hh : c.A.handled = none) (hadr : ∀ x, (led x).map (·.1) = adr) (hIL : I ≠ c.env.locals) (hI0 : c.h₀.get? I = none) (hIa : ∀ a ∈ adr, a ≠ I)
    (hst : ∀ i h h' x, Φ i h x → (∀ b o, b ≠ I → h.get? b = some o → h'.get? b = some o) → Φ i h' x) (hi : IsRangeIter c.h I 0 n 1) (hx : isLoc c.env x = true)
    (x0 : X) (S : c.Ok) (ht : Told c.m (told x0)) (hn : ∀ q ∈ led x0, q ∈ c.news) (hΦ : Φ 0 c.h x0)
    (step : ∀ (i : Nat) t oI y h h' m fz Q' E', i < n → (∀ q ∈ fz, (∀ a ∈ adr, q.1 ≠ a) ∧ q.1 ≠ I) → Φ i h y →
      (∀ s₃, LEnd c.h₀ (c.at 0) c.env.locals told led Φ i adr [(I, oI)] fz h s₃ → Q' .next s₃ ∧ Q' .cont s₃) → let c' : Ctx := { c with h := h', m := upd x (.int (i : Int) t) (ovr (told y) m), news := (I, oI) :: (led y ++ fz) }; c'.Ok → Run c' body Q' E')
    (hR : ∀ y h m, Φ n h y → let c' : Ctx := { c with h := h, m := ovr (told y) m, news := led y }; c'.Ok → Run c' rest Q E) : Loop c (.forLoop (.Name x px) (.ref I) body [] c.env) (c.bh rest Q E) := ⟨fun tk => by
  obtain ⟨h1, h2, h3⟩ := isLoc_of hx
  refine for_rangeJ (s := c.at 0) (told := told) (led := led) (Φ := Φ) hh (fun _ => rfl) hadr hIL hI0 hIa hst hi ⟨x0, _, _, _, rfl, S.f, ht, fun q hq => S.n q (hn q hq), hΦ⟩ ?_ ?_
  · intro i t oI y h tk m fz hv hc F N hfz hal hp
    refine wpAny_assign_Name ?_
    refine wpAny_storeName_local h2 (s := ⟨h, c.gs, c.dr, tk, c.os⟩) F.ns (fun h'' hn hs => ?_) (by rw [h1]; rfl)
    exact (step i t oI y h h'' m fz _ _ hv (fun q hq => ⟨(hfz q hq).1, (hfz q hq).2 _ (.head _)⟩) hp (fun s₃ z => ⟨⟨.inl rfl, z⟩, ⟨.inr rfl, z⟩⟩) ⟨F.set hn hs, N.set hs⟩).go _
  · rintro s' ⟨y, h, tk, m, rfl, F, hm, N, hp⟩
    rw [← ovr_eq hm] at F
    exact (hR y h m hp ⟨F, N⟩).go tk⟩
end
theorem g_range : nsIn (hdK w.params) mainGlobals (Str.ofString "range") = some none := by k_is
theorem g_text : GFn w (Str.ofString "_law_text") 142 := ⟨by k_is, by k_is⟩
theorem K_text {b : Array UInt8} {t : Tok} (h : IsRow b) : Con 870 8700 w 142 [.bytes b t] [] (.str (txt b)) := ⟨fun s R G k => let ⟨X, _, _, _, _, _, T⟩ := G; c_text h X T k⟩
theorem c_packets {A Lr : Nat} {items : Array Value} {xs : List Int} {as : List Nat} {n : Nat} {qs : List LInf} (X : (hdK w.params).In s.heap) (T : Top p loose mean mg mb s.heap) (hA : s.heap.IsList A items) (hxs : IntsAt items xs) (hx0 : 0 < xs.length) (hsz : items.size < 1000)
    (hL : s.heap.get? Lr = some (hobj as n)) (hq : LTups s.heap as qs) (hok : ∀ q ∈ qs, okL q) (hlen : as.length < 1000)
    (hR : ∀ D h tk vs n ps, s.heap.StaysIn h → h.get? D = some (W.listOf vs.toArray n) → s.heap.get? D = none → FlatP vs ps → ps.Perm qs → R (.ok (.ret (.ref D))) { s with heap := h, toks := tk }) :
    codeAny (model prg w) (AT 860 8600) (.call (.ref 156) ⟨[.ref A, .ref Lr], []⟩) R s := by
  have hLl : s.heap.IsList Lr (refs as).toArray := ⟨_, hL, rfl, n, rfl⟩
  have hLz : (refs as).toArray.size = as.length := by simp [refs]
  have hsz0 := hxs.size
  refine' enter [(Str.ofString "numbers", .ref A), (Str.ofString "lines", .ref Lr)] X T.nolimit ?ho ?hcd (by decide) ?hb ?hl ?_ ?c1 ?c2 ?c3 ?c4
  ((case ho => k_is); (case hcd => k_is); (case hb => first | exact BindsTo.of_eq rfl | exact binds_K (by assumption) rfl (by k_is) rfl rfl rfl); (case hl => exact locs rfl); (case c1 => rfl); (case c2 => rfl); (case c3 => rfl); (case c4 => decide))
  intro L h₁ F N
  k_fold
  refine Run.start rfl F N ?_
  intro c S
  have GG : Gl c.w c.h₀ := Gl.mk' X T
  refine Run.newL S rfl ?_
  intro D h2 h3 hlD c S
  refine Run.forRange S GG rfl g_range (PE.lenB S GG hLl rfl g_len (PE.locV S rfl rfl) (by omega) rfl rfl) (by omega) rfl rfl fun I h4 hi hIL hI0 hIn => ?_
  have hDI : D ≠ I := (hIn _ _ (S.n _ (.head _)).1).1
  have hDI2 := neN hDI
  intro c S
  refine Loop.rangeJ (X := FX) (told := fun _ => [(Str.ofString "numbers", Value.ref A), (Str.ofString "lines", Value.ref Lr), (Str.ofString "packets", Value.ref D)]) (led := flLed D) (Φ := pkPhi qs) (adr := [D]) rfl (fun _ => rfl) hIL hI0 (List.forall_mem_singleton.mpr hDI)
    (fun i h h' x hp k => hp) hi rfl ([], 0) S (told_cons rfl (told_cons rfl (told_cons rfl told_nil))) (by (repeat' (first | exact List.forall_mem_nil _ | (refine List.forall_mem_cons.mpr ⟨?_, ?_⟩) | (first | exact mem_ix 0 rfl | exact mem_ix 1 rfl | exact mem_ix 2 rfl | exact mem_ix 3 rfl | exact mem_ix 4 rfl | exact mem_ix 5 rfl | exact mem_ix 6 rfl | exact mem_ix 7 rfl | exact mem_ix 8 rfl | exact mem_ix 9 rfl | exact mem_ix 10 rfl | exact mem_ix 11 rfl | exact mem_ix 12 rfl | exact mem_ix 13 rfl | exact mem_ix 14 rfl | exact mem_ix 15 rfl)))) ⟨rfl, [], .nil, .refl _⟩ ?_ ?_
  · rintro i t oI ⟨vs, nv⟩ h h' m fz Q' E' hlt hfz ⟨hvl, ps, hps, hperm⟩ hQ
    dsimp only at hvl hps
    intro c S
    have hqi : i < qs.length := by rw [← hq.length, ← hLz]; exact hlt
    have hqe : qs[i]? = some qs[i] := by simp [hqi]
    generalize qs[i] = q at *
    have hT0 := hq.get i _ hqe
    obtain ⟨q1, q2, q3⟩ := q
    obtain ⟨o, t1, u1, v1, k1, ho, hoc, hod⟩ := hT0
    obtain ⟨b0, b1, b2, b3⟩ := hok _ (List.mem_of_getElem? hqe)
    dsimp only at b0 b1 b2 b3
    have hitem : (refs as).toArray[((i : Nat) : Int).toNat]? = some (Value.ref (as.getD i 0)) := by
      rw [Int.toNat_natCast]
      have := refs_get (as := as) (by rw [← hLz]; exact hlt)
      simpa using this
    have hs1 := small_txt (b := byteArr [0, q1.fdiv 256, q1.fmod 256]) (.inr ⟨_, _, _, rfl⟩)
    have hs2 := small_txt b3
    have hk0 : 0 ≤ ((i : Nat) : Int).fmod (items.size : Nat) := Int.fmod_nonneg_of_pos _ (by omega)
    have hk1 : ((i : Nat) : Int).fmod (items.size : Nat) < (items.size : Nat) := Int.fmod_lt_of_pos _ (by omega)
    have hjl : (((i : Nat) : Int).fmod (items.size : Nat)).toNat < xs.length := by omega
    have hje : xs[(((i : Nat) : Int).fmod (items.size : Nat)).toNat]? = some xs[(((i : Nat) : Int).fmod (items.size : Nat)).toNat] := by simp [hjl]
    obtain ⟨tx, htx⟩ := hxs.get _ _ hje
    generalize xs[(((i : Nat) : Int).fmod (items.size : Nat)).toNat] = xj at *
    have z4 : ∀ q ∈ fz, q.1 ≠ D := fun q hq => (hfz q hq).1 D (.head _)
    refine Run.trip rfl rfl rfl rfl rfl rfl (EV.pe (PE.itemB S (PE.locV S rfl rfl) (PE.locI S rfl rfl) hLl (by omega) (by omega) hitem (fun _ => rfl) (fun _ => rfl)) fun _ => TripK.mk (v1 := .int q1 t1) (v2 := .str q2 u1) (v3 := .bytes q3 v1) S ⟨o, S.f.keep _ _ ho, hoc, k1, hod⟩ ?_)
    intro h5 c S
    refine Run.assignV rfl rfl (EV.addS (EV.addS (EV.callC S GG rfl g_text rfl rfl rfl (EVs.cons rfl (EV.bytes S GG rfl g_bytes rfl rfl (EV.list (EVs.ofPA (PA.cons PE.int (PA.cons (PE.fdiv (PE.locI S rfl rfl) PE.int (by decide +kernel)) (PA.cons (PE.mod (PE.locI S rfl rfl) PE.int (by decide)) PA.nil rfl) rfl) rfl) fun ts => ListK.mk S (Nat.le_of_ble_eq_true rfl) ?_)) rfl)))))
    intro D1 h6 hl6 c S
    have hD1 : @LT.lt Nat _ D D1 := hl6 (D, _) (by (first | exact mem_ix 0 rfl | exact mem_ix 1 rfl | exact mem_ix 2 rfl | exact mem_ix 3 rfl | exact mem_ix 4 rfl | exact mem_ix 5 rfl | exact mem_ix 6 rfl | exact mem_ix 7 rfl | exact mem_ix 8 rfl | exact mem_ix 9 rfl | exact mem_ix 10 rfl | exact mem_ix 11 rfl | exact mem_ix 12 rfl | exact mem_ix 13 rfl | exact mem_ix 14 rfl | exact mem_ix 15 rfl))
    refine BytesK.mk S (.head _) (ints3 rfl) (in256_cons (by decide) (in256_cons ⟨by rw [Int.fdiv_eq_ediv_of_nonneg _ (by decide)]; omega, by rw [Int.fdiv_eq_ediv_of_nonneg _ (by decide)]; omega⟩ (in256_cons (fm256 _) in256_nil))) (Nat.le_of_ble_eq_true rfl) ?_
    intro h7 t7 c S
    refine EVs.nil ⟨⟨GG, S⟩, CallC.con S GG ⟨rfl, Nat.le_of_ble_eq_true rfl, Nat.le_of_ble_eq_true rfl⟩ (K_text (.inr ⟨_, _, _, rfl⟩)) ?_⟩
    intro h8 t8 c S
    refine AddSL.mk (EV.pe (PE.locV S rfl rfl) fun _ => AddSK.mk (by omega) fun t9 => AddSL.mk (EV.callC S GG rfl g_text rfl rfl rfl (EVs.cons rfl (EV.pe (PE.locV S rfl rfl) fun _ => EVs.nil ⟨⟨GG, S⟩, CallC.con S GG ⟨rfl, Nat.le_of_ble_eq_true rfl, Nat.le_of_ble_eq_true rfl⟩ (K_text b3) ?_⟩))))
    intro h9 t10 c S
    refine AddSK.mk (by rw [len_app]; omega) fun t11 => StoreK.mk S ?_
    intro h10 c S
    refine Run.insertV (n0 := nv) (its0 := vs.toArray) S rfl rfl (by (first | exact mem_ix 0 rfl | exact mem_ix 1 rfl | exact mem_ix 2 rfl | exact mem_ix 3 rfl | exact mem_ix 4 rfl | exact mem_ix 5 rfl | exact mem_ix 6 rfl | exact mem_ix 7 rfl | exact mem_ix 8 rfl | exact mem_ix 9 rfl | exact mem_ix 10 rfl | exact mem_ix 11 rfl | exact mem_ix 12 rfl | exact mem_ix 13 rfl | exact mem_ix 14 rfl | exact mem_ix 15 rfl)) rfl rfl rfl rfl rfl (EVs.cons rfl (EV.pe (PE.mod (PE.fdiv (PE.itemBI S (PE.locV S rfl rfl) (PE.mod (PE.locI S rfl rfl) (PE.lenB S GG hA rfl g_len (PE.locV S rfl rfl) (by omega) rfl rfl) (by omega)) hA hk0 (by omega) htx (fun _ => rfl) (fun _ => rfl)) PE.int (by decide +kernel)) (PE.add (PE.locI S rfl rfl) PE.int) (by omega)) fun t12 => EVs.cons rfl (EV.pe (PE.locV S rfl rfl) fun _ => EVs.nil ?_)))
    refine' InsK.mk (vs := vs) (n := nv) S (fits_fmod (by omega)) (by omega) ?U ?_
    case U => k_upd
    intro h11 c S
    obtain ⟨ys, hys, hyp⟩ := hps.ins ((xj.fdiv 3).fmod ((i : Int) + 1)) (q1, q2, q3) t11
    refine Run.nil fun tk => (hQ _ (LEnd.of (kl_ins vs ((xj.fdiv 3).fmod ((i : Int) + 1)) _, nv + 1) S rfl rfl rfl (told_cons rfl (told_cons rfl (told_cons rfl told_nil))) (by (repeat' (first | exact List.forall_mem_nil _ | (refine List.forall_mem_cons.mpr ⟨?_, ?_⟩) | (first | exact mem_ix 0 rfl | exact mem_ix 1 rfl | exact mem_ix 2 rfl | exact mem_ix 3 rfl | exact mem_ix 4 rfl | exact mem_ix 5 rfl | exact mem_ix 6 rfl | exact mem_ix 7 rfl | exact mem_ix 8 rfl | exact mem_ix 9 rfl | exact mem_ix 10 rfl | exact mem_ix 11 rfl | exact mem_ix 12 rfl | exact mem_ix 13 rfl | exact mem_ix 14 rfl | exact mem_ix 15 rfl)))) (by (repeat' (first | exact List.forall_mem_nil _ | (refine List.forall_mem_cons.mpr ⟨?_, ?_⟩) | (first | exact mem_ix 0 rfl | exact mem_ix 1 rfl | exact mem_ix 2 rfl | exact mem_ix 3 rfl | exact mem_ix 4 rfl | exact mem_ix 5 rfl | exact mem_ix 6 rfl | exact mem_ix 7 rfl | exact mem_ix 8 rfl | exact mem_ix 9 rfl | exact mem_ix 10 rfl | exact mem_ix 11 rfl | exact mem_ix 12 rfl | exact mem_ix 13 rfl | exact mem_ix 14 rfl | exact mem_ix 15 rfl)))) (by (first | exact tail_of 1 rfl | exact tail_of 2 rfl | exact tail_of 3 rfl | exact tail_of 4 rfl | exact tail_of 5 rfl | exact tail_of 6 rfl | exact tail_of 7 rfl | exact tail_of 8 rfl | exact tail_of 9 rfl | exact tail_of 10 rfl | exact tail_of 11 rfl | exact tail_of 12 rfl | exact tail_of 13 rfl | exact tail_of 14 rfl | exact tail_of 15 rfl)) fun kp => ⟨?_, ys, hys, hyp.trans ?_⟩)).1
    · show (kl_ins vs _ _).length = _
      rw [kl_ins_length, hvl]
    · rw [List.take_add_one, hqe]
      exact List.Perm.append_right _ hperm
  · rintro ⟨vs, nv⟩ h m ⟨hvl, ps, hps, hperm⟩
    intro c S
    refine Run.ret (PE.locV S rfl rfl) fun t tk => ?_
    have z := S.n (D, W.listOf vs.toArray nv) (.head _)
    rw [hLz, hq.length, List.take_length] at hperm
    exact hR D h tk vs nv ps S.f.keep z.1 z.2.2 hps hperm
end
section
variable {w : World} {s : Shared} {p : Program} {loose : List Str} {mean : ExcName → Option Value} {mg mb : Str → Option Value} {R : Result → Shared → Prop}
section
variable {A : Around} {E : Value → Shared → Prop} {h₀ : Heap} {L l I C : Addr} {m : Str → Option Value} {news : List (Addr × Obj)} {items : Array Value} {o : Obj} {env : Env} {sc : Scope} {pos : Pos} {elt t0 i0 t1 i1 : PySem.Expr} {it acc : Value}
theorem compTurn_two0 :
    compTurn (.ListComp elt [⟨t0, i0, [], 0⟩, ⟨t1, i1, [], 0⟩] sc pos) 0 it acc env = (standAt i0.pos >>= fun _ => pyNext it >>= fun r => match r with
      | none => pure (.done .next)
      | some v => letOwnedTupleGo t0 it v >>= fun _ => assign t0 env v >>= fun _ => eval i1 env >>= fun x => standAt i1.pos >>= fun _ => foldedSetIterable i1 env x >>= fun x =>
          holding [x] (pyIter x) >>= fun it1 => runOwn (.compStart (.ListComp elt [⟨t0, i0, [], 0⟩, ⟨t1, i1, [], 0⟩] sc pos) 1 it1 acc env) env >>= fun _ =>
          again (.compLoop (.ListComp elt [⟨t0, i0, [], 0⟩, ⟨t1, i1, [], 0⟩] sc pos) 0 it acc env)) := by rfl
theorem compTurn_two1 :
    compTurn (.ListComp elt [⟨t0, i0, [], 0⟩, ⟨t1, i1, [], 0⟩] sc pos) 1 it acc env = (standAt i1.pos >>= fun _ => pyNext it >>= fun r => match r with
      | none => pure (.done .next)
      | some v => letOwnedTupleGo t1 it v >>= fun _ => assign t1 env v >>= fun _ => (eval elt env >>= fun x => call (.builtin "list.append") [acc, x] >>= fun _ => pure ()) >>= fun _ =>
          again (.compLoop (.ListComp elt [⟨t0, i0, [], 0⟩, ⟨t1, i1, [], 0⟩] sc pos) 1 it acc env)) := by rfl
theorem comp2_turns (hf : ∀ x, foldedSetIterable i1 env x = pure x) (I : Nat → Shared → Prop)
    (turn : ∀ n s, I n s → wpAny (model prg w) A (pyNext it) (fun r s₁ => match r with
      | none => R (.ok .next) s₁
      | some v => wpAny (model prg w) A (letOwnedTupleGo t0 it v) (fun _ s₁ => wpAny (model prg w) A (assign t0 env v) (fun _ s₂ => wpAny (model prg w) A (eval i1 env) (fun x s₃ => wpAny (model prg w) A (pyIter x) (fun it1 s₄ =>
          codeAny (model prg w) A (.compStart (.ListComp elt [⟨t0, i0, [], 0⟩, ⟨t1, i1, [], 0⟩] sc pos) 1 it1 acc env) (fun r s₅ => r = .ok .next ∧ Again I n s₅) s₄)
          (notedBy (model prg w) A env fun e s' => R (.error e) s') s₃) (notedBy (model prg w) A env fun e s' => R (.error e) s') s₂) (notedBy (model prg w) A env fun e s' => R (.error e) s') s₁) (notedBy (model prg w) A env fun e s' => R (.error e) s') s₁) (notedBy (model prg w) A env fun e s' => R (.error e) s') s)
    (n : Nat) (h : I n s) : codeAny (model prg w) A (.compLoop (.ListComp elt [⟨t0, i0, [], 0⟩, ⟨t1, i1, [], 0⟩] sc pos) 0 it acc env) R s := by
  refine codeAny_loop rfl I (fun n s hI => ?_) n h
  show wpAny _ A ((compTurn (.ListComp elt [⟨t0, i0, [], 0⟩, ⟨t1, i1, [], 0⟩] sc pos) 0 it acc env).onRaise (fun x => do noteFrame x env; theTreesLotGoes x)) _ _ s
  refine wpAny_noted ?_
  rw [compTurn_two0]
  refine wpAny_bind (wpAny_standAt (wpAny_bind (wpAny_mono (turn n s hI) (fun r s₁ h₁ => ?_) fun _ _ h' => h')))
  cases r with
  | none => exact wpAny_pure h₁
  | some v =>
    refine wpAny_bind (wpAny_mono h₁ (fun _ s₁' h₁' => ?_) fun _ _ h' => h')
    refine wpAny_bind (wpAny_mono h₁' (fun _ s₂ h₂ => wpAny_bind (wpAny_mono h₂ (fun x s₃ h₃ => wpAny_bind (wpAny_standAt ?_)) fun _ _ h' => h')) fun _ _ h' => h')
    rw [hf]
    refine wpAny_bind (wpAny_pure (wpAny_bind (wpAny_holding (wpAny_mono h₃ (fun it1 s₄ h₄ => wpAny_bind (wpAny_runOwn (codeAny_mono h₄ fun r s₅ h₅ => ?_))) fun _ _ h' => h'))))
    obtain ⟨rfl, ag⟩ := h₅
    exact wpAny_pure ⟨rfl, ag⟩
theorem comp2_start1 (hself : ∀ Q E, Q it s → wpAny (model prg w) A (pyIter it) Q E s)
    (h : codeAny (model prg w) A (.compLoop (.ListComp elt [⟨t0, i0, [], 0⟩, ⟨t1, i1, [], 0⟩] sc pos) 1 it acc env) R s) :
    codeAny (model prg w) A (.compStart (.ListComp elt [⟨t0, i0, [], 0⟩, ⟨t1, i1, [], 0⟩] sc pos) 1 it acc env) R s := by
  refine codeAny_of_tree ?_
  show wpAny _ _ ((compStart (.ListComp elt [⟨t0, i0, [], 0⟩, ⟨t1, i1, [], 0⟩] sc pos) 1 it acc env).onRaise (fun x => do noteFrame x env; standAt theWindowsPlace)) _ _ s
  refine wpAny_notedAt ?_
  unfold compStart
  show wpAny _ _ (ask >>= _) _ _ s
  refine wpAny_bind (wpAny_askSetting (wpAny_ite ?_))
  split
  · first
      | exact wpAny_bind (wpAny_pure (wpAny_pure (And.intro rfl h)))
      | exact wpAny_pure (And.intro rfl h)
  · first
      | exact wpAny_bind (wpAny_rule (wpAny_bind (wpAny_standAt (wpAny_bind (hself _ _ (wpAny_pure (And.intro rfl h)))))))
      | (refine wpAny_bind (wpAny_rule ?_); show wpAny _ _ (standAt i1.pos >>= _) _ _ s; exact wpAny_bind (wpAny_standAt (wpAny_bind (hself _ _ (wpAny_pure (And.intro rfl h))))))
theorem comp2_step1
    (h : wpAny (model prg w) A (pyNext it) (fun r s₁ => match r with
      | none => R (.ok .next) s₁
      | some v => wpAny (model prg w) A (letOwnedTupleGo t1 it v) (fun _ s₁ => wpAny (model prg w) A (assign t1 env v) (fun _ s₂ => wpAny (model prg w) A (eval elt env) (fun x s₃ =>
          wpAny (model prg w) A (call (.builtin "list.append") [acc, x]) (fun _ s₄ => codeAny (model prg w) A (.compLoop (.ListComp elt [⟨t0, i0, [], 0⟩, ⟨t1, i1, [], 0⟩] sc pos) 1 it acc env) R s₄) (notedBy (model prg w) A env fun e s' => R (.error e) s') s₃)
          (notedBy (model prg w) A env fun e s' => R (.error e) s') s₂) (notedBy (model prg w) A env fun e s' => R (.error e) s') s₁) (notedBy (model prg w) A env fun e s' => R (.error e) s') s₁) (notedBy (model prg w) A env fun e s' => R (.error e) s') s) :
    codeAny (model prg w) A (.compLoop (.ListComp elt [⟨t0, i0, [], 0⟩, ⟨t1, i1, [], 0⟩] sc pos) 1 it acc env) R s := by
  refine codeAny_loop' rfl (fun _ s' => s' = s) (fun n s' e => ?_) 0 rfl
  subst e
  show wpAny _ _ ((compTurn (.ListComp elt [⟨t0, i0, [], 0⟩, ⟨t1, i1, [], 0⟩] sc pos) 1 it acc env).onRaise (fun x => do noteFrame x env; theTreesLotGoes x)) _ _ _
  refine wpAny_noted ?_
  rw [compTurn_two1]
  refine wpAny_bind (wpAny_standAt (wpAny_bind (wpAny_mono h (fun r s₁ h₁ => ?_) fun _ _ h' => h')))
  cases r with
  | none => exact wpAny_pure h₁
  | some v =>
    refine wpAny_bind (wpAny_mono h₁ (fun _ s₂ h₂ => ?_) fun _ _ h' => h')
    exact wpAny_bind (wpAny_mono h₂ (fun _ s₂ h₂ => wpAny_bind (wpAny_bind (wpAny_mono h₂ (fun x s₃ h₃ => wpAny_bind (wpAny_mono h₃
      (fun _ s₄ h₄ => wpAny_pure (wpAny_pure (.inr ⟨rfl, h₄⟩))) fun _ _ h' => h')) fun _ _ h' => h'))) fun _ _ h' => h')
theorem nextN {g : Obj → List (Addr × Obj)} {i n : Nat} {v : Value} {Q : Option Value → Shared → Prop} (F : Fr h₀ L s.heap m) (N : News h₀ L s.heap news) (U : UpdF I o news g) (hm : (l, W.listOf items n) ∈ news)
    (hc : o.cls = .type "list_iterator") (hd : o.data = .fields #[.ref l, .int i 0]) (hx : items[i]? = some v)
    (k : ∀ h' o', Fr h₀ L h' m → News h₀ L h' (g o') → o'.cls = .type "list_iterator" → o'.data = .fields #[.ref l, .int (i + 1 : Nat) 0] → Q (some v) { s with heap := h' }) :
    wpAny (model prg w) A (pyNext (.ref I)) Q E s := by
  obtain ⟨pre, post, e0, e, a, b'⟩ := U.split
  have z := N (I, o) (by rw [e0]; exact List.mem_append.mpr (.inr (.head _)))
  refine wpAny_pyNext_list_item ⟨o, z.1, hc, hd⟩ (N.isList hm) hx fun h' hit hs => ?_
  obtain ⟨o', ho', hc', hd'⟩ := hit
  have q := fr_same F N U hs ho'
  exact k h' o' q.1 q.2 hc' hd'
theorem nextN_end {i n : Nat} {news' : List (Addr × Obj)} {Q : Option Value → Shared → Prop} (hh : A.handled = none) (F : Fr h₀ L s.heap m) (N : News h₀ L s.heap news) (hmI : (I, o) ∈ news) (D : DropI I news news') (hm : (l, W.listOf items n) ∈ news)
    (hc : o.cls = .type "list_iterator") (hd : o.data = .fields #[.ref l, .int i 0]) (hx : items[i]? = none)
    (k : ∀ h', Fr h₀ L h' m → News h₀ L h' news' → Q none { s with heap := h' }) : wpAny (model prg w) A (pyNext (.ref I)) Q E s := by
  refine wpAny_pyNext_list_end hh ⟨o, (N _ hmI).1, hc, hd⟩ (N.isList hm) hx fun h' hs => ?_
  have q := fr_ext F N D hs
  exact k h' q.1 q.2
theorem iterN {n : Nat} {Q : Value → Shared → Prop} (F : Fr h₀ L s.heap m) (N : News h₀ L s.heap news) (hm : (l, W.listOf items n) ∈ news)
    (k : ∀ I h' o, Fr h₀ L h' m → News h₀ L h' ((I, o) :: news) → (∀ p ∈ news, p.1 < I) → o.cls = .type "list_iterator" → o.data = .fields #[.ref l, .int (0 : Nat) 0] → Q (.ref I) { s with heap := h' }) :
    wpAny (model prg w) A (pyIter (.ref l)) Q E s :=
  wpAny_pyIter_list (N.isList hm) (k _ _ _ (F.push _) (N.push F _ rfl) (fun p hp => Heap.lt_size (N p hp).1) rfl rfl)
end
section
variable {X : Type} {g : Heap} {C : Addr} {told : X → List (Str × Value)} {led : X → List (Addr × Obj)} {Φ : Nat → Heap → X → Prop} {adr : List Addr} {A : Around} {env : Env} {I l : Addr} {s0 : Shared} {sc : Scope} {pos : Pos}
theorem comp2_listJ {elt t0 i0 t1 i1 : PySem.Expr} {acc : Value} {items : Array Value} (hf : ∀ x, foldedSetIterable i1 env x = pure x) (hh : A.handled = none) (hadr : ∀ x, (led x).map (·.1) = adr) (hIL : I ≠ C) (hI0 : g.get? I = none) (hIa : ∀ a ∈ adr, a ≠ I)
    (hl : g.IsList l items) (hst : ∀ i h h' x, Φ i h x → (∀ b o, b ≠ I → h.get? b = some o → h'.get? b = some o) → Φ i h' x)
    (hi : s0.heap.IsListIter I l 0) (h0 : LJ g s C told led Φ 0 s0)
    (step : ∀ i v oI x h tk m fz, items[i]? = some v → oI.cls = .type "list_iterator" → Fr g C h (ovr (told x) m) → News g C h ((I, oI) :: (led x ++ fz)) → (∀ q ∈ fz, (∀ a ∈ adr, q.1 ≠ a) ∧ ∀ p ∈ [(I, oI)], q.1 ≠ p.1) → (∀ b o, h.get? b = some o → b ≠ C → g.get? b = none → (∀ a ∈ adr, a ≠ b) → (∀ p ∈ [(I, oI)], p.1 ≠ b) → (b, o) ∈ fz) → Φ i h x →
      wpAny (model prg w) A (assign t0 env v) (fun _ s₂ => wpAny (model prg w) A (eval i1 env) (fun x s₃ => wpAny (model prg w) A (pyIter x) (fun it1 s₄ =>
          codeAny (model prg w) A (.compStart (.ListComp elt [⟨t0, i0, [], 0⟩, ⟨t1, i1, [], 0⟩] sc pos) 1 it1 acc env) (fun r s₅ => r = .ok .next ∧ LEnd g s C told led Φ i adr [(I, oI)] fz h s₅) s₄)
          (notedBy (model prg w) A env fun e s' => R (.error e) s') s₃) (notedBy (model prg w) A env fun e s' => R (.error e) s') s₂) (notedBy (model prg w) A env fun e s' => R (.error e) s') { s with heap := h, toks := tk })
    (hR : ∀ s', LJ g s C told led Φ items.size s' → R (.ok .next) s') : codeAny (model prg w) A (.compLoop (.ListComp elt [⟨t0, i0, [], 0⟩, ⟨t1, i1, [], 0⟩] sc pos) 0 (.ref I) acc env) R s0 := by
  have base : ∀ i s', LJ g s C told led Φ i s' → s'.heap.IsList l items := by
    rintro i s' ⟨x, h, tk, m, rfl, F, _⟩
    obtain ⟨o, ho, r⟩ := hl
    exact ⟨o, F.keep _ _ ho, r⟩
  refine comp2_turns hf (fun n s' => ∃ i, n = items.size - i ∧ i ≤ items.size ∧ s'.heap.IsListIter I l i ∧ LJ g s C told led Φ i s') ?_ items.size ⟨0, rfl, Nat.zero_le _, hi, h0⟩
  rintro n s' ⟨i, rfl, hle, hi', hJ⟩
  by_cases hlt : i < items.size
  · have hx : items[i]? = some items[i] := by simp [hlt]
    refine wpAny_pyNext_list_item hi' (base _ _ hJ) hx fun h' e1 e2 => ?_
    show wpAny _ _ (letOwnedTupleGo _ _ _) _ _ _
    refine letGo_list e1 ?_
    have hJ2 : LJ g s C told led Φ i { s' with heap := h', toks := s'.toks } := LJ.stab hadr hIL hIL hI0 hI0 hIa hIa (fun i h h' x hp k => hst i h h' x hp fun b o hb e => k b o hb hb e) (fun b o hb _ e => e2.extBut b o hb e) hJ
    obtain ⟨oI, ho, hc, hoI⟩ := itsAt e1
    obtain ⟨x, h, tk, m, fz, he, F, N, hfz, hal, hp, fin⟩ := lj_open hadr hJ2 [(I, oI)] (by
      intro p hp
      rw [List.mem_singleton.mp hp]
      exact ⟨ho, hIL, hI0⟩)
    have he' : ({ s' with heap := h' } : Shared) = { s with heap := h, toks := tk } := he
    rw [he']
    have ag : ∀ s₃, LEnd g s C told led Φ i adr [(I, oI)] fz h s₃ → Again (fun n s' => ∃ i, n = items.size - i ∧ i ≤ items.size ∧ s'.heap.IsListIter I l i ∧ LJ g s C told led Φ i s') (items.size - i) s₃ := fun s₃ h₃ => by
      obtain ⟨hJ3, hE⟩ := fin _ h₃
      exact ⟨items.size - (i + 1), by omega, i + 1, rfl, by omega, hoI _ (hE _ (.head _)), hJ3⟩
    refine wpAny_mono (step i _ oI x h tk m fz hx hc F N hfz hal hp) (fun _ s₂ h₂ => wpAny_mono h₂ (fun x s₃ h₃ => wpAny_mono h₃ (fun it1 s₄ h₄ => codeAny_mono h₄ fun r s₅ h₅ => ⟨h₅.1, ag _ h₅.2⟩) fun _ _ x => x) fun _ _ x => x) fun _ _ x => x
  · have hx : items[i]? = none := by simp; omega
    refine wpAny_pyNext_list_end hh hi' (base _ _ hJ) hx fun h' e1 => ?_
    have hi3 : i = items.size := by omega
    subst hi3
    exact hR _ (LJ.stab hadr hIL hIL hI0 hI0 hIa hIa (fun i h h' x hp k => hst i h h' x hp fun b o hb e => k b o hb hb e) (fun b o hb _ e => e1 b o hb e) hJ)
end
end
section
variable {w : World} {s : Shared} {p : Program} {loose : List Str} {mean : ExcName → Option Value} {mg mb : Str → Option Value} {R : Result → Shared → Prop}
section
variable {M : Model} {A : Around} {R : GenEnd} {Y : Protocol} {n : Nat} {s₀ : Shared} {c : Code} {fs : List Frame} {env : Env}
  {K : Flow → Sem Fin} {H : Value → Sem Fin} {gd : Bool → Bool} {lv : List Value → List Value}
theorem seg_exec_quiet {st : Stmt} (h : wpAny M (A.over c fs) (exec st env) (fun f s' => Seg M A R Y n s₀ c (K f) fs s') (fun x s' => Seg M A R Y n s₀ c (H x) fs s') s) :
    Seg M A R Y n s₀ c ((exec st env).wrap K H gd lv) fs s := seg_wrap h
theorem seg_If {test : PySem.Expr} {body orelse : List Stmt} {pos : Pos}
    (h : wpAny M (A.over c fs) (isTrue test env (eval test env)) (fun b s' => Seg M A R Y n s₀ c ((execs (if b = true then body else orelse) env).wrap K H gd lv) fs s') (fun x s' => Seg M A R Y n s₀ c (H x) fs s') s) :
    Seg M A R Y n s₀ c ((exec (.If test body orelse pos) env).wrap K H gd lv) fs s := by
  show Seg M A R Y n s₀ c (.at pos fun _ => ((isTrue test env (eval test env)) >>= fun b => if b = true then execs body env else execs orelse env).wrap K H gd lv) fs s
  refine seg_at ?_
  rw [Sem.bind_eq_wrap', Sem.wrap_wrap]
  refine seg_wrap (wpAny_mono h (fun b s' h' => ?_) fun _ _ x => x)
  cases b with
  | true => exact h'
  | false => exact h'
theorem seg_For {target iter : PySem.Expr} {body orelse : List Stmt} {pos : Pos} (hf : ∀ x, foldedSetIterable iter env x = pure x)
    (h : wpAny M (A.over c fs) (eval iter env) (fun x s₁ => wpAny M (A.over c fs) (pyIter x) (fun it s₂ => ∀ p, Seg M A R Y n s₀ (.forLoop target it body orelse env) (M.den (.forLoop target it body orelse env))
      (.ret (fun r => ((match r with | .ok f => (.pure f : Sem Flow) | .error e => .raise e).onRaise fun (x : Value) => do
        if (← field x 1) == Value.none then unsupported "frame.own-activation:exception-without-traceback"
        setFlight x env.frame).wrap K H gd lv) none (gd false) (lv []) c p [] :: fs) s₂) (fun x s' => Seg M A R Y n s₀ c (H x) fs s') s₁) (fun x s' => Seg M A R Y n s₀ c (H x) fs s') s) :
    Seg M A R Y n s₀ c ((exec (.For target iter body orelse pos) env).wrap K H gd lv) fs s := by
  have e : exec (.For target iter body orelse pos) env = (standAt pos >>= fun _ => eval iter env >>= fun x => foldedSetIterable iter env x >>= fun x => standAt iter.pos >>= fun _ => holding [x] (pyIter x) >>= fun it => runOwn (.forLoop target it body orelse env) env) := rfl
  rw [e]
  refine seg_bind_wrap (wpAny_standAt (seg_bind_wrap (wpAny_mono h (fun x s₁ h₁ => ?_) fun _ _ x => x)))
  rw [hf]
  refine seg_bind_wrap (wpAny_pure (seg_bind_wrap (wpAny_standAt (seg_bind_wrap (wpAny_holding (wpAny_mono h₁ (fun it s₂ h₂ => ?_) fun _ _ x => x))))))
  exact seg_call h₂
end
section
variable {A : Around} {R : GenEnd} {Y : Protocol} {n : Nat} {s₀ : Shared} {fs : List Frame} {env : Env}
noncomputable def forK (target : PySem.Expr) (it : Value) (body : List Stmt) (env : Env) : Flow → Sem Fin := fun f => match f with
  | .next | .cont => .pure (.again (.forLoop target it body [] env))
  | .brk => .pure (.done .next)
  | .ret v => .pure (.done (.ret v))
noncomputable def forH (env : Env) : Value → Sem Fin := fun e => (do noteFrame e env; theTreesLotGoes e : Sem Unit).wrap (fun _ => .raise e) .raise id id
theorem seg_forLoop {target : PySem.Expr} {it : Value} {body : List Stmt}
    (h : wpAny (model prg w) (A.over (.forLoop target it body [] env) fs) (pyNext it) (fun r s₁ => match r with
      | none => Seg (model prg w) A R Y n s₀ (.block [] env) (leafOf (.ok .next)) fs s₁
      | some v => wpAny (model prg w) (A.over (.forLoop target it body [] env) fs) (letOwnedTupleGo target it v) (fun _ s₂ => wpAny (model prg w) (A.over (.forLoop target it body [] env) fs) (assign target env v) (fun _ s₃ =>
          Seg (model prg w) A R Y n s₀ (.forLoop target it body [] env) ((execs body env).wrap (forK target it body env) (forH env) id id) fs s₃) (fun _ _ => False) s₂) (fun _ _ => False) s₁) (fun _ _ => False) s) :
    Seg (model prg w) A R Y n s₀ (.forLoop target it body [] env) ((model prg w).den (.forLoop target it body [] env)) fs s := by
  show Seg _ A R Y n s₀ _ ((forTurn target it body [] env).onRaise (fun x => do noteFrame x env; theTreesLotGoes x)) fs s
  unfold forTurn
  rw [Sem.onRaise_eq_wrap]
  refine seg_bind_wrap (wpAny_standAt (seg_bind_wrap (wpAny_onRaise (wpAny_mono h (fun r s₁ h₁ => ?_) fun _ _ x => x.elim))))
  cases r with
  | none =>
    show Seg _ A R Y n s₀ _ (.pure (.again (.block [] env))) fs s₁
    refine seg_again rfl ?_
    exact h₁
  | some v =>
    refine seg_bind_wrap (wpAny_mono h₁ (fun _ s₂ h₂ => seg_bind_wrap (wpAny_mono h₂ (fun _ s₃ h₃ => ?_) fun _ _ x => x.elim)) fun _ _ x => x.elim)
    rw [Sem.bind_eq_wrap', Sem.wrap_wrap]
    rw [Sem.wrap_congr (execs body env) _ _ (K' := forK target it body env) (H' := forH env) (fun f => by cases f <;> rfl)
      (fun e => by first | exact Sem.bind_eq_wrap _ _ | (show (do noteFrame e env; theTreesLotGoes e : Sem Unit).bind (fun _ => .raise e) = _; rw [Sem.bind_eq_wrap]; rfl))]
    exact h₃
end
end
section
variable {w : World} {s : Shared} {p : Program} {loose : List Str} {mean : ExcName → Option Value} {mg mb : Str → Option Value} {R : Result → Shared → Prop}
noncomputable def tagOf (side : Nat) : Str := if side = 1 then Str.ofString "- " else Str.ofString "+ "
noncomputable def outOf (side : Nat) (del : List Str) : List Str := del.filterMap fun d => if Txt.slice d none (some 2) = Str.ofString "  " ∨ Txt.slice d none (some 2) = tagOf side then some (Txt.slice d (some 2) none) else none
noncomputable def rowsOf (side : Nat) (ls : List LInf) : List (Array UInt8) := ls.filterMap fun q => if q.2.1 = Str.ofString "  " ∨ q.2.1 = tagOf side then some q.2.2 else none
theorem t01 : Str.ofString "  " ≠ Str.ofString "- " := by decide
theorem t02 : Str.ofString "  " ≠ Str.ofString "+ " := by decide
theorem t12 : Str.ofString "- " ≠ Str.ofString "+ " := by decide
theorem numB_small {x : Int} (h0 : 0 ≤ x) (h1 : x < 256) : numB x = #[0, 0, x.toNat.toUInt8] := by
  have e1 : x.fdiv 256 = 0 := by rw [Int.fdiv_eq_ediv_of_nonneg _ (by omega)]; omega
  have e2 : x.fmod 256 = x := by rw [Int.fmod_eq_emod_of_nonneg _ (by omega)]; omega
  unfold numB
  rw [e1, e2]
  rfl
theorem u8_toNat {x : Int} (h0 : 0 ≤ x) (h1 : x < 256) : (x.toNat.toUInt8).toNat = x.toNat := by
  have : x.toNat < 256 := by omega
  simp [Nat.toUInt8, UInt8.ofNat, UInt8.toNat]
  omega
theorem numB_inj {x y : Int} (h0 : 0 ≤ x) (h1 : x < 256) (k0 : 0 ≤ y) (k1 : y < 256) (h : numB x = numB y) : x = y := by
  rw [numB_small h0 h1, numB_small k0 k1] at h
  have e : x.toNat.toUInt8 = y.toNat.toUInt8 := by simpa using h
  have e2 := congrArg UInt8.toNat e
  rw [u8_toNat h0 h1, u8_toNat k0 k1] at e2
  omega
theorem order_last {a b : UInt8} (h : a < b) : Builtin.Bytes.order [0, 0, a] [0, 0, b] = .lt := by
  have z : ¬ (0 : UInt8) < 0 := by decide
  simp only [Builtin.Bytes.order, gt_iff_lt, z, if_false, h, if_true]
theorem plt_num {a b : LInf} (ha : 0 ≤ a.1) (hb : b.1 < 256) (h : a.1 < b.1) : pltP (kc a) (kc b) = true := by
  unfold pltP pltB kc
  dsimp only
  have e1 := numB_small ha (by omega)
  have e2 := numB_small (by omega) hb
  have hlt : a.1.toNat.toUInt8 < b.1.toNat.toUInt8 := by
    show (_ : UInt8).toNat < (_ : UInt8).toNat
    rw [u8_toNat ha (by omega), u8_toNat (by omega) hb]
    omega
  have hne : (numB a.1).toList ≠ (numB b.1).toList := fun e => by
    have := numB_inj ha (by omega) (by omega) hb (Array.toList_inj.mp e)
    omega
  rw [if_neg hne, e1, e2]
  show Builtin.Bytes.holds "__lt__" (Builtin.Bytes.order [0, 0, a.1.toNat.toUInt8] [0, 0, b.1.toNat.toUInt8]) = true
  rw [order_last hlt]
  rfl
theorem plt_tag {a b : LInf} (h : a.1 = b.1) (ha : a.2.1 = Str.ofString "  ") (hb : b.2.1 = Str.ofString "- ") : pltP (kc a) (kc b) = true := by
  unfold pltP pltB kc
  dsimp only
  rw [h, if_pos rfl, ha, hb]
  have e1 : (Str.ofString "  " ++ txt a.2.2).cps.toList = 32 :: 32 :: (txt a.2.2).cps.toList := by
    rw [tag0]
    show ((⟨#[32, 32] ++ (txt a.2.2).cps⟩ : Str)).cps.toList = _
    simp
  have e2 : (Str.ofString "- " ++ txt b.2.2).cps.toList = 45 :: 32 :: (txt b.2.2).cps.toList := by
    rw [tag1]
    show ((⟨#[45, 32] ++ (txt b.2.2).cps⟩ : Str)).cps.toList = _
    simp
  rw [if_neg, e1, e2]
  · rw [decide_eq_true_eq]
    exact List.Lex.rel (by decide)
  · intro e
    have := congrArg (fun z : Str => z.cps.toList) e
    rw [e1, e2] at this
    exact absurd (List.cons.inj this).1 (by decide)
noncomputable def elemOf (xs : List Int) (q : LInf) : Prop := ∃ (k : Nat) (x : Int), xs[k]? = some x ∧
  ((q.1 = 3 * (k : Int) ∧ q.2.2 = rowOf x ∧ (q.2.1 = Str.ofString "  " ∨ q.2.1 = Str.ofString "- ")) ∨ (∃ hand : Nat, hand < 2 ∧ q.1 = 3 * (k : Int) + 1 + hand ∧ q.2.1 = Str.ofString "+ " ∧ q.2.2 = layOf hand x))
theorem elem_at {hand k : Nat} {x : Int} {xs : List Int} {q : LInf} (hh : hand < 2) (hx : xs[k]? = some x) (h : q ∈ linesAt hand k x) : elemOf xs q := by
  refine ⟨k, x, hx, ?_⟩
  unfold linesAt at h
  rcases List.mem_cons.mp h with rfl | h
  · refine .inl ⟨rfl, rfl, ?_⟩
    dsimp only
    split
    · exact .inr rfl
    · exact .inl rfl
  · split at h
    · rw [List.mem_singleton.mp h]
      exact .inr ⟨hand, hh, rfl, rfl, rfl⟩
    · cases h
theorem elem_up {hand : Nat} {xs : List Int} {q : LInf} (hh : hand < 2) : ∀ {n : Nat}, q ∈ linesUp hand xs n → elemOf xs q
  | 0, h => nomatch h
  | n + 1, h => by
    rw [linesUp] at h
    rcases List.mem_append.mp h with h | h
    · exact elem_up hh h
    · split at h
      · next x hx => exact elem_at hh hx h
      · cases h
theorem layRow (hand : Nat) (x : Int) : IsRow (layOf hand x) := by
  unfold layOf
  split
  · exact .inr ⟨_, _, _, rfl⟩
  · exact .inr ⟨_, _, _, rfl⟩
theorem elem_ok {xs : List Int} {q : LInf} (hlen : xs.length ≤ 80) (h : elemOf xs q) : okP q := by
  obtain ⟨k, x, hx, h⟩ := h
  have hk : k < xs.length := by
    by_cases hc : k < xs.length
    · exact hc
    · rw [List.getElem?_eq_none (by omega)] at hx; cases hx
  rcases h with ⟨a, b, c⟩ | ⟨hand, a0, a, b, c⟩
  · refine ⟨by omega, by omega, ?_, ?_⟩
    · rcases c with c | c
      · exact .inl c
      · exact .inr (.inl c)
    · rw [b]; exact .inl ⟨_, _, rfl⟩
  · refine ⟨by omega, by omega, .inr (.inr b), ?_⟩
    rw [c]; exact layRow _ _
noncomputable def leL (a b : LInf) : Prop := a.1 < b.1 ∨ (a.1 = b.1 ∧ (a.2.1 = Str.ofString "  " ∨ b.2.1 ≠ Str.ofString "  "))
theorem leL_of {xs : List Int} {a b : LInf} (hlen : xs.length ≤ 80) (ha : elemOf xs a) (hb : elemOf xs b) (h : pltP (kc b) (kc a) = false) : leL a b := by
  obtain ⟨oa1, oa2, _⟩ := elem_ok hlen ha
  obtain ⟨ob1, ob2, _⟩ := elem_ok hlen hb
  rcases Int.lt_trichotomy a.1 b.1 with h1 | h1 | h1
  · exact .inl h1
  · refine .inr ⟨h1, ?_⟩
    false_or_by_contra
    rename_i hn
    have hn1 : a.2.1 ≠ Str.ofString "  " := fun e => hn (.inl e)
    have hn2 : b.2.1 = Str.ofString "  " := Decidable.byContradiction fun e => hn (.inr e)
    obtain ⟨k, x, hx, z⟩ := ha
    obtain ⟨k', x', hx', z'⟩ := hb
    rcases z' with ⟨a1, a2, a3⟩ | ⟨hd', c0, c1, c2, c3⟩
    · rcases z with ⟨b1, b2, b3⟩ | ⟨hd, d0, d1, d2, d3⟩
      · rcases b3 with b3 | b3
        · exact hn1 b3
        · rw [plt_tag h1.symm hn2 b3] at h; cases h
      · omega
    · rw [c2] at hn2
      exact t02 hn2.symm
  · rw [plt_num ob1 oa2 h1] at h; cases h
theorem leL_anti {xs : List Int} {a b : LInf} (ha : elemOf xs a) (hb : elemOf xs b) (h : leL a b) (h' : leL b a) : a = b := by
  have e1 : a.1 = b.1 := by
    rcases h with h | h
    · rcases h' with h' | h' <;> omega
    · exact h.1
  have h2 : a.2.1 = Str.ofString "  " ∨ b.2.1 ≠ Str.ofString "  " := by
    rcases h with h | h
    · omega
    · exact h.2
  have h3 : b.2.1 = Str.ofString "  " ∨ a.2.1 ≠ Str.ofString "  " := by
    rcases h' with h' | h'
    · omega
    · exact h'.2
  obtain ⟨k, x, hx, z⟩ := ha
  obtain ⟨k', x', hx', z'⟩ := hb
  obtain ⟨an, at', ar⟩ := a
  obtain ⟨bn, bt, br⟩ := b
  dsimp only at *
  rcases z with ⟨b1, b2, b3⟩ | ⟨hd, d0, d1, d2, d3⟩
  · rcases z' with ⟨a1, a2, a3⟩ | ⟨hd', c0, c1, c2, c3⟩
    · have ek : k = k' := by omega
      subst ek
      rw [hx] at hx'
      cases hx'
      subst b2 a2 e1
      rcases b3 with rfl | rfl
      · rcases a3 with rfl | rfl
        · rfl
        · rcases h3 with h3 | h3
          · exact absurd h3.symm t01
          · exact absurd rfl h3
      · rcases a3 with rfl | rfl
        · rcases h2 with h2 | h2
          · exact absurd h2.symm t01
          · exact absurd rfl h2
        · rfl
    · omega
  · rcases z' with ⟨a1, a2, a3⟩ | ⟨hd', c0, c1, c2, c3⟩
    · omega
    · have ek : k = k' := by omega
      have eh : hd = hd' := by omega
      subst ek eh
      rw [hx] at hx'
      cases hx'
      subst e1 d2 d3 c2 c3
      rfl
noncomputable def laysAt (k : Nat) (x : Int) : List LInf :=
  (if bitOf x 2 then [(3 * (k : Int) + 1, Str.ofString "+ ", layOf 0 x)] else []) ++ (if bitOf x 3 then [(3 * (k : Int) + 2, Str.ofString "+ ", layOf 1 x)] else [])
noncomputable def canonAt (k : Nat) (x : Int) : List LInf :=
  (if bitOf x 0 ∧ bitOf x 1 then [(3 * (k : Int), Str.ofString "- ", rowOf x), (3 * (k : Int), Str.ofString "- ", rowOf x)]
   else if bitOf x 0 ∨ bitOf x 1 then [(3 * (k : Int), Str.ofString "  ", rowOf x), (3 * (k : Int), Str.ofString "- ", rowOf x)]
   else [(3 * (k : Int), Str.ofString "  ", rowOf x), (3 * (k : Int), Str.ofString "  ", rowOf x)]) ++ laysAt k x
noncomputable def canon (xs : List Int) : Nat → List LInf
  | 0 => []
  | i + 1 => canon xs i ++ (match xs[i]? with | some x => canonAt i x | none => [])
theorem lines_two (k : Nat) (x : Int) : (linesAt 0 k x ++ linesAt 1 k x).Perm (canonAt k x) := by
  have e2 : 3 * (k : Int) + 1 + ((1 : Nat) : Int) = 3 * (k : Int) + 2 := by omega
  have e1 : 3 * (k : Int) + 1 + ((0 : Nat) : Int) = 3 * (k : Int) + 1 := by omega
  unfold linesAt canonAt laysAt
  rw [e1, e2]
  by_cases b0 : bitOf x 0 <;> by_cases b1 : bitOf x 1 <;> by_cases b2 : bitOf x 2 <;> by_cases b3 : bitOf x 3 <;>
    simp only [bitOf, Bool.false_eq_true, b0, b1, b2, b3, and_self, and_true, and_false, true_and, false_and, or_self, or_true, or_false, true_or, false_or, if_true, if_false, List.cons_append, List.nil_append, List.append_nil, Nat.reduceAdd] <;>
    first
    | exact List.Perm.refl _
    | exact List.Perm.swap _ _ _
    | exact List.Perm.cons _ (List.Perm.swap _ _ _)
    | exact ((List.Perm.cons _ (List.Perm.swap _ _ _)).trans (List.Perm.swap _ _ _))
    | exact (List.Perm.swap _ _ _).trans (List.Perm.cons _ (List.Perm.swap _ _ _))
theorem canon_perm (xs : List Int) : ∀ n, (linesUp 0 xs n ++ linesUp 1 xs n).Perm (canon xs n)
  | 0 => .refl _
  | n + 1 => by
    rw [linesUp, linesUp, canon]
    cases xs[n]? with
    | none => simpa using canon_perm xs n
    | some x =>
      dsimp only
      have h := canon_perm xs n
      have h2 := lines_two n x
      generalize linesAt 0 n x = a at *
      generalize linesAt 1 n x = b at *
      refine List.Perm.trans ?_ (h.append h2)
      rw [List.append_assoc, List.append_assoc]
      refine List.Perm.append_left _ ?_
      rw [← List.append_assoc, ← List.append_assoc]
      exact List.Perm.append_right _ List.perm_append_comm
theorem canonAt_num (k : Nat) (x : Int) : ∀ q ∈ canonAt k x, 3 * (k : Int) ≤ q.1 ∧ q.1 ≤ 3 * (k : Int) + 2 := by
  unfold canonAt laysAt
  by_cases b0 : bitOf x 0 <;> by_cases b1 : bitOf x 1 <;> by_cases b2 : bitOf x 2 <;> by_cases b3 : bitOf x 3 <;>
    simp only [bitOf, Bool.false_eq_true, b0, b1, b2, b3, and_self, and_true, and_false, true_and, false_and, or_self, or_true, or_false, true_or, false_or, if_true, if_false, List.cons_append, List.nil_append, List.append_nil, List.forall_mem_cons, List.forall_mem_nil] <;> (repeat' apply And.intro) <;> first | omega | exact fun q h => nomatch h | trivial
theorem canon_num (xs : List Int) : ∀ n, ∀ q ∈ canon xs n, q.1 < 3 * (n : Int)
  | 0, q, h => nomatch h
  | n + 1, q, h => by
    rw [canon] at h
    rcases List.mem_append.mp h with h | h
    · have := canon_num xs n q h; omega
    · split at h
      · have := canonAt_num _ _ q h; omega
      · cases h
theorem canonAt_sorted (k : Nat) (x : Int) : (canonAt k x).Pairwise leL := by
  have u1 := Ne.symm t01
  have u2 := Ne.symm t02
  unfold canonAt laysAt
  by_cases b0 : bitOf x 0 <;> by_cases b1 : bitOf x 1 <;> by_cases b2 : bitOf x 2 <;> by_cases b3 : bitOf x 3 <;>
    simp only [bitOf, Bool.false_eq_true, b0, b1, b2, b3, and_self, and_true, and_false, true_and, false_and, or_self, or_true, or_false, true_or, false_or, if_true, if_false, List.cons_append, List.nil_append, List.append_nil] <;> (simp [leL, u1, u2] <;> omega)
theorem canon_sorted (xs : List Int) : ∀ n, (canon xs n).Pairwise leL
  | 0 => .nil
  | n + 1 => by
    rw [canon]
    refine List.pairwise_append.mpr ⟨canon_sorted xs n, ?_, fun a ha b hb => ?_⟩
    · split
      · exact canonAt_sorted _ _
      · exact .nil
    · have h1 := canon_num xs n a ha
      split at hb
      · have := canonAt_num _ _ b hb
        exact .inl (by omega)
      · cases hb
theorem pp_canon {xs : List Int} {pp : List LInf} (hlen : xs.length ≤ 80) (h : pp.Perm (linesUp 0 xs xs.length ++ linesUp 1 xs xs.length)) (hs : pp.Pairwise fun a b => pltP (kc b) (kc a) = false) : pp = canon xs xs.length := by
  have el : ∀ q ∈ pp, elemOf xs q := fun q hq => by
    rcases List.mem_append.mp (h.mem_iff.mp hq) with e | e
    · exact elem_up (by omega) e
    · exact elem_up (by omega) e
  have hp : pp.Perm (canon xs xs.length) := h.trans (canon_perm xs _)
  refine List.Perm.eq_of_pairwise (le := leL) (fun a b ha hb => leL_anti (el a ha) (el b (hp.mem_iff.mpr hb))) ?_ (canon_sorted _ _) hp
  exact hs.imp_of_mem fun ha hb hab => leL_of hlen (el _ ha) (el _ hb) hab
noncomputable def laidAt (k : Nat) (x : Int) : List LInf := (3 * (k : Int), (if bitOf x 0 ∨ bitOf x 1 then Str.ofString "- " else Str.ofString "  "), rowOf x) :: laysAt k x
noncomputable def laidUp (xs : List Int) : Nat → List LInf
  | 0 => []
  | i + 1 => laidUp xs i ++ (match xs[i]? with | some x => laidAt i x | none => [])
theorem laid_fold {k : Nat} {x : Int} {ls : List LInf} {last : Array UInt8} (hk : 3 * (k : Int) + 2 < 256) (h : numB (3 * (k : Int)) ≠ last) :
    ∃ z, 3 * (k : Int) ≤ z ∧ z ≤ 3 * (k : Int) + 2 ∧ (canonAt k x).foldl laidS (ls, last) = (ls ++ laidAt k x, numB z) := by
  have d1 : numB (3 * (k : Int) + 1) ≠ numB (3 * (k : Int)) := fun e => by have := numB_inj (by omega) (by omega) (by omega) (by omega) e; omega
  have d2 : numB (3 * (k : Int) + 2) ≠ numB (3 * (k : Int)) := fun e => by have := numB_inj (by omega) (by omega) (by omega) (by omega) e; omega
  have d3 : numB (3 * (k : Int) + 2) ≠ numB (3 * (k : Int) + 1) := fun e => by have := numB_inj (by omega) (by omega) (by omega) (by omega) e; omega
  have lays : ∀ ls', ∃ z, 3 * (k : Int) ≤ z ∧ z ≤ 3 * (k : Int) + 2 ∧ (laysAt k x).foldl laidS (ls', numB (3 * (k : Int))) = (ls' ++ laysAt k x, numB z) := fun ls' => by
    unfold laysAt
    by_cases b2 : bitOf x 2 <;> by_cases b3 : bitOf x 3
    · refine ⟨3 * (k : Int) + 2, by omega, by omega, ?_⟩
      simp only [bitOf, Bool.false_eq_true, b2, b3, if_true, List.foldl_append, List.foldl_cons, List.foldl_nil, laidS, ne_eq, d1, d3, not_false_eq_true, List.append_assoc]
    · refine ⟨3 * (k : Int) + 1, by omega, by omega, ?_⟩
      simp only [bitOf, Bool.false_eq_true, b2, b3, if_true, if_false, List.append_nil, List.foldl_append, List.foldl_cons, List.foldl_nil, laidS, ne_eq, d1, d3, not_false_eq_true, List.append_assoc]
    · refine ⟨3 * (k : Int) + 2, by omega, by omega, ?_⟩
      simp only [bitOf, Bool.false_eq_true, b2, b3, if_true, if_false, List.nil_append, List.foldl_append, List.foldl_cons, List.foldl_nil, laidS, ne_eq, d2, d3, not_false_eq_true, List.append_assoc]
    · refine ⟨3 * (k : Int), by omega, by omega, ?_⟩
      simp only [bitOf, Bool.false_eq_true, b2, b3, if_false, List.append_nil, List.foldl_nil]
  unfold canonAt laidAt
  rw [List.foldl_append]
  by_cases b0 : bitOf x 0 <;> by_cases b1 : bitOf x 1 <;>
    simp only [bitOf, Bool.false_eq_true, b0, b1, and_self, and_true, and_false, true_and, false_and, or_self, or_true, or_false, true_or, false_or, if_true, if_false, List.foldl_cons, List.foldl_nil, laidS, ne_eq, h, not_false_eq_true, not_true_eq_false, List.dropLast_concat, t01]
  all_goals (obtain ⟨z, z1, z2, z3⟩ := lays _; refine ⟨z, z1, z2, ?_⟩; rw [z3, List.append_assoc, List.singleton_append])
theorem laid_canon {xs : List Int} (hlen : xs.length ≤ 80) : ∀ n, n ≤ xs.length → ∃ last, laidF (canon xs n) = (laidUp xs n, last) ∧ ∀ z : Int, 3 * (n : Int) ≤ z → z < 256 → numB z ≠ last
  | 0, _ => ⟨#[], rfl, fun z _ _ => numB_ne z⟩
  | n + 1, h => by
    obtain ⟨last, e, hl⟩ := laid_canon hlen n (by omega)
    have hx : xs[n]? = some (xs[n]'(by omega)) := by simp [show n < xs.length from h]
    obtain ⟨z, z1, z2, z3⟩ := laid_fold (k := n) (x := xs[n]'(by omega)) (ls := laidUp xs n) (last := last) (by omega) (hl _ (by omega) (by omega))
    refine ⟨numB z, ?_, fun y hy hy2 e => ?_⟩
    · rw [canon, laidUp, hx]
      dsimp only
      unfold laidF at e ⊢
      rw [List.foldl_append, e, z3]
    · have := numB_inj (by omega) hy2 (by omega) (by omega) e
      omega
theorem rows_app (side : Nat) (a b : List LInf) : rowsOf side (a ++ b) = rowsOf side a ++ rowsOf side b := List.filterMap_append
theorem rows_lay1 (k : Nat) (x : Int) : rowsOf 1 (laysAt k x) = [] := by
  have u2 := Ne.symm t02
  have u3 := Ne.symm t12
  unfold laysAt
  rw [rows_app]
  by_cases b2 : bitOf x 2 <;> by_cases b3 : bitOf x 3 <;> simp [bitOf, rowsOf, tagOf, b2, b3, u2, u3]
theorem rows_lay2 (k : Nat) (x : Int) : rowsOf 2 (laysAt k x) = (if bitOf x 2 then [layOf 0 x] else []) ++ (if bitOf x 3 then [layOf 1 x] else []) := by
  unfold laysAt
  rw [rows_app]
  by_cases b2 : bitOf x 2 <;> by_cases b3 : bitOf x 3 <;> simp [bitOf, rowsOf, tagOf, b2, b3]
theorem rows_laid1 (k : Nat) (x : Int) : rowsOf 1 (laidAt k x) = dueAt [] x := by
  have u1 := Ne.symm t01
  unfold laidAt
  rw [← List.singleton_append, rows_app, rows_lay1]
  by_cases b : bitOf x 0 ∨ bitOf x 1 <;> simp [bitOf, rowsOf, tagOf, dueAt, b, u1]
theorem rows_laid2 (k : Nat) (x : Int) : rowsOf 2 (laidAt k x) = dueAt [0, 1] x := by
  have u1 := Ne.symm t01
  unfold laidAt
  rw [← List.singleton_append, rows_app, rows_lay2]
  by_cases b : bitOf x 0 ∨ bitOf x 1 <;> simp [bitOf, rowsOf, tagOf, dueAt, b, u1, t12]
theorem rows_line1 {hand : Nat} (hh : hand < 2) (k : Nat) (x : Int) : rowsOf 1 (linesAt hand k x) = dueAt [] x := by
  have u1 := Ne.symm t01
  have u2 := Ne.symm t02
  have u3 := Ne.symm t12
  unfold linesAt
  by_cases b : bitOf x hand <;> by_cases b2 : bitOf x (2 + hand) <;> simp [bitOf, rowsOf, tagOf, dueAt, b, b2, u1, u2, u3]
theorem rows_line2 {hand : Nat} (hh : hand < 2) (k : Nat) (x : Int) : rowsOf 2 (linesAt hand k x) = dueAt [hand] x := by
  have u1 := Ne.symm t01
  unfold linesAt
  rcases (show hand = 0 ∨ hand = 1 by omega) with rfl | rfl
  · by_cases b : bitOf x 0 <;> by_cases b2 : bitOf x 2 <;> simp [bitOf, rowsOf, tagOf, dueAt, b, b2, u1, t12]
  · by_cases b : bitOf x 1 <;> by_cases b2 : bitOf x 3 <;> simp [bitOf, rowsOf, tagOf, dueAt, b, b2, u1, t12]
theorem rows_up {side : Nat} {hs : List Nat} {xs : List Int} {f : Nat → List LInf} {g : Nat → Int → List LInf} (h0 : f 0 = []) (hf : ∀ i, f (i + 1) = f i ++ (match xs[i]? with | some x => g i x | none => [])) (hg : ∀ i x, rowsOf side (g i x) = dueAt hs x) :
    ∀ n, n ≤ xs.length → rowsOf side (f n) = dueUp hs xs n
  | 0, _ => by rw [h0]; rfl
  | n + 1, h => by
    have hx : xs[n]? = some (xs[n]'(by omega)) := by simp [show n < xs.length from h]
    rw [hf, hx, rows_app, rows_up h0 hf hg n (by omega), dueUp_succ hx]
    dsimp only
    rw [hg]
theorem rows_lines1 {hand : Nat} (hh : hand < 2) (xs : List Int) : rowsOf 1 (linesUp hand xs xs.length) = dueUp [] xs xs.length :=
  rows_up (f := linesUp hand xs) (g := linesAt hand) rfl (fun _ => rfl) (fun _ _ => rows_line1 hh _ _) _ (Nat.le_refl _)
theorem rows_lines2 {hand : Nat} (hh : hand < 2) (xs : List Int) : rowsOf 2 (linesUp hand xs xs.length) = dueUp [hand] xs xs.length :=
  rows_up (f := linesUp hand xs) (g := linesAt hand) rfl (fun _ => rfl) (fun _ _ => rows_line2 hh _ _) _ (Nat.le_refl _)
theorem rows_pp1 {xs : List Int} {pp : List LInf} (hlen : xs.length ≤ 80) (h : pp.Perm (linesUp 0 xs xs.length ++ linesUp 1 xs xs.length)) (hs : pp.Pairwise fun a b => pltP (kc b) (kc a) = false) : rowsOf 1 (laidF pp).1 = dueUp [] xs xs.length := by
  obtain ⟨last, e, _⟩ := laid_canon hlen _ (Nat.le_refl _)
  rw [pp_canon hlen h hs, e]
  exact rows_up (f := laidUp xs) (g := laidAt) rfl (fun _ => rfl) (fun _ _ => rows_laid1 _ _) _ (Nat.le_refl _)
theorem rows_pp2 {xs : List Int} {pp : List LInf} (hlen : xs.length ≤ 80) (h : pp.Perm (linesUp 0 xs xs.length ++ linesUp 1 xs xs.length)) (hs : pp.Pairwise fun a b => pltP (kc b) (kc a) = false) : rowsOf 2 (laidF pp).1 = dueUp [0, 1] xs xs.length := by
  obtain ⟨last, e, _⟩ := laid_canon hlen _ (Nat.le_refl _)
  rw [pp_canon hlen h hs, e]
  exact rows_up (f := laidUp xs) (g := laidAt) rfl (fun _ => rfl) (fun _ _ => rows_laid2 _ _) _ (Nat.le_refl _)
theorem laid_ok {xs : List Int} {pp : List LInf} (hlen : xs.length ≤ 80) (h : pp.Perm (linesUp 0 xs xs.length ++ linesUp 1 xs xs.length)) : ∀ q ∈ (laidF pp).1, okP q := by
  have el : ∀ q ∈ pp, okP q := fun q hq => by
    rcases List.mem_append.mp (h.mem_iff.mp hq) with e | e
    · exact elem_ok hlen (elem_up (by omega) e)
    · exact elem_ok hlen (elem_up (by omega) e)
  have go : ∀ (l : List LInf) (st : List LInf × Array UInt8), (∀ q ∈ l, okP q) → (∀ q ∈ st.1, okP q) → ∀ q ∈ (l.foldl laidS st).1, okP q := fun l => by
    induction l with
    | nil => exact fun st _ k => k
    | cons a l ih =>
      intro st hl hst
      rw [List.foldl_cons]
      refine ih _ (fun q hq => hl q (.tail _ hq)) fun q hq => ?_
      unfold laidS at hq
      split at hq
      · rcases List.mem_append.mp hq with e | e
        · exact hst q e
        · rw [List.mem_singleton.mp e]; exact hl a (.head _)
      · split at hq
        · rcases List.mem_append.mp hq with e | e
          · exact hst q (List.dropLast_subset _ e)
          · rw [List.mem_singleton.mp e]; exact hl a (.head _)
        · exact hst q hq
  exact go pp _ el fun q hq => nomatch hq
noncomputable def hintS : Str := Str.ofString "? ++"
noncomputable def hintAt (q : LInf) : List Str := if q.2.1 = Str.ofString "- " then [lineOf q, hintS] else [lineOf q]
noncomputable def hintUp (ls : List LInf) (i : Nat) : List Str := (ls.take i).flatMap hintAt
theorem hintUp_succ {ls : List LInf} {i : Nat} {q : LInf} (h : ls[i]? = some q) : hintUp ls (i + 1) = hintUp ls i ++ hintAt q := by
  unfold hintUp
  rw [List.take_add_one, h, List.flatMap_append]
  simp
theorem out_hint {side : Nat} (hs : side = 1 ∨ side = 2) : outOf side [hintS] = [] := by
  rcases hs with rfl | rfl <;> decide +kernel
theorem out_line {side : Nat} {q : LInf} (h : okP q) : outOf side [lineOf q] = (rowsOf side [q]).map txt := by
  obtain ⟨c0, c1, c2, c3, e, f, g, i, j, k, p1, p2, p3, p4, p5, p6⟩ := pk_form h
  have e2 : txt q.2.2 = ⟨#[g, i, j, k]⟩ := by
    have : q.2.1 ++ txt q.2.2 = ⟨#[e, f, g, i, j, k]⟩ := p2
    rw [p6] at this
    have t : (⟨#[e, f] ++ (txt q.2.2).cps⟩ : Str) = ⟨#[e, f, g, i, j, k]⟩ := this
    have t2 := congrArg (fun z : Str => z.cps.toList) t
    refine str_ext ?_
    simpa using t2
  unfold outOf rowsOf
  rw [p2]
  simp only [List.filterMap_cons, List.filterMap_nil, cut2, cut2r, ← p6]
  by_cases hc : q.2.1 = Str.ofString "  " ∨ q.2.1 = tagOf side
  · simp only [hc, if_true, List.map_cons, List.map_nil, e2]
  · simp only [hc, if_false, List.map_nil]
theorem out_app (side : Nat) (a b : List Str) : outOf side (a ++ b) = outOf side a ++ outOf side b := List.filterMap_append
theorem out_hints {side : Nat} (hs : side = 1 ∨ side = 2) : ∀ {ls : List LInf}, (∀ q ∈ ls, okP q) → outOf side (ls.flatMap hintAt) = (rowsOf side ls).map txt
  | [], _ => rfl
  | q :: ls, h => by
    rw [List.flatMap_cons, out_app, out_hints hs fun r hr => h r (.tail _ hr), show q :: ls = [q] ++ ls from rfl, rows_app, List.map_append, ← out_line (h q (.head _))]
    congr 1
    unfold hintAt
    split
    · rw [show [lineOf q, hintS] = [lineOf q] ++ [hintS] from rfl, out_app, out_hint hs, List.append_nil]
    · rfl
theorem rows_row {side : Nat} {ls : List LInf} (h : ∀ q ∈ ls, okP q) : ∀ b ∈ rowsOf side ls, IsRow b := fun b hb => by
  obtain ⟨q, hq, e⟩ := List.mem_filterMap.mp hb
  split at e
  · cases e; exact (h q hq).2.2.2
  · cases e
theorem rows_len (side : Nat) (ls : List LInf) : (rowsOf side ls).length ≤ ls.length := List.length_filterMap_le _ _
end
section
theorem reset39 : True := by
  w_top off
  trivial
variable {w : World} {s : Shared} {p : Program} {loose : List Str} {mean : ExcName → Option Value} {mg mb : Str → Option Value} {R : Result → Shared → Prop}
theorem enterG {w : World} {A : Around} {s : Shared} {K : Frag} {R : Result → Shared → Prop} {name qual : Str} {params : Arguments} {body : List Stmt} {scope : Scope} {dV kV doc pm cdv ct oc : Value} {an od : Option Addr} {osl : Array (Option Value)} {f : Addr} {args : Args} (binds : List (Str × Value))
    (X : K.In s.heap) (hlim : s.heap.NoLimit)
    (ho : K.lookup f = some ⟨oc, od, .func (fnOf name qual params body scope dV kV doc pm an cdv ct), osl⟩) (hcd : codeIn K cdv qual = true) (hroom : A.depth < recursionLimit)
    (hbind : BindsTo s (fnOf name qual params body scope dV kV doc pm an cdv ct) args binds) (hkind : (binds.all fun y => scope.names.lookup y.1 == some .local || scope.names.lookup y.1 == some .cell) = true)
    (h : ∀ L a h₁ tk, Fr s.heap L h₁ (bindL (envOfC qual scope L f cdv).kindOf binds fun _ => none) → L < a → h₁.IsGen a s.gens.size → h₁.NoLimit →
      R (.ok (.ret (.ref a))) { s with heap := h₁, toks := tk, gens := s.gens.push (.fresh (.func body (envOfC qual scope L f cdv))) })
    (hco : scope.isCoroutine = false) (hgen : scope.isGenerator = true) (hk : scope.kind = .function) : codeAny (model prg w) A (.call (.ref f) args) R s := by
  refine codeAny_call_generator hroom (X _ _ ho) rfl hco hgen rfl (codeRec_of X hcd) ?_
  refine (hbind _ _ _ _ ?_)
  refine wpAny_newFunctionEnv_cells hk (kindsX hkind _) fun env' he s' x => ?_
  subst he
  obtain ⟨h₁, tk, rfl, _⟩ := x.done
  have hk₁ := x.toInCall.keep
  refine ⟨hlim.keeps hk₁, ?_⟩
  have F : Fr s.heap s.heap.objs.size h₁ (bindL (envOfC qual scope s.heap.objs.size f cdv).kindOf binds fun _ => none) := ⟨x.toInCall.ns, hk₁, Nat.le_refl _⟩
  refine h _ _ _ _ (F.push _) F.ns.lt ⟨_, _, _, Heap.get?_push_size _ rfl, rfl, rfl, rfl⟩ ?_
  exact (hlim.keeps hk₁).keeps fun b o e => Heap.get?_push_of_some _ e
noncomputable def Kept (g : Heap) (C D a : Addr) (b : Addr) : Prop := b = C ∨ b = D ∨ b = a ∨ ∃ o, g.get? b = some o
noncomputable def rsY (g : Heap) (C D a : Addr) (out : List Str) : Protocol := fun m s₀ v s kap => ∃ x t h tk, out[out.length - 1 - m]? = some x ∧ v = Value.str x t ∧ s = { s₀ with heap := h, toks := tk } ∧
  (∀ b, Kept g C D a b → ∀ o, s₀.heap.get? b = some o → h.get? b = some o) ∧ ∃ own : List Addr, (∀ b ∈ own, ¬ Kept g C D a b ∧ ∃ o, h.get? b = some o) ∧
    ∀ s'' : Shared, (∀ b ∈ own, ∀ o, h.get? b = some o → s''.heap.get? b = some o) → g.StaysIn s''.heap → kap (.send .none) s''
noncomputable def rsP (g : Heap) (C D a : Addr) (n : Nat) (s₀ s₁ : Shared) : Prop := n = 0 ∧ ∃ h tk, s₁ = { s₀ with heap := h, toks := tk } ∧ ∀ b, Kept g C D a b → ∀ o, s₀.heap.get? b = some o → h.get? b = some o
structure reMid (c : Prop) (g0 : Heap) (L : Addr) (P : (Str → Option Value) → List (Addr × Obj) → Prop) (s0 : Shared) (s' : Shared) : Prop where
  fl : c
  at' : ∃ h tk M ns, s' = { s0 with heap := h, toks := tk } ∧ Fr g0 L h M ∧ News g0 L h ns ∧ P M ns
structure Lo (A : Around) (d u : Nat) : Prop where
  hh : A.handled = none
  hd : A.depth ≤ d
  hu : A.units ≤ u
theorem lo_mid {α : Type} {M : Model} {A : Around} {d u : Nat} {t : Sem α} {Q Q' : α → Shared → Prop} {E : Value → Shared → Prop} {s : Shared} (lo : Lo A d u) (h : wpAny M (AT d u) t Q' (fun _ _ => False) s) (k : ∀ a s', Q' a s' → Q a s') : wpAny M A t Q E s :=
  wpAny_mono (wpAny_weaken h lo.hh lo.hd lo.hu) k fun _ _ x => x.elim
theorem over_func {A : Around} {d u : Nat} (lo : Lo A d u) (body : List Stmt) (env : Env) : Lo (A.over (.func body env) []) (d + 10) (u + 100) := by
  refine ⟨lo.hh, ?_, ?_⟩
  · show A.depth + 0 + _ ≤ d + 10
    have : (Code.func body env).weight ≤ 10 := Nat.le_of_ble_eq_true rfl
    have := lo.hd
    omega
  · show A.units + 0 + _ ≤ u + 100
    have : (Code.func body env).cUnits ≤ 100 := Nat.le_of_ble_eq_true rfl
    have := lo.hu
    omega
theorem over_for {A : Around} {d u : Nat} (lo : Lo A d u) (body : List Stmt) (env : Env) (t : PySem.Expr) (it : Value) (b o : List Stmt) (K : Result → Sem Fin) (g : Bool) (l : List Value) (p : Pos) :
    Lo (A.over (.forLoop t it b o env) [.ret K none g l (.func body env) p []]) (d + 10) (u + 100) := by
  refine ⟨?_, ?_, ?_⟩
  · show (marksOver _ (A.handled, A.handled)).1 = none
    rw [lo.hh]; rfl
  · show A.depth + ((Code.func body env).weight + 0) + (Code.forLoop t it b o env).weight ≤ d + 10
    have : (Code.func body env).weight ≤ 5 := Nat.le_of_ble_eq_true rfl
    have : (Code.forLoop t it b o env).weight ≤ 5 := Nat.le_of_ble_eq_true rfl
    have := lo.hd
    omega
  · show A.units + ((Code.func body env).cUnits + 0) + (Code.forLoop t it b o env).cUnits ≤ u + 100
    have : (Code.func body env).cUnits ≤ 50 := Nat.le_of_ble_eq_true rfl
    have : (Code.forLoop t it b o env).cUnits ≤ 50 := Nat.le_of_ble_eq_true rfl
    have := lo.hu
    omega
theorem seg_ind {M : Model} {A : Around} {R : GenEnd} {Y : Protocol} {c : Code} {t : Sem Fin} {fs : List Frame} (P : Nat → Nat → Shared → Shared → Prop)
    (step : ∀ r n s0 s, (∀ r' n' s0' s', r' < r → P r' n' s0' s' → Seg M A R Y n' s0' c t fs s') → P r n s0 s → Seg M A R Y n s0 c t fs s) : ∀ r n s0 s, P r n s0 s → Seg M A R Y n s0 c t fs s := fun r => by
  induction r using Nat.strongRecOn with
  | ind r ih => exact fun n s0 s h => step r n s0 s (fun r' n' s0' s' hr h' => ih r' hr n' s0' s' h') h
theorem iterBN {A : Around} {E : Value → Shared → Prop} {h₀ : Heap} {L l : Addr} {m : Str → Option Value} {news : List (Addr × Obj)} {items : Array Value} {Q : Value → Shared → Prop} (F : Fr h₀ L s.heap m) (N : News h₀ L s.heap news) (hl : h₀.IsList l items)
    (k : ∀ I h' o, Fr h₀ L h' m → News h₀ L h' ((I, o) :: news) → (∀ b o, s.heap.get? b = some o → b < I) → o.cls = .type "list_iterator" → o.data = .fields #[.ref l, .int (0 : Nat) 0] → Q (.ref I) { s with heap := h' }) :
    wpAny (model prg w) A (pyIter (.ref l)) Q E s :=
  let ⟨o, ho, r⟩ := hl
  wpAny_pyIter_list ⟨o, F.keep _ _ ho, r⟩ (k _ _ _ (F.push _) (N.push F _ rfl) (fun b o e => Heap.lt_size e) rfl rfl)
noncomputable def preT (tg : Str) (oT : Obj) : Prop := ∃ t1 t2 k, oT = { cls := .type "tuple", data := .seq #[.str (Str.ofString "  ") t1, .str tg t2] k }
structure reInv (g0 g : Heap) (C D a L T It : Addr) (Hh : Addr) (tg : Str) (i : Nat) (s0 s' : Shared) : Prop where
  at' : ∃ h tk m t oT oI, s' = { s0 with heap := h, toks := tk } ∧ Fr g0 L h (ovr [(Str.ofString "delta", .ref Hh), (Str.ofString "tag", .str tg t), (Str.ofString "prefixes", .ref T)] m) ∧
    News g0 L h [(T, oT), (It, oI)] ∧ preT tg oT ∧ oI.cls = .type "list_iterator" ∧ oI.data = .fields #[.ref Hh, .int i 0] ∧
    ∀ b, Kept g C D a b → ∀ o, s0.heap.get? b = some o → h.get? b = some o
theorem out_split {side i : Nat} {del : List Str} {d : Str} (h : del[i]? = some d) : outOf side (del.drop i) = outOf side [d] ++ outOf side (del.drop (i + 1)) := by
  have hlt : i < del.length := by
    by_cases hc : i < del.length
    · exact hc
    · rw [List.getElem?_eq_none (by omega)] at h; cases h
  rw [List.drop_eq_getElem_cons hlt]
  have e : del[i] = d := by
    rw [List.getElem?_eq_getElem hlt] at h
    exact Option.some.inj h
  rw [e]
  exact out_app side [d] _
theorem out_yes {side : Nat} {d pre rest : Str} (e1 : Txt.slice d none (some 2) = pre) (e2 : Txt.slice d (some 2) none = rest) (h : pre = Str.ofString "  " ∨ pre = tagOf side) : outOf side [d] = [rest] := by
  subst e1 e2
  unfold outOf
  simp only [List.filterMap_cons, List.filterMap_nil, h, if_true]
theorem out_no {side : Nat} {d pre : Str} (e1 : Txt.slice d none (some 2) = pre) (h : ¬ (pre = Str.ofString "  " ∨ pre = tagOf side)) : outOf side [d] = [] := by
  subst e1
  unfold outOf
  simp only [List.filterMap_cons, List.filterMap_nil, h, if_false]
theorem out_get {side i : Nat} {del : List Str} {d rest : Str} (h : del[i]? = some d) (e : outOf side [d] = [rest]) : (outOf side del)[(outOf side del).length - 1 - (outOf side (del.drop (i + 1))).length]? = some rest := by
  have e1 : outOf side del = outOf side (del.take i) ++ ([rest] ++ outOf side (del.drop (i + 1))) := by
    rw [← e, ← out_split h, ← out_app, List.take_append_drop]
  rw [e1]
  have : (outOf side (del.take i) ++ ([rest] ++ outOf side (del.drop (i + 1)))).length - 1 - (outOf side (del.drop (i + 1))).length = (outOf side (del.take i)).length := by
    simp only [List.length_append, List.length_cons, List.length_nil]
    omega
  rw [this, List.getElem?_append_right (Nat.le_refl _), Nat.sub_self]
  rfl
theorem in_two (x a b : Str) : ([a, b].any fun y => y == x) = decide (x = a ∨ x = b) := by
  rw [Bool.eq_iff_iff]
  simp only [List.any_cons, List.any_nil, Bool.or_false, Bool.or_eq_true, beq_iff_eq, decide_eq_true_eq]
  exact ⟨fun h => h.elim (fun e => .inl e.symm) fun e => .inr e.symm, fun h => h.elim (fun e => .inl e.symm) fun e => .inr e.symm⟩
theorem toldK {G : Prop} {h₀ h : Heap} {L : Addr} {m : Str → Option Value} (l : List (Str × Value)) (F : Fr h₀ L h m) (hm : Told m l) (k : ∀ m0, Fr h₀ L h (ovr l m0) → G) : G := (fr_told l F hm).elim k
theorem ledgerK {G : Prop} {h₀ : Heap} {L : Addr} {h : Heap} {m : Str → Option Value} (F : Fr h₀ L h m) (ex : List (Addr × Obj)) (N : News h₀ L h ex)
    (k : ∀ fz, News h₀ L h (ex ++ fz) → (∀ p ∈ ex, ∀ q ∈ fz, q.1 ≠ p.1) → (∀ b o, h.get? b = some o → b ≠ L → h₀.get? b = none → (∀ p ∈ ex, p.1 ≠ b) → (b, o) ∈ fz) → (∀ h' : Heap, (∀ b o, h₀.get? b = some o → h'.get? b = some o) → (∀ q ∈ fz, h'.get? q.1 = some q.2) → ∀ b o, b ≠ L → (∀ p ∈ ex, p.1 ≠ b) → h.get? b = some o → h'.get? b = some o) → G) : G :=
  let ⟨fz, a, b, c, d⟩ := ledger F ex N; k fz a b c d
theorem frameK {G : Prop} {h₀ h h' : Heap} {L : Addr} {m : Str → Option Value} (F : Fr h₀ L h m) (sL : ∀ o, h.get? L = some o → h'.get? L = some o) (k0 : ∀ b o, h₀.get? b = some o → h'.get? b = some o) (k : Fr h₀ L h' m → G) : G :=
  k (let ⟨oL, a1, a2, hoL, a3⟩ := F.ns; ⟨⟨oL, a1, a2, sL _ hoL, a3⟩, k0, F.above⟩)
inductive reGen {α ι : Type} (g0 : Heap) (L : Addr) (s0 : Shared) (v : ι → α) (l : ι → List (Str × Value)) (ns : ι → List (Addr × Obj)) (p : ι → Prop) : α → Shared → Prop
  | mk (x h tk m) : p x → Fr g0 L h (ovr (l x) m) → News g0 L h (ns x) → reGen g0 L s0 v l ns p (v x) { s0 with heap := h, toks := tk }
theorem reGen.of {α ι : Type} {g0 : Heap} {L : Addr} {s0 : Shared} {v : ι → α} {l : ι → List (Str × Value)} {ns : ι → List (Addr × Obj)} {p : ι → Prop} {a : α} {s' : Shared} {h : Heap} {tk : Nat} {M : Str → Option Value} {n : List (Addr × Obj)}
    (F : Fr g0 L h M) (N : News g0 L h n) (e : s' = { s0 with heap := h, toks := tk }) (hE : ∃ x, a = v x ∧ Told M (l x) ∧ p x ∧ ∀ q ∈ ns x, q ∈ n) : reGen g0 L s0 v l ns p a s' := by
  obtain ⟨x, rfl, hT, hp, hq⟩ := hE
  subst e
  obtain ⟨m, F'⟩ := fr_told (l x) F hT
  exact .mk x h tk m hp F' fun q hz => N q (hq q hz)
noncomputable def reT (tg : Str) (t1 t2 : Tok) (k : Nat) : Obj := { cls := .type "tuple", data := .seq #[.str (Str.ofString "  ") t1, .str tg t2] k }
noncomputable def reL (Hh T : Addr) (tg : Str) (t : Tok) : List (Str × Value) := [(Str.ofString "delta", .ref Hh), (Str.ofString "tag", .str tg t), (Str.ofString "prefixes", .ref T)]
theorem seg_re {w : World} {A : Around} {R : GenEnd} {Y : Protocol} {c : Code} {t : Sem Fin} {fs : List Frame} {g0 g : Heap} {C D a L T It Hh : Addr} {side : Nat} {del : List Str} {tg : Str}
    (step : ∀ i sh sgn sdr stk sos h tk m tt oI t1 t2 kn,
      (i < del.length → ∀ s0' s', reInv g0 g C D a L T It Hh tg (i + 1) s0' s' → Seg (model prg w) A R Y (outOf side (del.drop (i + 1))).length s0' c t fs s') → i ≤ del.length →
      Fr g0 L h (ovr (reL Hh T tg tt) m) → News g0 L h [(T, reT tg t1 t2 kn), (It, oI)] → oI.cls = .type "list_iterator" → oI.data = .fields #[.ref Hh, .int i 0] → (∀ b, Kept g C D a b → ∀ o, sh.get? b = some o → h.get? b = some o) →
      Seg (model prg w) A R Y (outOf side (del.drop i)).length ⟨sh, sgn, sdr, stk, sos⟩ c t fs ⟨h, sgn, sdr, tk, sos⟩) :
    ∀ r i, r = del.length - i → i ≤ del.length → ∀ s0 s, reInv g0 g C D a L T It Hh tg i s0 s → Seg (model prg w) A R Y (outOf side (del.drop i)).length s0 c t fs s := fun r => by
  induction r using Nat.strongRecOn with
  | ind r ih =>
    rintro i rfl hi ⟨sh, sgn, sdr, stk, sos⟩ s1 ⟨h, tk, m, tt, oT, oI, rfl, F, N, ⟨t1, t2, kn, rfl⟩, hIc, hId, kp⟩
    exact step i sh sgn sdr stk sos h tk m tt oI t1 t2 kn (fun hlt s0' s' h' => ih _ (by omega) (i + 1) rfl hlt s0' s' h') hi F N hIc hId kp
theorem kept_go {g : Heap} {C D a L T It : Addr} {sh h h9 : Heap} {g0 : Heap} {fy : List (Addr × Obj)} {oT oI : Obj} (kL : ¬ Kept g C D a L) (kT : ¬ Kept g C D a T) (kI : ¬ Kept g C D a It)
    (keepy : ∀ h' : Heap, (∀ b o, g0.get? b = some o → h'.get? b = some o) → (∀ q ∈ fy, h'.get? q.1 = some q.2) → ∀ b o, b ≠ L → (∀ p ∈ [(T, oT), (It, oI)], p.1 ≠ b) → h.get? b = some o → h'.get? b = some o)
    (k0 : ∀ b o, g0.get? b = some o → h9.get? b = some o) (kz : ∀ q ∈ fy, h9.get? q.1 = some q.2) (kp : ∀ b, Kept g C D a b → ∀ o, sh.get? b = some o → h.get? b = some o) :
    ∀ b, Kept g C D a b → ∀ o, sh.get? b = some o → h9.get? b = some o := fun b hb o ho =>
  keepy h9 k0 kz _ _ (fun e => kL (e ▸ hb)) (fun q hq e => by
    rcases List.mem_cons.mp hq with rfl | hq
    · exact kT ((show b = T from e.symm) ▸ hb)
    · rw [List.mem_singleton.mp hq] at e; exact kI ((show b = It from e.symm) ▸ hb)) (kp b hb o ho)
theorem news_two {g0 : Heap} {L : Addr} {h : Heap} {x y : Addr × Obj} {r : List (Addr × Obj)} (N : News g0 L h (x :: y :: r)) : News g0 L h [x, y] := fun q hq => by
  rcases List.mem_cons.mp hq with rfl | hq
  · exact N _ (.head _)
  · rw [List.mem_singleton.mp hq]; exact N _ (.tail _ (.head _))
theorem c_restore {Hh n0 side : Nat} {t0 : Tok} {ws : List Value} {del : List Str} (hside : side = 1 ∨ side = 2) (X : (hdK w.params).In s.heap) (T : Top p loose mean mg mb s.heap) (hH : s.heap.get? Hh = some (W.listOf ws.toArray n0)) (hw : FlatS ws del) (hlen : ws.length < 10000) (hsmall : ∀ d ∈ del, d.length ≤ 1000)
    (hR : ∀ L a h₁ tk c, s.heap.StaysIn h₁ → s.heap.get? L = none → s.heap.get? a = none → L ≠ a → (∃ o, h₁.get? L = some o) → h₁.IsGen a s.gens.size →
      (∀ (A : Around) (g : Heap) (C D : Addr) (s'' : Shared), Lo A 850 8500 → s.heap.StaysIn g → g.get? L = none → C ≠ L → D ≠ L → g.StaysIn s''.heap → (∀ o, h₁.get? L = some o → s''.heap.get? L = some o) → (∀ b, Kept g C D a b → ∃ o, s''.heap.get? b = some o) →
        Seg (model prg w) A (fun n s₀ r s₁ => r = .ok (.ret .none) ∧ rsP g C D a n s₀ s₁) (rsY g C D a (outOf side del)) (outOf side del).length s'' c ((model prg w).den c) [] s'') →
      R (.ok (.ret (.ref a))) { s with heap := h₁, toks := tk, gens := s.gens.push (.fresh c) }) :
    codeAny (model prg w) (AT 860 8600) (.call (.ref 28) ⟨[.ref Hh, .int side t0], []⟩) R s := by
  refine' enterG [(Str.ofString "delta", .ref Hh), (Str.ofString "which", .int side t0)] X T.nolimit ?ho ?hcd (by decide) ?hb ?hl ?_ ?c1 ?c2 ?c3
  case ho => k_is
  case hcd => k_is
  case hb => first | exact BindsTo.of_eq rfl | exact binds_K (by assumption) rfl (by k_is) rfl rfl rfl
  case hl => rfl
  case c1 => rfl
  case c2 => rfl
  case c3 => rfl
  intro L a h₁ tk F hLa hg hl
  have hab := F.above
  refine hR L a h₁ tk _ F.keep (none_above hab) (none_above (Nat.le_of_lt (Nat.lt_of_le_of_lt hab hLa))) (Nat.ne_of_lt hLa) ⟨_, F.ns.choose_spec.choose_spec.choose_spec.1⟩ hg ?_
  intro A g C D s'' lo st gL hC hD sg sL sK
  clear hR
  have kL : ¬ Kept g C D a L := by
    rintro (e | e | e | ⟨o, e⟩)
    · exact hC e.symm
    · exact hD e.symm
    · exact absurd hLa (by rw [e]; exact Nat.lt_irrefl _)
    · rw [gL] at e; cases e
  refine seg_func ?_
  refine seg_execs_cons (seg_exec_quiet ?_)
  apply toldK [(Str.ofString "delta", .ref Hh), (Str.ofString "which", .int side t0)] F (told_cons rfl (told_cons rfl told_nil))
  intro m0 Fx
  apply frameK Fx sL (fun b o e => sg _ _ (st _ _ e))
  intro F2
  clear F Fx
  apply ledgerK F2 [] (fun _ h => nomatch h)
  intro fz NN _ hal keep
  change wpAny _ _ _ _ _ _
  obtain ⟨hp, gn, dr, tk2, os2⟩ := s''
  dsimp only at F2 NN keep sg sL sK hal
  refine' lo_mid (d := 860) (u := 8600) (Q' := reGen (ι := Tok) s.heap L ⟨hp, gn, dr, tk2, os2⟩ (fun _ => .next) (fun t => [(Str.ofString "delta", .ref Hh), (Str.ofString "tag", .str (tagOf side) t)]) (fun _ => fz) (fun _ => True)) ?lo_1 ?m1 ?m2
  case lo_1 => exact over_func lo _ _
  case m1 =>
    clear sK hal keep hg st gL hC hD sg sL hw hlen hsmall kL lo hH hLa hl hab
    rcases hside with rfl | rfl
    · refine wpAny_Try_except ?_
      rw [show ((1 : Nat) : Int) = 1 from rfl] at F2
      repeat' (first | (k_unfold; (try dsimp only)) | ((fail_if_success (with_reducible show codeAny _ _ _ _ _)); first | ((with_reducible show wpAny _ _ (subscriptTail _ (PySem.Expr.Slice none (some _) none _) (Value.str _ _) _) _ _ _); (refine' cut_ns (s := ⟨_, _, _, _, _⟩) (by k_asm) (by k_asm) (by with_reducible assumption) (by with_reducible assumption) ?_ (by first | rfl | with_unfolding_all rfl) (by intro _; first | rfl | with_unfolding_all rfl)); k_whole; intro _ _ _ _ _; (try k_sweep)) | ((with_reducible show wpAny _ _ (subscriptTail _ (PySem.Expr.Slice (some _) none none _) (Value.str _ _) _) _ _ _); (refine' cut_sn (s := ⟨_, _, _, _, _⟩) (by k_asm) (by k_asm) (by with_reducible assumption) (by with_reducible assumption) ?_ (by first | rfl | with_unfolding_all rfl) (by intro _; first | rfl | with_unfolding_all rfl)); k_whole; intro _ _ _ _ _; (try k_sweep)) | walk1 | (dsimp only; walk1)))
      refine' reGen.of ?eF ?eN rfl ?eE
      case eF => assumption
      case eN => assumption
      case eE => exact ⟨_, rfl, told_cons rfl (told_cons rfl told_nil), trivial, fun q hq => .tail _ hq⟩
    · refine wpAny_Try_except ?_
      rw [show ((2 : Nat) : Int) = 2 from rfl] at F2
      repeat' (first | (k_unfold; (try dsimp only)) | ((fail_if_success (with_reducible show codeAny _ _ _ _ _)); first | ((with_reducible show wpAny _ _ (subscriptTail _ (PySem.Expr.Slice none (some _) none _) (Value.str _ _) _) _ _ _); (refine' cut_ns (s := ⟨_, _, _, _, _⟩) (by k_asm) (by k_asm) (by with_reducible assumption) (by with_reducible assumption) ?_ (by first | rfl | with_unfolding_all rfl) (by intro _; first | rfl | with_unfolding_all rfl)); k_whole; intro _ _ _ _ _; (try k_sweep)) | ((with_reducible show wpAny _ _ (subscriptTail _ (PySem.Expr.Slice (some _) none none _) (Value.str _ _) _) _ _ _); (refine' cut_sn (s := ⟨_, _, _, _, _⟩) (by k_asm) (by k_asm) (by with_reducible assumption) (by with_reducible assumption) ?_ (by first | rfl | with_unfolding_all rfl) (by intro _; first | rfl | with_unfolding_all rfl)); k_whole; intro _ _ _ _ _; (try k_sweep)) | walk1 | (dsimp only; walk1)))
      refine' reGen.of ?eF ?eN rfl ?eE
      case eF => assumption
      case eN => assumption
      case eE => exact ⟨_, rfl, told_cons rfl (told_cons rfl told_nil), trivial, fun q hq => .tail _ hq⟩
  case m2 =>
    clear F2 NN
    intro f s' hz
    induction hz with
    | mk tt h2 tk3 m3 _ F4 N4 =>
    show Seg _ _ _ _ _ _ _ ((execs _ _).wrap _ _ _ _) _ _
    refine seg_execs_cons (seg_exec_quiet ?_)
    refine' lo_mid (d := 860) (u := 8600) (Q' := reGen (ι := (Tok × Tok) × Nat × Nat) s.heap L ⟨hp, gn, dr, tk2, os2⟩ (fun _ => .next) (fun x => reL Hh x.2.2 (tagOf side) tt) (fun x => (x.2.2, reT (tagOf side) x.1.1 x.1.2 x.2.1) :: fz) (fun x => ∀ q ∈ fz, @LT.lt Nat _ q.1 x.2.2)) ?lo_2 ?m3 ?m4
    case lo_2 => exact over_func lo _ _
    case m3 =>
      clear sK hal keep hg st gL hC hD sg sL hw hlen hsmall kL lo hH hLa hl hab
      change wpAny _ _ _ _ _ _
      repeat' (first | (k_unfold; (try dsimp only)) | ((fail_if_success (with_reducible show codeAny _ _ _ _ _)); first | ((with_reducible show wpAny _ _ (subscriptTail _ (PySem.Expr.Slice none (some _) none _) (Value.str _ _) _) _ _ _); (refine' cut_ns (s := ⟨_, _, _, _, _⟩) (by k_asm) (by k_asm) (by with_reducible assumption) (by with_reducible assumption) ?_ (by first | rfl | with_unfolding_all rfl) (by intro _; first | rfl | with_unfolding_all rfl)); k_whole; intro _ _ _ _ _; (try k_sweep)) | ((with_reducible show wpAny _ _ (subscriptTail _ (PySem.Expr.Slice (some _) none none _) (Value.str _ _) _) _ _ _); (refine' cut_sn (s := ⟨_, _, _, _, _⟩) (by k_asm) (by k_asm) (by with_reducible assumption) (by with_reducible assumption) ?_ (by first | rfl | with_unfolding_all rfl) (by intro _; first | rfl | with_unfolding_all rfl)); k_whole; intro _ _ _ _ _; (try k_sweep)) | walk1 | (dsimp only; walk1)))
      refine' reGen.of ?eF ?eN rfl ?eE
      case eF => assumption
      case eN => assumption
      case eE => exact ⟨((_, _), _, _), rfl, told_cons rfl (told_cons rfl (told_cons rfl told_nil)), by assumption, fun q hq => hq⟩
    case m4 =>
      clear F4 N4
      intro f s' hz
      induction hz with
      | mk x h5 tk5 m6 hTz F6 N5 =>
      obtain ⟨⟨t1, t2⟩, kn, Tp⟩ := x
      dsimp only at hTz F6 N5
      show Seg _ _ _ _ _ _ _ ((execs _ _).wrap _ _ _ _) _ _
      refine seg_execs_cons (seg_For (fun _ => rfl) ?_)
      refine' lo_mid (d := 860) (u := 8600) (Q' := reGen (ι := Unit) s.heap L ⟨hp, gn, dr, tk2, os2⟩ (fun _ => .ref Hh) (fun _ => reL Hh Tp (tagOf side) tt) (fun _ => (Tp, reT (tagOf side) t1 t2 kn) :: fz) (fun _ => True)) ?lo_3 ?m5 ?m6
      case lo_3 => exact over_func lo _ _
      case m5 =>
        clear sK hal keep hg st gL hC hD sg sL hw hlen hsmall kL lo hH hLa hl hab
        change wpAny _ _ _ _ _ _
        repeat' (first | (k_unfold; (try dsimp only)) | ((fail_if_success (with_reducible show codeAny _ _ _ _ _)); first | ((with_reducible show wpAny _ _ (subscriptTail _ (PySem.Expr.Slice none (some _) none _) (Value.str _ _) _) _ _ _); (refine' cut_ns (s := ⟨_, _, _, _, _⟩) (by k_asm) (by k_asm) (by with_reducible assumption) (by with_reducible assumption) ?_ (by first | rfl | with_unfolding_all rfl) (by intro _; first | rfl | with_unfolding_all rfl)); k_whole; intro _ _ _ _ _; (try k_sweep)) | ((with_reducible show wpAny _ _ (subscriptTail _ (PySem.Expr.Slice (some _) none none _) (Value.str _ _) _) _ _ _); (refine' cut_sn (s := ⟨_, _, _, _, _⟩) (by k_asm) (by k_asm) (by with_reducible assumption) (by with_reducible assumption) ?_ (by first | rfl | with_unfolding_all rfl) (by intro _; first | rfl | with_unfolding_all rfl)); k_whole; intro _ _ _ _ _; (try k_sweep)) | walk1 | (dsimp only; walk1)))
        refine' reGen.of ?eF ?eN rfl ?eE
        case eF => assumption
        case eN => assumption
        case eE => exact ⟨(), rfl, told_cons rfl (told_cons rfl (told_cons rfl told_nil)), trivial, fun q hq => hq⟩
      case m6 =>
        clear F6 N5
        intro f s' hz
        induction hz with
        | mk _ h7 tk7 m7 _ F7 N7 =>
        refine iterBN (items := ws.toArray) F7 N7 ⟨_, hH, rfl, n0, rfl⟩ fun It h8 oI F8 N8 hIt hIc hId => ?_
        intro pp
        have kT : ¬ Kept g C D a Tp := fun hk => by
          obtain ⟨o, ho⟩ := sK _ hk
          have z := N7 _ (.head _)
          exact absurd (hTz _ (hal _ _ ho z.2.1 z.2.2 fun _ h => nomatch h)) (Nat.lt_irrefl Tp)
        have kI : ¬ Kept g C D a It := fun hk => by
          obtain ⟨o, ho⟩ := sK _ hk
          have z := N8 _ (.head _)
          exact absurd (hIt _ _ (keep h7 F7.keep (fun q hq => (N7 q (.tail _ hq)).1) _ _ z.2.1 (fun _ h => nomatch h) ho)) (Nat.lt_irrefl It)
        have hTI : Tp ≠ It := Nat.ne_of_lt (hIt _ _ (N7 _ (.head _)).1)
        have N9 : News s.heap L h8 [(Tp, reT (tagOf side) t1 t2 kn), (It, oI)] := fun q hq => by
          rcases List.mem_cons.mp hq with rfl | hq
          · exact N8 _ (.tail _ (.head _))
          · rw [List.mem_singleton.mp hq]; exact N8 _ (.head _)
        have k8 : ∀ b, Kept g C D a b → ∀ o, hp.get? b = some o → h8.get? b = some o := fun b hb o ho =>
          keep h8 F8.keep (fun q hq => (N8 q (.tail _ (.tail _ hq))).1) _ _ (fun e => kL (e ▸ hb)) (fun _ h => nomatch h) ho
        refine seg_re (side := side) (del := del) (g0 := s.heap) (g := g) (C := C) (D := D) (a := a) (L := L) (T := Tp) (It := It) (Hh := Hh) (tg := tagOf side) ?_ _ 0 rfl (Nat.zero_le _) _ _ ⟨h8, tk7, m7, tt, _, oI, rfl, F8, N9, ⟨t1, t2, kn, rfl⟩, hIc, hId, k8⟩
        clear k8 N9 N8 F8 F7 N7 hIc hId hIt hTz keep hal sK sL sg hl hg
        intro i sh sgn sdr stk sos h tk m t oI t1 t2 kn ih hi F N hIc hId kp
        refine seg_forLoop ?_
        apply ledgerK F _ N
        intro fy Ny hfy _ keepy
        have y2 : ∀ q ∈ fy, q.1 ≠ It := hfy _ (.tail _ (.head _))
        have hTI2 := neN hTI
        have lo2 := over_for lo
        by_cases hlt : i < del.length
        · obtain ⟨d, hde⟩ : ∃ d, del[i]? = some d := ⟨_, List.getElem?_eq_getElem hlt⟩
          have hds := hsmall d (List.mem_of_getElem? hde)
          obtain ⟨td, htd⟩ := hw.get hde
          have hx : ws.toArray[i]? = some (.str d td) := by simpa using htd
          refine' wpAny_weaken (d := 860) (u := 8600) ?v ?q4a ?q4b ?q4c
          case q4a => exact (lo2 _ _ _ _ _ _ _ _ _ _).hh
          case q4b => exact (lo2 _ _ _ _ _ _ _ _ _ _).hd
          case q4c => exact (lo2 _ _ _ _ _ _ _ _ _ _).hu
          refine' nextL (items := ws.toArray) F Ny ?U ⟨_, hH, rfl, n0, rfl⟩ hIc hId hx ?kk
          case U => k_updF
          intro h' o' F' N' hc' hd'
          clear F Ny N
          show wpAny _ _ (letOwnedTupleGo _ _ _) _ _ _
          refine wpAny_of_eq rfl ?_
          refine' lo_mid (d := 860) (u := 8600) (Q' := reGen (ι := Unit) s.heap L ⟨sh, sgn, sdr, stk, sos⟩ (fun _ => ()) (fun _ => (Str.ofString "line", Value.str d td) :: reL Hh Tp (tagOf side) t) (fun _ => (Tp, reT (tagOf side) t1 t2 kn) :: (It, o') :: fy) (fun _ => True)) ?lo_5 ?w2 ?w3
          case lo_5 => exact lo2 _ _ _ _ _ _ _ _ _ _
          case w2 =>
            clear ih keepy hfy kp kL kT kI lo lo2 st gL hC hD hw hlen hsmall hH hLa hab
            change wpAny _ _ _ _ _ _
            refine wpAny_assign_Name ?_
            repeat' (first | (k_unfold; (try dsimp only)) | ((fail_if_success (with_reducible show codeAny _ _ _ _ _)); first | ((with_reducible show wpAny _ _ (subscriptTail _ (PySem.Expr.Slice none (some _) none _) (Value.str _ _) _) _ _ _); (refine' cut_ns (s := ⟨_, _, _, _, _⟩) (by k_asm) (by k_asm) (by with_reducible assumption) (by with_reducible assumption) ?_ (by first | rfl | with_unfolding_all rfl) (by intro _; first | rfl | with_unfolding_all rfl)); k_whole; intro _ _ _ _ _; (try k_sweep)) | ((with_reducible show wpAny _ _ (subscriptTail _ (PySem.Expr.Slice (some _) none none _) (Value.str _ _) _) _ _ _); (refine' cut_sn (s := ⟨_, _, _, _, _⟩) (by k_asm) (by k_asm) (by with_reducible assumption) (by with_reducible assumption) ?_ (by first | rfl | with_unfolding_all rfl) (by intro _; first | rfl | with_unfolding_all rfl)); k_whole; intro _ _ _ _ _; (try k_sweep)) | walk1 | (dsimp only; walk1)))
            refine' reGen.of ?eF ?eN rfl ?eE
            case eF => assumption
            case eN => assumption
            case eE => exact ⟨(), rfl, told_cons rfl (told_cons rfl (told_cons rfl (told_cons rfl told_nil))), trivial, fun q hq => hq⟩
          case w3 =>
            clear F' N'
            intro f s' hz
            induction hz with
            | mk _ h2 tk2' m2 _ F2 N2 =>
            refine seg_execs_cons (seg_If ?_)
            generalize e1 : Txt.slice d none (some 2) = pre
            generalize e2 : Txt.slice d (some 2) none = rest
            have hdl : d.length ≤ 1000000 := by omega
            refine' lo_mid (d := 860) (u := 8600) (Q' := reGen (ι := Unit) s.heap L ⟨sh, sgn, sdr, stk, sos⟩ (fun _ => decide (pre = Str.ofString "  " ∨ pre = tagOf side)) (fun _ => (Str.ofString "line", Value.str d td) :: reL Hh Tp (tagOf side) t) (fun _ => (Tp, reT (tagOf side) t1 t2 kn) :: (It, o') :: fy) (fun _ => True)) ?lo_6 ?x2 ?x3
            case lo_6 => exact lo2 _ _ _ _ _ _ _ _ _ _
            case x2 =>
              clear ih keepy hfy kp kL kT kI lo lo2 st gL hC hD hw hlen hsmall hH hLa hab
              change wpAny _ _ _ _ _ _
              repeat' (first | (k_unfold; (try dsimp only)) | ((fail_if_success (with_reducible show codeAny _ _ _ _ _)); first | ((with_reducible show wpAny _ _ (subscriptTail _ (PySem.Expr.Slice none (some _) none _) (Value.str _ _) _) _ _ _); (refine' cut_ns (s := ⟨_, _, _, _, _⟩) (by k_asm) (by k_asm) (by with_reducible assumption) (by with_reducible assumption) ?_ (by first | rfl | with_unfolding_all rfl) (by intro _; first | rfl | with_unfolding_all rfl)); k_whole; intro _ _ _ _ _; (try k_sweep)) | ((with_reducible show wpAny _ _ (subscriptTail _ (PySem.Expr.Slice (some _) none none _) (Value.str _ _) _) _ _ _); (refine' cut_sn (s := ⟨_, _, _, _, _⟩) (by k_asm) (by k_asm) (by with_reducible assumption) (by with_reducible assumption) ?_ (by first | rfl | with_unfolding_all rfl) (by intro _; first | rfl | with_unfolding_all rfl)); k_whole; intro _ _ _ _ _; (try k_sweep)) | walk1 | (dsimp only; walk1)))
              refine' reGen.of ?eF ?eN rfl ?eE
              case eF => assumption
              case eN => assumption
              case eE => exact ⟨(), in_two _ _ _, told_cons rfl (told_cons rfl (told_cons rfl (told_cons rfl told_nil))), trivial, fun q hq => hq⟩
            case x3 =>
              clear F2 N2
              intro f s' hz
              induction hz with
              | mk _ h9 tk9 m9 _ F9 N9 =>
              have kp9 := kept_go kL kT kI keepy F9.keep (fun q hq => (N9 q (.tail _ (.tail _ hq))).1) kp
              have hsp := out_split (side := side) hde
              by_cases hc : pre = Str.ofString "  " ∨ pre = tagOf side
              · rw [decide_eq_true hc]
                have ho := out_yes (side := side) e1 e2 hc
                rw [ho] at hsp
                have hn2 : (outOf side (del.drop i)).length = (outOf side (del.drop (i + 1))).length + 1 := by rw [hsp]; rfl
                rw [hn2]
                show Seg _ _ _ _ _ _ _ ((execs [_] _).wrap _ _ _ _) _ _
                refine seg_execs_cons (seg_Expr_Yield rfl rfl rfl ?_)
                refine' lo_mid (d := 860) (u := 8600) (Q' := reGen (ι := Tok) s.heap L ⟨sh, sgn, sdr, stk, sos⟩ (fun tv => .str rest tv) (fun _ => (Str.ofString "line", Value.str d td) :: reL Hh Tp (tagOf side) t) (fun _ => (Tp, reT (tagOf side) t1 t2 kn) :: (It, o') :: fy) (fun _ => True)) ?lo_7 ?z2 ?z3
                case lo_7 => exact lo2 _ _ _ _ _ _ _ _ _ _
                case z2 =>
                  clear ih keepy hfy kp kp9 kL kT kI lo lo2 st gL hC hD hw hlen hsmall hH hLa hab hsp hn2 ho
                  change wpAny _ _ _ _ _ _
                  repeat' (first | (k_unfold; (try dsimp only)) | ((fail_if_success (with_reducible show codeAny _ _ _ _ _)); first | ((with_reducible show wpAny _ _ (subscriptTail _ (PySem.Expr.Slice none (some _) none _) (Value.str _ _) _) _ _ _); (refine' cut_ns (s := ⟨_, _, _, _, _⟩) (by k_asm) (by k_asm) (by with_reducible assumption) (by with_reducible assumption) ?_ (by first | rfl | with_unfolding_all rfl) (by intro _; first | rfl | with_unfolding_all rfl)); k_whole; intro _ _ _ _ _; (try k_sweep)) | ((with_reducible show wpAny _ _ (subscriptTail _ (PySem.Expr.Slice (some _) none none _) (Value.str _ _) _) _ _ _); (refine' cut_sn (s := ⟨_, _, _, _, _⟩) (by k_asm) (by k_asm) (by with_reducible assumption) (by with_reducible assumption) ?_ (by first | rfl | with_unfolding_all rfl) (by intro _; first | rfl | with_unfolding_all rfl)); k_whole; intro _ _ _ _ _; (try k_sweep)) | walk1 | (dsimp only; walk1)))
                  refine' reGen.of ?eF ?eN rfl ?eE
                  case eF => assumption
                  case eN => assumption
                  case eE => exact ⟨_, rfl, told_cons rfl (told_cons rfl (told_cons rfl (told_cons rfl told_nil))), trivial, fun q hq => hq⟩
                case z3 =>
                  clear F9 N9 kp9
                  intro f s' hz
                  induction hz with
                  | mk tv h10 tk10 m10 _ F10 N10 =>
                  have kp10 := kept_go kL kT kI keepy F10.keep (fun q hq => (N10 q (.tail _ (.tail _ hq))).1) kp
                  intro kap hk
                  obtain ⟨oL, a1, a2, hoL, a3⟩ := (show Fr s.heap L h10 (ovr (reL Hh Tp (tagOf side) t) _) from (fr_told (reL Hh Tp (tagOf side) t) F10 (told_cons rfl (told_cons rfl (told_cons rfl told_nil)))).choose_spec).ns
                  have zT := N10 _ (.head _)
                  have zI := N10 _ (.tail _ (.head _))
                  refine ⟨rest, tv, h10, tk10, out_get hde ho, rfl, rfl, kp10, [L, Tp, It], ?_, fun s'' hs hg => hk .none s'' ?_⟩
                  · intro b hb
                    rcases List.mem_cons.mp hb with rfl | hb
                    · exact ⟨kL, _, hoL⟩
                    · rcases List.mem_cons.mp hb with rfl | hb
                      · exact ⟨kT, _, zT.1⟩
                      · rw [List.mem_singleton.mp hb]; exact ⟨kI, _, zI.1⟩
                  · show Seg _ _ _ _ _ _ _ (Sem.pure (.again _)) _ _
                    refine seg_again rfl ?_
                    refine ih hlt s'' s'' ⟨s''.heap, s''.toks, _, t, _, o', rfl, ⟨⟨oL, a1, a2, hs L (.head _) _ hoL, a3⟩, fun b o e => hg _ _ (st _ _ e), hab⟩, ?_, ⟨t1, t2, kn, rfl⟩, hc', hd', fun _ _ _ h => h⟩
                    intro q hq
                    rcases List.mem_cons.mp hq with rfl | hq
                    · exact ⟨hs _ (.tail _ (.head _)) _ zT.1, zT.2⟩
                    · rw [List.mem_singleton.mp hq]
                      exact ⟨hs _ (.tail _ (.tail _ (.head _))) _ zI.1, zI.2⟩
              · rw [decide_eq_false hc]
                have ho := out_no (side := side) e1 hc
                rw [ho, List.nil_append] at hsp
                rw [hsp]
                show Seg _ _ _ _ _ _ _ (Sem.pure (.again _)) _ _
                refine seg_again rfl ?_
                exact toldK (reL Hh Tp (tagOf side) t) F9 (told_cons rfl (told_cons rfl (told_cons rfl told_nil))) fun mZ FF => ih hlt _ _ ⟨h9, tk9, mZ, t, _, o', rfl, FF, news_two N9, ⟨t1, t2, kn, rfl⟩, hc', hd', kp9⟩
        · have hie : i = del.length := by omega
          have hx : ws.toArray[i]? = none := by
            have := hw.length
            simp only [List.getElem?_toArray]
            exact List.getElem?_eq_none (by omega)
          refine' wpAny_weaken (d := 860) (u := 8600) ?vv ?q8a ?q8b ?q8c
          case q8a => exact (lo2 _ _ _ _ _ _ _ _ _ _).hh
          case q8b => exact (lo2 _ _ _ _ _ _ _ _ _ _).hd
          case q8c => exact (lo2 _ _ _ _ _ _ _ _ _ _).hu
          refine' nextL_end (items := ws.toArray) (news' := (Tp, reT (tagOf side) t1 t2 kn) :: fy) rfl F Ny (.tail _ (.head _)) (.tail hTI (.head y2)) ⟨_, hH, rfl, n0, rfl⟩ hIc hId hx ?kk2
          intro h' F' N'
          have kp9 := kept_go kL kT kI keepy F'.keep (fun q hq => (N' q (.tail _ hq)).1) kp
          have hn0 : (outOf side (del.drop i)).length = 0 := by rw [hie, List.drop_length]; rfl
          show Seg _ _ _ _ _ _ _ (leafOf (.ok .next)) _ _
          refine seg_leaf _ ?_
          show Seg _ _ _ _ _ _ _ (leafOf (.ok (.ret .none))) _ _
          exact seg_end _ ⟨rfl, hn0, h', _, rfl, kp9⟩
end
section
variable {w : World} {s : Shared} {p : Program} {loose : List Str} {mean : ExcName → Option Value} {mg mb : Str → Option Value} {R : Result → Shared → Prop}
section
variable {A : Around} {E : Value → Shared → Prop} {h₀ : Heap} {L C : Nat} {m : Str → Option Value} {news : List (Addr × Obj)} {o : Obj} {env : Env} {sc : Scope} {cl : List (Str × Addr)} {pos : Pos} {K : Frag}
theorem comp_enterZ {Z : Nat} {elt target iter : PySem.Expr} {ifs : List PySem.Expr} {rest : List Comprehension} {it : Value} {Q : Value → Shared → Prop}
    (F : Fr h₀ L s.heap m) (X : K.In h₀) (N : News h₀ L s.heap ((Z, o) :: news)) (T : Top p loose mean mg mb h₀) (hne : ∀ q ∈ news, q.1 ≠ Z)
    (hself : ∀ s' : Shared, s.heap.StaysIn s'.heap → ∀ Q E, Q it s' → wpAny (model prg w) A (pyIter it) Q E s')
    (k : ∀ (D C : Nat) h₄, D = s.heap.objs.size → C = D + 1 → s.heap.StaysIn h₄ → Fr (s.heap.hide Z) C h₄ (fun _ => none) → News (s.heap.hide Z) C h₄ [(D, W.listOf #[] 0), (Z, o)] → K.In (s.heap.hide Z) → Top p loose mean mg mb (s.heap.hide Z) →
      codeAny (model prg w) A (.compLoop (.ListComp elt (⟨target, iter, ifs, 0⟩ :: rest) sc pos) 0 it (.ref D) (compEnvC sc cl C env)) (CompEnd h₀ L m news (s.heap.hide Z) C D Q) { s with heap := h₄ }) :
    ∀ D C h₄, D = s.heap.objs.size → C = D + 1 → h₄.Ns C (fun _ => none) → h₄.get? D = some (W.listOf #[] 0) → s.heap.StaysIn h₄ →
      codeAny (model prg w) A (.compStart (.ListComp elt (⟨target, iter, ifs, 0⟩ :: rest) sc pos) 0 it (.ref D) (compEnvC sc cl C env)) (compPost (model prg w) A E none Q (.ref D) C) { s with heap := h₄ } := by
  intro D C h₄ hD hC hns hDo st
  have hI := (N _ (.head _)).1
  have q := comp_in F hI hD hC hns hDo st
  have hb := hide_base F (N _ (.head _)).2.2
  refine comp_start (fun Q E hq => hself _ st Q E hq) (codeAny_mono (k D C h₄ hD hC st q.1 q.2 (X.keeps hb) (T.keeps hb)) fun r s' hr => ?_)
  obtain ⟨its, n, mC, rfl, F5, hDo5, kk⟩ := hr
  refine ⟨mC, F5.ns, fun h'' hs => ?_⟩
  have z := comp_out F N hne hD hC F5 hDo5 hs
  exact kk h'' z.1 z.2 fun b o hb e => (hs.2 b hb).trans e
end
structure stepOut (g : Heap) (C : Addr) (ns : List (Addr × Obj)) (b : Array UInt8) (s3 : Shared) (v : Value) (s5 : Shared) : Prop where
  at' : ∃ t h tk M, v = Value.bytes b t ∧ s5 = { s3 with heap := h, toks := tk } ∧ Fr g C h M ∧ News g C h ns
theorem push_set {a : Array GenState} {x y : GenState} : (a.push x).setIfInBounds a.size y = a.push y := by
  apply Array.ext'
  simp
inductive genJ (w : World) (g : Heap) (C D a : Nat) (A : Around) (g0 : Array GenState) (out : List Str) (rows : List (Array UInt8)) (s2 : Shared) (i : Nat) : Shared → Prop
  | mk (vs : List Value) (n : Nat) (h : Heap) (tk : Tok) (gs : GenState) (M : Str → Option Value) (own : List Addr) : i ≤ rows.length → Fr g C h M → News g C h [(D, W.listOf vs.toArray n)] → vs.length = i → FlatB vs (rows.take i) → (∀ b, Kept g C D a b → ∃ o, h.get? b = some o) →
    (∀ b ∈ own, ¬ Kept g C D a b ∧ ∃ o, h.get? b = some o) → (∀ s'' : Shared, (∀ b ∈ own, ∀ o, h.get? b = some o → s''.heap.get? b = some o) → g.StaysIn s''.heap → (∀ b, Kept g C D a b → ∃ o, s''.heap.get? b = some o) →
      gs.Goes (model prg w) A.in1 (fun n s₀ r s₁ => r = .ok (.ret .none) ∧ rsP g C D a n s₀ s₁) (rsY g C D a out) (rows.length - i) (.send .none) s'') → genJ w g C D a A g0 out rows s2 i { s2 with heap := h, toks := tk, gens := g0.push gs }
noncomputable def genI (w : World) (g : Heap) (C D a : Nat) (A : Around) (g0 : Array GenState) (out : List Str) (rows : List (Array UInt8)) (s2 : Shared) (n : Nat) (s' : Shared) : Prop := genJ w g C D a A g0 out rows s2 (rows.length - n) s' ∧ n ≤ rows.length
theorem kept_ex {g : Heap} {C D a : Nat} {h : Heap} {M : Str → Option Value} {ld : List (Addr × Obj)} {vs : Array Value} {n : Nat} (hago : ∃ oa, g.get? a = some oa) (F' : Fr g C h M) (N' : News g C h ((D, W.listOf vs n) :: ld)) : ∀ b, Kept g C D a b → ∃ o, h.get? b = some o := fun b hb => by
  rcases hb with rfl | rfl | rfl | ⟨o, e⟩
  · obtain ⟨oC, _, _, ho, _⟩ := F'.ns; exact ⟨_, ho⟩
  · exact ⟨_, (N' _ (.head _)).1⟩
  · obtain ⟨oa, e⟩ := hago; exact ⟨_, F'.keep _ _ e⟩
  · exact ⟨_, F'.keep _ _ e⟩
theorem kept_fr {g : Heap} {C D a : Nat} {h h' : Heap} {M : Str → Option Value} (F' : Fr g C h M) (kp : ∀ b, Kept g C D a b → ∀ o, h.get? b = some o → h'.get? b = some o) : Fr g C h' M :=
  let ⟨oC, a1, a2, hoC, a3⟩ := F'.ns; ⟨⟨oC, a1, a2, kp _ (.inl rfl) _ hoC, a3⟩, fun b o e => kp b (.inr (.inr (.inr ⟨o, e⟩))) o (F'.keep b o e), F'.above⟩
theorem kept_news {g : Heap} {C D a : Nat} {h h' : Heap} {o : Obj} (N' : News g C h [(D, o)]) (kp : ∀ b, Kept g C D a b → ∀ o, h.get? b = some o → h'.get? b = some o) : News g C h' [(D, o)] := fun q hq => by
  rw [List.mem_singleton.mp hq]
  have z := N' _ (.head _)
  exact ⟨kp _ (.inr (.inl rfl)) _ z.1, z.2⟩
theorem own_kept {g : Heap} {C D a : Nat} {h' h6 : Heap} {od : Obj} {fz : List (Addr × Obj)} {own' : List Addr} (hown' : ∀ b ∈ own', ¬ Kept g C D a b ∧ ∃ o, h'.get? b = some o)
    (hal : ∀ b o, h'.get? b = some o → b ≠ C → g.get? b = none → (∀ p ∈ [(D, od)], p.1 ≠ b) → (b, o) ∈ fz) (N6 : ∀ q ∈ fz, h6.get? q.1 = some q.2) : ∀ b, b ∈ own' → ∀ o, h'.get? b = some o → h6.get? b = some o := fun b hb' o ho => by
  have nk := (hown' b hb').1
  refine N6 (b, o) (hal b o ho (fun e => nk (.inl e)) ?_ ?_)
  · cases e : g.get? b with
    | none => rfl
    | some y => exact absurd (.inr (.inr (.inr ⟨y, e⟩))) nk
  · intro q hq e
    rw [List.mem_singleton.mp hq] at e
    exact nk (.inr (.inl e.symm))
theorem flat_step {vs : List Value} {rows : List (Array UInt8)} {i : Nat} {t : Tok} (hlt : i < rows.length) (hv : FlatB vs (rows.take i)) : FlatB (vs ++ [Value.bytes rows[i] t]) (rows.take (i + 1)) := by
  rw [List.take_add_one, List.getElem?_eq_getElem hlt]
  exact hv.append (.one _ _)
theorem row_at {out : List Str} {rows : List (Array UInt8)} {n : Nat} {x : Str} (hrows : out = rows.map txt) (hn : n < rows.length) (hx : out[out.length - 1 - n]? = some x) : x = txt (rows[rows.length - (n + 1)]'(by omega)) := by
  subst hrows
  rw [List.length_map, List.getElem?_map, show rows.length - 1 - n = rows.length - (n + 1) by omega, List.getElem?_eq_getElem (by omega)] at hx
  exact (Option.some.inj hx).symm
theorem gen_turns {A : Around} {g : Heap} {C D a : Nat} {env : Env} {sc : Scope} {cl : List (Str × Addr)} {pos tpos : Pos} {elt iter : PySem.Expr} {out : List Str} {rows : List (Array UInt8)} {s2 s0 : Shared} {g0 : Array GenState} {R : Result → Shared → Prop}
    (hh : A.handled = none) (hd0 : A.depth ≤ 849) (hg2 : g.IsGen a g0.size) (X4 : (hdK w.params).In g) (T4 : Top p loose mean mg mb g) (hrows : out = rows.map txt) (hrow : ∀ b ∈ rows, IsRow b) (hrl : rows.length < 10000)
    (hstep : ∀ (M : Str → Option Value) (ns : List (Addr × Obj)) (b : Array UInt8) (t : Tok) (s3 : Shared), IsRow b → Fr g C s3.heap M → News g C s3.heap ns →
      wpAny (model prg w) A (assign (.Name (Str.ofString "text") tpos) (compEnvC sc cl C env) (.str (txt b) t)) (fun _ s4 => wpAny (model prg w) A (eval elt (compEnvC sc cl C env)) (stepOut g C ns b s3) (fun _ _ => False) s4) (fun _ _ => False) s3)
    (hR : ∀ n vs h'' tk M, Fr g C h'' M → News g C h'' [(D, W.listOf vs.toArray n)] → FlatB vs rows → R (.ok .next) { s2 with heap := h'', toks := tk, gens := g0.push .finished })
    (h0 : genJ w g C D a A g0 out rows s2 0 s0) :
    codeAny (model prg w) A (.compLoop (.ListComp elt [⟨.Name (Str.ofString "text") tpos, iter, [], 0⟩] sc pos) 0 (.ref a) (.ref D) (compEnvC sc cl C env)) R s0 := by
  have hago : ∃ oa, g.get? a = some oa := let ⟨og, _, _, ho, _⟩ := hg2; ⟨og, ho⟩
  have hlr : out.length = rows.length := by rw [hrows, List.length_map]
  refine comp_turns (genI w g C D a A g0 out rows s2) ?_ rows.length ⟨by rw [Nat.sub_self]; exact h0, Nat.le_refl _⟩
  intro n s' hI
  have hnl := hI.2
  replace hI := hI.1
  generalize hi : rows.length - n = i at hI
  induction hI with
  | mk vs nv h tk' gs M own hil F' N' hvl hv hke hown hgo =>
  have hgs : (g0.push gs)[g0.size]? = some gs := by simp
  have lim : h.NoLimit := (T4.keeps F'.keep).nolimit
  have en : rows.length - i = n := by omega
  rw [en] at hgo
  refine wpAny_pyNext_gen (n := n) (P := rsP g C D a) (Y := rsY g C D a out) hh lim (Nat.lt_of_le_of_lt hd0 (by decide)) (hg2.keeps F'.keep) hgs (hgo _ (fun b _ o ho => ho) F'.keep hke) ?_ ?_
  · rintro v s₁ gs' ⟨x, t, h', tk2, hx, rfl, rfl, kp, own', hown', hk⟩
    dsimp only [Shared.setGen] at kp hk ⊢
    cases n with
    | zero => exact (hk { s2 with heap := h' } (fun _ _ _ ho => ho) fun b o e => kp b (.inr (.inr (.inr ⟨o, e⟩))) o (F'.keep b o e)).elim
    | succ n =>
      have hlt : i < rows.length := by omega
      have hxi : x = txt rows[i] := by
        have := row_at hrows (n := n) (by omega) hx
        subst hi
        exact this
      subst hxi
      have hb := hrow _ (List.getElem_mem hlt)
      have F1' := kept_fr F' kp
      apply ledgerK F1' _ (kept_news N' kp)
      intro fz Nz hfz hal keep
      show wpAny _ _ (letOwnedTupleGo _ _ _) _ _ _
      refine wpAny_of_eq rfl ?_
      refine wpAny_mono (hstep M _ rows[i] t _ hb F1' Nz) (fun _ s4 h4 => ?_) fun _ _ x => x.elim
      refine wpAny_pure ?_
      show wpAny _ _ _ _ _ _
      refine wpAny_mono h4 (fun v s5 h5 => ?_) fun _ _ x => x.elim
      obtain ⟨tv, h5, tk5, M5, rfl, rfl, F5, N5⟩ := h5
      have y1 : ∀ q ∈ fz, q.1 ≠ D := hfz _ (.head _)
      refine appV F5 N5 (.head y1) (by omega) fun h6 F6 N6 => ?_
      have o6 := own_kept hown' hal fun q hq => (N6 q (.tail _ hq)).1
      refine ⟨n, Nat.lt_succ_self _, ?_, by omega⟩
      rw [show rows.length - n = i + 1 by omega, push_set, push_set]
      refine .mk (vs ++ [_]) (nv + 1) h6 tk5 gs' M5 own' hlt F6 (fun q hq => N6 q (by rw [List.mem_singleton.mp hq]; exact .head _)) (by simp [hvl]) (flat_step hlt hv) (kept_ex hago F6 N6) (fun b hb' => ⟨(hown' b hb').1, let ⟨o, ho⟩ := (hown' b hb').2; ⟨o, o6 b hb' o ho⟩⟩) fun s'' k1 k2 _ => ?_
      rw [show rows.length - (i + 1) = n by omega]
      exact hk s'' (fun b hb' o ho => k1 b hb' o (o6 b hb' o ho)) k2
  · rintro s₁ ⟨hn, h', tk2, rfl, kp⟩ h6 h6k
    have hie : i = rows.length := by omega
    subst hie
    rw [List.take_length] at hv
    dsimp only [Shared.setGen] at kp h6k ⊢
    rw [push_set, push_set]
    have kp6 : ∀ b, Kept g C D a b → ∀ o, h.get? b = some o → h6.get? b = some o := fun b hb o ho => h6k _ _ (kp b hb o ho)
    exact hR nv vs h6 _ M (kept_fr F' kp6) (kept_news N' kp6) hv
theorem side_block {A : Around} {E : Value → Shared → Prop} {h₀ : Heap} {L : Nat} {m : Str → Option Value} {news : List (Addr × Obj)} {env : Env} {sc : Scope} {cl : List (Str × Addr)} {pos tpos : Pos} {elt iter : PySem.Expr} {Hh n0 side : Nat} {t0 : Tok} {ws : List Value} {del : List Str} {rows : List (Array UInt8)} {Q : Value → Shared → Prop}
    (F : Fr h₀ L s.heap m) (X : (hdK w.params).In h₀) (N : News h₀ L s.heap news) (T : Top p loose mean mg mb h₀)
    (hside : side = 1 ∨ side = 2) (hH : s.heap.get? Hh = some (W.listOf ws.toArray n0)) (hw : FlatS ws del) (hlen : ws.length < 10000) (hsmall : ∀ d ∈ del, d.length ≤ 1000)
    (hrows : outOf side del = rows.map txt) (hrow : ∀ b ∈ rows, IsRow b) (hrl : rows.length < 10000)
    (hh : A.handled = none) (hd0 : A.depth ≤ 849) (hu : A.units ≤ 8490)
    (hstep : ∀ (g : Heap) (C : Nat) (M : Str → Option Value) (ns : List (Addr × Obj)) (b : Array UInt8) (t : Tok) (s3 : Shared), IsRow b → (hdK w.params).In g → Top p loose mean mg mb g → Fr g C s3.heap M → News g C s3.heap ns →
      wpAny (model prg w) A (assign (.Name (Str.ofString "text") tpos) (compEnvC sc cl C env) (.str (txt b) t)) (fun _ s4 => wpAny (model prg w) A (eval elt (compEnvC sc cl C env)) (stepOut g C ns b s3) (fun _ _ => False) s4) (fun _ _ => False) s3)
    (k : ∀ (D : Nat) n vs h'' tk, Fr h₀ L h'' m → News h₀ L h'' ((D, W.listOf vs.toArray n) :: news) → FlatB vs rows → (∀ b o, s.heap.get? b = some o → b < D) → Q (.ref D) { s with heap := h'', toks := tk, gens := s.gens.push .finished }) :
    wpAny (model prg w) A (call (.ref 28) [.ref Hh, .int side t0]) (fun x s₁ => wpAny (model prg w) A (pyIter x) (fun it s₂ => ∀ D C h₄, D = s₂.heap.objs.size → C = D + 1 → h₄.Ns C (fun _ => none) → h₄.get? D = some (W.listOf #[] 0) → s₂.heap.StaysIn h₄ →
      codeAny (model prg w) A (.compStart (.ListComp elt [⟨.Name (Str.ofString "text") tpos, iter, [], 0⟩] sc pos) 0 it (.ref D) (compEnvC sc cl C env)) (compPost (model prg w) A E none Q (.ref D) C) { s₂ with heap := h₄ }) E s₁) E s := by
  refine wpAny_call (codeAny_weaken (d := 860) (u := 8600) (c_restore hside (X.keeps F.keep) (T.keeps F.keep) hH hw hlen hsmall fun L1 a h1 tk c st hL1 ha hLa hLo hg hseg => ?_) hh (by omega) (by omega))
  show wpAny _ A (pyIter (.ref a)) _ _ _
  refine wpAny_pyIter_gen hg ?_
  obtain ⟨oL, hoL⟩ := hLo
  have F1 : Fr h₀ L h1 m := Fr.out F st
  have hL1L : L1 ≠ L := fun e => by
    obtain ⟨oo, _, _, ho, _⟩ := F.ns
    rw [← e, hL1] at ho; cases ho
  have hL10 : h₀.get? L1 = none := by
    cases e : h₀.get? L1 with
    | none => rfl
    | some y => have := F.keep _ _ e; rw [hL1] at this; cases this
  have N1 : News h₀ L h1 ((L1, oL) :: news) := fun q hq => by
    rcases List.mem_cons.mp hq with rfl | hq
    · exact ⟨hoL, hL1L, hL10⟩
    · exact News.out N st q hq
  have hne : ∀ q ∈ news, q.1 ≠ L1 := fun q hq e => by
    have := (N q hq).1
    rw [e, hL1] at this; cases this
  have hll := ltN (Heap.lt_size hoL)
  refine comp_enterZ (s := { s with heap := h1, toks := tk, gens := s.gens.push (.fresh c) }) (Z := L1) F1 X N1 T hne (fun s' st' Q E hq => wpAny_pyIter_gen (hg.keeps st') hq) fun D C h₄ hD hC st4 F4 N4 X4 T4 => ?_
  dsimp only at hD st4 F4 N4 X4 T4 ⊢
  have hCL : C ≠ L1 := by
    show @Ne Nat C L1
    omega
  have hDL : D ≠ L1 := by
    show @Ne Nat D L1
    omega
  have sg : s.heap.StaysIn (h1.hide L1) := fun b o e => hide_keeps (by rintro rfl; rw [hL1] at e; cases e) (st b o e)
  have hg2 : (h1.hide L1).IsGen a s.gens.size := by
    obtain ⟨og, nm, qn, ho, r⟩ := hg
    exact ⟨og, nm, qn, hide_keeps (Ne.symm hLa) ho, r⟩
  have hgL : (h1.hide L1).get? L1 = none := Heap.hide_self ..
  have hDnew : ∀ b o, s.heap.get? b = some o → b < D := fun b o e => by
    have := ltN (Heap.lt_size (st b o e))
    show @LT.lt Nat _ b D
    omega
  generalize hge : h1.hide L1 = g at *
  have kL : ¬ Kept g C D a L1 := by
    rintro (e | e | e | ⟨o, e⟩)
    · exact hCL e.symm
    · exact hDL e.symm
    · exact hLa e
    · rw [hgL] at e; cases e
  have hlr : (outOf side del).length = rows.length := by rw [hrows, List.length_map]
  have hago : ∃ oa, g.get? a = some oa := let ⟨og, _, _, ho, _⟩ := hg2; ⟨og, ho⟩
  refine gen_turns (s2 := { s with heap := h1, toks := tk, gens := s.gens.push (.fresh c) }) hh hd0 hg2 X4 T4 hrows hrow hrl (fun M ns b t s3 hb F' N' => hstep g C M ns b t s3 hb X4 T4 F' N') (fun n vs h'' tk M F' N' hv => CompEnd.intro F' N' (.head _) fun h3 F'' N'' _ => k D n vs h3 _ F'' N'' hv hDnew)
    (.mk [] 0 h₄ tk (.fresh c) _ [L1] (Nat.zero_le _) F4 (fun q hq => N4 q (by rw [List.mem_singleton.mp hq]; exact .head _)) rfl .nil (kept_ex hago F4 N4) ?_ ?_)
  · intro b hb
    rw [List.mem_singleton.mp hb]
    exact ⟨kL, _, (N4 _ (.tail _ (.head _))).1⟩
  · intro s'' k1 k2 k3
    refine ⟨rfl, ?_⟩
    have := hseg A.in1 g C D s'' ⟨hh, by show A.depth ≤ 850; omega, by show A.units + 1 ≤ 8500; omega⟩ sg hgL hCL hDL k2 (fun o ho => ?_) k3
    · rw [hlr] at this
      exact this
    · rw [hoL] at ho
      cases ho
      exact k1 L1 (.head _) _ (N4 _ (.tail _ (.head _))).1
end
section
variable {w : World} {s : Shared} {p : Program} {loose : List Str} {mean : ExcName → Option Value} {mg mb : Str → Option Value} {R : Result → Shared → Prop}
noncomputable def Tz (P : Heap → Nat → Prop) (D : Nat) (tz : List (Addr × Obj)) : Prop := ∀ h' : Heap, (∀ q ∈ tz, h'.get? q.1 = some q.2) → P h' D
theorem Tz.left {P : Heap → Nat → Prop} {D : Nat} {a b : List (Addr × Obj)} (x : Tz P D a) : Tz P D (a ++ b) := fun h' k => x h' fun q hq => k q (List.mem_append_left _ hq)
theorem Tz.right {P : Heap → Nat → Prop} {D : Nat} {a b : List (Addr × Obj)} (x : Tz P D b) : Tz P D (a ++ b) := fun h' k => x h' fun q hq => k q (List.mem_append_right _ hq)
theorem tz_ne {h : Heap} {tz : List (Addr × Obj)} {b : Addr} {o : Obj} (k : ∀ q ∈ tz, h.get? q.1 = none) (e : h.get? b = some o) : ∀ q ∈ tz, q.1 ≠ b := fun q hq e2 => by
  have := k q hq
  rw [e2, e] at this; cases this
theorem tz_app {a b : List (Addr × Obj)} {D : Addr} (x : ∀ q ∈ a, q.1 ≠ D) (y : ∀ q ∈ b, q.1 ≠ D) : ∀ q ∈ a ++ b, q.1 ≠ D := fun q hq => (List.mem_append.mp hq).elim (x q) (y q)
theorem blk_out {h₀ h7 g h'' hc : Heap} {L C : Addr} {m : Str → Option Value} {led tz : List (Addr × Obj)} (F7 : Fr h₀ L h7 m) (st : h7.StaysIn g) (N : News g C hc led) (k : ∀ b o, b ≠ C → hc.get? b = some o → h''.get? b = some o) (hs : ∀ q ∈ tz, q ∈ led) : News h₀ L h'' tz := fun q hq => by
  have z := N q (hs q hq)
  refine ⟨k _ _ z.2.1 z.1, fun e => ?_, ?_⟩
  · obtain ⟨oL, _, _, ho, _⟩ := F7.ns
    have := st _ _ ho
    rw [← e, z.2.2] at this; cases this
  · cases e : h₀.get? q.1 with
    | none => rfl
    | some y => have := st _ _ (F7.keep _ _ e); rw [z.2.2] at this; cases this
noncomputable def PB (rows : List (Array UInt8)) (h : Heap) (D : Nat) : Prop := ∃ (vs : List Value) (n : Nat), h.get? D = some (W.listOf vs.toArray n) ∧ FlatB vs rows
theorem EV.mono {c : Ctx} {e : PySem.Expr} {Q Q2 : Value → Ctx → Prop} (p : EV c e Q) (h : ∀ v c', c'.stat = c.stat → Q v c' → ∃ c'', c''.stat = c.stat ∧ (∀ k, c''.at k = c'.at k) ∧ Q2 v c'') : EV c e Q2 :=
  ⟨fun Q' E tk K => p.go _ _ _ fun v c' k hs q => let ⟨c2, h1, h2, h3⟩ := h v c' hs q; h2 k ▸ K v c2 k h1 h3⟩
theorem Ctx.at_eq {c c' : Ctx} (h : c'.stat = c.stat) (news : List (Addr × Obj)) (k : Nat) : ({ c with h := c'.h, news := news, gs := c'.gs } : Ctx).at k = c'.at k := by
  unfold Ctx.stat at h
  simp only [Prod.mk.injEq] at h
  unfold Ctx.at
  rw [h.2.2.2.1, h.2.2.2.2]
structure ElemK (Z : Nat → List (Addr × Obj) → Prop) (cB : Ctx) (r : Value) (c' : Ctx) : Prop where
  ex : ∃ (r0 : Nat) (tz : List (Addr × Obj)), r = .ref r0 ∧ Fr cB.h₀ cB.env.locals c'.h cB.m ∧ News cB.h₀ cB.env.locals c'.h (cB.news ++ tz) ∧ AllBare c'.gs ∧ Z r0 tz ∧ ∀ q ∈ tz, ∀ p ∈ cB.news, q.1 ≠ p.1
section
variable {c : Ctx} {x : Str} {pos px : Pos} {elt iter : PySem.Expr} {sc : Scope} {cl : List (Str × Addr)} {QV : Value → Ctx → Prop} {Z : Nat → Nat → List (Addr × Obj) → Prop}
inductive TwoK (elt : PySem.Expr) (x : Str) (sc : Scope) (cl : List (Str × Addr)) (Z : Nat → Nat → List (Addr × Obj) → Prop) (QV : Value → Ctx → Prop) : Value → Ctx → Prop
  | mk {l} {v : Nat → Value} {c1} (S : c1.Ok) (hl : c1.h.IsList l #[v 0, v 1]) (G : Gl c1.w c1.h₀) (hb : AllBare c1.gs)
      (elem : ∀ j g C h m news gs, j < 2 → c1.h.StaysIn g → m x = some (v j) → AllBare gs → let cB : Ctx := ⟨c1.w, c1.A, compEnvC sc cl C c1.env, g, h, m, news, gs, c1.dr, c1.os⟩; cB.Ok → Gl cB.w cB.h₀ → EV cB elt (ElemK (Z j) cB))
      (k : ∀ D h (r0 r1 : Nat) tz n gs, AllBare gs → Z 0 r0 tz → Z 1 r1 tz → (∀ q ∈ tz, c1.h.get? q.1 = none) → (∀ b o, c1.h.get? b = some o → @LT.lt Nat _ b D) →
        let c2 : Ctx := { c1 with h := h, news := (D, PySem.W.listOf #[.ref r0, .ref r1] n) :: (c1.news ++ tz), gs := gs }; c2.Ok → QV (.ref D) c2) : TwoK elt x sc cl Z QV (.ref l) c1
theorem EV.two (hZ : ∀ j r a b, Z j r a ∨ Z j r b → Z j r (a ++ b)) (hclos : closureFor sc c.env = pure cl) (hok : compOk sc = true) (hs : ∀ x, foldedSetIterable iter c.env x = pure x) (hx : ∀ C, isLoc (compEnvC sc cl C c.env) x = true) (hh : c.A.handled = none) (p : EV c iter (TwoK elt x sc cl Z QV)) :
    EV c (.ListComp elt [⟨.Name x px, iter, [], 0⟩] sc pos) QV := by
  refine EV.mono (Q := fun v c2 => ∃ c3 : Ctx, c3.stat = c2.stat ∧ (∀ k, c3.at k = c2.at k) ∧ QV v c3) (EV.comp hclos hok hs (EV.mono p fun v c1 hs1 q => ⟨c1, hs1, fun _ => rfl, ?_⟩)) fun v c' hs q => let ⟨c3, h1, h2, h3⟩ := q; ⟨c3, h1.trans hs, h2, h3⟩
  obtain @⟨l, v, _, S, hl, G, hb, elem, k⟩ := q
  obtain ⟨e1, e2, e3⟩ := stat_of hs1
  rw [← e3] at hx
  rw [← e2] at hh
  refine CompK.mk S hl G fun g J D C h₄ o R st hnew l1 l2 hc hd hR => ?_
  intro cB SB GB
  have hlg : g.IsList l #[v 0, v 1] := let ⟨o, ho, r⟩ := hl; ⟨o, st _ _ ho, r⟩
  have hDJ : D ≠ J := Nat.ne_of_gt l1
  have hJD : J ≠ D := Nat.ne_of_lt l1
  refine Loop.compTurn (i := 0) rfl SB (.tail hDJ (.head fun _ h => nomatch h)) hlg hc hd rfl (hx C) ?_
  intro h5 o5 hc5 hd5 cB SB
  refine EV.mono (elem 0 g C h5 _ _ c1.gs (by decide) st (if_pos rfl) hb SB GB) fun r c' hs' q => ?_
  obtain ⟨r0, tz0, rfl, F7, N7, b7, z0, n0⟩ := q
  have a0 : ∀ q ∈ tz0, q.1 ≠ D := fun q hq => n0 q hq _ (.head _)
  have a0' : ∀ q ∈ tz0, q.1 ≠ J := fun q hq => n0 q hq _ (.tail _ (.head _))
  refine ⟨{ cB with h := c'.h, news := cB.news ++ tz0, gs := c'.gs }, rfl, Ctx.at_eq hs' _, LayK.mk (vs := []) (n := 0) ⟨F7, N7⟩ (.head (List.forall_mem_cons.mpr ⟨hJD, a0⟩)) (by decide) ?_⟩
  intro h8 cB SB
  refine Loop.compTurn (i := 1) rfl SB (.tail hDJ (.head a0')) hlg hc5 hd5 rfl (hx C) ?_
  intro h10 o9 hc9 hd9 cB SB
  refine EV.mono (elem 1 g C h10 _ _ c'.gs (by decide) st (if_pos rfl) b7 SB GB) fun r c'' hs'' q => ?_
  obtain ⟨r1, tz1, rfl, F11, N11, b11, z1, n1⟩ := q
  have a1 : ∀ q ∈ tz1, q.1 ≠ D := fun q hq => n1 q hq _ (.head _)
  have a1' : ∀ q ∈ tz1, q.1 ≠ J := fun q hq => n1 q hq _ (.tail _ (.head _))
  refine ⟨{ cB with h := c''.h, news := cB.news ++ tz1, gs := c''.gs }, rfl, Ctx.at_eq hs'' _, LayK.mk (vs := [.ref r0]) (n := 1) ⟨F11, N11⟩ (.head (List.forall_mem_cons.mpr ⟨hJD, tz_app a0 a1⟩)) (Nat.le_of_ble_eq_true rfl) ?_⟩
  intro h12 cB SB
  refine Loop.compDone SB hh (.tail _ (.head _)) (.tail hDJ (.head (tz_app a0' a1'))) hlg hc9 hd9 rfl ?_
  intro h13 cE SE tk
  refine hR cE tk _ _ rfl rfl rfl rfl SE (.head _) fun h'' kk => ?_
  intro c2 S2
  have tzn : ∀ q ∈ tz0 ++ tz1, c1.h.get? q.1 = none := fun q hq => by
    have e := (SE.n q (.tail _ hq)).2.2
    cases e2 : c1.h.get? q.1 with
    | none => rfl
    | some y => exact nomatch (e.symm.trans (st _ _ e2))
  have B := blk_out (tz := tz0 ++ tz1) S.f st SE.n kk fun q hq => .tail _ hq
  refine ⟨{ c1 with h := h'', news := (D, PySem.W.listOf #[.ref r0, .ref r1] 2) :: (c1.news ++ (tz0 ++ tz1)), gs := cE.gs }, rfl, fun _ => rfl, k D h'' r0 r1 _ 2 _ b11 (hZ _ _ _ _ (.inl z0)) (hZ _ _ _ _ (.inr z1)) tzn (fun b o e => Nat.lt_trans (hnew b o e) l1) ⟨S2.f, fun q hq => ?_⟩⟩
  rcases List.mem_cons.mp hq with rfl | hq
  · exact S2.n _ (.head _)
  · rcases List.mem_append.mp hq with hq | hq
    · exact S2.n q (.tail _ hq)
    · exact B q hq
end
section
variable {c : Ctx} {x y : Str} {pos px py pt : Pos} {a b e : PySem.Expr} {rest : List Stmt} {Q : Flow → Shared → Prop} {E : Value → Shared → Prop} {QV : Value → Ctx → Prop} {ad : Addr}
theorem cellSet {v : Value} {o : Obj} {g : Obj → List (Addr × Obj)} {v0 : Option Value} {tk : Nat} {QU : Unit → Shared → Prop} (S : c.Ok) (hy : Cel c.env y ad) (U : UpdF ad o c.news g) (hd : o.data = .cell v0)
    (k : ∀ h' o', o'.data = .cell (some v) → let c2 := c.led h' (g o'); c2.Ok → QU () (c2.at tk)) : wpAny (model prg c.w) c.A (storeName c.env y v) QU E (c.at tk) := by
  obtain ⟨own, rst, eg, hg, h1, h2⟩ := U.split
  have hmem := S.n (ad, o) (by rw [eg]; exact List.mem_append_right _ (.head _))
  refine wpAny_storeName_cell (s := c.at tk) hy.k hy.n hy.l ⟨_, hmem.1, hd⟩ fun h' hv' hs => ?_
  obtain ⟨o', ho', hd'⟩ := hv'
  refine k h' o' hd' ⟨⟨S.f.ns.sameBut hs (Ne.symm hmem.2.1), fun b ob e => (hs.2 b (fun q => by rw [q] at e; exact nomatch (hmem.2.2.symm.trans e))).trans (S.f.keep b ob e), S.f.above⟩, ?_⟩
  show News c.h₀ c.env.locals h' (g o')
  rw [hg]
  have N := S.n
  rw [eg] at N
  exact N.setAt h1 h2 hs ho'
inductive StoreC (ad : Addr) (rest : List Stmt) (Q : Flow → Shared → Prop) (E : Value → Shared → Prop) : Value → Ctx → Prop
  | mk {v c1 o g v0} (S : c1.Ok) (U : UpdF ad o c1.news g) (hd : o.data = .cell v0) (k : ∀ h' o', o'.data = .cell (some v) → let c2 := c1.led h' (g o'); c2.Ok → Run c2 rest Q E) : StoreC ad rest Q E v c1
theorem Run.assignC (hy : Cel c.env y ad) (hs : swapsWith e (some (.Name y py)) pos.line c.env = pure false) (p : EV c e (StoreC ad rest Q E)) : Run c (.Assign [.Name y py] e pos :: rest) Q E := ⟨fun tk => by
  refine wpAny_execs_cons (wpAny_Assign_Name (p.go _ _ _ fun v c1 k1 hs1 q => ?_) hs)
  obtain ⟨S, U, hd, k⟩ := q
  obtain ⟨e1, e2, e3⟩ := stat_of hs1
  rw [← e3] at hy
  rw [← e1, ← e2, ← e3]
  exact cellSet S hy U hd fun h3 o3 d3 S3 => (k h3 o3 d3 S3).go _⟩
theorem EV.cmp {op : CmpOp} (hm : behindInMarks op b = false) (p : EV c a (CmpL op b fun r c1 => QV (.bool r) c1)) : EV c (.Compare a [op] [b] pos) QV := ⟨fun Q' E tk K => by
  refine wpAny_Compare1 (p.go _ _ _ fun v c1 k1 h1 q => ?_) hm
  obtain ⟨p2⟩ := q
  refine EV.at h1 p2 _ _ _ fun v2 c2 k2 h2 q2 => ?_
  obtain ⟨o, k⟩ := q2
  obtain ⟨e1, e2, e3⟩ := stat_of h2
  have z := o Q' E k2 (K _ c2 k2 h2 k)
  rw [e1, e2] at z
  exact z⟩
end
theorem Run.nilTo {c c1 : Ctx} {P : Ctx → Prop} {Q1 : Flow → Shared → Prop} {E : Value → Shared → Prop} (hQ1 : ∀ c1 tk, P c1 → c1.stat = c.stat → Q1 .next (c1.at tk)) (news' : List (Addr × Obj)) (hs : c1.stat = c.stat) (p : P { c1 with news := news' }) : Run c1 [] Q1 E :=
  Run.nil fun tk => hQ1 { c1 with news := news' } tk p hs
theorem Ctx.Ok.sub {c : Ctx} (S : c.Ok) {news' : List (Addr × Obj)} (h : ∀ q ∈ news', q ∈ c.news) : ({ c with news := news' } : Ctx).Ok := ⟨S.f, news_sub S.n h⟩
theorem PE.itemNV {c : Ctx} {a b : PySem.Expr} {pos : Pos} {l : Addr} {items : Array Value} {n : Nat} {i : Int} {v : Value} (S : c.Ok) (P : PE c a (fun _ => .ref l)) (R : PE c b (.int i)) (hm : (l, PySem.W.listOf items n) ∈ c.news) (h0 : 0 ≤ i) (hf : i < 2 ^ 63) (hx : items.toList[i.toNat]? = some v)
    (hs : ∀ u, subscripted b false (.ref l) (.int i u) = operate [.ref l, .int i u] (getItem (.ref l) (.int i u))) (hg : ∀ r, letTemporaryGo a (.ref l) r = pure ()) : PE c (.Subscript a b pos) (fun _ => v) :=
  ⟨fun _ _ _ k => Subscript_ (P.go _ _ _ fun _ _ => R.go _ _ _ fun _ k1 => kim_list (s := c.at k1) S.n hm rfl rfl h0 hf hx (k 0 _) (hs _) hg)⟩
theorem fresh_of {h₀ h : Heap} {L : Addr} {news tz : List (Addr × Obj)} (N : News h₀ L h news) (f : ∀ q ∈ tz, h.get? q.1 = none) : ∀ q ∈ tz, ∀ p ∈ news, q.1 ≠ p.1 := fun q hq p hp => tz_ne f (N p hp).1 q hq
theorem Tz.either {P : Heap → Nat → Prop} {D : Nat} {a b : List (Addr × Obj)} (h : Tz P D a ∨ Tz P D b) : Tz P D (a ++ b) := h.elim Tz.left Tz.right
end
section
theorem reset42 : True := by
  w_top off
  trivial
variable {w : World} {s : Shared} {p : Program} {loose : List Str} {mean : ExcName → Option Value} {mg mb : Str → Option Value} {R : Result → Shared → Prop}
structure hiPhi (ls : List LInf) (i : Nat) (x : FX) : Prop where
  rows : FlatS x.1 (hintUp ls i)
  few : x.1.length ≤ 2 * i
theorem hint_small {ls : List LInf} (hok : ∀ q ∈ ls, okP q) (n : Nat) : ∀ d ∈ hintUp ls n, d.length ≤ 1000 := fun d hd => by
  unfold hintUp at hd
  obtain ⟨q, hq, e⟩ := List.mem_flatMap.mp hd
  have hl : (lineOf q).length ≤ 1000 := by
    obtain ⟨_, _, _, _, _, _, _, _, _, _, _, p2, _⟩ := pk_form (hok q (List.mem_of_mem_take hq))
    rw [p2]
    show 6 ≤ 1000
    decide
  unfold hintAt at e
  split at e
  · rcases List.mem_cons.mp e with rfl | e
    · exact hl
    · rw [List.mem_singleton.mp e]; decide
  · rw [List.mem_singleton.mp e]; exact hl
section
variable {c : Ctx} {x : Str} {pos px : Pos} {elt i0 t0 i1 : PySem.Expr} {sc : Scope} {R : Result → Shared → Prop} {D I l : Addr} {items : Array Value} {o : Obj} {i n : Nat} {v : Value} {QV : Value → Ctx → Prop} {a b d : PySem.Expr}
theorem EV.ifExp {r : Bool} (B : BE c a r) (p1 : r = true → EV c b QV) (p0 : r = false → EV c d QV) : EV c (.IfExp a b d pos) QV := ⟨fun Q' E tk K => wpAny_IfExp (B.go _ _ _ fun k => by
  cases r with
  | true => exact (p1 rfl).go _ _ _ K
  | false => exact (p0 rfl).go _ _ _ K)⟩
inductive InnK (comp : PySem.Expr) (D : Addr) (env : Env) (P : Result → Shared → Prop) : Value → Ctx → Prop
  | mk {l2 items n c1} (S : c1.Ok) (hm : (l2, PySem.W.listOf items n) ∈ c1.news) (k : ∀ I o h', (∀ p ∈ c1.news, @LT.lt Nat _ p.1 I) → o.cls = .type "list_iterator" → o.data = .fields #[.ref l2, .int (0 : Nat) 0] → let c2 := c1.led h' ((I, o) :: c1.news); c2.Ok → Loop c2 (.compLoop comp 1 (.ref I) (.ref D) env) P) : InnK comp D env P (.ref l2) c1
theorem Loop.comp2J {X : Type} {c : Ctx} {told : X → List (Str × Value)} {led : X → List (Addr × Obj)} {Φ : Nat → Heap → X → Prop} {adr : List Addr} {x : Str} {px : Pos} (hf : ∀ x, foldedSetIterable i1 c.env x = pure x)
    (hh : c.A.handled = none) (hadr : ∀ x, (led x).map (·.1) = adr) (hIL : I ≠ c.env.locals) (hI0 : c.h₀.get? I = none) (hIa : ∀ a ∈ adr, a ≠ I) (hl : c.h₀.IsList l items)
    (hst : ∀ i h h' x, Φ i h x → (∀ b o, b ≠ I → h.get? b = some o → h'.get? b = some o) → Φ i h' x) (hi : c.h.IsListIter I l 0) (hx : isLoc c.env x = true)
    (x0 : X) (S : c.Ok) (ht : Told c.m (told x0)) (hn : ∀ q ∈ led x0, q ∈ c.news) (hΦ : Φ 0 c.h x0)
    (step : ∀ i v oI y h h' m fz (P : Result → Shared → Prop), items[i]? = some v → (∀ q ∈ fz, (∀ a ∈ adr, q.1 ≠ a) ∧ q.1 ≠ I) → Φ i h y → (∀ s₃, LEnd c.h₀ (c.at 0) c.env.locals told led Φ i adr [(I, oI)] fz h s₃ → P (.ok .next) s₃) →
      let c' : Ctx := { c with h := h', m := upd x v (ovr (told y) m), news := (I, oI) :: (led y ++ fz) }; c'.Ok → EV c' i1 (InnK (.ListComp elt [⟨.Name x px, i0, [], 0⟩, ⟨t0, i1, [], 0⟩] sc pos) D c.env P))
    (hR : ∀ y h m, Φ items.size h y → let c' : Ctx := { c with h := h, m := ovr (told y) m, news := led y }; c'.Ok → ∀ tk, R (.ok .next) (c'.at tk)) :
    Loop c (.compLoop (.ListComp elt [⟨.Name x px, i0, [], 0⟩, ⟨t0, i1, [], 0⟩] sc pos) 0 (.ref I) (.ref D) c.env) R := ⟨fun tk => by
  obtain ⟨h1, h2, h3⟩ := isLoc_of hx
  refine comp2_listJ (s := c.at 0) (told := told) (led := led) (Φ := Φ) hf hh hadr hIL hI0 hIa hl hst hi ⟨x0, _, _, _, rfl, S.f, ht, fun q hq => S.n q (hn q hq), hΦ⟩ ?_ ?_
  · intro i v oI y h tk m fz hv hc F N hfz hal hp
    refine wpAny_assign_Name ?_
    refine wpAny_storeName_local h2 (s := ⟨h, c.gs, c.dr, tk, c.os⟩) F.ns (fun h'' hn hs => ?_) (by rw [h1]; rfl)
    refine (step i v oI y h h'' m fz (fun r s₅ => r = .ok .next ∧ LEnd c.h₀ (c.at 0) c.env.locals told led Φ i adr [(I, oI)] fz h s₅) hv (fun q hq => ⟨(hfz q hq).1, (hfz q hq).2 _ (.head _)⟩) hp (fun _ z => ⟨rfl, z⟩) ⟨F.set hn hs, N.set hs⟩).go _ _ _ fun v c1 k hs1 q => ?_
    obtain ⟨S1, hm, k2⟩ := q
    obtain ⟨e1, e2, e3⟩ := stat_of hs1
    refine iterN (s := c1.at k) S1.f S1.n hm fun I1 h5 o1 F1 N1 l1 hc1 hd1 => ?_
    refine comp2_start1 (selfL hc1 hd1 _ (N1 _ (.head _)).1) ?_
    have z := (k2 I1 o1 h5 l1 hc1 hd1 ⟨F1, N1⟩).go k
    unfold Ctx.M at z
    rw [show (c1.led h5 _).w = c.w from e1, show (c1.led h5 _).A = c.A from e2] at z
    exact z
  · rintro s' ⟨y, h, tk, m, rfl, F, hm, N, hp⟩
    rw [← ovr_eq hm] at F
    exact hR y h m hp ⟨F, N⟩ tk⟩
theorem Loop.turn2 {env : Env} {g : Obj → List (Addr × Obj)} (he : env = c.env) (S : c.Ok) (U : UpdF I o c.news g) (hm : (l, PySem.W.listOf items n) ∈ c.news) (hc : o.cls = .type "list_iterator") (hd : o.data = .fields #[.ref l, .int i 0]) (hx : items[i]? = some v) (hloc : isLoc c.env x = true)
    (k : ∀ h' o', o'.cls = .type "list_iterator" → o'.data = .fields #[.ref l, .int (i + 1 : Nat) 0] → let c' := (c.led c.h (g o')).put h' x v; c'.Ok → EV c' elt (LayK D (.compLoop (.ListComp elt [⟨t0, i0, [], 0⟩, ⟨.Name x px, i1, [], 0⟩] sc pos) 1 (.ref I) (.ref D) env) R)) :
    Loop c (.compLoop (.ListComp elt [⟨t0, i0, [], 0⟩, ⟨.Name x px, i1, [], 0⟩] sc pos) 1 (.ref I) (.ref D) env) R := ⟨fun tk => by
  subst he
  obtain ⟨h1, h2, h3⟩ := isLoc_of hloc
  refine comp2_step1 (nextN (s := c.at tk) S.f S.n U hm hc hd hx fun h' o' F' N' hc' hd' => ?_)
  refine wpAny_of_eq rfl (wpAny_assign_Name ?_)
  refine wpAny_storeName_local h2 (s := { c.at tk with heap := h' }) F'.ns (fun h'' hn hs => ?_) (by rw [h1]; rfl)
  refine (k h'' o' hc' hd' ⟨F'.set hn hs, N'.set hs⟩).go _ _ _ fun r c1 k1 hs1 q => ?_
  obtain ⟨S1, U1, hsz, k2⟩ := q
  obtain ⟨e1, e2, e3⟩ := stat_of hs1
  refine appV (s := c1.at k1) S1.f S1.n U1 hsz fun h3 F3 N3 => ?_
  have z := (k2 h3 ⟨F3, N3⟩).go k1
  unfold Ctx.M at z
  rw [show (c1.led h3 _).w = c.w from e1, show (c1.led h3 _).A = c.A from e2] at z
  exact z⟩
theorem Loop.done2 {env : Env} {news' : List (Addr × Obj)} (S : c.Ok) (hh : c.A.handled = none) (hmI : (I, o) ∈ c.news) (Dr : DropI I c.news news') (hm : (l, PySem.W.listOf items n) ∈ c.news) (hc : o.cls = .type "list_iterator") (hd : o.data = .fields #[.ref l, .int i 0]) (hx : items[i]? = none)
    (k : ∀ h', let c' := c.led h' news'; c'.Ok → ∀ tk, R (.ok .next) (c'.at tk)) :
    Loop c (.compLoop (.ListComp elt [⟨t0, i0, [], 0⟩, ⟨.Name x px, i1, [], 0⟩] sc pos) 1 (.ref I) (.ref D) env) R :=
  ⟨fun tk => comp2_step1 (nextN_end (s := c.at tk) hh S.f S.n hmI Dr hm hc hd hx fun h' F' N' => k h' ⟨F', N'⟩ tk)⟩
theorem EV.side {cl : List (Str × Addr)} {pn pa tpos : Pos} {Hh n0 side : Nat} {ws : List Value} {del : List Str} {rows : List (Array UInt8)} (hclos : closureFor sc c.env = pure cl) (hok : compOk sc = true) (hs : ∀ x, foldedSetIterable (.Call (.Name (Str.ofString "restore") pn) [a, b] [] pa) c.env x = pure x) (hx : ∀ C, isLoc (compEnvC sc cl C c.env) (Str.ofString "text") = true)
    (S : c.Ok) (G : Gl c.w c.h₀) (gf : isGlo c.env (Str.ofString "restore") = true) (g : GFn c.w (Str.ofString "restore") 28) (hA : AOk c.A 849 8490)
    (hst : starEach [a, b] c.env = (false, eval a c.env) :: starEach [b] c.env) (hst2 : starEach [b] c.env = (false, eval b c.env) :: starEach [] c.env) (hpl : (backTo pa (starEach [b] c.env)).any (·.1) = false)
    (he : eval (.Call (.Name (Str.ofString "restore") pn) [a, b] [] pa) c.env = (do callWith pa (← eval (.Name (Str.ofString "restore") pn) c.env) [] (backTo pa (starEach [a, b] c.env)) (backToKw pa (keywordEach [] c.env))))
    (P : PE c a (fun _ => .ref Hh)) (Rr : PE c b (.int side)) (hside : side = 1 ∨ side = 2) (hH : c.h.get? Hh = some (W.listOf ws.toArray n0)) (hw : FlatS ws del) (hlen : ws.length < 10000) (hsmall : ∀ d ∈ del, d.length ≤ 1000)
    (hrows : outOf side del = rows.map txt) (hrow : ∀ b ∈ rows, IsRow b) (hrl : rows.length < 10000)
    (elem : ∀ g C h m news gs dr os b t, IsRow b → let cB : Ctx := ⟨c.w, c.A, compEnvC sc cl C c.env, g, h, upd (Str.ofString "text") (.str (txt b) t) m, news, gs, dr, os⟩; cB.Ok → Gl cB.w cB.h₀ → EV cB elt fun r c' => ∃ t, r = .bytes b t ∧ c'.gs = gs ∧ (∃ M, Fr g C c'.h M) ∧ News g C c'.h news)
    (k : ∀ D h n (vs : List Value), FlatB vs rows → (∀ b o, c.h.get? b = some o → @LT.lt Nat _ b D) → let c2 : Ctx := { c with h := h, news := (D, PySem.W.listOf vs.toArray n) :: c.news, gs := c.gs.push .finished }; c2.Ok → QV (.ref D) c2) :
    EV c (.ListComp elt [⟨.Name (Str.ofString "text") tpos, .Call (.Name (Str.ofString "restore") pn) [a, b] [] pa, [], 0⟩] sc pos) QV := ⟨fun Q' E tk K => by
  obtain ⟨h1, h2, h3⟩ := compOk_of hok
  obtain ⟨X, _, _, _, _, _, T⟩ := id G
  refine m_ListComp hclos h1 h2 h3 hs (Call_ ((PE.gloG S G gf g.e).go _ _ _ fun _ _ => ?_) he)
  refine callWith_K (h₀ := c.h₀) G.1 g.k (args_cons (P.go _ _ _ fun _ k1 => args_cons (Rr.go _ _ _ fun t k2 => args_nil (And.intro (Frag.In.keeps G.1 S.f.keep) ?_)) hst2) hst) hst hpl
  refine side_block (s := c.at k2) S.f X S.n T hside hH hw hlen hsmall hrows hrow hrl hA.h hA.d hA.u (fun g C M ns b t s3 hb X9 T9 F9 N9 => ?_) fun D n vs h tk F N hv hn => K _ { c with h := h, news := (D, PySem.W.listOf vs.toArray n) :: c.news, gs := c.gs.push .finished } tk rfl (k D h n vs hv hn ⟨F, N⟩)
  obtain ⟨hp, gn, dr, tk9, os9⟩ := s3
  obtain ⟨z1, z2, z3⟩ := isLoc_of (hx C)
  dsimp only at F9 N9
  refine wpAny_assign_Name (wpAny_storeName_local z2 (s := ⟨hp, gn, dr, tk9, os9⟩) F9.ns (fun h' hn hs => ?_) (by rw [z1]; rfl))
  refine (elem g C h' M ns gn dr os9 b t hb ⟨F9.set hn hs, N9.set hs⟩ ⟨X9, _, _, _, _, _, T9⟩).go _ _ _ fun r c' k' hs' q' => ?_
  obtain ⟨t, rfl, hg, ⟨M', F'⟩, N'⟩ := q'
  unfold Ctx.stat at hs'
  simp only [Prod.mk.injEq] at hs'
  obtain ⟨-, -, -, d1, d2⟩ := hs'
  refine ⟨t, c'.h, k', M', rfl, ?_, F', N'⟩
  unfold Ctx.at
  rw [hg, d1, d2]⟩
end
theorem g_restore : GFn w (Str.ofString "restore") 28 := ⟨by k_is, by k_is⟩
theorem c_sides {P n0 : Nat} {vs : List Value} {ls : List LInf} (X : (hdK w.params).In s.heap) (T : Top p loose mean mg mb s.heap) (hP : s.heap.get? P = some (W.listOf vs.toArray n0)) (hq : FlatL vs ls) (hok : ∀ q ∈ ls, okP q) (hlen : vs.length < 1000) (hb : AllBare s.gens)
    (hR : ∀ (D r0 r1 n : Nat) h tk gn tz, s.heap.StaysIn h → AllBare gn → (∀ q ∈ (D, W.listOf #[.ref r0, .ref r1] n) :: tz, h.get? q.1 = some q.2 ∧ s.heap.get? q.1 = none) → Tz (PB (rowsOf 1 ls)) r0 tz → Tz (PB (rowsOf 2 ls)) r1 tz → R (.ok (.ret (.ref D))) { s with heap := h, toks := tk, gens := gn }) :
    codeAny (model prg w) (AT 840 8400) (.call (.ref 168) ⟨[.ref P], []⟩) R s := by
  have hHl : ∀ h' : Heap, s.heap.StaysIn h' → h'.IsList P vs.toArray := fun h' st => ⟨_, st _ _ hP, rfl, n0, rfl⟩
  have hvl := hq.length
  have hsz : vs.toArray.size = vs.length := List.size_toArray ..
  refine' enterC [(Str.ofString "lines", .ref P)] X T.nolimit ?ho ?hcd (by decide) ?hb ?hl ?c4 ?_ ?c1 ?c2 ?c3
  ((case ho => k_is); (case hcd => k_is); (case hb => first | exact BindsTo.of_eq rfl | exact binds_K (by assumption) rfl (by k_is) rfl rfl rfl); (case hl => rfl); (case c1 => rfl); (case c2 => rfl); (case c3 => rfl); (case c4 => decide))
  intro L h₁ tk cells F N Y
  obtain ⟨oX, rfl, hoX⟩ := CellsAre.one (n := Str.ofString "hinted") (c := L + 1) Y
  replace hoX : oX.data = .cell none := hoX
  obtain ⟨m0, F⟩ := fr_told [(Str.ofString "lines", Value.ref P)] F (told_cons rfl told_nil)
  clear Y
  change wpAny _ _ _ _ _ _
  k_fold
  refine Run.start rfl F N ?_
  intro c S
  have GG : Gl c.w c.h₀ := Gl.mk' X T
  refine Run.assignC (ad := L + 1) ⟨rfl, rfl, rfl, rfl⟩ rfl (EV.comp rfl rfl (fun _ => rfl) (EV.pe (PE.locV S rfl rfl) fun _ => CompK.mk S (hHl _ S.f.keep) GG ?_))
  intro g J D C h4 o R4 st hnew hJD hDC hc4 hd4 hR4 cB SB GB
  have hDJ : D ≠ J := Nat.ne_of_gt hJD
  have hXD : @LT.lt Nat _ (L + 1) D := Nat.lt_trans (hnew _ _ (S.n (L + 1, oX) (.head _)).1) hJD
  refine Loop.comp2J (X := FX) (told := fun _ => []) (led := flLed D) (Φ := fun i _ y => hiPhi ls i y) (adr := [D]) (fun _ => rfl) rfl (fun _ => rfl) (SB.n _ (.tail _ (.head _))).2.1 (SB.n _ (.tail _ (.head _))).2.2 (List.forall_mem_singleton.mpr hDJ) (hHl g fun b o e => st _ _ (S.f.keep b o e))
    (fun i h h' x hp k => hp) ⟨o, (SB.n _ (.tail _ (.head _))).1, hc4, hd4⟩ rfl ([], 0) SB told_nil (by (repeat' (first | exact List.forall_mem_nil _ | (refine List.forall_mem_cons.mpr ⟨?_, ?_⟩) | (first | exact mem_ix 0 rfl | exact mem_ix 1 rfl | exact mem_ix 2 rfl | exact mem_ix 3 rfl | exact mem_ix 4 rfl | exact mem_ix 5 rfl | exact mem_ix 6 rfl | exact mem_ix 7 rfl | exact mem_ix 8 rfl | exact mem_ix 9 rfl | exact mem_ix 10 rfl | exact mem_ix 11 rfl | exact mem_ix 12 rfl | exact mem_ix 13 rfl | exact mem_ix 14 rfl | exact mem_ix 15 rfl)))) ⟨.nil, Nat.le_refl _⟩ ?_ ?_
  · rintro i v oJ ⟨ws, nw⟩ h5 h6 m5 fy P5 hv hfy ⟨c1, c2⟩ hP5
    dsimp only at c1 c2
    obtain ⟨q, t, hqe, rfl⟩ := flat_at hq hv
    have hil : i < ls.length := (List.getElem?_eq_some_iff.mp hqe).1
    obtain ⟨c4, c5, hc0, p5, p6⟩ : ∃ c4 c5, (lineOf q).cps[0]? = some c4 ∧ c5 = 32 ∧ q.2.1 = ⟨#[c4, c5]⟩ := by
      obtain ⟨_, _, _, _, c4, c5, _, _, _, _, p1, p2, p3, p4, p5, p6⟩ := pk_form (hok _ (List.mem_of_getElem? hqe))
      exact ⟨c4, c5, by rw [p2]; rfl, p5, p6⟩
    have y4 : ∀ q ∈ fy, q.1 ≠ D := fun q hq => (hfy q hq).1 D (.head _)
    intro c S
    refine EV.ifExp (BE.strEq (PE.str0 (PE.locV S rfl rfl) PE.int hc0 (fun _ => rfl)) PE.str rfl) (fun hb => EV.list (EVs.ofPA (PA.cons (PE.locV S rfl rfl) (PA.cons PE.str PA.nil rfl) rfl) fun ts => ListK.mk S (Nat.le_of_ble_eq_true rfl) ?_)) (fun hb => EV.list (EVs.ofPA (PA.cons (PE.locV S rfl rfl) PA.nil rfl) fun ts => ListK.mk S (Nat.le_of_ble_eq_true rfl) ?_))
    · intro l2 h7 hl7 c S
      have hlD : @LT.lt Nat _ D l2 := hl7 (D, _) (by (first | exact mem_ix 0 rfl | exact mem_ix 1 rfl | exact mem_ix 2 rfl | exact mem_ix 3 rfl | exact mem_ix 4 rfl | exact mem_ix 5 rfl | exact mem_ix 6 rfl | exact mem_ix 7 rfl | exact mem_ix 8 rfl | exact mem_ix 9 rfl | exact mem_ix 10 rfl | exact mem_ix 11 rfl | exact mem_ix 12 rfl | exact mem_ix 13 rfl | exact mem_ix 14 rfl | exact mem_ix 15 rfl))
      refine InnK.mk S (.head _) ?_
      intro J2 o2 h8 hlt8 hc8 hd8 c S
      have hJD2 : @LT.lt Nat _ D J2 := hlt8 (D, _) (by (first | exact mem_ix 0 rfl | exact mem_ix 1 rfl | exact mem_ix 2 rfl | exact mem_ix 3 rfl | exact mem_ix 4 rfl | exact mem_ix 5 rfl | exact mem_ix 6 rfl | exact mem_ix 7 rfl | exact mem_ix 8 rfl | exact mem_ix 9 rfl | exact mem_ix 10 rfl | exact mem_ix 11 rfl | exact mem_ix 12 rfl | exact mem_ix 13 rfl | exact mem_ix 14 rfl | exact mem_ix 15 rfl))
      have hJl : l2 ≠ J2 := Nat.ne_of_lt (hlt8 (l2, _) (.head _))
      have hJJ : J ≠ J2 := Nat.ne_of_lt (hlt8 (J, oJ) (by (first | exact mem_ix 0 rfl | exact mem_ix 1 rfl | exact mem_ix 2 rfl | exact mem_ix 3 rfl | exact mem_ix 4 rfl | exact mem_ix 5 rfl | exact mem_ix 6 rfl | exact mem_ix 7 rfl | exact mem_ix 8 rfl | exact mem_ix 9 rfl | exact mem_ix 10 rfl | exact mem_ix 11 rfl | exact mem_ix 12 rfl | exact mem_ix 13 rfl | exact mem_ix 14 rfl | exact mem_ix 15 rfl)))
      have hJf : ∀ p ∈ fy, p.1 ≠ J2 := fun p hp => Nat.ne_of_lt (hlt8 p (.tail _ (.tail _ (.tail _ hp))))
      refine Loop.turn2 (i := 0) rfl S (.head (List.forall_mem_cons.mpr ⟨hJl, List.forall_mem_cons.mpr ⟨hJJ, List.forall_mem_cons.mpr ⟨Nat.ne_of_lt hJD2, hJf⟩⟩⟩)) (.tail _ (.head _)) hc8 hd8 rfl rfl ?_
      intro h9 o9 hc9 hd9 c S
      refine EV.pe (PE.locV S rfl rfl) fun _ => ?_
      refine' LayK.mk (vs := ws) (n := nw) S ?U1 (by omega) ?_
      case U1 => k_upd
      intro h10 c S
      refine Loop.turn2 (i := 1) rfl S (.head (List.forall_mem_cons.mpr ⟨hJl, List.forall_mem_cons.mpr ⟨hJJ, List.forall_mem_cons.mpr ⟨Nat.ne_of_lt hJD2, hJf⟩⟩⟩)) (.tail _ (.head _)) hc9 hd9 rfl rfl ?_
      intro h11 o11 hc11 hd11 c S
      refine EV.pe (PE.locV S rfl rfl) fun _ => ?_
      refine' LayK.mk (vs := ws ++ [.str (lineOf q) t]) (n := nw + 1) S ?U2 (by rw [List.length_append, List.length_singleton]; omega) ?_
      case U2 => k_upd
      intro h12 c S
      refine Loop.done2 S rfl (.head _) (.head (List.forall_mem_cons.mpr ⟨hJl, List.forall_mem_cons.mpr ⟨hJJ, List.forall_mem_cons.mpr ⟨Nat.ne_of_lt hJD2, hJf⟩⟩⟩)) (.tail _ (.head _)) hc11 hd11 rfl ?_
      intro h13 c S tk
      refine hP5 _ (LEnd.of (ws ++ [.str (lineOf q) t] ++ [_], nw + 1 + 1) S rfl rfl rfl told_nil (by (repeat' (first | exact List.forall_mem_nil _ | (refine List.forall_mem_cons.mpr ⟨?_, ?_⟩) | (first | exact mem_ix 0 rfl | exact mem_ix 1 rfl | exact mem_ix 2 rfl | exact mem_ix 3 rfl | exact mem_ix 4 rfl | exact mem_ix 5 rfl | exact mem_ix 6 rfl | exact mem_ix 7 rfl | exact mem_ix 8 rfl | exact mem_ix 9 rfl | exact mem_ix 10 rfl | exact mem_ix 11 rfl | exact mem_ix 12 rfl | exact mem_ix 13 rfl | exact mem_ix 14 rfl | exact mem_ix 15 rfl)))) (by (repeat' (first | exact List.forall_mem_nil _ | (refine List.forall_mem_cons.mpr ⟨?_, ?_⟩) | (first | exact mem_ix 0 rfl | exact mem_ix 1 rfl | exact mem_ix 2 rfl | exact mem_ix 3 rfl | exact mem_ix 4 rfl | exact mem_ix 5 rfl | exact mem_ix 6 rfl | exact mem_ix 7 rfl | exact mem_ix 8 rfl | exact mem_ix 9 rfl | exact mem_ix 10 rfl | exact mem_ix 11 rfl | exact mem_ix 12 rfl | exact mem_ix 13 rfl | exact mem_ix 14 rfl | exact mem_ix 15 rfl)))) (by (first | exact tail_of 1 rfl | exact tail_of 2 rfl | exact tail_of 3 rfl | exact tail_of 4 rfl | exact tail_of 5 rfl | exact tail_of 6 rfl | exact tail_of 7 rfl | exact tail_of 8 rfl | exact tail_of 9 rfl | exact tail_of 10 rfl | exact tail_of 11 rfl | exact tail_of 12 rfl | exact tail_of 13 rfl | exact tail_of 14 rfl | exact tail_of 15 rfl)) fun kp => ⟨?_, by simp only [List.length_append, List.length_cons, List.length_nil]; omega⟩)
      rw [hintUp_succ hqe]
      have e : hintAt q = [lineOf q] ++ [hintS] := if_pos (minus_of hb p5 p6)
      rw [e, ← List.append_assoc]
      exact (c1.append (.one (lineOf q) t)).append (.one hintS _)
    · intro l2 h7 hl7 c S
      have hlD : @LT.lt Nat _ D l2 := hl7 (D, _) (by (first | exact mem_ix 0 rfl | exact mem_ix 1 rfl | exact mem_ix 2 rfl | exact mem_ix 3 rfl | exact mem_ix 4 rfl | exact mem_ix 5 rfl | exact mem_ix 6 rfl | exact mem_ix 7 rfl | exact mem_ix 8 rfl | exact mem_ix 9 rfl | exact mem_ix 10 rfl | exact mem_ix 11 rfl | exact mem_ix 12 rfl | exact mem_ix 13 rfl | exact mem_ix 14 rfl | exact mem_ix 15 rfl))
      refine InnK.mk S (.head _) ?_
      intro J2 o2 h8 hlt8 hc8 hd8 c S
      have hJD2 : @LT.lt Nat _ D J2 := hlt8 (D, _) (by (first | exact mem_ix 0 rfl | exact mem_ix 1 rfl | exact mem_ix 2 rfl | exact mem_ix 3 rfl | exact mem_ix 4 rfl | exact mem_ix 5 rfl | exact mem_ix 6 rfl | exact mem_ix 7 rfl | exact mem_ix 8 rfl | exact mem_ix 9 rfl | exact mem_ix 10 rfl | exact mem_ix 11 rfl | exact mem_ix 12 rfl | exact mem_ix 13 rfl | exact mem_ix 14 rfl | exact mem_ix 15 rfl))
      have hJl : l2 ≠ J2 := Nat.ne_of_lt (hlt8 (l2, _) (.head _))
      have hJJ : J ≠ J2 := Nat.ne_of_lt (hlt8 (J, oJ) (by (first | exact mem_ix 0 rfl | exact mem_ix 1 rfl | exact mem_ix 2 rfl | exact mem_ix 3 rfl | exact mem_ix 4 rfl | exact mem_ix 5 rfl | exact mem_ix 6 rfl | exact mem_ix 7 rfl | exact mem_ix 8 rfl | exact mem_ix 9 rfl | exact mem_ix 10 rfl | exact mem_ix 11 rfl | exact mem_ix 12 rfl | exact mem_ix 13 rfl | exact mem_ix 14 rfl | exact mem_ix 15 rfl)))
      have hJf : ∀ p ∈ fy, p.1 ≠ J2 := fun p hp => Nat.ne_of_lt (hlt8 p (.tail _ (.tail _ (.tail _ hp))))
      refine Loop.turn2 (i := 0) rfl S (.head (List.forall_mem_cons.mpr ⟨hJl, List.forall_mem_cons.mpr ⟨hJJ, List.forall_mem_cons.mpr ⟨Nat.ne_of_lt hJD2, hJf⟩⟩⟩)) (.tail _ (.head _)) hc8 hd8 rfl rfl ?_
      intro h9 o9 hc9 hd9 c S
      refine EV.pe (PE.locV S rfl rfl) fun _ => ?_
      refine' LayK.mk (vs := ws) (n := nw) S ?U3 (by omega) ?_
      case U3 => k_upd
      intro h10 c S
      refine Loop.done2 S rfl (.head _) (.head (List.forall_mem_cons.mpr ⟨hJl, List.forall_mem_cons.mpr ⟨hJJ, List.forall_mem_cons.mpr ⟨Nat.ne_of_lt hJD2, hJf⟩⟩⟩)) (.tail _ (.head _)) hc9 hd9 rfl ?_
      intro h13 c S tk
      refine hP5 _ (LEnd.of (ws ++ [.str (lineOf q) t], nw + 1) S rfl rfl rfl told_nil (by (repeat' (first | exact List.forall_mem_nil _ | (refine List.forall_mem_cons.mpr ⟨?_, ?_⟩) | (first | exact mem_ix 0 rfl | exact mem_ix 1 rfl | exact mem_ix 2 rfl | exact mem_ix 3 rfl | exact mem_ix 4 rfl | exact mem_ix 5 rfl | exact mem_ix 6 rfl | exact mem_ix 7 rfl | exact mem_ix 8 rfl | exact mem_ix 9 rfl | exact mem_ix 10 rfl | exact mem_ix 11 rfl | exact mem_ix 12 rfl | exact mem_ix 13 rfl | exact mem_ix 14 rfl | exact mem_ix 15 rfl)))) (by (repeat' (first | exact List.forall_mem_nil _ | (refine List.forall_mem_cons.mpr ⟨?_, ?_⟩) | (first | exact mem_ix 0 rfl | exact mem_ix 1 rfl | exact mem_ix 2 rfl | exact mem_ix 3 rfl | exact mem_ix 4 rfl | exact mem_ix 5 rfl | exact mem_ix 6 rfl | exact mem_ix 7 rfl | exact mem_ix 8 rfl | exact mem_ix 9 rfl | exact mem_ix 10 rfl | exact mem_ix 11 rfl | exact mem_ix 12 rfl | exact mem_ix 13 rfl | exact mem_ix 14 rfl | exact mem_ix 15 rfl)))) (by (first | exact tail_of 1 rfl | exact tail_of 2 rfl | exact tail_of 3 rfl | exact tail_of 4 rfl | exact tail_of 5 rfl | exact tail_of 6 rfl | exact tail_of 7 rfl | exact tail_of 8 rfl | exact tail_of 9 rfl | exact tail_of 10 rfl | exact tail_of 11 rfl | exact tail_of 12 rfl | exact tail_of 13 rfl | exact tail_of 14 rfl | exact tail_of 15 rfl)) fun kp => ⟨?_, by simp only [List.length_append, List.length_cons, List.length_nil]; omega⟩)
      rw [hintUp_succ hqe]
      have e : hintAt q = [lineOf q] := if_neg (not_minus_of hb p6)
      rw [e]
      exact c1.append (.one (lineOf q) t)
  · rintro ⟨ws, nw⟩ h5 m5 ⟨c1, c2⟩ cE SE tk
    dsimp only at c1 c2
    refine hR4 cE tk _ _ rfl rfl rfl rfl SE (.head _) fun h7 k7 => ?_
    intro c S
    refine' StoreC.mk (o := oX) S (.tail (Nat.ne_of_gt hXD) (.head fun _ h => nomatch h)) hoX ?_
    intro h8 oX2 dX c S
    have hds : ∀ d ∈ hintUp ls vs.toArray.size, d.length ≤ 1000 := hint_small hok _
    have hout : ∀ side, side = 1 ∨ side = 2 → outOf side (hintUp ls vs.toArray.size) = (rowsOf side ls).map txt := fun side hs => by
      have e : vs.toArray.size = ls.length := by rw [hsz]; exact hvl
      rw [e]
      unfold hintUp
      rw [List.take_length]
      exact out_hints hs hok
    refine Run.retV (EV.two (Z := fun j r tz => Tz (PB (rowsOf (j + 1) ls)) r tz) (fun _ _ _ _ => Tz.either) rfl rfl (fun _ => rfl) (fun _ => rfl) rfl (EV.list (EVs.ofPA (PA.cons PE.int (PA.cons PE.int PA.nil rfl) rfl) fun ts => ListK.mk S (Nat.le_of_ble_eq_true rfl) ?_)))
    intro l0 h9 hl9 c S
    have hcell : ∀ h' : Heap, c.h.StaysIn h' → h'.IsCell (L + 1) (some (.ref D)) := fun h' k => ⟨_, k _ _ (S.n (L + 1, oX2) (by (first | exact mem_ix 0 rfl | exact mem_ix 1 rfl | exact mem_ix 2 rfl | exact mem_ix 3 rfl | exact mem_ix 4 rfl | exact mem_ix 5 rfl | exact mem_ix 6 rfl | exact mem_ix 7 rfl | exact mem_ix 8 rfl | exact mem_ix 9 rfl | exact mem_ix 10 rfl | exact mem_ix 11 rfl | exact mem_ix 12 rfl | exact mem_ix 13 rfl | exact mem_ix 14 rfl | exact mem_ix 15 rfl))).1, dX⟩
    have hH8 : ∀ h' : Heap, c.h.StaysIn h' → h'.get? D = some (W.listOf ws.toArray nw) := fun h' k => k _ _ (S.n (D, _) (.tail _ (.head _))).1
    refine TwoK.mk (v := fun j => .int ((j + 1 : Nat) : Int) (ts j)) S (News.isList S.n (.head _)) GG hb ?_ ?_
    · intro j g C h3 m news gs hj st hm hb cB SB GB
      refine EV.side (side := j + 1) rfl rfl (fun _ => rfl) (fun _ => rfl) SB GB rfl g_restore ⟨rfl, Nat.le_of_ble_eq_true rfl, Nat.le_of_ble_eq_true rfl⟩ rfl rfl rfl rfl (PE.cellB SB ⟨rfl, rfl, rfl, rfl⟩ (hcell g st)) (PE.locI SB rfl hm) (by omega) (hH8 _ fun b o e => SB.f.keep _ _ (st b o e)) c1 (by omega) hds (hout (j + 1) (by omega)) (rows_row hok) (Nat.lt_of_le_of_lt (rows_len _ ls) (by omega)) ?_ fun D5 h5 n vs hv hn S5 => ⟨⟨D5, [(D5, W.listOf vs.toArray n)], rfl, S5.f, ?_, hb.push rfl, fun h' k => ⟨vs, n, k _ (.head _), hv⟩, ?_⟩⟩
      · intro g2 C2 h6 m6 ns6 gs6 dr6 os6 b t hb c2 S2 GB2
        refine EV.callC S2 GB2 rfl g_dec rfl rfl rfl (EVs.cons rfl (EV.pe (PE.locV S2 rfl rfl) fun _ => EVs.nil ⟨⟨GB2, S2⟩, CallC.con S2 GB2 ⟨rfl, Nat.le_of_ble_eq_true rfl, Nat.le_of_ble_eq_true rfl⟩ (K_dec hb) ?_⟩))
        intro h7 t7 c7 S7
        exact ⟨t7, rfl, rfl, ⟨_, S7.f⟩, S7.n⟩
      · intro q hq
        rcases List.mem_append.mp hq with hq | hq
        · exact S5.n q (.tail _ hq)
        · rw [List.mem_singleton.mp hq]; exact S5.n _ (.head _)
      · intro q hq p hp
        rw [List.mem_singleton.mp hq]
        exact Nat.ne_of_gt (hn p.1 p.2 (SB.n p hp).1)
    · rintro D2 h3 r0 r1 tz n gs hb z0 z1 hf hlt c S
      refine RetK.mk fun tk => hR D2 r0 r1 n h3 tk gs tz S.f.keep hb (List.forall_mem_cons.mpr ⟨⟨(S.n _ (.head _)).1, (S.n _ (.head _)).2.2⟩, fun q hq => ?_⟩) z0 z1
      have z := S.n q (.tail _ (List.mem_append_right _ hq))
      exact ⟨z.1, z.2.2⟩
end
section
variable {w : World} {s : Shared} {p : Program} {loose : List Str} {mean : ExcName → Option Value} {mg mb : Str → Option Value} {R : Result → Shared → Prop}
theorem use_core {P : Heap → Nat → Prop} {h₀ h : Heap} {L : Addr} {m : Str → Option Value} {news : List (Addr × Obj)} {D : Nat} (F : Fr h₀ L s.heap m) (N : News h₀ L s.heap news) (st : s.heap.StaysIn h) (ads : List Nat) (ha : ∀ a ∈ ads, s.heap.get? a = none ∧ ∃ o, h.get? a = some o)
    (hp : ∀ h' : Heap, (∀ a ∈ ads, ∀ o, h.get? a = some o → h'.get? a = some o) → P h' D) :
    ∃ tz, Fr h₀ L h m ∧ News h₀ L h (news ++ tz) ∧ Tz P D tz ∧ ∀ q ∈ tz, s.heap.get? q.1 = none := by
  refine ⟨ads.filterMap fun a => (h.get? a).map fun o => (a, o), Fr.out F st, fun q hq => ?_, fun h' k => hp h' fun a ha' o ho => ?_, fun q hq => ?_⟩
  · rcases List.mem_append.mp hq with hq | hq
    · exact News.out N st q hq
    · obtain ⟨a, ha', e⟩ := List.mem_filterMap.mp hq
      cases eo : h.get? a with
      | none => rw [eo] at e; cases e
      | some o =>
        rw [eo] at e
        cases e
        have hn := (ha a ha').1
        refine ⟨eo, fun e => ?_, ?_⟩
        · obtain ⟨oo, _, _, ho, _⟩ := F.ns
          have e' : a = L := e
          rw [← e', hn] at ho; cases ho
        · cases e : h₀.get? a with
          | none => rfl
          | some y => have := F.keep _ _ e; rw [hn] at this; cases this
  · exact k (a, o) (List.mem_filterMap.mpr ⟨a, ha', by rw [ho]; rfl⟩)
  · obtain ⟨a, ha', e⟩ := List.mem_filterMap.mp hq
    cases eo : h.get? a with
    | none => rw [eo] at e; cases e
    | some o => rw [eo] at e; cases e; exact (ha a ha').1
noncomputable def PL (as : List Nat) (n : Nat) (hand : Nat) (xs : List Int) (h : Heap) (H : Nat) : Prop := h.get? H = some (hobj as n) ∧ LTups h as (linesUp hand xs xs.length)
noncomputable def PS (ls : List LInf) (h : Heap) (D : Nat) : Prop := ∃ (vs : List Value) (n : Nat), h.get? D = some (W.listOf vs.toArray n) ∧ FlatL vs ls
noncomputable def PP (qs : List LInf) (h : Heap) (D : Nat) : Prop := ∃ (vs : List Value) (n : Nat) (ps : List LInf), h.get? D = some (W.listOf vs.toArray n) ∧ FlatP vs ps ∧ ps.Perm qs
noncomputable def PO (qs : List LInf) (h : Heap) (D : Nat) : Prop := ∃ (vs : List Value) (n : Nat) (pp : List LInf), h.get? D = some (W.listOf vs.toArray n) ∧ pp.Perm qs ∧ pp.Pairwise (fun a b => pltP (kc b) (kc a) = false) ∧ FlatL vs (laidF pp).1
noncomputable def PT (r1 r2 : List (Array UInt8)) (h : Heap) (D : Nat) : Prop := ∃ D1 D2 n, h.get? D = some (W.listOf #[.ref D1, .ref D2] n) ∧ PB r1 h D1 ∧ PB r2 h D2
theorem ltup_has {h : Heap} {a : Nat} {q : LInf} (x : LTup h a q) : ∃ o, h.get? a = some o := by
  obtain ⟨o, _, _, _, _, ho, _⟩ := x
  exact ⟨o, ho⟩
theorem ltups_has {h : Heap} {as : List Nat} {qs : List LInf} (x : LTups h as qs) : ∀ a ∈ as, ∃ o, h.get? a = some o := by
  induction x with
  | nil => exact fun _ h => nomatch h
  | cons x _ ih => exact fun a ha => (List.mem_cons.mp ha).elim (fun e => by subst e; exact ltup_has x) (ih a)
section
variable {A : Around} {E : Value → Shared → Prop} {h₀ : Heap} {L : Addr} {m : Str → Option Value} {news : List (Addr × Obj)} {Q : Value → Shared → Prop}
theorem use_lines {Na hand : Nat} (hh2 : hand < 2) {items : Array Value} {xs : List Int} {t0 : Tok} {i0 : Int} (hi0 : i0 = (hand : Int)) (F : Fr h₀ L s.heap m) (X : (hdK w.params).In h₀) (N : News h₀ L s.heap news) (T : Top p loose mean mg mb h₀) (hA : s.heap.IsList Na items) (hxs : IntsAt items xs) (hsz : items.size < 1000)
    (hh : A.handled = none) (hd0 : A.depth ≤ 860) (hu : A.units ≤ 8600)
    (k : ∀ D h tk tz as n, Fr h₀ L h m → News h₀ L h (news ++ tz) → Tz (PL as n hand xs) D tz → (∀ q ∈ tz, s.heap.get? q.1 = none) → Q (.ref D) { s with heap := h, toks := tk }) :
    wpAny (model prg w) A (call (.ref 149) [.ref Na, .int i0 t0]) Q E s := by
  subst hi0
  refine wpAny_call (codeAny_weaken (d := 860) (u := 8600) (c_lines hh2 (X.keeps F.keep) (T.keeps F.keep) hA hxs hsz fun H h tk as n st hH hHn has hL => ?_) hh hd0 hu)
  obtain ⟨tz, F', N', z1, z2⟩ := use_core (P := PL as n hand xs) (D := H) F N st (H :: as) (fun a ha => by
    rcases List.mem_cons.mp ha with rfl | ha
    · exact ⟨hHn, _, hH⟩
    · refine ⟨(has a ha).2, ?_⟩
      exact ltups_has hL a ha) (fun h' k => ⟨k _ (.head _) _ hH, hL.at fun a ha o ho => k a (.tail _ ha) o ho⟩)
  exact k H h tk tz as n F' N' z1 z2
theorem use_due {Na Hd : Nat} {items itemsH : Array Value} {xs : List Int} (hs : List Nat) (F : Fr h₀ L s.heap m) (X : (hdK w.params).In h₀) (N : News h₀ L s.heap news) (T : Top p loose mean mg mb h₀) (hA : s.heap.IsList Na items) (hxs : IntsAt items xs) (hsz : items.size < 1000)
    (hH : s.heap.IsList Hd itemsH) (hhs : IntsAt itemsH (hs.map Int.ofNat)) (hh2 : ∀ h ∈ hs, h < 2) (hlen : hs.length < 1000)
    (hh : A.handled = none) (hd0 : A.depth ≤ 860) (hu : A.units ≤ 8600)
    (k : ∀ D h tk tz, Fr h₀ L h m → News h₀ L h (news ++ tz) → Tz (PB (dueUp hs xs xs.length)) D tz → (∀ q ∈ tz, s.heap.get? q.1 = none) → Q (.ref D) { s with heap := h, toks := tk }) :
    wpAny (model prg w) A (call (.ref 173) [.ref Na, .ref Hd]) Q E s := by
  refine wpAny_call (codeAny_weaken (d := 860) (u := 8600) (c_due (hs := hs) (X.keeps F.keep) (T.keeps F.keep) hA hxs hsz hH hhs hh2 hlen fun D h tk vs n st hD hDn hv => ?_) hh hd0 hu)
  obtain ⟨tz, F', N', z1, z2⟩ := use_core (P := PB (dueUp hs xs xs.length)) (D := D) F N st [D] (fun a ha => by
    rw [List.mem_singleton.mp ha]; exact ⟨hDn, _, hD⟩) (fun h' k => ⟨vs, n, k _ (.head _) _ hD, hv⟩)
  exact k D h tk tz F' N' z1 z2
theorem use_packets {Na Lr : Nat} {items : Array Value} {xs : List Int} {as : List Nat} {n : Nat} {qs : List LInf} (F : Fr h₀ L s.heap m) (X : (hdK w.params).In h₀) (N : News h₀ L s.heap news) (T : Top p loose mean mg mb h₀) (hA : s.heap.IsList Na items) (hxs : IntsAt items xs) (hx0 : 0 < xs.length) (hsz : items.size < 1000)
    (hL : s.heap.get? Lr = some (hobj as n)) (hq : LTups s.heap as qs) (hok : ∀ q ∈ qs, okL q) (hlen : as.length < 1000)
    (hh : A.handled = none) (hd0 : A.depth ≤ 860) (hu : A.units ≤ 8600)
    (k : ∀ D h tk tz, Fr h₀ L h m → News h₀ L h (news ++ tz) → Tz (PP qs) D tz → (∀ q ∈ tz, s.heap.get? q.1 = none) → Q (.ref D) { s with heap := h, toks := tk }) :
    wpAny (model prg w) A (call (.ref 156) [.ref Na, .ref Lr]) Q E s := by
  refine wpAny_call (codeAny_weaken (d := 860) (u := 8600) (c_packets (X.keeps F.keep) (T.keeps F.keep) hA hxs hx0 hsz hL hq hok hlen fun D h tk vs n ps st hD hDn hv hp => ?_) hh hd0 hu)
  obtain ⟨tz, F', N', z1, z2⟩ := use_core (P := PP qs) (D := D) F N st [D] (fun a ha => by
    rw [List.mem_singleton.mp ha]; exact ⟨hDn, _, hD⟩) (fun h' k => ⟨vs, n, ps, k _ (.head _) _ hD, hv, hp⟩)
  exact k D h tk tz F' N' z1 z2
theorem use_laid {P n0 : Nat} {vs : List Value} {qs : List LInf} (F : Fr h₀ L s.heap m) (X : (hdK w.params).In h₀) (N : News h₀ L s.heap news) (T : Top p loose mean mg mb h₀) (hP : s.heap.get? P = some (W.listOf vs.toArray n0)) (hq : FlatP vs qs) (hok : ∀ q ∈ qs, okP q) (hlen : vs.length < 1000)
    (hh : A.handled = none) (hd0 : A.depth ≤ 860) (hu : A.units ≤ 8600)
    (k : ∀ D h tk tz, Fr h₀ L h m → News h₀ L h (news ++ tz) → Tz (PO qs) D tz → (∀ q ∈ tz, s.heap.get? q.1 = none) → Q (.ref D) { s with heap := h, toks := tk }) :
    wpAny (model prg w) A (call (.ref 163) [.ref P]) Q E s := by
  refine wpAny_call (codeAny_weaken (d := 860) (u := 8600) (c_laid (X.keeps F.keep) (T.keeps F.keep) hP hq hok hlen fun D h tk vs n pp st hD hDn h1 h2 h3 => ?_) hh hd0 hu)
  obtain ⟨tz, F', N', z1, z2⟩ := use_core (P := PO qs) (D := D) F N st [D] (fun a ha => by
    rw [List.mem_singleton.mp ha]; exact ⟨hDn, _, hD⟩) (fun h' k => ⟨vs, n, pp, k _ (.head _) _ hD, h1, h2, h3⟩)
  exact k D h tk tz F' N' z1 z2
theorem news_new {h₀ h1 h : Heap} {L : Addr} {m : Str → Option Value} {tz : List (Addr × Obj)} (F : Fr h₀ L h1 m) (f : ∀ q ∈ tz, h.get? q.1 = some q.2 ∧ h1.get? q.1 = none) : News h₀ L h tz := fun q hq => by
  obtain ⟨e1, e2⟩ := f q hq
  refine ⟨e1, fun e => ?_, ?_⟩
  · obtain ⟨oo, _, _, ho, _⟩ := F.ns
    rw [← e] at ho
    exact nomatch (e2.symm.trans ho)
  · cases e : h₀.get? q.1 with
    | none => rfl
    | some y => exact nomatch (e2.symm.trans (F.keep _ _ e))
theorem use_sides {P n0 : Nat} {vs : List Value} {ls : List LInf} (F : Fr h₀ L s.heap m) (X : (hdK w.params).In h₀) (N : News h₀ L s.heap news) (T : Top p loose mean mg mb h₀) (hP : s.heap.get? P = some (W.listOf vs.toArray n0)) (hq : FlatL vs ls) (hok : ∀ q ∈ ls, okP q) (hlen : vs.length < 1000)
    (hb : AllBare s.gens) (hh : A.handled = none) (hd0 : A.depth ≤ 840) (hu : A.units ≤ 8400)
    (k : ∀ D h tk tz gn, AllBare gn → Fr h₀ L h m → News h₀ L h (news ++ tz) → Tz (PT (rowsOf 1 ls) (rowsOf 2 ls)) D tz → (∀ q ∈ tz, s.heap.get? q.1 = none) → Q (.ref D) { s with heap := h, toks := tk, gens := gn }) :
    wpAny (model prg w) A (call (.ref 168) [.ref P]) Q E s := by
  refine wpAny_call (codeAny_weaken (d := 840) (u := 8400) (c_sides (X.keeps F.keep) (T.keeps F.keep) hP hq hok hlen hb fun D r0 r1 n h tk gn tz st hg f z0 z1 => ?_) hh hd0 hu)
  exact k D h tk _ gn hg (Fr.out F st) (fun q hq => (List.mem_append.mp hq).elim (News.out N st q) (news_new F f q)) (fun h' k => ⟨r0, r1, n, k _ (.head _), (Tz.right (a := [_]) z0) h' k, (Tz.right (a := [_]) z1) h' k⟩) fun q hq => (f q hq).2
end
section
open SeqAt
variable {A : Around}
theorem eqB_at {b : Array UInt8} {t u : Tok} : EqAt A s (.bytes b t) (.bytes b u) true := fun prog w E Q h => PySem.W.eqBool_bytes (by simpa using h)
theorem flatB_at {vs ws : List Value} {rows : List (Array UInt8)} (hv : FlatB vs rows) (hw : FlatB ws rows) : ∀ j (h1 : j < vs.toArray.size) (h2 : j < ws.toArray.size), EqAt A s vs.toArray[j] ws.toArray[j] true := fun j h1 h2 => by
  have hl := hv.length
  have hj : j < rows.length := by simpa [hl] using h1
  have e : rows[j]? = some rows[j] := by simp [hj]
  obtain ⟨t, ht⟩ := hv.get e
  obtain ⟨u, hu⟩ := hw.get e
  have e1 : vs.toArray[j] = .bytes rows[j] t := by
    have : vs.toArray[j]? = some (.bytes rows[j] t) := by simpa using ht
    rw [Array.getElem?_eq_getElem h1] at this
    exact Option.some.inj this
  have e2 : ws.toArray[j] = .bytes rows[j] u := by
    have : ws.toArray[j]? = some (.bytes rows[j] u) := by simpa using hu
    rw [Array.getElem?_eq_getElem h2] at this
    exact Option.some.inj this
  rw [e1, e2]
  exact eqB_at
theorem all_true (n : Nat) : (List.range n).all (fun _ => true) = true := by simp
theorem PB.list {h : Heap} {D : Nat} {rows : List (Array UInt8)} (x : PB rows h D) : ∃ vs : List Value, h.IsList D vs.toArray ∧ FlatB vs rows := let ⟨vs, n, h1, h2⟩ := x; ⟨vs, ⟨_, h1, rfl, n, rfl⟩, h2⟩
theorem PB.eq {D D' : Nat} {rows : List (Array UInt8)} (x : PB rows s.heap D) (y : PB rows s.heap D') (hu : A.units < cLine) : EqAt A s (.ref D) (.ref D') true := by
  by_cases e : D = D'
  · subst e; exact EqAt.same _
  · obtain ⟨vs, h1, h2⟩ := x.list
    obtain ⟨ws, k1, k2⟩ := y.list
    have := RcAt.lists (A := A) (e := fun _ => true) h1 k1 (by simp [h2.length, k2.length]) hu (flatB_at h2 k2)
    rw [all_true] at this
    exact EqAt.of_refs e this
theorem pair_at {a b c d : Value} (h1 : EqAt A s a c true) (h2 : EqAt A s b d true) : ∀ j (k1 : j < (#[a, b] : Array Value).size) (k2 : j < (#[c, d] : Array Value).size), EqAt A s (#[a, b] : Array Value)[j] (#[c, d] : Array Value)[j] true := fun j k1 k2 => by
  have hj : j < 2 := k1
  match j, hj with
  | 0, _ => exact h1
  | 1, _ => exact h2
theorem PT.eq {D D' : Nat} {r1 r2 : List (Array UInt8)} (x : PT r1 r2 s.heap D) (y : PT r1 r2 s.heap D') (hu : A.units + 1 < cLine) : EqAt A s (.ref D) (.ref D') true := by
  by_cases e : D = D'
  · subst e; exact EqAt.same _
  · obtain ⟨D1, D2, n, h0, h1, h2⟩ := x
    obtain ⟨E1, E2, k, k0, k1, k2⟩ := y
    have := RcAt.lists (A := A) (e := fun _ => true) ⟨_, h0, rfl, n, rfl⟩ ⟨_, k0, rfl, k, rfl⟩ rfl (by omega) (pair_at (h1.eq k1 hu) (h2.eq k2 hu))
    rw [all_true] at this
    exact EqAt.of_refs e this
theorem ne_tabs {E : Value → Shared → Prop} {D D' D1 D2 E1 E2 n k : Nat} {Q : Value → Shared → Prop} {r1 r2 q1 q2 : List (Array UInt8)} (h0 : s.heap.get? D = some (W.listOf #[.ref D1, .ref D2] n)) (k0 : s.heap.get? D' = some (W.listOf #[.ref E1, .ref E2] k))
    (h1 : PT r1 r2 s.heap D1) (h2 : PT q1 q2 s.heap D2) (k1 : PT r1 r2 s.heap E1) (k2 : PT q1 q2 s.heap E2) (hu : A.units + 2 < cLine) (h : Q (.bool false) s) : wpAny (model prg w) A (compareOp .NotEq (.ref D) (.ref D')) Q E s := by
  have hu1 : A.in1.units + 1 < cLine := by show A.units + 1 + 1 < cLine; omega
  have := RcNeAt.lists (A := A) (e := fun _ => true) ⟨_, h0, rfl, n, rfl⟩ ⟨_, k0, rfl, k, rfl⟩ rfl (by omega) (pair_at (h1.eq k1 hu1) (h2.eq k2 hu1))
  rw [all_true] at this
  exact this prg w E Q h
theorem eq_tab {E : Value → Shared → Prop} {D D' : Nat} {Q : Value → Shared → Prop} {r1 r2 : List (Array UInt8)} (x : PT r1 r2 s.heap D) (y : PT r1 r2 s.heap D') (hu : A.units + 1 < cLine) (h : Q (.bool true) s) : wpAny (model prg w) A (compareOp .Eq (.ref D) (.ref D')) Q E s := by
  obtain ⟨D1, D2, n, h0, h1, h2⟩ := x
  obtain ⟨E1, E2, k, k0, k1, k2⟩ := y
  have hu1 : A.in1.units < cLine := hu
  have := RcAt.lists (A := A) (e := fun _ => true) ⟨_, h0, rfl, n, rfl⟩ ⟨_, k0, rfl, k, rfl⟩ rfl (by omega) (pair_at (h1.eq k1 hu1) (h2.eq k2 hu1))
  rw [all_true] at this
  exact this prg w E Q h
end
structure strOut (g : Heap) (C : Addr) (ns : List (Addr × Obj)) (q : LInf) (s3 : Shared) (v : Value) (s5 : Shared) : Prop where
  at' : ∃ t h tk M, v = Value.str (lineOf q) t ∧ s5 = { s3 with heap := h, toks := tk } ∧ Fr g C h M ∧ News g C h ns
noncomputable def owPhi (qs : List LInf) (i : Nat) (_ : Heap) (x : FX) : Prop := x.1.length = i ∧ FlatL x.1 (qs.take i)
theorem own_block {A : Around} {E : Value → Shared → Prop} {h₀ : Heap} {L : Addr} {m : Str → Option Value} {news : List (Addr × Obj)} {env : Env} {sc : Scope} {cl : List (Str × Addr)} {pos : Pos} {target elt iter : PySem.Expr} {H n0 : Nat} {as : List Nat} {qs : List LInf} {Q : Value → Shared → Prop}
    (F : Fr h₀ L s.heap m) (X : (hdK w.params).In h₀) (N : News h₀ L s.heap news) (T : Top p loose mean mg mb h₀) (hH : s.heap.get? H = some (hobj as n0)) (hq : LTups s.heap as qs) (hlen : as.length < 10000) (hok : ∀ q ∈ qs, okP q)
    (hh : A.handled = none)
    (hstep : ∀ (g : Heap) (C : Nat) (M : Str → Option Value) (ns : List (Addr × Obj)) (a : Nat) (q : LInf) (s3 : Shared), okP q → LTup g a q → (hdK w.params).In g → Top p loose mean mg mb g → Fr g C s3.heap M → News g C s3.heap ns →
      wpAny (model prg w) A (assign target (compEnvC sc cl C env) (.ref a)) (fun _ s4 => wpAny (model prg w) A (eval elt (compEnvC sc cl C env)) (strOut g C ns q s3) (fun _ _ => False) s4) (fun _ _ => False) s3)
    (k : ∀ (D : Nat) n vs h'' tk, Fr h₀ L h'' m → News h₀ L h'' ((D, W.listOf vs.toArray n) :: news) → FlatL vs qs → (∀ b o, s.heap.get? b = some o → b < D) → Q (.ref D) { s with heap := h'', toks := tk }) :
    wpAny (model prg w) A (pyIter (.ref H)) (fun it s₂ => ∀ D C h₄, D = s₂.heap.objs.size → C = D + 1 → h₄.Ns C (fun _ => none) → h₄.get? D = some (W.listOf #[] 0) → s₂.heap.StaysIn h₄ →
      codeAny (model prg w) A (.compStart (.ListComp elt [⟨target, iter, [], 0⟩] sc pos) 0 it (.ref D) (compEnvC sc cl C env)) (compPost (model prg w) A E none Q (.ref D) C) { s₂ with heap := h₄ }) E s := by
  have hHl : s.heap.IsList H (refs as).toArray := ⟨_, hH, rfl, n0, rfl⟩
  have hLz : (refs as).toArray.size = qs.length := by simp [refs, hq.length]
  refine iterL_comp F X N T hHl fun g J D C h4 o st hnew hJD hDC F4 N4 X4 T4 hc4 hd4 => ?_
  have hJ4 := N4 _ (.tail _ (.head _))
  have hDJ : D ≠ J := Nat.ne_of_gt hJD
  have hqg : LTups g as qs := hq.at fun a ha o e => st _ _ e
  refine comp_listJ (X := FX) (g := g) (s := s) (C := C) (told := fun _ => []) (led := flLed D) (Φ := owPhi qs) (adr := [D]) hh (fun _ => rfl) hJ4.2.1 hJ4.2.2 (List.forall_mem_singleton.mpr hDJ) (let ⟨oo, ho, r⟩ := hHl; ⟨oo, st _ _ ho, r⟩)
    (fun i h h' x hp k => hp) ⟨o, hJ4.1, hc4, hd4⟩ ⟨([], 0), _, _, _, rfl, F4, told_nil, List.forall_mem_singleton.mpr (N4 _ (.head _)), rfl, .nil⟩ ?_ ?_
  · rintro i v oJ ⟨ws, nw⟩ h5 tk5 m5 fy hv5 hcls5 F5 N5 hfy hal5 ⟨c1, c2⟩
    dsimp only at c1 c2
    have hlt : i < qs.length := by
      by_cases hc : i < qs.length
      · exact hc
      · have : (refs as).toArray[i]? = none := Array.getElem?_eq_none (by omega)
        rw [this] at hv5; cases hv5
    have hla : i < as.length := by rw [hq.length]; exact hlt
    have hqe : qs[i]? = some qs[i] := by simp [hlt]
    have hokq := hok _ (List.getElem_mem hlt)
    have hT := hqg.get i _ hqe
    have hv : v = .ref (as.getD i 0) := by
      have := refs_get (as := as) hla
      have e : (refs as).toArray[i]? = (refs as)[i]? := by simp
      rw [e, this] at hv5
      exact (Option.some.inj hv5).symm
    subst hv
    have y4 : ∀ q ∈ fy, q.1 ≠ D := fun q hq => (hfy q hq).1 D (.head _)
    have y5 : ∀ q ∈ fy, q.1 ≠ J := fun q hq => (hfy q hq).2 _ (.head _)
    simp only [flLed, List.cons_append, List.nil_append] at N5
    refine wpAny_mono (hstep g C _ _ _ _ _ hokq hT X4 T4 F5 N5) (fun _ s4 h4 => ?_) fun _ _ x => x.elim
    refine wpAny_pure ?_
    show wpAny _ _ _ _ _ _
    refine wpAny_mono h4 (fun v s5 h5' => ?_) fun _ _ x => x.elim
    obtain ⟨tv, h6, tk6, M6, rfl, rfl, F6, N6⟩ := h5'
    refine appV F6 N6 (.tail (Ne.symm hDJ) (.head y4)) (by omega) fun h7 F7 N7 => ?_
    refine ⟨(ws ++ [.str (lineOf qs[i]) tv], nw + 1), h7, tk6, _, _, rfl, F7, told_nil, N7, ?_, ?_, ?_, fun _ => ⟨by simp [c1], ?_⟩⟩
    · intro q hq; rw [List.mem_singleton.mp hq]; exact .head _
    · intro q hq
      have e : q = (D, W.listOf (ws ++ [Value.str (lineOf qs[i]) tv]).toArray (nw + 1)) := List.mem_singleton.mp hq
      rw [e]; exact .tail _ (.head _)
    · exact fun q hq => .tail _ (.tail _ hq)
    · rw [List.take_add_one, hqe]
      exact c2.append (.one (f := fun (q : LInf) t => Value.str (lineOf q) t) qs[i] tv)
  · rintro s5 ⟨⟨ws, nw⟩, h5, tk5, m5, rfl, F5, hm5, N5, c1, c2⟩
    dsimp only at c1 c2
    rw [hLz, List.take_length] at c2
    exact CompEnd.intro F5 N5 (.head _) fun h'' F'' N'' _ => k D nw ws h'' tk5 F'' N'' c2 fun b o e => Nat.lt_trans (hnew b o e) hJD
end
section
variable {w : World} {s : Shared} {p : Program} {loose : List Str} {mean : ExcName → Option Value} {mg mb : Str → Option Value} {R : Result → Shared → Prop}
structure lawEnd (s1 : Shared) (f : Flow) (s' : Shared) : Prop where
  fl : f = .ret (.bool true)
  at' : ∃ h tk gn L m, s' = { s1 with heap := h, toks := tk, gens := gn } ∧ Fr s1.heap L h m ∧ AllBare gn
theorem ints_at {vs : List Value} {xs : List Int} (h : IntsAre vs xs) : IntsAt vs.toArray xs := by
  induction h with
  | nil => exact ⟨rfl, fun i x e => by simp at e⟩
  | cons n t h ih =>
    refine ⟨by have := ih.size; simp at this ⊢; exact this, fun i x e => ?_⟩
    cases i with
    | zero => simp at e; exact ⟨t, by simp [e]⟩
    | succ i =>
      obtain ⟨u, hu⟩ := ih.get i x (by simpa using e)
      exact ⟨u, by simpa using hu⟩
theorem lineAt_len (hand k : Nat) (x : Int) : (linesAt hand k x).length ≤ 2 := by
  unfold linesAt
  rw [List.length_cons]
  by_cases hb : bitOf x (2 + hand) <;> simp [bitOf, hb]
theorem lines_len (hand : Nat) (xs : List Int) : ∀ n, (linesUp hand xs n).length ≤ 2 * n
  | 0 => Nat.le_refl _
  | n + 1 => by
    have h := lines_len hand xs n
    rw [linesUp, List.length_append]
    cases xs[n]? with
    | none => simp; omega
    | some x =>
      have := lineAt_len hand n x
      dsimp only
      omega
theorem ints1 (k : Nat) (t : Tok) : IntsAt #[Value.int (k : Int) t] ([k].map Int.ofNat) := ⟨rfl, fun i x e => by
  cases i with
  | zero => simp at e; exact ⟨t, by simp [e]⟩
  | succ i => simp at e⟩
theorem okL_of {q : LInf} (h : okP q) : okL q := ⟨h.1, h.2.1, by rcases h.2.2.1 with e | e | e <;> (rw [e]; decide), h.2.2.2⟩
theorem laidF_len (l : List LInf) : ∀ st : List LInf × Array UInt8, (l.foldl laidS st).1.length ≤ st.1.length + l.length := by
  induction l with
  | nil => exact fun st => Nat.le_refl _
  | cons a l ih =>
    intro st
    rw [List.foldl_cons, List.length_cons]
    have h := ih (laidS st a)
    have h2 : (laidS st a).1.length ≤ st.1.length + 1 := by
      unfold laidS
      split
      · simp
      · split
        · simp only [List.length_append, List.length_dropLast, List.length_cons, List.length_nil]; omega
        · simp
    omega
theorem ints2at (t u : Tok) : IntsAt #[Value.int 0 t, Value.int 1 u] ([0, 1].map Int.ofNat) := ⟨rfl, fun i x e => by
  match i, e with
  | 0, e => simp at e; exact ⟨t, by simp [← e]⟩
  | 1, e => simp at e; exact ⟨u, by simp [← e]⟩
  | i + 2, e => simp at e⟩
end
section
variable {w : World} {s : Shared} {p : Program} {loose : List Str} {mean : ExcName → Option Value} {mg mb : Str → Option Value} {R : Result → Shared → Prop}
section
variable {c : Ctx} {QV : Value → Ctx → Prop}
theorem CallC.lines {Na hand : Nat} (hh2 : hand < 2) {items : Array Value} {xs : List Int} {t0 : Tok} {i0 : Int} (hi0 : i0 = (hand : Int)) (S : c.Ok) (G : Gl c.w c.h₀) (hA0 : AOk c.A 860 8600) (hA : c.h.IsList Na items) (hxs : IntsAt items xs) (hsz : items.size < 1000)
    (k : ∀ D h tz as n, Tz (PL as n hand xs) D tz → (∀ q ∈ tz, c.h.get? q.1 = none) → let c2 := c.led h (c.news ++ tz); c2.Ok → QV (.ref D) c2) : CallC c 149 [.ref Na, .int i0 t0] QV :=
  ⟨fun tk Q' E K => let ⟨X, _, _, _, _, _, T⟩ := G; use_lines (s := c.at tk) hh2 hi0 S.f X S.n T hA hxs hsz hA0.h hA0.d hA0.u fun D h tk' tz as n F N z f => K _ (c.led h (c.news ++ tz)) tk' rfl (k D h tz as n z f ⟨F, N⟩)⟩
theorem CallC.due {Na Hd : Nat} {items itemsH : Array Value} {xs : List Int} (hs : List Nat) (S : c.Ok) (G : Gl c.w c.h₀) (hA0 : AOk c.A 860 8600) (hA : c.h.IsList Na items) (hxs : IntsAt items xs) (hsz : items.size < 1000)
    (hH : c.h.IsList Hd itemsH) (hhs : IntsAt itemsH (hs.map Int.ofNat)) (hh2 : ∀ h ∈ hs, h < 2) (hlen : hs.length < 1000)
    (k : ∀ D h tz, Tz (PB (dueUp hs xs xs.length)) D tz → (∀ q ∈ tz, c.h.get? q.1 = none) → let c2 := c.led h (c.news ++ tz); c2.Ok → QV (.ref D) c2) : CallC c 173 [.ref Na, .ref Hd] QV :=
  ⟨fun tk Q' E K => let ⟨X, _, _, _, _, _, T⟩ := G; use_due (s := c.at tk) hs S.f X S.n T hA hxs hsz hH hhs hh2 hlen hA0.h hA0.d hA0.u fun D h tk' tz F N z f => K _ (c.led h (c.news ++ tz)) tk' rfl (k D h tz z f ⟨F, N⟩)⟩
theorem CallC.packets {Na Lr : Nat} {items : Array Value} {xs : List Int} {as : List Nat} {n : Nat} {qs : List LInf} (S : c.Ok) (G : Gl c.w c.h₀) (hA0 : AOk c.A 860 8600) (hA : c.h.IsList Na items) (hxs : IntsAt items xs) (hx0 : 0 < xs.length) (hsz : items.size < 1000)
    (hL : c.h.get? Lr = some (hobj as n)) (hq : LTups c.h as qs) (hok : ∀ q ∈ qs, okL q) (hlen : as.length < 1000)
    (k : ∀ D h tz, Tz (PP qs) D tz → let c2 := c.led h (c.news ++ tz); c2.Ok → QV (.ref D) c2) : CallC c 156 [.ref Na, .ref Lr] QV :=
  ⟨fun tk Q' E K => let ⟨X, _, _, _, _, _, T⟩ := G; use_packets (s := c.at tk) S.f X S.n T hA hxs hx0 hsz hL hq hok hlen hA0.h hA0.d hA0.u fun D h tk' tz F N z f => K _ (c.led h (c.news ++ tz)) tk' rfl (k D h tz z ⟨F, N⟩)⟩
theorem CallC.laid {P n0 : Nat} {vs : List Value} {qs : List LInf} (S : c.Ok) (G : Gl c.w c.h₀) (hA0 : AOk c.A 860 8600) (hP : c.h.get? P = some (W.listOf vs.toArray n0)) (hq : FlatP vs qs) (hok : ∀ q ∈ qs, okP q) (hlen : vs.length < 1000)
    (k : ∀ D h tz, Tz (PO qs) D tz → let c2 := c.led h (c.news ++ tz); c2.Ok → QV (.ref D) c2) : CallC c 163 [.ref P] QV :=
  ⟨fun tk Q' E K => let ⟨X, _, _, _, _, _, T⟩ := G; use_laid (s := c.at tk) S.f X S.n T hP hq hok hlen hA0.h hA0.d hA0.u fun D h tk' tz F N z f => K _ (c.led h (c.news ++ tz)) tk' rfl (k D h tz z ⟨F, N⟩)⟩
theorem CallC.sides {P n0 : Nat} {vs : List Value} {ls : List LInf} (S : c.Ok) (G : Gl c.w c.h₀) (hA0 : AOk c.A 840 8400) (hb : AllBare c.gs) (hP : c.h.get? P = some (W.listOf vs.toArray n0)) (hq : FlatL vs ls) (hok : ∀ q ∈ ls, okP q) (hlen : vs.length < 1000)
    (k : ∀ D h tz gn, AllBare gn → Tz (PT (rowsOf 1 ls) (rowsOf 2 ls)) D tz → (∀ q ∈ tz, c.h.get? q.1 = none) → let c2 : Ctx := { c with h := h, news := c.news ++ tz, gs := gn }; c2.Ok → QV (.ref D) c2) : CallC c 168 [.ref P] QV :=
  ⟨fun tk Q' E K => let ⟨X, _, _, _, _, _, T⟩ := G; use_sides (s := c.at tk) S.f X S.n T hP hq hok hlen hb hA0.h hA0.d hA0.u fun D h tk' tz gn g F N z f => K _ { c with h := h, news := c.news ++ tz, gs := gn } tk' rfl (k D h tz gn g z f ⟨F, N⟩)⟩
end
section
variable {c : Ctx} {x y : Str} {pos px py pt : Pos} {a b e : PySem.Expr} {rest : List Stmt} {Q : Flow → Shared → Prop} {E : Value → Shared → Prop} {QV : Value → Ctx → Prop} {ad : Addr}
inductive PairC (x : Str) (ad : Addr) (rest : List Stmt) (Q : Flow → Shared → Prop) (E : Value → Shared → Prop) : Value → Ctx → Prop
  | mk {D v1 v2 c1 o g v0} (S : c1.Ok) (ht : IsTup c1.h D #[v1, v2]) (U : UpdF ad o c1.news g) (hd : o.data = .cell v0) (k : ∀ h' o', o'.data = .cell (some v2) → let c2 : Ctx := { c1 with h := h', m := upd x v1 c1.m, news := g o' }; c2.Ok → Run c2 rest Q E) : PairC x ad rest Q E (.ref D) c1
theorem Run.pairC {kd} (hh : c.A.handled = none) (hx : isLoc c.env x = true) (hy : Cel c.env y ad) (hs : swapsWithSole [.Tuple [.Name x px, .Name y py] kd pt] e pos.line c.env = pure false) (hw : swappedStores [.Tuple [.Name x px, .Name y py] kd pt] e c.env = pure none)
    (p : EV c e (PairC x ad rest Q E)) : Run c (.Assign [.Tuple [.Name x px, .Name y py] kd pt] e pos :: rest) Q E := ⟨fun tk => by
  obtain ⟨h1, h2, h3⟩ := isLoc_of hx
  refine wpAny_execs_cons (Assign_Tuple (p.go _ _ _ fun v c1 k1 hs1 q => ?_) hs hw)
  obtain ⟨S, ht, U, hd, k⟩ := q
  obtain ⟨e1, e2, e3⟩ := stat_of hs1
  have hh1 : c1.A.handled = none := by rw [e2]; exact hh
  rw [← e1, ← e2, ← e3]
  rw [← e3] at h1 h2 hy
  refine unpackN_ (s := c1.at k1) S.f S.n ht hh1 rfl rfl fun h' F' N' => ?_
  refine assignInOrder_cons (wpAny_assign_Name (wpAny_storeName_local h2 (s := ⟨h', c1.gs, c1.dr, k1, c1.os⟩) F'.ns (fun h'' hn hs => ?_) (by rw [h1]; rfl)))
  refine assignInOrder_cons (wpAny_assign_Name (cellSet (c := { c1 with h := h'', m := upd _ _ c1.m }) ⟨F'.set hn hs, N'.set hs⟩ hy U hd fun h3 o3 d3 S3 => ?_))
  exact assignInOrder_nil ((k h3 o3 d3 S3).go _)⟩
theorem EV.own {elt iter : PySem.Expr} {sc : Scope} {cl : List (Str × Addr)} {x y z : Str} {pz : Pos} {kd : Nat} {H n0 : Nat} {as : List Nat} {qs : List LInf} (hclos : closureFor sc c.env = pure cl) (hok : compOk sc = true) (hs : ∀ x, foldedSetIterable iter c.env x = pure x) (hh : c.A.handled = none) (hx : ∀ C, isLoc (compEnvC sc cl C c.env) x = true ∧ isLoc (compEnvC sc cl C c.env) y = true ∧ isLoc (compEnvC sc cl C c.env) z = true)
    (P : PE c iter (fun _ => .ref H)) (S : c.Ok) (G : Gl c.w c.h₀) (hH : c.h.get? H = some (hobj as n0)) (hq : LTups c.h as qs) (hlen : as.length < 10000) (hokq : ∀ q ∈ qs, okP q)
    (elem : ∀ g C h m news gs dr os (q : LInf) t u v, okP q → let cB : Ctx := ⟨c.w, c.A, compEnvC sc cl C c.env, g, h, upd z (.bytes q.2.2 v) (upd y (.str q.2.1 u) (upd x (.int q.1 t) m)), news, gs, dr, os⟩; cB.Ok → Gl cB.w cB.h₀ → EV cB elt fun r c' => ∃ t, r = .str (lineOf q) t ∧ c'.gs = gs ∧ (∃ M, Fr g C c'.h M) ∧ News g C c'.h news)
    (k : ∀ D h n (vs : List Value), FlatL vs qs → (∀ b o, c.h.get? b = some o → @LT.lt Nat _ b D) → let c2 := c.led h ((D, PySem.W.listOf vs.toArray n) :: c.news); c2.Ok → QV (.ref D) c2) :
    EV c (.ListComp elt [⟨.Tuple [.Name x px, .Name y py, .Name z pz] kd pt, iter, [], 0⟩] sc pos) QV := ⟨fun Q' E tk K => by
  obtain ⟨h1, h2, h3⟩ := compOk_of hok
  obtain ⟨X, _, _, _, _, _, T⟩ := id G
  refine m_ListComp hclos h1 h2 h3 hs (P.go _ _ _ fun _ k1 => ?_)
  refine own_block (s := c.at k1) S.f X S.n T hH hq hlen hokq hh (fun g C M ns a q s3 hq hT X9 T9 F9 N9 => ?_) fun D n vs h tk F N hv hn => K _ (c.led h _) tk rfl (k D h n vs hv hn ⟨F, N⟩)
  obtain ⟨hp, gn, dr, tk9, os9⟩ := s3
  obtain ⟨o, t1, u1, v1, kk, ho, hoc, hod⟩ := hT
  obtain ⟨z1, z2, z3⟩ := hx C
  dsimp only at F9 N9
  refine asg3 (c := ⟨c.w, c.A, compEnvC sc cl C c.env, g, hp, M, ns, gn, dr, os9⟩) (v1 := .int q.1 t1) (v2 := .str q.2.1 u1) (v3 := .bytes q.2.2 v1) ⟨F9, N9⟩ hh z1 z2 z3 ⟨o, F9.keep _ _ ho, hoc, kk, hod⟩ fun h' tk2 S2 => ?_
  refine (elem g C h' M ns gn dr os9 q t1 u1 v1 hq S2 ⟨X9, _, _, _, _, _, T9⟩).go _ _ _ fun r c' k' hs' q' => ?_
  obtain ⟨t, rfl, hg, ⟨M', F'⟩, N'⟩ := q'
  unfold Ctx.stat at hs'
  simp only [Prod.mk.injEq] at hs'
  obtain ⟨-, -, -, d1, d2⟩ := hs'
  refine ⟨t, c'.h, k', M', rfl, ?_, F', N'⟩
  unfold Ctx.at
  rw [hg, d1, d2]⟩
end
end
section
theorem reset46 : True := by
  w_top off
  trivial
variable {w : World} {s : Shared} {p : Program} {loose : List Str} {mean : ExcName → Option Value} {mg mb : Str → Option Value} {R : Result → Shared → Prop}
theorem g_lines : GFn w (Str.ofString "_law_lines") 149 := ⟨by k_is, by k_is⟩
theorem g_pack : GFn w (Str.ofString "_law_packets") 156 := ⟨by k_is, by k_is⟩
theorem g_laid : GFn w (Str.ofString "_law_laid") 163 := ⟨by k_is, by k_is⟩
theorem g_sides : GFn w (Str.ofString "_law_sides") 168 := ⟨by k_is, by k_is⟩
theorem g_due : GFn w (Str.ofString "_law_due") 173 := ⟨by k_is, by k_is⟩
inductive lawM2 (c : Ctx) (L Na : Nat) (wsN : List Value) (ns : List Int) : Ctx → Prop
  | mk (h : Heap) (Hn TX H0 H1 : Nat) (as0 : List Nat) (k0 : Nat) (as1 : List Nat) (k1 : Nat) (tz : List (Addr × Obj)) (oB oC oN : Obj) (n : Nat) (gs : Array GenState) : ({ c with h := h, m := upd (Str.ofString "hands") (.ref Hn) c.m, news := (Hn, W.listOf #[.ref H0, .ref H1] n) :: (Na, W.listOf wsN.toArray 0) :: (L + 1 + 1 + 1, oC) :: (L + 1 + 1, oB) :: (L + 1, oN) :: tz, gs := gs } : Ctx).Ok → AllBare gs →
    oN.data = .cell (some (.ref Na)) → oB.data = .cell (some (.ref TX)) → oC.data = .cell none → Tz (PL as0 k0 0 ns) H0 tz → Tz (PL as1 k1 1 ns) H1 tz → Tz (PB (dueUp [] ns ns.length)) TX tz → (∀ q ∈ tz, q.1 ≠ L + 1 + 1 + 1) → @LT.lt Nat _ Na Hn →
    lawM2 c L Na wsN ns { c with h := h, m := upd (Str.ofString "hands") (.ref Hn) c.m, news := (Hn, W.listOf #[.ref H0, .ref H1] n) :: (Na, W.listOf wsN.toArray 0) :: (L + 1 + 1 + 1, oC) :: (L + 1 + 1, oB) :: (L + 1, oN) :: tz, gs := gs }
inductive lawM3 (c : Ctx) (L Na Hn TX H0 H1 : Nat) (n : Nat) (wsN : List Value) (ns : List Int) (as0 : List Nat) (k0 : Nat) (as1 : List Nat) (k1 : Nat) (oB oN : Obj) : Ctx → Prop
  | mk (h : Heap) (Ow O0 O1 : Nat) (tz : List (Addr × Obj)) (oC : Obj) (no : Nat) (gs : Array GenState) : ({ c with h := h, m := upd (Str.ofString "hands") (.ref Hn) c.m, news := (Ow, W.listOf #[.ref O0, .ref O1] no) :: (Hn, W.listOf #[.ref H0, .ref H1] n) :: (Na, W.listOf wsN.toArray 0) :: (L + 1 + 1 + 1, oC) :: (L + 1 + 1, oB) :: (L + 1, oN) :: tz, gs := gs } : Ctx).Ok → AllBare gs →
    oC.data = .cell (some (.ref Ow)) → Tz (PL as0 k0 0 ns) H0 tz → Tz (PL as1 k1 1 ns) H1 tz → Tz (PB (dueUp [] ns ns.length)) TX tz → Tz (PS (linesUp 0 ns ns.length)) O0 tz → Tz (PS (linesUp 1 ns ns.length)) O1 tz →
    lawM3 c L Na Hn TX H0 H1 n wsN ns as0 k0 as1 k1 oB oN { c with h := h, m := upd (Str.ofString "hands") (.ref Hn) c.m, news := (Ow, W.listOf #[.ref O0, .ref O1] no) :: (Hn, W.listOf #[.ref H0, .ref H1] n) :: (Na, W.listOf wsN.toArray 0) :: (L + 1 + 1 + 1, oC) :: (L + 1 + 1, oB) :: (L + 1, oN) :: tz, gs := gs }
inductive lawM4 (c : Ctx) (L Na Hn TX H0 H1 : Nat) (n : Nat) (wsN : List Value) (ns : List Int) (as0 : List Nat) (k0 : Nat) (as1 : List Nat) (k1 : Nat) (oB oN : Obj) : Ctx → Prop
  | mk (h : Heap) (tz : List (Addr × Obj)) (gs : Array GenState) : ({ c with h := h, m := upd (Str.ofString "hands") (.ref Hn) c.m, news := (Hn, W.listOf #[.ref H0, .ref H1] n) :: (Na, W.listOf wsN.toArray 0) :: (L + 1 + 1, oB) :: (L + 1, oN) :: tz, gs := gs } : Ctx).Ok → AllBare gs →
    Tz (PL as0 k0 0 ns) H0 tz → Tz (PL as1 k1 1 ns) H1 tz → Tz (PB (dueUp [] ns ns.length)) TX tz →
    lawM4 c L Na Hn TX H0 H1 n wsN ns as0 k0 as1 k1 oB oN { c with h := h, m := upd (Str.ofString "hands") (.ref Hn) c.m, news := (Hn, W.listOf #[.ref H0, .ref H1] n) :: (Na, W.listOf wsN.toArray 0) :: (L + 1 + 1, oB) :: (L + 1, oN) :: tz, gs := gs }
theorem two_ref {a b : Nat} {j : Nat} (hj : j < 2) : (#[Value.ref a, Value.ref b] : Array Value)[((j : Nat) : Int).toNat]? = some (Value.ref (if j = 0 then a else b)) := by
  match j, hj with
  | 0, _ => rfl
  | 1, _ => rfl
noncomputable def ZT (TX : Nat) (rows : List (Array UInt8)) (r : Nat) (tz : List (Addr × Obj)) : Prop := ∃ U n, (r, W.listOf #[.ref TX, .ref U] n) ∈ tz ∧ Tz (PB rows) U tz
theorem ZT.either {TX : Nat} {rows : List (Array UInt8)} {r : Nat} {a b : List (Addr × Obj)} (h : ZT TX rows r a ∨ ZT TX rows r b) : ZT TX rows r (a ++ b) := by
  rcases h with ⟨U, n, h1, h2⟩ | ⟨U, n, h1, h2⟩
  · exact ⟨U, n, List.mem_append_left _ h1, h2.left⟩
  · exact ⟨U, n, List.mem_append_right _ h1, h2.right⟩
theorem ZT.pt {TX : Nat} {rows r1 : List (Array UInt8)} {r : Nat} {tz : List (Addr × Obj)} (z : ZT TX rows r tz) {h : Heap} (hin : ∀ q ∈ tz, h.get? q.1 = some q.2) (d : PB r1 h TX) : PT r1 rows h r := by
  obtain ⟨U, n, h1, h2⟩ := z
  exact ⟨TX, U, n, hin _ h1, d, h2 h hin⟩
theorem pl_either {ns : List Int} {j r : Nat} {a b : List (Addr × Obj)} (h : (∃ as n, Tz (PL as n j ns) r a) ∨ (∃ as n, Tz (PL as n j ns) r b)) : ∃ as n, Tz (PL as n j ns) r (a ++ b) := by
  rcases h with ⟨as, n, h⟩ | ⟨as, n, h⟩
  · exact ⟨as, n, h.left⟩
  · exact ⟨as, n, h.right⟩
theorem law_holds : PySem.Challenge.rw_pa0048_01.Holds := by
  rw [rw_eq]
  w_on
  o_law
  o_head (kHook hdK [nat_lit 2, nat_lit 3, nat_lit 15, nat_lit 17, nat_lit 18, nat_lit 20, nat_lit 21, nat_lit 22, nat_lit 24, nat_lit 25, nat_lit 27, nat_lit 28, nat_lit 29, nat_lit 30, nat_lit 32, nat_lit 33, nat_lit 35, nat_lit 36, nat_lit 37, nat_lit 44, nat_lit 45, nat_lit 46, nat_lit 47, nat_lit 50, nat_lit 52, nat_lit 53, nat_lit 55, nat_lit 56, nat_lit 57, nat_lit 59, nat_lit 60, nat_lit 62, nat_lit 63, nat_lit 64, nat_lit 66, nat_lit 67, nat_lit 69, nat_lit 70, nat_lit 71, nat_lit 73, nat_lit 74, nat_lit 76, nat_lit 77, nat_lit 78, nat_lit 79, nat_lit 81, nat_lit 82, nat_lit 84, nat_lit 85, nat_lit 86, nat_lit 87, nat_lit 89, nat_lit 90, nat_lit 92, nat_lit 93, nat_lit 94, nat_lit 95, nat_lit 97, nat_lit 98, nat_lit 100, nat_lit 101, nat_lit 102, nat_lit 103, nat_lit 105, nat_lit 106, nat_lit 108, nat_lit 109, nat_lit 110, nat_lit 112, nat_lit 113, nat_lit 115, nat_lit 116, nat_lit 117, nat_lit 119, nat_lit 120, nat_lit 122, nat_lit 123, nat_lit 124, nat_lit 126, nat_lit 127, nat_lit 129, nat_lit 130, nat_lit 131, nat_lit 133, nat_lit 134, nat_lit 136, nat_lit 137, nat_lit 138, nat_lit 141, nat_lit 142, nat_lit 143, nat_lit 145, nat_lit 146, nat_lit 148, nat_lit 149, nat_lit 150, nat_lit 152, nat_lit 153, nat_lit 155, nat_lit 156, nat_lit 157, nat_lit 159, nat_lit 160, nat_lit 162, nat_lit 163, nat_lit 164, nat_lit 167, nat_lit 168, nat_lit 169, nat_lit 172, nat_lit 173, nat_lit 174, nat_lit 177, nat_lit 178] (fun _ => by kernel_rfl))
  case hw => w_witness2
  lge_go0
  rename_i w s0 s1 mg mb G Y fa o pm doc ho hg KX X0 V GL T B TE TW v1 v2 MM v3 v4 B0 hcd xs hs hlay0 hL0 hr hl2 v5 v6 Sl vs v7 hL ra w1 r0 hI hr2 hcond hcond2 K0 hD h1 tk1 F oC oB oA left1 left2 right N0 Y0 lgeM
  refine wpAny_mono (Q := lawEnd s1) (E := fun _ _ => False) ?_ (fun f s' hf => ?_) (fun _ _ x => x.elim)
  rotate_left
  · clear F
    obtain ⟨rfl, h9, tk9, gn9, L9, m9, rfl, F9, bare9⟩ := hf
    dsimp only
    wrow_closeG
  have bare0 : AllBare s1.gens := .of_eq hg
  clear Y0 hD K0 hcond2 hr2 r0 w1 ra hl2 hr hL0 hlay0 hs hcd MM B TE TW GL V X0 hg ho Y lgeM B0
  replace left1 : oC.data = .cell none := left1
  replace left2 : oB.data = .cell none := left2
  replace right : oA.data = .cell none := right
  obtain ⟨m0, F1⟩ := fr_told [(Str.ofString "script", Value.ref Sl)] F (told_cons rfl told_nil)
  clear F
  change wpAny (model prg _) _ _ _ _ _
  dsimp only
  generalize s1.heap.objs.size = L at *
  k_fold
  repeat' (first | (k_unfold; (try dsimp only)) | ((fail_if_success (with_reducible show wpAny _ _ (execs (Stmt.Assign _ (PySem.Expr.Tuple _ _ _) _ :: _) _) _ _ _)); first | walk1 | (dsimp only; walk1)))
  rename_i hC hLe l1 Lt hh l2 Na wsN hh2 hNI l3 hN oN FN NN dN
  have N1 : News s1.heap L hN [(Na, W.listOf wsN.toArray 0), (L + 1 + 1 + 1, oC), (L + 1 + 1, oB), (L + 1, oN)] := fun q hq => by
    rcases List.mem_cons.mp hq with rfl | hq
    · exact NN _ (.head _)
    · exact NN _ (.tail _ (.tail _ (.tail _ hq)))
  have hNa : @LT.lt Nat _ (L + 1 + 1 + 1) Na := l3.2.2.1
  have hNS := ints_at hNI
  have hns1 : (List.take 3 xs ++ [8220, 15489, 1044598, 36875, 259040]).length ≤ 8 := by
    rw [List.length_append, List.length_take]
    show min 3 xs.length + 5 ≤ 8
    omega
  have hns0 : 0 < (List.take 3 xs ++ [8220, 15489, 1044598, 36875, 259040]).length := by
    rw [List.length_append]
    show 0 < _ + 5
    omega
  generalize List.take 3 xs ++ [8220, 15489, 1044598, 36875, 259040] = ns at *
  clear NN hNI l3 l2 l1 hC hLe right hI hL hcond G
  have hsz : wsN.toArray.size < 1000 := by rw [hNS.size]; omega
  refine Run.start rfl FN N1 ?_
  intro c S
  have GG : Gl c.w c.h₀ := Gl.mk' KX T
  have hlen : ∀ j, (linesUp j ns ns.length).length ≤ 16 := fun j => by have := lines_len j ns ns.length; omega
  have hokl : ∀ j, j < 2 → ∀ q ∈ linesUp j ns ns.length, okP q := fun j hj q hq => elem_ok (xs := ns) (by omega) (elem_up hj hq)
  refine Run.cut (lawM2 c L Na wsN ns) (fun Q1 hQ1 => ?_) ?_
  · refine Run.pairC rfl rfl ⟨rfl, rfl, rfl, rfl⟩ rfl rfl (EV.tuple (EVs.cons rfl (EV.two (Z := fun j r tz => ∃ as n, Tz (PL as n j ns) r tz) (fun _ _ _ _ => pl_either) rfl rfl (fun _ => rfl) (fun _ => rfl) rfl (EV.list (EVs.ofPA (PA.cons PE.int (PA.cons PE.int PA.nil rfl) rfl) fun ts => ListK.mk S (Nat.le_of_ble_eq_true rfl) ?_)))))
    intro l0 h2 hl0 c S
    have hA2 : ∀ h' : Heap, c.h.StaysIn h' → h'.IsList Na wsN.toArray := fun h' k => ⟨_, k _ _ (S.n (Na, W.listOf wsN.toArray 0) (by (first | exact mem_ix 0 rfl | exact mem_ix 1 rfl | exact mem_ix 2 rfl | exact mem_ix 3 rfl | exact mem_ix 4 rfl | exact mem_ix 5 rfl | exact mem_ix 6 rfl | exact mem_ix 7 rfl | exact mem_ix 8 rfl | exact mem_ix 9 rfl | exact mem_ix 10 rfl | exact mem_ix 11 rfl | exact mem_ix 12 rfl | exact mem_ix 13 rfl | exact mem_ix 14 rfl | exact mem_ix 15 rfl))).1, rfl, _, rfl⟩
    have hcell : ∀ h' : Heap, c.h.StaysIn h' → h'.IsCell (L + 1) (some (.ref Na)) := fun h' k => ⟨_, k _ _ (S.n (L + 1, oN) (by (first | exact mem_ix 0 rfl | exact mem_ix 1 rfl | exact mem_ix 2 rfl | exact mem_ix 3 rfl | exact mem_ix 4 rfl | exact mem_ix 5 rfl | exact mem_ix 6 rfl | exact mem_ix 7 rfl | exact mem_ix 8 rfl | exact mem_ix 9 rfl | exact mem_ix 10 rfl | exact mem_ix 11 rfl | exact mem_ix 12 rfl | exact mem_ix 13 rfl | exact mem_ix 14 rfl | exact mem_ix 15 rfl))).1, dN⟩
    have hl0a : @LT.lt Nat _ Na l0 := hl0 (Na, _) (by (first | exact mem_ix 0 rfl | exact mem_ix 1 rfl | exact mem_ix 2 rfl | exact mem_ix 3 rfl | exact mem_ix 4 rfl | exact mem_ix 5 rfl | exact mem_ix 6 rfl | exact mem_ix 7 rfl | exact mem_ix 8 rfl | exact mem_ix 9 rfl | exact mem_ix 10 rfl | exact mem_ix 11 rfl | exact mem_ix 12 rfl | exact mem_ix 13 rfl | exact mem_ix 14 rfl | exact mem_ix 15 rfl))
    refine TwoK.mk (v := fun j => .int (j : Int) (ts j)) S (News.isList S.n (.head _)) GG bare0 ?_ ?_
    · intro j g C h3 m news gs hj st hm hb cB SB GB
      exact EV.callC SB GB rfl g_lines rfl rfl rfl (EVs.cons rfl (EV.pe (PE.cellB SB ⟨rfl, rfl, rfl, rfl⟩ (hcell g st)) fun _ => EVs.cons rfl (EV.pe (PE.locV SB rfl hm) fun _ => EVs.nil ⟨⟨GB, SB⟩, CallC.lines hj rfl SB GB ⟨rfl, Nat.le_of_ble_eq_true rfl, Nat.le_of_ble_eq_true rfl⟩ (hA2 _ fun b o e => SB.f.keep _ _ (st b o e)) hNS hsz fun D h tz as n z f S2 => ⟨⟨D, tz, rfl, S2.f, S2.n, hb, ⟨as, n, z⟩, fresh_of SB.n f⟩⟩⟩)))
    · rintro D h3 r0 r1 tz n gs hb ⟨as0, k0, z0⟩ ⟨as1, k1, z1⟩ hf hlt
      have y4 := tz_ne hf (S.n (L + 1 + 1, oB) (by (first | exact mem_ix 0 rfl | exact mem_ix 1 rfl | exact mem_ix 2 rfl | exact mem_ix 3 rfl | exact mem_ix 4 rfl | exact mem_ix 5 rfl | exact mem_ix 6 rfl | exact mem_ix 7 rfl | exact mem_ix 8 rfl | exact mem_ix 9 rfl | exact mem_ix 10 rfl | exact mem_ix 11 rfl | exact mem_ix 12 rfl | exact mem_ix 13 rfl | exact mem_ix 14 rfl | exact mem_ix 15 rfl))).1
      have y5 := tz_ne hf (S.n (L + 1 + 1 + 1, oC) (by (first | exact mem_ix 0 rfl | exact mem_ix 1 rfl | exact mem_ix 2 rfl | exact mem_ix 3 rfl | exact mem_ix 4 rfl | exact mem_ix 5 rfl | exact mem_ix 6 rfl | exact mem_ix 7 rfl | exact mem_ix 8 rfl | exact mem_ix 9 rfl | exact mem_ix 10 rfl | exact mem_ix 11 rfl | exact mem_ix 12 rfl | exact mem_ix 13 rfl | exact mem_ix 14 rfl | exact mem_ix 15 rfl))).1
      have hDa : @LT.lt Nat _ Na D := hlt _ _ (S.n (Na, W.listOf wsN.toArray 0) (by (first | exact mem_ix 0 rfl | exact mem_ix 1 rfl | exact mem_ix 2 rfl | exact mem_ix 3 rfl | exact mem_ix 4 rfl | exact mem_ix 5 rfl | exact mem_ix 6 rfl | exact mem_ix 7 rfl | exact mem_ix 8 rfl | exact mem_ix 9 rfl | exact mem_ix 10 rfl | exact mem_ix 11 rfl | exact mem_ix 12 rfl | exact mem_ix 13 rfl | exact mem_ix 14 rfl | exact mem_ix 15 rfl))).1
      intro c S
      refine EVs.cons rfl (EV.callC S GG rfl g_due rfl rfl rfl (EVs.cons rfl (EV.pe (PE.cellN S ⟨rfl, rfl, rfl, rfl⟩ (by (first | exact mem_ix 0 rfl | exact mem_ix 1 rfl | exact mem_ix 2 rfl | exact mem_ix 3 rfl | exact mem_ix 4 rfl | exact mem_ix 5 rfl | exact mem_ix 6 rfl | exact mem_ix 7 rfl | exact mem_ix 8 rfl | exact mem_ix 9 rfl | exact mem_ix 10 rfl | exact mem_ix 11 rfl | exact mem_ix 12 rfl | exact mem_ix 13 rfl | exact mem_ix 14 rfl | exact mem_ix 15 rfl)) dN) fun _ => EVs.cons rfl (EV.list (EVs.ofPA PA.nil fun ts2 => ListK.mk S (Nat.zero_le _) ?_)))))
      intro l1 h4 hl1 c S
      have hl1a : @LT.lt Nat _ Na l1 := hl1 (Na, _) (by (first | exact mem_ix 0 rfl | exact mem_ix 1 rfl | exact mem_ix 2 rfl | exact mem_ix 3 rfl | exact mem_ix 4 rfl | exact mem_ix 5 rfl | exact mem_ix 6 rfl | exact mem_ix 7 rfl | exact mem_ix 8 rfl | exact mem_ix 9 rfl | exact mem_ix 10 rfl | exact mem_ix 11 rfl | exact mem_ix 12 rfl | exact mem_ix 13 rfl | exact mem_ix 14 rfl | exact mem_ix 15 rfl))
      refine EVs.nil ⟨⟨GG, S⟩, CallC.due [] S GG ⟨rfl, Nat.le_of_ble_eq_true rfl, Nat.le_of_ble_eq_true rfl⟩ (News.isList S.n (items := wsN.toArray) (n := 0) (by (first | exact mem_ix 0 rfl | exact mem_ix 1 rfl | exact mem_ix 2 rfl | exact mem_ix 3 rfl | exact mem_ix 4 rfl | exact mem_ix 5 rfl | exact mem_ix 6 rfl | exact mem_ix 7 rfl | exact mem_ix 8 rfl | exact mem_ix 9 rfl | exact mem_ix 10 rfl | exact mem_ix 11 rfl | exact mem_ix 12 rfl | exact mem_ix 13 rfl | exact mem_ix 14 rfl | exact mem_ix 15 rfl))) hNS hsz (News.isList S.n (.head _)) ⟨rfl, fun i x e => by simp at e⟩ (fun _ h => nomatch h) (by decide) ?_⟩
      intro TX h5 tz2 z2 f2
      have x4 := tz_app y4 (tz_ne f2 (S.n (L + 1 + 1, oB) (by (first | exact mem_ix 0 rfl | exact mem_ix 1 rfl | exact mem_ix 2 rfl | exact mem_ix 3 rfl | exact mem_ix 4 rfl | exact mem_ix 5 rfl | exact mem_ix 6 rfl | exact mem_ix 7 rfl | exact mem_ix 8 rfl | exact mem_ix 9 rfl | exact mem_ix 10 rfl | exact mem_ix 11 rfl | exact mem_ix 12 rfl | exact mem_ix 13 rfl | exact mem_ix 14 rfl | exact mem_ix 15 rfl))).1)
      have x5 := tz_app y5 (tz_ne f2 (S.n (L + 1 + 1 + 1, oC) (by (first | exact mem_ix 0 rfl | exact mem_ix 1 rfl | exact mem_ix 2 rfl | exact mem_ix 3 rfl | exact mem_ix 4 rfl | exact mem_ix 5 rfl | exact mem_ix 6 rfl | exact mem_ix 7 rfl | exact mem_ix 8 rfl | exact mem_ix 9 rfl | exact mem_ix 10 rfl | exact mem_ix 11 rfl | exact mem_ix 12 rfl | exact mem_ix 13 rfl | exact mem_ix 14 rfl | exact mem_ix 15 rfl))).1)
      intro c S
      refine EVs.nil (TupK.mk S (Nat.le_of_ble_eq_true rfl) ?_)
      intro Tu h6 hlt6 c S
      have hTa : @LT.lt Nat _ Na Tu := hlt6 (Na, _) (by (first | exact mem_ix 0 rfl | exact mem_ix 1 rfl | exact mem_ix 2 rfl | exact mem_ix 3 rfl | exact mem_ix 4 rfl | exact mem_ix 5 rfl | exact mem_ix 6 rfl | exact mem_ix 7 rfl | exact mem_ix 8 rfl | exact mem_ix 9 rfl | exact mem_ix 10 rfl | exact mem_ix 11 rfl | exact mem_ix 12 rfl | exact mem_ix 13 rfl | exact mem_ix 14 rfl | exact mem_ix 15 rfl))
      refine' PairC.mk (ad := L + 1 + 1) (o := oB) S ⟨_, (S.n _ (.head _)).1, rfl, _, rfl⟩ ?U left2 ?_
      case U => k_updF
      intro h7 oB2 dB c S
      refine Run.nilTo hQ1 ((D, W.listOf #[.ref r0, .ref r1] n) :: (Na, W.listOf wsN.toArray 0) :: (L + 1 + 1 + 1, oC) :: (L + 1 + 1, oB2) :: (L + 1, oN) :: (tz ++ tz2)) rfl (.mk h7 D TX r0 r1 as0 k0 as1 k1 (tz ++ tz2) oB2 oC oN n _ (S.sub (by (repeat' (first | exact List.forall_mem_nil _ | (refine List.forall_mem_cons.mpr ⟨?_, ?_⟩) | (first | exact mem_ix 0 rfl | exact mem_ix 1 rfl | exact mem_ix 2 rfl | exact mem_ix 3 rfl | exact mem_ix 4 rfl | exact mem_ix 5 rfl | exact mem_ix 6 rfl | exact mem_ix 7 rfl | exact mem_ix 8 rfl | exact mem_ix 9 rfl | exact mem_ix 10 rfl | exact mem_ix 11 rfl | exact mem_ix 12 rfl | exact mem_ix 13 rfl | exact mem_ix 14 rfl | exact mem_ix 15 rfl) | (first | exact tail_of 1 rfl | exact tail_of 2 rfl | exact tail_of 3 rfl | exact tail_of 4 rfl | exact tail_of 5 rfl | exact tail_of 6 rfl | exact tail_of 7 rfl | exact tail_of 8 rfl | exact tail_of 9 rfl | exact tail_of 10 rfl | exact tail_of 11 rfl | exact tail_of 12 rfl | exact tail_of 13 rfl | exact tail_of 14 rfl | exact tail_of 15 rfl))))) hb dN dB left1 z0.left z1.left z2.right x5 hDa)
  · intro c1 hz
    induction hz with
    | mk h Hn TX H0 H1 as0 k0 as1 k1 tz oB oC oN n gs S hb dN dB dC z0 z1 z2 y5 hHn =>
    refine Run.cut (lawM3 c L Na Hn TX H0 H1 n wsN ns as0 k0 as1 k1 oB oN) (fun Q1 hQ1 => ?_) ?_
    · have hin : ∀ h' : Heap, h.StaysIn h' → ∀ q ∈ tz, h'.get? q.1 = some q.2 := fun h' k q hq => k _ _ (S.n q (.tail _ (.tail _ (.tail _ (.tail _ (.tail _ hq)))))).1
      refine Run.assignC (ad := L + 1 + 1 + 1) ⟨rfl, rfl, rfl, rfl⟩ rfl (EV.two (Z := fun j r tz => Tz (PS (linesUp j ns ns.length)) r tz) (fun _ _ _ _ => Tz.either) rfl rfl (fun _ => rfl) (fun _ => rfl) rfl (EV.pe (PE.locV S rfl rfl) fun _ => TwoK.mk (v := fun j => .ref (if j = 0 then H0 else H1)) S (News.isList S.n (.head _)) GG hb ?_ ?_))
      · intro j g C h3 m news gs hj st hm hb cB SB GB
        obtain ⟨as, kk, hH, hL⟩ : ∃ as kk, cB.h.get? (if j = 0 then H0 else H1) = some (hobj as kk) ∧ LTups cB.h as (linesUp j ns ns.length) := by
          have hi := hin _ fun b o e => SB.f.keep _ _ (st b o e)
          match j, hj with
          | 0, _ => exact ⟨as0, k0, z0 _ hi⟩
          | 1, _ => exact ⟨as1, k1, z1 _ hi⟩
        refine EV.own rfl rfl (fun _ => rfl) rfl (fun _ => ⟨rfl, rfl, rfl⟩) (PE.locV SB rfl hm) SB GB hH hL (by rw [hL.length]; have := hlen j; omega) (hokl j hj) ?_ fun D h5 n vs hv hn S5 => ⟨⟨D, [(D, W.listOf vs.toArray n)], rfl, S5.f, ?_, hb, fun h' k => ⟨vs, n, k _ (.head _), hv⟩, ?_⟩⟩
        · intro g2 C2 h5 m5 news5 gs5 dr5 os5 q t u v hq c2 S2 GB2
          have hl2 : q.2.1.length ≤ 2 := by rcases hq.2.2.1 with e | e | e <;> rw [e] <;> decide
          have hs1 := small_txt hq.2.2.2
          refine EV.addS (EV.pe (PE.locV S2 rfl rfl) fun _ => AddSL.mk (EV.callC S2 GB2 rfl g_text rfl rfl rfl (EVs.cons rfl (EV.pe (PE.locV S2 rfl rfl) fun _ => EVs.nil ⟨⟨GB2, S2⟩, CallC.con S2 GB2 ⟨rfl, Nat.le_of_ble_eq_true rfl, Nat.le_of_ble_eq_true rfl⟩ (K_text hq.2.2.2) ?_⟩))))
          intro h6 t6 c6 S6
          exact AddSK.mk (by omega) fun t7 => ⟨t7, rfl, rfl, ⟨_, S6.f⟩, S6.n⟩
        · intro q hq
          rcases List.mem_append.mp hq with hq | hq
          · exact S5.n q (.tail _ hq)
          · rw [List.mem_singleton.mp hq]; exact S5.n _ (.head _)
        · intro q hq p hp
          rw [List.mem_singleton.mp hq]
          exact Nat.ne_of_gt (hn p.1 p.2 (SB.n p hp).1)
      · rintro D h3 r0 r1 tz2 no gs hb p0 p1 hf hlt
        have y6 := tz_app y5 (tz_ne hf (S.n (L + 1 + 1 + 1, oC) (by (first | exact mem_ix 0 rfl | exact mem_ix 1 rfl | exact mem_ix 2 rfl | exact mem_ix 3 rfl | exact mem_ix 4 rfl | exact mem_ix 5 rfl | exact mem_ix 6 rfl | exact mem_ix 7 rfl | exact mem_ix 8 rfl | exact mem_ix 9 rfl | exact mem_ix 10 rfl | exact mem_ix 11 rfl | exact mem_ix 12 rfl | exact mem_ix 13 rfl | exact mem_ix 14 rfl | exact mem_ix 15 rfl))).1)
        have hDa : @LT.lt Nat _ Hn D := hlt _ _ (S.n (Hn, _) (.head _)).1
        have hNa : @LT.lt Nat _ (L + 1 + 1 + 1) Na := hNa
        intro c S
        refine' StoreC.mk (o := oC) S ?U dC ?_
        case U => k_updF
        intro h4 oC2 dC2 c S
        exact Run.nilTo hQ1 ((D, W.listOf #[.ref r0, .ref r1] no) :: (Hn, W.listOf #[.ref H0, .ref H1] n) :: (Na, W.listOf wsN.toArray 0) :: (L + 1 + 1 + 1, oC2) :: (L + 1 + 1, oB) :: (L + 1, oN) :: (tz ++ tz2)) rfl (.mk h4 D r0 r1 (tz ++ tz2) oC2 no _ (S.sub (by (repeat' (first | exact List.forall_mem_nil _ | (refine List.forall_mem_cons.mpr ⟨?_, ?_⟩) | (first | exact mem_ix 0 rfl | exact mem_ix 1 rfl | exact mem_ix 2 rfl | exact mem_ix 3 rfl | exact mem_ix 4 rfl | exact mem_ix 5 rfl | exact mem_ix 6 rfl | exact mem_ix 7 rfl | exact mem_ix 8 rfl | exact mem_ix 9 rfl | exact mem_ix 10 rfl | exact mem_ix 11 rfl | exact mem_ix 12 rfl | exact mem_ix 13 rfl | exact mem_ix 14 rfl | exact mem_ix 15 rfl) | (first | exact tail_of 1 rfl | exact tail_of 2 rfl | exact tail_of 3 rfl | exact tail_of 4 rfl | exact tail_of 5 rfl | exact tail_of 6 rfl | exact tail_of 7 rfl | exact tail_of 8 rfl | exact tail_of 9 rfl | exact tail_of 10 rfl | exact tail_of 11 rfl | exact tail_of 12 rfl | exact tail_of 13 rfl | exact tail_of 14 rfl | exact tail_of 15 rfl))))) hb dC2 z0.left z1.left z2.left p0.right p1.right)
    · intro c1 hz
      induction hz with
      | mk h Ow O0 O1 tz oC no gs S hb dC z0 z1 z2 p0 p1 =>
      refine Run.cut (lawM4 c L Na Hn TX H0 H1 n wsN ns as0 k0 as1 k1 oB oN) (fun Q1 hQ1 => ?_) ?_
      · refine Run.ifV (BV.cmp rfl (EV.two (Z := fun j r tz => Tz (PT (dueUp [] ns ns.length) (dueUp [j] ns ns.length)) r tz) (fun _ _ _ _ => Tz.either) rfl rfl (fun _ => rfl) (fun _ => rfl) rfl (EV.list (EVs.ofPA (PA.cons PE.int (PA.cons PE.int PA.nil rfl) rfl) fun ts => ListK.mk S (Nat.le_of_ble_eq_true rfl) ?_))))
        intro l0 h2 hl0 c S
        have hin : ∀ h' : Heap, c.h.StaysIn h' → ∀ q ∈ tz, h'.get? q.1 = some q.2 := fun h' k q hq => k _ _ (S.n q (.tail _ (.tail _ (.tail _ (.tail _ (.tail _ (.tail _ (.tail _ hq)))))))).1
        have hcellO : ∀ h' : Heap, c.h.StaysIn h' → h'.IsCell (L + 1 + 1 + 1) (some (.ref Ow)) := fun h' k => ⟨_, k _ _ (S.n (L + 1 + 1 + 1, oC) (by (first | exact mem_ix 0 rfl | exact mem_ix 1 rfl | exact mem_ix 2 rfl | exact mem_ix 3 rfl | exact mem_ix 4 rfl | exact mem_ix 5 rfl | exact mem_ix 6 rfl | exact mem_ix 7 rfl | exact mem_ix 8 rfl | exact mem_ix 9 rfl | exact mem_ix 10 rfl | exact mem_ix 11 rfl | exact mem_ix 12 rfl | exact mem_ix 13 rfl | exact mem_ix 14 rfl | exact mem_ix 15 rfl))).1, dC⟩
        have hOw : ∀ h' : Heap, c.h.StaysIn h' → h'.IsList Ow #[Value.ref O0, Value.ref O1] := fun h' k => ⟨_, k _ _ (S.n (Ow, _) (.tail _ (.head _))).1, rfl, _, rfl⟩
        refine TwoK.mk (v := fun j => .int (j : Int) (ts j)) S (News.isList S.n (.head _)) GG hb ?_ ?_
        · intro j g C h3 m news gs hj st hm hb cB SB GB
          obtain ⟨vs, n0, hP, hv⟩ : ∃ (vs : List Value) (n0 : Nat), cB.h.get? (if j = 0 then O0 else O1) = some (W.listOf vs.toArray n0) ∧ FlatL vs (linesUp j ns ns.length) := by
            have hi := hin _ fun b o e => SB.f.keep _ _ (st b o e)
            match j, hj with
            | 0, _ => exact p0 _ hi
            | 1, _ => exact p1 _ hi
          refine EV.callC SB GB rfl g_sides rfl rfl rfl (EVs.cons rfl (EV.pe (PE.itemB SB (PE.cellB SB ⟨rfl, rfl, rfl, rfl⟩ (hcellO g st)) (PE.locI SB rfl hm) (hOw g st) (by omega) (by omega) (two_ref hj) (fun _ => rfl) (fun _ => rfl)) fun _ => EVs.nil ⟨⟨GB, SB⟩, CallC.sides SB GB ⟨rfl, Nat.le_of_ble_eq_true rfl, Nat.le_of_ble_eq_true rfl⟩ hb hP hv (hokl j hj) (by rw [hv.length]; have := hlen j; omega) fun D h tz gn hg z f S2 => ⟨⟨D, tz, rfl, S2.f, S2.n, hg, ?_, fresh_of SB.n f⟩⟩⟩))
          rw [rows_lines1 hj, rows_lines2 hj] at z
          exact z
        · rintro D h3 r0 r1 tz2 nT gs hb t0 t1 hf hlt
          intro c S
          refine CmpL.mk (EV.two (Z := fun j => ZT TX (dueUp [j] ns ns.length)) (fun _ _ _ _ => ZT.either) rfl rfl (fun _ => rfl) (fun _ => rfl) rfl (EV.list (EVs.ofPA (PA.cons PE.int (PA.cons PE.int PA.nil rfl) rfl) fun ts2 => ListK.mk S (Nat.le_of_ble_eq_true rfl) ?_)))
          intro l1 h4 hl1 c S
          have hA2 : ∀ h' : Heap, c.h.StaysIn h' → h'.IsList Na wsN.toArray := fun h' k => ⟨_, k _ _ (S.n (Na, W.listOf wsN.toArray 0) (by (first | exact mem_ix 0 rfl | exact mem_ix 1 rfl | exact mem_ix 2 rfl | exact mem_ix 3 rfl | exact mem_ix 4 rfl | exact mem_ix 5 rfl | exact mem_ix 6 rfl | exact mem_ix 7 rfl | exact mem_ix 8 rfl | exact mem_ix 9 rfl | exact mem_ix 10 rfl | exact mem_ix 11 rfl | exact mem_ix 12 rfl | exact mem_ix 13 rfl | exact mem_ix 14 rfl | exact mem_ix 15 rfl))).1, rfl, _, rfl⟩
          have hcellN : ∀ h' : Heap, c.h.StaysIn h' → h'.IsCell (L + 1) (some (.ref Na)) := fun h' k => ⟨_, k _ _ (S.n (L + 1, oN) (by (first | exact mem_ix 0 rfl | exact mem_ix 1 rfl | exact mem_ix 2 rfl | exact mem_ix 3 rfl | exact mem_ix 4 rfl | exact mem_ix 5 rfl | exact mem_ix 6 rfl | exact mem_ix 7 rfl | exact mem_ix 8 rfl | exact mem_ix 9 rfl | exact mem_ix 10 rfl | exact mem_ix 11 rfl | exact mem_ix 12 rfl | exact mem_ix 13 rfl | exact mem_ix 14 rfl | exact mem_ix 15 rfl))).1, dN⟩
          have hcellT : ∀ h' : Heap, c.h.StaysIn h' → h'.IsCell (L + 1 + 1) (some (.ref TX)) := fun h' k => ⟨_, k _ _ (S.n (L + 1 + 1, oB) (by (first | exact mem_ix 0 rfl | exact mem_ix 1 rfl | exact mem_ix 2 rfl | exact mem_ix 3 rfl | exact mem_ix 4 rfl | exact mem_ix 5 rfl | exact mem_ix 6 rfl | exact mem_ix 7 rfl | exact mem_ix 8 rfl | exact mem_ix 9 rfl | exact mem_ix 10 rfl | exact mem_ix 11 rfl | exact mem_ix 12 rfl | exact mem_ix 13 rfl | exact mem_ix 14 rfl | exact mem_ix 15 rfl))).1, dB⟩
          refine TwoK.mk (v := fun j => .int (j : Int) (ts2 j)) S (News.isList S.n (.head _)) GG hb ?_ ?_
          · intro j g C h5 m news gs hj st hm hb cB SB GB
            refine EV.list (EVs.cons rfl (EV.pe (PE.cellB SB ⟨rfl, rfl, rfl, rfl⟩ (hcellT g st)) fun _ => EVs.cons rfl (EV.callC SB GB rfl g_due rfl rfl rfl (EVs.cons rfl (EV.pe (PE.cellB SB ⟨rfl, rfl, rfl, rfl⟩ (hcellN g st)) fun _ => EVs.cons rfl (EV.list (EVs.ofPA (PA.cons (PE.locI SB rfl hm) PA.nil rfl) fun ts3 => ListK.mk SB (Nat.le_of_ble_eq_true rfl) ?_)))))))
            intro lh h6 hlh c2 S2
            refine EVs.nil ⟨⟨GB, S2⟩, CallC.due [j] S2 GB ⟨rfl, Nat.le_of_ble_eq_true rfl, Nat.le_of_ble_eq_true rfl⟩ (hA2 _ fun b o e => S2.f.keep _ _ (st b o e)) hNS hsz (News.isList S2.n (.head _)) (ints1 j _) (fun h hm => by rw [List.mem_singleton.mp hm]; exact hj) (Nat.le_of_ble_eq_true rfl) ?_⟩
            intro U h7 tz3 z f c3 S3
            refine EVs.nil (ListK.mk S3 (Nat.le_of_ble_eq_true rfl) ?_)
            intro D5 h8 hl8 c4 S4
            refine ⟨⟨D5, (D5, W.listOf #[.ref TX, .ref U] 0) :: tz3, rfl, S4.f, fun q hq => S4.n q ?_, hb, ⟨U, 0, .head _, Tz.right (a := [_]) z⟩, List.forall_mem_cons.mpr ⟨fun p hp => Nat.ne_of_gt (hl8 p (List.mem_append_left _ (.tail _ hp))), fun q hq p hp => fresh_of S2.n f q hq p (.tail _ hp)⟩⟩⟩
            rcases List.mem_append.mp hq with hq | hq
            · exact .tail _ (List.mem_append_left _ (.tail _ hq))
            · rcases List.mem_cons.mp hq with rfl | hq
              · exact .head _
              · exact .tail _ (List.mem_append_right _ hq)
          · rintro D5 h5 q0 q1 tz4 nU gs hb u0 u1 hf5 hlt5
            intro c S
            have i4 : ∀ q ∈ tz4, c.h.get? q.1 = some q.2 := fun q hq => (S.n q (.tail _ (List.mem_append_right _ hq))).1
            have i2 : ∀ q ∈ tz2, c.h.get? q.1 = some q.2 := fun q hq => (S.n q (.tail _ (List.mem_append_left _ (.tail _ (.tail _ (List.mem_append_right _ hq)))))).1
            have i0 : ∀ q ∈ tz, q ∈ c.news := fun q hq => .tail _ (List.mem_append_left _ (.tail _ (.tail _ (List.mem_append_left _ (.tail _ (.tail _ (.tail _ (.tail _ (.tail _ (.tail _ (.tail _ hq)))))))))))
            have dT := z2 c.h fun q hq => (S.n q (i0 q hq)).1
            refine CmpK.mk (r := false) (fun Q E k zz => ne_tabs (s := c.at k) (S.n (D, W.listOf #[.ref r0, .ref r1] nT) (by (first | exact mem_ix 0 rfl | exact mem_ix 1 rfl | exact mem_ix 2 rfl | exact mem_ix 3 rfl | exact mem_ix 4 rfl | exact mem_ix 5 rfl | exact mem_ix 6 rfl | exact mem_ix 7 rfl | exact mem_ix 8 rfl | exact mem_ix 9 rfl | exact mem_ix 10 rfl | exact mem_ix 11 rfl | exact mem_ix 12 rfl | exact mem_ix 13 rfl | exact mem_ix 14 rfl | exact mem_ix 15 rfl))).1 (S.n (D5, W.listOf #[.ref q0, .ref q1] nU) (.head _)).1 (t0 c.h i2) (t1 c.h i2) (u0.pt i4 dT) (u1.pt i4 dT) (by k_units) zz) ?_
            rw [if_neg (by decide)]
            exact Run.nilTo hQ1 ((Hn, W.listOf #[.ref H0, .ref H1] n) :: (Na, W.listOf wsN.toArray 0) :: (L + 1 + 1, oB) :: (L + 1, oN) :: tz) rfl (.mk h5 tz _ (S.sub (List.forall_mem_cons.mpr ⟨by (first | exact mem_ix 0 rfl | exact mem_ix 1 rfl | exact mem_ix 2 rfl | exact mem_ix 3 rfl | exact mem_ix 4 rfl | exact mem_ix 5 rfl | exact mem_ix 6 rfl | exact mem_ix 7 rfl | exact mem_ix 8 rfl | exact mem_ix 9 rfl | exact mem_ix 10 rfl | exact mem_ix 11 rfl | exact mem_ix 12 rfl | exact mem_ix 13 rfl | exact mem_ix 14 rfl | exact mem_ix 15 rfl), List.forall_mem_cons.mpr ⟨by (first | exact mem_ix 0 rfl | exact mem_ix 1 rfl | exact mem_ix 2 rfl | exact mem_ix 3 rfl | exact mem_ix 4 rfl | exact mem_ix 5 rfl | exact mem_ix 6 rfl | exact mem_ix 7 rfl | exact mem_ix 8 rfl | exact mem_ix 9 rfl | exact mem_ix 10 rfl | exact mem_ix 11 rfl | exact mem_ix 12 rfl | exact mem_ix 13 rfl | exact mem_ix 14 rfl | exact mem_ix 15 rfl), List.forall_mem_cons.mpr ⟨by (first | exact mem_ix 0 rfl | exact mem_ix 1 rfl | exact mem_ix 2 rfl | exact mem_ix 3 rfl | exact mem_ix 4 rfl | exact mem_ix 5 rfl | exact mem_ix 6 rfl | exact mem_ix 7 rfl | exact mem_ix 8 rfl | exact mem_ix 9 rfl | exact mem_ix 10 rfl | exact mem_ix 11 rfl | exact mem_ix 12 rfl | exact mem_ix 13 rfl | exact mem_ix 14 rfl | exact mem_ix 15 rfl), List.forall_mem_cons.mpr ⟨by (first | exact mem_ix 0 rfl | exact mem_ix 1 rfl | exact mem_ix 2 rfl | exact mem_ix 3 rfl | exact mem_ix 4 rfl | exact mem_ix 5 rfl | exact mem_ix 6 rfl | exact mem_ix 7 rfl | exact mem_ix 8 rfl | exact mem_ix 9 rfl | exact mem_ix 10 rfl | exact mem_ix 11 rfl | exact mem_ix 12 rfl | exact mem_ix 13 rfl | exact mem_ix 14 rfl | exact mem_ix 15 rfl), i0⟩⟩⟩⟩)) hb z0 z1 z2)
      · intro c1 hz
        induction hz with
        | mk h tz gs S hb z0 z1 z2 =>
        obtain ⟨hH0, hL0⟩ := z0 h fun q hq => (S.n q (.tail _ (.tail _ (.tail _ (.tail _ hq))))).1
        obtain ⟨hH1, hL1⟩ := z1 h fun q hq => (S.n q (.tail _ (.tail _ (.tail _ (.tail _ hq))))).1
        have hl0 : as0.length ≤ 16 := by rw [hL0.length]; exact hlen 0
        have hl1 : as1.length ≤ 16 := by rw [hL1.length]; exact hlen 1
        have hq32 : (linesUp 0 ns ns.length ++ linesUp 1 ns ns.length).length ≤ 32 := by
          have a := hlen 0
          have b := hlen 1
          rw [List.length_append]; omega
        have hokP : ∀ q ∈ linesUp 0 ns ns.length ++ linesUp 1 ns ns.length, okP q := fun q hq => by
          rcases List.mem_append.mp hq with e | e
          · exact hokl 0 (by decide) q e
          · exact hokl 1 (by decide) q e
        refine Run.retV (EV.cmp rfl (EV.callC S GG rfl g_sides rfl rfl rfl (EVs.cons rfl (EV.callC S GG rfl g_laid rfl rfl rfl (EVs.cons rfl (EV.callC S GG rfl g_pack rfl rfl rfl (EVs.cons rfl (EV.pe (PE.cellN S ⟨rfl, rfl, rfl, rfl⟩ (by (first | exact mem_ix 0 rfl | exact mem_ix 1 rfl | exact mem_ix 2 rfl | exact mem_ix 3 rfl | exact mem_ix 4 rfl | exact mem_ix 5 rfl | exact mem_ix 6 rfl | exact mem_ix 7 rfl | exact mem_ix 8 rfl | exact mem_ix 9 rfl | exact mem_ix 10 rfl | exact mem_ix 11 rfl | exact mem_ix 12 rfl | exact mem_ix 13 rfl | exact mem_ix 14 rfl | exact mem_ix 15 rfl)) dN) fun _ => EVs.cons rfl (EV.addL (EV.pe (PE.itemNV (i := 0) S (PE.locV S rfl rfl) PE.int (.head _) (by decide) (by decide) rfl (fun _ => rfl) (fun _ => rfl)) fun _ => AddL.mk (EV.pe (PE.itemNV (i := 1) S (PE.locV S rfl rfl) PE.int (.head _) (by decide) (by decide) rfl (fun _ => rfl) (fun _ => rfl)) fun _ => AddK.mk (its := (refs as0).toArray) (its2 := (refs as1).toArray) (zs := refs (as0 ++ as1)) S ⟨_, hH0, rfl, k0, rfl⟩ ⟨_, hH1, rfl, k1, rfl⟩ (by simp [refs]) (by simp [refs]; exact Nat.le_trans (Nat.add_le_add hl0 hl1) (Nat.le_of_ble_eq_true rfl)) ?_)))))))))))
        intro Dc h5 hlt5 c S
        have i5 : ∀ q ∈ tz, c.h.get? q.1 = some q.2 := fun q hq => (S.n q (.tail _ (.tail _ (.tail _ (.tail _ (.tail _ hq)))))).1
        refine EVs.nil ⟨⟨GG, S⟩, CallC.packets (n := 0) S GG ⟨rfl, Nat.le_of_ble_eq_true rfl, Nat.le_of_ble_eq_true rfl⟩ (News.isList S.n (items := wsN.toArray) (n := 0) (by (first | exact mem_ix 0 rfl | exact mem_ix 1 rfl | exact mem_ix 2 rfl | exact mem_ix 3 rfl | exact mem_ix 4 rfl | exact mem_ix 5 rfl | exact mem_ix 6 rfl | exact mem_ix 7 rfl | exact mem_ix 8 rfl | exact mem_ix 9 rfl | exact mem_ix 10 rfl | exact mem_ix 11 rfl | exact mem_ix 12 rfl | exact mem_ix 13 rfl | exact mem_ix 14 rfl | exact mem_ix 15 rfl))) hNS hns0 hsz (S.n _ (.head _)).1 ((z0 _ i5).2.append (z1 _ i5).2) (fun q hq => okL_of (hokP q hq)) (by rw [List.length_append]; omega) ?_⟩
        intro Pk h6 tz6 z6 c S
        obtain ⟨vs6, n6, ps, hP6, hv6, hp6⟩ := z6 c.h fun q hq => (S.n q (List.mem_append_right _ hq)).1
        refine EVs.nil ⟨⟨GG, S⟩, CallC.laid S GG ⟨rfl, Nat.le_of_ble_eq_true rfl, Nat.le_of_ble_eq_true rfl⟩ hP6 hv6 (fun q hq => hokP q (hp6.mem_iff.mp hq)) (by rw [hv6.length, hp6.length_eq]; omega) ?_⟩
        intro Ld h7 tz7 z7 c S
        obtain ⟨vs7, n7, pp, hL7, hpp, hsort, hv7⟩ := z7 c.h fun q hq => (S.n q (List.mem_append_right _ hq)).1
        have hppq := hpp.trans hp6
        refine EVs.nil ⟨⟨GG, S⟩, CallC.sides S GG ⟨rfl, Nat.le_of_ble_eq_true rfl, Nat.le_of_ble_eq_true rfl⟩ hb hL7 hv7 (laid_ok (xs := ns) (by omega) hppq) ?_ ?_⟩
        · rw [hv7.length]
          have a := laidF_len pp ([], #[])
          have b := hppq.length_eq
          simp only [List.length_nil] at a
          show (List.foldl laidS ([], #[]) pp).1.length < 1000
          omega
        intro Sd h8 tz8 gn8 hb8 z8 f8 c S
        rw [rows_pp1 (by omega) hppq hsort, rows_pp2 (by omega) hppq hsort] at z8
        refine CmpL.mk (EV.list (EVs.cons rfl (EV.pe (PE.cellN S ⟨rfl, rfl, rfl, rfl⟩ (by (first | exact mem_ix 0 rfl | exact mem_ix 1 rfl | exact mem_ix 2 rfl | exact mem_ix 3 rfl | exact mem_ix 4 rfl | exact mem_ix 5 rfl | exact mem_ix 6 rfl | exact mem_ix 7 rfl | exact mem_ix 8 rfl | exact mem_ix 9 rfl | exact mem_ix 10 rfl | exact mem_ix 11 rfl | exact mem_ix 12 rfl | exact mem_ix 13 rfl | exact mem_ix 14 rfl | exact mem_ix 15 rfl)) dB) fun _ => EVs.cons rfl (EV.callC S GG rfl g_due rfl rfl rfl (EVs.cons rfl (EV.pe (PE.cellN S ⟨rfl, rfl, rfl, rfl⟩ (by (first | exact mem_ix 0 rfl | exact mem_ix 1 rfl | exact mem_ix 2 rfl | exact mem_ix 3 rfl | exact mem_ix 4 rfl | exact mem_ix 5 rfl | exact mem_ix 6 rfl | exact mem_ix 7 rfl | exact mem_ix 8 rfl | exact mem_ix 9 rfl | exact mem_ix 10 rfl | exact mem_ix 11 rfl | exact mem_ix 12 rfl | exact mem_ix 13 rfl | exact mem_ix 14 rfl | exact mem_ix 15 rfl)) dN) fun _ => EVs.cons rfl (EV.list (EVs.ofPA (PA.cons PE.int (PA.cons PE.int PA.nil rfl) rfl) fun ts => ListK.mk S (Nat.le_of_ble_eq_true rfl) ?_))))))))
        intro Le h9 hle c S
        refine EVs.nil ⟨⟨GG, S⟩, CallC.due [0, 1] S GG ⟨rfl, Nat.le_of_ble_eq_true rfl, Nat.le_of_ble_eq_true rfl⟩ (News.isList S.n (items := wsN.toArray) (n := 0) (by (first | exact mem_ix 0 rfl | exact mem_ix 1 rfl | exact mem_ix 2 rfl | exact mem_ix 3 rfl | exact mem_ix 4 rfl | exact mem_ix 5 rfl | exact mem_ix 6 rfl | exact mem_ix 7 rfl | exact mem_ix 8 rfl | exact mem_ix 9 rfl | exact mem_ix 10 rfl | exact mem_ix 11 rfl | exact mem_ix 12 rfl | exact mem_ix 13 rfl | exact mem_ix 14 rfl | exact mem_ix 15 rfl))) hNS hsz (News.isList S.n (.head _)) (ints2at _ _) (fun h hm => by
          rcases List.mem_cons.mp hm with rfl | hm
          · decide
          · rw [List.mem_singleton.mp hm]; decide) (by decide) ?_⟩
        intro Ud h10 tz10 z10 f10 c S
        refine EVs.nil (ListK.mk S (Nat.le_of_ble_eq_true rfl) ?_)
        intro Df h11 hl11 c S
        have j10 : ∀ q ∈ tz10, c.h.get? q.1 = some q.2 := fun q hq => (S.n q (.tail _ (List.mem_append_right _ hq))).1
        have j8 : ∀ q ∈ tz8, c.h.get? q.1 = some q.2 := fun q hq => (S.n q (.tail _ (List.mem_append_left _ (.tail _ (List.mem_append_right _ hq))))).1
        have j0 : ∀ q ∈ tz, c.h.get? q.1 = some q.2 := fun q hq => (S.n q (.tail _ (List.mem_append_left _ (.tail _ (List.mem_append_left _ (List.mem_append_left _ (List.mem_append_left _ (.tail _ (.tail _ (.tail _ (.tail _ (.tail _ hq)))))))))))).1
        refine CmpK.mk (r := true) (fun Q E k zz => eq_tab (s := c.at k) (z8 c.h j8) ⟨TX, Ud, 0, (S.n _ (.head _)).1, z2 _ j0, z10 _ j10⟩ (by k_units) zz) ?_
        exact RetK.mk fun tk => (⟨rfl, _, _, _, _, _, rfl, S.f, hb8⟩ : lawEnd s1 _ _)
end
end Mine

theorem PySem.Challenge.cw_pa0048_01_holds : PySem.Challenge.rw_pa0048_01.Holds := by
  exact Mine.law_holds
