import PyProof.Rows.All
import Wide.All
import OpenK.AllK
import Wide.FinOn
import PySem.Challenge.RW_mg0014_01
set_option Elab.async false
-- part Hd
section
open PySem PySem.W PyProof.Rows
set_option Elab.async false
namespace Mine
set_option maxRecDepth 100000 in
set_option maxHeartbeats 8000000 in
open_top hd for PySem.Challenge.rw_mg0014_01
end Mine
end
-- part B1
section
open PySem PySem.W PySem.Calls PyProof.Rows
set_option Elab.async false
set_option maxRecDepth 100000
namespace Mine

/-- the end of a def's body -/
def EndP (s : Shared) (L : Addr) (P : Value → Prop) (fl : Flow) (s' : Shared) : Prop :=
  ∃ h' tk m', s' = { s with heap := h', toks := tk } ∧ Fr s.heap L h' m' ∧ P (match fl with | .ret v => v | _ => .none)
theorem EndP.intro {s : Shared} {L : Addr} {P : Value → Prop} {v : Value} {h' : Heap} {tk : Nat} {m' : Str → Option Value} (F : Fr s.heap L h' m') (hp : P v) :
    EndP s L P (.ret v) { s with heap := h', toks := tk } := ⟨h', tk, m', rfl, F, hp⟩

/-- a call of a plain def: what it hands back, and that all that stood is kept -/
theorem callP {prog : Program} {w : World} {A : Around} {s : Shared} {K : Frag} {E : Value → Shared → Prop} {P : Value → Prop} {p : Program} {loose : List Str} {mean : ExcName → Option Value} {mg mb : Str → Option Value}
    {name qual : Str} {params : Arguments} {body : List Stmt} {scope : Scope} {dV kV doc pm cdv ct oc : Value} {an od : Option Addr} {osl : Array (Option Value)} {f : Addr} {vs : List Value} (binds : List (Str × Value))
    (X : K.In s.heap) (T : Top p loose mean mg mb s.heap) (hroom : A.depth < recursionLimit)
    (ho : K.lookup f = some ⟨oc, od, .func (fnOf name qual params body scope dV kV doc pm an cdv ct), osl⟩) (hcd : codeIn K cdv qual = true)
    (hbind : bindArgs (fnOf name qual params body scope dV kV doc pm an cdv ct) ⟨vs, []⟩ = pure binds) (hloc : ∀ y ∈ binds, scope.names.lookup y.1 = some .local)
    (hco : scope.isCoroutine = false) (hgen : scope.isGenerator = false) (hk : scope.kind = .function)
    (hcell : ∀ x ∈ scope.names, x.2 ≠ .cell)
    (h : ∀ L h₁ tk₁, Fr s.heap L h₁ (fun y => binds.reverse.lookup y) → News s.heap L h₁ [] →
      wpAny (model prog w) (A.deeper (envOf qual scope L f cdv)) (execs body (envOf qual scope L f cdv)) (EndP s L P) (fun _ _ => False) { s with heap := h₁, toks := tk₁ }) :
    wpAny (model prog w) A (call (.ref f) vs) (fun v s' => P v ∧ Keeps s s') E s := by
  refine wpAny_call ?_
  refine codeAny_call_def (fd := fnOf name qual params body scope dV kV doc pm an cdv ct) (body := body) (binds := binds) hroom (X _ _ ho) rfl T.nolimit (codeRec_of X hcd) rfl (BindsTo.of_eq hbind) hcell hloc (fun h₁ hns hk₁ => ?_) hco hgen hk
  refine wpAny_mono (h _ h₁ _ ⟨hns, hk₁, Nat.le_refl _⟩ News.nil) (fun fl s' hq => ?_) fun _ _ y => y.elim
  obtain ⟨h', tk, m', rfl, F', hp⟩ := hq
  exact ⟨hp, h', tk, rfl, F'.keep⟩

/-- a step that keeps, in a frame with a ledger -/
theorem kept_step {M : Model} {A : Around} {E : Value → Shared → Prop} {s : Shared} {t : Sem Value} {h₀ : Heap} {L : Addr} {m : Str → Option Value} {news : List (Addr × Obj)} {P : Value → Prop} {Q : Value → Shared → Prop}
    (c : wpAny M A t (fun v s' => P v ∧ Keeps s s') E s) (F : Fr h₀ L s.heap m) (N : News h₀ L s.heap news)
    (h : ∀ v h' tk', P v → Fr h₀ L h' m → News h₀ L h' news → Q v { s with heap := h', toks := tk' }) : wpAny M A t Q E s :=
  wpAny_mono c (fun v s' hq => by
    obtain ⟨hp, h', tk', rfl, hk⟩ := hq
    exact h v h' tk' hp (F.keeps hk) (N.grown hk)) fun _ _ e => e

theorem kept_int {M : Model} {A : Around} {E : Value → Shared → Prop} {s : Shared} {t : Sem Value} {h₀ : Heap} {L : Addr} {m : Str → Option Value} {news : List (Addr × Obj)} {n : Int} {Q : Value → Shared → Prop}
    (c : wpAny M A t (fun v s' => (∃ t, v = .int n t) ∧ Keeps s s') E s) (F : Fr h₀ L s.heap m) (N : News h₀ L s.heap news)
    (h : ∀ u h' tk', Fr h₀ L h' m → News h₀ L h' news → Q (.int n u) { s with heap := h', toks := tk' }) : wpAny M A t Q E s :=
  kept_step c F N fun v h' tk' hv F' N' => by obtain ⟨u, rfl⟩ := hv; exact h u h' tk' F' N'
theorem kept_str {M : Model} {A : Around} {E : Value → Shared → Prop} {s : Shared} {t : Sem Value} {h₀ : Heap} {L : Addr} {m : Str → Option Value} {news : List (Addr × Obj)} {x : Str} {Q : Value → Shared → Prop}
    (c : wpAny M A t (fun v s' => (∃ t, v = .str x t) ∧ Keeps s s') E s) (F : Fr h₀ L s.heap m) (N : News h₀ L s.heap news)
    (h : ∀ u h' tk', Fr h₀ L h' m → News h₀ L h' news → Q (.str x u) { s with heap := h', toks := tk' }) : wpAny M A t Q E s :=
  kept_step c F N fun v h' tk' hv F' N' => by obtain ⟨u, rfl⟩ := hv; exact h u h' tk' F' N'
theorem kept_bool {M : Model} {A : Around} {E : Value → Shared → Prop} {s : Shared} {t : Sem Value} {h₀ : Heap} {L : Addr} {m : Str → Option Value} {news : List (Addr × Obj)} {b : Bool} {Q : Value → Shared → Prop}
    (c : wpAny M A t (fun v s' => v = .bool b ∧ Keeps s s') E s) (F : Fr h₀ L s.heap m) (N : News h₀ L s.heap news)
    (h : ∀ h' tk', Fr h₀ L h' m → News h₀ L h' news → Q (.bool b) { s with heap := h', toks := tk' }) : wpAny M A t Q E s :=
  kept_step c F N fun v h' tk' hv F' N' => by subst hv; exact h h' tk' F' N'

end Mine
end
-- part B1b
section
open PySem PySem.W PySem.Calls PyProof.Rows
set_option Elab.async false
set_option maxRecDepth 100000
namespace Mine
/-- a call of a plain def that has captured names -/
theorem callPC {prog : Program} {w : World} {A : Around} {s : Shared} {K : Frag} {E : Value → Shared → Prop} {P : Value → Prop} {p : Program} {loose : List Str} {mean : ExcName → Option Value} {mg mb : Str → Option Value}
    {name qual : Str} {params : Arguments} {body : List Stmt} {scope : Scope} {dV kV doc pm cdv ct oc : Value} {an od : Option Addr} {osl : Array (Option Value)} {f : Addr} {vs : List Value} (binds : List (Str × Value))
    (X : K.In s.heap) (T : Top p loose mean mg mb s.heap) (hroom : A.depth < recursionLimit)
    (ho : K.lookup f = some ⟨oc, od, .func (fnOf name qual params body scope dV kV doc pm an cdv ct), osl⟩) (hcd : codeIn K cdv qual = true)
    (hbind : bindArgs (fnOf name qual params body scope dV kV doc pm an cdv ct) ⟨vs, []⟩ = pure binds)
    (hkind : ∀ n, ∀ x ∈ binds, scope.names.lookup x.1 = some .local ∨ (scope.names.lookup x.1 = some .cell ∧ ((cellsFrom n scope.names []).lookup x.1).isSome = true))
    (hco : scope.isCoroutine = false) (hgen : scope.isGenerator = false) (hk : scope.kind = .function)
    (hnd : ((cellsFrom 0 scope.names []).map (·.1)).Nodup)
    (h : ∀ L h₁ tk₁ cells, Fr s.heap L h₁ (bindL (envOfC qual scope L f cdv).kindOf binds fun _ => none) → News s.heap L h₁ cells → CellsAre (bindC (envOfC qual scope L f cdv).kindOf binds fun _ => none) (cellsFrom (L + 1) scope.names []) cells →
      wpAny (model prog w) (A.deeper (envOfC qual scope L f cdv)) (execs body (envOfC qual scope L f cdv)) (EndP s L P) (fun _ _ => False) { s with heap := h₁, toks := tk₁ }) :
    wpAny (model prog w) A (call (.ref f) vs) (fun v s' => P v ∧ Keeps s s') E s := by
  have hnd' : ∀ n, ((cellsFrom n scope.names []).map (·.1)).Nodup := fun n => (cellsFrom_names scope.names 0 n [] [] rfl) ▸ hnd
  refine wpAny_call (codeAny_call_cells hroom (X _ _ ho) rfl T.nolimit (codeRec_of X hcd) rfl hbind rfl (hkind _) (fun s₁ c => ?_) hco hgen hk)
  have ⟨h₁, tk₁, e, _⟩ := c.done
  subst e
  have ⟨cells, N, Y⟩ := Cl.news (Nat.le_refl s.heap.objs.size) fun n a hm => And.intro (c.cell n a (lookup_of_mem_nodup (hnd' _) hm)) (c.above n a hm)
  exact wpAny_mono (h _ h₁ tk₁ cells ⟨c.toInCall.ns, c.toInCall.keep, Nat.le_refl _⟩ N Y)
    (fun _ _ ⟨h', tk', _, e, F, hp⟩ => ⟨hp, h', tk', e, F.keep⟩) fun _ _ no => no.elim
end Mine
end
-- part P1
section
open PySem PySem.W PySem.Calls PyProof.Rows
set_option Elab.async false
set_option maxRecDepth 100000
namespace Mine

/-- a text of these signs -/
def S (l : List Nat) : Str := ⟨l.toArray⟩
theorem S_append (a b : List Nat) : S a ++ S b = S (a ++ b) := by
  refine Str.ext' ?_
  rw [Str.cps_append]
  simp [S]
theorem S_cps (l : List Nat) : (S l).cps = l.toArray := rfl
theorem S_length (l : List Nat) : (S l).length = l.length := by simp [S, Str.length]
theorem S_one (c : Nat) : (⟨#[c]⟩ : Str) = S [c] := rfl
theorem S_inj {a b : List Nat} (h : S a = S b) : a = b := by
  have := congrArg (fun x => x.cps.toList) h
  simpa [S] using this

/-- how a sign is shown -/
def ctl (c : Nat) : List Nat :=
  (if c / 128 % 2 = 1 then [33] else []) ++
  (if c % 128 < 32 then [94, c % 128 + 64] else if c % 128 < 127 then [c % 128] else [94, if c = 127 then 63 else 159])

theorem and_p7 (c : Nat) : c &&& 128 = if c.testBit 7 then 128 else 0 := by
  refine Nat.eq_of_testBit_eq fun i => ?_
  rw [Nat.testBit_and, show (128 : Nat) = 2 ^ 7 from rfl, Nat.testBit_two_pow]
  by_cases h : 7 = i
  · subst h
    cases c.testBit 7 <;> decide
  · simp only [h, decide_false, Bool.and_false]
    cases c.testBit 7
    · simp
    · rw [if_pos rfl, Nat.testBit_two_pow]; simp [h]
theorem and128 (c : Nat) : Builtin.bitAnd (c : Int) 128 ≠ 0 ↔ c / 128 % 2 = 1 := by
  rw [bitAnd_pp (by omega) (by omega)]
  rw [show ((c : Int).toNat &&& (128 : Int).toNat) = c &&& 128 from rfl, and_p7, Nat.testBit_eq_decide_div_mod_eq]
  by_cases q : c / 128 % 2 = 1
  · simp [q]
  · simp [q]
theorem or32 : ∀ r : Fin 128, ((r : Nat) < 32 → Builtin.bitOr ((r : Nat) : Int) 32 = (r : Nat) + 32) ∧ ((r : Nat) = 127 → Builtin.bitOr ((r : Nat) : Int) 32 = 127) := by decide +kernel
theorem and127 (c : Nat) : Builtin.bitAnd (c : Int) 127 = ((c % 128 : Nat) : Int) := by rw [bitAnd_m7]; omega
/-- the sign behind the caret -/
theorem caret (c : Nat) (h : ¬ (32 ≤ Builtin.bitAnd (c : Int) 127 ∧ Builtin.bitAnd (c : Int) 127 ≤ 126)) :
    Builtin.bitOr (Builtin.bitAnd (c : Int) 127) 32 + 32 = ((if c % 128 < 32 then c % 128 + 64 else 159 : Nat) : Int) := by
  rw [and127] at h ⊢
  have hr : c % 128 < 128 := Nat.mod_lt _ (by decide)
  have := or32 ⟨c % 128, hr⟩
  dsimp only at this
  split
  · rw [this.1 (by assumption)]; omega
  · rw [this.2 (by omega)]; omega
theorem lit_bang : Str.ofString "!" = S [33] := by decide +kernel
theorem lit_caret : Str.ofString "^" = S [94] := by decide +kernel
theorem lit_del : Str.ofString "^?" = S [94, 63] := by decide +kernel
section
variable {c : Nat}
theorem u_a (h : (c : Int) = 127) (hb : Builtin.bitAnd (c : Int) 128 = 0) : Str.ofString "^?" = S (ctl c) := by
  obtain rfl : c = 127 := by omega
  decide +kernel
theorem u_b (h : (c : Int) = 127) (hb : Builtin.bitAnd (c : Int) 128 ≠ 0) : Str.ofString "!" ++ Str.ofString "^?" = S (ctl c) := by
  obtain rfl : c = 127 := by omega
  exact absurd hb (by decide +kernel)
theorem ctl_low (hr : 32 ≤ Builtin.bitAnd (c : Int) 127 ∧ Builtin.bitAnd (c : Int) 127 ≤ 126) : ctl c = (if c / 128 % 2 = 1 then [33] else []) ++ [(Builtin.bitAnd (c : Int) 127).toNat] := by
  rw [and127] at *
  unfold ctl
  rw [if_neg (show ¬ c % 128 < 32 by omega), if_pos (show c % 128 < 127 by omega)]
  rfl
theorem u_c (hr : 32 ≤ Builtin.bitAnd (c : Int) 127 ∧ Builtin.bitAnd (c : Int) 127 ≤ 126) (hb : Builtin.bitAnd (c : Int) 128 ≠ 0) :
    Str.ofString "!" ++ (⟨#[(Builtin.bitAnd (c : Int) 127).toNat]⟩ : Str) = S (ctl c) := by
  rw [ctl_low hr, if_pos ((and128 c).mp hb), lit_bang, S_one, S_append]
theorem u_d (hr : 32 ≤ Builtin.bitAnd (c : Int) 127 ∧ Builtin.bitAnd (c : Int) 127 ≤ 126) (hb : Builtin.bitAnd (c : Int) 128 = 0) :
    (⟨#[(Builtin.bitAnd (c : Int) 127).toNat]⟩ : Str) = S (ctl c) := by
  rw [ctl_low hr, if_neg (fun q => (and128 c).mpr q hb), S_one]; rfl
theorem ctl_ctl (h : (c : Int) ≠ 127) (hr : ¬ (32 ≤ Builtin.bitAnd (c : Int) 127 ∧ Builtin.bitAnd (c : Int) 127 ≤ 126)) :
    ctl c = (if c / 128 % 2 = 1 then [33] else []) ++ [94, (((if c % 128 < 32 then c % 128 + 64 else 159 : Nat) : Int)).toNat] := by
  rw [and127] at *
  unfold ctl
  by_cases q : c % 128 < 32
  · rw [if_pos q, if_pos q]; rfl
  · rw [if_neg q, if_neg q, if_neg (show ¬ c % 128 < 127 by omega), if_neg (show ¬ c = 127 by omega)]; rfl
theorem u_e (h : (c : Int) ≠ 127) (hr : ¬ (32 ≤ Builtin.bitAnd (c : Int) 127 ∧ Builtin.bitAnd (c : Int) 127 ≤ 126)) (hb : Builtin.bitAnd (c : Int) 128 ≠ 0) :
    Str.ofString "!" ++ (Str.ofString "^" ++ (⟨#[(((if c % 128 < 32 then c % 128 + 64 else 159 : Nat) : Int)).toNat]⟩ : Str)) = S (ctl c) := by
  rw [ctl_ctl h hr, if_pos ((and128 c).mp hb), lit_bang, lit_caret, S_one, S_append, S_append]; rfl
theorem u_f (h : (c : Int) ≠ 127) (hr : ¬ (32 ≤ Builtin.bitAnd (c : Int) 127 ∧ Builtin.bitAnd (c : Int) 127 ≤ 126)) (hb : Builtin.bitAnd (c : Int) 128 = 0) :
    Str.ofString "^" ++ (⟨#[(((if c % 128 < 32 then c % 128 + 64 else 159 : Nat) : Int)).toNat]⟩ : Str) = S (ctl c) := by
  rw [ctl_ctl h hr, if_neg (fun q => (and128 c).mpr q hb), lit_caret, S_one, S_append]; rfl
end
end Mine
end
-- part P2
section
open PySem PySem.W PySem.Calls PyProof.Rows
set_option Elab.async false
set_option maxRecDepth 100000
namespace Mine
/-- the law's code for a number -/
def codeF (n : Int) : Int :=
  if n.fmod 4 = 0 then ([39, 97, 167, 321, 32, 295, 127, 159, 94, 33, 255, 9] : List Int).getD ((n.fdiv 4).fmod 12).toNat 0
  else if n.fmod 4 = 1 then 32 + (n.fdiv 4).fmod 95
  else if n.fmod 4 = 2 then (n.fdiv 4).fmod 512
  else if (n.fdiv 4).fmod 1112064 < 55296 then (n.fdiv 4).fmod 1112064 else (n.fdiv 4).fmod 1112064 + 2048
theorem codeF_table : ∀ i : Nat, 0 ≤ ([39, 97, 167, 321, 32, 295, 127, 159, 94, 33, 255, 9] : List Int).getD i 0 ∧ ([39, 97, 167, 321, 32, 295, 127, 159, 94, 33, 255, 9] : List Int).getD i 0 ≤ 1114111 := by
  intro i
  by_cases h : i < 12
  · have : ∀ j : Fin 12, 0 ≤ ([39, 97, 167, 321, 32, 295, 127, 159, 94, 33, 255, 9] : List Int).getD j 0 ∧ ([39, 97, 167, 321, 32, 295, 127, 159, 94, 33, 255, 9] : List Int).getD j 0 ≤ 1114111 := by decide +kernel
    exact this ⟨i, h⟩
  · rw [List.getD_eq_getElem?_getD, List.getElem?_eq_none (by simp; omega)]
    decide
theorem codeF_range (n : Int) : 0 ≤ codeF n ∧ codeF n ≤ 1114111 := by
  unfold codeF
  split
  · exact codeF_table _
  · rw [Int.fmod_eq_emod_of_nonneg _ (show (0 : Int) ≤ 95 by decide), Int.fmod_eq_emod_of_nonneg _ (show (0 : Int) ≤ 512 by decide), Int.fmod_eq_emod_of_nonneg (n.fdiv 4) (show (0 : Int) ≤ 1112064 by decide)]
    split
    · omega
    · split
      · omega
      · split <;> omega
end Mine
namespace Mine
theorem lit_row : ∀ i : Fin 32, Txt.item (Str.ofString "@ABCDEFGHIJKLMNOPQRSTUVWXYZ[\\]^_") ((i : Nat) : Int) = S [(i : Nat) + 64] := by decide +kernel
theorem lit_none : Str.ofString "" = S [] := by decide +kernel
theorem lit_ask : Str.ofString "?" = S [63] := by decide +kernel
theorem lit_9f : Str.ofString "\u009f" = S [159] := by decide +kernel
section
variable {c : Nat}
theorem fm_great (c : Nat) : ((c : Int).fdiv 128).fmod 2 = ((c / 128 % 2 : Nat) : Int) := by
  rw [Int.fmod_eq_emod_of_nonneg _ (by decide), Int.fdiv_eq_ediv_of_nonneg _ (by decide)]; omega
theorem fm_low (c : Nat) : (c : Int).fmod 128 = ((c % 128 : Nat) : Int) := by
  rw [Int.fmod_eq_emod_of_nonneg _ (by decide)]; omega
/-- the law's own sign, way by way -/
def great (c : Nat) : Str := if ((c : Int).fdiv 128).fmod 2 ≠ 0 then Str.ofString "!" else Str.ofString ""
theorem great_is (c : Nat) : great c = S (if c / 128 % 2 = 1 then [33] else []) := by
  unfold great
  rw [fm_great]
  by_cases q : c / 128 % 2 = 1
  · rw [if_pos (by omega), if_pos q, lit_bang]
  · rw [if_neg (by omega), if_neg q, lit_none]
theorem great_y (h : ((c : Int).fdiv 128).fmod 2 ≠ 0) : Str.ofString "!" = great c := by unfold great; rw [if_pos h]
theorem great_n (h : ((c : Int).fdiv 128).fmod 2 = 0) : Str.ofString "" = great c := by unfold great; rw [if_neg (by simpa using h)]
theorem v_a (h : (c : Int).fmod 128 < 32) : great c ++ Str.ofString "^" ++ Txt.item (Str.ofString "@ABCDEFGHIJKLMNOPQRSTUVWXYZ[\\]^_") ((c : Int).fmod 128) = S (ctl c) := by
  rw [fm_low] at *
  have q : c % 128 < 32 := by omega
  rw [lit_row ⟨c % 128, q⟩, great_is, lit_caret, S_append, S_append]
  unfold ctl
  rw [if_pos q, List.append_assoc]; rfl
theorem v_b (h : ¬ (c : Int).fmod 128 < 32) (h2 : (c : Int).fmod 128 < 127) : great c ++ (⟨#[((c : Int).fmod 128).toNat]⟩ : Str) = S (ctl c) := by
  rw [fm_low] at *
  rw [great_is, S_one, S_append]
  unfold ctl
  rw [if_neg (show ¬ c % 128 < 32 by omega), if_pos (show c % 128 < 127 by omega)]; rfl
theorem v_c (h : ¬ (c : Int).fmod 128 < 32) (h2 : ¬ (c : Int).fmod 128 < 127) (h3 : (c : Int) = 127) : great c ++ Str.ofString "^" ++ Str.ofString "?" = S (ctl c) := by
  rw [great_is, lit_caret, lit_ask, S_append, S_append]
  obtain rfl : c = 127 := by omega
  decide +kernel
theorem v_d (h : ¬ (c : Int).fmod 128 < 32) (h2 : ¬ (c : Int).fmod 128 < 127) (h3 : (c : Int) ≠ 127) : great c ++ Str.ofString "^" ++ Str.ofString "\u009f" = S (ctl c) := by
  rw [fm_low] at *
  rw [great_is, lit_caret, lit_9f, S_append, S_append]
  unfold ctl
  rw [if_neg (show ¬ c % 128 < 32 by omega), if_neg (show ¬ c % 128 < 127 by omega), if_neg (show ¬ c = 127 by omega), List.append_assoc]; rfl
end
end Mine
end
-- part B2
section
open PySem PySem.W PySem.Calls PyProof.Rows
set_option Elab.async false
set_option maxRecDepth 100000
namespace Mine
local macro_rules | `(tactic| walk_at "m_enter") => `(tactic| ((case k1 => assumption); (case k2 => assumption); (case k3 => (try dsimp only); omega); (case k4 => k_is); (case k5 => k_is); (case k6 => exact rfl); (case k7 => exact locs rfl); (case k8 => exact rfl); (case k9 => exact rfl); (case k10 => exact rfl); (case k11 => decide); (intro L h₁ tk₁ F N; (try dsimp only); (try k_fold))))

/-- what stands: the written part and the top -/
structure Bd (w : World) (mean : ExcName → Option Value) (mg mb : Str → Option Value) (h : Heap) : Prop where
  X : (hd.heap_39 w.params).In h
  T : Top hd.view_39 (looseW hd.view_39 [Str.ofString "_twin_re_1", Str.ofString "_find_unsafe"]) mean mg mb h
theorem Bd.of {w : World} {mean : ExcName → Option Value} {mg mb : Str → Option Value} {h₀ h : Heap} {L : Addr} {m : Str → Option Value} (F : Fr h₀ L h m) (X : (hd.heap_39 w.params).In h₀)
    (T : Top hd.view_39 (looseW hd.view_39 [Str.ofString "_twin_re_1", Str.ofString "_find_unsafe"]) mean mg mb h₀) : Bd w mean mg mb h := ⟨X.keeps F.keep, T.keeps F.keep⟩

section
variable {w : World} {dp un : Nat} {fr : Option (List Env)} {gd : Option (List Code)} {s : Shared} {E : Value → Shared → Prop} {mean : ExcName → Option Value} {mg mb : Str → Option Value}
set_option maxHeartbeats 8000000 in
theorem ctoi_int {n : Int} {t : Tok} (B : Bd w mean mg mb s.heap) (hroom : dp < recursionLimit) :
    wpAny (model PySem.Challenge.rw_mg0014_01.row.prog w) (Around.mk none dp fr gd un) (call (.ref 38) [.int n t]) (fun v s' => (∃ t, v = .int n t) ∧ Keeps s s') E s := by
  obtain ⟨X, T⟩ := B
  revert X
  k_fill
  intro X
  with_unfolding_all refine' callP [(Str.ofString "c", .int n t)] ?k1 ?k2 ?k3 ?k4 ?k5 ?k6 ?k7 ?k8 ?k9 ?k10 ?k11 ?_
  w_top off
  walk_at "m_enter"
  k_steps
  all_goals exact EndP.intro (by k_asm) ⟨_, rfl⟩
set_option maxHeartbeats 8000000 in
theorem ctoi_str {c : Nat} {t : Tok} (B : Bd w mean mg mb s.heap) (hroom : dp < recursionLimit) :
    wpAny (model PySem.Challenge.rw_mg0014_01.row.prog w) (Around.mk none dp fr gd un) (call (.ref 38) [.str ⟨#[c]⟩ t]) (fun v s' => (∃ t, v = .int (c : Int) t) ∧ Keeps s s') E s := by
  obtain ⟨X, T⟩ := B
  with_unfolding_all refine' callP [(Str.ofString "c", .str ⟨#[c]⟩ t)] ?k1 ?k2 ?k3 ?k4 ?k5 ?k6 ?k7 ?k8 ?k9 ?k10 ?k11 ?_
  w_top off
  walk_at "m_enter"
  k_steps
  all_goals exact EndP.intro (by k_asm) ⟨_, rfl⟩
local macro_rules | `(tactic| walk_at "call ref") => `(tactic| ((first
  | refine kept_int (ctoi_int (Bd.of (by k_asm) (by k_asm) (by k_asm)) (by (try dsimp only [Around.deeper]); omega)) (by k_asm) (by k_asm) ?_
  | refine kept_int (ctoi_str (Bd.of (by k_asm) (by k_asm) (by k_asm)) (by (try dsimp only [Around.deeper]); omega)) (by k_asm) (by k_asm) ?_); intro u' h' tk' F' N'; (try dsimp only)))
set_option maxHeartbeats 8000000 in
theorem isprint_int {n : Int} {t : Tok} (B : Bd w mean mg mb s.heap) (hroom : dp + 1 < recursionLimit) :
    wpAny (model PySem.Challenge.rw_mg0014_01.row.prog w) (Around.mk none dp fr gd un) (call (.ref 45) [.int n t]) (fun v s' => (v = .bool (decide (32 ≤ n ∧ n ≤ 126))) ∧ Keeps s s') E s := by
  obtain ⟨X, T⟩ := B
  with_unfolding_all refine' callP [(Str.ofString "c", .int n t)] ?k1 ?k2 ?k3 ?k4 ?k5 ?k6 ?k7 ?k8 ?k9 ?k10 ?k11 ?_
  w_top off
  walk_at "m_enter"
  k_steps
  all_goals refine EndP.intro (by k_asm) (congrArg Value.bool ?_)
  all_goals (simp only [decide_eq_decide] at *)
  all_goals first | omega | (symm; simp only [decide_eq_false_iff_not, decide_eq_true_eq]; omega)
local macro_rules | `(tactic| walk_at "call ref") => `(tactic| (
  refine kept_bool (isprint_int (Bd.of (by k_asm) (by k_asm) (by k_asm)) (by (try dsimp only [Around.deeper]); omega)) (by k_asm) (by k_asm) ?_; intro h' tk' F' N'; (try dsimp only)))
local macro_rules | `(tactic| walk_at "call builtin:chr") => `(tactic| (
  (with_reducible rename ¬ (32 ≤ Builtin.bitAnd _ 127 ∧ _) => hc); rw [caret _ hc]; refine chr_of_range (by omega) (by split <;> omega) ?_; (try dsimp only)))
set_option maxHeartbeats 8000000 in
theorem unctrl_str {c : Nat} {t : Tok} (B : Bd w mean mg mb s.heap) (hroom : dp + 2 < recursionLimit) :
    wpAny (model PySem.Challenge.rw_mg0014_01.row.prog w) (Around.mk none dp fr gd un) (call (.ref 52) [.str ⟨#[c]⟩ t]) (fun v s' => (∃ t, v = .str (S (ctl c)) t) ∧ Keeps s s') E s := by
  obtain ⟨X, T⟩ := B
  with_unfolding_all refine' callP [(Str.ofString "c", .str ⟨#[c]⟩ t)] ?k1 ?k2 ?k3 ?k4 ?k5 ?k6 ?k7 ?k8 ?k9 ?k10 ?k11 ?_
  w_top off
  walk_at "m_enter"
  k_steps
  all_goals refine EndP.intro (by k_asm) ⟨_, congrArg (fun x => Value.str x _) ?_⟩
  all_goals first | exact u_a (by assumption) (by assumption) | exact u_b (by assumption) (by assumption) | exact u_c (by assumption) (by assumption) | exact u_d (by assumption) (by assumption) | exact u_e (by assumption) (by assumption) (by assumption) | exact u_f (by assumption) (by assumption) (by assumption)

end
end Mine
end
-- part B3
section
open PySem PySem.W PySem.Calls PyProof.Rows
set_option Elab.async false
set_option maxRecDepth 100000
namespace Mine
local macro_rules | `(tactic| walk_at "m_enter") => `(tactic| ((case k1 => assumption); (case k2 => assumption); (case k3 => (try dsimp only); omega); (case k4 => k_is); (case k5 => k_is); (case k6 => exact rfl); (case k7 => exact locs rfl); (case k8 => exact rfl); (case k9 => exact rfl); (case k10 => exact rfl); (case k11 => decide); (intro L h₁ tk₁ F N; (try dsimp only); (try k_fold))))
section
variable {w : World} {dp un : Nat} {fr : Option (List Env)} {gd : Option (List Code)} {s : Shared} {E : Value → Shared → Prop} {mean : ExcName → Option Value} {mg mb : Str → Option Value}
set_option maxHeartbeats 8000000 in
theorem law_code {n : Int} {t : Tok} (B : Bd w mean mg mb s.heap) (hroom : dp + 2 < recursionLimit) :
    wpAny (model PySem.Challenge.rw_mg0014_01.row.prog w) (Around.mk none dp fr gd un) (call (.ref 72) [.int n t]) (fun v s' => (∃ t, v = .int (codeF n) t) ∧ Keeps s s') E s := by
  obtain ⟨X, T⟩ := B
  revert X
  k_fill
  intro X
  with_unfolding_all refine' callP [(Str.ofString "number", .int n t)] ?k1 ?k2 ?k3 ?k4 ?k5 ?k6 ?k7 ?k8 ?k9 ?k10 ?k11 ?_
  w_top off
  walk_at "m_enter"
  k_steps
  all_goals refine EndP.intro (by k_asm) ⟨_, congrArg (fun x => Value.int x _) ?_⟩
  all_goals (unfold codeF; (repeat' split) <;> first | rfl | omega)
set_option maxHeartbeats 8000000 in
theorem law_sign {c : Nat} {t : Tok} (B : Bd w mean mg mb s.heap) (hroom : dp + 2 < recursionLimit) :
    wpAny (model PySem.Challenge.rw_mg0014_01.row.prog w) (Around.mk none dp fr gd un) (call (.ref 91) [.int (c : Int) t]) (fun v s' => (∃ t, v = .str (S (ctl c)) t) ∧ Keeps s s') E s := by
  obtain ⟨X, T⟩ := B
  with_unfolding_all refine' callP [(Str.ofString "code", .int (c : Int) t)] ?k1 ?k2 ?k3 ?k4 ?k5 ?k6 ?k7 ?k8 ?k9 ?k10 ?k11 ?_
  w_top off
  walk_at "m_enter"
  k_steps
  all_goals refine EndP.intro (by k_asm) ⟨_, congrArg (fun x => Value.str x _) ?_⟩
  all_goals first | rw [great_y (by assumption)] | rw [great_n (by assumption)]
  all_goals first | exact v_a (by assumption) | exact v_b (by assumption) (by assumption) | exact v_c (by assumption) (by assumption) (by assumption) | exact v_d (by assumption) (by assumption) (by assumption)
end
end Mine
end
-- part C1
section
open PySem PySem.W PySem.Calls PyProof.Rows PyProof.Rows.LCg PyProof.Rows.LCt
set_option Elab.async false
set_option maxRecDepth 100000
namespace Mine
section
variable {prog : Program} {w : World} {A : Around} {E : Value → Shared → Prop} {s : Shared} {h₀ : Heap} {L : Addr} {m : Str → Option Value} {env : Env} {news : List (Addr × Obj)}

/-- an iterator over a text, and its walk -/
theorem iter_text {x : Str} {t : Tok} {Q : Value → Shared → Prop} (hh : A.handled = none)
    (h : ∀ ty o, Walks prog w A s.heap.objs.size [s.heap.objs.size] [s.heap.objs.size] x.cps.size (SignAt x) (fun i g => g.IsStrIter s.heap.objs.size ty x t i) →
      (s.heap.push o).IsStrIter s.heap.objs.size ty x t 0 → Q (.ref s.heap.objs.size) { s with heap := s.heap.push o }) : wpAny (model prog w) A (pyIter (.str x t)) Q E s := by
  by_cases low : x.cps.all (· < 128) = true
  · exact wpAny_pyIter_ascii low (h _ _ (Walks.strAscii hh _ x t) ⟨_, Heap.get?_push_size _ rfl, rfl, rfl⟩)
  · exact wpAny_pyIter_wide (by simpa using low) (h _ _ (Walks.strWide hh _ x t) ⟨_, Heap.get?_push_size _ rfl, rfl, rfl⟩)
theorem iter_stays {I : Addr} {ty : String} {x : Str} {t : Tok} {i : Nat} {h h' : Heap} {o : Obj} : h.IsStrIter I ty x t i → h.get? I = some o → h'.get? I = some o → h'.IsStrIter I ty x t i
  | ⟨_, q, r⟩, e, e' => ⟨o, e', Option.some.inj (q.symm.trans e) ▸ r⟩
/-- an object off the ledger may change -/
theorem past {C D : Addr} {o : Obj} {h h' : Heap} (N : News h₀ L h ((D, o) :: news)) (hs : Heap.SameBut C h h') (ne : C ≠ D) (off : ∀ p ∈ news, p.1 ≠ C) : News h₀ L h' ((D, o) :: news) :=
  news_but (I := C) N (fun b o' hb e => hs.extBut b o' (fun q => hb (q ▸ List.mem_singleton_self _)) e) (List.forall_mem_cons.mpr ⟨ne.symm, off⟩)
theorem at_end {o : Obj} {g : Heap} : ∀ b ∈ [g.objs.size], b < (g.push o).objs.size := by simp [Heap.size_push]

/-- a list comprehension over a text: no test; one test; one test, and the list is given a name -/
theorem ListComp_S {elt iter : Expr} {x : Str} {px : Pos} {scope : Scope} {cl : List (Str × Addr)} {pos : Pos} {tx : Str} {t : Tok} {Q : Value → Shared → Prop} (F : Fr h₀ L s.heap m) (N : News h₀ L s.heap news) (hh : A.handled = none)
    (hc : closureFor scope env = pure cl) (h1 : ∀ y ∈ scope.names, y.2 ≠ .cell) (h2 : scope.kind = .function) (h3 : ∀ y ∈ scope.names, y.2 = .local → scope.names.lookup y.1 = some .local) (h4 : scope.names.lookup x = some .local)
    (hi : ∀ Q' : Value → Shared → Prop, Q' (.str tx t) s → wpAny (model prog w) A (eval iter env) Q' E s) (hsz : tx.cps.size ≤ sizeLine)
    (R : ∀ g, CompRest prog w A h₀ L m env elt x scope cl { s with heap := g } (fun _ => True) (SignAt tx) (FinE h₀ L m { s with heap := g } Q) tx.cps.size 0 [] news)
    (hf : ∀ v, foldedSetIterable iter env v = pure v := by intro _; rfl) : wpAny (model prog w) A (eval (.ListComp elt [⟨.Name x px, iter, [], 0⟩] scope pos) env) Q E s := by
  rw [eval_ListComp]
  exact wpAny_comprehension_free (use := none) rfl hf hc h2 h3 (hi _ (iter_text hh fun ty o W st =>
    block_U W hsz (fun _ _ ⟨o, e, _⟩ => ⟨o, e⟩) (fun _ _ _ _ _ st e e' _ _ _ => iter_stays st e e') h1 h2 h4 st at_end (F.push o) (N.pushKeep o) (Nat.ne_of_lt F.ns.lt) F.fresh N.apart trivial (R _)
      fun D _ _ tk m' _ _ F' N' o1 hn c0 _ cL _ cD off fin => ⟨m', hn, fun h'' e => fin D h'' tk (F'.change e cL c0) (past N' e cD off) o1⟩))
theorem ListComp_ST {ct elt iter : Expr} {x : Str} {px : Pos} {scope : Scope} {cl : List (Str × Addr)} {pos : Pos} {tx : Str} {t : Tok} {Q : Value → Shared → Prop} (F : Fr h₀ L s.heap m) (N : News h₀ L s.heap news) (hh : A.handled = none)
    (hc : closureFor scope env = pure cl) (h1 : ∀ y ∈ scope.names, y.2 ≠ .cell) (h2 : scope.kind = .function) (h3 : ∀ y ∈ scope.names, y.2 = .local → scope.names.lookup y.1 = some .local) (h4 : scope.names.lookup x = some .local)
    (hi : ∀ Q' : Value → Shared → Prop, Q' (.str tx t) s → wpAny (model prog w) A (eval iter env) Q' E s) (hsz : tx.cps.size ≤ sizeLine)
    (R : ∀ g, CompRestT prog w A h₀ L m env ct elt x scope cl { s with heap := g } (fun _ => True) (SignAt tx) (FinE h₀ L m { s with heap := g } Q) tx.cps.size 0 [] news)
    (hf : ∀ v, foldedSetIterable iter env v = pure v := by intro _; rfl) : wpAny (model prog w) A (eval (.ListComp elt [⟨.Name x px, iter, [ct], 0⟩] scope pos) env) Q E s := by
  rw [eval_ListComp]
  exact wpAny_comprehension_free (use := none) rfl hf hc h2 h3 (hi _ (iter_text hh fun ty o W st =>
    block_T W hsz (fun _ _ ⟨o, e, _⟩ => ⟨o, e⟩) (fun _ _ _ _ _ st e e' _ _ _ => iter_stays st e e') h1 h2 h4 st at_end (F.push o) (N.pushKeep o) (Nat.ne_of_lt F.ns.lt) F.fresh N.apart trivial (R _)
      fun D _ _ tk m' _ _ F' N' o1 hn c0 _ cL _ cD off fin => ⟨m', hn, fun h'' e => fin D h'' tk (F'.change e cL c0) (past N' e cD off) o1⟩))
theorem Assign_ListComp_ST {ct elt iter : Expr} {x y : Str} {px py : Pos} {scope : Scope} {cl : List (Str × Addr)} {pos spos : Pos} {tx : Str} {t : Tok} {Q : Flow → Shared → Prop} (F : Fr h₀ L s.heap m) (N : News h₀ L s.heap news) (hh : A.handled = none) (hL : env.locals = L)
    (hsw : swapsWith (.ListComp elt [⟨.Name x px, iter, [ct], 0⟩] scope pos) (some (.Name y py)) spos.line env = pure true)
    (hc : closureFor scope env = pure cl) (h1 : ∀ y ∈ scope.names, y.2 ≠ .cell) (h2 : scope.kind = .function) (h3 : ∀ y ∈ scope.names, y.2 = .local → scope.names.lookup y.1 = some .local) (h4 : scope.names.lookup x = some .local)
    (hy : env.kindOf y = some .local) (hp : (env.scope.kind == .class || (env.scope.kind == .module && env.locals != env.globals)) = false)
    (hi : ∀ (s' : Shared) (Q' : Value → Shared → Prop), s' = s → Q' (.str tx t) s' → wpAny (model prog w) A (eval iter env) Q' E s') (hsz : tx.cps.size ≤ sizeLine)
    (R : ∀ g, CompRestT prog w A h₀ L m env ct elt x scope cl { s with heap := g } (fun _ => True) (SignAt tx) (FinA h₀ L m { s with heap := g } y Q) tx.cps.size 0 [] news)
    (hf : ∀ v, foldedSetIterable iter env v = pure v := by intro _; rfl) : wpAny (model prog w) A (exec (.Assign [.Name y py] (.ListComp elt [⟨.Name x px, iter, [ct], 0⟩] scope pos) spos) env) Q E s := by
  rw [exec_Assign_Name_used _ _ _ _ hsw]
  cases hL
  refine wpAny_bind (wpAny_standAt (wpAny_bind (wpAny_bind (wpAny_mono (wpAny_comprehension_free (use := some (assign (.Name y py) env)) (Q := fun _ => Q .next) rfl hf hc h2 h3 (hi s _ rfl ?_)) (fun _ _ q => wpAny_pure (wpAny_pure q)) fun _ _ e => e))))
  exact iter_text hh fun ty o W st =>
    block_T W hsz (fun _ _ ⟨o, e, _⟩ => ⟨o, e⟩) (fun _ _ _ _ _ st e e' _ _ _ => iter_stays st e e') h1 h2 h4 st at_end (F.push o) (N.pushKeep o) (Nat.ne_of_lt F.ns.lt) F.fresh N.apart trivial (R _)
      fun D _ _ _ m' _ _ F' N' o1 hn c0 _ cL _ cD off fin => wpAny_assign_Name (wpAny_storeName_local hy F'.ns (fun _ n₂ e₂ => ⟨m', hn.sameBut e₂ cL, fun h'' e => fin D h'' _ ((F'.set n₂ e₂).change e cL c0) (past (N'.set e₂) e cD off) o1⟩) hp)

/-- a turn's end: the element is the text x, and the ledger is as it was -/
def MapEnd (s : Shared) (h₀ : Heap) (L : Addr) (m : Str → Option Value) (nw : List (Addr × Obj)) (x : Str) (y : Value) (s' : Shared) : Prop :=
  (∃ h' tk', s' = { s with heap := h', toks := tk' } ∧ Fr h₀ L h' m ∧ News h₀ L h' nw) ∧ ∃ t, y = .str x t
theorem MapEnd.intro {nw : List (Addr × Obj)} {x : Str} {t : Tok} {h' : Heap} {tk' : Nat} (F : Fr h₀ L h' m) (N : News h₀ L h' nw) : MapEnd s h₀ L m nw x (.str x t) { s with heap := h', toks := tk' } := ⟨⟨h', tk', rfl, F, N⟩, t, rfl⟩
/-- a test's end: its answer, and the ledger is as it was -/
def TestEnd (s : Shared) (h₀ : Heap) (L : Addr) (m : Str → Option Value) (nw : List (Addr × Obj)) (b : Bool) (ok : Bool) (s' : Shared) : Prop :=
  (∃ h' tk', s' = { s with heap := h', toks := tk' } ∧ Fr h₀ L h' m ∧ News h₀ L h' nw) ∧ ok = b
theorem TestEnd.intro {nw : List (Addr × Obj)} {b ok : Bool} {h' : Heap} {tk' : Nat} (F : Fr h₀ L h' m) (N : News h₀ L h' nw) (e : ok = b) : TestEnd s h₀ L m nw b ok { s with heap := h', toks := tk' } := ⟨⟨h', tk', rfl, F, N⟩, e⟩

/-- a turn that maps a sign to a text -/
theorem rest_map {elt : Expr} {x : Str} {scope : Scope} {cl : List (Str × Addr)} {tx : Str} {Fin : List Value → List (Addr × Obj) → Prop} (g : Nat → Str)
    (turn : ∀ c u I oI C oC D m₂ ys h tk (E' : Value → Shared → Prop), c ∈ tx.cps.toList → NsObj oC m₂ → m₂ x = some (.str ⟨#[c]⟩ u) → Fr h₀ L h m → News h₀ L h ((I, oI) :: (C, oC) :: (D, lst ys) :: news) → Off3 I C D news → ((@Ne Nat I C) ∧ (@Ne Nat I D) ∧ (@Ne Nat C D)) →
      wpAny (model prog w) A (eval elt (compEnvC scope cl C env)) (MapEnd s h₀ L m ((I, oI) :: (C, oC) :: (D, lst ys) :: news) (g c)) E' { s with heap := h, toks := tk })
    (fin : ∀ ys, StrsAre ys (tx.cps.toList.map g) → Fin ys news) : CompRest prog w A h₀ L m env elt x scope cl s (fun _ => True) (SignAt tx) Fin tx.cps.size 0 [] news := by
  suffices from_ : ∀ (todo past : List Nat) (ys : List Value), tx.cps.toList = past ++ todo → StrsAre ys (past.map g) → CompRest prog w A h₀ L m env elt x scope cl s (fun _ => True) (SignAt tx) Fin todo.length past.length ys news by
    simpa using from_ tx.cps.toList [] [] rfl .nil
  intro todo
  induction todo with
  | nil =>
    intro past ys e hy
    exact CompRest.zero (fin ys (by rw [e, List.append_nil]; exact hy))
  | cons c todo next =>
    intro past ys e hy
    refine CompRest.succ fun v I oI C oC D m₂ h tk E' sign hC hx F N off ne => ?_
    obtain ⟨c', u, at_, rfl⟩ := sign
    rw [← Array.getElem?_toList, e, List.getElem?_append_right (Nat.le_refl _), Nat.sub_self] at at_
    obtain rfl : c = c' := Option.some.inj at_
    have here : c ∈ tx.cps.toList := by rw [e]; simp
    refine wpAny_mono (turn c u I oI C oC D m₂ ys h tk E' here hC hx F N off ne) (fun y s₂ ⟨⟨h', tk', same, F', N'⟩, t', hy'⟩ => ?_) fun _ _ e => e
    subst hy'
    have := next (past ++ [c]) (ys ++ [.str (g c) t']) (by rw [e, List.append_assoc]; rfl) (by rw [List.map_append]; exact kct_snoc hy)
    rw [List.length_append] at this
    exact ⟨h', tk', news, same, F', N', off, trivial, this⟩

/-- a turn that keeps a sign or drops it -/
theorem rest_filter {ct : Expr} {x : Str} {pos : Pos} {scope : Scope} {cl : List (Str × Addr)} {tx : Str} {Fin : List Value → List (Addr × Obj) → Prop} (q : Nat → Bool)
    (hk : ∀ C, (compEnvC scope cl C env).scope.kind = .function) (hl : ∀ C, (compEnvC scope cl C env).kindOf x = some .local) (hd : (x == ("__debug__" : Str)) = false)
    (turn : ∀ c u I oI C oC D m₂ ys h tk (E' : Value → Shared → Prop), c ∈ tx.cps.toList → NsObj oC m₂ → m₂ x = some (.str ⟨#[c]⟩ u) → Fr h₀ L h m → News h₀ L h ((I, oI) :: (C, oC) :: (D, lst ys) :: news) → Off3 I C D news → ((@Ne Nat I C) ∧ (@Ne Nat I D) ∧ (@Ne Nat C D)) →
      wpAny (model prog w) A (isTrue ct (compEnvC scope cl C env) (eval ct (compEnvC scope cl C env))) (TestEnd s h₀ L m ((I, oI) :: (C, oC) :: (D, lst ys) :: news) (q c)) E' { s with heap := h, toks := tk })
    (fin : ∀ ys, ys.length = (tx.cps.toList.filter q).length → Fin ys news) : CompRestT prog w A h₀ L m env ct (.Name x pos) x scope cl s (fun _ => True) (SignAt tx) Fin tx.cps.size 0 [] news := by
  suffices from_ : ∀ (todo past : List Nat) (ys : List Value), tx.cps.toList = past ++ todo → ys.length = (past.filter q).length → CompRestT prog w A h₀ L m env ct (.Name x pos) x scope cl s (fun _ => True) (SignAt tx) Fin todo.length past.length ys news by
    simpa using from_ tx.cps.toList [] [] rfl rfl
  intro todo
  induction todo with
  | nil =>
    intro past ys e hy
    exact CompRestT.zero (fin ys (by rw [e, List.append_nil]; exact hy))
  | cons c todo next =>
    intro past ys e hy
    refine CompRestT.succ fun v I oI C oC D m₂ h tk E' sign hC hx F N off ne => ?_
    obtain ⟨c', u, at_, rfl⟩ := sign
    rw [← Array.getElem?_toList, e, List.getElem?_append_right (Nat.le_refl _), Nat.sub_self] at at_
    obtain rfl : c = c' := Option.some.inj at_
    have here : c ∈ tx.cps.toList := by rw [e]; simp
    have after : ∀ ys' : List Value, ys'.length = ((past ++ [c]).filter q).length → CompRestT prog w A h₀ L m env ct (.Name x pos) x scope cl s (fun _ => True) (SignAt tx) Fin todo.length (past.length + 1) ys' news := fun ys' hy' => by
      have := next (past ++ [c]) ys' (by rw [e, List.append_assoc]; rfl) hy'
      rwa [List.length_append] at this
    refine wpAny_mono (turn c u I oI C oC D m₂ ys h tk E' here hC hx F N off ne) (fun ok s₂ ⟨⟨h', tk', same, F', N'⟩, hok⟩ => ?_) fun _ _ e => e
    subst same hok
    by_cases yes : q c = true
    · rw [if_pos yes]
      exact ldVarK (hC.ns (N' (C, oC) (List.mem_cons_of_mem _ List.mem_cons_self)).1) hx ⟨h', tk', news, rfl, F', N', off, trivial, after _ (by simp [yes, hy])⟩ (hk C) (hl C) hd
    · rw [if_neg yes]
      exact ⟨h', tk', news, rfl, F', N', off, trivial, after _ (by simp [yes, hy])⟩
end
theorem join_flat' (f : Nat → List Nat) : ∀ cs : List Nat, Str.join (Str.ofString "") (cs.map fun c => S (f c)) = S (cs.flatMap f)
  | [] => rfl
  | [c] => by
    show S (f c) = _
    rw [List.flatMap_cons, List.flatMap_nil, List.append_nil]
  | c :: d :: r => by
    have ih := join_flat' f (d :: r)
    show S (f c) ++ Str.ofString "" ++ Str.join (Str.ofString "") ((d :: r).map fun c => S (f c)) = _
    rw [ih, show Str.ofString "" = S [] from by decide +kernel, S_append, S_append, List.append_nil, List.flatMap_cons (x := c)]
theorem join_flat (f : Nat → List Nat) (cs : List Nat) : Txt.join (Str.ofString "") (cs.map fun c => S (f c)) = S (cs.flatMap f) := by
  rw [← join_flat']
  exact StrLaws.glued_eq_join _ _
theorem weight_flat (f : Nat → List Nat) (k : Nat) (hf : ∀ c, (f c).length ≤ k) : ∀ cs : List Nat, ((cs.map fun c => S (f c)).map (·.length)).sum ≤ k * cs.length
  | [] => Nat.le_refl _
  | c :: r => by
    have ih := weight_flat f k hf r
    simp only [List.map_cons, List.sum_cons, S_length, List.length_cons] at ih ⊢
    have := hf c
    rw [Nat.mul_succ]
    omega
theorem ctl_len (c : Nat) : (ctl c).length ≤ 3 := by
  unfold ctl
  (repeat' split) <;> simp
theorem show_weight {tx : Str} (h : tx.cps.size ≤ 100000) : ((tx.cps.toList.map fun c => S (ctl c)).map (·.length)).sum + (tx.cps.toList.map fun c => S (ctl c)).length ≤ 1048576 := by
  have := weight_flat ctl 3 ctl_len tx.cps.toList
  simp only [List.length_map, Array.length_toList] at this ⊢
  omega
end Mine
end
-- part B4
section
open PySem PySem.W PySem.Calls PyProof.Rows
set_option Elab.async false
set_option maxRecDepth 100000
namespace Mine
local macro_rules | `(tactic| walk_at "m_enter") => `(tactic| ((case k1 => assumption); (case k2 => assumption); (case k3 => (try dsimp only); omega); (case k4 => k_is); (case k5 => k_is); (case k6 => exact rfl); (case k7 => exact locs rfl); (case k8 => exact rfl); (case k9 => exact rfl); (case k10 => exact rfl); (case k11 => decide); (intro L h₁ tk₁ F N; (try dsimp only); (try k_fold))))
section
variable {w : World} {dp un : Nat} {fr : Option (List Env)} {gd : Option (List Code)} {s : Shared} {E : Value → Shared → Prop} {mean : ExcName → Option Value} {mg mb : Str → Option Value}
local macro_rules | `(tactic| walk_at "call ref") => `(tactic| ((first
  | refine kept_str (unctrl_str (Bd.of (by k_asm) (by k_asm) (by k_asm)) (by (try dsimp only [Around.deeper]); omega)) (by k_asm) (by k_asm) ?_
  | refine kept_str (law_sign (Bd.of (by k_asm) (by k_asm) (by k_asm)) (by (try dsimp only [Around.deeper]); omega)) (by k_asm) (by k_asm) ?_); intro u' h' tk' F' N'; (try dsimp only)))
local macro_rules | `(tactic| walk_at "eval ListComp") => `(tactic| (k_dflt (refine ListComp_S (by k_asm) (by k_asm) (by rfl) (by with_unfolding_all rfl) (by decide) (by rfl) (by decide) (by rfl) (fun Q' hQ => ld (by k_asm) (by exact rfl) hQ) (by rw [PySem.sizeLine_eq]; omega) (fun g' => rest_map (fun c => S (ctl c)) (fun c' u' I' oI' C' oC' D' m' ys' h' tk' E' hc' hC' hx' F' N' off' ne' => ?_) (fun ys' hys' D' h' tk' F' N' o1' => ?_))); (all_goals (try dsimp only))))
local macro_rules | `(tactic| walk_at "call builtin:str.join") => `(tactic| (refine join_listW (News.isList (by k_asm) (by k_mem)) (by assumption) (by decide) (show_weight (by assumption)) ?_; intro t' k'; (try dsimp only)))
set_option maxHeartbeats 8000000 in
theorem law_show {x : Str} {t : Tok} (hx : x.cps.size ≤ 100000) (B : Bd w mean mg mb s.heap) (hroom : dp + 3 < recursionLimit) :
    wpAny (model PySem.Challenge.rw_mg0014_01.row.prog w) (Around.mk none dp fr gd un) (call (.ref 108) [.str x t]) (fun v s' => (∃ t, v = .str (S (x.cps.toList.flatMap ctl)) t) ∧ Keeps s s') E s := by
  obtain ⟨X, T⟩ := B
  revert X
  k_fill
  intro X
  with_unfolding_all refine' callP [(Str.ofString "text", .str x t)] ?k1 ?k2 ?k3 ?k4 ?k5 ?k6 ?k7 ?k8 ?k9 ?k10 ?k11 ?_
  w_top off
  walk_at "m_enter"
  k_steps
  all_goals first | exact MapEnd.intro (by k_asm) (by k_asm) | exact EndP.intro (by k_asm) ⟨_, congrArg (fun x => Value.str x _) (join_flat ctl _)⟩
set_option maxHeartbeats 8000000 in
theorem law_shown {x : Str} {t : Tok} (hx : x.cps.size ≤ 100000) (B : Bd w mean mg mb s.heap) (hroom : dp + 3 < recursionLimit) :
    wpAny (model PySem.Challenge.rw_mg0014_01.row.prog w) (Around.mk none dp fr gd un) (call (.ref 96) [.str x t]) (fun v s' => (∃ t, v = .str (S (x.cps.toList.flatMap ctl)) t) ∧ Keeps s s') E s := by
  obtain ⟨X, T⟩ := B
  with_unfolding_all refine' callP [(Str.ofString "text", .str x t)] ?k1 ?k2 ?k3 ?k4 ?k5 ?k6 ?k7 ?k8 ?k9 ?k10 ?k11 ?_
  w_top off
  walk_at "m_enter"
  k_steps
  all_goals first | exact MapEnd.intro (by k_asm) (by k_asm) | exact EndP.intro (by k_asm) ⟨_, congrArg (fun x => Value.str x _) (join_flat ctl _)⟩
end
end Mine
end
-- part R1
section
open PySem PySem.W PySem.Calls PyProof.Rows PySem.Sre
set_option Elab.async false
set_option maxRecDepth 100000
namespace Mine
/-- the pattern's words -/
def rc : Array Nat := #[14, 17, 4, 1, 1, 21, 9, 0, 604043296, 1, 0, 0, 0, 0, 0, 8, 4, 0, 13, 14, 21, 9, 0, 604043296, 1, 0, 0, 0, 0, 0, 8, 4, 0, 1]
/-- a safe sign -/
def sf (c : Nat) : Bool := isWord c || c == 64 || c == 37 || c == 43 || c == 61 || c == 58 || c == 44 || c == 46 || c == 47 || c == 45
theorem set_charset5 : ∀ c : Fin 256, ((rc.getD (6 + (1 + (c : Nat) / 32)) 0).testBit ((c : Nat) % 32) || isWord c) = sf c := by decide +kernel
theorem set_charset20 : ∀ c : Fin 256, ((rc.getD (21 + (1 + (c : Nat) / 32)) 0).testBit ((c : Nat) % 32) || isWord c) = sf c := by decide +kernel
theorem sf_lt {c : Nat} (h : sf c = true) : c < 128 := by
  unfold sf isWord isDigit at h
  simp only [Bool.or_eq_true, Bool.and_eq_true, decide_eq_true_eq, beq_iff_eq] at h
  omega
theorem isWord_lt {c : Nat} (h : isWord c = true) : c < 128 := by
  unfold isWord isDigit at h
  simp only [Bool.or_eq_true, Bool.and_eq_true, decide_eq_true_eq, beq_iff_eq] at h
  omega
theorem in_tail (c f i : Nat) (hi : i = 15 ∨ i = 30) (seen : Sre.Seen) : ∃ seen', inSet rc c (f + 2) i false seen = .ok (!(isWord c), seen') := by
  rcases hi with rfl | rfl
  · have e : inSet rc c (f + 2) 15 false seen = (do if ← category 4 c then pure (false, (seen.add 8).add 59) else inSet rc c (f + 1) 17 false ((seen.add 8).add 59)) := rfl
    rw [e, show category 4 c = .ok (isWord c) from by show Except.ok (isWord c != false) = _; simp]
    cases hw : isWord c
    · exact ⟨_, rfl⟩
    · exact ⟨_, rfl⟩
  · have e : inSet rc c (f + 2) 30 false seen = (do if ← category 4 c then pure (false, (seen.add 8).add 59) else inSet rc c (f + 1) 32 false ((seen.add 8).add 59)) := rfl
    rw [e, show category 4 c = .ok (isWord c) from by show Except.ok (isWord c != false) = _; simp]
    cases hw : isWord c
    · exact ⟨_, rfl⟩
    · exact ⟨_, rfl⟩
theorem in_head (c f : Nat) (seen : Sre.Seen) : ∃ seen', inSet rc c (f + 4) 5 true seen = .ok (!(sf c), seen') := by
  have e : inSet rc c (f + 4) 5 true seen = (if c < 256 && (rc.getD (6 + (1 + c / 32)) 0).testBit (c % 32) then .ok (false, (seen.add 21).add 9) else inSet rc c (f + 2) 15 false ((seen.add 21).add 9)) := rfl
  rw [e]
  by_cases h : c < 256
  · have := set_charset5 ⟨c, h⟩
    dsimp only at this
    cases hb : (rc.getD (6 + (1 + c / 32)) 0).testBit (c % 32)
    · rw [hb] at this
      simp only [Bool.and_false, Bool.false_eq_true, if_false]
      obtain ⟨s', q⟩ := in_tail c f 15 (.inl rfl) ((seen.add 21).add 9)
      rw [q, ← this, Bool.false_or]
      exact ⟨_, rfl⟩
    · rw [hb] at this
      simp only [h, decide_true, Bool.and_true, if_true]
      rw [← this]
      exact ⟨_, rfl⟩
  · simp only [h, decide_false, Bool.false_and, Bool.false_eq_true, if_false]
    obtain ⟨s', q⟩ := in_tail c f 15 (.inl rfl) ((seen.add 21).add 9)
    have w : isWord c = false := by
      cases q : isWord c
      · rfl
      · have := isWord_lt q; omega
    have w2 : sf c = false := by
      cases q : sf c
      · rfl
      · have := sf_lt q; omega
    rw [q, w, w2]
    exact ⟨_, rfl⟩
theorem in_body (c f : Nat) (seen : Sre.Seen) : ∃ seen', inSet rc c (f + 4) 20 true seen = .ok (!(sf c), seen') := by
  have e : inSet rc c (f + 4) 20 true seen = (if c < 256 && (rc.getD (21 + (1 + c / 32)) 0).testBit (c % 32) then .ok (false, (seen.add 21).add 9) else inSet rc c (f + 2) 30 false ((seen.add 21).add 9)) := rfl
  rw [e]
  by_cases h : c < 256
  · have := set_charset20 ⟨c, h⟩
    dsimp only at this
    cases hb : (rc.getD (21 + (1 + c / 32)) 0).testBit (c % 32)
    · rw [hb] at this
      simp only [Bool.and_false, Bool.false_eq_true, if_false]
      obtain ⟨s', q⟩ := in_tail c f 30 (.inr rfl) ((seen.add 21).add 9)
      rw [q, ← this, Bool.false_or]
      exact ⟨_, rfl⟩
    · rw [hb] at this
      simp only [h, decide_true, Bool.and_true, if_true]
      rw [← this]
      exact ⟨_, rfl⟩
  · simp only [h, decide_false, Bool.false_and, Bool.false_eq_true, if_false]
    obtain ⟨s', q⟩ := in_tail c f 30 (.inr rfl) ((seen.add 21).add 9)
    have w : isWord c = false := by
      cases q : isWord c
      · rfl
      · have := isWord_lt q; omega
    have w2 : sf c = false := by
      cases q : sf c
      · rfl
      · have := sf_lt q; omega
    rw [q, w, w2]
    exact ⟨_, rfl⟩
theorem admitted_is (m : M) (hc : m.code = rc) : ∀ (fuel s : Nat) (seen : Sre.Seen), m.lim < fuel + s →
    (∃ seen', M.admitted m fuel s seen = .ok (none, seen') ∧ ∀ i, s ≤ i → i < m.lim → sf (m.text.getD i 0) = true) ∨
    (∃ j seen', M.admitted m fuel s seen = .ok (some j, seen') ∧ s ≤ j ∧ j < m.lim ∧ sf (m.text.getD j 0) = false)
  | 0, s, seen, h => .inl ⟨_, rfl, fun i h1 h2 => by omega⟩
  | fuel + 1, s, seen, h => by
    unfold M.admitted
    by_cases hs : s ≥ m.lim
    · rw [if_pos hs]
      exact .inl ⟨_, rfl, fun i h1 h2 => by omega⟩
    · rw [if_neg hs, hc]
      obtain ⟨s', q⟩ := in_head (m.text.getD s 0) 30 seen
      rw [show rc.size = 30 + 4 from rfl, q]
      cases hf : sf (m.text.getD s 0) with
      | false => exact .inr ⟨s, s', rfl, Nat.le_refl _, by omega, hf⟩
      | true =>
        show (∃ seen', M.admitted m fuel (s + 1) s' = _ ∧ _) ∨ (∃ j seen', M.admitted m fuel (s + 1) s' = _ ∧ _)
        rcases admitted_is m hc fuel (s + 1) s' (by omega) with ⟨s2, e2, hh⟩ | ⟨j, s2, e2, h1, h2, h3⟩
        · refine .inl ⟨s2, e2, fun i h1 h2 => ?_⟩
          by_cases hi : i = s
          · subst hi; exact hf
          · exact hh i (by omega) h2
        · exact .inr ⟨j, s2, e2, by omega, h2, h3⟩
end Mine
end
-- part B5
section
open PySem PySem.W PySem.Calls PyProof.Rows
set_option Elab.async false
set_option maxRecDepth 100000
namespace Mine
local macro_rules | `(tactic| walk_at "m_enter") => `(tactic| ((case k1 => assumption); (case k2 => assumption); (case k3 => (try dsimp only); omega); (case k4 => k_is); (case k5 => k_is); (case k6 => exact rfl); (case k7 => intro n x hx; cases hx with | head => exact .inl rfl | tail _ q => cases q); (case k8 => exact rfl); (case k9 => exact rfl); (case k10 => exact rfl); (case k11 => decide); (intro L h₁ tk₁ cells F N Y; k_cells Y; (try dsimp only); (try k_fold))))
theorem row_safe (c : Nat) : decide (c ∈ (Str.ofString "abcdefghijklmnopqrstuvwxyzABCDEFGHIJKLMNOPQRSTUVWXYZ0123456789_@%+=:,./-").cps.toList) = sf c := by
  by_cases h : c < 128
  · have : ∀ c : Fin 128, decide ((c : Nat) ∈ (Str.ofString "abcdefghijklmnopqrstuvwxyzABCDEFGHIJKLMNOPQRSTUVWXYZ0123456789_@%+=:,./-").cps.toList) = sf c := by decide +kernel
    exact this ⟨c, h⟩
  · have w2 : sf c = false := by
      cases q : sf c
      · rfl
      · have := sf_lt q; omega
    have : ∀ c ∈ (Str.ofString "abcdefghijklmnopqrstuvwxyzABCDEFGHIJKLMNOPQRSTUVWXYZ0123456789_@%+=:,./-").cps.toList, c < 128 := by decide +kernel
    rw [w2, decide_eq_false_iff_not]
    exact fun q => h (this c q)
theorem row_not (c : Nat) : (!!(Builtin.Str.occurrences (Str.ofString "abcdefghijklmnopqrstuvwxyzABCDEFGHIJKLMNOPQRSTUVWXYZ0123456789_@%+=:,./-") ⟨#[c]⟩ 0 (Str.ofString "abcdefghijklmnopqrstuvwxyzABCDEFGHIJKLMNOPQRSTUVWXYZ0123456789_@%+=:,./-").length 1).isEmpty) = !(sf c) := by
  rw [StrLaws.found_one, row_safe]
theorem all_filter (cs : List Nat) (ys : List Value) (h : ys.length = (cs.filter fun c => !(sf c)).length) : (!!ys.toArray.isEmpty) = cs.all sf := by
  rw [Bool.not_not, List.isEmpty_toArray, Bool.eq_iff_iff, List.isEmpty_iff, ← List.length_eq_zero_iff, h, List.length_eq_zero_iff, List.filter_eq_nil_iff, List.all_eq_true]
  simp
section
variable {w : World} {dp un : Nat} {fr : Option (List Env)} {gd : Option (List Code)} {s : Shared} {E : Value → Shared → Prop} {mean : ExcName → Option Value} {mg mb : Str → Option Value}
local macro_rules | `(tactic| walk_at "eval ListComp") => `(tactic| (k_dflt (refine ListComp_ST (by k_asm) (by k_asm) (by rfl) (by with_unfolding_all rfl) (by decide) (by rfl) (by decide) (by rfl) (fun Q' hQ => nameX_L (by k_asm) (by exact rfl) hQ) (by rw [PySem.sizeLine_eq]; omega) (fun g' => rest_filter (fun c => !(sf c)) (fun _ => rfl) (fun _ => rfl) (by decide) (fun c' u' I' oI' C' oC' D' m' ys' h' tk' E' hc' hC' hx' F' N' off' ne' => ?_) (fun ys' hys' D' h' tk' F' N' o1' => ?_))); (all_goals (try dsimp only))))
local macro_rules | `(tactic| walk_at "truthy ref") => `(tactic| (refine wpAny_truthy_list (News.isList (by k_asm) (by k_mem)) ?kfit ?_; (case kfit => have := List.length_filter_le (fun c => !(sf c)) (by assumption : Str).cps.toList; simp only [List.size_toArray, Array.length_toList] at *; omega); (try dsimp only)))
set_option maxHeartbeats 8000000 in
theorem law_safe {x : Str} {t : Tok} (hx : x.cps.size ≤ 100000) (B : Bd w mean mg mb s.heap) (hroom : dp + 3 < recursionLimit) :
    wpAny (model PySem.Challenge.rw_mg0014_01.row.prog w) (Around.mk none dp fr gd un) (call (.ref 77) [.str x t]) (fun v s' => (v = .bool (x.cps.toList.all sf)) ∧ Keeps s s') E s := by
  obtain ⟨X, T⟩ := B
  revert X
  k_fill
  intro X
  with_unfolding_all refine' callPC [(Str.ofString "text", .str x t)] ?k1 ?k2 ?k3 ?k4 ?k5 ?k6 ?k7 ?k8 ?k9 ?k10 ?k11 ?_
  w_top off
  walk_at "m_enter"
  k_steps
  all_goals first | exact TestEnd.intro (by k_asm) (by k_asm) (row_not _) | exact EndP.intro (by k_asm) (congrArg Value.bool (all_filter _ _ (by assumption)))
end
end Mine
end
-- part P3
section
open PySem PySem.W PySem.Calls PyProof.Rows
set_option Elab.async false
set_option maxRecDepth 100000
namespace Mine
theorem S_toList (x : Str) : S x.cps.toList = x := rfl
/-- each apostrophe made five signs -/
def esc (cs : List Nat) : List Nat := cs.flatMap fun c => if c = 39 then [39, 34, 39, 34, 39] else [c]
/-- a text quoted -/
def qt (cs : List Nat) : List Nat := if cs ≠ [] ∧ cs.all sf = true then cs else [39] ++ esc cs ++ [39]
/-- a text shown -/
def sh (cs : List Nat) : List Nat := cs.flatMap ctl
theorem esc_append (a b : List Nat) : esc (a ++ b) = esc a ++ esc b := List.flatMap_append
theorem esc_free : ∀ {cs : List Nat}, 39 ∉ cs → esc cs = cs
  | [], _ => rfl
  | c :: r, h => by
    have h1 : c ≠ 39 := fun e => h (e ▸ List.mem_cons_self)
    show (if c = 39 then [39, 34, 39, 34, 39] else [c]) ++ esc r = _
    rw [if_neg h1, esc_free (fun q => h (List.mem_cons_of_mem _ q))]
    rfl
theorem join_esc : ∀ (parts : List Str), (∀ p ∈ parts, 39 ∉ p.cps.toList) → (Str.join (S [39, 34, 39, 34, 39]) parts).cps.toList = esc (Str.join (⟨#[39]⟩ : Str) parts).cps.toList
  | [], _ => rfl
  | [p], h => by
    show p.cps.toList = esc p.cps.toList
    rw [esc_free (h p List.mem_cons_self)]
  | p :: q :: r, h => by
    have ih := join_esc (q :: r) fun a ha => h a (List.mem_cons_of_mem _ ha)
    show (p ++ S [39, 34, 39, 34, 39] ++ Str.join (S [39, 34, 39, 34, 39]) (q :: r)).cps.toList = esc (p ++ (⟨#[39]⟩ : Str) ++ Str.join (⟨#[39]⟩ : Str) (q :: r)).cps.toList
    simp only [Str.cps_append, Array.toList_append]
    rw [ih, esc_append, esc_append, esc_free (h p List.mem_cons_self)]
    rfl
theorem esc_split (x : Str) : Txt.join (S [39, 34, 39, 34, 39]) (Txt.split x (S [39])) = S (esc x.cps.toList) := by
  have h1 := join_esc (Txt.split x (S [39])) (StrLaws.split_free x 39)
  have h2 : Str.join (⟨#[39]⟩ : Str) (Txt.split x (S [39])) = x := StrLaws.join_split x _
  rw [h2] at h1
  show Builtin.Str.glued _ _ = _
  rw [StrLaws.glued_eq_join]
  refine Str.ext' ?_
  rw [S_cps, ← h1]
theorem esc_replace (x : Str) : Txt.replace x (S [39]) (S [39, 34, 39, 34, 39]) = S (esc x.cps.toList) := by
  rw [← esc_split]
  unfold Txt.replace
  show _ = Builtin.Str.glued _ _
  unfold Txt.split
  have k1 : Builtin.Str.strKind (S [39]) = 1 := by decide +kernel
  have k2 : 1 ≤ Builtin.Str.strKind x := by unfold Builtin.Str.strKind; (repeat' split) <;> omega
  have k3 : (S [39]).length = 1 := rfl
  by_cases ho : (Builtin.Str.occurrences x (S [39]) 0 x.length (x.length + 1)).isEmpty = true
  · rw [if_pos (by rw [ho]; rfl), if_pos ho, ite_self]
    rfl
  · have hl : ¬ x.length < 1 := by
      intro hl
      obtain ⟨f, hc⟩ := StrLaws.occ_chain x (S [39]) (x.length + 1)
      cases hq : Builtin.Str.occurrences x (S [39]) 0 x.length (x.length + 1) with
      | nil => rw [hq] at ho; exact ho rfl
      | cons c r =>
        rw [hq] at hc
        have := hc.2.1.1
        omega
    rw [if_neg (by rw [k3]; simpa using ho), if_neg (by rw [Bool.or_eq_true, decide_eq_true_eq, decide_eq_true_eq]; omega), if_neg ho]
theorem lit_apo : Str.ofString "'" = S [39] := by decide +kernel
theorem lit_five : Str.ofString "'\"'\"'" = S [39, 34, 39, 34, 39] := by decide +kernel
theorem lit_two : Str.ofString "''" = S [39, 39] := by decide +kernel
theorem esc_len : ∀ cs : List Nat, (esc cs).length ≤ 5 * cs.length
  | [] => Nat.le_refl _
  | c :: r => by
    have := esc_len r
    show ((if c = 39 then [39, 34, 39, 34, 39] else [c]) ++ esc r).length ≤ _
    rw [List.length_append, List.length_cons]
    split <;> simp <;> omega
theorem qt_len (cs : List Nat) : (qt cs).length ≤ 5 * cs.length + 2 := by
  unfold qt
  split
  · omega
  · have := esc_len cs
    simp only [List.length_append, List.length_cons, List.length_nil]
    omega
theorem sh_len : ∀ cs : List Nat, (sh cs).length ≤ 3 * cs.length
  | [] => Nat.le_refl _
  | c :: r => by
    have := sh_len r
    show (ctl c ++ sh r).length ≤ _
    have h : (ctl c).length ≤ 3 := by unfold ctl; (repeat' split) <;> simp
    rw [List.length_append, List.length_cons]
    omega
end Mine
end
-- part P4
section
open PySem PySem.W PySem.Calls PyProof.Rows
set_option Elab.async false
set_option maxRecDepth 100000
namespace Mine
section
variable {prog : Program} {w : World} {A : Around} {E : Value → Shared → Prop} {s : Shared}
theorem join_step {l : List (Str × Tok)} {D : Addr} {x : Str} {t : Tok} {Q : Value → Shared → Prop} (e : l.map (·.1) = Txt.split x (Str.ofString "'")) (hi : StrsAre (strValues l) (l.map (·.1))) (hl : s.heap.IsList D (strValues l).toArray) (hx : x.cps.size ≤ 100000)
    (h : ∀ t' k, Q (.str (S (esc x.cps.toList)) t') { s with toks := k }) : wpAny (model prog w) A (call (.builtin "str.join") [.str (Str.ofString "'\"'\"'") t, .ref D]) Q E s := by
  rw [e] at hi
  refine join_listW hl hi (by decide) ?_ fun t' k => ?_
  · have := split_weight x (Str.ofString "'") (by decide)
    simp only [Str.length] at this ⊢
    omega
  · rw [lit_five, lit_apo, esc_split]; exact h t' k
theorem add_S {a b : List Nat} {t u : Tok} {Q : Value → Shared → Prop} (ha : a.length ≤ 8000000) (hb : b.length ≤ 8000000) (h : ∀ t' k, Q (.str (S (a ++ b)) t') { s with toks := k }) : wpAny (model prog w) A (binaryOp .Add (.str (S a) t) (.str (S b) u)) Q E s := by
  refine add_str (fun t' k => ?_) (by simp only [S_length, PySem.sizeLine_eq]; omega)
  rw [S_append]; exact h t' k
theorem add_1 {b : List Nat} {t u : Tok} {Q : Value → Shared → Prop} (hb : b.length ≤ 8000000) (h : ∀ t' k, Q (.str (S ([39] ++ b)) t') { s with toks := k }) : wpAny (model prog w) A (binaryOp .Add (.str (Str.ofString "'") t) (.str (S b) u)) Q E s := by
  rw [lit_apo]; exact add_S (by decide) hb h
theorem add_2 {b : List Nat} {t u : Tok} {Q : Value → Shared → Prop} (hb : b.length ≤ 8000000) (h : ∀ t' k, Q (.str (S (b ++ [39])) t') { s with toks := k }) : wpAny (model prog w) A (binaryOp .Add (.str (S b) t) (.str (Str.ofString "'") u)) Q E s := by
  rw [lit_apo]; exact add_S hb (by decide) h
theorem esc_short {x : Str} (hx : x.cps.size ≤ 100000) : (esc x.cps.toList).length ≤ 8000000 := by
  have := esc_len x.cps.toList
  have e := Array.length_toList (xs := x.cps)
  omega
theorem esc_short1 {x : Str} (hx : x.cps.size ≤ 100000) : ([39] ++ esc x.cps.toList).length ≤ 8000000 := by
  have := esc_len x.cps.toList
  have e := Array.length_toList (xs := x.cps)
  rw [List.length_append, List.length_singleton]
  omega
end
variable {x : Str}
theorem nil_iff : x.cps.toList = [] ↔ (x.length : Int) = 0 := by
  rw [← List.length_eq_zero_iff, Array.length_toList]; simp only [Str.length]; omega
theorem q_a (h : (x.length : Int) ≠ 0) (hs : x.cps.toList.all sf = true) : x = S (qt x.cps.toList) := by
  unfold qt; rw [if_pos ⟨fun q => h (nil_iff.mp q), hs⟩]; rfl
theorem q_b (hs : x.cps.toList.all sf = false) : S ([39] ++ esc x.cps.toList ++ [39]) = S (qt x.cps.toList) := by
  unfold qt; rw [if_neg (fun q => by rw [hs] at q; exact Bool.false_ne_true q.2)]
theorem q_c (h : (x.length : Int) = 0) : S ([39] ++ esc x.cps.toList ++ [39]) = S (qt x.cps.toList) := by
  unfold qt; rw [if_neg (fun q => q.1 (nil_iff.mpr h))]
end Mine
end
-- part B6
section
open PySem PySem.W PySem.Calls PyProof.Rows
set_option Elab.async false
set_option maxRecDepth 100000
namespace Mine
local macro_rules | `(tactic| walk_at "m_enter") => `(tactic| ((case k1 => assumption); (case k2 => assumption); (case k3 => (try dsimp only); omega); (case k4 => k_is); (case k5 => k_is); (case k6 => exact rfl); (case k7 => exact locs rfl); (case k8 => exact rfl); (case k9 => exact rfl); (case k10 => exact rfl); (case k11 => decide); (intro L h₁ tk₁ F N; (try dsimp only); (try k_fold))))
section
variable {w : World} {dp un : Nat} {fr : Option (List Env)} {gd : Option (List Code)} {s : Shared} {E : Value → Shared → Prop} {mean : ExcName → Option Value} {mg mb : Str → Option Value}
local macro_rules | `(tactic| walk_at "call ref") => `(tactic| (refine kept_bool (law_safe (by assumption) (Bd.of (by k_asm) (by k_asm) (by k_asm)) (by (try dsimp only [Around.deeper]); omega)) (by k_asm) (by k_asm) ?_; intro h' tk' F' N'; (try dsimp only)))
local macro_rules | `(tactic| walk_at "truthy str") => `(tactic| (refine P.truthy_str (by simp only [Str.length]; omega) ?_; (try dsimp only)))
local macro_rules | `(tactic| walk_at "call builtin:str.join") => `(tactic| (refine join_step (by assumption) (by assumption) (by assumption) (by assumption) ?_; intro t' k'; (try dsimp only)))
local macro_rules | `(tactic| walk_at "binaryOp Add str str") => `(tactic| ((first | refine add_1 (esc_short (by assumption)) ?_ | refine add_2 (esc_short1 (by assumption)) ?_); intro t' k'; (try dsimp only)))
set_option maxHeartbeats 8000000 in
theorem law_quoted {x : Str} {t : Tok} (hx : x.cps.size ≤ 100000) (B : Bd w mean mg mb s.heap) (hroom : dp + 4 < recursionLimit) :
    wpAny (model PySem.Challenge.rw_mg0014_01.row.prog w) (Around.mk none dp fr gd un) (call (.ref 84) [.str x t]) (fun v s' => (∃ t, v = .str (S (qt x.cps.toList)) t) ∧ Keeps s s') E s := by
  obtain ⟨X, T⟩ := B
  revert X
  k_fill
  intro X
  with_unfolding_all refine' callP [(Str.ofString "text", .str x t)] ?k1 ?k2 ?k3 ?k4 ?k5 ?k6 ?k7 ?k8 ?k9 ?k10 ?k11 ?_
  w_top off
  walk_at "m_enter"
  k_steps
  all_goals refine EndP.intro (by k_asm) ⟨_, congrArg (fun x => Value.str x _) ?_⟩
  all_goals first | exact q_a (by assumption) (by assumption) | exact q_b (by assumption) | exact q_c (by assumption)
end
end Mine
end
-- part R2
section
open PySem PySem.W PySem.Calls PyProof.Rows PySem.Sre
set_option Elab.async false
set_option maxRecDepth 100000
namespace Mine
theorem runFor_done (m : M) (n : Nat) (o : Sre.Outcome) (h : m.outcome = some o) : M.runFor n m = m := by
  cases n with
  | zero => rfl
  | succ n => unfold M.runFor; rw [h]; rfl
theorem runFor_step (m : M) (n : Nat) (h : m.outcome = none) : M.runFor (n + 1) m = M.runFor n m.step := by
  show (if m.outcome.isSome = true then m else M.runFor n m.step) = _
  rw [h]; rfl
theorem step_exec (m : M) (ho : m.outcome = none) (ha : m.answer = none) (hp : m.pc < m.code.size) : m.step = m.exec := by
  unfold M.step
  rw [ho, ha]
  show (if m.pc < m.code.size then m.exec else _) = _
  rw [if_pos hp]
/-- a machine that says no: one step -/
theorem run_no (m : M) (ho : m.outcome = none) (ha : m.answer = some false) (hf : m.frames = []) : ((M.runFor 4 m).outcome) = some .failed := by
  rw [runFor_step m 3 ho]
  have : m.step = { m with outcome := some .failed } := by
    unfold M.step
    rw [ho, ha, hf]; rfl
  rw [this, runFor_done _ 3 .failed rfl]
/-- a machine at the set, its sign unsafe: four steps -/
theorem run_yes (m : M) (f : Sre.Frame) (ho : m.outcome = none) (ha : m.answer = none) (hc : m.code = rc) (hp : m.pc = 18) (hl : m.pos < m.lim) (hs : sf (m.text.getD m.pos 0) = false) (hw : m.wholeText = false) (hm : m.mustAdvance = false)
    (hf : m.frames = [f]) (hfw : f.wait = .nextStart) : ((M.runFor 4 m).outcome) = some .matched := by
  obtain ⟨code, text, lim, start, lastStart, wholeText, mustAdvance, pc, pos, handed, outermost, marks, lastmark, lastindex, loops, inner, frames, weight, answer, seen, outcome⟩ := m
  obtain ⟨wait, fpc, fpos, fout, fcount, fkept, floop, fbegan⟩ := f
  dsimp only at *
  subst ho ha hc hp hw hm hf hfw
  obtain ⟨seen', q⟩ := in_body (text.getD pos 0) 30 (seen.add 13)
  rw [hs] at q
  have q' : accepts rc 18 (text.getD pos 0) (seen.add 13) = .ok (true, seen') := q
  rw [runFor_step _ 3 rfl]
  generalize hm1 : M.step _ = m1
  have e1 : m1 = { code := rc, text, lim, start, lastStart, wholeText := false, mustAdvance := false, pc := 33, pos := pos + 1, handed, outermost, marks, lastmark, lastindex, loops, inner, frames := [⟨.nextStart, fpc, fpos, fout, fcount, fkept, floop, fbegan⟩], weight, answer := none, seen := seen', outcome := none } := by
    rw [← hm1, step_exec _ rfl rfl (show 18 < rc.size by decide)]
    show (if pos ≥ lim then _ else match accepts rc 18 (text.getD pos 0) (seen.add 13) with | .error why => _ | .ok (false, seen) => _ | .ok (true, seen) => _) = _
    rw [if_neg (by omega), q']
    rfl
  subst e1
  clear hm1
  rw [runFor_step _ 2 rfl]
  generalize hm2 : M.step _ = m2
  have e2 : m2 = { code := rc, text, lim, start, lastStart, wholeText := false, mustAdvance := false, pc := 33, pos := pos + 1, handed := pos + 1, outermost, marks, lastmark, lastindex, loops, inner, frames := [⟨.nextStart, fpc, fpos, fout, fcount, fkept, floop, fbegan⟩], weight, answer := some true, seen := seen'.add 1, outcome := none } := by
    rw [← hm2, step_exec _ rfl rfl (show 33 < rc.size by decide)]
    show (if (outermost && ((false && (pos + 1 != lim)) || (false && (pos + 1 == start)))) = true then _ else _) = _
    rw [Bool.false_and, Bool.false_and, Bool.or_false, Bool.and_false, if_neg Bool.false_ne_true]
    rfl
  subst e2
  clear hm2
  rw [runFor_step _ 1 rfl]
  rfl
/-- what the search's machine is -/
def fresh0 (text : Array Nat) : M :=
  { code := rc, text := text, lim := text.size, start := 0, pc := 18, pos := 0, handed := 0, marks := #[], lastStart := text.size, seen := ({} : Sre.Seen).add 14 }
theorem search_is (text : Array Nat) (h : 0 < text.size) : forSearch rc text 0 0 text.size false = (fresh0 text).attemptFrom 0 true := by
  unfold forSearch
  show (if (decide (0 > text.size) || decide (text.size - 0 < 1)) = true then _ else _) = _
  have h1 : decide (0 > text.size) = false := by simp
  have h2 : decide (text.size - 0 < 1) = false := by rw [decide_eq_false_iff_not]; omega
  rw [h1, h2, if_neg (by decide)]
  rfl
theorem search_run (text : Array Nat) (h : 0 < text.size) : ((M.runFor 4 (forSearch rc text 0 0 text.size false)).outcome) = some (if text.toList.all sf = true then .failed else .matched) := by
  rw [search_is text h]
  have hfs : (fresh0 text).hasFirstSet = true := rfl
  unfold M.attemptFrom
  rw [hfs]
  simp only [Bool.not_true, Bool.false_eq_true, if_false]
  rcases admitted_is (fresh0 text) rfl ((fresh0 text).lim + 1 - 0) 0 (fresh0 text).seen (by omega) with ⟨s', e, hh⟩ | ⟨j, s', e, h1, h2, h3⟩
  · rw [e, run_no _ rfl rfl rfl, if_pos]
    refine List.all_eq_true.mpr fun c hc => ?_
    obtain ⟨i, hi, rfl⟩ := List.getElem_of_mem hc
    have hi' : i < text.size := by simpa using hi
    have := hh i (Nat.zero_le _) hi'
    rw [show (fresh0 text).text.getD i 0 = text.toList[i] from by show text.getD i 0 = _; simp [hi']] at this
    exact this
  · rw [e, if_neg]
    · refine run_yes _ { wait := .nextStart, pc := 18, pos := j, outermost := true } ?_ ?_ ?_ ?_ ?_ ?_ ?_ ?_ ?_ ?_ <;> first | rfl | assumption
    · intro q
      have hj : j < text.size := h2
      have := List.all_eq_true.mp q text[j] (by simp)
      have e2 : (fresh0 text).text.getD j 0 = text[j] := by show text.getD j 0 = _; simp [hj]
      rw [e2, this] at h3
      cases h3
end Mine
end
-- part R3
section
open PySem PySem.W PySem.Calls PyProof.Rows PySem.Builtin PySem.Builtin.Re
set_option Elab.async false
set_option maxRecDepth 100000
namespace Mine
theorem sub_pat : isSubtype (.type "re.Pattern") (.type "module") = pure false := by rw [isSubtype_type]; kernel_rfl
theorem entry_se : entryFor table "re.Pattern.search" = some Builtin.«re.Pattern.search» := entryFor_of_tree (by kernel_rfl)
theorem quiet_se {as : Args} : (Code.builtin "re.Pattern.search" as).quiet = true := Code.quiet_builtin _ (by decide +kernel)
def patO : Obj := { cls := .type "re.Pattern", data := .fields #[.str (Str.ofString "[^\\w@%+=:,./-]") 310, .int 256 347, .int 0 0, .none, .none, .ref 56, .int 0 0] }
def bndO : Obj := { cls := .type "builtin_function_or_method", data := .fields #[.builtin "re.Pattern.search", .ref 57] }
def rcV : Array Value := #[.int 14 0, .int 17 0, .int 4 0, .int 1 0, .int 1 0, .int 21 0, .int 9 0, .int 0 0, .int 604043296 0, .int 1 0, .int 0 0, .int 0 0, .int 0 0, .int 0 0, .int 0 0, .int 8 0, .int 4 0, .int 0 0, .int 13 0, .int 14 0, .int 21 0, .int 9 0, .int 0 0, .int 604043296 0, .int 1 0, .int 0 0, .int 0 0, .int 0 0, .int 0 0, .int 0 0, .int 8 0, .int 4 0, .int 0 0, .int 1 0]
def codeO : Obj := { cls := .type "tuple", data := .seq rcV }
theorem rc_of : (rcV.map reRawOf).map (·.toNat) = rc := by decide +kernel
def sigS : Manifest.Signature := ⟨.keywords, "Pattern.search", "search", .self, [⟨"string", .posOrKw, true⟩, ⟨"pos", .posOrKw, false⟩, ⟨"endpos", .posOrKw, false⟩]⟩
theorem sig_se : Manifest.signature? "re.Pattern.search" = some sigS := by kernel_rfl
theorem kind_se : builtinKind "re.Pattern.search" = some .method := by kernel_rfl
section
variable {prog : Program} {w : World} {M : Model} {A : Around} {E : Value → Shared → Prop} {s : Shared}
theorem args_se (a b : Value) : Bind.checkArgs "re.Pattern.search" { sigS with full := s!"{Bind.lastOf "re.Pattern"}.{Bind.lastOf "re.Pattern.search"}" } ⟨[a, b], []⟩ = pure () := by kernel_rfl
theorem check_se {x : Str} {t : Tok} {Q : Unit → Shared → Prop} (h57 : s.heap.get? 57 = some patO) (h : Q () s) : wpAny M A (checkBoundCall "re.Pattern.search" ⟨[.ref 57, .str x t], []⟩) Q E s := by
  unfold checkBoundCall
  rw [sig_se]
  simp only [kind_se]
  have hT : s.TypeIs (.ref 57) "re.Pattern" := ⟨patO, h57, rfl⟩
  rw [if_neg (by decide)]
  refine wpAny_bind (wpAny_isInstance hT sub_pat ?_)
  rw [if_neg (by decide +kernel)]
  refine wpAny_bind ?_
  unfold isType
  refine wpAny_bind (wpAny_loadPart h57 (wpAny_pure ?_))
  rw [if_neg (by decide)]
  refine wpAny_bind (wpAny_typeOf hT ?_)
  exact wpAny_of_eq (args_se _ _) h
end
end Mine
end
-- part R4
section
open PySem PySem.W PySem.Calls PyProof.Rows PySem.Builtin PySem.Builtin.Re
set_option Elab.async false
set_option maxRecDepth 100000
namespace Mine
section
variable {prog : Program} {w : World} {M : Model} {A : Around} {E : Value → Shared → Prop} {s : Shared}
theorem named_se (v : Value) : reNamed "re.Pattern.search" "search" ["string", "pos", "endpos"] 1 [v] [] = pure [some v, none, none] := by kernel_rfl
theorem target_se {x : Str} {t : Tok} {Q : ReTarget → Shared → Prop} (h57 : s.heap.get? 57 = some patO) (h56 : s.heap.get? 56 = some codeO) (hx : x.cps.size ≤ 100000)
    (h : Q { pattern := .ref 57, string := .str x t, code := rc, text := x.cps, kind := 0, groups := 0, pos := 0, lim := x.cps.size } s) :
    wpAny M A (reTarget "re.Pattern.search" "search" ⟨[.ref 57, .str x t], []⟩) Q E s := by
  unfold reTarget
  dsimp only
  refine wpAny_bind (wpAny_of_eq (named_se _) ?_)
  dsimp only
  refine wpAny_bind (wpAny_pure ?_)
  refine wpAny_bind (wpAny_pure ?_)
  refine wpAny_bind (wpAny_fieldsOf h57 rfl ?_)
  refine wpAny_bind (wpAny_of_eq (a := (x.cps, 0)) rfl ?_)
  dsimp only
  rw [if_neg (by decide), if_neg (by decide)]
  refine wpAny_bind (wpAny_of_eq (a := ()) rfl ?_)
  refine wpAny_bind ?_
  unfold reRawItems
  refine wpAny_bind (wpAny_seqItems h56 rfl ?_)
  refine wpAny_pure (wpAny_pure ?_)
  have e1 : min (2 ^ 63 - 1 : Int).toNat x.cps.size = x.cps.size := by
    rw [Nat.min_eq_right]
    have : (2 ^ 63 - 1 : Int).toNat = 9223372036854775807 := by decide
    omega
  have e2 : min (0 : Int).toNat x.cps.size = 0 := Nat.zero_min _
  rw [e1, e2]
  show Q { pattern := .ref 57, string := .str x t, code := (rcV.map reRawOf).map (·.toNat), text := x.cps, kind := 0, groups := 0, pos := 0, lim := x.cps.size } s
  rw [rc_of]
  exact h
theorem drive_se (m : Sre.M) (o : Sre.Outcome) (h : (m.runFor 4).outcome = some o) : reDrive (2 ^ 64) m = pure (m.runFor 4) := by
  show (if ((m.runFor reTurnSteps).outcome.isSome) = true then pure (m.runFor reTurnSteps) else _) = _
  rw [show reTurnSteps = 4 from rfl, h]
  rfl
theorem end_se (m : Sre.M) (b : Bool) (h : (m.runFor 4).outcome = some (if b = true then .failed else .matched)) {Q : Option Sre.M → Shared → Prop} (hq : Q (if b = true then none else some (m.runFor 4)) s) : wpAny M A (reRunToEnd m) Q E s := by
  unfold reRunToEnd
  refine wpAny_bind (wpAny_of_eq (drive_se m _ h) ?_)
  refine wpAny_bind (wpAny_forIn_list _ (fun _ _ s' => s' = s) _ ?_ ?_ _ _ rfl)
  · intro i rest u s' e
    subst e
    split
    · refine wpAny_bind (wpAny_rule (wpAny_pure ?_)); rfl
    · exact wpAny_pure rfl
  · intro u s' e
    subst e
    rw [h]
    cases b
    · exact wpAny_pure hq
    · exact wpAny_pure hq
theorem new_se {x : Str} {t : Tok} (m : Sre.M) (lim : Nat) {Q : Value → Shared → Prop} (h : ∀ s' a, Keeps s s' → Q (.ref a) s') : wpAny M A (reNewMatch (.ref 57) (.str x t) 0 0 lim m) Q E s := by
  unfold reNewMatch
  dsimp only
  refine KFB.if_not rfl ?_
  refine wpAny_bind (wpAny_newTuple ?_ (by rw [sizeLine_eq]; exact Nat.le_of_ble_eq_true rfl))
  refine wpAny_newObj_type ?_ (by show _ ≤ sizeLine + 2; rw [sizeLine_eq]; exact Nat.le_of_ble_eq_true rfl)
  exact h _ _ ⟨_, _, rfl, fun b o e => Heap.get?_push_of_some _ (Heap.get?_push_of_some _ e)⟩
theorem tree_se {x : Str} {t : Tok} {P : Fin → Shared → Prop} (h57 : s.heap.get? 57 = some patO) (h56 : s.heap.get? 56 = some codeO) (h0 : 0 < x.cps.size) (hx : x.cps.size ≤ 100000)
    (hno : x.cps.toList.all sf = true → P (.done (.ret .none)) s) (hyes : x.cps.toList.all sf = false → ∀ s' a, Keeps s s' → P (.done (.ret (.ref a))) s') :
    wpAny M A (Builtin.«re.Pattern.search» ⟨[.ref 57, .str x t], []⟩) P E s := by
  unfold Builtin.«re.Pattern.search»
  refine wpAny_bind (target_se h57 h56 hx ?_)
  unfold reAnswer
  refine wpAny_bind (end_se _ (x.cps.toList.all sf) (search_run x.cps h0) ?_)
  cases hb : x.cps.toList.all sf with
  | true => exact wpAny_pure (hno hb)
  | false => exact wpAny_bind (new_se _ _ fun s' a k => wpAny_pure (hyes hb s' a k))
theorem find_unsafe {x : Str} {t : Tok} (h58 : s.heap.get? 58 = some bndO) (h57 : s.heap.get? 57 = some patO) (h56 : s.heap.get? 56 = some codeO) (h0 : 0 < x.cps.size) (hx : x.cps.size ≤ 100000) :
    wpAny (model prog w) A (call (.ref 58) [.str x t]) (fun v s' => (if x.cps.toList.all sf = true then v = .none else ∃ a, v = .ref a) ∧ Keeps s s') E s := by
  refine wpAny_call (codeAny_of_tree ?_)
  show wpAny _ A.in1 (callAny (.ref 58) ⟨[.str x t], []⟩) _ _ s
  simp only [callAny]
  refine wpAny_bind (wpAny_load h58 ?_)
  simp only [bndO, show (Value.type "builtin_function_or_method" == Value.type "method" || Value.type "builtin_function_or_method" == Value.type "builtin_function_or_method" || Value.type "builtin_function_or_method" == Value.type "method-wrapper") = true by decide, if_true]
  refine KFB.if_so (by decide) ?_
  refine wpAny_bind (check_se h57 ?_)
  refine wpAny_bind (wpAny_pure (wpAny_pure ?_))
  refine ⟨quiet_se, codeAny_builtin entry_se (tree_se h57 h56 h0 hx (fun h => ?_) fun h s' a k => ?_)⟩
  · show (if x.cps.toList.all sf = true then Value.none = .none else _) ∧ _
    rw [if_pos h]; exact ⟨rfl, s.heap, s.toks, rfl, fun _ _ e => e⟩
  · show (if x.cps.toList.all sf = true then _ else ∃ b, Value.ref a = .ref b) ∧ _
    rw [if_neg (by rw [h]; exact Bool.false_ne_true)]; exact ⟨⟨a, rfl⟩, k⟩
end
end Mine
end
-- part R5
section
open PySem PySem.W PySem.Calls PyProof.Rows
set_option Elab.async false
set_option maxRecDepth 100000
namespace Mine
/-- the search's own objects stand -/
def St58 (h : Heap) : Prop := h.get? 58 = some bndO ∧ h.get? 57 = some patO ∧ h.get? 56 = some codeO
theorem st58 {w : World} {h₀ h : Heap} {L : Addr} {m : Str → Option Value} (F : Fr h₀ L h m) (X : (hd.heap_39 w.params).In h₀) : St58 h :=
  ⟨X.keeps F.keep _ _ rfl, X.keeps F.keep _ _ rfl, X.keeps F.keep _ _ rfl⟩
section
variable {prog : Program} {w : World} {M : Model} {A : Around} {E : Value → Shared → Prop} {s : Shared} {h₀ : Heap} {L : Addr} {m : Str → Option Value} {news : List (Addr × Obj)}
theorem keep58 (h : Heap) (X : St58 h) : ∃ k, (k = Keeper.frame ∨ k = Keeper.machine ∨ k = Keeper.boundFrame) ∧ Looks M h (keeperOf (.ref 58)) k :=
  ⟨.machine, .inr (.inl rfl), (Looks.ld (part := none) X.1).andThen (by with_unfolding_all exact .now)⟩
/-- a call of the bound search with plain arguments -/
theorem callWith_58 {pos : Pos} {first : List Value} {env : Env} {e : Expr} {rest : List Expr} {Q : Value → Shared → Prop}
    (h : wpAny M A (spliced (backTo pos (starEach (e :: rest) env))) (fun vs s₁ => St58 s₁.heap ∧ wpAny M A (call (.ref 58) (first ++ vs)) Q E s₁) E s)
    (he : starEach (e :: rest) env = (false, eval e env) :: starEach rest env := by rfl) (hp : ((backTo pos ((false, eval e env) :: starEach rest env)).any (·.1) || false) = false := by rfl) :
    wpAny M A (callWith pos (.ref 58) first (backTo pos (starEach (e :: rest) env)) []) Q E s :=
  callWith_of (by rw [he]; exact hp) keep58 (by rw [he] at h ⊢; exact evalArgs_plain h)
theorem find_step {x : Str} {t : Tok} {Q : Value → Shared → Prop} (F : Fr h₀ L s.heap m) (N : News h₀ L s.heap news) (X : (hd.heap_39 w.params).In h₀) (h0 : (x.length : Int) ≠ 0) (hx : x.cps.size ≤ 100000)
    (h1 : x.cps.toList.all sf = true → ∀ h' tk', Fr h₀ L h' m → News h₀ L h' news → Q .none { s with heap := h', toks := tk' })
    (h2 : x.cps.toList.all sf = false → ∀ a h' tk', Fr h₀ L h' m → News h₀ L h' news → Q (.ref a) { s with heap := h', toks := tk' }) :
    wpAny (model prog w) A (call (.ref 58) [.str x t]) Q E s := by
  obtain ⟨a58, a57, a56⟩ := st58 F X
  refine wpAny_mono (find_unsafe a58 a57 a56 (by simp only [Str.length] at h0; omega) hx) (fun v s' hq => ?_) fun _ _ e => e
  obtain ⟨hv, h', tk', rfl, hk⟩ := hq
  cases hb : x.cps.toList.all sf with
  | true => rw [if_pos hb] at hv; subst hv; exact h1 hb _ _ (F.keeps hk) (N.grown hk)
  | false => rw [if_neg (by rw [hb]; exact Bool.false_ne_true)] at hv; obtain ⟨a, rfl⟩ := hv; exact h2 hb _ _ _ (F.keeps hk) (N.grown hk)
end
end Mine
end
-- part B7
section
open PySem PySem.W PySem.Calls PyProof.Rows
set_option Elab.async false
set_option maxRecDepth 100000
namespace Mine
local macro_rules | `(tactic| walk_at "m_enter") => `(tactic| ((case k1 => assumption); (case k2 => assumption); (case k3 => (try dsimp only); omega); (case k4 => k_is); (case k5 => k_is); (case k6 => exact rfl); (case k7 => exact locs rfl); (case k8 => exact rfl); (case k9 => exact rfl); (case k10 => exact rfl); (case k11 => decide); (intro L h₁ tk₁ F N; (try dsimp only); (try k_fold))))
section
variable {prog : Program} {w : World} {A : Around} {E : Value → Shared → Prop} {s : Shared}
theorem replace_step {x : Str} {t u v : Tok} {Q : Value → Shared → Prop} (hu : u ≠ 0) (hv : v ≠ 0) (huv : u ≠ v) (hx : x.cps.size ≤ 100000)
    (h : ∀ t' k, Q (.str (S (esc x.cps.toList)) t') { s with toks := k }) : wpAny (model prog w) A (call (.builtin "str.replace") [.str x t, .str (Str.ofString "'") u, .str (Str.ofString "'\"'\"'") v]) Q E s := by
  refine SC.replaceW hu hv huv (by decide +kernel) (by simp only [Str.length]; omega) (by decide) fun t' k => ?_
  rw [lit_five, lit_apo, esc_replace]; exact h t' k
theorem q_d {x : Str} (h : (x.length : Int) = 0) : Str.ofString "''" = S (qt x.cps.toList) := by
  rw [nil_iff.mpr h]; decide +kernel
end
section
variable {w : World} {dp un : Nat} {fr : Option (List Env)} {gd : Option (List Code)} {s : Shared} {E : Value → Shared → Prop} {mean : ExcName → Option Value} {mg mb : Str → Option Value}
local macro_rules | `(tactic| walk_at "truthy str") => `(tactic| (refine P.truthy_str (by simp only [Str.length]; omega) ?_; (try dsimp only)))
local macro_rules | `(tactic| walk_at "callWith ref") => `(tactic| (refine callWith_58 ?_))
local macro_rules | `(tactic| walk_at "And") => `(tactic| (refine ⟨st58 (by k_asm) (by k_asm), ?_⟩; (try dsimp only [List.nil_append])))
local macro_rules | `(tactic| walk_at "call ref") => `(tactic| (refine find_step (by k_asm) (by k_asm) (by k_asm) (by assumption) (by assumption) (fun hb' h' tk' F' N' => ?_) (fun hb' a' h' tk' F' N' => ?_); (all_goals (try dsimp only))))
local macro_rules | `(tactic| walk_at "binaryOp Add str str") => `(tactic| ((first | refine add_1 (esc_short (by assumption)) ?_ | refine add_2 (esc_short1 (by assumption)) ?_); intro t' k'; (try dsimp only)))
local macro_rules | `(tactic| walk_at "call builtin:str.replace") => `(tactic| (refine replace_step (Nat.succ_ne_zero _) (Nat.succ_ne_zero _) (Nat.ne_of_lt (Nat.lt_succ_self _)) (by assumption) ?_; intro t' k'; (try dsimp only)))
set_option maxHeartbeats 8000000 in
theorem quote_is {x : Str} {t : Tok} (hx : x.cps.size ≤ 100000) (B : Bd w mean mg mb s.heap) (hroom : dp + 4 < recursionLimit) :
    wpAny (model PySem.Challenge.rw_mg0014_01.row.prog w) (Around.mk none dp fr gd un) (call (.ref 65) [.str x t]) (fun v s' => (∃ t, v = .str (S (qt x.cps.toList)) t) ∧ Keeps s s') E s := by
  obtain ⟨X, T⟩ := B
  revert X
  k_fill
  intro X
  with_unfolding_all refine' callP [(Str.ofString "s", .str x t)] ?k1 ?k2 ?k3 ?k4 ?k5 ?k6 ?k7 ?k8 ?k9 ?k10 ?k11 ?_
  w_top off
  walk_at "m_enter"
  k_steps
  all_goals refine EndP.intro (by k_asm) ⟨_, congrArg (fun x => Value.str x _) ?_⟩
  all_goals first | exact q_a (by assumption) (by assumption) | exact q_b (by assumption) | exact q_d (by assumption)
end
end Mine
end
-- part B8
section
open PySem PySem.W PySem.Calls PyProof.Rows
set_option Elab.async false
set_option maxRecDepth 100000
namespace Mine
local macro_rules | `(tactic| walk_at "m_enter") => `(tactic| ((case k1 => assumption); (case k2 => assumption); (case k3 => (try dsimp only); omega); (case k4 => k_is); (case k5 => k_is); (case k6 => exact rfl); (case k7 => exact locs rfl); (case k8 => exact rfl); (case k9 => exact rfl); (case k10 => exact rfl); (case k11 => decide); (intro L h₁ tk₁ F N; (try dsimp only); (try k_fold))))
/-- a sign that tempts -/
def tp (c : Nat) : Bool := c != 39 && c % 128 == 39
def gapF (cs : List Nat) : Int := 4 * ((cs.filter tp).length : Int) - (if (!(cs.all sf) && (sh cs).all sf) = true then 2 else 0)
theorem sh_short {x : Str} (hx : x.cps.size ≤ 30000) : (S (sh x.cps.toList)).cps.size ≤ 100000 := by
  have := sh_len x.cps.toList
  have e := Array.length_toList (xs := x.cps)
  show (sh x.cps.toList).toArray.size ≤ _
  rw [List.size_toArray]
  omega
section
variable {x : Str}
theorem g_a (h : x.cps.toList.all sf = true) : 4 * ((x.cps.toList.filter tp).length : Int) - 0 = gapF x.cps.toList := by
  unfold gapF; rw [h]; rfl
theorem g_b (h : x.cps.toList.all sf = false) (h2 : (S (x.cps.toList.flatMap ctl)).cps.toList.all sf = true) : 4 * ((x.cps.toList.filter tp).length : Int) - 2 = gapF x.cps.toList := by
  have h3 : (sh x.cps.toList).all sf = true := h2
  unfold gapF; rw [h, h3]; rfl
theorem g_c (h2 : (S (x.cps.toList.flatMap ctl)).cps.toList.all sf = false) : 4 * ((x.cps.toList.filter tp).length : Int) - 0 = gapF x.cps.toList := by
  have h3 : (sh x.cps.toList).all sf = false := h2
  unfold gapF; rw [h3, Bool.and_false]; rfl
end
section
variable {prog : Program} {w : World} {A : Around} {E : Value → Shared → Prop} {s : Shared} {h₀ : Heap} {L : Addr} {news : List (Addr × Obj)}
theorem len_step {D : Addr} {ys : List Value} {k : Nat} {Q : Value → Shared → Prop} (N : News h₀ L s.heap news) (hm : (D, LCg.lst ys) ∈ news) (hy : ys.length = k) (hk : k ≤ 100000)
    (h : ∀ t' tk', Q (.int (k : Int) t') { s with toks := tk' }) : wpAny (model prog w) A (call (.builtin "len") [.ref D]) Q E s := by
  refine len_list (News.isList N hm) (by rw [List.size_toArray]; omega) ?_
  rw [List.size_toArray, hy]
  exact h _ _
theorem filter_short {x : Str} (q : Nat → Bool) (hx : x.cps.size ≤ 30000) : (x.cps.toList.filter q).length ≤ 100000 := by
  have := List.length_filter_le q x.cps.toList
  have e := Array.length_toList (xs := x.cps)
  omega
theorem one_ne {c : Nat} : ((⟨#[c]⟩ : Str) != Str.ofString "'") = (c != 39) := by
  rw [lit_apo, S_one]
  by_cases h : c = 39
  · subst h; decide +kernel
  · rw [show (c != 39) = true from by simpa using h]
    refine bne_iff_ne.mpr fun q => h ?_
    have := S_inj q
    simpa using this
theorem t_yes {c : Nat} (h : ((⟨#[c]⟩ : Str) != Str.ofString "'") = true) (h2 : (c : Int).fmod 128 = 39) : true = tp c := by
  rw [one_ne] at h
  rw [fm_low] at h2
  unfold tp
  rw [h, Bool.true_and, eq_comm, beq_iff_eq]
  omega
theorem t_no {c : Nat} (h2 : (c : Int).fmod 128 ≠ 39) : false = tp c := by
  rw [fm_low] at h2
  unfold tp
  rw [eq_comm, Bool.and_eq_false_iff]
  refine .inr (beq_eq_false_iff_ne.mpr ?_)
  omega
theorem t_apo {c : Nat} (h : ((⟨#[c]⟩ : Str) != Str.ofString "'") = false) : false = tp c := by
  rw [one_ne] at h
  unfold tp
  rw [h, Bool.false_and]
end
section
variable {w : World} {dp un : Nat} {fr : Option (List Env)} {gd : Option (List Code)} {s : Shared} {E : Value → Shared → Prop} {mean : ExcName → Option Value} {mg mb : Str → Option Value}
local macro_rules | `(tactic| walk_at "exec Assign cons ListComp") => `(tactic| (k_dflt (refine Assign_ListComp_ST (by k_asm) (by k_asm) (by rfl) (by rfl) (by with_unfolding_all rfl) (by with_unfolding_all rfl) (by decide) (by rfl) (by decide) (by rfl) (by rfl) (by rfl) (fun s' Q' es' hQ => by subst es'; exact ld (by k_asm) (by exact rfl) hQ) (by rw [PySem.sizeLine_eq]; omega) (fun g' => rest_filter tp (fun _ => rfl) (fun _ => rfl) (by decide) (fun c' u' I' oI' C' oC' D' m' ys' h' tk' E' hc' hC' hx' F' N' off' ne' => ?_) (fun ys' hys' D' h' tk' F' N' o1' => ?_))); (all_goals (try dsimp only))))
local macro_rules | `(tactic| walk_at "call ref") => `(tactic| ((first
  | (refine kept_bool (law_safe (by first | omega | exact sh_short (by assumption)) (Bd.of (by k_asm) (by k_asm) (by k_asm)) (by (try dsimp only [Around.deeper]); omega)) (by k_asm) (by k_asm) ?_; intro h' tk' F' N')
  | (refine kept_str (law_shown (by omega) (Bd.of (by k_asm) (by k_asm) (by k_asm)) (by (try dsimp only [Around.deeper]); omega)) (by k_asm) (by k_asm) ?_; intro u' h' tk' F' N')); (try dsimp only)))
local macro_rules | `(tactic| walk_at "call builtin:len") => `(tactic| (refine len_step (by k_asm) (by k_mem) (by assumption) (filter_short _ (by assumption)) ?_; intro t' tk'; (try dsimp only)))
set_option maxHeartbeats 8000000 in
theorem law_gap {x : Str} {t : Tok} (hx : x.cps.size ≤ 30000) (B : Bd w mean mg mb s.heap) (hroom : dp + 4 < recursionLimit) :
    wpAny (model PySem.Challenge.rw_mg0014_01.row.prog w) (Around.mk none dp fr gd un) (call (.ref 113) [.str x t]) (fun v s' => (∃ t, v = .int (gapF x.cps.toList) t) ∧ Keeps s s') E s := by
  obtain ⟨X, T⟩ := B
  revert X
  k_fill
  intro X
  with_unfolding_all refine' callP [(Str.ofString "text", .str x t)] ?k1 ?k2 ?k3 ?k4 ?k5 ?k6 ?k7 ?k8 ?k9 ?k10 ?k11 ?_
  w_top off
  walk_at "m_enter"
  k_steps
  all_goals try (refine TestEnd.intro (by k_asm) (by k_asm) ?_; first | exact t_yes (by assumption) (by assumption) | exact t_no (by assumption) | exact t_apo (by assumption))
  all_goals refine EndP.intro (by k_asm) ⟨_, congrArg (fun x => Value.int x _) ?_⟩
  all_goals first | exact g_a (by assumption) | exact g_b (by assumption) (by assumption) | exact g_c (by assumption)
end
end Mine
end
-- part P5
section
open PySem PySem.W PySem.Calls PyProof.Rows
set_option Elab.async false
set_option maxRecDepth 100000
namespace Mine
/-- f, so many times -/
def itr (f : List Nat → List Nat) : Nat → List Nat → List Nat
  | 0, c => c
  | i + 1, c => f (itr f i c)
section
variable {prog : Program} {w : World} {A : Around} {E : Value → Shared → Prop} {s : Shared} {env : Env} {h₀ : Heap} {x : Str} {body : List Stmt} {Q : Flow → Shared → Prop}
theorem iterRange_it {r : Addr} {a₀ b₀ : Int} {t₀ u₀ v₀ : Tok} {n : Nat} {m₀ : Str → Option Value} {news : List (Addr × Obj)} {y : Str} {c₀ : List Nat} {tc : Tok} (f : List Nat → List Nat)
    (hh : A.handled = none) (hr : IsRange s.heap r a₀ b₀ 1 t₀ u₀ v₀) (hsmall : Builtin.Range.small a₀ b₀ 1 = true) (hn : Builtin.Range.rangeSize a₀ b₀ 1 = (n : Int)) (F : Fr h₀ env.locals s.heap m₀) (N : News h₀ env.locals s.heap news) (hy : m₀ y = some (.str (S c₀) tc))
    (turn : ∀ i k t ta h tk own, i < n → OwnOff own (news.map (·.1)) → Fr h₀ env.locals h (fun z => if z = x then some (.int k t) else if z = y then some (.str (S (itr f i c₀)) ta) else m₀ z) → News h₀ env.locals h (news ++ own) →
      wpAny (model prog w) A (execs body env) (InvPostN h₀ env.locals (fun m' nx => nx = news ∧ (∃ t', m' y = some (.str (S (itr f (i + 1) c₀)) t')) ∧ ∀ z, z ≠ x → z ≠ y → m' z = m₀ z) own (news.map (·.1)) { s with heap := h, toks := tk } Q) E { s with heap := h, toks := tk })
    (done : ∀ (u : Str → Option Value) t h tk, Fr h₀ env.locals h (fun z => if z = x then u z else if z = y then some (.str (S (itr f n c₀)) t) else m₀ z) → News h₀ env.locals h news → Q .next { s with heap := h, toks := tk }) :
    wpAny (model prog w) A (pyIter (.ref r)) (fun it s₂ => LoopAtV prog w A h₀ env x body Q E it s₂) E s := by
  have out : ∀ p ∈ news, p.1 ∉ [s.heap.objs.size] := fun p hp => by simpa using N.apart p hp
  have new_ : ∀ b ∈ [s.heap.objs.size], h₀.get? b = none := by simpa using F.fresh
  have far : env.locals ∉ [s.heap.objs.size] := by simpa using Nat.ne_of_lt F.ns.lt
  refine wpAny_pyIter_range hr hsmall (loop_invN (fun i m nx => nx = news ∧ (∃ t, m y = some (.str (S (itr f i c₀)) t)) ∧ ∀ z, z ≠ x → z ≠ y → m z = m₀ z)
    (Walks.range hh _ a₀ 1 n) far new_ out out (hst := ?_) (F.push _) (N.pushKeep _) ⟨rfl, ⟨tc, hy⟩, fun _ _ _ => rfl⟩ ?_ ?_)
  · show IsRangeIter _ _ _ _ _
    rw [hn]
    simpa using Heap.get?_push_size s.heap rfl
  · intro i v m₁ nx h tk own hi val _ hoff inv F₁ N₁
    obtain ⟨t, rfl⟩ := val
    obtain ⟨rfl, ⟨ta, ha⟩, hm⟩ := inv
    exact turn i _ t ta h tk own hi hoff (map_one ha hm ▸ F₁) N₁
  · intro m₁ nx h tk inv F₁ N₁
    obtain ⟨rfl, ⟨t, ha⟩, hm⟩ := inv
    exact done m₁ t h tk ((done_one ha hm).symm ▸ F₁) N₁
end
theorem S_size (cs : List Nat) : (S cs).cps.size = cs.length := by simp [S]
/-- how far a text grows -/
theorem itr_len (f : List Nat → List Nat) (hf : ∀ c, (f c).length + 1 ≤ 6 * (c.length + 1)) : ∀ (i : Nat) (c : List Nat), (itr f i c).length + 1 ≤ 6 ^ i * (c.length + 1)
  | 0, c => by show c.length + 1 ≤ 1 * (c.length + 1); omega
  | i + 1, c => by
    have h1 := itr_len f hf i c
    have h2 := hf (itr f i c)
    have h3 : 6 * ((itr f i c).length + 1) ≤ 6 * (6 ^ i * (c.length + 1)) := Nat.mul_le_mul_left _ h1
    show (f (itr f i c)).length + 1 ≤ 6 ^ (i + 1) * (c.length + 1)
    rw [Nat.pow_succ, Nat.mul_comm (6 ^ i) 6, Nat.mul_assoc]
    omega
theorem qt_six (c : List Nat) : (qt c).length + 1 ≤ 6 * (c.length + 1) := by have := qt_len c; omega
theorem sh_six (c : List Nat) : (sh c).length + 1 ≤ 6 * (c.length + 1) := by have := sh_len c; omega
theorem grow {a b c : Nat} {k : List Nat} (hk : k.length ≤ 8) (h : a + b + c ≤ 4) : (itr qt c (itr sh b (itr qt a k))).length ≤ 30000 := by
  have h1 := itr_len qt qt_six a k
  have h2 := itr_len sh sh_six b (itr qt a k)
  have h3 := itr_len qt qt_six c (itr sh b (itr qt a k))
  have h4 : 6 ^ c * ((itr sh b (itr qt a k)).length + 1) ≤ 6 ^ c * (6 ^ b * ((itr qt a k).length + 1)) := Nat.mul_le_mul_left _ h2
  have h5 : 6 ^ c * (6 ^ b * ((itr qt a k).length + 1)) ≤ 6 ^ c * (6 ^ b * (6 ^ a * (k.length + 1))) := Nat.mul_le_mul_left _ (Nat.mul_le_mul_left _ h1)
  have h6 : 6 ^ c * (6 ^ b * (6 ^ a * (k.length + 1))) = 6 ^ (a + b + c) * (k.length + 1) := by
    rw [Nat.pow_add, Nat.pow_add, ← Nat.mul_assoc, ← Nat.mul_assoc, Nat.mul_comm (6 ^ c * 6 ^ b), ← Nat.mul_assoc, Nat.mul_assoc (6 ^ a) (6 ^ c) (6 ^ b), Nat.mul_comm (6 ^ c) (6 ^ b), ← Nat.mul_assoc]
  have h7 : 6 ^ (a + b + c) ≤ 6 ^ 4 := Nat.pow_le_pow_right (by decide) h
  have h8 : 6 ^ (a + b + c) * (k.length + 1) ≤ 6 ^ 4 * 9 := Nat.mul_le_mul h7 (by omega)
  omega
/-- lists of nought and one -/
theorem lay01 {ns : List Int} (hn : ns.length ≤ 4) (h : ∀ n ∈ ns, n = 0 ∨ n = 1) : PyData.layable0 (.list (ns.map .int)) = true := by
  match ns, hn, h with
  | [], _, _ => decide +kernel
  | [a], _, h => 
    rcases h a (by simp) with rfl | rfl <;> decide +kernel
  | [a, b], _, h =>
    rcases h a (by simp) with rfl | rfl <;> rcases h b (by simp) with rfl | rfl <;> decide +kernel
  | [a, b, c], _, h =>
    rcases h a (by simp) with rfl | rfl <;> rcases h b (by simp) with rfl | rfl <;> rcases h c (by simp) with rfl | rfl <;> decide +kernel
  | [a, b, c, d], _, h =>
    rcases h a (by simp) with rfl | rfl <;> rcases h b (by simp) with rfl | rfl <;> rcases h c (by simp) with rfl | rfl <;> rcases h d (by simp) with rfl | rfl <;> decide +kernel
  | _ :: _ :: _ :: _ :: _ :: _, hn, _ => simp at hn
theorem sum01 : ∀ {ns : List Int}, (∀ n ∈ ns, n = 0 ∨ n = 1) → 0 ≤ ns.sum ∧ (ns.idxOf 1 : Int) + ns.sum ≤ ns.length ∧ ((ns.any fun x => x == 1) = false → ns.sum = 0) ∧ ns.sum ≤ ns.length
  | [], _ => by simp
  | a :: r, h => by
    obtain ⟨h1, h2, h3, h4⟩ := sum01 (ns := r) fun n hn => h n (List.mem_cons_of_mem _ hn)
    rcases h a List.mem_cons_self with rfl | rfl
    · have e : List.idxOf (1 : Int) (0 :: r) = r.idxOf 1 + 1 := by rw [List.idxOf_cons]; rfl
      rw [e, List.sum_cons, List.length_cons, List.any_cons]
      refine ⟨by omega, by omega, fun q => ?_, by omega⟩
      have := h3 (by simpa using q)
      omega
    · have e : List.idxOf (1 : Int) (1 :: r) = 0 := by rw [List.idxOf_cons]; rfl
      rw [e, List.sum_cons, List.length_cons, List.any_cons]
      refine ⟨by omega, by omega, fun q => by simp at q, by omega⟩
section
variable {w : World} {dp un : Nat} {fr : Option (List Env)} {gd : Option (List Code)} {s : Shared} {E : Value → Shared → Prop} {mean : ExcName → Option Value} {mg mb : Str → Option Value} {cs : List Nat} {t : Tok}
theorem quoted_S (hx : cs.length ≤ 30000) (B : Bd w mean mg mb s.heap) (hroom : dp + 4 < recursionLimit) :
    wpAny (model PySem.Challenge.rw_mg0014_01.row.prog w) (Around.mk none dp fr gd un) (call (.ref 84) [.str (S cs) t]) (fun v s' => (∃ t, v = .str (S (qt cs)) t) ∧ Keeps s s') E s :=
  law_quoted (x := S cs) (by rw [S_size]; omega) B hroom
theorem shown_S (hx : cs.length ≤ 30000) (B : Bd w mean mg mb s.heap) (hroom : dp + 3 < recursionLimit) :
    wpAny (model PySem.Challenge.rw_mg0014_01.row.prog w) (Around.mk none dp fr gd un) (call (.ref 96) [.str (S cs) t]) (fun v s' => (∃ t, v = .str (S (sh cs)) t) ∧ Keeps s s') E s :=
  law_shown (x := S cs) (by rw [S_size]; omega) B hroom
theorem show_S (hx : cs.length ≤ 30000) (B : Bd w mean mg mb s.heap) (hroom : dp + 3 < recursionLimit) :
    wpAny (model PySem.Challenge.rw_mg0014_01.row.prog w) (Around.mk none dp fr gd un) (call (.ref 108) [.str (S cs) t]) (fun v s' => (∃ t, v = .str (S (sh cs)) t) ∧ Keeps s s') E s :=
  law_show (x := S cs) (by rw [S_size]; omega) B hroom
theorem quote_S (hx : cs.length ≤ 30000) (B : Bd w mean mg mb s.heap) (hroom : dp + 4 < recursionLimit) :
    wpAny (model PySem.Challenge.rw_mg0014_01.row.prog w) (Around.mk none dp fr gd un) (call (.ref 65) [.str (S cs) t]) (fun v s' => (∃ t, v = .str (S (qt cs)) t) ∧ Keeps s s') E s :=
  quote_is (x := S cs) (by rw [S_size]; omega) B hroom
theorem gap_S (hx : cs.length ≤ 30000) (B : Bd w mean mg mb s.heap) (hroom : dp + 4 < recursionLimit) :
    wpAny (model PySem.Challenge.rw_mg0014_01.row.prog w) (Around.mk none dp fr gd un) (call (.ref 113) [.str (S cs) t]) (fun v s' => (∃ t, v = .int (gapF cs) t) ∧ Keeps s s') E s :=
  law_gap (x := S cs) (by rw [S_size]; omega) B hroom
end
end Mine
end
-- part B9
section
open PySem PySem.W PySem.Calls PyProof.Rows
set_option Elab.async false
set_option maxRecDepth 100000
namespace Mine
local macro_rules | `(tactic| walk_at "m_enter") => `(tactic| ((case k1 => assumption); (case k2 => assumption); (case k3 => (try dsimp only); omega); (case k4 => k_is); (case k5 => k_is); (case k6 => exact rfl); (case k7 => exact locs rfl); (case k8 => exact rfl); (case k9 => exact rfl); (case k10 => exact rfl); (case k11 => decide); (intro L h₁ tk₁ F N; (try dsimp only); (try k_fold))))
def ahd (ns : List Int) : Nat := if (ns.any fun x => x == 1) = true then ns.idxOf 1 else ns.length
/-- where the steps lead, by the law's own tables -/
def endF (cs : List Nat) (ns : List Int) : List Nat := itr qt (ns.length - ahd ns - ns.sum.toNat) (itr sh (min ns.sum.toNat 2) (itr qt (ahd ns) cs))
theorem no_sum {ns : List Int} (h : ∀ n ∈ ns, n = 0 ∨ n = 1) (q : (ns.any fun x => x == 1) = false) : ns.sum = 0 := (sum01 h).2.2.1 q
theorem end_is {cs : List Nat} {ns : List Int} (h : ∀ n ∈ ns, n = 0 ∨ n = 1) {a b c : Int} (ha : a.toNat = ahd ns) (hb : b = (if 2 < ns.sum then 2 else ns.sum) - 0) (hc : c = (ns.length : Int) - a - ns.sum - 0) (h0 : 0 ≤ a) :
    S (itr qt c.toNat (itr sh b.toNat (itr qt a.toNat cs))) = S (endF cs ns) := by
  have hs := (sum01 h).1
  unfold endF
  rw [ha, show b.toNat = min ns.sum.toNat 2 from by subst hb; split <;> omega, show c.toNat = ns.length - ahd ns - ns.sum.toNat from by omega]
section
variable {prog : Program} {w : World} {A : Around} {E : Value → Shared → Prop} {s : Shared} {h₀ : Heap} {L : Addr} {m : Str → Option Value}
theorem getm_index {pl : Sem Bool} {D : Addr} {items : Array Value} {Q : Value × List Value → Shared → Prop} (F : Fr h₀ L s.heap m) (hl : h₀.IsList D items) (hnd : h₀.NoDictAt (.ref D)) (h : Q (.builtin "list.index", [.ref D]) s) :
    wpAny (model prog w) A (getMethod (.ref D) (Str.ofString "index") pl) Q E s :=
  getMethod_list_of PySem.F.slot_list_index PySem.F.type_list_index (hl.at fun o e => F.keep _ _ e) (hnd.keeps F.keep) h
theorem call_index {D : Addr} {vs : List Value} {ns : List Int} {t : Tok} {Q : Value → Shared → Prop} (F : Fr h₀ L s.heap m) (hl : h₀.IsList D vs.toArray) (hi : IntsAre vs ns) (hlay : PyData.layable0 (.list (ns.map .int)) = true) (hany : (ns.any fun x => x == 1) = true)
    (h : ∀ t' k, Q (.int (ns.idxOf 1 : Nat) t') { s with toks := k }) : wpAny (model prog w) A (call (.builtin "list.index") [.ref D, .int 1 t]) Q E s :=
  index_list_ints (hl.at fun o e => F.keep _ _ e) hi hlay (by obtain ⟨n, hn, e⟩ := List.any_eq_true.mp hany; rw [eq_of_beq e] at hn; exact hn) (h _ _)
end
section
variable {w : World} {dp un : Nat} {fr : Option (List Env)} {gd : Option (List Code)} {s : Shared} {E : Value → Shared → Prop} {mean : ExcName → Option Value} {mg mb : Str → Option Value}
local macro_rules | `(tactic| walk_at "call ref") => `(tactic| ((first
  | (refine kept_str (quoted_S (by first | exact grow (b := 0) (c := 0) (by assumption) (by omega) | exact grow (by assumption) (by first | omega | (have hs9 := no_sum (by assumption) (by assumption); omega))) (Bd.of (by k_asm) (by k_asm) (by k_asm)) (by (try dsimp only [Around.deeper]); omega)) (by k_asm) (by k_asm) ?_; intro u' h' tk' F' N')
  | (refine kept_str (shown_S (by exact grow (c := 0) (by assumption) (by first | omega | (have hs9 := no_sum (by assumption) (by assumption); omega))) (Bd.of (by k_asm) (by k_asm) (by k_asm)) (by (try dsimp only [Around.deeper]); omega)) (by k_asm) (by k_asm) ?_; intro u' h' tk' F' N')); (try dsimp only)))
local macro_rules | `(tactic| walk_at "pyIter ref") => `(tactic| ((rename Fr _ _ _ _ => lF'); (rename News _ _ _ _ => lN'); (rename IsRange _ _ _ _ _ _ _ _ => rgX); (first
  | with_unfolding_all refine' iterRange_it (x := Str.ofString "quoting") (y := Str.ofString "text") qt (by rfl) (by first | exact rgX | assumption) (small_one (by omega) (by omega) (by omega) (by omega)) (rangeSize_nat _ _) lF' lN' (by rfl) (fun i' k' t' ta' h' tk' own' hi' hoff' F' N' => ?_) (fun u' t' h' tk' F' N' => ?_)
  | with_unfolding_all refine' iterRange_it (x := Str.ofString "showing") (y := Str.ofString "text") sh (by rfl) (by first | exact rgX | assumption) (small_one (by omega) (by omega) (by omega) (by omega)) (rangeSize_nat _ _) lF' lN' (by rfl) (fun i' k' t' ta' h' tk' own' hi' hoff' F' N' => ?_) (fun u' t' h' tk' F' N' => ?_)); (all_goals (try clear lF' lN' rgX)); (all_goals (try dsimp only at F')); (all_goals (try simp only [List.nil_append, List.cons_append, List.append_nil] at N')); (all_goals (try k_fold))))
local macro_rules | `(tactic| walk_at "getMethod ref") => `(tactic| (refine getm_index (by k_asm) (by assumption) (by assumption) ?_; (try dsimp only)))
local macro_rules | `(tactic| walk_at "call builtin:list.index") => `(tactic| (refine call_index (by k_asm) (by assumption) (by assumption) (by assumption) (by assumption) ?_; intro t' k'; (try dsimp only)))
set_option maxHeartbeats 8000000 in
theorem law_end {cs : List Nat} {t : Tok} {D : Addr} {vs : List Value} {ns : List Int} (hx : cs.length ≤ 8) (hl : s.heap.IsList D vs.toArray) (hnd : s.heap.NoDictAt (.ref D)) (hi : IntsAre vs ns) (hn : ns.length ≤ 4) (h01 : ∀ n ∈ ns, n = 0 ∨ n = 1) (B : Bd w mean mg mb s.heap) (hroom : dp + 5 < recursionLimit) :
    wpAny (model PySem.Challenge.rw_mg0014_01.row.prog w) (Around.mk none dp fr gd un) (call (.ref 103) [.str (S cs) t, .ref D]) (fun v s' => (∃ t, v = .str (S (endF cs ns)) t) ∧ Keeps s s') E s := by
  obtain ⟨X, T⟩ := B
  have hlay := lay01 hn h01
  obtain ⟨hs0, hs1, hs2, hs3⟩ := sum01 h01
  revert X
  k_fill
  intro X
  with_unfolding_all refine' callP [(Str.ofString "text", .str (S cs) t), (Str.ofString "steps", .ref D)] ?k1 ?k2 ?k3 ?k4 ?k5 ?k6 ?k7 ?k8 ?k9 ?k10 ?k11 ?_
  w_top off
  walk_at "m_enter"
  k_steps
  all_goals refine EndP.intro (by k_asm) ⟨_, congrArg (fun x => Value.str x _) (end_is h01 ?_ rfl ?_ (by omega))⟩
  all_goals first | (unfold ahd; rw [if_pos (by assumption)]; omega) | (unfold ahd; rw [if_neg (by rw [(by assumption : (List.any _ _) = false)]; exact Bool.false_ne_true)]; omega) | omega | skip
end
end Mine
end
-- part C2
section
open PySem PySem.W PySem.Calls PyProof.Rows PyProof.Rows.LCg
set_option Elab.async false
set_option maxRecDepth 100000
namespace Mine
section
variable {prog : Program} {w : World} {A : Around} {E : Value → Shared → Prop} {s : Shared} {h₀ : Heap} {L : Addr} {m : Str → Option Value} {env : Env} {news : List (Addr × Obj)}
/-- a turn that maps an int to a text -/
theorem rest_mapI {elt : Expr} {x : Str} {scope : Scope} {cl : List (Str × Addr)} {vs : List Value} {ns : List Int} {T : List (Addr × Obj) → Prop} {Fin : List Value → List (Addr × Obj) → Prop} (g : Int → Str) (hi : IntsAre vs ns) (hS : T news)
    (turn : ∀ c u I oI C oC D m₂ ys h tk (E' : Value → Shared → Prop), c ∈ ns → NsObj oC m₂ → m₂ x = some (.int c u) → Fr h₀ L h m → News h₀ L h ((I, oI) :: (C, oC) :: (D, lst ys) :: news) → Off3 I C D news → ((@Ne Nat I C) ∧ (@Ne Nat I D) ∧ (@Ne Nat C D)) →
      wpAny (model prog w) A (eval elt (compEnvC scope cl C env)) (MapEnd s h₀ L m ((I, oI) :: (C, oC) :: (D, lst ys) :: news) (g c)) E' { s with heap := h, toks := tk })
    (fin : ∀ ys, StrsAre ys (ns.map g) → Fin ys news) : CompRest prog w A h₀ L m env elt x scope cl s T (fun i v => vs.toArray[i]? = some v) Fin vs.toArray.size 0 [] news := by
  refine kct_list g hi (fun k t I oI C oC D m₂ ys h tk E' hk hC hx F N off ne _ => ?_) fun ys hc _ => fin ys hc.strsOf
  exact wpAny_mono (turn k t I oI C oC D m₂ ys h tk E' hk hC hx F N off ne) (fun y s₂ ⟨⟨h', tk', e, F', N'⟩, t', hy⟩ => ⟨h', tk', news, e, F', N', off, hS, rfl, t', hy⟩) fun _ _ e => e
end
/-- one step of the walk -/
def stp (c : List Nat) (n : Int) : List Nat := if n ≠ 0 then sh c else qt c
section
variable {prog : Program} {w : World} {A : Around} {E : Value → Shared → Prop} {s : Shared} {env : Env} {h₀ : Heap} {x : Str} {body : List Stmt} {Q : Flow → Shared → Prop}
theorem iterList_st {l : Addr} {vs : List Value} {ns : List Int} {nn : Nat} {m₀ : Str → Option Value} {news : List (Addr × Obj)} {y : Str} {c₀ : List Nat} {tc : Tok}
    (hh : A.handled = none) (hl : (l, W.listOf vs.toArray nn) ∈ news) (hi : IntsAre vs ns) (F : Fr h₀ env.locals s.heap m₀) (N : News h₀ env.locals s.heap news) (hy : m₀ y = some (.str (S c₀) tc))
    (turn : ∀ i n t ta h tk own, ns[i]? = some n → OwnOff own (news.map (·.1)) → Fr h₀ env.locals h (fun z => if z = x then some (.int n t) else if z = y then some (.str (S ((ns.take i).foldl stp c₀)) ta) else m₀ z) → News h₀ env.locals h (news ++ own) →
      wpAny (model prog w) A (execs body env) (InvPostN h₀ env.locals (fun m' nx => nx = news ∧ (∃ t', m' y = some (.str (S (stp ((ns.take i).foldl stp c₀) n)) t')) ∧ ∀ z, z ≠ x → z ≠ y → m' z = m₀ z) own (news.map (·.1)) { s with heap := h, toks := tk } Q) E { s with heap := h, toks := tk })
    (done : ∀ (u : Str → Option Value) t h tk, Fr h₀ env.locals h (fun z => if z = x then u z else if z = y then some (.str (S (ns.foldl stp c₀)) t) else m₀ z) → News h₀ env.locals h news → Q .next { s with heap := h, toks := tk }) :
    wpAny (model prog w) A (pyIter (.ref l)) (fun it s₂ => LoopAtV prog w A h₀ env x body Q E it s₂) E s := by
  refine iter_invNL (fun i m nx => nx = news ∧ (∃ t, m y = some (.str (S ((ns.take i).foldl stp c₀)) t)) ∧ ∀ z, z ≠ x → z ≠ y → m z = m₀ z) hh hl hi F N ⟨rfl, ⟨tc, hy⟩, fun _ _ _ => rfl⟩ ?_ ?_
  · intro i n t m₁ nx h tk own hn _ hoff _ inv F₁ N₁
    obtain ⟨rfl, ⟨ta, ha⟩, hm⟩ := inv
    have one : (ns.take (i + 1)).foldl stp c₀ = stp ((ns.take i).foldl stp c₀) n := by simp [List.take_add_one, hn]
    have more : ∀ {s₁ s₂ : Shared} {J : (Str → Option Value) → Prop}, InvEndN h₀ env.locals (fun m' ny => ny = nx ∧ J m') own (nx.map (·.1)) s₁ s₂ → InvEndN h₀ env.locals (fun m' ny => (l, W.listOf vs.toArray nn) ∈ ny ∧ ny = nx ∧ J m') own (nx.map (·.1)) s₁ s₂ :=
      fun ⟨h', tk, m', n', nx', e, F', N', q1, q2, q3, q4⟩ => ⟨h', tk, m', n', nx', e, F', N', q1, q2, q3, q4.1 ▸ hl, q4⟩
    refine wpAny_mono (turn i n t ta h tk own hn hoff (map_one ha hm ▸ F₁) N₁) (fun f s₂ p => ?_) fun _ _ e => e
    rw [one]
    match f, p with
    | .ret _, p => exact p
    | .brk, p => exact p
    | .next, p => exact more p
    | .cont, p => exact more p
  · intro m₁ nx h tk _ inv F₁ N₁
    obtain ⟨rfl, ⟨t, ha⟩, hm⟩ := inv
    rw [List.take_length] at ha
    exact done m₁ t h tk ((done_one ha hm).symm ▸ F₁) N₁
end
theorem stp_six (c : List Nat) (n : Int) : (stp c n).length + 1 ≤ 6 * (c.length + 1) := by
  unfold stp
  split
  · exact sh_six c
  · exact qt_six c
theorem fold_len : ∀ (l : List Int) (c : List Nat), (l.foldl stp c).length + 1 ≤ 6 ^ l.length * (c.length + 1)
  | [], c => by show c.length + 1 ≤ 1 * (c.length + 1); omega
  | n :: r, c => by
    have h1 := fold_len r (stp c n)
    have h2 := stp_six c n
    have h3 : 6 ^ r.length * ((stp c n).length + 1) ≤ 6 ^ r.length * (6 * (c.length + 1)) := Nat.mul_le_mul_left _ h2
    show (r.foldl stp (stp c n)).length + 1 ≤ 6 ^ (r.length + 1) * (c.length + 1)
    rw [Nat.pow_succ, Nat.mul_assoc]
    omega
theorem fold_short {l : List Int} {c : List Nat} (hl : l.length ≤ 4) (hc : c.length ≤ 8) : (l.foldl stp c).length ≤ 30000 := by
  have h1 := fold_len l c
  have h2 : 6 ^ l.length ≤ 6 ^ 4 := Nat.pow_le_pow_right (by decide) hl
  have h3 : 6 ^ l.length * (c.length + 1) ≤ 6 ^ 4 * 9 := Nat.mul_le_mul h2 (by omega)
  omega
theorem take_short {l : List Int} {c : List Nat} {i : Nat} (hl : l.length ≤ 4) (hc : c.length ≤ 8) : ((l.take i).foldl stp c).length ≤ 30000 :=
  fold_short (by rw [List.length_take]; omega) hc
/-- the text that the law builds -/
def txt (ks : List Int) : List Nat := ks.map fun k => (codeF k).toNat
theorem join_txt' : ∀ ks : List Int, Str.join (Str.ofString "") (ks.map fun k => S [(codeF k).toNat]) = S (txt ks)
  | [] => rfl
  | [c] => rfl
  | c :: d :: r => by
    have ih := join_txt' (d :: r)
    show S [(codeF c).toNat] ++ Str.ofString "" ++ Str.join (Str.ofString "") ((d :: r).map fun k => S [(codeF k).toNat]) = _
    rw [ih, show Str.ofString "" = S [] from by decide +kernel, S_append, S_append]
    rfl
theorem join_txt (ks : List Int) : Txt.join (Str.ofString "") (ks.map fun k => S [(codeF k).toNat]) = S (txt ks) := by
  rw [← join_txt']; exact StrLaws.glued_eq_join _ _
theorem txt_weight : ∀ ks : List Int, ((ks.map fun k => S [(codeF k).toNat]).map (·.length)).sum = ks.length
  | [] => rfl
  | c :: r => by
    have := txt_weight r
    simp only [List.map_cons, List.sum_cons, S_length, List.length_cons, List.length_nil] at this ⊢
    omega
theorem txt_len (ks : List Int) : (txt ks).length = ks.length := by simp [txt]
section
variable {prog : Program} {w : World} {A : Around} {E : Value → Shared → Prop} {s : Shared}
theorem join_text {D : Addr} {items : Array Value} {ks : List Int} {t : Tok} {Q : Value → Shared → Prop} (hl : s.heap.IsList D items) (hi : StrsAre items.toList (ks.map fun k => S [(codeF k).toNat])) (hk : ks.length ≤ 8)
    (h : ∀ t' k, Q (.str (S (txt ks)) t') { s with toks := k }) : wpAny (model prog w) A (call (.builtin "str.join") [.str (Str.ofString "") t, .ref D]) Q E s := by
  refine join_listW hl hi (by decide) ?_ fun t' k => ?_
  · rw [txt_weight, List.length_map]; omega
  · rw [join_txt]; exact h t' k
theorem chr_S {n : Int} {t : Tok} {Q : Value → Shared → Prop} (h : ∀ t' k, Q (.str (S [(codeF n).toNat]) t') { s with toks := k }) :
    wpAny (model prog w) A (call (.builtin "chr") [.int (codeF n) t]) Q E s := by
  refine chr_of_range (codeF_range n).1 (codeF_range n).2 ?_
  exact h _ _
end
end Mine
end
-- part PL
section
open PySem PySem.W PySem.Calls PyProof.Rows
set_option Elab.async false
namespace Mine
/-- a sign that showing gives -/
def okc (d : Nat) : Prop := (32 ≤ d ∧ d ≤ 126) ∨ d = 159
theorem ctl_print {c : Nat} (h : 32 ≤ c ∧ c ≤ 126) : ctl c = [c] := by
  unfold ctl
  rw [if_neg (show ¬ c / 128 % 2 = 1 by omega), if_neg (show ¬ c % 128 < 32 by omega), if_pos (show c % 128 < 127 by omega), Nat.mod_eq_of_lt (by omega)]
  rfl
theorem ctl_9f : ctl 159 = [33, 94, 95] := by decide +kernel
theorem ctl_ok (c : Nat) : ∀ d ∈ ctl c, okc d := by
  intro d hd
  have hr : c % 128 < 128 := Nat.mod_lt _ (by decide)
  unfold ctl at hd
  rcases List.mem_append.mp hd with h | h
  · split at h
    · rw [List.mem_singleton.mp h]; exact .inl (by decide)
    · cases h
  · split at h
    · rcases List.mem_cons.mp h with rfl | h
      · exact .inl (by decide)
      · rw [List.mem_singleton.mp h]; exact .inl (by omega)
    · split at h
      · rw [List.mem_singleton.mp h]; exact .inl (by omega)
      · rcases List.mem_cons.mp h with rfl | h
        · exact .inl (by decide)
        · rw [List.mem_singleton.mp h]
          split
          · exact .inl (by decide)
          · exact .inr rfl
theorem ctl_ne (c : Nat) : ctl c ≠ [] := by
  unfold ctl
  intro q
  rw [List.append_eq_nil_iff] at q
  have := q.2
  split at this
  · cases this
  · split at this <;> cases this
theorem sf_print {c : Nat} (h : sf c = true) : (32 ≤ c ∧ c ≤ 126) ∧ c ≠ 39 := by
  unfold sf Sre.isWord Sre.isDigit at h
  simp only [Bool.or_eq_true, Bool.and_eq_true, decide_eq_true_eq, beq_iff_eq] at h
  omega
theorem sh_cons (c : Nat) (r : List Nat) : sh (c :: r) = ctl c ++ sh r := rfl
theorem sh_append (a b : List Nat) : sh (a ++ b) = sh a ++ sh b := List.flatMap_append
theorem esc_cons (c : Nat) (r : List Nat) : esc (c :: r) = (if c = 39 then [39, 34, 39, 34, 39] else [c]) ++ esc r := rfl
theorem sh_five : sh [39, 34, 39, 34, 39] = [39, 34, 39, 34, 39] := by decide +kernel
theorem sh_39 : sh [39] = [39] := by decide +kernel
theorem sh_ok (cs : List Nat) : ∀ d ∈ sh cs, okc d := by
  intro d hd
  obtain ⟨c, _, h⟩ := List.mem_flatMap.mp hd
  exact ctl_ok c d h
theorem sh_print : ∀ {t : List Nat}, (∀ d ∈ t, 32 ≤ d ∧ d ≤ 126) → sh t = t
  | [], _ => rfl
  | c :: r, h => by
    rw [sh_cons, ctl_print (h c List.mem_cons_self), sh_print fun d hd => h d (List.mem_cons_of_mem _ hd)]
    rfl
theorem sh_ok_print {t : List Nat} (h : ∀ d ∈ t, okc d) : ∀ d ∈ sh t, 32 ≤ d ∧ d ≤ 126 := by
  intro d hd
  obtain ⟨c, hc, hd⟩ := List.mem_flatMap.mp hd
  rcases h c hc with q | rfl
  · rw [ctl_print q, List.mem_singleton] at hd
    rw [hd]; exact q
  · rw [ctl_9f] at hd
    simp only [List.mem_cons, List.not_mem_nil, or_false] at hd
    omega
theorem sh_sh {t : List Nat} (h : ∀ d ∈ t, okc d) : sh (sh t) = sh t := sh_print (sh_ok_print h)
theorem esc_ok {t : List Nat} (h : ∀ d ∈ t, okc d) : ∀ d ∈ esc t, okc d := by
  intro d hd
  obtain ⟨c, hc, hd⟩ := List.mem_flatMap.mp hd
  split at hd
  · simp only [List.mem_cons, List.not_mem_nil, or_false] at hd
    exact .inl (by omega)
  · rw [List.mem_singleton.mp hd]; exact h c hc
theorem qt_ok {t : List Nat} (h : ∀ d ∈ t, okc d) : ∀ d ∈ qt t, okc d := by
  unfold qt
  split
  · exact h
  · intro d hd
    simp only [List.mem_append, List.mem_singleton] at hd
    rcases hd with (rfl | hd) | rfl
    · exact .inl (by decide)
    · exact esc_ok h d hd
    · exact .inl (by decide)
theorem sh_nil {t : List Nat} : sh t = [] ↔ t = [] := by
  cases t with
  | nil => exact ⟨fun _ => rfl, fun _ => rfl⟩
  | cons c r =>
    refine ⟨fun q => ?_, fun q => by cases q⟩
    rw [sh_cons, List.append_eq_nil_iff] at q
    exact absurd q.1 (ctl_ne c)
theorem all_sh {t : List Nat} (h : ∀ d ∈ t, okc d) : (sh t).all sf = t.all sf := by
  induction t with
  | nil => rfl
  | cons c r ih =>
    rw [sh_cons, List.all_append, List.all_cons, ih fun d hd => h d (List.mem_cons_of_mem _ hd)]
    rcases h c List.mem_cons_self with q | rfl
    · rw [ctl_print q]; simp
    · rw [ctl_9f]
      have e1 : ([33, 94, 95] : List Nat).all sf = false := by decide +kernel
      have e2 : sf 159 = false := by decide +kernel
      rw [e1, e2]
theorem sh_esc_ok {t : List Nat} (h : ∀ d ∈ t, okc d) : sh (esc t) = esc (sh t) := by
  induction t with
  | nil => rfl
  | cons c r ih =>
    rw [esc_cons, sh_append, sh_cons, esc_append, ih fun d hd => h d (List.mem_cons_of_mem _ hd)]
    congr 1
    rcases h c List.mem_cons_self with q | rfl
    · rw [ctl_print q]
      by_cases e : c = 39
      · subst e; decide +kernel
      · rw [if_neg e]
        show ctl c ++ [] = (if c = 39 then [39, 34, 39, 34, 39] else [c]) ++ []
        rw [if_neg e, ctl_print q]
    · decide +kernel
/-- shown and quoted, in either order -/
theorem sh_qt {t : List Nat} (h : ∀ d ∈ t, okc d) : sh (qt t) = qt (sh t) := by
  unfold qt
  by_cases q : t ≠ [] ∧ t.all sf = true
  · rw [if_pos q, if_pos ⟨fun e => q.1 (sh_nil.mp e), by rw [all_sh h]; exact q.2⟩]
  · rw [if_neg q, if_neg (fun e => q ⟨fun z => e.1 (sh_nil.mpr z), by rw [← all_sh h]; exact e.2⟩), sh_append, sh_append, sh_39, sh_esc_ok h]
theorem itr_comm (f : List Nat → List Nat) : ∀ (i : Nat) (c : List Nat), itr f (i + 1) c = itr f i (f c)
  | 0, _ => rfl
  | i + 1, c => by show f (itr f (i + 1) c) = f (itr f i (f c)); rw [itr_comm f i c]
theorem lem_a : ∀ (r : List Int) (t : List Nat), (∀ n ∈ r, n = 0 ∨ n = 1) → (∀ d ∈ t, okc d) → r.foldl stp t = itr qt (r.length - r.sum.toNat) (if r.sum = 0 then t else sh t)
  | [], t, _, _ => rfl
  | n :: r, t, h, ht => by
    have hr : ∀ n ∈ r, n = 0 ∨ n = 1 := fun n hn => h n (List.mem_cons_of_mem _ hn)
    obtain ⟨s0, _, _, s3⟩ := sum01 hr
    rw [List.foldl_cons, List.sum_cons, List.length_cons]
    rcases h n List.mem_cons_self with rfl | rfl
    · rw [show stp t 0 = qt t from rfl, lem_a r (qt t) hr (qt_ok ht), Int.zero_add, show r.length + 1 - r.sum.toNat = (r.length - r.sum.toNat) + 1 from by omega, itr_comm]
      congr 1
      split
      · rfl
      · exact sh_qt ht
    · rw [show stp t 1 = sh t from rfl, lem_a r (sh t) hr (sh_ok t), show r.length + 1 - (1 + r.sum).toNat = r.length - r.sum.toNat from by omega, if_neg (show ¬ 1 + r.sum = 0 by omega)]
      congr 1
      split
      · rfl
      · exact sh_sh ht
theorem plain1 : ∀ (l : List Int) (cs : List Nat), (∀ n ∈ l, n = 0 ∨ n = 1) → l.foldl stp cs = endF cs l
  | [], _, _ => rfl
  | n :: r, cs, h => by
    have hr : ∀ n ∈ r, n = 0 ∨ n = 1 := fun n hn => h n (List.mem_cons_of_mem _ hn)
    obtain ⟨s0, s1, s2, s3⟩ := sum01 hr
    rw [List.foldl_cons]
    rcases h n List.mem_cons_self with rfl | rfl
    · rw [show stp cs 0 = qt cs from rfl, plain1 r (qt cs) hr]
      have e : ahd (0 :: r) = ahd r + 1 := by
        unfold ahd
        have e1 : List.idxOf (1 : Int) (0 :: r) = r.idxOf 1 + 1 := by rw [List.idxOf_cons]; rfl
        rw [List.any_cons, e1, List.length_cons]
        show (if (((0 : Int) == 1) || r.any fun x => x == 1) = true then _ else _) = _
        rw [show ((0 : Int) == 1) = false from rfl, Bool.false_or]
        split <;> rfl
      unfold endF
      rw [e, List.sum_cons, Int.zero_add, List.length_cons, itr_comm, show r.length + 1 - (ahd r + 1) - r.sum.toNat = r.length - ahd r - r.sum.toNat from by omega]
    · rw [show stp cs 1 = sh cs from rfl, lem_a r (sh cs) hr (sh_ok cs)]
      have e : ahd (1 :: r) = 0 := by
        unfold ahd
        rw [List.any_cons, List.idxOf_cons]
        rfl
      unfold endF
      rw [e, List.sum_cons, List.length_cons, show r.length + 1 - 0 - (1 + r.sum).toNat = r.length - r.sum.toNat from by omega]
      congr 1
      by_cases q : r.sum = 0
      · rw [if_pos q, show min (1 + r.sum).toNat 2 = 1 from by omega]
        rfl
      · rw [if_neg q, show min (1 + r.sum).toNat 2 = 2 from by omega]
        rfl
/-- an apostrophe among a sign's own -/
theorem mem39 (c : Nat) : 39 ∈ ctl c ↔ c % 128 = 39 := by
  have hr : c % 128 < 128 := Nat.mod_lt _ (by decide)
  unfold ctl
  rw [List.mem_append]
  refine ⟨fun h => ?_, fun h => ?_⟩
  · rcases h with h | h
    · split at h
      · simp at h
      · cases h
    · split at h
      · simp only [List.mem_cons, List.not_mem_nil, or_false] at h; omega
      · split at h
        · simp only [List.mem_cons, List.not_mem_nil, or_false] at h; omega
        · simp only [List.mem_cons, List.not_mem_nil, or_false] at h
          split at h <;> omega
  · refine .inr ?_
    rw [if_neg (show ¬ c % 128 < 32 by omega), if_pos (show c % 128 < 127 by omega), h]
    exact List.mem_cons_self
theorem ctl_tempt {c : Nat} (h : c % 128 = 39) : ctl c = (if c / 128 % 2 = 1 then [33] else []) ++ [39] := by
  unfold ctl
  rw [if_neg (show ¬ c % 128 < 32 by omega), if_pos (show c % 128 < 127 by omega), h]
theorem tp_iff {c : Nat} : tp c = true ↔ c ≠ 39 ∧ c % 128 = 39 := by
  unfold tp
  rw [Bool.and_eq_true, bne_iff_ne, beq_iff_eq]
theorem len_esc : ∀ cs : List Nat, (esc (sh cs)).length = (sh (esc cs)).length + 4 * (cs.filter tp).length
  | [] => rfl
  | c :: r => by
    have ih := len_esc r
    rw [esc_cons, sh_append, sh_cons, esc_append, List.length_append, List.length_append, ih]
    by_cases e : c = 39
    · subst e
      rw [List.filter_cons_of_neg (by decide)]
      have : (esc (ctl 39)).length = (sh (if (39 : Nat) = 39 then [39, 34, 39, 34, 39] else [39])).length := by decide +kernel
      omega
    · rw [if_neg e]
      have e0 : sh [c] = ctl c := List.append_nil _
      rw [e0]
      by_cases q : c % 128 = 39
      · rw [List.filter_cons_of_pos (tp_iff.mpr ⟨e, q⟩), List.length_cons]
        have : (esc (ctl c)).length = (ctl c).length + 4 := by
          rw [ctl_tempt q]
          split <;> decide +kernel
        omega
      · rw [List.filter_cons_of_neg (fun z => q (tp_iff.mp z).2), esc_free (fun z => q ((mem39 c).mp z))]
        omega
theorem esc_same : ∀ {cs : List Nat}, cs.filter tp = [] → sh (esc cs) = esc (sh cs)
  | [], _ => rfl
  | c :: r, h => by
    have hc : ¬ tp c = true := fun z => by rw [List.filter_cons_of_pos z] at h; cases h
    rw [List.filter_cons_of_neg hc] at h
    rw [esc_cons, sh_append, sh_cons, esc_append, esc_same h]
    congr 1
    by_cases e : c = 39
    · subst e; decide +kernel
    · rw [if_neg e, esc_free (fun z => hc (tp_iff.mpr ⟨e, (mem39 c).mp z⟩))]
      exact List.append_nil _
theorem no_tempt {cs : List Nat} (h : 39 ∉ sh cs) : cs.filter tp = [] := by
  rw [List.filter_eq_nil_iff]
  intro c hc z
  exact h (List.mem_flatMap.mpr ⟨c, hc, (mem39 c).mpr (tp_iff.mp z).2⟩)
theorem safe39 {cs : List Nat} (h : cs.all sf = true) : 39 ∉ cs := fun z => (sf_print (List.all_eq_true.mp h 39 z)).2 rfl
theorem sh_safe {cs : List Nat} (h : cs.all sf = true) : sh cs = cs := sh_print fun d hd => (sf_print (List.all_eq_true.mp h d hd)).1
/-- the two ways, case by case -/
theorem two_ways (cs : List Nat) : ((qt (sh cs)).length : Int) - ((sh (qt cs)).length : Int) = gapF cs ∧ (gapF cs = 0 → sh (qt cs) = qt (sh cs)) := by
  by_cases h0 : cs = []
  · subst h0
    exact ⟨by decide +kernel, fun _ => by decide +kernel⟩
  · have hs0 : sh cs ≠ [] := fun z => h0 (sh_nil.mp z)
    unfold gapF
    cases hs : cs.all sf with
    | true =>
      have e := sh_safe hs
      have et := no_tempt (cs := cs) (by rw [e]; exact safe39 hs)
      have e1 : qt cs = cs := by unfold qt; rw [if_pos ⟨h0, hs⟩]
      rw [e, e1, e, et]
      simp
    | false =>
      have e1 : sh (qt cs) = [39] ++ sh (esc cs) ++ [39] := by
        unfold qt
        rw [if_neg (fun z => by rw [hs] at z; exact Bool.false_ne_true z.2), sh_append, sh_append, sh_39]
      cases hq : (sh cs).all sf with
      | true =>
        have n39 := safe39 hq
        have et := no_tempt n39
        have e2 : qt (sh cs) = sh cs := by unfold qt; rw [if_pos ⟨hs0, hq⟩]
        rw [e1, e2, et, esc_same et, esc_free n39]
        refine ⟨?_, fun z => ?_⟩
        · simp only [List.length_append, List.length_cons, List.length_nil, Bool.not_false, Bool.and_true, if_true]
          omega
        · simp at z
      | false =>
        have e2 : qt (sh cs) = [39] ++ esc (sh cs) ++ [39] := by
          unfold qt
          rw [if_neg (fun z => by rw [hq] at z; exact Bool.false_ne_true z.2)]
        have hl := len_esc cs
        rw [e1, e2]
        refine ⟨?_, fun z => ?_⟩
        · simp only [List.length_append, List.length_cons, List.length_nil, Bool.not_false, Bool.and_false, Bool.false_eq_true, if_false]
          omega
        · simp only [Bool.not_false, Bool.and_false, Bool.false_eq_true, if_false] at z
          rw [esc_same (List.length_eq_zero_iff.mp (by omega))]
theorem plain2 (cs : List Nat) : ((qt (sh cs)).length : Int) - ((sh (qt cs)).length : Int) = gapF cs := (two_ways cs).1
theorem plain3 (cs : List Nat) : (S (sh (qt cs)) == S (qt (sh cs))) = (gapF cs == 0) := by
  obtain ⟨h1, h2⟩ := two_ways cs
  by_cases q : gapF cs = 0
  · rw [h2 q, beq_self_eq_true, q]; rfl
  · rw [beq_eq_false_iff_ne.mpr q]
    refine beq_eq_false_iff_ne.mpr fun z => q ?_
    rw [← h1, S_inj z]
    omega
end Mine
end
-- part L1
section
open PySem PySem.W PySem.Calls PyProof.Rows
set_option Elab.async false
set_option maxRecDepth 100000
namespace Mine
local macro_rules | `(tactic| walk_at "m_enter") => `(tactic| ((case k1 => assumption); (case k2 => assumption); (case k3 => (try dsimp only); omega); (case k4 => k_is); (case k5 => k_is); (case k6 => exact rfl); (case k7 => intro n x hx; cases hx with | head => exact .inl rfl | tail _ q => cases q); (case k8 => exact rfl); (case k9 => exact rfl); (case k10 => exact rfl); (case k11 => decide); (intro L h₁ tk₁ cells F N Y; k_cells Y; (try dsimp only); (try k_fold))))
/-- the law's steps -/
theorem steps_len (tot : Int) (f : Int → Int) : ((rangeKs 0 ((tot.fdiv 16 + 3).fmod 4 + 1 - 0).toNat).map f).length ≤ 4 := by
  rw [List.length_map, rangeKs_length, Int.fmod_eq_emod_of_nonneg _ (by decide)]
  omega
theorem steps_01 (tot : Int) (l : List Int) : ∀ n ∈ l.map (fun k' => (tot.fdiv (2 ^ k'.toNat)).fmod 2), n = 0 ∨ n = 1 := by
  intro n hn
  obtain ⟨k, _, rfl⟩ := List.mem_map.mp hn
  rw [Int.fmod_eq_emod_of_nonneg _ (by decide)]
  omega
theorem txt_short (ns : List Int) (f : Int → Int) : (txt ((ns.take 8).map f)).length ≤ 8 := by
  rw [txt_len, List.length_map, List.length_take]; omega
theorem txt_30 (ns : List Int) (f : Int → Int) : (txt ((ns.take 8).map f)).length ≤ 30000 := by have := txt_short ns f; omega
theorem qt_30 (ns : List Int) (f : Int → Int) : (qt (txt ((ns.take 8).map f))).length ≤ 30000 := by have := txt_short ns f; have := qt_len (txt ((ns.take 8).map f)); omega
theorem sh_30 (ns : List Int) (f : Int → Int) : (sh (txt ((ns.take 8).map f))).length ≤ 30000 := by have := txt_short ns f; have := sh_len (txt ((ns.take 8).map f)); omega
theorem stp_y {c : List Nat} {n : Int} (h : n ≠ 0) : stp c n = sh c := by unfold stp; rw [if_pos h]
theorem stp_n {c : List Nat} {n : Int} (h : n = 0) : stp c n = qt c := by unfold stp; rw [if_neg (by simpa using h)]
theorem len_S {prog : Program} {w : World} {A : Around} {E : Value → Shared → Prop} {s : Shared} {cs : List Nat} {t : Tok} {Q : Value → Shared → Prop} (hc : cs.length ≤ 1000000) (h : ∀ t' k, Q (.int (cs.length : Int) t') { s with toks := k }) :
    wpAny (model prog w) A (call (.builtin "len") [.str (S cs) t]) Q E s := by
  refine P.len_str (by rw [S_length]; omega) ?_
  rw [S_length]; exact h _ _
theorem len_a (ns : List Int) (f : Int → Int) : (qt (sh (txt ((ns.take 8).map f)))).length ≤ 1000000 := by have := sh_30 ns f; have := qt_len (sh (txt ((ns.take 8).map f))); omega
theorem len_b (ns : List Int) (f : Int → Int) : (sh (qt (txt ((ns.take 8).map f)))).length ≤ 1000000 := by have := qt_30 ns f; have := sh_len (qt (txt ((ns.take 8).map f))); omega
theorem no_part {cs : List Nat} {tot : Int} {l : List Int} {P : Prop} (h : (S ((l.map (fun k' => (tot.fdiv (2 ^ k'.toNat)).fmod 2)).foldl stp cs) != S (endF cs (l.map (fun k' => (tot.fdiv (2 ^ k'.toNat)).fmod 2)))) = true) : P := by
  rw [plain1 _ _ (steps_01 tot l)] at h
  simp at h
theorem noDict {h₀ h : Heap} {L D : Addr} {ys : List Value} {news : List (Addr × Obj)} (N : News h₀ L h news) (hm : (D, LCg.lst ys) ∈ news) : h.NoDictAt (.ref D) := ⟨_, N.get hm, rfl⟩
section
variable {w : World} {dp un : Nat} {fr : Option (List Env)} {gd : Option (List Code)} {s : Shared} {E : Value → Shared → Prop} {mean : ExcName → Option Value} {mg mb : Str → Option Value}
local macro_rules | `(tactic| walk_at "call ref") => `(tactic| ((first
  | (refine kept_str (show_S (by first | exact take_short (steps_len _ _) (txt_short _ _) | exact txt_30 _ _ | exact qt_30 _ _) (Bd.of (by k_asm) (by k_asm) (by k_asm)) (by (try dsimp only [Around.deeper]); omega)) (by k_asm) (by k_asm) ?_; intro u' h' tk' F' N')
  | (refine kept_str (quote_S (by first | exact take_short (steps_len _ _) (txt_short _ _) | exact txt_30 _ _ | exact sh_30 _ _) (Bd.of (by k_asm) (by k_asm) (by k_asm)) (by (try dsimp only [Around.deeper]); omega)) (by k_asm) (by k_asm) ?_; intro u' h' tk' F' N')
  | (refine kept_str (law_end (txt_short _ _) (News.isList (by k_asm) (by k_mem)) (noDict (by k_asm) (by k_mem)) (by assumption) (steps_len _ _) (steps_01 _ _) (Bd.of (by k_asm) (by k_asm) (by k_asm)) (by (try dsimp only [Around.deeper]); omega)) (by k_asm) (by k_asm) ?_; intro u' h' tk' F' N')
  | (refine kept_int (gap_S (txt_30 _ _) (Bd.of (by k_asm) (by k_asm) (by k_asm)) (by (try dsimp only [Around.deeper]); omega)) (by k_asm) (by k_asm) ?_; intro u' h' tk' F' N')); (try dsimp only)))
local macro_rules | `(tactic| walk_at "pyIter ref") => `(tactic| ((rename Fr _ _ _ _ => lF'); (rename News _ _ _ _ => lN'); with_unfolding_all refine' iterList_st (x := Str.ofString "step") (y := Str.ofString "walked") (by rfl) (by k_mem) (by assumption) lF' lN' (by rfl) (fun i' n' t' ta' h' tk' own' hn' hoff' F' N' => ?_) (fun u' t' h' tk' F' N' => ?_); (all_goals (try clear lF' lN')); (all_goals (try dsimp only at F')); (all_goals (try simp only [List.nil_append, List.cons_append, List.append_nil] at N')); (all_goals (try k_fold))))
local macro_rules | `(tactic| walk_at "call ref") => `(tactic| ((refine kept_int (law_code (Bd.of (by k_asm) (by k_asm) (by k_asm)) (by (try dsimp only [Around.deeper]); omega)) (by k_asm) (by k_asm) ?_; intro u' h' tk' F' N'); (try dsimp only)))
local macro_rules | `(tactic| walk_at "call builtin:chr") => `(tactic| (refine chr_S ?_; intro t' k'; (try dsimp only)))
local macro_rules | `(tactic| walk_at "CompSrc") => `(tactic| (k_here; (with_reducible show LCg.CompSrc _ _ _ _ _ _ _ _ (Str.ofString "number") _ _ _ _ _); k_dflt (refine LCg.CompSrc.ledger (by rfl) (by k_asm) (by k_asm) (by k_mem) (by rw [PySem.sizeLine_eq]; simp only [List.size_toArray, List.length_map, List.length_take] at *; omega) (fun g' => rest_mapI (fun k => S [(codeF k).toNat]) (by assumption) (.inr ⟨_, (by k_mem), rfl, _, rfl⟩) (fun c' u' I' oI' C' oC' D' m' ys' h' tk' E' hc' hC' hx' F' N' off' ne' => ?_) (fun ys' hys' D' h' tk' F' N' o1' => ?_))); (all_goals (try dsimp only))))
local macro_rules | `(tactic| walk_at "call builtin:str.join") => `(tactic| (refine join_text (News.isList (by k_asm) (by k_mem)) (by assumption) (by simp only [List.length_map, List.length_take]; omega) ?_; intro t' k'; (try dsimp only)))
local macro_rules | `(tactic| walk_at "InvEndN") => `(tactic| ((first | rw [stp_y (by assumption)] | rw [stp_n (by assumption)]); walk_at "InvEndN"))
local macro_rules | `(tactic| walk_at "call builtin:len") => `(tactic| ((first | refine len_S (len_a _ _) ?_ | refine len_S (len_b _ _) ?_); intro t' k'; (try dsimp only)))
set_option maxHeartbeats 8000000 in
theorem law_law {D : Addr} {vs : List Value} {ns : List Int} (hl : s.heap.IsList D vs.toArray) (hi : IntsAre vs ns) (hn : ns.length ≤ 63) (hlay : PyData.layable0 (.list (ns.map .int)) = true) (B : Bd w mean mg mb s.heap) (hroom : dp + 6 < recursionLimit) :
    wpAny (model PySem.Challenge.rw_mg0014_01.row.prog w) (Around.mk none dp fr gd un) (call (.ref 118) [.ref D]) (fun v s' => v = .bool true ∧ Keeps s s') E s := by
  obtain ⟨X, T⟩ := B
  revert X
  k_fill
  intro X
  with_unfolding_all refine' callPC [(Str.ofString "script", .ref D)] ?k1 ?k2 ?k3 ?k4 ?k5 ?k6 ?k7 ?k8 ?k9 ?k10 ?k11 ?_
  w_top off
  walk_at "m_enter"
  k_steps
  all_goals try exact MapEnd.intro (by k_asm) (by k_asm)
  all_goals try exact no_part (by assumption)
  all_goals refine EndP.intro (by k_asm) (congrArg Value.bool ?_)
  all_goals first | (rw [plain3]; exact beq_self_eq_true _) | (rw [plain2]; exact beq_self_eq_true _)
end
end Mine
end
open PySem PySem.W PySem.Calls PyProof.Rows
set_option maxRecDepth 100000
namespace Mine
theorem law_at {w : World} {h : Heap} {mg : Str → Option Value} (X : (hd.heap_39 w.params).In h) (G : h.Ns mainGlobals mg) : mg (Str.ofString "law") = some (.ref 118) := mg_of X G (by with_unfolding_all rfl)
end Mine
set_option maxHeartbeats 8000000 in
theorem PySem.Challenge.cw_mg0014_01_holds : PySem.Challenge.rw_mg0014_01.Holds := by
  w_top off
  refine Mine.hd ?_
  k_fill
  intro w s₀ s₁ mg mb G Y fa o pm cd doc dV kV ho hd hcd hD hmg hg args vals as hpre hlay hrd hwl hlo
  have KX := kIn_of Y
  refine Ground.open G ?_
  intro T B D TE TW
  wrow_args hpre hlay hrd hwl hlo
  clear G Y D TE TW B hd hD hcd ho
  have hfa := Mine.law_at KX T.g
  obtain rfl : fa = 118 := Value.ref.inj (Option.some.inj (hmg.symm.trans hfa))
  refine wpAny_mono (Mine.law_law (by assumption) (by assumption) (by omega) (by assumption) ⟨KX, T⟩ (by decide)) (fun v s' hq => ?_) (fun e s' x => x)
  obtain ⟨rfl, h', tk', rfl, hk⟩ := hq
  refine GoodW.toG ⟨.inl ⟨_, .bool true, [], rfl, raisesW_false ?_, .bool true, ?_, unshared_nil⟩, hk, rfl, hg⟩
  · wrow_none_raised
  · wrow_post
