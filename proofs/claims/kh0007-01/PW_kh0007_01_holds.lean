import PyProof.Rows.All
import Wide.All
import OpenK.AllK
import Wide.FinOn
import Lean
import PySem.Challenge.RW_kh0007_01
set_option Elab.async false
set_option maxRecDepth 100000
section
open PySem PySem.W PyProof.Rows
set_option maxRecDepth 100000
set_option synthInstance.maxSize 1
set_option maxHeartbeats 0
namespace Mine
open_top hd for PySem.Challenge.rw_kh0007_01
end Mine

end
section
open PySem PySem.W PyProof.Rows PySem.Calls PySem.Spec
set_option maxRecDepth 100000
set_option maxHeartbeats 4000000
namespace Mine

theorem int_mul_inst (a : Int) (t : Tok) (x C dx : Addr) :
    Meets (Builtin.«int.__mul__» ⟨[.int a t, .ref x], []⟩) (fun _ R s => s.heap.get? x = some (instObj C dx) ∧ R (.ok (.ret Value.notImplemented)) s) :=
  .of_wp fun prog w A R s h => by
    obtain ⟨hl, h⟩ := h
    show wpAny _ _ (Builtin.Int.intBinary "__mul__" (fun x y => Builtin.intProduct "__mul__" x y) false ⟨[.int a t, .ref x], []⟩) _ _ _
    unfold Builtin.Int.intBinary
    refine wpAny_bind (wpAny_of_eq (a := (Value.int a t, [Value.ref x])) rfl ?_)
    refine wpAny_bind (wpAny_of_eq (a := a) rfl ?_)
    refine wpAny_bind ?_
    show wpAny _ _ (asInt? (.ref x)) _ _ _
    unfold asInt?
    refine wpAny_bind (wpAny_load hl (wpAny_pure ?_))
    refine wpAny_bind (wpAny_rule ?_)
    exact wpAny_pure ⟨_, rfl, h⟩

section
variable {prog : Program} {w : World} {A : Around} {E : Value → Shared → Prop} {s : Shared} {K : Frag} {x C dx L f f' : Addr} {h₀ : Heap} {m : Str → Option Value} {od : Obj}

theorem mul_intR {i : Int} {t : Tok} {Q : Value → Shared → Prop} (Fm : Fr h₀ L s.heap m) (X₀ : K.In h₀) (I : W.InstAt s.heap x (instObj C dx) C (some od)) (hc : selfFirst K C = true)
    (hs : findIn K (.ref C) (PySem.dunder "mul") = some (some (.ref f'))) (hr : findIn K (.ref C) (dunderR "mul") = some (some (.ref f))) (hf : isFn K (.ref f) = true)
    (hsub : subIn K (.ref C) (.type "int") = some false)
    (h : wpAny (model prog w) A (call (.ref f) [.ref x, .int i t]) (W.CmpBack Q) E s) : wpAny (model prog w) A (binaryOp .Mult (.int i t) (.ref x)) Q E s := by
  have X := X₀.keeps Fm.keep
  obtain ⟨cd, rest, hcd, hm⟩ := ksp_first hc
  have one := ksp_try X I hr hf h
  have T1 : s.TypeIs (.int i t) "int" := typeIs_int s i t
  have Hget : s.heap.get? x = some (instObj C dx) := I.at_
  have hc : wpAny (model prog w) A (call (.builtin "int.__mul__") [.int i t, .ref x]) (fun v s' => v = .notImplemented ∧ (none : Option Value) = none ∧ s' = s) E s := by
    refine call_meets F.slot_int_mul T1 F.entry_int_mul (F.args_int_mul_2 _ _) (int_mul_inst i t x C dx) ?_
    exact ⟨Hget, rfl, rfl, rfl⟩
  have tr : wpAny (model prog w) A (tryMethod (.int i t) (PySem.dunder "mul") (.ref x)) (fun r s' => r = none ∧ s' = s) E s := by
    with_reducible refine wpAny_tryMethod_declines (id := "int.__mul__") (T := "int") T1 ?_ ?_
    · with_reducible exact F.slot_int_mul
    · with_reducible exact hc
  obtain ⟨hh, g, d, tt, os⟩ := s
  have L1 : Looks (model prog w) hh (typeOf (.ref x)) (.ref C) := I.type
  have L2 : Looks (model prog w) hh (typeOf (.int i t)) (.type "int") := Looks.of_pure rfl
  have L3 : Looks (model prog w) hh (fillsNumberSlot (.ref C) "mul") true := fills_K X hcd hm hs
  have L4 : Looks (model prog w) hh (fillsNumberSlot (.type "int") "mul") true := Looks.of_pure F.fills_int_mul
  have L5 : Looks (model prog w) hh (isSubtype (.ref C) (.type "int")) false := looks_subIn X hsub
  have L7 : Looks (model prog w) hh (numberSlotInPython (.type "int") "mul") false := Looks.of_pure rfl
  have hne : (Value.type "int" == Value.ref C) = false := Bool.eq_false_iff.mpr fun q => by cases beq_iff_eq.mp q
  have hi : Operator.Mult.info = ("*", "mul") := rfl
  simp only [binaryOp, hi]
  refine wpAny_holding (wpAny_bind ?_)
  unfold binaryOp1
  with_reducible refine wpAny_bind ?_
  with_reducible refine L2.at ?_
  with_reducible refine wpAny_bind ?_
  with_reducible refine L1.at ?_
  with_reducible refine wpAny_bind ?_
  with_reducible refine L4.at ?_
  simp only [hne, Bool.false_eq_true, if_false]
  ksp_lk
  refine wpAny_mono tr (fun r s' hr' => ?_) fun _ _ e => e
  obtain ⟨rfl, rfl⟩ := hr'
  ksp_lk
  refine wpAny_mono one (fun r s' hr' => ?_) fun _ _ e => e
  obtain ⟨v, rfl, hq⟩ := hr'
  ksp_lk
  exact hq
end
end Mine

end
section
open PySem PySem.W PyProof.Rows PySem.Calls PySem.Spec
set_option maxRecDepth 100000
set_option maxHeartbeats 0
namespace Mine
noncomputable abbrev prog : Program := PySem.Challenge.rw_kh0007_01.row.prog
noncomputable abbrev loose : List Str := looseW hd.view_39 [Str.ofString "FQ"]
theorem fill0 : (fun (_ : OpenLaw) (_ : Params → Frag) => True) PySem.Challenge.rw_kh0007_01 hd.heap_39 := by
  k_fill
  trivial
abbrev fqI (dx : Addr) : Obj := instObj 214 dx
abbrev fqD (h1 : Int) (k1 : Tok) (p : Int) (t1 : Tok) (h2 : Int) (k2 : Tok) (n : Int) (t2 : Tok) : Obj :=
  dictOf [⟨h1, .str (Str.ofString "field_modulus") k1, .int p t1⟩, ⟨h2, .str (Str.ofString "n") k2, .int n t2⟩] 2
def In0 (p i : Int) : Prop := 0 ≤ i ∧ i < p
/-- an FQ of modulus p and value n stands in the ledger -/
def FQm (news : List (Addr × Obj)) (p n : Int) (x : Addr) : Prop :=
  ∃ dx h1 k1 t1 h2 k2 t2, (x, fqI dx) ∈ news ∧ (dx, fqD h1 k1 p t1 h2 k2 n t2) ∈ news ∧ In0 p n
/-- what a call that makes one FQ hands back -/
abbrev FqRet (h₀ : Heap) (L : Addr) (m : Str → Option Value) (news : List (Addr × Obj)) (s : Shared) (Q : Value → Shared → Prop) (p n : Int) : Prop :=
  ∀ z dz h1 k1 t1 h2 k2 t2 h' tk', Fr h₀ L h' m → News h₀ L h' ((z, fqI dz) :: (dz, fqD h1 k1 p t1 h2 k2 n t2) :: news) → (∀ q ∈ news, q.1 < dz) → dz < z → Q (.ref z) { s with heap := h', toks := tk' }

theorem FqRet.eq {h₀ : Heap} {L : Addr} {m : Str → Option Value} {news : List (Addr × Obj)} {s : Shared} {Q : Value → Shared → Prop} {p n n' : Int} (h : FqRet h₀ L m news s Q p n) (e : n' = n) : FqRet h₀ L m news s Q p n' := e ▸ h

/-- moduli in use, and values in bounds -/
def Pok (p : Int) : Prop := 4 < p ∧ p < 2 ^ 400
theorem Pok.pos {p : Int} (h : Pok p) : 0 < p := by have := h.1; omega
theorem fmod_pos {v p : Int} (h : 0 < p) : Int.fmod v p = v % p := Int.fmod_eq_emod_of_nonneg v (by omega)
theorem fmod2 {v p : Int} (h : 0 < p) : Int.fmod (Int.fmod v p) p = v % p := by
  rw [fmod_pos h, fmod_pos h, Int.emod_emod_of_dvd v (Int.dvd_refl p)]
theorem in0_emod {p : Int} (v : Int) (h : Pok p) : In0 p (v % p) := ⟨Int.emod_nonneg _ (by have := h.1; omega), Int.emod_lt_of_pos _ h.pos⟩
theorem in0_zero {p : Int} (h : Pok p) : In0 p 0 := ⟨by omega, by have := h.1; omega⟩
theorem in0_one {p : Int} (h : Pok p) : In0 p 1 := ⟨by omega, by have := h.1; omega⟩
theorem bits_of_in0 {p i : Int} (h : Pok p) (hi : In0 p i) : Builtin.Int.intBits i ≤ 400 := by
  refine intBits_le_iff.mpr ?_
  have h1 := h.2
  obtain ⟨h2, h3⟩ := hi
  have h4 : (2 : Int) ^ 400 = ((2 ^ 400 : Nat) : Int) := by decide +kernel
  rw [h4] at h1
  generalize (2 : Nat) ^ 400 = Y at *
  omega
theorem mulOk_in0 {p i j : Int} (h : Pok p) (hi : In0 p i) (hj : In0 p j) : IntMulOk i j :=
  IntMulOk.of_le (bits_of_in0 h hi) (bits_of_in0 h hj) (by decide)
theorem mulOk_small {p i : Int} (h : Pok p) (hi : In0 p i) {k : Int} (hk : k.natAbs < 16) : IntMulOk i k :=
  IntMulOk.of_le (bits_of_in0 h hi) ((intBits_le_iff (m := 4)).mpr hk) (by decide)

local macro_rules | `(tactic| k_room) => `(tactic| ((try simp only [depth_under_make, depth_under_kw, depth_in1, depth_deeper]); (try dsimp only [ktrTop]); omega))

section
variable {w : World} {mean : ExcName → Option Value} {mg mb : Str → Option Value} {dp un : Nat} {gd : Option (List Code)} {cn : Str} {cs : Scope} {a : Addr} {ccd : Value} {cl : List (Str × Addr)} {outer : List Env} {A₀ : Around} {base h₀ : Heap} {L : Addr} {m : Str → Option Value} {news : List (Addr × Obj)} {s : Shared} {Q E : Value → Shared → Prop}

theorem made_spec (B : Below A₀ base outer h₀) (F : Fr h₀ L s.heap m) (X : (hd.heap_39 w.params).In h₀) (N : News h₀ L s.heap news) (T : Top hd.view_39 loose mean mg mb h₀) (hk : cs.kind = .function)
    (hdp : dp + 4 < recursionLimit) {x : Addr} {p v n : Int} {t : Tok} (hx : FQm news p n x) (hp : Pok p) (hret : FqRet h₀ L m news s Q p (v % p)) :
    wpAny (model prog w) (ktrTop dp un gd cn cs L a ccd cl outer) (call (.ref 197) [.ref x, .int v t]) Q E s := by
  obtain ⟨dx, h1, k1, t1, h2, k2, t2, hx, hdx, hi⟩ := hx
  have hp0 := hp.pos
  replace hret := hret.eq (fmod_pos (v := v) hp0)
  refine wpAny_call ?_
  k_dflt (refine' code_def ?k1 ?k2 ?k3 ?k4 ?k5 ?kA ?kF ?kK ?k6 ?k7 ?k8 ?k9 ?kB ?_ ?c2 ?c3 ?c4 ?c5; (case kA => exact rfl); (case kF => exact rfl); (case kK => assumption); (case k1 => k_asm); (case k2 => k_asm); (case k3 => k_asm); (case k4 => k_asm); (case k5 => k_asm); (case k6 => k_is); (case k7 => k_is); (case k8 => k_room); (case k9 => exact BindsTo.of_eq rfl); (case c5 => decide); (case kB => exact locs rfl); (case c2 => exact rfl); (case c3 => exact rfl); (case c4 => exact rfl); k_whole; intro g' L' h' FG' F' N' B' X' T'; (try dsimp only); (try k_fold))
  k_steps
  exact hret _ _ _ _ _ _ _ _ _ _ (by k_asm) (by k_asm) (by k_asm) (by k_asm)
def Stop (P : Prop) : Prop := P
theorem stop_here {P : Prop} (h : Stop P) : P := h
theorem stop_go {P : Prop} (h : P) : Stop P := h

local macro_rules | `(tactic| walk_at "call ref") => `(tactic| (k_here; refine stop_here ?_))

theorem zero_spec (B : Below A₀ base outer h₀) (F : Fr h₀ L s.heap m) (X : (hd.heap_39 w.params).In h₀) (N : News h₀ L s.heap news) (T : Top hd.view_39 loose mean mg mb h₀) (hk : cs.kind = .function)
    (hdp : dp + 6 < recursionLimit) {x : Addr} {p n : Int} (hx : FQm news p n x) (hp : Pok p) (hret : FqRet h₀ L m news s Q p 0) :
    wpAny (model prog w) (ktrTop dp un gd cn cs L a ccd cl outer) (call (.ref 211) [.ref x]) Q E s := by
  obtain ⟨dx, h1, k1, t1, h2, k2, t2, hx, hdx, hi⟩ := hx
  replace hret := hret.eq (Int.zero_emod p)
  refine wpAny_call ?_
  k_dflt (refine' code_def ?k1 ?k2 ?k3 ?k4 ?k5 ?kA ?kF ?kK ?k6 ?k7 ?k8 ?k9 ?kB ?_ ?c2 ?c3 ?c4 ?c5; (case kA => exact rfl); (case kF => exact rfl); (case kK => assumption); (case k1 => k_asm); (case k2 => k_asm); (case k3 => k_asm); (case k4 => k_asm); (case k5 => k_asm); (case k6 => k_is); (case k7 => k_is); (case k8 => k_room); (case k9 => exact BindsTo.of_eq rfl); (case c5 => decide); (case kB => exact locs rfl); (case c2 => exact rfl); (case c3 => exact rfl); (case c4 => exact rfl); k_whole; intro g' L' h' FG' F' N' B' X' T'; (try dsimp only); (try k_fold))
  k_steps
  repeat (any_goals (first
    | ((with_reducible show Stop (wpAny _ _ (call (Value.ref 197) [Value.ref _, Value.int _ _]) _ _ _)); refine stop_go ?_; k_dflt (refine' made_spec ?k1 ?k2 ?k3 ?k4 ?k5 ?kK ?kd ?kx ?kp ?_; (case k1 => k_asm); (case k2 => k_asm); (case k3 => k_asm); (case k4 => k_asm); (case k5 => k_asm); (case kK => first | exact rfl | assumption); (case kd => k_room); (case kx => exact ⟨_, _, _, _, _, _, _, by k_mem, by k_mem, by first | assumption | exact in0_emod _ (by assumption) | exact in0_zero (by assumption) | exact in0_one (by assumption)⟩); (case kp => assumption)); intro z9 dz9 h19 k19 t19 h29 k29 t29 h9 tk9 F9 N9 l9 l9'; (try dsimp only [PySem.W.CmpBack]); (try k_fold); k_steps)))
  exact hret _ _ _ _ _ _ _ _ _ _ (by k_asm) (by k_asm) (by k_asm) (by k_asm)

theorem one_spec (B : Below A₀ base outer h₀) (F : Fr h₀ L s.heap m) (X : (hd.heap_39 w.params).In h₀) (N : News h₀ L s.heap news) (T : Top hd.view_39 loose mean mg mb h₀) (hk : cs.kind = .function)
    (hdp : dp + 6 < recursionLimit) {x : Addr} {p n : Int} (hx : FQm news p n x) (hp : Pok p) (hret : FqRet h₀ L m news s Q p 1) :
    wpAny (model prog w) (ktrTop dp un gd cn cs L a ccd cl outer) (call (.ref 204) [.ref x]) Q E s := by
  obtain ⟨dx, h1, k1, t1, h2, k2, t2, hx, hdx, hi⟩ := hx
  replace hret := hret.eq (n' := 1 % p) (Int.emod_eq_of_lt (by omega) (by have := hp.1; omega))
  refine wpAny_call ?_
  k_dflt (refine' code_def ?k1 ?k2 ?k3 ?k4 ?k5 ?kA ?kF ?kK ?k6 ?k7 ?k8 ?k9 ?kB ?_ ?c2 ?c3 ?c4 ?c5; (case kA => exact rfl); (case kF => exact rfl); (case kK => assumption); (case k1 => k_asm); (case k2 => k_asm); (case k3 => k_asm); (case k4 => k_asm); (case k5 => k_asm); (case k6 => k_is); (case k7 => k_is); (case k8 => k_room); (case k9 => exact BindsTo.of_eq rfl); (case c5 => decide); (case kB => exact locs rfl); (case c2 => exact rfl); (case c3 => exact rfl); (case c4 => exact rfl); k_whole; intro g' L' h' FG' F' N' B' X' T'; (try dsimp only); (try k_fold))
  k_steps
  repeat (any_goals (first
    | ((with_reducible show Stop (wpAny _ _ (call (Value.ref 197) [Value.ref _, Value.int _ _]) _ _ _)); refine stop_go ?_; k_dflt (refine' made_spec ?k1 ?k2 ?k3 ?k4 ?k5 ?kK ?kd ?kx ?kp ?_; (case k1 => k_asm); (case k2 => k_asm); (case k3 => k_asm); (case k4 => k_asm); (case k5 => k_asm); (case kK => first | exact rfl | assumption); (case kd => k_room); (case kx => exact ⟨_, _, _, _, _, _, _, by k_mem, by k_mem, by first | assumption | exact in0_emod _ (by assumption) | exact in0_zero (by assumption) | exact in0_one (by assumption)⟩); (case kp => assumption)); intro z9 dz9 h19 k19 t19 h29 k29 t29 h9 tk9 F9 N9 l9 l9'; (try dsimp only [PySem.W.CmpBack]); (try k_fold); k_steps)))
  exact hret _ _ _ _ _ _ _ _ _ _ (by k_asm) (by k_asm) (by k_asm) (by k_asm)

theorem mul_spec (B : Below A₀ base outer h₀) (F : Fr h₀ L s.heap m) (X : (hd.heap_39 w.params).In h₀) (N : News h₀ L s.heap news) (T : Top hd.view_39 loose mean mg mb h₀) (hk : cs.kind = .function)
    (hdp : dp + 6 < recursionLimit) {x y : Addr} {p i j : Int} (hx : FQm news p i x) (hy : FQm news p j y) (hp : Pok p) (hret : FqRet h₀ L m news s Q p (i * j % p)) :
    wpAny (model prog w) (ktrTop dp un gd cn cs L a ccd cl outer) (call (.ref 84) [.ref x, .ref y]) Q E s := by
  obtain ⟨dx, h1, k1, t1, h2, k2, t2, hx, hdx, hi⟩ := hx
  obtain ⟨dy, h3, k3, t3, h4, k4, t4, hy, hdy, hj⟩ := hy
  have hp0 := hp.pos
  have hm := mulOk_in0 hp hi hj
  replace hret := hret.eq (n' := Int.fmod (i * j) p % p) (by rw [fmod_pos hp0, Int.emod_emod_of_dvd _ (Int.dvd_refl p)])
  refine wpAny_call ?_
  k_dflt (refine' code_def ?k1 ?k2 ?k3 ?k4 ?k5 ?kA ?kF ?kK ?k6 ?k7 ?k8 ?k9 ?kB ?_ ?c2 ?c3 ?c4 ?c5; (case kA => exact rfl); (case kF => exact rfl); (case kK => assumption); (case k1 => k_asm); (case k2 => k_asm); (case k3 => k_asm); (case k4 => k_asm); (case k5 => k_asm); (case k6 => k_is); (case k7 => k_is); (case k8 => k_room); (case k9 => exact BindsTo.of_eq rfl); (case c5 => decide); (case kB => exact locs rfl); (case c2 => exact rfl); (case c3 => exact rfl); (case c4 => exact rfl); k_whole; intro g' L' h' FG' F' N' B' X' T'; (try dsimp only); (try k_fold))
  k_steps
  repeat (any_goals (first
    | ((with_reducible show Stop (wpAny _ _ (call (Value.ref 197) [Value.ref _, Value.int _ _]) _ _ _)); refine stop_go ?_; k_dflt (refine' made_spec ?k1 ?k2 ?k3 ?k4 ?k5 ?kK ?kd ?kx ?kp ?_; (case k1 => k_asm); (case k2 => k_asm); (case k3 => k_asm); (case k4 => k_asm); (case k5 => k_asm); (case kK => first | exact rfl | assumption); (case kd => k_room); (case kx => exact ⟨_, _, _, _, _, _, _, by k_mem, by k_mem, by first | assumption | exact in0_emod _ (by assumption) | exact in0_zero (by assumption) | exact in0_one (by assumption)⟩); (case kp => assumption)); intro z9 dz9 h19 k19 t19 h29 k29 t29 h9 tk9 F9 N9 l9 l9'; (try dsimp only [PySem.W.CmpBack]); (try k_fold); k_steps)))
  exact hret _ _ _ _ _ _ _ _ _ _ (by k_asm) (by k_asm) (by k_asm) (by k_asm)

theorem sub_spec (B : Below A₀ base outer h₀) (F : Fr h₀ L s.heap m) (X : (hd.heap_39 w.params).In h₀) (N : News h₀ L s.heap news) (T : Top hd.view_39 loose mean mg mb h₀) (hk : cs.kind = .function)
    (hdp : dp + 6 < recursionLimit) {x y : Addr} {p i j : Int} (hx : FQm news p i x) (hy : FQm news p j y) (hp : Pok p) (hret : FqRet h₀ L m news s Q p ((i - j) % p)) :
    wpAny (model prog w) (ktrTop dp un gd cn cs L a ccd cl outer) (call (.ref 112) [.ref x, .ref y]) Q E s := by
  obtain ⟨dx, h1, k1, t1, h2, k2, t2, hx, hdx, hi⟩ := hx
  obtain ⟨dy, h3, k3, t3, h4, k4, t4, hy, hdy, hj⟩ := hy
  have hp0 := hp.pos
  replace hret := hret.eq (n' := Int.fmod (i - j) p % p) (by rw [fmod_pos hp0, Int.emod_emod_of_dvd _ (Int.dvd_refl p)])
  refine wpAny_call ?_
  k_dflt (refine' code_def ?k1 ?k2 ?k3 ?k4 ?k5 ?kA ?kF ?kK ?k6 ?k7 ?k8 ?k9 ?kB ?_ ?c2 ?c3 ?c4 ?c5; (case kA => exact rfl); (case kF => exact rfl); (case kK => assumption); (case k1 => k_asm); (case k2 => k_asm); (case k3 => k_asm); (case k4 => k_asm); (case k5 => k_asm); (case k6 => k_is); (case k7 => k_is); (case k8 => k_room); (case k9 => exact BindsTo.of_eq rfl); (case c5 => decide); (case kB => exact locs rfl); (case c2 => exact rfl); (case c3 => exact rfl); (case c4 => exact rfl); k_whole; intro g' L' h' FG' F' N' B' X' T'; (try dsimp only); (try k_fold))
  k_steps
  repeat (any_goals (first
    | ((with_reducible show Stop (wpAny _ _ (call (Value.ref 197) [Value.ref _, Value.int _ _]) _ _ _)); refine stop_go ?_; k_dflt (refine' made_spec ?k1 ?k2 ?k3 ?k4 ?k5 ?kK ?kd ?kx ?kp ?_; (case k1 => k_asm); (case k2 => k_asm); (case k3 => k_asm); (case k4 => k_asm); (case k5 => k_asm); (case kK => first | exact rfl | assumption); (case kd => k_room); (case kx => exact ⟨_, _, _, _, _, _, _, by k_mem, by k_mem, by first | assumption | exact in0_emod _ (by assumption) | exact in0_zero (by assumption) | exact in0_one (by assumption)⟩); (case kp => assumption)); intro z9 dz9 h19 k19 t19 h29 k29 t29 h9 tk9 F9 N9 l9 l9'; (try dsimp only [PySem.W.CmpBack]); (try k_fold); k_steps)))
  exact hret _ _ _ _ _ _ _ _ _ _ (by k_asm) (by k_asm) (by k_asm) (by k_asm)

theorem mulI_spec (B : Below A₀ base outer h₀) (F : Fr h₀ L s.heap m) (X : (hd.heap_39 w.params).In h₀) (N : News h₀ L s.heap news) (T : Top hd.view_39 loose mean mg mb h₀) (hk : cs.kind = .function)
    (hdp : dp + 6 < recursionLimit) {x : Addr} {p i j : Int} {tj : Tok} (hx : FQm news p i x) (hj : j.natAbs < 16) (hp : Pok p) (hret : FqRet h₀ L m news s Q p (i * j % p)) :
    wpAny (model prog w) (ktrTop dp un gd cn cs L a ccd cl outer) (call (.ref 84) [.ref x, .int j tj]) Q E s := by
  obtain ⟨dx, h1, k1, t1, h2, k2, t2, hx, hdx, hi⟩ := hx
  have hp0 := hp.pos
  have hm := mulOk_small hp hi hj
  replace hret := hret.eq (n' := Int.fmod (i * j) p % p) (by rw [fmod_pos hp0, Int.emod_emod_of_dvd _ (Int.dvd_refl p)])
  refine wpAny_call ?_
  k_dflt (refine' code_def ?k1 ?k2 ?k3 ?k4 ?k5 ?kA ?kF ?kK ?k6 ?k7 ?k8 ?k9 ?kB ?_ ?c2 ?c3 ?c4 ?c5; (case kA => exact rfl); (case kF => exact rfl); (case kK => assumption); (case k1 => k_asm); (case k2 => k_asm); (case k3 => k_asm); (case k4 => k_asm); (case k5 => k_asm); (case k6 => k_is); (case k7 => k_is); (case k8 => k_room); (case k9 => exact BindsTo.of_eq rfl); (case c5 => decide); (case kB => exact locs rfl); (case c2 => exact rfl); (case c3 => exact rfl); (case c4 => exact rfl); k_whole; intro g' L' h' FG' F' N' B' X' T'; (try dsimp only); (try k_fold))
  k_steps
  repeat (any_goals (first
    | ((with_reducible show Stop (wpAny _ _ (call (Value.ref 197) [Value.ref _, Value.int _ _]) _ _ _)); refine stop_go ?_; k_dflt (refine' made_spec ?k1 ?k2 ?k3 ?k4 ?k5 ?kK ?kd ?kx ?kp ?_; (case k1 => k_asm); (case k2 => k_asm); (case k3 => k_asm); (case k4 => k_asm); (case k5 => k_asm); (case kK => first | exact rfl | assumption); (case kd => k_room); (case kx => exact ⟨_, _, _, _, _, _, _, by k_mem, by k_mem, by first | assumption | exact in0_emod _ (by assumption) | exact in0_zero (by assumption) | exact in0_one (by assumption)⟩); (case kp => assumption)); intro z9 dz9 h19 k19 t19 h29 k29 t29 h9 tk9 F9 N9 l9 l9'; (try dsimp only [PySem.W.CmpBack]); (try k_fold); k_steps)))
  exact hret _ _ _ _ _ _ _ _ _ _ (by k_asm) (by k_asm) (by k_asm) (by k_asm)

theorem rmul_spec (B : Below A₀ base outer h₀) (F : Fr h₀ L s.heap m) (X : (hd.heap_39 w.params).In h₀) (N : News h₀ L s.heap news) (T : Top hd.view_39 loose mean mg mb h₀) (hk : cs.kind = .function)
    (hdp : dp + 8 < recursionLimit) {x : Addr} {p i j : Int} {tj : Tok} (hx : FQm news p i x) (hj : j.natAbs < 16) (hp : Pok p) (hret : FqRet h₀ L m news s Q p (i * j % p)) :
    wpAny (model prog w) (ktrTop dp un gd cn cs L a ccd cl outer) (call (.ref 91) [.ref x, .int j tj]) Q E s := by
  obtain ⟨dx, h1, k1, t1, h2, k2, t2, hx, hdx, hi⟩ := hx

  refine wpAny_call ?_
  k_dflt (refine' code_def ?k1 ?k2 ?k3 ?k4 ?k5 ?kA ?kF ?kK ?k6 ?k7 ?k8 ?k9 ?kB ?_ ?c2 ?c3 ?c4 ?c5; (case kA => exact rfl); (case kF => exact rfl); (case kK => assumption); (case k1 => k_asm); (case k2 => k_asm); (case k3 => k_asm); (case k4 => k_asm); (case k5 => k_asm); (case k6 => k_is); (case k7 => k_is); (case k8 => k_room); (case k9 => exact BindsTo.of_eq rfl); (case c5 => decide); (case kB => exact locs rfl); (case c2 => exact rfl); (case c3 => exact rfl); (case c4 => exact rfl); k_whole; intro g' L' h' FG' F' N' B' X' T'; (try dsimp only); (try k_fold))
  k_steps
  repeat (any_goals (first
    | ((with_reducible show Stop (wpAny _ _ (call (Value.ref 197) [Value.ref _, Value.int _ _]) _ _ _)); refine stop_go ?_; k_dflt (refine' made_spec ?k1 ?k2 ?k3 ?k4 ?k5 ?kK ?kd ?kx ?kp ?_; (case k1 => k_asm); (case k2 => k_asm); (case k3 => k_asm); (case k4 => k_asm); (case k5 => k_asm); (case kK => first | exact rfl | assumption); (case kd => k_room); (case kx => exact ⟨_, _, _, _, _, _, _, by k_mem, by k_mem, by first | assumption | exact in0_emod _ (by assumption) | exact in0_zero (by assumption) | exact in0_one (by assumption)⟩); (case kp => assumption)); intro z9 dz9 h19 k19 t19 h29 k29 t29 h9 tk9 F9 N9 l9 l9'; (try dsimp only [PySem.W.CmpBack]); (try k_fold); k_steps)
    | ((with_reducible show Stop (wpAny _ _ (call (Value.ref 84) [Value.ref _, Value.int _ _]) _ _ _)); refine stop_go ?_; k_dflt (refine' mulI_spec ?k1 ?k2 ?k3 ?k4 ?k5 ?kK ?kd ?kx ?kj ?kp ?_; (case k1 => k_asm); (case k2 => k_asm); (case k3 => k_asm); (case k4 => k_asm); (case k5 => k_asm); (case kK => first | exact rfl | assumption); (case kd => k_room); (case kx => exact ⟨_, _, _, _, _, _, _, by k_mem, by k_mem, by first | assumption | exact in0_emod _ (by assumption) | exact in0_zero (by assumption) | exact in0_one (by assumption)⟩); (case kj => assumption); (case kp => assumption)); intro z9 dz9 h19 k19 t19 h29 k29 t29 h9 tk9 F9 N9 l9 l9'; (try dsimp only [PySem.W.CmpBack]); (try k_fold); k_steps)))
  exact hret _ _ _ _ _ _ _ _ _ _ (by k_asm) (by k_asm) (by k_asm) (by k_asm)

theorem eq_spec (B : Below A₀ base outer h₀) (F : Fr h₀ L s.heap m) (X : (hd.heap_39 w.params).In h₀) (N : News h₀ L s.heap news) (T : Top hd.view_39 loose mean mg mb h₀) (hk : cs.kind = .function)
    (hdp : dp + 4 < recursionLimit) {x y : Addr} {p i j : Int} (hx : FQm news p i x) (hy : FQm news p j y) (hret : ∀ h' tk', Fr h₀ L h' m → News h₀ L h' news → Q (.bool (i == j)) { s with heap := h', toks := tk' }) :
    wpAny (model prog w) (ktrTop dp un gd cn cs L a ccd cl outer) (call (.ref 147) [.ref x, .ref y]) Q E s := by
  obtain ⟨dx, h1, k1, t1, h2, k2, t2, hx, hdx, hi⟩ := hx
  obtain ⟨dy, h3, k3, t3, h4, k4, t4, hy, hdy, hj⟩ := hy

  refine wpAny_call ?_
  k_dflt (refine' code_def ?k1 ?k2 ?k3 ?k4 ?k5 ?kA ?kF ?kK ?k6 ?k7 ?k8 ?k9 ?kB ?_ ?c2 ?c3 ?c4 ?c5; (case kA => exact rfl); (case kF => exact rfl); (case kK => assumption); (case k1 => k_asm); (case k2 => k_asm); (case k3 => k_asm); (case k4 => k_asm); (case k5 => k_asm); (case k6 => k_is); (case k7 => k_is); (case k8 => k_room); (case k9 => exact BindsTo.of_eq rfl); (case c5 => decide); (case kB => exact locs rfl); (case c2 => exact rfl); (case c3 => exact rfl); (case c4 => exact rfl); k_whole; intro g' L' h' FG' F' N' B' X' T'; (try dsimp only); (try k_fold))
  k_steps
  repeat (any_goals (first
    | ((with_reducible show Stop (wpAny _ _ (call (Value.ref 197) [Value.ref _, Value.int _ _]) _ _ _)); refine stop_go ?_; k_dflt (refine' made_spec ?k1 ?k2 ?k3 ?k4 ?k5 ?kK ?kd ?kx ?kp ?_; (case k1 => k_asm); (case k2 => k_asm); (case k3 => k_asm); (case k4 => k_asm); (case k5 => k_asm); (case kK => first | exact rfl | assumption); (case kd => k_room); (case kx => exact ⟨_, _, _, _, _, _, _, by k_mem, by k_mem, by first | assumption | exact in0_emod _ (by assumption) | exact in0_zero (by assumption) | exact in0_one (by assumption)⟩); (case kp => assumption)); intro z9 dz9 h19 k19 t19 h29 k29 t29 h9 tk9 F9 N9 l9 l9'; (try dsimp only [PySem.W.CmpBack]); (try k_fold); k_steps)
    | ((with_reducible show Stop (wpAny _ _ (call (Value.ref 84) [Value.ref _, Value.int _ _]) _ _ _)); refine stop_go ?_; k_dflt (refine' mulI_spec ?k1 ?k2 ?k3 ?k4 ?k5 ?kK ?kd ?kx ?kj ?kp ?_; (case k1 => k_asm); (case k2 => k_asm); (case k3 => k_asm); (case k4 => k_asm); (case k5 => k_asm); (case kK => first | exact rfl | assumption); (case kd => k_room); (case kx => exact ⟨_, _, _, _, _, _, _, by k_mem, by k_mem, by first | assumption | exact in0_emod _ (by assumption) | exact in0_zero (by assumption) | exact in0_one (by assumption)⟩); (case kj => assumption); (case kp => assumption)); intro z9 dz9 h19 k19 t19 h29 k29 t29 h9 tk9 F9 N9 l9 l9'; (try dsimp only [PySem.W.CmpBack]); (try k_fold); k_steps)))
  exact hret _ _ (by k_asm) (by k_asm)
end
end Mine

end
section
open PySem PySem.W PyProof.Rows PySem.Calls PySem.Spec
set_option maxRecDepth 100000
set_option maxHeartbeats 0
namespace Mine
theorem fill1 : (fun (_ : OpenLaw) (_ : Params → Frag) => True) PySem.Challenge.rw_kh0007_01 hd.heap_39 := by
  k_fill
  trivial
theorem mem_of {e : Addr × Obj} {l : List (Addr × Obj)} (h : e ∈ l) : List.Mem e l := h

/-- a tuple of three, of a call's own making -/
abbrev tup3 (a b c : Value) : Obj := { cls := .type "tuple", data := .seq [a, b, c].toArray }
/-- a triple of FQs of modulus p -/
def PTm (news : List (Addr × Obj)) (p : Int) (P : Int × Int × Int) (q : Addr) : Prop :=
  ∃ x y z, (q, tup3 (.ref x) (.ref y) (.ref z)) ∈ news ∧ FQm news p P.1 x ∧ FQm news p P.2.1 y ∧ FQm news p P.2.2 z
theorem FQm.mono {news news' : List (Addr × Obj)} {p n : Int} {x : Addr} (h : FQm news p n x) (hs : ∀ e ∈ news, e ∈ news') : FQm news' p n x :=
  let ⟨dx, h1, k1, t1, h2, k2, t2, a, b, c⟩ := h; ⟨dx, h1, k1, t1, h2, k2, t2, hs _ a, hs _ b, c⟩
theorem PTm.mono {news news' : List (Addr × Obj)} {p : Int} {P : Int × Int × Int} {q : Addr} (h : PTm news p P q) (hs : ∀ e ∈ news, e ∈ news') : PTm news' p P q :=
  let ⟨x, y, z, a, b, c, d⟩ := h; ⟨x, y, z, hs _ a, b.mono hs, c.mono hs, d.mono hs⟩
abbrev PtRet (h₀ : Heap) (L : Addr) (m : Str → Option Value) (news : List (Addr × Obj)) (s : Shared) (Q : Value → Shared → Prop) (p : Int) (P : Int × Int × Int) : Prop :=
  ∀ q news' h' tk', Fr h₀ L h' m → News h₀ L h' news' → (∀ e ∈ news, e ∈ news') → PTm news' p P q → Q (.ref q) { s with heap := h', toks := tk' }

def dW (p x : Int) : Int := x * 3 % p * x % p
def dS (p y z : Int) : Int := y * z % p
def dB (p x y z : Int) : Int := x * y % p * dS p y z % p
def dH (p x y z : Int) : Int := (dW p x * dW p x % p - dB p x y z * 8 % p) % p
def dS2 (p y z : Int) : Int := dS p y z * dS p y z % p
def dX (p x y z : Int) : Int := dH p x y z * 2 % p * dS p y z % p
def dY (p x y z : Int) : Int := (dW p x * ((dB p x y z * 4 % p - dH p x y z) % p) % p - y * 8 % p * y % p * dS2 p y z % p) % p
def dZ (p y z : Int) : Int := dS p y z * 8 % p * dS2 p y z % p
def dblT (p : Int) (P : Int × Int × Int) : Int × Int × Int := (dX p P.1 P.2.1 P.2.2, dY p P.1 P.2.1 P.2.2, dZ p P.2.1 P.2.2)

def aU (p : Int) (P R : Int × Int × Int) : Int := (R.2.1 * P.2.2 % p - P.2.1 * R.2.2 % p) % p
def aV2 (p : Int) (P R : Int × Int × Int) : Int := P.1 * R.2.2 % p
def aV (p : Int) (P R : Int × Int × Int) : Int := (R.1 * P.2.2 % p - aV2 p P R) % p
def aVs (p : Int) (P R : Int × Int × Int) : Int := aV p P R * aV p P R % p
def aVs2 (p : Int) (P R : Int × Int × Int) : Int := aVs p P R * aV2 p P R % p
def aVc (p : Int) (P R : Int × Int × Int) : Int := aV p P R * aVs p P R % p
def aW (p : Int) (P R : Int × Int × Int) : Int := P.2.2 * R.2.2 % p
def aA (p : Int) (P R : Int × Int × Int) : Int := ((aU p P R * aU p P R % p * aW p P R % p - aVc p P R) % p - aVs2 p P R * 2 % p) % p
def addG (p : Int) (P R : Int × Int × Int) : Int × Int × Int :=
  (aV p P R * aA p P R % p, (aU p P R * ((aVs2 p P R - aA p P R) % p) % p - aVc p P R * (P.2.1 * R.2.2 % p) % p) % p, aVc p P R * aW p P R % p)
def addT (p : Int) (P R : Int × Int × Int) : Int × Int × Int :=
  if P.2.2 = 0 ∨ R.2.2 = 0 then (if R.2.2 = 0 then P else R)
  else if R.1 * P.2.2 % p = P.1 * R.2.2 % p then (if R.2.1 * P.2.2 % p = P.2.1 * R.2.2 % p then dblT p P else (1, 1, 0))
  else addG p P R
theorem addT_1 {p X1 Y1 Z1 X2 Y2 Z2 : Int} (h : Z2 = 0) : addT p (X1, Y1, Z1) (X2, Y2, Z2) = (X1, Y1, Z1) := by unfold addT; rw [if_pos (Or.inr h), if_pos h]
theorem addT_2 {p X1 Y1 Z1 X2 Y2 Z2 : Int} (h : Z1 = 0) (h2 : Z2 ≠ 0) : addT p (X1, Y1, Z1) (X2, Y2, Z2) = (X2, Y2, Z2) := by unfold addT; rw [if_pos (Or.inl h), if_neg h2]
theorem addT_3 {p X1 Y1 Z1 X2 Y2 Z2 : Int} (h : Z1 ≠ 0) (h2 : Z2 ≠ 0) (hv : X2 * Z1 % p = X1 * Z2 % p) (hu : Y2 * Z1 % p = Y1 * Z2 % p) : addT p (X1, Y1, Z1) (X2, Y2, Z2) = dblT p (X1, Y1, Z1) := by
  unfold addT; rw [if_neg (fun x => x.elim h h2), if_pos hv, if_pos hu]
theorem addT_4 {p X1 Y1 Z1 X2 Y2 Z2 : Int} (h : Z1 ≠ 0) (h2 : Z2 ≠ 0) (hv : X2 * Z1 % p = X1 * Z2 % p) (hu : Y2 * Z1 % p ≠ Y1 * Z2 % p) : addT p (X1, Y1, Z1) (X2, Y2, Z2) = (1, 1, 0) := by
  unfold addT; rw [if_neg (fun x => x.elim h h2), if_pos hv, if_neg hu]
theorem addT_5 {p X1 Y1 Z1 X2 Y2 Z2 : Int} (h : Z1 ≠ 0) (h2 : Z2 ≠ 0) (hv : X2 * Z1 % p ≠ X1 * Z2 % p) : addT p (X1, Y1, Z1) (X2, Y2, Z2) = addG p (X1, Y1, Z1) (X2, Y2, Z2) := by
  unfold addT; rw [if_neg (fun x => x.elim h h2), if_neg hv]
theorem PtRet.eqT {h₀ : Heap} {L : Addr} {m : Str → Option Value} {news : List (Addr × Obj)} {s : Shared} {Q : Value → Shared → Prop} {p : Int} {P P' : Int × Int × Int} (h : PtRet h₀ L m news s Q p P) (e : P = P') : PtRet h₀ L m news s Q p P' := e ▸ h
local macro_rules | `(tactic| k_mem) => `(tactic| (refine mem_of ?_; ktr_member))
local macro_rules | `(tactic| k_units) => `(tactic| ((try simp only [units_under_make, units_in1, PyProof.Rows.units_deeper]); (try dsimp only [ktrTop]); omega))
local macro_rules | `(tactic| k_room) => `(tactic| ((try simp only [depth_under_make, depth_under_kw, depth_in1, depth_deeper]); (try dsimp only [ktrTop]); omega))
local macro_rules | `(tactic| walk_at "call ref") => `(tactic| (k_here; refine stop_here ?_))
local macro_rules | `(tactic| walk_at "execs cons") => `(tactic| (k_here; (first | (with_reducible show wpAny _ _ (execs (Stmt.Assign [Expr.Name (Str.ofString "W") _] _ _ :: Stmt.Assign [Expr.Name (Str.ofString "S") _] _ _ :: _) _) _ _ _) | (with_reducible show wpAny _ _ (execs (Stmt.Assign [Expr.Name (Str.ofString "U1") _] _ _ :: _) _) _ _ _) | (with_reducible show wpAny _ _ (execs (Stmt.Assign [Expr.Name (Str.ofString "U") _] _ _ :: _) _) _ _ _)); refine stop_here ?_))

abbrev FqV (h₀ : Heap) (L : Addr) (m : Str → Option Value) (news : List (Addr × Obj)) (s : Shared) (Q : Value → Shared → Prop) (p n : Int) : Prop :=
  ∀ z news' h' tk', Fr h₀ L h' m → News h₀ L h' news' → (∀ e ∈ news, e ∈ news') → FQm news' p n z → Q (.ref z) { s with heap := h', toks := tk' }
theorem FqV.ret {h₀ : Heap} {L : Addr} {m : Str → Option Value} {news : List (Addr × Obj)} {s : Shared} {Q : Value → Shared → Prop} {p n : Int} (h : FqV h₀ L m news s Q p n) (hi : In0 p n) : FqRet h₀ L m news s (PySem.W.CmpBack Q) p n :=
  fun z dz h1 k1 t1 h2 k2 t2 h' tk' F N _ _ => h z _ h' tk' F N (fun e he => .tail _ (.tail _ he)) ⟨dz, h1, k1, t1, h2, k2, t2, .head _, .tail _ (.head _), hi⟩
/-- an expression of FQs under the names l, and its value -/
inductive Ev (p : Int) (l : List (Str × Int)) : PySem.Expr → Int → Prop
  | v {x pos i} : (x, i) ∈ l → Ev p l (.Name x pos) i
  | mul {a b pos i j} : Ev p l a i → Ev p l b j → Ev p l (.BinOp a .Mult b pos) (i * j % p)
  | sub {a b pos i j} : Ev p l a i → Ev p l b j → Ev p l (.BinOp a .Sub b pos) ((i - j) % p)
  | nm {k : Int} {kk pk b pos j} : k.natAbs < 16 → Ev p l b j → Ev p l (.BinOp (.Constant (.int k) kk pk) .Mult b pos) (j * k % p)
def Good (env : Env) (m : Str → Option Value) (news : List (Addr × Obj)) (p : Int) (l : List (Str × Int)) : Prop :=
  ∀ e ∈ l, env.kindOf e.1 = some .local ∧ (e.1 == ("__debug__" : Str)) = false ∧ ∃ q, m e.1 = some (.ref q) ∧ FQm news p e.2 q
theorem Good.nil {env : Env} {m : Str → Option Value} {news : List (Addr × Obj)} {p : Int} : Good env m news p [] := fun _ h => nomatch h
theorem Good.cons {env : Env} {m : Str → Option Value} {news : List (Addr × Obj)} {p i : Int} {l : List (Str × Int)} {x : Str} {q : Addr} (hq : FQm news p i q) (G : Good env m news p l)
    (hm : m x = some (.ref q) := by rfl) (hx : env.kindOf x = some .local := by rfl) (hd : (x == ("__debug__" : Str)) = false := by decide) : Good env m news p ((x, i) :: l) :=
  List.forall_mem_cons.mpr ⟨⟨hx, hd, q, hm, hq⟩, G⟩
theorem Good.mono {env : Env} {m : Str → Option Value} {news news' : List (Addr × Obj)} {p : Int} {l : List (Str × Int)} (G : Good env m news p l) (hs : ∀ e ∈ news, e ∈ news') : Good env m news' p l :=
  fun e he => let ⟨a, b, q, c, d⟩ := G e he; ⟨a, b, q, c, d.mono hs⟩
def fresh (l : List (Str × Int)) (x : Str) : Bool := l.all fun e => !decide (e.1 = x)
theorem Good.put {env : Env} {m : Str → Option Value} {news news' : List (Addr × Obj)} {p i : Int} {l : List (Str × Int)} {x : Str} {z : Addr} (G : Good env m news p l) (hs : ∀ e ∈ news, e ∈ news') (hf : fresh l x = true)
    (hx : env.kindOf x = some .local) (hd : (x == ("__debug__" : Str)) = false) (hq : FQm news' p i z) : Good env (fun y => if y = x then some (.ref z) else m y) news' p ((x, i) :: l) := by
  refine List.forall_mem_cons.mpr ⟨⟨hx, hd, z, if_pos rfl, hq⟩, fun e he => ?_⟩
  obtain ⟨a, b, q, c, d⟩ := G e he
  have hne : e.1 ≠ x := by
    have := List.all_eq_true.mp hf e he
    simpa using this
  exact ⟨a, b, q, (if_neg hne).trans c, d.mono hs⟩
section
variable {w : World} {mean : ExcName → Option Value} {mg mb : Str → Option Value} {dp un : Nat} {gd : Option (List Code)} {cn : Str} {cs : Scope} {a : Addr} {ccd : Value} {cl : List (Str × Addr)} {outer : List Env} {A₀ : Around} {base h₀ : Heap} {L : Addr} {m : Str → Option Value} {news : List (Addr × Obj)} {s : Shared} {Q E : Value → Shared → Prop}

theorem mulW (B : Below A₀ base outer h₀) (X : (hd.heap_39 w.params).In h₀) (T : Top hd.view_39 loose mean mg mb h₀) (hk : cs.kind = .function) (F : Fr h₀ L s.heap m) (N : News h₀ L s.heap news) (hdp : dp + 6 < recursionLimit) {x y : Addr} {p i j : Int} (hx : FQm news p i x) (hy : FQm news p j y) (hp : Pok p) (hret : FqV h₀ L m news s Q p (i * j % p)) :
    wpAny (model prog w) (ktrTop dp un gd cn cs L a ccd cl outer) (binaryOp .Mult (.ref x) (.ref y)) Q E s := by
  have hx' := hx
  have hy' := hy
  obtain ⟨dx, h1, k1, t1, h2, k2, t2, hx, hdx, hi⟩ := hx
  obtain ⟨dy, h3, k3, t3, h4, k4, t4, hy, hdy, hj⟩ := hy
  k_steps
  refine stop_go ?_
  exact mul_spec B F X N T hk hdp hx' hy' hp (hret.ret (in0_emod _ hp))

theorem subW (B : Below A₀ base outer h₀) (X : (hd.heap_39 w.params).In h₀) (T : Top hd.view_39 loose mean mg mb h₀) (hk : cs.kind = .function) (F : Fr h₀ L s.heap m) (N : News h₀ L s.heap news) (hdp : dp + 6 < recursionLimit) {x y : Addr} {p i j : Int} (hx : FQm news p i x) (hy : FQm news p j y) (hp : Pok p) (hret : FqV h₀ L m news s Q p ((i - j) % p)) :
    wpAny (model prog w) (ktrTop dp un gd cn cs L a ccd cl outer) (binaryOp .Sub (.ref x) (.ref y)) Q E s := by
  have hx' := hx
  have hy' := hy
  obtain ⟨dx, h1, k1, t1, h2, k2, t2, hx, hdx, hi⟩ := hx
  obtain ⟨dy, h3, k3, t3, h4, k4, t4, hy, hdy, hj⟩ := hy
  k_steps
  refine stop_go ?_
  exact sub_spec B F X N T hk hdp hx' hy' hp (hret.ret (in0_emod _ hp))

theorem nmW (B : Below A₀ base outer h₀) (X : (hd.heap_39 w.params).In h₀) (T : Top hd.view_39 loose mean mg mb h₀) (hk : cs.kind = .function) (F : Fr h₀ L s.heap m) (N : News h₀ L s.heap news) (hdp : dp + 8 < recursionLimit) {x : Addr} {p i j : Int} {tj : Tok} (hx : FQm news p i x) (hj : j.natAbs < 16) (hp : Pok p) (hret : FqV h₀ L m news s Q p (i * j % p)) :
    wpAny (model prog w) (ktrTop dp un gd cn cs L a ccd cl outer) (binaryOp .Mult (.int j tj) (.ref x)) Q E s := by
  have hx' := hx
  obtain ⟨dx, h1, k1, t1, h2, k2, t2, hx, hdx, hi⟩ := hx
  k_dflt (refine' mul_intR ?k1 ?k2 ?k3 ?k4 ?k5 ?k6 ?k7 ?k8 ?_; (case k1 => k_asm); (case k2 => k_asm); (case k3 => k_inst); (case k4 => k_is); (case k5 => k_is); (case k6 => k_is); (case k7 => k_is); (case k8 => k_is))
  exact rmul_spec B F X N T hk hdp hx' hj hp (hret.ret (in0_emod _ hp))
theorem ev_wp (B : Below A₀ base outer h₀) (X : (hd.heap_39 w.params).In h₀) (T : Top hd.view_39 loose mean mg mb h₀) (hk : cs.kind = .function) (hdp : dp + 8 < recursionLimit) {p : Int} (hp : Pok p) {l : List (Str × Int)} {e : PySem.Expr} {i : Int} (hE : Ev p l e i) : ∀ {news : List (Addr × Obj)} {s : Shared} {Q : Value → Shared → Prop}, Fr h₀ L s.heap m → News h₀ L s.heap news → Good (envX cn cs L a ccd cl) m news p l →
    FqV h₀ L m news s Q p i → wpAny (model prog w) (ktrTop dp un gd cn cs L a ccd cl outer) (eval e (envX cn cs L a ccd cl)) Q E s := by
  induction hE with
  | v hm =>
    intro news s Q F N G hret
    obtain ⟨hx, hd, q, hq, hf⟩ := G _ hm
    exact nameX_L F hq (hret q news _ s.toks F N (fun e he => he) hf) hk hx hd
  | mul ha hb iha ihb =>
    intro news s Q F N G hret
    refine wpAny_BinOp (iha F N G fun z1 n1 h1 tk1 F1 N1 sub1 hq1 => ihb F1 N1 (G.mono sub1) fun z2 n2 h2 tk2 F2 N2 sub2 hq2 => ?_)
    exact mulW B X T hk F2 N2 (by omega) (hq1.mono sub2) hq2 hp fun z3 n3 h3 tk3 F3 N3 sub3 hq3 => hret z3 n3 h3 tk3 F3 N3 (fun e he => sub3 e (sub2 e (sub1 e he))) hq3
  | sub ha hb iha ihb =>
    intro news s Q F N G hret
    refine wpAny_BinOp (iha F N G fun z1 n1 h1 tk1 F1 N1 sub1 hq1 => ihb F1 N1 (G.mono sub1) fun z2 n2 h2 tk2 F2 N2 sub2 hq2 => ?_)
    exact subW B X T hk F2 N2 (by omega) (hq1.mono sub2) hq2 hp fun z3 n3 h3 tk3 F3 N3 sub3 hq3 => hret z3 n3 h3 tk3 F3 N3 (fun e he => sub3 e (sub2 e (sub1 e he))) hq3
  | nm hk16 hb ihb =>
    intro news s Q F N G hret
    refine wpAny_BinOp ?_
    k_steps
    refine ihb (by k_asm) (by k_asm) G fun z2 n2 h2 tk2 F2 N2 sub2 hq2 => ?_
    exact nmW B X T hk F2 N2 hdp hq2 hk16 hp fun z3 n3 h3 tk3 F3 N3 sub3 hq3 => hret z3 n3 h3 tk3 F3 N3 (fun e he => sub3 e (sub2 e he)) hq3
theorem as_ev (B : Below A₀ base outer h₀) (X : (hd.heap_39 w.params).In h₀) (T : Top hd.view_39 loose mean mg mb h₀) (hk : cs.kind = .function) (F : Fr h₀ L s.heap m) (N : News h₀ L s.heap news) (hdp : dp + 8 < recursionLimit) {p : Int} (hp : Pok p) {l : List (Str × Int)} (G : Good (envX cn cs L a ccd cl) m news p l) {x : Str} {e : PySem.Expr} {i : Int} (hE : Ev p l e i) {pos1 pos2 : Pos} {rest : List Stmt} {Q : Flow → Shared → Prop}
    (h : ∀ v z news' h' tk', v = i → Fr h₀ L h' (fun y => if y = x then some (.ref z) else m y) → News h₀ L h' news' → (∀ e ∈ news, e ∈ news') → FQm news' p v z → Good (envX cn cs L a ccd cl) (fun y => if y = x then some (.ref z) else m y) news' p ((x, v) :: l) →
      wpAny (model prog w) (ktrTop dp un gd cn cs L a ccd cl outer) (execs rest (envX cn cs L a ccd cl)) Q E { s with heap := h', toks := tk' })
    (hf : fresh l x = true := by rfl) (hx : (envX cn cs L a ccd cl).kindOf x = some .local := by rfl) (hd : (x == ("__debug__" : Str)) = false := by decide) (hs : swapsWith e (some (.Name x pos1)) pos2.line (envX cn cs L a ccd cl) = pure false := by rfl) :
    wpAny (model prog w) (ktrTop dp un gd cn cs L a ccd cl outer) (execs (.Assign [.Name x pos1] e pos2 :: rest) (envX cn cs L a ccd cl)) Q E s := by
  refine wpAny_execs_cons (wpAny_Assign_Name (ev_wp B X T hk hdp hp hE F N G fun z n1 h1 tk1 F1 N1 sub1 hq1 => ?_) hs)
  exact storeX_L F1 N1 (fun h' F2 N2 => h i z n1 h' _ rfl F2 N2 sub1 hq1 (G.put sub1 hf hx hd hq1)) hk hx

theorem dbl_eq {p X Y Z v1 v2 v3 v4 v5 v6 v7 v8 : Int} (h1 : v1 = X * 3 % p * X % p) (h2 : v2 = Y * Z % p) (h3 : v3 = X * Y % p * v2 % p) (h4 : v4 = (v1 * v1 % p - v3 * 8 % p) % p) (h5 : v5 = v2 * v2 % p) (h6 : v6 = v4 * 2 % p * v2 % p)
    (h7 : v7 = (v1 * ((v3 * 4 % p - v4) % p) % p - Y * 8 % p * Y % p * v5 % p) % p) (h8 : v8 = v2 * 8 % p * v5 % p) : dblT p (X, Y, Z) = (v6, v7, v8) := by
  subst h1 h2 h3 h4 h5 h6 h7 h8
  rfl
theorem double_spec (B : Below A₀ base outer h₀) (F : Fr h₀ L s.heap m) (X : (hd.heap_39 w.params).In h₀) (N : News h₀ L s.heap news) (T : Top hd.view_39 loose mean mg mb h₀) (hk : cs.kind = .function)
    (hu : un + 20 < cLine) (hdp : dp + 12 < recursionLimit) {q : Addr} {p X Y Z : Int} (hq : PTm news p (X, Y, Z) q) (hp : Pok p) (hret : PtRet h₀ L m news s Q p (dblT p (X, Y, Z))) :
    wpAny (model prog w) (ktrTop dp un gd cn cs L a ccd cl outer) (call (.ref 35) [.ref q]) Q E s := by
  obtain ⟨x, y, z, hq, hx, hy, hz⟩ := hq
  refine wpAny_call ?_
  k_dflt (refine' code_def ?k1 ?k2 ?k3 ?k4 ?k5 ?kA ?kF ?kK ?k6 ?k7 ?k8 ?k9 ?kB ?_ ?c2 ?c3 ?c4 ?c5; (case kA => exact rfl); (case kF => exact rfl); (case kK => assumption); (case k1 => k_asm); (case k2 => k_asm); (case k3 => k_asm); (case k4 => k_asm); (case k5 => k_asm); (case k6 => k_is); (case k7 => k_is); (case k8 => k_room); (case k9 => exact BindsTo.of_eq rfl); (case c5 => decide); (case kB => exact locs rfl); (case c2 => exact rfl); (case c3 => exact rfl); (case c4 => exact rfl); k_whole; intro g' L' h' FG' F' N' B' X' T'; (try dsimp only); (try k_fold))
  k_steps
  refine stop_go ?_
  refine' as_ev (l := [(Str.ofString "z", Z), (Str.ofString "y", Y), (Str.ofString "x", X)]) ?k1 ?k2 ?k3 ?k4 ?k5 ?k6 ?kd hp ?kG (.mul (.nm (by decide) (.v (.tail _ (.tail _ (List.Mem.head _))))) (.v (.tail _ (.tail _ (List.Mem.head _))))) ?_
  case k1 => k_asm
  case k2 => k_asm
  case k3 => k_asm
  case k4 => first | exact rfl | assumption
  case k5 => k_asm
  case k6 => k_asm
  case kd => k_room
  case kG => exact Good.cons hz (Good.cons hy (Good.cons hx (Good.nil)))
  intro v1 z1 n1 g1 tk1 e1 F1 N1 sub1 q1 G1
  refine' as_ev ?k1 ?k2 ?k3 ?k4 ?k5 ?k6 ?kd hp G1 (.mul (.v (.tail _ (.tail _ (List.Mem.head _)))) (.v (.tail _ (List.Mem.head _)))) ?_
  case k1 => k_asm
  case k2 => k_asm
  case k3 => k_asm
  case k4 => first | exact rfl | assumption
  case k5 => k_asm
  case k6 => k_asm
  case kd => k_room
  intro v2 z2 n2 g2 tk2 e2 F2 N2 sub2 q2 G2
  refine' as_ev ?k1 ?k2 ?k3 ?k4 ?k5 ?k6 ?kd hp G2 (.mul (.mul (.v (.tail _ (.tail _ (.tail _ (.tail _ (List.Mem.head _)))))) (.v (.tail _ (.tail _ (.tail _ (List.Mem.head _)))))) (.v (List.Mem.head _))) ?_
  case k1 => k_asm
  case k2 => k_asm
  case k3 => k_asm
  case k4 => first | exact rfl | assumption
  case k5 => k_asm
  case k6 => k_asm
  case kd => k_room
  intro v3 z3 n3 g3 tk3 e3 F3 N3 sub3 q3 G3
  refine' as_ev ?k1 ?k2 ?k3 ?k4 ?k5 ?k6 ?kd hp G3 (.sub (.mul (.v (.tail _ (.tail _ (List.Mem.head _)))) (.v (.tail _ (.tail _ (List.Mem.head _))))) (.nm (by decide) (.v (List.Mem.head _)))) ?_
  case k1 => k_asm
  case k2 => k_asm
  case k3 => k_asm
  case k4 => first | exact rfl | assumption
  case k5 => k_asm
  case k6 => k_asm
  case kd => k_room
  intro v4 z4 n4 g4 tk4 e4 F4 N4 sub4 q4 G4
  refine' as_ev ?k1 ?k2 ?k3 ?k4 ?k5 ?k6 ?kd hp G4 (.mul (.v (.tail _ (.tail _ (List.Mem.head _)))) (.v (.tail _ (.tail _ (List.Mem.head _))))) ?_
  case k1 => k_asm
  case k2 => k_asm
  case k3 => k_asm
  case k4 => first | exact rfl | assumption
  case k5 => k_asm
  case k6 => k_asm
  case kd => k_room
  intro v5 z5 n5 g5 tk5 e5 F5 N5 sub5 q5 G5
  refine' as_ev ?k1 ?k2 ?k3 ?k4 ?k5 ?k6 ?kd hp G5 (.mul (.nm (by decide) (.v (.tail _ (List.Mem.head _)))) (.v (.tail _ (.tail _ (.tail _ (List.Mem.head _)))))) ?_
  case k1 => k_asm
  case k2 => k_asm
  case k3 => k_asm
  case k4 => first | exact rfl | assumption
  case k5 => k_asm
  case k6 => k_asm
  case kd => k_room
  intro v6 z6 n6 g6 tk6 e6 F6 N6 sub6 q6 G6
  refine' as_ev ?k1 ?k2 ?k3 ?k4 ?k5 ?k6 ?kd hp G6 (.sub (.mul (.v (.tail _ (.tail _ (.tail _ (.tail _ (.tail _ (List.Mem.head _))))))) (.sub (.nm (by decide) (.v (.tail _ (.tail _ (.tail _ (List.Mem.head _)))))) (.v (.tail _ (.tail _ (List.Mem.head _)))))) (.mul (.mul (.nm (by decide) (.v (.tail _ (.tail _ (.tail _ (.tail _ (.tail _ (.tail _ (.tail _ (List.Mem.head _)))))))))) (.v (.tail _ (.tail _ (.tail _ (.tail _ (.tail _ (.tail _ (.tail _ (List.Mem.head _)))))))))) (.v (.tail _ (List.Mem.head _))))) ?_
  case k1 => k_asm
  case k2 => k_asm
  case k3 => k_asm
  case k4 => first | exact rfl | assumption
  case k5 => k_asm
  case k6 => k_asm
  case kd => k_room
  intro v7 z7 n7 g7 tk7 e7 F7 N7 sub7 q7 G7
  refine' as_ev ?k1 ?k2 ?k3 ?k4 ?k5 ?k6 ?kd hp G7 (.mul (.nm (by decide) (.v (.tail _ (.tail _ (.tail _ (.tail _ (.tail _ (List.Mem.head _)))))))) (.v (.tail _ (.tail _ (List.Mem.head _))))) ?_
  case k1 => k_asm
  case k2 => k_asm
  case k3 => k_asm
  case k4 => first | exact rfl | assumption
  case k5 => k_asm
  case k6 => k_asm
  case kd => k_room
  intro v8 z8 n8 g8 tk8 e8 F8 N8 sub8 q8 G8
  k_steps
  refine hret.eqT (dbl_eq e1 e2 e3 e4 e5 e6 e7 e8) _ _ _ _ (by k_asm) (by k_asm) (fun e he => .tail _ (sub8 _ (sub7 _ (sub6 _ (sub5 _ (sub4 _ (sub3 _ (sub2 _ (sub1 _ he))))))))) ?_
  exact ⟨_, _, _, .head _, q6.mono (fun e he => .tail _ (sub8 _ (sub7 _ he))), q7.mono (fun e he => .tail _ (sub8 _ he)), q8.mono (fun e he => .tail _ he)⟩

theorem add_eq3 {p X1 Y1 Z1 X2 Y2 Z2 v1 v2 v3 v4 : Int} (h : Z1 ≠ 0) (h2 : Z2 ≠ 0) (e1 : v1 = Y2 * Z1 % p) (e2 : v2 = Y1 * Z2 % p) (e3 : v3 = X2 * Z1 % p) (e4 : v4 = X1 * Z2 % p) (hv : v3 = v4) (hu : v1 = v2) : addT p (X1, Y1, Z1) (X2, Y2, Z2) = dblT p (X1, Y1, Z1) := by
  subst e1 e2 e3 e4
  exact addT_3 h h2 hv hu
theorem add_eq4 {p X1 Y1 Z1 X2 Y2 Z2 v1 v2 v3 v4 : Int} (h : Z1 ≠ 0) (h2 : Z2 ≠ 0) (e1 : v1 = Y2 * Z1 % p) (e2 : v2 = Y1 * Z2 % p) (e3 : v3 = X2 * Z1 % p) (e4 : v4 = X1 * Z2 % p) (hv : v3 = v4) (hu : v1 ≠ v2) : addT p (X1, Y1, Z1) (X2, Y2, Z2) = (1, 1, 0) := by
  subst e1 e2 e3 e4
  exact addT_4 h h2 hv hu
theorem add_eq5 {p X1 Y1 Z1 X2 Y2 Z2 v1 v2 v3 v4 v5 v6 v7 v8 v9 v10 v11 v12 v13 v14 : Int} (h : Z1 ≠ 0) (h2 : Z2 ≠ 0) (e1 : v1 = Y2 * Z1 % p) (e2 : v2 = Y1 * Z2 % p) (e3 : v3 = X2 * Z1 % p) (e4 : v4 = X1 * Z2 % p) (hv : v3 ≠ v4) (e5 : v5 = (v1 - v2) % p) (e6 : v6 = (v3 - v4) % p) (e7 : v7 = v6 * v6 % p) (e8 : v8 = v7 * v4 % p) (e9 : v9 = v6 * v7 % p)
    (e10 : v10 = Z1 * Z2 % p) (e11 : v11 = ((v5 * v5 % p * v10 % p - v9) % p - v8 * 2 % p) % p) (e12 : v12 = v6 * v11 % p) (e13 : v13 = (v5 * ((v8 - v11) % p) % p - v9 * v2 % p) % p) (e14 : v14 = v9 * v10 % p) :
    addT p (X1, Y1, Z1) (X2, Y2, Z2) = (v12, v13, v14) := by
  subst e1 e2 e3 e4 e5 e6 e7 e8 e9 e10 e11 e12 e13 e14
  rw [addT_5 h h2 hv]
  rfl
theorem PtRet.at {h₀ : Heap} {L : Addr} {m : Str → Option Value} {news : List (Addr × Obj)} {s : Shared} {Q : Value → Shared → Prop} {p : Int} {P P' : Int × Int × Int} (h : PtRet h₀ L m news s Q p P) (e : P = P') : PtRet h₀ L m news s Q p P' := e ▸ h
theorem add_spec (B : Below A₀ base outer h₀) (F : Fr h₀ L s.heap m) (X : (hd.heap_39 w.params).In h₀) (N : News h₀ L s.heap news) (T : Top hd.view_39 loose mean mg mb h₀) (hk : cs.kind = .function)
    (hu : un + 40 < cLine) (hdp : dp + 16 < recursionLimit) {r1 r2 : Addr} {p X1 Y1 Z1 X2 Y2 Z2 : Int} (hq1 : PTm news p (X1, Y1, Z1) r1) (hq2 : PTm news p (X2, Y2, Z2) r2) (hp : Pok p) (hret : PtRet h₀ L m news s Q p (addT p (X1, Y1, Z1) (X2, Y2, Z2))) :
    wpAny (model prog w) (ktrTop dp un gd cn cs L a ccd cl outer) (call (.ref 42) [.ref r1, .ref r2]) Q E s := by
  have hP := hq1
  have hR := hq2
  obtain ⟨xa, ya, za, hqa, hx1, hy1, hz1⟩ := hq1
  obtain ⟨xb, yb, zb, hqb, hx2, hy2, hz2⟩ := hq2
  obtain ⟨dxa, h1, k1, t1, h2, k2, t2, hxa, hdxa, hia⟩ := id hx1
  obtain ⟨dza, h5, k5, t5, h6, k6, t6, hza, hdza, hka⟩ := id hz1
  obtain ⟨dzb, h5', k5', t5', h6', k6', t6', hzb, hdzb, hkb⟩ := id hz2
  refine wpAny_call ?_
  k_dflt (refine' code_def ?k1 ?k2 ?k3 ?k4 ?k5 ?kA ?kF ?kK ?k6 ?k7 ?k8 ?k9 ?kB ?_ ?c2 ?c3 ?c4 ?c5; (case kA => exact rfl); (case kF => exact rfl); (case kK => assumption); (case k1 => k_asm); (case k2 => k_asm); (case k3 => k_asm); (case k4 => k_asm); (case k5 => k_asm); (case k6 => k_is); (case k7 => k_is); (case k8 => k_room); (case k9 => exact BindsTo.of_eq rfl); (case c5 => decide); (case kB => exact locs rfl); (case c2 => exact rfl); (case c3 => exact rfl); (case c4 => exact rfl); k_whole; intro g' L' h' FG' F' N' B' X' T'; (try dsimp only); (try k_fold))
  k_steps
  repeat (any_goals (first
    | ((with_reducible show Stop (wpAny _ _ (call (Value.ref 204) _) _ _ _)); refine stop_go ?_; refine' one_spec ?k1 ?k2 ?k3 ?k4 ?k5 ?kK ?kd ?kx ?kp ?_; (case k1 => k_asm); (case k2 => k_asm); (case k3 => k_asm); (case k4 => k_asm); (case k5 => k_asm); (case kK => first | exact rfl | assumption); (case kd => k_room); (case kx => first | assumption | exact ⟨_, _, _, _, _, _, _, by k_mem, by k_mem, by first | assumption | exact in0_emod _ (by assumption) | exact in0_zero (by assumption) | exact in0_one (by assumption)⟩); (case kp => assumption); intro z9 dz9 h19 k19 t19 h29 k29 t29 h9 tk9 F9 N9 l9 l9'; (try dsimp only [PySem.W.CmpBack]); (try k_fold); k_steps)
    | ((with_reducible show Stop (wpAny _ _ (call (Value.ref 211) _) _ _ _)); refine stop_go ?_; refine' zero_spec ?k1 ?k2 ?k3 ?k4 ?k5 ?kK ?kd ?kx ?kp ?_; (case k1 => k_asm); (case k2 => k_asm); (case k3 => k_asm); (case k4 => k_asm); (case k5 => k_asm); (case kK => first | exact rfl | assumption); (case kd => k_room); (case kx => first | assumption | exact ⟨_, _, _, _, _, _, _, by k_mem, by k_mem, by first | assumption | exact in0_emod _ (by assumption) | exact in0_zero (by assumption) | exact in0_one (by assumption)⟩); (case kp => assumption); intro z9 dz9 h19 k19 t19 h29 k29 t29 h9 tk9 F9 N9 l9 l9'; (try dsimp only [PySem.W.CmpBack]); (try k_fold); k_steps)
    | ((with_reducible show Stop (wpAny _ _ (call (Value.ref 147) _) _ _ _)); refine stop_go ?_; refine' eq_spec ?k1 ?k2 ?k3 ?k4 ?k5 ?kK ?kd ?kx ?ky ?_; (case k1 => k_asm); (case k2 => k_asm); (case k3 => k_asm); (case k4 => k_asm); (case k5 => k_asm); (case kK => first | exact rfl | assumption); (case kd => k_room); (case kx => first | assumption | exact ⟨_, _, _, _, _, _, _, by k_mem, by k_mem, by first | assumption | exact in0_emod _ (by assumption) | exact in0_zero (by assumption) | exact in0_one (by assumption)⟩); (case ky => first | assumption | exact ⟨_, _, _, _, _, _, _, by k_mem, by k_mem, by first | assumption | exact in0_emod _ (by assumption) | exact in0_zero (by assumption) | exact in0_one (by assumption)⟩); intro h9 tk9 F9 N9; (try dsimp only [PySem.W.CmpBack]); (try k_fold); k_steps)))
  all_goals first
    | exact absurd (show Z2 = 0 by assumption) (by assumption)
    | exact (hret.at (addT_1 (by assumption))) r1 _ _ _ (by k_asm) (by k_asm) (fun e he => (by repeat (first | exact he | refine List.mem_cons_of_mem _ ?_))) (hP.mono (fun e he => (by repeat (first | exact he | refine List.mem_cons_of_mem _ ?_))))
    | exact (hret.at (addT_2 (by assumption) (by assumption))) r2 _ _ _ (by k_asm) (by k_asm) (fun e he => (by repeat (first | exact he | refine List.mem_cons_of_mem _ ?_))) (hR.mono (fun e he => (by repeat (first | exact he | refine List.mem_cons_of_mem _ ?_))))
    | refine stop_go ?_
  have hZ1 : Z1 ≠ 0 := by assumption
  have hZ2 : Z2 ≠ 0 := by assumption
  refine' as_ev (l := [(Str.ofString "z2", Z2), (Str.ofString "y2", Y2), (Str.ofString "x2", X2), (Str.ofString "z1", Z1), (Str.ofString "y1", Y1), (Str.ofString "x1", X1)]) ?k1 ?k2 ?k3 ?k4 ?k5 ?k6 ?kd hp ?kG (.mul (.v (.tail _ (List.Mem.head _))) (.v (.tail _ (.tail _ (.tail _ (List.Mem.head _)))))) ?_
  case k1 => k_asm
  case k2 => k_asm
  case k3 => k_asm
  case k4 => first | exact rfl | assumption
  case k5 => k_asm
  case k6 => k_asm
  case kd => k_room
  case kG => exact Good.mono (news := news) (Good.cons hz2 (Good.cons hy2 (Good.cons hx2 (Good.cons hz1 (Good.cons hy1 (Good.cons hx1 (Good.nil))))))) (fun e he => (by repeat (first | exact he | refine List.mem_cons_of_mem _ ?_)))
  intro v1 z1 n1 g1 tk1 e1 F1 N1 sub1 q1 G1
  refine' as_ev ?k1 ?k2 ?k3 ?k4 ?k5 ?k6 ?kd hp G1 (.mul (.v (.tail _ (.tail _ (.tail _ (.tail _ (.tail _ (List.Mem.head _))))))) (.v (.tail _ (List.Mem.head _)))) ?_
  case k1 => k_asm
  case k2 => k_asm
  case k3 => k_asm
  case k4 => first | exact rfl | assumption
  case k5 => k_asm
  case k6 => k_asm
  case kd => k_room
  intro v2 z2 n2 g2 tk2 e2 F2 N2 sub2 q2 G2
  refine' as_ev ?k1 ?k2 ?k3 ?k4 ?k5 ?k6 ?kd hp G2 (.mul (.v (.tail _ (.tail _ (.tail _ (.tail _ (List.Mem.head _)))))) (.v (.tail _ (.tail _ (.tail _ (.tail _ (.tail _ (List.Mem.head _)))))))) ?_
  case k1 => k_asm
  case k2 => k_asm
  case k3 => k_asm
  case k4 => first | exact rfl | assumption
  case k5 => k_asm
  case k6 => k_asm
  case kd => k_room
  intro v3 z3 n3 g3 tk3 e3 F3 N3 sub3 q3 G3
  refine' as_ev ?k1 ?k2 ?k3 ?k4 ?k5 ?k6 ?kd hp G3 (.mul (.v (.tail _ (.tail _ (.tail _ (.tail _ (.tail _ (.tail _ (.tail _ (.tail _ (List.Mem.head _)))))))))) (.v (.tail _ (.tail _ (.tail _ (List.Mem.head _)))))) ?_
  case k1 => k_asm
  case k2 => k_asm
  case k3 => k_asm
  case k4 => first | exact rfl | assumption
  case k5 => k_asm
  case k6 => k_asm
  case kd => k_room
  intro v4 z4 n4 g4 tk4 e4 F4 N4 sub4 q4 G4
  obtain ⟨d1a, d1b, d1c, d1d, d1e, d1f, d1g, d1h, d1i, d1j⟩ := id (q1.mono (news' := n4) (fun e he => (sub4 _ (sub3 _ (sub2 _ he)))))
  have qq1 := q1.mono (news' := n4) (fun e he => (sub4 _ (sub3 _ (sub2 _ he))))
  obtain ⟨d2a, d2b, d2c, d2d, d2e, d2f, d2g, d2h, d2i, d2j⟩ := id (q2.mono (news' := n4) (fun e he => (sub4 _ (sub3 _ he))))
  have qq2 := q2.mono (news' := n4) (fun e he => (sub4 _ (sub3 _ he)))
  obtain ⟨d3a, d3b, d3c, d3d, d3e, d3f, d3g, d3h, d3i, d3j⟩ := id (q3.mono (news' := n4) (fun e he => (sub4 _ he)))
  have qq3 := q3.mono (news' := n4) (fun e he => (sub4 _ he))
  obtain ⟨d4a, d4b, d4c, d4d, d4e, d4f, d4g, d4h, d4i, d4j⟩ := id (q4.mono (news' := n4) (fun e he => he))
  have qq4 := q4.mono (news' := n4) (fun e he => he)
  k_steps
  repeat (any_goals (first
    | ((with_reducible show Stop (wpAny _ _ (call (Value.ref 147) _) _ _ _)); refine stop_go ?_; refine' eq_spec ?k1 ?k2 ?k3 ?k4 ?k5 ?kK ?kd ?kx ?ky ?_; (case k1 => k_asm); (case k2 => k_asm); (case k3 => k_asm); (case k4 => k_asm); (case k5 => k_asm); (case kK => first | exact rfl | assumption); (case kd => k_room); (case kx => first | assumption | exact ⟨_, _, _, _, _, _, _, by k_mem, by k_mem, by first | assumption | exact in0_emod _ (by assumption) | exact in0_zero (by assumption) | exact in0_one (by assumption)⟩); (case ky => first | assumption | exact ⟨_, _, _, _, _, _, _, by k_mem, by k_mem, by first | assumption | exact in0_emod _ (by assumption) | exact in0_zero (by assumption) | exact in0_one (by assumption)⟩); intro h9 tk9 F9 N9; (try dsimp only [PySem.W.CmpBack]); (try k_fold); k_steps)
    | ((with_reducible show Stop (wpAny _ _ (call (Value.ref 35) _) _ _ _)); refine stop_go ?_; refine' double_spec ?k1 ?k2 ?k3 ?k4 ?k5 ?kK ?ku ?kd ?kq hp ?_; (case k1 => k_asm); (case k2 => k_asm); (case k3 => k_asm); (case k4 => k_asm); (case k5 => k_asm); (case kK => first | exact rfl | assumption); (case ku => k_units); (case kd => k_room); (case kq => exact hP.mono (fun e he => (sub4 _ (sub3 _ (sub2 _ (sub1 _ (by repeat (first | exact he | refine List.mem_cons_of_mem _ ?_)))))))); intro q9 n9 h9 tk9 F9 N9 sub9 hq9; (try dsimp only [PySem.W.CmpBack]); (try k_fold); k_steps)))
  all_goals first
    | exact absurd (show v3 = v4 by assumption) (by assumption)
    | (with_reducible rename PTm _ _ (dblT _ _) _ => hq9; with_reducible rename (∀ e ∈ _, e ∈ _) => sub9; exact (hret.at (add_eq3 hZ1 hZ2 e1 e2 e3 e4 (by assumption) (by assumption))) _ _ _ _ (by k_asm) (by k_asm) (fun e he => sub9 _ (sub4 _ (sub3 _ (sub2 _ (sub1 _ (by repeat (first | exact he | refine List.mem_cons_of_mem _ ?_))))))) hq9)
    | (refine (hret.at (add_eq4 hZ1 hZ2 e1 e2 e3 e4 (by assumption) (by assumption))) _ _ _ _ (by k_asm) (by k_asm) (fun e he => .tail _ (sub4 _ (sub3 _ (sub2 _ (sub1 _ (by repeat (first | exact he | refine List.mem_cons_of_mem _ ?_))))))) ?_; exact ⟨_, _, _, .head _, ⟨_, _, _, _, _, _, _, .tail _ (sub4 _ (sub3 _ (sub2 _ (sub1 _ (by k_mem))))), .tail _ (sub4 _ (sub3 _ (sub2 _ (sub1 _ (by k_mem))))), in0_one hp⟩, ⟨_, _, _, _, _, _, _, .tail _ (sub4 _ (sub3 _ (sub2 _ (sub1 _ (by k_mem))))), .tail _ (sub4 _ (sub3 _ (sub2 _ (sub1 _ (by k_mem))))), in0_one hp⟩, ⟨_, _, _, _, _, _, _, .tail _ (sub4 _ (sub3 _ (sub2 _ (sub1 _ (by k_mem))))), .tail _ (sub4 _ (sub3 _ (sub2 _ (sub1 _ (by k_mem))))), in0_zero hp⟩⟩)
    | refine stop_go ?_
  refine' as_ev ?k1 ?k2 ?k3 ?k4 ?k5 ?k6 ?kd hp G4 (.sub (.v (.tail _ (.tail _ (.tail _ (List.Mem.head _))))) (.v (.tail _ (.tail _ (List.Mem.head _))))) ?_
  case k1 => k_asm
  case k2 => k_asm
  case k3 => k_asm
  case k4 => first | exact rfl | assumption
  case k5 => k_asm
  case k6 => k_asm
  case kd => k_room
  intro v5 z5 n5 g5 tk5 e5 F5 N5 sub5 q5 G5
  refine' as_ev ?k1 ?k2 ?k3 ?k4 ?k5 ?k6 ?kd hp G5 (.sub (.v (.tail _ (.tail _ (List.Mem.head _)))) (.v (.tail _ (List.Mem.head _)))) ?_
  case k1 => k_asm
  case k2 => k_asm
  case k3 => k_asm
  case k4 => first | exact rfl | assumption
  case k5 => k_asm
  case k6 => k_asm
  case kd => k_room
  intro v6 z6 n6 g6 tk6 e6 F6 N6 sub6 q6 G6
  refine' as_ev ?k1 ?k2 ?k3 ?k4 ?k5 ?k6 ?kd hp G6 (.mul (.v (List.Mem.head _)) (.v (List.Mem.head _))) ?_
  case k1 => k_asm
  case k2 => k_asm
  case k3 => k_asm
  case k4 => first | exact rfl | assumption
  case k5 => k_asm
  case k6 => k_asm
  case kd => k_room
  intro v7 z7 n7 g7 tk7 e7 F7 N7 sub7 q7 G7
  refine' as_ev ?k1 ?k2 ?k3 ?k4 ?k5 ?k6 ?kd hp G7 (.mul (.v (List.Mem.head _)) (.v (.tail _ (.tail _ (.tail _ (List.Mem.head _)))))) ?_
  case k1 => k_asm
  case k2 => k_asm
  case k3 => k_asm
  case k4 => first | exact rfl | assumption
  case k5 => k_asm
  case k6 => k_asm
  case kd => k_room
  intro v8 z8 n8 g8 tk8 e8 F8 N8 sub8 q8 G8
  refine' as_ev ?k1 ?k2 ?k3 ?k4 ?k5 ?k6 ?kd hp G8 (.mul (.v (.tail _ (.tail _ (List.Mem.head _)))) (.v (.tail _ (List.Mem.head _)))) ?_
  case k1 => k_asm
  case k2 => k_asm
  case k3 => k_asm
  case k4 => first | exact rfl | assumption
  case k5 => k_asm
  case k6 => k_asm
  case kd => k_room
  intro v9 z9 n9 g9 tk9 e9 F9 N9 sub9 q9 G9
  refine' as_ev ?k1 ?k2 ?k3 ?k4 ?k5 ?k6 ?kd hp G9 (.mul (.v (.tail _ (.tail _ (.tail _ (.tail _ (.tail _ (.tail _ (.tail _ (.tail _ (.tail _ (.tail _ (.tail _ (.tail _ (List.Mem.head _)))))))))))))) (.v (.tail _ (.tail _ (.tail _ (.tail _ (.tail _ (.tail _ (.tail _ (.tail _ (.tail _ (List.Mem.head _)))))))))))) ?_
  case k1 => k_asm
  case k2 => k_asm
  case k3 => k_asm
  case k4 => first | exact rfl | assumption
  case k5 => k_asm
  case k6 => k_asm
  case kd => k_room
  intro v10 z10 n10 g10 tk10 e10 F10 N10 sub10 q10 G10
  refine' as_ev ?k1 ?k2 ?k3 ?k4 ?k5 ?k6 ?kd hp G10 (.sub (.sub (.mul (.mul (.v (.tail _ (.tail _ (.tail _ (.tail _ (.tail _ (List.Mem.head _))))))) (.v (.tail _ (.tail _ (.tail _ (.tail _ (.tail _ (List.Mem.head _)))))))) (.v (List.Mem.head _))) (.v (.tail _ (List.Mem.head _)))) (.nm (by decide) (.v (.tail _ (.tail _ (List.Mem.head _)))))) ?_
  case k1 => k_asm
  case k2 => k_asm
  case k3 => k_asm
  case k4 => first | exact rfl | assumption
  case k5 => k_asm
  case k6 => k_asm
  case kd => k_room
  intro v11 z11 n11 g11 tk11 e11 F11 N11 sub11 q11 G11
  refine' as_ev ?k1 ?k2 ?k3 ?k4 ?k5 ?k6 ?kd hp G11 (.mul (.v (.tail _ (.tail _ (.tail _ (.tail _ (.tail _ (List.Mem.head _))))))) (.v (List.Mem.head _))) ?_
  case k1 => k_asm
  case k2 => k_asm
  case k3 => k_asm
  case k4 => first | exact rfl | assumption
  case k5 => k_asm
  case k6 => k_asm
  case kd => k_room
  intro v12 z12 n12 g12 tk12 e12 F12 N12 sub12 q12 G12
  refine' as_ev ?k1 ?k2 ?k3 ?k4 ?k5 ?k6 ?kd hp G12 (.sub (.mul (.v (.tail _ (.tail _ (.tail _ (.tail _ (.tail _ (.tail _ (.tail _ (List.Mem.head _))))))))) (.sub (.v (.tail _ (.tail _ (.tail _ (.tail _ (List.Mem.head _)))))) (.v (.tail _ (List.Mem.head _))))) (.mul (.v (.tail _ (.tail _ (.tail _ (List.Mem.head _))))) (.v (.tail _ (.tail _ (.tail _ (.tail _ (.tail _ (.tail _ (.tail _ (.tail _ (.tail _ (.tail _ (List.Mem.head _)))))))))))))) ?_
  case k1 => k_asm
  case k2 => k_asm
  case k3 => k_asm
  case k4 => first | exact rfl | assumption
  case k5 => k_asm
  case k6 => k_asm
  case kd => k_room
  intro v13 z13 n13 g13 tk13 e13 F13 N13 sub13 q13 G13
  refine' as_ev ?k1 ?k2 ?k3 ?k4 ?k5 ?k6 ?kd hp G13 (.mul (.v (.tail _ (.tail _ (.tail _ (.tail _ (List.Mem.head _)))))) (.v (.tail _ (.tail _ (.tail _ (List.Mem.head _)))))) ?_
  case k1 => k_asm
  case k2 => k_asm
  case k3 => k_asm
  case k4 => first | exact rfl | assumption
  case k5 => k_asm
  case k6 => k_asm
  case kd => k_room
  intro v14 z14 n14 g14 tk14 e14 F14 N14 sub14 q14 G14
  k_steps
  refine (hret.at (add_eq5 hZ1 hZ2 e1 e2 e3 e4 (by assumption) e5 e6 e7 e8 e9 e10 e11 e12 e13 e14)) _ _ _ _ (by k_asm) (by k_asm) (fun e he => .tail _ (sub14 _ (sub13 _ (sub12 _ (sub11 _ (sub10 _ (sub9 _ (sub8 _ (sub7 _ (sub6 _ (sub5 _ (sub4 _ (sub3 _ (sub2 _ (sub1 _ (by repeat (first | exact he | refine List.mem_cons_of_mem _ ?_))))))))))))))))) ?_
  exact ⟨_, _, _, .head _, q12.mono (fun e he => .tail _ (sub14 _ (sub13 _ he))), q13.mono (fun e he => .tail _ (sub14 _ he)), q14.mono (fun e he => .tail _ he)⟩
end
end Mine

end
section
open PySem PySem.W PyProof.Rows PySem.Calls PySem.Spec
set_option maxRecDepth 100000
set_option maxHeartbeats 0
namespace Mine
theorem fill2 : (fun (_ : OpenLaw) (_ : Params → Frag) => True) PySem.Challenge.rw_kh0007_01 hd.heap_39 := by
  k_fill
  trivial
local macro_rules | `(tactic| k_mem) => `(tactic| (refine mem_of ?_; ktr_member))
local macro_rules | `(tactic| k_units) => `(tactic| ((try simp only [units_under_make, units_in1, PyProof.Rows.units_deeper]); (try dsimp only [ktrTop]); omega))
local macro_rules | `(tactic| k_room) => `(tactic| ((try simp only [depth_under_make, depth_under_kw, depth_in1, depth_deeper]); (try dsimp only [ktrTop]); omega))

noncomputable def mulF (p : Int) : Nat → Int × Int × Int → Int → Int × Int × Int
  | 0, P, n => if n = 0 then (1, 1, 0) else P
  | k + 1, P, n => if n = 0 then (1, 1, 0) else if n = 1 then P
    else if n % 2 = 0 then mulF p k (dblT p P) (n / 2) else addT p (mulF p k (dblT p P) (n / 2)) P

/-- multiply, for numbers below 2 ^ (k + 1) -/
def MulAt (k : Nat) : Prop :=
  ∀ {w : World} {mean : ExcName → Option Value} {mg mb : Str → Option Value} {dp un : Nat} {gd : Option (List Code)} {cn : Str} {cs : Scope} {a : Addr} {ccd : Value} {cl : List (Str × Addr)} {outer : List Env} {A₀ : Around} {base h₀ : Heap} {L : Addr} {m : Str → Option Value} {news : List (Addr × Obj)} {s : Shared} {Q E : Value → Shared → Prop},
    Below A₀ base outer h₀ → Fr h₀ L s.heap m → (hd.heap_39 w.params).In h₀ → News h₀ L s.heap news → Top hd.view_39 loose mean mg mb h₀ → cs.kind = .function →
    un + 60 + 8 * k < cLine → dp + 20 + 2 * k < recursionLimit → ∀ {q : Addr} {p n : Int} {P : Int × Int × Int} {tn : Tok}, PTm news p P q → Pok p → 0 ≤ n → n < 2 ^ (k + 1) →
    PtRet h₀ L m news s Q p (mulF p k P n) →
    wpAny (model prog w) (ktrTop dp un gd cn cs L a ccd cl outer) (call (.ref 49) [.ref q, .int n tn]) Q E s
theorem sub_trans {a b c : List (Addr × Obj)} (h1 : ∀ e ∈ a, e ∈ b) (h2 : ∀ e ∈ b, e ∈ c) : ∀ e ∈ a, e ∈ c := fun e he => h2 e (h1 e he)
theorem mul_use {k : Nat} (IH : MulAt k) {w : World} {mean : ExcName → Option Value} {mg mb : Str → Option Value} {dp un : Nat} {gd : Option (List Code)} {cn : Str} {cs : Scope} {a : Addr} {ccd : Value} {cl : List (Str × Addr)} {outer : List Env} {A₀ : Around} {base h₀ : Heap} {L : Addr} {m : Str → Option Value} {news : List (Addr × Obj)} {s : Shared} {Q E : Value → Shared → Prop}
    (B : Below A₀ base outer h₀) (F : Fr h₀ L s.heap m) (X : (hd.heap_39 w.params).In h₀) (N : News h₀ L s.heap news) (T : Top hd.view_39 loose mean mg mb h₀) (hk : cs.kind = .function)
    (hu : un + 60 + 8 * k < cLine) (hdp : dp + 20 + 2 * k < recursionLimit) {q : Addr} {p n : Int} {P : Int × Int × Int} {tn : Tok} (hq : PTm news p P q) (hp : Pok p) (h0 : 0 ≤ n) (hn : n < 2 ^ (k + 1))
    (hret : PtRet h₀ L m news s Q p (mulF p k P n)) :
    wpAny (model prog w) (ktrTop dp un gd cn cs L a ccd cl outer) (call (.ref 49) [.ref q, .int n tn]) Q E s := IH B F X N T hk hu hdp hq hp h0 hn hret
theorem mulF_0 {p n : Int} {k : Nat} {P : Int × Int × Int} (h : n = 0) : mulF p (k + 1) P n = (1, 1, 0) := if_pos h
theorem mulF_1 {p n : Int} {k : Nat} {P : Int × Int × Int} (h : n ≠ 0) (h1 : n = 1) : mulF p (k + 1) P n = P := (if_neg h).trans (if_pos h1)
theorem mulF_2 {p n : Int} {k : Nat} {P : Int × Int × Int} (h : n ≠ 0) (h1 : n ≠ 1) (h2 : Int.fmod n 2 = 0) (e : Int.fdiv n 2 = n / 2) (e' : Int.fmod n 2 = n % 2) : mulF p (k + 1) P n = mulF p k (dblT p P) (Int.fdiv n 2) :=
  (if_neg h).trans ((if_neg h1).trans ((if_pos (e' ▸ h2)).trans (by rw [e])))
theorem mulF_3 {p n : Int} {k : Nat} {P : Int × Int × Int} (h : n ≠ 0) (h1 : n ≠ 1) (h2 : Int.fmod n 2 ≠ 0) (e : Int.fdiv n 2 = n / 2) (e' : Int.fmod n 2 = n % 2) : mulF p (k + 1) P n = addT p (mulF p k (dblT p P) (Int.fdiv n 2)) P :=
  (if_neg h).trans ((if_neg h1).trans ((if_neg (e' ▸ h2)).trans (by rw [e])))
theorem fdiv2 {n : Int} {k : Nat} (h0 : 0 ≤ n) (hn : n < 2 ^ (k + 1 + 1)) : 0 ≤ Int.fdiv n 2 ∧ Int.fdiv n 2 < 2 ^ (k + 1) ∧ Int.fdiv n 2 = n / 2 ∧ Int.fmod n 2 = n % 2 := by
  have e : Int.fdiv n 2 = n / 2 := Int.fdiv_eq_ediv_of_nonneg n (by omega)
  have e2 : Int.fmod n 2 = n % 2 := Int.fmod_eq_emod_of_nonneg n (by omega)
  rw [e, e2]
  rw [Int.pow_succ] at hn
  generalize (2 : Int) ^ (k + 1) = Y at *
  omega
local macro_rules | `(tactic| walk_at "call ref") => `(tactic| (k_here; refine stop_here ?_))

theorem mul_zero_at : MulAt 0 := by
  unfold MulAt
  intro w mean mg mb dp un gd cn cs a ccd cl outer A₀ base h₀ L m news s Q E B F X N T hk hu hdp q p n P tn hq hp h0 hn hret
  have hP := hq
  obtain ⟨xa, ya, za, hqa, ⟨dxa, h1, k1, t1, h2, k2, t2, hxa, hdxa, hia⟩, ⟨dya, h3, k3, t3, h4, k4, t4, hya, hdya, hja⟩, ⟨dza, h5, k5, t5, h6, k6, t6, hza, hdza, hka⟩⟩ := hq

  have hn' : n = 0 ∨ n = 1 := by
    have : (2 : Int) ^ (0 + 1) = 2 := rfl
    omega
  rcases hn' with rfl | rfl
  · refine wpAny_call ?_
    k_dflt (refine' code_def ?k1 ?k2 ?k3 ?k4 ?k5 ?kA ?kF ?kK ?k6 ?k7 ?k8 ?k9 ?kB ?_ ?c2 ?c3 ?c4 ?c5; (case kA => exact rfl); (case kF => exact rfl); (case kK => assumption); (case k1 => k_asm); (case k2 => k_asm); (case k3 => k_asm); (case k4 => k_asm); (case k5 => k_asm); (case k6 => k_is); (case k7 => k_is); (case k8 => k_room); (case k9 => exact BindsTo.of_eq rfl); (case c5 => decide); (case kB => exact locs rfl); (case c2 => exact rfl); (case c3 => exact rfl); (case c4 => exact rfl); k_whole; intro g' L' h' FG' F' N' B' X' T'; (try dsimp only); (try k_fold))
    k_steps
    repeat (any_goals (first
      | ((with_reducible show Stop (wpAny _ _ (call (Value.ref 211) _) _ _ _)); refine stop_go ?_; k_dflt (refine' zero_spec ?k1 ?k2 ?k3 ?k4 ?k5 ?kK ?kd ?kx ?kp ?_; (case k1 => k_asm); (case k2 => k_asm); (case k3 => k_asm); (case k4 => k_asm); (case k5 => k_asm); (case kK => first | exact rfl | assumption); (case kd => k_room); (case kx => exact ⟨_, _, _, _, _, _, _, by k_mem, by k_mem, by first | assumption | exact in0_emod _ (by assumption) | exact in0_zero (by assumption) | exact in0_one (by assumption)⟩); (case kp => assumption)); intro z9 dz9 h19 k19 t19 h29 k29 t29 h9 tk9 F9 N9 l9 l9'; (try dsimp only [PySem.W.CmpBack]); (try k_fold); k_steps)
      | ((with_reducible show Stop (wpAny _ _ (call (Value.ref 204) _) _ _ _)); refine stop_go ?_; k_dflt (refine' one_spec ?k1 ?k2 ?k3 ?k4 ?k5 ?kK ?kd ?kx ?kp ?_; (case k1 => k_asm); (case k2 => k_asm); (case k3 => k_asm); (case k4 => k_asm); (case k5 => k_asm); (case kK => first | exact rfl | assumption); (case kd => k_room); (case kx => exact ⟨_, _, _, _, _, _, _, by k_mem, by k_mem, by first | assumption | exact in0_emod _ (by assumption) | exact in0_zero (by assumption) | exact in0_one (by assumption)⟩); (case kp => assumption)); intro z9 dz9 h19 k19 t19 h29 k29 t29 h9 tk9 F9 N9 l9 l9'; (try dsimp only [PySem.W.CmpBack]); (try k_fold); k_steps)
      | ((with_reducible show Stop (wpAny _ _ (call (Value.ref 35) [Value.ref _]) _ _ _)); refine stop_go ?_; k_dflt (refine' double_spec ?k1 ?k2 ?k3 ?k4 ?k5 ?kK ?ku ?kd ?kq ?kp ?_; (case k1 => k_asm); (case k2 => k_asm); (case k3 => k_asm); (case k4 => k_asm); (case k5 => k_asm); (case kK => first | exact rfl | assumption); (case kd => k_room); (case ku => k_units); (case kq => exact PTm.mono (by assumption) (by intro e he; repeat (first | exact he | refine List.mem_cons_of_mem _ ?_))); (case kp => assumption)); intro q9 n9 h9 tk9 F9 N9 sub9 hq9; (try dsimp only); (try k_fold); k_steps)
      | ((with_reducible show Stop (wpAny _ _ (call (Value.ref 42) [Value.ref _, Value.ref _]) _ _ _)); refine stop_go ?_; k_dflt (refine' add_spec ?k1 ?k2 ?k3 ?k4 ?k5 ?kK ?ku ?kd ?kq ?kr ?kp ?_; (case k1 => k_asm); (case k2 => k_asm); (case k3 => k_asm); (case k4 => k_asm); (case k5 => k_asm); (case kK => first | exact rfl | assumption); (case kd => k_room); (case ku => k_units); (case kq => assumption); (case kr => exact PTm.mono (by assumption) (sub_trans (by assumption) (by assumption))); (case kp => assumption)); intro q9 n9 h9 tk9 F9 N9 sub9 hq9; (try dsimp only); (try k_fold); k_steps)))
    refine hret _ _ _ _ (by k_asm) (by k_asm) (by intro e he; repeat (first | exact he | refine List.mem_cons_of_mem _ ?_)) ?_
    exact ⟨_, _, _, by k_mem, ⟨_, _, _, _, _, _, _, by k_mem, by k_mem, in0_one hp⟩, ⟨_, _, _, _, _, _, _, by k_mem, by k_mem, in0_one hp⟩, ⟨_, _, _, _, _, _, _, by k_mem, by k_mem, in0_zero hp⟩⟩
  · refine wpAny_call ?_
    k_dflt (refine' code_def ?k1 ?k2 ?k3 ?k4 ?k5 ?kA ?kF ?kK ?k6 ?k7 ?k8 ?k9 ?kB ?_ ?c2 ?c3 ?c4 ?c5; (case kA => exact rfl); (case kF => exact rfl); (case kK => assumption); (case k1 => k_asm); (case k2 => k_asm); (case k3 => k_asm); (case k4 => k_asm); (case k5 => k_asm); (case k6 => k_is); (case k7 => k_is); (case k8 => k_room); (case k9 => exact BindsTo.of_eq rfl); (case c5 => decide); (case kB => exact locs rfl); (case c2 => exact rfl); (case c3 => exact rfl); (case c4 => exact rfl); k_whole; intro g' L' h' FG' F' N' B' X' T'; (try dsimp only); (try k_fold))
    k_steps
    repeat (any_goals (first
      | ((with_reducible show Stop (wpAny _ _ (call (Value.ref 211) _) _ _ _)); refine stop_go ?_; k_dflt (refine' zero_spec ?k1 ?k2 ?k3 ?k4 ?k5 ?kK ?kd ?kx ?kp ?_; (case k1 => k_asm); (case k2 => k_asm); (case k3 => k_asm); (case k4 => k_asm); (case k5 => k_asm); (case kK => first | exact rfl | assumption); (case kd => k_room); (case kx => exact ⟨_, _, _, _, _, _, _, by k_mem, by k_mem, by first | assumption | exact in0_emod _ (by assumption) | exact in0_zero (by assumption) | exact in0_one (by assumption)⟩); (case kp => assumption)); intro z9 dz9 h19 k19 t19 h29 k29 t29 h9 tk9 F9 N9 l9 l9'; (try dsimp only [PySem.W.CmpBack]); (try k_fold); k_steps)
      | ((with_reducible show Stop (wpAny _ _ (call (Value.ref 204) _) _ _ _)); refine stop_go ?_; k_dflt (refine' one_spec ?k1 ?k2 ?k3 ?k4 ?k5 ?kK ?kd ?kx ?kp ?_; (case k1 => k_asm); (case k2 => k_asm); (case k3 => k_asm); (case k4 => k_asm); (case k5 => k_asm); (case kK => first | exact rfl | assumption); (case kd => k_room); (case kx => exact ⟨_, _, _, _, _, _, _, by k_mem, by k_mem, by first | assumption | exact in0_emod _ (by assumption) | exact in0_zero (by assumption) | exact in0_one (by assumption)⟩); (case kp => assumption)); intro z9 dz9 h19 k19 t19 h29 k29 t29 h9 tk9 F9 N9 l9 l9'; (try dsimp only [PySem.W.CmpBack]); (try k_fold); k_steps)
      | ((with_reducible show Stop (wpAny _ _ (call (Value.ref 35) [Value.ref _]) _ _ _)); refine stop_go ?_; k_dflt (refine' double_spec ?k1 ?k2 ?k3 ?k4 ?k5 ?kK ?ku ?kd ?kq ?kp ?_; (case k1 => k_asm); (case k2 => k_asm); (case k3 => k_asm); (case k4 => k_asm); (case k5 => k_asm); (case kK => first | exact rfl | assumption); (case kd => k_room); (case ku => k_units); (case kq => exact PTm.mono (by assumption) (by intro e he; repeat (first | exact he | refine List.mem_cons_of_mem _ ?_))); (case kp => assumption)); intro q9 n9 h9 tk9 F9 N9 sub9 hq9; (try dsimp only); (try k_fold); k_steps)
      | ((with_reducible show Stop (wpAny _ _ (call (Value.ref 42) [Value.ref _, Value.ref _]) _ _ _)); refine stop_go ?_; k_dflt (refine' add_spec ?k1 ?k2 ?k3 ?k4 ?k5 ?kK ?ku ?kd ?kq ?kr ?kp ?_; (case k1 => k_asm); (case k2 => k_asm); (case k3 => k_asm); (case k4 => k_asm); (case k5 => k_asm); (case kK => first | exact rfl | assumption); (case kd => k_room); (case ku => k_units); (case kq => assumption); (case kr => exact PTm.mono (by assumption) (sub_trans (by assumption) (by assumption))); (case kp => assumption)); intro q9 n9 h9 tk9 F9 N9 sub9 hq9; (try dsimp only); (try k_fold); k_steps)))
    exact hret q _ _ _ (by k_asm) (by k_asm) (by intro e he; repeat (first | exact he | refine List.mem_cons_of_mem _ ?_)) (PTm.mono hP (by intro e he; repeat (first | exact he | refine List.mem_cons_of_mem _ ?_)))

theorem mul_succ_at {k : Nat} (IH : MulAt k) : MulAt (k + 1) := by
  unfold MulAt
  intro w mean mg mb dp un gd cn cs a ccd cl outer A₀ base h₀ L m news s Q E B F X N T hk hu hdp q p n P tn hq hp h0 hn hret
  have hP := hq
  obtain ⟨xa, ya, za, hqa, ⟨dxa, h1, k1, t1, h2, k2, t2, hxa, hdxa, hia⟩, ⟨dya, h3, k3, t3, h4, k4, t4, hya, hdya, hja⟩, ⟨dza, h5, k5, t5, h6, k6, t6, hza, hdza, hka⟩⟩ := hq

  have hf := fdiv2 h0 hn
  obtain ⟨hf0, hf1, hf2, hf3⟩ := hf
  refine wpAny_call ?_
  k_dflt (refine' code_def ?k1 ?k2 ?k3 ?k4 ?k5 ?kA ?kF ?kK ?k6 ?k7 ?k8 ?k9 ?kB ?_ ?c2 ?c3 ?c4 ?c5; (case kA => exact rfl); (case kF => exact rfl); (case kK => assumption); (case k1 => k_asm); (case k2 => k_asm); (case k3 => k_asm); (case k4 => k_asm); (case k5 => k_asm); (case k6 => k_is); (case k7 => k_is); (case k8 => k_room); (case k9 => exact BindsTo.of_eq rfl); (case c5 => decide); (case kB => exact locs rfl); (case c2 => exact rfl); (case c3 => exact rfl); (case c4 => exact rfl); k_whole; intro g' L' h' FG' F' N' B' X' T'; (try dsimp only); (try k_fold))
  k_steps
  repeat (any_goals (first
    | ((with_reducible show Stop (wpAny _ _ (call (Value.ref 211) _) _ _ _)); refine stop_go ?_; k_dflt (refine' zero_spec ?k1 ?k2 ?k3 ?k4 ?k5 ?kK ?kd ?kx ?kp ?_; (case k1 => k_asm); (case k2 => k_asm); (case k3 => k_asm); (case k4 => k_asm); (case k5 => k_asm); (case kK => first | exact rfl | assumption); (case kd => k_room); (case kx => exact ⟨_, _, _, _, _, _, _, by k_mem, by k_mem, by first | assumption | exact in0_emod _ (by assumption) | exact in0_zero (by assumption) | exact in0_one (by assumption)⟩); (case kp => assumption)); intro z9 dz9 h19 k19 t19 h29 k29 t29 h9 tk9 F9 N9 l9 l9'; (try dsimp only [PySem.W.CmpBack]); (try k_fold); k_steps)
    | ((with_reducible show Stop (wpAny _ _ (call (Value.ref 204) _) _ _ _)); refine stop_go ?_; k_dflt (refine' one_spec ?k1 ?k2 ?k3 ?k4 ?k5 ?kK ?kd ?kx ?kp ?_; (case k1 => k_asm); (case k2 => k_asm); (case k3 => k_asm); (case k4 => k_asm); (case k5 => k_asm); (case kK => first | exact rfl | assumption); (case kd => k_room); (case kx => exact ⟨_, _, _, _, _, _, _, by k_mem, by k_mem, by first | assumption | exact in0_emod _ (by assumption) | exact in0_zero (by assumption) | exact in0_one (by assumption)⟩); (case kp => assumption)); intro z9 dz9 h19 k19 t19 h29 k29 t29 h9 tk9 F9 N9 l9 l9'; (try dsimp only [PySem.W.CmpBack]); (try k_fold); k_steps)
    | ((with_reducible show Stop (wpAny _ _ (call (Value.ref 35) [Value.ref _]) _ _ _)); refine stop_go ?_; k_dflt (refine' double_spec ?k1 ?k2 ?k3 ?k4 ?k5 ?kK ?ku ?kd ?kq ?kp ?_; (case k1 => k_asm); (case k2 => k_asm); (case k3 => k_asm); (case k4 => k_asm); (case k5 => k_asm); (case kK => first | exact rfl | assumption); (case kd => k_room); (case ku => k_units); (case kq => exact PTm.mono (by assumption) (by intro e he; repeat (first | exact he | refine List.mem_cons_of_mem _ ?_))); (case kp => assumption)); intro q9 n9 h9 tk9 F9 N9 sub9 hq9; (try dsimp only); (try k_fold); k_steps)
    | ((with_reducible show Stop (wpAny _ _ (call (Value.ref 42) [Value.ref _, Value.ref _]) _ _ _)); refine stop_go ?_; k_dflt (refine' add_spec ?k1 ?k2 ?k3 ?k4 ?k5 ?kK ?ku ?kd ?kq ?kr ?kp ?_; (case k1 => k_asm); (case k2 => k_asm); (case k3 => k_asm); (case k4 => k_asm); (case k5 => k_asm); (case kK => first | exact rfl | assumption); (case kd => k_room); (case ku => k_units); (case kq => assumption); (case kr => exact PTm.mono (by assumption) (sub_trans (by assumption) (by assumption))); (case kp => assumption)); intro q9 n9 h9 tk9 F9 N9 sub9 hq9; (try dsimp only); (try k_fold); k_steps)
    | ((with_reducible show Stop (wpAny _ _ (call (Value.ref 49) [Value.ref _, Value.int _ _]) _ _ _)); refine stop_go ?_; k_dflt (refine' mul_use ?kI ?k1 ?k2 ?k3 ?k4 ?k5 ?kK ?ku ?kd ?kq ?kp ?ka ?kb ?_; (case kI => assumption); (case k1 => k_asm); (case k2 => k_asm); (case k3 => k_asm); (case k4 => k_asm); (case k5 => k_asm); (case kK => first | exact rfl | assumption); (case kd => k_room); (case ku => k_units); (case kq => assumption); (case kp => assumption); (case ka => assumption); (case kb => assumption)); intro q9 n9 h9 tk9 F9 N9 sub9 hq9; (try dsimp only); (try k_fold); k_steps)))
  all_goals first
    | (refine (PtRet.eqT (p := p) (P := mulF p (k + 1) P n) hret (mulF_0 (by assumption))) _ _ _ _ (by k_asm) (by k_asm) (by intro e he; repeat (first | exact he | refine List.mem_cons_of_mem _ ?_)) ?_; exact ⟨_, _, _, by k_mem, ⟨_, _, _, _, _, _, _, by k_mem, by k_mem, in0_one hp⟩, ⟨_, _, _, _, _, _, _, by k_mem, by k_mem, in0_one hp⟩, ⟨_, _, _, _, _, _, _, by k_mem, by k_mem, in0_zero hp⟩⟩)
    | exact (PtRet.eqT (p := p) (P := mulF p (k + 1) P n) hret (mulF_1 (by assumption) (by assumption))) q _ _ _ (by k_asm) (by k_asm) (by intro e he; repeat (first | exact he | refine List.mem_cons_of_mem _ ?_)) (PTm.mono hP (by intro e he; repeat (first | exact he | refine List.mem_cons_of_mem _ ?_)))
    | exact (PtRet.eqT (p := p) (P := mulF p (k + 1) P n) hret (mulF_2 (by assumption) (by assumption) (by assumption) hf2 hf3)) _ _ _ _ (by k_asm) (by k_asm) (sub_trans (by assumption) (by assumption)) (by assumption)
    | exact (PtRet.eqT (p := p) (P := mulF p (k + 1) P n) hret (mulF_3 (by assumption) (by assumption) (by assumption) hf2 hf3)) _ _ _ _ (by k_asm) (by k_asm) (sub_trans (by assumption) (sub_trans (by assumption) (by assumption))) (by assumption)
theorem mul_at : ∀ k, MulAt k
  | 0 => mul_zero_at
  | k + 1 => mul_succ_at (mul_at k)
end Mine

end
section
open PySem PySem.W PyProof.Rows PySem.Calls PySem.Spec
set_option maxRecDepth 100000
set_option maxHeartbeats 4000000
namespace Mine

theorem gives_pow3 (a : Int) (t : Tok) (b : Int) (u : Tok) (c : Int) (v : Tok) (hc : 1 < c) (hb : 0 ≤ b) :
    Gives (Builtin.«int.__pow__» ⟨[.int a t, .int b u, .int c v], []⟩) (.int (Builtin.powMod (a % (c.natAbs : Int)).toNat b.natAbs c.natAbs : Nat)) := by
  have hc0 : ¬(c == 0) = true := by simp; omega
  have hc1 : ¬(c.natAbs == 1) = true := by simp; omega
  have hb0 : ¬ (b < 0) := by omega
  have hc2 : ¬ (c < 0) := by omega
  refine .of_wp fun M A E s Q h => ?_
  obtain ⟨hp, g, d, tk, os⟩ := s
  wp_walk
  refine ⟨_, rfl, ?_⟩
  rw [if_neg (by rw [decide_eq_false hc2]; simp)]
  exact h

theorem args_pow3 (a b c : Value) : argsOk "pow" ⟨[a, b, c], []⟩ := by unfold argsOk; kernel_rfl
theorem args_int_pow3 (a b c : Value) : argsOk "int.__pow__" ⟨[a, b, c], []⟩ := by unfold argsOk; kernel_rfl
theorem slot_pow : Slot "int" (Str.ofString "__pow__") "int.__pow__" := (show PySem.dunder "pow" = Str.ofString "__pow__" from by decide +kernel) ▸ F.slot_int_pow
theorem entry_pow : entryFor table "pow" = some Builtin.«pow» := entryFor_of_tree (by kernel_rfl)
theorem bind_pow (a b c : Value) : Builtin.Builtins.bindParams "pow" ["base", "exp", "mod"] 2 ⟨[a, b, c], []⟩ = pure [some a, some b, some c] := by kernel_rfl

section
variable {prog : Program} {w : World} {A : Around} {E : Value → Shared → Prop} {s : Shared}
theorem call_pow3 {a b c : Int} {t u v : Tok} {Q : Value → Shared → Prop} (hc : 1 < c) (hb : 0 ≤ b)
    (h : Q (.int (Builtin.powMod (a % (c.natAbs : Int)).toNat b.natAbs c.natAbs : Nat) s.toks) { s with toks := s.toks + 1 }) :
    wpAny (model prog w) A (call (.builtin "pow") [.int a t, .int b u, .int c v]) Q E s := by
  refine call_function_meets (by decide +kernel) (by decide +kernel) entry_pow (args_pow3 _ _ _) (S := fun _ R s => R (.ok (.ret (.int (Builtin.powMod (a % (c.natAbs : Int)).toNat b.natAbs c.natAbs : Nat) s.toks))) { s with toks := s.toks + 1 }) ?_ h
  refine .of_wp fun prog w A R s hR => ?_
  have T1 : ∀ s : Shared, s.TypeIs (.int a t) "int" := fun s => typeIs_int s a t
  unfold Builtin.«pow»
  refine wpAny_bind ?_
  rw [bind_pow]
  refine wpAny_pure ?_
  dsimp only [Option.getD]
  refine wpAny_bind (wpAny_rule ?_)
  refine wpAny_bind (wpAny_typeOf (T1 _) ?_)
  dsimp only
  refine wpAny_bind (wpAny_of_eq slot_pow.lookup ?_)
  dsimp only
  refine wpAny_bind ?_
  have one : wpAny (model prog w) A.in1 (callSpecial? (.int a t) (Str.ofString "__pow__") [.int b u, .int c v]) (fun r s' => r = some (.int (Builtin.powMod (a % (c.natAbs : Int)).toNat b.natAbs c.natAbs : Nat) s.toks) ∧ s' = { s with toks := s.toks + 1 }) (fun e s' => R (.error e) s') s := by
    with_reducible refine wpAny_callSpecial?_slot (T1 s) slot_pow ?_
    with_reducible refine call_gives slot_pow (T1 s) F.entry_int_pow (F.args_int_pow_3 _ _ _) (gives_pow3 a t b u c v hc hb) ?_
    exact ⟨rfl, rfl⟩
  refine wpAny_mono one (fun r s' hr => ?_) fun _ _ e => e
  obtain ⟨rfl, rfl⟩ := hr
  dsimp only
  refine wpAny_ite ?_
  rw [if_pos (by rfl)]
  exact wpAny_pure ⟨_, rfl, hR⟩
end

/-- powMod is the power's remainder -/
theorem powFold_ok (b e m : Nat) : ∀ (k h : Nat), (List.range k).reverse.foldl (fun p i => if e.testBit i then p * p % m * b % m else p * p % m) (b ^ h % m) = b ^ (h * 2 ^ k + e % 2 ^ k) % m
  | 0, h => by simp [Nat.mod_one]
  | k + 1, h => by
    rw [List.range_succ, List.reverse_append, List.reverse_singleton, List.singleton_append, List.foldl_cons]
    have hb : (if e.testBit k = true then b ^ h % m * (b ^ h % m) % m * b % m else b ^ h % m * (b ^ h % m) % m) = b ^ (2 * h + (e.testBit k).toNat) % m := by
      have h2 : b ^ h % m * (b ^ h % m) % m = b ^ (2 * h) % m := by rw [← Nat.mul_mod, ← Nat.pow_add, Nat.two_mul]
      cases e.testBit k with
      | true => rw [if_pos rfl, h2, Bool.toNat_true, Nat.pow_succ, Nat.mod_mul_mod]
      | false => rw [if_neg (by simp), h2]; rfl
    rw [hb, powFold_ok b e m k]
    have : (2 * h + (e.testBit k).toNat) * 2 ^ k + e % 2 ^ k = h * 2 ^ (k + 1) + e % 2 ^ (k + 1) := by
      rw [Nat.mod_pow_succ, ← Nat.toNat_testBit, Nat.pow_succ, Nat.add_mul, Nat.mul_comm 2 h, Nat.mul_assoc, Nat.mul_comm 2 (2 ^ k), Nat.mul_comm (e.testBit k).toNat]
      omega
    rw [this]

theorem powMod_eq (b e m : Nat) : Builtin.powMod b e m = b ^ e % m := by
  unfold Builtin.powMod
  have h := powFold_ok b e m (Builtin.Int.intBits (e : Int)) 0
  rw [Nat.pow_zero, Nat.zero_mul, Nat.zero_add] at h
  refine h.trans ?_
  have : e % 2 ^ Builtin.Int.intBits (e : Int) = e := by
    refine Nat.mod_eq_of_lt ?_
    have := (intBits_le_iff (m := Builtin.Int.intBits (e : Int)) (x := (e : Int))).mp (Nat.le_refl _)
    simpa using this
  rw [this]

section
variable {prog : Program} {w : World} {A : Around} {E : Value → Shared → Prop} {s : Shared}
/-- pow(a, b, c) of ints -/
theorem call_powI {a b c : Int} {t u v : Tok} {Q : Value → Shared → Prop} (hc : 1 < c) (ha : 0 ≤ a) (hb : 0 ≤ b)
    (h : Q (.int (a ^ b.toNat % c) s.toks) { s with toks := s.toks + 1 }) :
    wpAny (model prog w) A (call (.builtin "pow") [.int a t, .int b u, .int c v]) Q E s := by
  refine call_pow3 hc hb ?_
  have e : ((Builtin.powMod (a % (c.natAbs : Int)).toNat b.natAbs c.natAbs : Nat) : Int) = a ^ b.toNat % c := by
    rw [powMod_eq]
    obtain ⟨a, rfl⟩ := Int.eq_ofNat_of_zero_le ha
    obtain ⟨b, rfl⟩ := Int.eq_ofNat_of_zero_le hb
    obtain ⟨c, rfl⟩ := Int.eq_ofNat_of_zero_le (show 0 ≤ c by omega)
    simp only [Int.natAbs_natCast, Int.toNat_natCast]
    rw [show ((a : Int) % (c : Int)).toNat = a % c by rw [← Int.natCast_emod, Int.toNat_natCast], ← Nat.pow_mod]
    simp
  rw [e]
  exact h
/-- a ** 3, of no great size -/
theorem pow_cube {a : Int} {t u : Tok} {Q : Value → Shared → Prop} (ha : Builtin.Int.intBits a ≤ 400) (h : Q (.int (a ^ 3) s.toks) { s with toks := s.toks + 1 }) :
    wpAny (model prog w) A (binaryOp .Pow (.int a t) (.int 3 u)) Q E s := pow_int (by decide) (by omega) h
end
end Mine

end
section
open PySem PySem.W PyProof.Rows PySem.Calls PySem.Spec
set_option maxRecDepth 100000
set_option maxHeartbeats 0
namespace Mine
theorem fill3 : (fun (_ : OpenLaw) (_ : Params → Frag) => True) PySem.Challenge.rw_kh0007_01 hd.heap_39 := by
  k_fill
  trivial
local macro_rules | `(tactic| k_mem) => `(tactic| (refine mem_of ?_; ktr_member))
local macro_rules | `(tactic| k_units) => `(tactic| ((try simp only [units_under_make, units_in1, PyProof.Rows.units_deeper]); (try dsimp only [ktrTop]); omega))
local macro_rules | `(tactic| k_room) => `(tactic| ((try simp only [depth_under_make, depth_under_kw, depth_in1, depth_deeper]); (try dsimp only [ktrTop]); omega))
section
variable {w : World} {mean : ExcName → Option Value} {mg mb : Str → Option Value} {dp un : Nat} {gd : Option (List Code)} {cn : Str} {cs : Scope} {a : Addr} {ccd : Value} {cl : List (Str × Addr)} {outer : List Env} {A₀ : Around} {base h₀ : Heap} {L : Addr} {m : Str → Option Value} {news : List (Addr × Obj)} {s : Shared} {Q E : Value → Shared → Prop}
local macro_rules | `(tactic| walk_at "call ref") => `(tactic| (k_here; refine stop_here ?_))

theorem isinf_spec (B : Below A₀ base outer h₀) (F : Fr h₀ L s.heap m) (X : (hd.heap_39 w.params).In h₀) (N : News h₀ L s.heap news) (T : Top hd.view_39 loose mean mg mb h₀) (hk : cs.kind = .function)
    (hu : un + 20 < cLine) (hdp : dp + 12 < recursionLimit) {q : Addr} {p : Int} {P : Int × Int × Int} (hq : PTm news p P q) (hp : Pok p)
    (hret : ∀ news' h' tk', Fr h₀ L h' m → News h₀ L h' news' → (∀ e ∈ news, e ∈ news') → Q (.bool (P.2.2 == 0)) { s with heap := h', toks := tk' }) :
    wpAny (model prog w) (ktrTop dp un gd cn cs L a ccd cl outer) (call (.ref 28) [.ref q]) Q E s := by
  obtain ⟨xa, ya, za, hqa, ⟨dxa, h1, k1, t1, h2, k2, t2, hxa, hdxa, hia⟩, ⟨dya, h3, k3, t3, h4, k4, t4, hya, hdya, hja⟩, ⟨dza, h5, k5, t5, h6, k6, t6, hza, hdza, hka⟩⟩ := hq
  refine wpAny_call ?_
  k_dflt (refine' code_def ?k1 ?k2 ?k3 ?k4 ?k5 ?kA ?kF ?kK ?k6 ?k7 ?k8 ?k9 ?kB ?_ ?c2 ?c3 ?c4 ?c5; (case kA => exact rfl); (case kF => exact rfl); (case kK => assumption); (case k1 => k_asm); (case k2 => k_asm); (case k3 => k_asm); (case k4 => k_asm); (case k5 => k_asm); (case k6 => k_is); (case k7 => k_is); (case k8 => k_room); (case k9 => exact BindsTo.of_eq rfl); (case c5 => decide); (case kB => exact locs rfl); (case c2 => exact rfl); (case c3 => exact rfl); (case c4 => exact rfl); k_whole; intro g' L' h' FG' F' N' B' X' T'; (try dsimp only); (try k_fold))
  k_steps
  repeat (any_goals (first
    | ((with_reducible show Stop (wpAny _ _ (call (Value.ref 211) _) _ _ _)); refine stop_go ?_; k_dflt (refine' zero_spec ?k1 ?k2 ?k3 ?k4 ?k5 ?kK ?kd ?kx ?kp ?_; (case k1 => k_asm); (case k2 => k_asm); (case k3 => k_asm); (case k4 => k_asm); (case k5 => k_asm); (case kK => first | exact rfl | assumption); (case kd => k_room); (case kx => exact ⟨_, _, _, _, _, _, _, by k_mem, by k_mem, by first | assumption | exact in0_emod _ (by assumption) | exact in0_zero (by assumption) | exact in0_one (by assumption)⟩); (case kp => assumption)); intro z9 dz9 h19 k19 t19 h29 k29 t29 h9 tk9 F9 N9 l9 l9'; (try dsimp only [PySem.W.CmpBack]); (try k_fold); k_steps)
    | ((with_reducible show Stop (wpAny _ _ (call (Value.ref 147) [Value.ref _, Value.ref _]) _ _ _)); refine stop_go ?_; k_dflt (refine' eq_spec ?k1 ?k2 ?k3 ?k4 ?k5 ?kK ?kd ?kx ?ky ?_; (case k1 => k_asm); (case k2 => k_asm); (case k3 => k_asm); (case k4 => k_asm); (case k5 => k_asm); (case kK => first | exact rfl | assumption); (case kd => k_room); (case kx => exact ⟨_, _, _, _, _, _, _, by k_mem, by k_mem, by first | assumption | exact in0_emod _ (by assumption) | exact in0_zero (by assumption) | exact in0_one (by assumption)⟩); (case ky => exact ⟨_, _, _, _, _, _, _, by k_mem, by k_mem, by first | assumption | exact in0_emod _ (by assumption) | exact in0_zero (by assumption) | exact in0_one (by assumption)⟩)); intro h9 tk9 F9 N9; (try dsimp only [PySem.W.CmpBack]); (try k_fold); k_steps)))
  exact hret _ _ _ (by k_asm) (by k_asm) (by intro e he; repeat (first | exact he | refine List.mem_cons_of_mem _ ?_))
end

abbrev tup2 (a b : Value) : Obj := { cls := .type "tuple", data := .seq [a, b].toArray }
/-- a point in the ledger: a tuple of two ints -/
def Pt2 (news : List (Addr × Obj)) (x y : Int) (q : Addr) : Prop := ∃ tx ty, (q, tup2 (.int x tx) (.int y ty)) ∈ news
def slopeC (p climb run : Int) : Int := climb * ((run % p) ^ (p - 2).toNat % p) % p
def thirdX (p s x1 x2 : Int) : Int := (s * s - x1 - x2) % p
def thirdY (p s x1 x3 y1 : Int) : Int := (s * (x1 - x3) - y1) % p
def slopeL (p x1 y1 x2 y2 : Int) : Int := if x1 = x2 then slopeC p (3 * x1 * x1) (2 * y1) else slopeC p (y2 - y1) (x2 - x1)
def sumL (p x1 y1 x2 y2 : Int) : Option (Int × Int) :=
  if x1 = x2 ∧ (y1 + y2) % p = 0 then none
  else some (thirdX p (slopeL p x1 y1 x2 y2) x1 x2, thirdY p (slopeL p x1 y1 x2 y2) x1 (thirdX p (slopeL p x1 y1 x2 y2) x1 x2) y1)
def Bd (x : Int) : Prop := Builtin.Int.intBits x ≤ 1300
theorem mulOk_bd {a b : Int} (ha : Bd a) (hb : Bd b) : IntMulOk a b := IntMulOk.of_le ha hb (by decide)
theorem bd_in0 {p i : Int} (h : Pok p) (hi : In0 p i) : Bd i := Nat.le_trans (bits_of_in0 h hi) (by decide)
theorem bd_emod {p : Int} (v : Int) (h : Pok p) : Bd (v % p) := bd_in0 h (in0_emod v h)
theorem bd_fmod {p : Int} (v : Int) (h : Pok p) : Bd (Int.fmod v p) := by rw [fmod_pos h.pos]; exact bd_emod v h
theorem bd_sub {p a b : Int} (h : Pok p) (ha : In0 p a) (hb : In0 p b) : Bd (a - b) := Nat.le_trans (PySem.intBits_sub_le (bits_of_in0 h ha) (bits_of_in0 h hb)) (by decide)
theorem bd_3x {p a : Int} (h : Pok p) (ha : In0 p a) : Bd (3 * a) := Nat.le_trans (PySem.intBits_mul_le (m := 2) (by decide) (bits_of_in0 h ha)) (by decide)
theorem bd_3xx {p a : Int} (h : Pok p) (ha : In0 p a) : Bd (3 * a * a) := Nat.le_trans (PySem.intBits_mul_le (PySem.intBits_mul_le (m := 2) (by decide) (bits_of_in0 h ha)) (bits_of_in0 h ha)) (by decide)
theorem in0_fmod {p : Int} (v : Int) (h : Pok p) : In0 p (Int.fmod v p) := by rw [fmod_pos h.pos]; exact in0_emod v h
theorem sumL_none {p x1 y1 x2 y2 : Int} (hp : 0 < p) (h : x1 = x2) (h2 : Int.fmod (y1 + y2) p = 0) : sumL p x1 y1 x2 y2 = none := if_pos ⟨h, by rw [← fmod_pos hp]; exact h2⟩
theorem sumL_some1 {p x1 y1 x2 y2 : Int} (hp : 0 < p) (h : x1 = x2) (h2 : Int.fmod (y1 + y2) p ≠ 0) : sumL p x1 y1 x2 y2 =
    some (Int.fmod (Int.fmod (3 * x1 * x1 * (Int.fmod (2 * y1) p ^ (p - 2).toNat % p)) p * Int.fmod (3 * x1 * x1 * (Int.fmod (2 * y1) p ^ (p - 2).toNat % p)) p - x1 - x2) p,
      Int.fmod (Int.fmod (3 * x1 * x1 * (Int.fmod (2 * y1) p ^ (p - 2).toNat % p)) p * (x1 - Int.fmod (Int.fmod (3 * x1 * x1 * (Int.fmod (2 * y1) p ^ (p - 2).toNat % p)) p * Int.fmod (3 * x1 * x1 * (Int.fmod (2 * y1) p ^ (p - 2).toNat % p)) p - x1 - x2) p) - y1) p) := by
  unfold sumL
  rw [if_neg (fun x => h2 (by rw [fmod_pos hp]; exact x.2))]
  simp only [fmod_pos hp, slopeL, if_pos h, slopeC, thirdX, thirdY]
theorem sumL_some2 {p x1 y1 x2 y2 : Int} (hp : 0 < p) (h : x1 ≠ x2) : sumL p x1 y1 x2 y2 =
    some (Int.fmod (Int.fmod ((y2 - y1) * (Int.fmod (x2 - x1) p ^ (p - 2).toNat % p)) p * Int.fmod ((y2 - y1) * (Int.fmod (x2 - x1) p ^ (p - 2).toNat % p)) p - x1 - x2) p,
      Int.fmod (Int.fmod ((y2 - y1) * (Int.fmod (x2 - x1) p ^ (p - 2).toNat % p)) p * (x1 - Int.fmod (Int.fmod ((y2 - y1) * (Int.fmod (x2 - x1) p ^ (p - 2).toNat % p)) p * Int.fmod ((y2 - y1) * (Int.fmod (x2 - x1) p ^ (p - 2).toNat % p)) p - x1 - x2) p) - y1) p) := by
  unfold sumL
  rw [if_neg (fun x => h x.1)]
  simp only [fmod_pos hp, slopeL, if_neg h, slopeC, thirdX, thirdY]
theorem news_two {h₀ h : Heap} {L : Addr} {news : List (Addr × Obj)} {e e' : Addr × Obj} (N : News h₀ L h (e :: e' :: news)) : News h₀ L h (e :: news) := fun p hp => N p ((List.mem_cons.mp hp).elim (fun q => q ▸ .head _) fun q => .tail _ (.tail _ q))
theorem fmod_nn {v p : Int} (h : 0 < p) : 0 ≤ Int.fmod v p := by rw [fmod_pos h]; exact Int.emod_nonneg _ (by omega)
local macro_rules | `(tactic| walk_at "binaryOp Mult int int") => `(tactic| (k_here; with_reducible refine mul_int (hm := ?hm) ?_; (case hm => first | with_reducible assumption | (apply_assumption; done))))
local macro_rules | `(tactic| walk_at "call builtin:pow") => `(tactic| (k_here; k_dflt (refine' call_powI ?ka ?kb ?kc ?_; (case ka => omega); (case kb => first | exact fmod_nn (by assumption) | omega); (case kc => first | omega | assumption))))
local macro_rules | `(tactic| walk_at "binaryOp Pow int int") => `(tactic| (k_here; k_dflt (refine' pow_cube ?ka ?_; (case ka => first | assumption | exact bits_of_in0 (by assumption) (by assumption)))))
section
variable {w : World} {mean : ExcName → Option Value} {mg mb : Str → Option Value} {dp un : Nat} {gd : Option (List Code)} {cn : Str} {cs : Scope} {a : Addr} {ccd : Value} {cl : List (Str × Addr)} {outer : List Env} {A₀ : Around} {base h₀ : Heap} {L : Addr} {m : Str → Option Value} {news : List (Addr × Obj)} {s : Shared} {Q E : Value → Shared → Prop}

theorem sum_spec (B : Below A₀ base outer h₀) (F : Fr h₀ L s.heap m) (X : (hd.heap_39 w.params).In h₀) (N : News h₀ L s.heap news) (T : Top hd.view_39 loose mean mg mb h₀) (hk : cs.kind = .function)
    (hu : un + 20 < cLine) (hdp : dp + 12 < recursionLimit) {q1 q2 : Addr} {p x1 y1 x2 y2 : Int} {tp : Tok} (hq1 : Pt2 news x1 y1 q1) (hq2 : Pt2 news x2 y2 q2) (hp : Pok p) (hx1 : In0 p x1) (hy1 : In0 p y1) (hx2 : In0 p x2) (hy2 : In0 p y2)
    (hnone : sumL p x1 y1 x2 y2 = none → ∀ h' tk', Fr h₀ L h' m → News h₀ L h' news → Q .none { s with heap := h', toks := tk' })
    (hsome : ∀ X Y, sumL p x1 y1 x2 y2 = some (X, Y) → ∀ q tX tY h' tk', Fr h₀ L h' m → News h₀ L h' ((q, tup2 (.int X tX) (.int Y tY)) :: news) → (∀ e ∈ news, e.1 < q) → Q (.ref q) { s with heap := h', toks := tk' }) :
    wpAny (model prog w) (ktrTop dp un gd cn cs L a ccd cl outer) (call (.ref 253) [.ref q1, .ref q2, .int p tp]) Q E s := by
  obtain ⟨tx1, ty1, hq1⟩ := hq1
  obtain ⟨tx2, ty2, hq2⟩ := hq2
  have hp0 := hp.pos
  have hp4 := hp.1
  have hm1 := mulOk_bd (bd_3x hp hx1) (bd_in0 hp hx1)
  have hm2 := mulOk_bd (bd_3xx hp hx1) (bd_emod (Int.fmod (2 * y1) p ^ (p - 2).toNat) hp)
  have hm3 := mulOk_bd (bd_sub hp hy2 hy1) (bd_emod (Int.fmod (x2 - x1) p ^ (p - 2).toNat) hp)
  have hm4 : ∀ v, IntMulOk (Int.fmod v p) (Int.fmod v p) := fun v => mulOk_bd (bd_fmod v hp) (bd_fmod v hp)
  have hm5 : ∀ v w, IntMulOk (Int.fmod v p) (x1 - Int.fmod w p) := fun v w => mulOk_bd (bd_fmod v hp) (bd_sub hp hx1 (in0_fmod w hp))
  refine wpAny_call ?_
  k_dflt (refine' code_def ?k1 ?k2 ?k3 ?k4 ?k5 ?kA ?kF ?kK ?k6 ?k7 ?k8 ?k9 ?kB ?_ ?c2 ?c3 ?c4 ?c5; (case kA => exact rfl); (case kF => exact rfl); (case kK => assumption); (case k1 => k_asm); (case k2 => k_asm); (case k3 => k_asm); (case k4 => k_asm); (case k5 => k_asm); (case k6 => k_is); (case k7 => k_is); (case k8 => k_room); (case k9 => exact BindsTo.of_eq rfl); (case c5 => decide); (case kB => exact locs rfl); (case c2 => exact rfl); (case c3 => exact rfl); (case c4 => exact rfl); k_whole; intro g' L' h' FG' F' N' B' X' T'; (try dsimp only); (try k_fold))
  k_steps
  repeat (any_goals (first
    | ((with_reducible show Stop (wpAny _ _ (call (Value.ref 211) _) _ _ _)); refine stop_go ?_; k_dflt (refine' zero_spec ?k1 ?k2 ?k3 ?k4 ?k5 ?kK ?kd ?kx ?kp ?_; (case k1 => k_asm); (case k2 => k_asm); (case k3 => k_asm); (case k4 => k_asm); (case k5 => k_asm); (case kK => first | exact rfl | assumption); (case kd => k_room); (case kx => exact ⟨_, _, _, _, _, _, _, by k_mem, by k_mem, by first | assumption | exact in0_emod _ (by assumption) | exact in0_zero (by assumption) | exact in0_one (by assumption)⟩); (case kp => assumption)); intro z9 dz9 h19 k19 t19 h29 k29 t29 h9 tk9 F9 N9 l9 l9'; (try dsimp only [PySem.W.CmpBack]); (try k_fold); k_steps)
    | ((with_reducible show Stop (wpAny _ _ (call (Value.ref 147) [Value.ref _, Value.ref _]) _ _ _)); refine stop_go ?_; k_dflt (refine' eq_spec ?k1 ?k2 ?k3 ?k4 ?k5 ?kK ?kd ?kx ?ky ?_; (case k1 => k_asm); (case k2 => k_asm); (case k3 => k_asm); (case k4 => k_asm); (case k5 => k_asm); (case kK => first | exact rfl | assumption); (case kd => k_room); (case kx => exact ⟨_, _, _, _, _, _, _, by k_mem, by k_mem, by first | assumption | exact in0_emod _ (by assumption) | exact in0_zero (by assumption) | exact in0_one (by assumption)⟩); (case ky => exact ⟨_, _, _, _, _, _, _, by k_mem, by k_mem, by first | assumption | exact in0_emod _ (by assumption) | exact in0_zero (by assumption) | exact in0_one (by assumption)⟩)); intro h9 tk9 F9 N9; (try dsimp only [PySem.W.CmpBack]); (try k_fold); k_steps)))
  all_goals first
    | exact absurd (show x1 = x2 by assumption) (by assumption)
    | exact hnone (sumL_none hp0 (by assumption) (by assumption)) _ _ (by k_asm) (by k_asm)
    | (with_reducible rename _ ∧ AllLt _ _ => l9; exact hsome _ _ (sumL_some1 hp0 (by assumption) (by assumption)) _ _ _ _ _ (by k_asm) (news_two (by k_asm)) (ktn_ltOf l9.2))
    | (with_reducible rename _ ∧ AllLt _ _ => l9; exact hsome _ _ (sumL_some2 hp0 (by assumption)) _ _ _ _ _ (by k_asm) (news_two (by k_asm)) (ktn_ltOf l9.2))
end
section
variable {w : World} {mean : ExcName → Option Value} {mg mb : Str → Option Value} {dp un : Nat} {gd : Option (List Code)} {cn : Str} {cs : Scope} {a : Addr} {ccd : Value} {cl : List (Str × Addr)} {outer : List Env} {A₀ : Around} {base h₀ : Heap} {L : Addr} {m : Str → Option Value} {news : List (Addr × Obj)} {s : Shared} {Q E : Value → Shared → Prop}

/-- on the curve y^2 = x^3 + c, both in bounds -/
def OnC (p c x y : Int) : Prop := In0 p x ∧ In0 p y ∧ y * y % p = (x ^ 3 + c) % p
theorem onC_1 {p c x v : Int} (hp : Pok p) (hx : In0 p x) (h : (v % p * (v % p)).fmod p = (x ^ 3 + c).fmod p) : OnC p c x (v % p) :=
  ⟨hx, in0_emod v hp, by rw [fmod_pos hp.pos, fmod_pos hp.pos] at h; exact h⟩
theorem onC_2 {p c x v : Int} (hp : Pok p) (hx : In0 p x) (h : (v % p * (v % p)).fmod p = (x ^ 3 + c).fmod p) : OnC p c x ((p - v % p).fmod p) := by
  refine ⟨hx, in0_fmod _ hp, ?_⟩
  rw [fmod_pos hp.pos, fmod_pos hp.pos] at h
  rw [fmod_pos hp.pos, ← h, ← Int.mul_emod, Int.emod_eq_emod_iff_emod_sub_eq_zero]
  have e : (p - v % p) * (p - v % p) - v % p * (v % p) = p * (p - 2 * (v % p)) := by
    generalize v % p = y
    grind
  rw [e]
  exact Int.mul_emod_right _ _
theorem news_cut {h₀ h : Heap} {L : Addr} {news l : List (Addr × Obj)} {e : Addr × Obj} (N : News h₀ L h (e :: (news ++ l))) : News h₀ L h (e :: news) := fun p hp => N p ((List.mem_cons.mp hp).elim (fun q => q ▸ .head _) fun q => .tail _ (List.mem_append_left _ q))
theorem lt_cut {d : Addr} {news l : List (Addr × Obj)} (h : ∀ p ∈ news ++ l, p.1 < d) : ∀ p ∈ news, p.1 < d := fun p hp => h p (List.mem_append_left _ hp)
theorem point_spec (B : Below A₀ base outer h₀) (F : Fr h₀ L s.heap m) (X : (hd.heap_39 w.params).In h₀) (N : News h₀ L s.heap news) (T : Top hd.view_39 loose mean mg mb h₀) (hk : cs.kind = .function)
    (hu : un + 20 < cLine) (hdp : dp + 12 < recursionLimit) {p c n : Int} {tp tc tn : Tok} (hp : Pok p) (hn : 0 ≤ n) (hc : In0 p c)
    (hnone : ∀ h' tk', Fr h₀ L h' m → News h₀ L h' news → Q .none { s with heap := h', toks := tk' })
    (hsome : ∀ X Y, OnC p c X Y → ∀ q tX tY h' tk', Fr h₀ L h' m → News h₀ L h' ((q, tup2 (.int X tX) (.int Y tY)) :: news) → (∀ e ∈ news, e.1 < q) → Q (.ref q) { s with heap := h', toks := tk' }) :
    wpAny (model prog w) (ktrTop dp un gd cn cs L a ccd cl outer) (call (.ref 239) [.int n tn, .int c tc, .int p tp]) Q E s := by
  have hp0 := hp.pos
  have hp4 := hp.1
  k_with "pyIter ref" => k_state_given ["prime"] (fun prime pre place => In0 prime place) "place"
  k_with "state" => exact in0_fmod _ (by assumption)
  have hfd : 0 ≤ (p + 1).fdiv 4 := by rw [Int.fdiv_eq_ediv_of_nonneg _ (by omega)]; omega
  have hm : ∀ v : Int, IntMulOk (v % p) (v % p) := fun v => mulOk_bd (bd_emod v hp) (bd_emod v hp)
  refine wpAny_call ?_
  k_dflt (refine' code_def ?k1 ?k2 ?k3 ?k4 ?k5 ?kA ?kF ?kK ?k6 ?k7 ?k8 ?k9 ?kB ?_ ?c2 ?c3 ?c4 ?c5; (case kA => exact rfl); (case kF => exact rfl); (case kK => assumption); (case k1 => k_asm); (case k2 => k_asm); (case k3 => k_asm); (case k4 => k_asm); (case k5 => k_asm); (case k6 => k_is); (case k7 => k_is); (case k8 => k_room); (case k9 => exact BindsTo.of_eq rfl); (case c5 => decide); (case kB => exact locs rfl); (case c2 => exact rfl); (case c3 => exact rfl); (case c4 => exact rfl); k_whole; intro g' L' h' FG' F' N' B' X' T'; (try dsimp only); (try k_fold))
  k_steps
  repeat (any_goals (first
    | ((with_reducible show Stop (wpAny _ _ (call (Value.ref 211) _) _ _ _)); refine stop_go ?_; k_dflt (refine' zero_spec ?k1 ?k2 ?k3 ?k4 ?k5 ?kK ?kd ?kx ?kp ?_; (case k1 => k_asm); (case k2 => k_asm); (case k3 => k_asm); (case k4 => k_asm); (case k5 => k_asm); (case kK => first | exact rfl | assumption); (case kd => k_room); (case kx => exact ⟨_, _, _, _, _, _, _, by k_mem, by k_mem, by first | assumption | exact in0_emod _ (by assumption) | exact in0_zero (by assumption) | exact in0_one (by assumption)⟩); (case kp => assumption)); intro z9 dz9 h19 k19 t19 h29 k29 t29 h9 tk9 F9 N9 l9 l9'; (try dsimp only [PySem.W.CmpBack]); (try k_fold); k_steps)
    | ((with_reducible show Stop (wpAny _ _ (call (Value.ref 147) [Value.ref _, Value.ref _]) _ _ _)); refine stop_go ?_; k_dflt (refine' eq_spec ?k1 ?k2 ?k3 ?k4 ?k5 ?kK ?kd ?kx ?ky ?_; (case k1 => k_asm); (case k2 => k_asm); (case k3 => k_asm); (case k4 => k_asm); (case k5 => k_asm); (case kK => first | exact rfl | assumption); (case kd => k_room); (case kx => exact ⟨_, _, _, _, _, _, _, by k_mem, by k_mem, by first | assumption | exact in0_emod _ (by assumption) | exact in0_zero (by assumption) | exact in0_one (by assumption)⟩); (case ky => exact ⟨_, _, _, _, _, _, _, by k_mem, by k_mem, by first | assumption | exact in0_emod _ (by assumption) | exact in0_zero (by assumption) | exact in0_one (by assumption)⟩)); intro h9 tk9 F9 N9; (try dsimp only [PySem.W.CmpBack]); (try k_fold); k_steps)))
  all_goals first
    | exact hnone _ _ (by k_asm) (by k_asm)
    | exact hsome _ _ (onC_1 hp (by assumption) (by assumption)) _ _ _ _ _ (by k_asm) (news_cut (by k_asm)) (lt_cut (by k_asm))
    | exact hsome _ _ (onC_2 hp (by assumption) (by assumption)) _ _ _ _ _ (by k_asm) (news_cut (by k_asm)) (lt_cut (by k_asm))
end
section
variable {w : World} {mean : ExcName → Option Value} {mg mb : Str → Option Value} {dp un : Nat} {gd : Option (List Code)} {cn : Str} {cs : Scope} {a : Addr} {ccd : Value} {cl : List (Str × Addr)} {outer : List Env} {A₀ : Around} {base h₀ : Heap} {L : Addr} {m : Str → Option Value} {news : List (Addr × Obj)} {s : Shared} {Q E : Value → Shared → Prop}

/-- how many points the curve has, as the law counts them -/
def cntF (p c : Int) : Int := List.foldl (fun a' k' => if (k' ^ Int.toNat 3 + c).fmod p = 0 then a' + 1 else if (k' ^ Int.toNat 3 + c).fmod p ^ ((p - 1).fdiv 2).toNat % p = 1 then a' + 2 else a') 1 (rangeKs 0 (p - 0).toNat)
theorem pts_spec (B : Below A₀ base outer h₀) (F : Fr h₀ L s.heap m) (X : (hd.heap_39 w.params).In h₀) (N : News h₀ L s.heap news) (T : Top hd.view_39 loose mean mg mb h₀) (hk : cs.kind = .function)
    (hu : un + 20 < cLine) (hdp : dp + 12 < recursionLimit) {p c : Int} {tp tc : Tok} (hp : Pok p) (hp2 : p ≤ 60) (hc : In0 p c)
    (hret : ∀ t h' tk', Fr h₀ L h' m → News h₀ L h' news → Q (.int (cntF p c) t) { s with heap := h', toks := tk' }) :
    wpAny (model prog w) (ktrTop dp un gd cn cs L a ccd cl outer) (call (.ref 260) [.int c tc, .int p tp]) Q E s := by
  have hp0 := hp.pos
  have hp4 := hp.1
  have hfd : 0 ≤ (p - 1).fdiv 2 := by rw [Int.fdiv_eq_ediv_of_nonneg _ (by omega)]; omega
  refine wpAny_call ?_
  k_dflt (refine' code_def ?k1 ?k2 ?k3 ?k4 ?k5 ?kA ?kF ?kK ?k6 ?k7 ?k8 ?k9 ?kB ?_ ?c2 ?c3 ?c4 ?c5; (case kA => exact rfl); (case kF => exact rfl); (case kK => assumption); (case k1 => k_asm); (case k2 => k_asm); (case k3 => k_asm); (case k4 => k_asm); (case k5 => k_asm); (case k6 => k_is); (case k7 => k_is); (case k8 => k_room); (case k9 => exact BindsTo.of_eq rfl); (case c5 => decide); (case kB => exact locs rfl); (case c2 => exact rfl); (case c3 => exact rfl); (case c4 => exact rfl); k_whole; intro g' L' h' FG' F' N' B' X' T'; (try dsimp only); (try k_fold))
  k_steps
  repeat (any_goals (first
    | ((with_reducible show Stop (wpAny _ _ (call (Value.ref 211) _) _ _ _)); refine stop_go ?_; k_dflt (refine' zero_spec ?k1 ?k2 ?k3 ?k4 ?k5 ?kK ?kd ?kx ?kp ?_; (case k1 => k_asm); (case k2 => k_asm); (case k3 => k_asm); (case k4 => k_asm); (case k5 => k_asm); (case kK => first | exact rfl | assumption); (case kd => k_room); (case kx => exact ⟨_, _, _, _, _, _, _, by k_mem, by k_mem, by first | assumption | exact in0_emod _ (by assumption) | exact in0_zero (by assumption) | exact in0_one (by assumption)⟩); (case kp => assumption)); intro z9 dz9 h19 k19 t19 h29 k29 t29 h9 tk9 F9 N9 l9 l9'; (try dsimp only [PySem.W.CmpBack]); (try k_fold); k_steps)
    | ((with_reducible show Stop (wpAny _ _ (call (Value.ref 147) [Value.ref _, Value.ref _]) _ _ _)); refine stop_go ?_; k_dflt (refine' eq_spec ?k1 ?k2 ?k3 ?k4 ?k5 ?kK ?kd ?kx ?ky ?_; (case k1 => k_asm); (case k2 => k_asm); (case k3 => k_asm); (case k4 => k_asm); (case k5 => k_asm); (case kK => first | exact rfl | assumption); (case kd => k_room); (case kx => exact ⟨_, _, _, _, _, _, _, by k_mem, by k_mem, by first | assumption | exact in0_emod _ (by assumption) | exact in0_zero (by assumption) | exact in0_one (by assumption)⟩); (case ky => exact ⟨_, _, _, _, _, _, _, by k_mem, by k_mem, by first | assumption | exact in0_emod _ (by assumption) | exact in0_zero (by assumption) | exact in0_one (by assumption)⟩)); intro h9 tk9 F9 N9; (try dsimp only [PySem.W.CmpBack]); (try k_fold); k_steps)))
  exact hret _ _ _ (by k_asm) (by k_asm)
end
section
variable {w : World} {mean : ExcName → Option Value} {mg mb : Str → Option Value} {dp un : Nat} {gd : Option (List Code)} {cn : Str} {cs : Scope} {a : Addr} {ccd : Value} {cl : List (Str × Addr)} {outer : List Env} {A₀ : Around} {base h₀ : Heap} {L : Addr} {m : Str → Option Value} {news : List (Addr × Obj)} {s : Shared} {Q E : Value → Shared → Prop}

theorem newfq_spec (B : Below A₀ base outer h₀) (F : Fr h₀ L s.heap m) (X : (hd.heap_39 w.params).In h₀) (N : News h₀ L s.heap news) (T : Top hd.view_39 loose mean mg mb h₀) (hk : cs.kind = .function)
    (hdp : dp + 6 < recursionLimit) {p v : Int} {t tp : Tok} (hp : Pok p) (hret : FqRet h₀ L m news s Q p (v % p)) :
    wpAny (model prog w) (ktrTop dp un gd cn cs L a ccd cl outer) (call (.ref 214) [.int v t, .int p tp]) Q E s := by
  have hp0 := hp.pos
  replace hret := hret.eq (fmod_pos (v := v) hp0)
  k_dflt (refine' call_cls ?k1 ?k2 ?k3 ?k4 ?k5 ?k6 ?_; (case k1 => k_asm); (case k2 => k_asm); (case k3 => k_asm); (case k4 => k_is); (case k5 => k_is); (case k6 => k_is); k_whole; intro x' d' h' F' N' l1 l2; (try k_lt l1); (try k_lt2 l2); (try k_sweep); (refine' code_def ?k1 ?k2 ?k3 ?k4 ?k5 ?kA ?kF ?kK ?k6 ?k7 ?k8 ?k9 ?kB ?_ ?c2 ?c3 ?c4 ?c5; (case kA => exact rfl); (case kF => exact rfl); (case kK => assumption); (case k1 => k_asm); (case k2 => k_asm); (case k3 => k_asm); (case k4 => k_asm); (case k5 => k_asm); (case k6 => k_is); (case k7 => k_is); (case k8 => k_room); (case k9 => exact BindsTo.of_eq rfl); (case c5 => decide); (case kB => exact locs rfl); (case c2 => exact rfl); (case c3 => exact rfl); (case c4 => exact rfl); k_whole; intro g' L' h' FG' F' N' B' X' T'; (try dsimp only); (try k_fold)))
  k_steps
  repeat (any_goals (first
    | ((with_reducible show Stop (wpAny _ _ (call (Value.ref 211) _) _ _ _)); refine stop_go ?_; k_dflt (refine' zero_spec ?k1 ?k2 ?k3 ?k4 ?k5 ?kK ?kd ?kx ?kp ?_; (case k1 => k_asm); (case k2 => k_asm); (case k3 => k_asm); (case k4 => k_asm); (case k5 => k_asm); (case kK => first | exact rfl | assumption); (case kd => k_room); (case kx => exact ⟨_, _, _, _, _, _, _, by k_mem, by k_mem, by first | assumption | exact in0_emod _ (by assumption) | exact in0_zero (by assumption) | exact in0_one (by assumption)⟩); (case kp => assumption)); intro z9 dz9 h19 k19 t19 h29 k29 t29 h9 tk9 F9 N9 l9 l9'; (try dsimp only [PySem.W.CmpBack]); (try k_fold); k_steps)
    | ((with_reducible show Stop (wpAny _ _ (call (Value.ref 147) [Value.ref _, Value.ref _]) _ _ _)); refine stop_go ?_; k_dflt (refine' eq_spec ?k1 ?k2 ?k3 ?k4 ?k5 ?kK ?kd ?kx ?ky ?_; (case k1 => k_asm); (case k2 => k_asm); (case k3 => k_asm); (case k4 => k_asm); (case k5 => k_asm); (case kK => first | exact rfl | assumption); (case kd => k_room); (case kx => exact ⟨_, _, _, _, _, _, _, by k_mem, by k_mem, by first | assumption | exact in0_emod _ (by assumption) | exact in0_zero (by assumption) | exact in0_one (by assumption)⟩); (case ky => exact ⟨_, _, _, _, _, _, _, by k_mem, by k_mem, by first | assumption | exact in0_emod _ (by assumption) | exact in0_zero (by assumption) | exact in0_one (by assumption)⟩)); intro h9 tk9 F9 N9; (try dsimp only [PySem.W.CmpBack]); (try k_fold); k_steps)))
  exact hret _ _ _ _ _ _ _ _ _ _ (by k_asm) (by k_asm) (by k_asm) (by k_asm)
end

end Mine

end
section
open Lean.Grind
namespace Mine
set_option linter.unusedSectionVars false
section
variable {K : Type} [CommRing K] [DecidableEq K] {inv : K → K}

/-- an inverse, and 2 and 3 are not nought -/
structure Fld (inv : K → K) : Prop where
  inv_ok : ∀ a : K, a ≠ 0 → a * inv a = 1
  two : (2 : K) ≠ 0
  three : (3 : K) ≠ 0

theorem Fld.cancel (F : Fld inv) {a r s : K} (ha : a ≠ 0) (h : a * r = a * s) : r = s := by
  have h1 := F.inv_ok a ha
  have : inv a * (a * r) = inv a * (a * s) := by rw [h]
  grind
theorem Fld.mul_ne (F : Fld inv) {a b : K} (ha : a ≠ 0) (hb : b ≠ 0) : a * b ≠ 0 := fun h =>
  hb (F.cancel ha (by rw [h]; grind))
theorem Fld.zero (F : Fld inv) {a b : K} (ha : a ≠ 0) (h : a * b = 0) : b = 0 := F.cancel ha (by rw [h]; grind)

/-- the sum of two points, none for infinity -/
def sumK (inv : K → K) : Option (K × K) → Option (K × K) → Option (K × K)
  | none, Q => Q
  | some P, none => some P
  | some (x1, y1), some (x2, y2) =>
    if x1 = x2 ∧ y1 + y2 = 0 then none
    else
      let s := if x1 = x2 then 3 * x1 * x1 * inv (2 * y1) else (y2 - y1) * inv (x2 - x1)
      some (s * s - x1 - x2, s * (x1 - (s * s - x1 - x2)) - y1)

def OnK (c : K) : Option (K × K) → Prop
  | none => True
  | some (x, y) => y * y = x * x * x + c

theorem sumK_none_right (P : Option (K × K)) : sumK inv P none = P := by cases P <;> rfl
theorem sumK_opp {x y y' : K} (h : y + y' = 0) : sumK inv (some (x, y)) (some (x, y')) = none := by
  simp only [sumK, true_and]
  rw [if_pos h]
/-- a sum by a slope: of two points of different x -/
theorem sumK_gen (F : Fld inv) {x1 y1 x2 y2 l : K} (hx : x1 ≠ x2) (hl : l * (x2 - x1) = y2 - y1) :
    sumK inv (some (x1, y1)) (some (x2, y2)) = some (l * l - x1 - x2, l * (x1 - (l * l - x1 - x2)) - y1) := by
  have h1 : x2 - x1 ≠ 0 := fun h => hx (by grind)
  have h2 := F.inv_ok _ h1
  have h3 : (y2 - y1) * inv (x2 - x1) = l := by
    apply F.cancel h1
    grind
  simp only [sumK]
  rw [if_neg (fun h => hx h.1), if_neg hx, h3]
/-- .. of a point twice -/
theorem sumK_dbl (F : Fld inv) {x y l : K} (hy : y ≠ 0) (hl : l * (2 * y) = 3 * x * x) :
    sumK inv (some (x, y)) (some (x, y)) = some (l * l - x - x, l * (x - (l * l - x - x)) - y) := by
  have h0 : 2 * y ≠ 0 := F.mul_ne F.two hy
  have h1 : ¬ (y + y = 0) := fun h => h0 (by grind)
  have h2 := F.inv_ok _ h0
  have h3 : 3 * x * x * inv (2 * y) = l := by
    apply F.cancel h0
    grind
  simp only [sumK, true_and, if_true]
  rw [if_neg h1, h3]
theorem slope_gen (F : Fld inv) {x1 y1 x2 y2 : K} (hx : x1 ≠ x2) : ∃ l : K, l * (x2 - x1) = y2 - y1 := by
  have h1 : x2 - x1 ≠ 0 := fun h => hx (by grind)
  have h2 := F.inv_ok _ h1
  exact ⟨(y2 - y1) * inv (x2 - x1), by grind⟩
theorem slope_dbl (F : Fld inv) {x y : K} (hy : y ≠ 0) : ∃ l : K, l * (2 * y) = 3 * x * x := by
  have h2 := F.inv_ok _ (F.mul_ne F.two hy)
  exact ⟨3 * x * x * inv (2 * y), by grind⟩
/-- of one x: the same point or its opposite -/
theorem same_x (F : Fld inv) {c x y y' : K} (h : y * y = x * x * x + c) (h' : y' * y' = x * x * x + c) (hne : y + y' ≠ 0) : y = y' := by
  have : (y + y') * (y - y') = 0 := by grind
  have := F.zero hne this
  grind

theorem onK_sum (F : Fld inv) {c : K} : ∀ {P Q : Option (K × K)}, OnK c P → OnK c Q → OnK c (sumK inv P Q)
  | none, Q, _, hQ => hQ
  | some P, none, hP, _ => hP
  | some (x1, y1), some (x2, y2), hP, hQ => by
    simp only [OnK] at hP hQ
    by_cases hx : x1 = x2
    · subst hx
      by_cases hy : y1 + y2 = 0
      · rw [sumK_opp hy]; trivial
      · have e := same_x F hP hQ hy
        subst e
        have hy1 : y1 ≠ 0 := fun h => hy (by rw [h]; grind)
        obtain ⟨l, hl⟩ := slope_dbl F (x := x1) hy1
        rw [sumK_dbl F hy1 hl]
        simp only [OnK]
        apply F.cancel (F.mul_ne F.two hy1)
        grind
    · obtain ⟨l, hl⟩ := slope_gen F (y1 := y1) (y2 := y2) hx
      rw [sumK_gen F hx hl]
      simp only [OnK]
      apply F.cancel (a := x2 - x1) (fun h => hx (by grind))
      grind

theorem sumK_comm (F : Fld inv) {c : K} : ∀ {P Q : Option (K × K)}, OnK c P → OnK c Q → sumK inv P Q = sumK inv Q P
  | none, none, _, _ => rfl
  | none, some _, _, _ => rfl
  | some _, none, _, _ => rfl
  | some (x1, y1), some (x2, y2), hP, hQ => by
    simp only [OnK] at hP hQ
    by_cases hx : x1 = x2
    · subst hx
      by_cases hy : y1 + y2 = 0
      · rw [sumK_opp hy, sumK_opp (by grind)]
      · have e := same_x F hP hQ hy
        subst e
        rfl
    · obtain ⟨l, hl⟩ := slope_gen F (y1 := y1) (y2 := y2) hx
      rw [sumK_gen F hx hl, sumK_gen F (l := l) (fun h => hx h.symm) (by grind)]
      simp only [Option.some.injEq, Prod.mk.injEq]
      constructor <;> grind


section
variable {a b x y l m k c w u v i : K}
theorem al1 (hv : l * l - x - a = a) : (x - a) * (l * l - x - a - a) = 0 := by rw [hv]; grind
theorem al2 (h : w * i = 1) : u * i * w = u := by grind
theorem al3 (h1 : 2 * b * w = u * v) (h2 : k * w = u) : w * (2 * b) = w * (k * v) := by grind
theorem al4 (hl : l * (a - x) = b - y) (h : 2 * b = k * (l * l - x - a - a)) : -(l + k) * (a - (l * l - x - a)) = b - (l * (x - (l * l - x - a)) - y) := by grind
theorem al5 (hl : l * (a - x) = b - y) (hr : 2 * b * (m - l) = (x - a) * (l * l - x - a - a)) (hd : x = m * m - a - a) : (m - l) * y = (m - l) * (m * (a - (m * m - a - a)) - b) := by
  have e : y = b - l * (a - x) := by grind
  have e2 : m * m - a - a = x := hd.symm
  have : l * l - x - a - a = l * l - m * m := by rw [hd]; grind
  rw [this] at hr
  rw [e2, e]
  clear e e2 hd this hl
  grind
theorem al6 (hl : l * (a - x) = b - y) (hy : y = m * (a - x) - b) : 2 * y = -(x - a) * (m - l) := by grind
theorem al7 (hl : l * (a - x) = b - y) (hy : y = m * (a - x) - b) (hk : k * (m - l) = x - a) (h2y : 2 * y = -(x - a) * (m - l)) (hm : m * (2 * b) = 3 * a * a) (hd : x = m * m - a - a) : -(m + k) * (2 * y) = 3 * x * x := by
  have e1 : -(m + k) * (2 * y) = m * (x - a) * (m - l) + (x - a) * (k * (m - l)) := by rw [h2y]; grind
  rw [e1, hk]
  have e2 : 2 * b = -(l + m) * (x - a) := by clear hk h2y hm hd e1; grind
  rw [e2] at hm
  have e3 : x - a = m * m - a - a - a := by rw [hd]
  generalize hu : x - a = u at *
  have e4 : x = a + u := by clear hm e2 hl hy hk h2y hd e1 e3; grind
  rw [e4]
  clear hl hy hk h2y hd e1 e2 hu e4
  grind
theorem al8 (hk : k * (m - l) = x - a) : -(l + k) * -(l + k) - (l * l - x - a) - a = -(m + k) * -(m + k) - x - (m * m - a - a) := by grind
theorem al9 (hl : l * (a - x) = b - y) (hk : k * (m - l) = x - a) (h : 2 * b = k * (l * l - x - a - a)) (X : K) (hX : X = 2 * l * k + k * k + x) : -(l + k) * ((l * l - x - a) - X) - (l * (x - (l * l - x - a)) - y) = -(m + k) * (x - X) - y := by
  have e : y = b - l * (a - x) := by clear hk h hX; grind
  rw [e, hX]
  clear e hX hl
  grind
theorem al10 (hl : l * (a - x) = b - y) (hk : k * (m - l) = x - a) (hr : 2 * b * (m - l) = (x - a) * (l * l - x - a - a)) : (m - l) * (-(m + k) * (m * m - a - a - x)) = (m - l) * (m * (a - (m * m - a - a)) - b - y) := by
  have e : y = b - l * (a - x) := by clear hk hr; grind
  rw [e]
  clear e hl
  grind
theorem al11 : -(l + k) * -(l + k) - (l * l - x - a) - a = 2 * l * k + k * k + x := by grind
end
/-- twice P, on one side and on the other -/
theorem two_step (F : Fld inv) {c : K} (hc : c ≠ 0) : ∀ {Q P : Option (K × K)}, OnK c Q → OnK c P → sumK inv (sumK inv Q P) P = sumK inv Q (sumK inv P P)
  | none, _, _, _ => rfl
  | some Q, none, _, _ => by rw [sumK_none_right]; rfl
  | some (x, y), some (a, b), hQ, hP => by
    have hQ0 := hQ
    have hP0 := hP
    simp only [OnK] at hQ hP
    by_cases hx : x = a
    · subst hx
      by_cases hy : y + b = 0
      · -- Q is P's opposite
        rw [sumK_opp hy]
        show some (x, b) = _
        by_cases hb : b = 0
        · have : y = 0 := by grind
          rw [sumK_opp (by grind), sumK_none_right]
          grind
        · obtain ⟨m, hm⟩ := slope_dbl F (x := x) hb
          have hy' : y ≠ 0 := fun h => hb (by grind)
          rw [sumK_dbl F hb hm]
          by_cases hd : x = m * m - x - x
          · rw [← hd]
            have e : m * (x - x) - b = y := by grind
            rw [e, sumK_dbl F (l := -m) hy' (by grind)]
            simp only [Option.some.injEq, Prod.mk.injEq]
            constructor <;> grind
          · rw [sumK_gen F (l := -m) hd (by grind)]
            simp only [Option.some.injEq, Prod.mk.injEq]
            constructor <;> grind
      · have e := same_x F hQ hP hy
        subst e
        exact sumK_comm F (onK_sum F hQ0 hQ0) hQ0
    · obtain ⟨l, hl⟩ := slope_gen F (y1 := y) (y2 := b) hx
      have hu : a - x ≠ 0 := fun h => hx (by grind)
      rw [sumK_gen F hx hl]
      by_cases hb : b = 0
      · -- P has order two
        have ha : a ≠ 0 := fun h => hc (by grind)
        rw [sumK_opp (x := a) (y := b) (y' := b) (by grind), sumK_none_right]
        have hv : l * l - x - a ≠ a := by
          intro h
          have h3 : a * a * 3 = 0 := by
            apply F.cancel hu
            grind
          exact F.three (F.zero ha (F.zero ha (by grind)))
        have hv' : a - (l * l - x - a) ≠ 0 := fun h => hv (by grind)
        rw [sumK_gen F (l := -l) hv (by grind)]
        simp only [Option.some.injEq, Prod.mk.injEq]
        constructor <;> grind
      · obtain ⟨m, hm⟩ := slope_dbl F (x := a) hb
        rw [sumK_dbl F hb hm]
        have hrel : 2 * b * (m - l) = (x - a) * (l * l - x - a - a) := by
          apply F.cancel hu
          grind
        have h2b : 2 * b ≠ 0 := F.mul_ne F.two hb
        by_cases hv : l * l - x - a = a
        · have hml : m = l := by
            have : 2 * b * (m - l) = 0 := hrel.trans (al1 hv)
            have := F.zero h2b this
            clear hrel hm hQ hP hv hl
            grind
          subst hml
          have e1 : m * m - a - a = x := by grind
          have e2 : m * (x - (m * m - x - a)) - y = - b := by grind
          rw [hv, e1]
          rw [sumK_opp (by grind)]
          rw [sumK_opp (by grind)]
        · have hv0 : l * l - x - a - a ≠ 0 := fun h => hv (by clear hrel hm hQ hP hl; grind)
          have hw : m - l ≠ 0 := by
            intro h
            have : (x - a) * (l * l - x - a - a) = 0 := by rw [← hrel, h]; exact Semiring.mul_zero _
            exact hv0 (F.zero (fun h => hx (by clear hrel hm hQ hP hl this; grind)) this)
          -- k = u / w
          have hwi := F.inv_ok _ hw
          obtain ⟨k, hk⟩ : ∃ k : K, k * (m - l) = x - a := ⟨(x - a) * inv (m - l), al2 hwi⟩
          have h2bk : 2 * b = k * (l * l - x - a - a) := by
            exact F.cancel hw (al3 hrel hk)
          rw [sumK_gen F (l := - (l + k)) hv (al4 hl h2bk)]
          by_cases hd : x = m * m - a - a
          · -- Q is twice P
            have hy : y = m * (a - (m * m - a - a)) - b := by
              exact F.cancel hw (al5 hl hrel hd)
            have hd' := hd
            rw [← hd] at hy ⊢
            rw [← hy]
            have h2y : 2 * y = - (x - a) * (m - l) := al6 hl hy
            have hy0 : y ≠ 0 := by
              intro h
              rw [h] at h2y
              have h0 : (x - a) * (m - l) = 0 := by clear hrel hm hQ hP hl hk h2bk hy hd; grind
              exact hw (F.zero (fun h => hx (by clear hrel hm hQ hP hl hk h2bk hy hd h2y h0; grind)) h0)
            rw [sumK_dbl F (l := - (m + k)) hy0 (al7 hl hy hk h2y hm hd')]
            have e8 := al8 (a := a) hk
            rw [← hd'] at e8
            simp only [Option.some.injEq, Prod.mk.injEq]
            refine ⟨e8, ?_⟩
            rw [← e8]
            exact al9 hl hk h2bk _ al11
          · rw [sumK_gen F (l := - (m + k)) hd (F.cancel hw (al10 hl hk hrel))]
            have e8 := al8 (a := a) hk
            simp only [Option.some.injEq, Prod.mk.injEq]
            refine ⟨e8, ?_⟩
            rw [← e8]
            exact al9 hl hk h2bk _ al11

/-- the row of multiples: P added again and again -/
noncomputable def seqK (inv : K → K) (P : Option (K × K)) : Nat → Option (K × K)
  | 0 => none
  | n + 1 => sumK inv (seqK inv P n) P
theorem onK_seq (F : Fld inv) {c : K} {P : Option (K × K)} (hP : OnK c P) : ∀ n, OnK c (seqK inv P n)
  | 0 => trivial
  | n + 1 => onK_sum F (onK_seq F hP n) hP
theorem seq_double (F : Fld inv) {c : K} (hc : c ≠ 0) {P : Option (K × K)} (hP : OnK c P) : ∀ n, seqK inv (sumK inv P P) n = seqK inv P (2 * n)
  | 0 => rfl
  | n + 1 => by
    show sumK inv (seqK inv (sumK inv P P) n) (sumK inv P P) = sumK inv (sumK inv (seqK inv P (2 * n)) P) P
    rw [seq_double F hc hP n, two_step F hc (onK_seq F hP _) hP]

/-- a triple stands for a point -/
def Rep : K × K × K → Option (K × K) → Prop
  | T, none => T.2.2 = 0
  | T, some (x, y) => T.2.2 ≠ 0 ∧ T.1 = x * T.2.2 ∧ T.2.1 = y * T.2.2

def dblK (T : K × K × K) : K × K × K :=
  let W := 3 * T.1 * T.1
  let S := T.2.1 * T.2.2
  let B := T.1 * T.2.1 * S
  let H := W * W - 8 * B
  (2 * H * S, W * (4 * B - H) - 8 * T.2.1 * T.2.1 * (S * S), 8 * S * (S * S))
def addGK (P R : K × K × K) : K × K × K :=
  let U := R.2.1 * P.2.2 - P.2.1 * R.2.2
  let V2 := P.1 * R.2.2
  let V := R.1 * P.2.2 - V2
  let Vs := V * V
  let W := P.2.2 * R.2.2
  let A := U * U * W - V * Vs - 2 * (Vs * V2)
  (V * A, U * (Vs * V2 - A) - V * Vs * (P.2.1 * R.2.2), V * Vs * W)
def addK (P R : K × K × K) : K × K × K :=
  if P.2.2 = 0 ∨ R.2.2 = 0 then (if R.2.2 = 0 then P else R)
  else if R.1 * P.2.2 = P.1 * R.2.2 then (if R.2.1 * P.2.2 = P.2.1 * R.2.2 then dblK P else (1, 1, 0))
  else addGK P R
noncomputable def mulK : Nat → K × K × K → Int → K × K × K
  | 0, P, n => if n = 0 then (1, 1, 0) else P
  | k + 1, P, n => if n = 0 then (1, 1, 0) else if n = 1 then P
    else if n % 2 = 0 then mulK k (dblK P) (n / 2) else addK (mulK k (dblK P) (n / 2)) P

theorem rep_dbl (F : Fld inv) : ∀ {T : K × K × K} {P : Option (K × K)}, Rep T P → Rep (dblK T) (sumK inv P P)
  | (X, Y, Z), none, h => by
    simp only [Rep, dblK, sumK] at h ⊢
    rw [h]; grind
  | (X, Y, Z), some (x, y), h => by
    simp only [Rep] at h
    obtain ⟨hz, hX, hY⟩ := h
    by_cases hy : y = 0
    · rw [sumK_opp (by rw [hy]; grind)]
      simp only [Rep, dblK]
      rw [hY, hy]; grind
    · obtain ⟨l, hl⟩ := slope_dbl F (x := x) hy
      rw [sumK_dbl F hy hl]
      simp only [Rep, dblK]
      have h8 : (8 : K) ≠ 0 := by
        have e : (8 : K) = 2 * (2 * 2) := by grind
        rw [e]; exact F.mul_ne F.two (F.mul_ne F.two F.two)
      have hS : Y * Z ≠ 0 := by rw [hY]; exact F.mul_ne (F.mul_ne hy hz) hz
      refine ⟨F.mul_ne (F.mul_ne h8 hS) (F.mul_ne hS hS), ?_, ?_⟩
      · subst hX hY
        apply F.cancel (F.mul_ne F.two hy)
        apply F.cancel (F.mul_ne F.two hy)
        clear hz hS h8 hy
        have e : 3 * (x * Z) * (x * Z) = l * (2 * y) * Z * Z := by rw [hl]; grind
        rw [e]
        clear e
        grind
      · subst hX hY
        clear hz hS h8
        have e : 3 * (x * Z) * (x * Z) = l * (2 * y) * Z * Z := by rw [hl]; grind
        rw [e]
        clear e
        grind

theorem rep_add (F : Fld inv) {c : K} : ∀ {T S : K × K × K} {P Q : Option (K × K)}, Rep T P → Rep S Q → OnK c P → OnK c Q → Rep (addK T S) (sumK inv P Q)
  | (X1, Y1, Z1), (X2, Y2, Z2), none, none, h1, h2, _, _ => by
    simp only [Rep] at h1 h2
    simp only [addK, sumK]
    rw [if_pos (Or.inl h1), if_pos h2]
    exact h1
  | (X1, Y1, Z1), (X2, Y2, Z2), none, some (x2, y2), h1, h2, _, _ => by
    have h2' := h2
    simp only [Rep] at h1 h2
    simp only [addK, sumK]
    rw [if_pos (Or.inl h1), if_neg h2.1]
    exact h2'
  | (X1, Y1, Z1), (X2, Y2, Z2), some (x1, y1), none, h1, h2, _, _ => by
    have h1' := h1
    simp only [Rep] at h1 h2
    simp only [addK, sumK]
    rw [if_pos (Or.inr h2), if_pos h2]
    exact h1'
  | (X1, Y1, Z1), (X2, Y2, Z2), some (x1, y1), some (x2, y2), h1, h2, hP, hQ => by
    have h1' := h1
    simp only [Rep] at h1 h2
    obtain ⟨hz1, hX1, hY1⟩ := h1
    obtain ⟨hz2, hX2, hY2⟩ := h2
    have hW : Z1 * Z2 ≠ 0 := F.mul_ne hz1 hz2
    simp only [addK]
    rw [if_neg (fun h => h.elim hz1 hz2)]
    by_cases hx : x1 = x2
    · have eV : X2 * Z1 = X1 * Z2 := by rw [hX1, hX2, hx]; grind
      rw [if_pos eV]
      by_cases hy : y1 = y2
      · have eU : Y2 * Z1 = Y1 * Z2 := by rw [hY1, hY2, hy]; grind
        rw [if_pos eU, ← hx, ← hy]
        exact rep_dbl F h1'
      · have eU : ¬ (Y2 * Z1 = Y1 * Z2) := by
          intro h
          apply hy
          apply F.cancel hW
          rw [hY1, hY2] at h
          grind
        rw [if_neg eU]
        simp only [OnK] at hP hQ
        subst hx
        have : y1 + y2 = 0 := by
          by_cases h : y1 + y2 = 0
          · exact h
          · exact absurd (same_x F hP hQ h) hy
        rw [sumK_opp this]
        rfl
    · have eV : ¬ (X2 * Z1 = X1 * Z2) := by
        intro h
        apply hx
        apply F.cancel hW
        rw [hX1, hX2] at h
        grind
      rw [if_neg eV]
      obtain ⟨l, hl⟩ := slope_gen F (y1 := y1) (y2 := y2) hx
      rw [sumK_gen F hx hl]
      have hd : x2 - x1 ≠ 0 := fun h => hx (by grind)
      have e1 : X2 * Z1 - X1 * Z2 = (x2 - x1) * (Z1 * Z2) := by rw [hX1, hX2]; grind
      have e2 : Y2 * Z1 - Y1 * Z2 = l * ((x2 - x1) * (Z1 * Z2)) := by
        have : l * ((x2 - x1) * (Z1 * Z2)) = (l * (x2 - x1)) * (Z1 * Z2) := by grind
        rw [this, hl, hY1, hY2]; grind
      have e3 : X1 * Z2 = x1 * (Z1 * Z2) := by rw [hX1]; grind
      have e4 : Y1 * Z2 = y1 * (Z1 * Z2) := by rw [hY1]; grind
      simp only [Rep, addGK]
      rw [e1, e2, e3, e4]
      generalize Z1 * Z2 = W at *
      have hV := F.mul_ne hd hW
      refine ⟨F.mul_ne (F.mul_ne hV (F.mul_ne hV hV)) hW, ?_, ?_⟩
      · clear hl e1 e2 e3 e4 eV hP hQ hX1 hX2 hY1 hY2
        grind
      · clear hl e1 e2 e3 e4 eV hP hQ hX1 hX2 hY1 hY2
        grind

theorem rep_mul (F : Fld inv) {c : K} (hc : c ≠ 0) : ∀ (k : Nat) {T : K × K × K} {P : Option (K × K)} {n : Nat}, Rep T P → OnK c P → n < 2 ^ (k + 1) → Rep (mulK k T n) (seqK inv P n)
  | 0, T, P, n, hT, hP, hn => by
    have : n = 0 ∨ n = 1 := by omega
    rcases this with rfl | rfl
    · rfl
    · exact hT
  | k + 1, T, P, n, hT, hP, hn => by
    have hn' : n / 2 < 2 ^ (k + 1) := by
      rw [Nat.pow_succ] at hn
      exact Nat.div_lt_of_lt_mul (by omega)
    have IH := rep_mul F hc k (rep_dbl F hT) (onK_sum F hP hP) hn'
    rw [seq_double F hc hP] at IH
    have e : ((n / 2 : Nat) : Int) = (n : Int) / 2 := by omega
    rw [e] at IH
    simp only [mulK]
    by_cases h0 : n = 0
    · subst h0; rfl
    · rw [if_neg (show ¬ ((n : Int) = 0) by omega)]
      by_cases h1 : n = 1
      · subst h1; exact hT
      · rw [if_neg (show ¬ ((n : Int) = 1) by omega)]
        by_cases h2 : n % 2 = 0
        · rw [if_pos (show (n : Int) % 2 = 0 by omega)]
          rw [show 2 * (n / 2) = n by omega] at IH
          exact IH
        · rw [if_neg (show ¬ ((n : Int) % 2 = 0) by omega)]
          have := rep_add F IH hT (onK_seq F hP _) hP
          have e2 : seqK inv P n = sumK inv (seqK inv P (2 * (n / 2))) P := by
            conv => lhs; rw [show n = 2 * (n / 2) + 1 by omega]
            rfl
          rw [e2]
          exact this
/-- what comes back to nought goes round -/
theorem seq_round {P : Option (K × K)} {m : Nat} (h : seqK inv P m = none) : ∀ n, seqK inv P (n + m) = seqK inv P n
  | 0 => by rw [Nat.zero_add]; exact h
  | n + 1 => by
    rw [show n + 1 + m = (n + m) + 1 by omega]
    show sumK inv (seqK inv P (n + m)) P = sumK inv (seqK inv P n) P
    rw [seq_round h n]
theorem seq_mod {P : Option (K × K)} {m : Nat} (h : seqK inv P m = none) (n : Nat) : seqK inv P (n % m) = seqK inv P n := by
  have : ∀ q r, seqK inv P (r + q * m) = seqK inv P r := by
    intro q
    induction q with
    | zero => intro r; rw [Nat.zero_mul, Nat.add_zero]
    | succ q ih => intro r; rw [Nat.succ_mul, ← Nat.add_assoc, seq_round h, ih]
  conv => rhs; rw [← Nat.mod_add_div n m, Nat.mul_comm m]
  exact (this _ _).symm
end
end Mine

end
section
namespace Mine
def IsPr (n : Nat) : Prop := 2 ≤ n ∧ ∀ d, d ∣ n → d = 1 ∨ d = n

theorem mod_of_mul_mod {a b c n : Nat} (h : a % n = b % n) : a * c % n = b * c % n := by rw [Nat.mul_mod, h, ← Nat.mul_mod]

/-- an inverse by a prime -/
theorem inv_mod {p : Nat} (hp : IsPr p) : ∀ a, 0 < a → a < p → ∃ b, a * b % p = 1 := by
  intro a
  induction a using Nat.strongRecOn with
  | ind a ih =>
    intro h0 h1
    have p2 := hp.1
    by_cases ha : a = 1
    · exact ⟨1, by subst ha; exact Nat.mod_eq_of_lt (by omega)⟩
    · have hr0 : p % a ≠ 0 := fun h => by
        rcases hp.2 a (Nat.dvd_of_mod_eq_zero h) with h | h <;> omega
      have hr1 : p % a < a := Nat.mod_lt _ h0
      obtain ⟨b, hb⟩ := ih (p % a) hr1 (by omega) (by omega)
      -- p % a = p - a * (p / a)
      refine ⟨(p - 1) * (p / a * b), ?_⟩
      have e : a * ((p - 1) * (p / a * b)) + (p % a * b) * (p - 1) = p * (b * (p - 1)) := by
        have : p = a * (p / a) + p % a := (Nat.div_add_mod p a).symm
        generalize p - 1 = z
        generalize p % a = r at *
        generalize p / a = q at *
        rw [this]
        simp only [Nat.add_mul, Nat.mul_add, Nat.mul_assoc, Nat.mul_comm, Nat.mul_left_comm]
      have e2 : (a * ((p - 1) * (p / a * b)) + (p - 1)) % p = 0 := by
        have : (a * ((p - 1) * (p / a * b)) + (p - 1)) % p = (a * ((p - 1) * (p / a * b)) + (p % a * b) * (p - 1)) % p := by
          rw [Nat.add_mod, Nat.add_mod _ (p % a * b * (p - 1))]
          congr 2
          rw [Nat.mul_mod (p % a * b), hb, Nat.one_mul, Nat.mod_mod]
        rw [this, e]
        exact Nat.mul_mod_right _ _
      generalize a * ((p - 1) * (p / a * b)) = z at *
      obtain ⟨q, hq⟩ := Nat.dvd_of_mod_eq_zero e2
      have : z = p * (q - 1) + 1 := by
        have hq0 : q ≠ 0 := fun h => by rw [h] at hq; omega
        rw [Nat.mul_sub]
        have : p ≤ p * q := Nat.le_mul_of_pos_right p (by omega)
        omega
      rw [this, Nat.mul_add_mod]
      exact Nat.mod_eq_of_lt (by omega)
theorem inv_mod' {p : Nat} (hp : IsPr p) {a : Nat} (ha : a % p ≠ 0) : ∃ b, a * b % p = 1 := by
  have p2 := hp.1
  obtain ⟨b, hb⟩ := inv_mod hp (a % p) (by omega) (Nat.mod_lt _ (by omega))
  exact ⟨b, by rw [← hb, Nat.mul_mod a b, Nat.mul_mod (a % p) b, Nat.mod_mod]⟩
theorem mul_mod_ne {p : Nat} (hp : IsPr p) {a b : Nat} (ha : a % p ≠ 0) (hb : b % p ≠ 0) : a * b % p ≠ 0 := fun h => by
  obtain ⟨c, hc⟩ := inv_mod' hp ha
  apply hb
  have : a * b * c % p = 0 := by rw [Nat.mul_mod, h, Nat.zero_mul, Nat.zero_mod]
  rw [show a * b * c = a * c * b by rw [Nat.mul_assoc, Nat.mul_comm b, ← Nat.mul_assoc], Nat.mul_mod, hc, Nat.one_mul, Nat.mod_mod] at this
  exact this

theorem prod_map (a p : Nat) : ∀ l : List Nat, (l.map fun x => a * x % p).prod % p = a ^ l.length * l.prod % p
  | [] => by simp
  | x :: r => by
    rw [List.map_cons, List.prod_cons, List.prod_cons, Nat.mul_mod, prod_map a p r, Nat.mod_mod, ← Nat.mul_mod, List.length_cons, Nat.pow_succ]
    congr 1
    rw [Nat.mul_comm (a ^ r.length) a, Nat.mul_assoc, Nat.mul_assoc, Nat.mul_left_comm x]
theorem prod_ne {p : Nat} (hp : IsPr p) : ∀ l : List Nat, (∀ x ∈ l, x % p ≠ 0) → l.prod % p ≠ 0
  | [], _ => by have := hp.1; rw [List.prod_nil, Nat.mod_eq_of_lt (by omega)]; omega
  | x :: r, h => by
    rw [List.prod_cons]
    exact mul_mod_ne hp (h x (.head _)) (prod_ne hp r fun y hy => h y (.tail _ hy))

/-- Fermat -/
theorem fermat {p : Nat} (hp : IsPr p) {a : Nat} (ha : a % p ≠ 0) : a ^ (p - 1) % p = 1 := by
  have p2 := hp.1
  let L := List.range' 1 (p - 1)
  have hL : ∀ x, x ∈ L ↔ 1 ≤ x ∧ x < p := fun x => by
    rw [List.mem_range'_1]; omega
  have hperm : (L.map fun x => a * x % p).Perm L := by
    refine (List.perm_ext_iff_of_nodup ?_ (List.nodup_range' ..)).mpr fun y => ?_
    · refine List.pairwise_map.mpr ?_
      refine List.Pairwise.imp_of_mem ?_ (List.nodup_range' (s := 1) (n := p - 1))
      intro x y hx hy hne he
      have hx' := (hL x).mp hx
      have hy' := (hL y).mp hy
      apply hne
      obtain ⟨b, hb⟩ := inv_mod' hp ha
      have h1 : ∀ z, z < p → b * (a * z % p) % p = z := fun z hz => by
        rw [Nat.mul_mod, Nat.mod_mod, ← Nat.mul_mod, ← Nat.mul_assoc, Nat.mul_comm b a, Nat.mul_mod, hb, Nat.one_mul, Nat.mod_mod, Nat.mod_eq_of_lt hz]
      rw [← h1 x hx'.2, ← h1 y hy'.2, he]
    · rw [List.mem_map, hL]
      constructor
      · rintro ⟨x, hx, rfl⟩
        have hx' := (hL x).mp hx
        have := mul_mod_ne hp ha (b := x) (by rw [Nat.mod_eq_of_lt hx'.2]; omega)
        exact ⟨by omega, Nat.mod_lt _ (by omega)⟩
      · intro hy
        obtain ⟨b, hb⟩ := inv_mod' hp ha
        have hb0 : b % p ≠ 0 := fun h => by
          rw [Nat.mul_mod, h, Nat.mul_zero, Nat.zero_mod] at hb; omega
        have hz := mul_mod_ne hp hb0 (b := y) (by rw [Nat.mod_eq_of_lt hy.2]; omega)
        refine ⟨b * y % p, (hL _).mpr ⟨by omega, Nat.mod_lt _ (by omega)⟩, ?_⟩
        show a * (b * y % p) % p = y
        rw [Nat.mul_mod, Nat.mod_mod, ← Nat.mul_mod, ← Nat.mul_assoc, Nat.mul_mod, hb, Nat.one_mul, Nat.mod_mod, Nat.mod_eq_of_lt hy.2]
  have h1 := prod_map a p L
  rw [hperm.prod_nat] at h1
  have hlen : L.length = p - 1 := by simp [L]
  rw [hlen] at h1
  obtain ⟨c, hc⟩ := inv_mod' hp (prod_ne hp L fun x hx => by
    have := (hL x).mp hx
    rw [Nat.mod_eq_of_lt this.2]; omega)
  have h2 : L.prod * c % p = a ^ (p - 1) * L.prod * c % p := mod_of_mul_mod (by rw [h1])
  rw [hc, Nat.mul_assoc, Nat.mul_mod, hc, Nat.mul_one, Nat.mod_mod] at h2
  exact h2.symm

theorem pow_mod' (a n k : Nat) : a ^ k % n = (a % n) ^ k % n := Nat.pow_mod a k n

/-- the least divisor -/
theorem least_div {n : Nat} (hn : 2 ≤ n) : ∃ p, IsPr p ∧ p ∣ n ∧ ∀ d, 2 ≤ d → d ∣ n → p ≤ d := by
  have key : ∀ k, (∃ d, 2 ≤ d ∧ d ∣ n ∧ d ≤ k) → ∃ p, 2 ≤ p ∧ p ∣ n ∧ ∀ d, 2 ≤ d → d ∣ n → p ≤ d := by
    intro k
    induction k with
    | zero => rintro ⟨d, h2, _, h⟩; omega
    | succ k ih =>
      rintro ⟨d, h2, hd, hk⟩
      by_cases h : ∃ d, 2 ≤ d ∧ d ∣ n ∧ d ≤ k
      · exact ih h
      · exact ⟨d, h2, hd, fun e he hen => by
          have : ¬ e ≤ k := fun q => h ⟨e, he, hen, q⟩
          omega⟩
  obtain ⟨p, h2, hp, hl⟩ := key n ⟨n, hn, Nat.dvd_refl n, Nat.le_refl n⟩
  refine ⟨p, ⟨h2, fun d hd => ?_⟩, hp, hl⟩
  by_cases hd2 : 2 ≤ d
  · have := hl d hd2 (Nat.dvd_trans hd hp)
    have := Nat.le_of_dvd (by omega) hd
    exact .inr (by omega)
  · have : d ≠ 0 := fun h => by subst h; rw [Nat.zero_dvd] at hd; omega
    exact .inl (by omega)

/-- Pocklington: each prime divisor is 1 by F -/
def Cert (N F : Nat) : Prop := ∀ P, IsPr P → P ∣ N → F ∣ P - 1
theorem prime_of_big {N F : Nat} (hN : 2 ≤ N) (hF : N < (F + 1) * (F + 1)) (h : ∀ P, IsPr P → P ∣ N → F + 1 ≤ P) : IsPr N := by
  refine ⟨hN, fun d hd => ?_⟩
  obtain ⟨P, hP, hPN, hl⟩ := least_div hN
  have hP2 := hP.1
  have hFP : F + 1 ≤ P := h P hP hPN
  obtain ⟨q, hq⟩ := hPN
  have hq1 : ¬ 2 ≤ q := fun h2 => by
    have := hl q h2 ⟨P, by rw [hq, Nat.mul_comm]⟩
    have h3 : (F + 1) * (F + 1) ≤ P * q := Nat.mul_le_mul hFP (by omega)
    omega
  have : q ≠ 0 := fun h0 => by rw [h0] at hq; omega
  have hNP : N = P := by rw [hq, show q = 1 by omega, Nat.mul_one]
  subst hNP
  exact hP.2 d hd
theorem prime_of_cert {N F : Nat} (hN : 2 ≤ N) (hF : N < (F + 1) * (F + 1)) (h : Cert N F) : IsPr N :=
  prime_of_big hN hF fun P hP hPN => by
    have hP2 := hP.1
    have := Nat.le_of_dvd (by omega) (h P hP hPN)
    omega
theorem cert_one {N q r a b : Nat} (hq : IsPr q) (hr : q * r + 1 = N) (h1 : a ^ (q * r) % N = 1) (h2 : (a ^ r % N + (N - 1)) * b % N = 1) : Cert N q := by
  intro P hP hPN
  have hP2 := hP.1
  have hmod : ∀ x, x % N % P = x % P := fun x => Nat.mod_mod_of_dvd x hPN
  -- t = a ^ r
  have t1 : (a ^ r) ^ q % P = 1 := by
    rw [← Nat.pow_mul, Nat.mul_comm r q, ← hmod, h1]; exact Nat.mod_eq_of_lt (by omega)
  have t0 : a ^ r % P ≠ 0 := fun h => by
    rw [Nat.pow_mod, h, Nat.zero_pow (by have := hq.1; omega)] at t1
    rw [Nat.zero_mod] at t1; omega
  have t2 := fermat hP t0
  by_cases hd : (P - 1) % q = 0
  · exact Nat.dvd_of_mod_eq_zero hd
  · exfalso
    obtain ⟨v, hv⟩ := inv_mod' hq hd
    -- (P-1) v = q w + 1
    have hw : (P - 1) * v = q * ((P - 1) * v / q) + 1 := by
      have := Nat.div_add_mod ((P - 1) * v) q
      omega
    have e1 : (a ^ r) ^ ((P - 1) * v) % P = 1 := by
      rw [Nat.pow_mul, Nat.pow_mod, t2, Nat.one_pow]; exact Nat.mod_eq_of_lt (by omega)
    have e2 : (a ^ r) ^ ((P - 1) * v) % P = a ^ r % P := by
      rw [hw, Nat.pow_succ, Nat.pow_mul, Nat.mul_mod, Nat.pow_mod ((a ^ r) ^ q), t1, Nat.one_pow, Nat.mod_eq_of_lt (show 1 < P by omega), Nat.one_mul, Nat.mod_mod]
    have e3 : a ^ r % P = 1 := e2 ▸ e1
    have e4 : (a ^ r % N + (N - 1)) * b % P = 1 := by rw [← hmod, h2]; exact Nat.mod_eq_of_lt (by omega)
    have e5 : (a ^ r % N + (N - 1)) % P = 0 := by
      have e6 : a ^ r % N % P = 1 := by rw [hmod, e3]
      generalize a ^ r % N = x at *
      have e7 := Nat.div_add_mod x P
      rw [e6] at e7
      have hN1 : 1 ≤ N := by omega
      have e8 : x + (N - 1) = P * (x / P) + N := by omega
      rw [e8, Nat.mul_add_mod]
      exact Nat.mod_eq_zero_of_dvd hPN
    rw [Nat.mul_mod, e5, Nat.zero_mul, Nat.zero_mod] at e4
    omega

/-- powers by squares, for the kernel -/
noncomputable def pm (m f : Nat) : Nat → Nat → Nat :=
  Nat.rec (motive := fun _ => Nat → Nat → Nat) (fun _ _ => 1 % m) (fun _ ih b e => cond (Nat.beq (e % 2) 1) (ih (b * b % m) (e / 2) * b % m) (ih (b * b % m) (e / 2))) f
theorem pm_eq (m : Nat) : ∀ f b e, e < 2 ^ f → pm m f b e = b ^ e % m
  | 0, b, e, h => by
    have : e = 0 := by simpa using h
    subst this; rfl
  | f + 1, b, e, h => by
    have h2 : e / 2 < 2 ^ f := by rw [Nat.pow_succ] at h; omega
    have ih := pm_eq m f (b * b % m) (e / 2) h2
    have e1 : (b * b % m) ^ (e / 2) % m = b ^ (2 * (e / 2)) % m := by rw [← Nat.pow_mod, Nat.pow_mul, Nat.pow_two]
    show cond (Nat.beq (e % 2) 1) (pm m f (b * b % m) (e / 2) * b % m) (pm m f (b * b % m) (e / 2)) = _
    rw [ih, e1]
    by_cases h1 : e % 2 = 1
    · rw [h1]
      show b ^ (2 * (e / 2)) % m * b % m = _
      rw [Nat.mod_mul_mod, ← Nat.pow_succ, show (2 * (e / 2)).succ = e by omega]
    · have h0 : e % 2 = 0 := by omega
      rw [h0]
      show b ^ (2 * (e / 2)) % m = _
      rw [show 2 * (e / 2) = e by omega]
noncomputable def certOk (N q r b : Nat) : Bool := Nat.beq (q * r + 1) N && (Nat.ble (2 ^ 400) N).not && Nat.beq (pm N 400 2 (q * r)) 1 && Nat.beq ((pm N 400 2 r + (N - 1)) * b % N) 1
theorem cert_ok {N q r b : Nat} (hq : IsPr q) (h : certOk N q r b = true) : Cert N q := by
  simp only [certOk, Bool.and_eq_true, Nat.beq_eq_true_eq, Bool.not_eq_true'] at h
  obtain ⟨⟨⟨h1, h2⟩, h3⟩, h4⟩ := h
  have h1' : q * r + 1 = N := Nat.eq_of_beq_eq_true (by simpa using h1)
  have hN : N < 2 ^ 400 := by
    have : ¬ (2 ^ 400 ≤ N) := fun hle => by
      rw [Nat.ble_eq_true_of_le hle] at h2; cases h2
    omega
  have hqr : q * r < 2 ^ 400 := by omega
  have hr : r < 2 ^ 400 := Nat.lt_of_le_of_lt (Nat.le_mul_of_pos_left r (by have := hq.1; omega)) hqr
  have h3' : pm N 400 2 (q * r) = 1 := Nat.eq_of_beq_eq_true (by simpa using h3)
  have h4' : (pm N 400 2 r + (N - 1)) * b % N = 1 := Nat.eq_of_beq_eq_true (by simpa using h4)
  rw [pm_eq N 400 2 _ hqr] at h3'
  rw [pm_eq N 400 2 _ hr] at h4'
  exact cert_one hq h1' h3' h4'
theorem cert_two {N q q' : Nat} (hq : IsPr q) (hq' : IsPr q') (hne : q ≠ q') (h : Cert N q) (h' : Cert N q') : Cert N (q * q') := fun P hP hPN => by
  obtain ⟨k, hk⟩ := h P hP hPN
  have h2 := h' P hP hPN
  rw [hk] at h2 ⊢
  have : ¬ q % q' = 0 := fun e => by
    rcases hq.2 q' (Nat.dvd_of_mod_eq_zero e) with h | h
    · have := hq'.1; omega
    · exact hne h.symm
  obtain ⟨b, hb⟩ := inv_mod' hq' this
  have hk' : k % q' = 0 := by
    have h3 : q * k * b % q' = 0 := by rw [Nat.mul_mod, Nat.mod_eq_zero_of_dvd h2, Nat.zero_mul, Nat.zero_mod]
    rw [show q * k * b = q * b * k by rw [Nat.mul_assoc, Nat.mul_comm k, ← Nat.mul_assoc], Nat.mul_mod, hb, Nat.one_mul, Nat.mod_mod] at h3
    exact h3
  exact Nat.mul_dvd_mul_left q (Nat.dvd_of_mod_eq_zero hk')
/-- by trial -/
noncomputable def trial (n k : Nat) : Bool := Nat.rec (motive := fun _ => Bool) true (fun d ih => cond (Nat.beq (n % (d + 2)) 0) false ih) k
theorem trial_ok {n : Nat} : ∀ k, trial n k = true → ∀ d, 2 ≤ d → d < k + 2 → n % d ≠ 0
  | 0, _, d, h1, h2 => by omega
  | k + 1, h, d, h1, h2 => by
    have h' : cond (Nat.beq (n % (k + 2)) 0) false (trial n k) = true := h
    cases hb : Nat.beq (n % (k + 2)) 0 with
    | true => rw [hb] at h'; cases h'
    | false =>
      rw [hb] at h'
      by_cases hd : d = k + 2
      · subst hd
        intro e
        rw [e] at hb; cases hb
      · exact trial_ok k h' d h1 (by omega)
theorem prime_trial {n k : Nat} (h2 : 2 ≤ n) (hk : n < (k + 2) * (k + 2)) (h : trial n k = true) : IsPr n :=
  prime_of_big (F := k + 1) h2 hk fun P hP hPn => by
    by_cases hle : k + 1 + 1 ≤ P
    · exact hle
    · exact absurd (Nat.mod_eq_zero_of_dvd hPn) (trial_ok k h P hP.1 (by omega))
theorem pr0 : IsPr 1327 := prime_trial (k := 35) (by decide) (by decide) (by decide +kernel)
theorem pr1 : IsPr 421987 := prime_of_cert (by decide +kernel) (by decide +kernel) (cert_ok (r := 318) (b := 97231) pr0 (by decide +kernel))
theorem pr2 : IsPr 13090036741 := prime_of_cert (by decide +kernel) (by decide +kernel) (cert_ok (r := 31020) (b := 9508339913) pr1 (by decide +kernel))
theorem pr3 : IsPr 1151 := prime_trial (k := 32) (by decide) (by decide) (by decide +kernel)
theorem pr4 : IsPr 755057 := prime_of_cert (by decide +kernel) (by decide +kernel) (cert_ok (r := 656) (b := 133209) pr3 (by decide +kernel))
theorem pr5 : IsPr 3819663927398918131021 := prime_of_cert (by decide +kernel) (by decide +kernel) (cert_two pr2 pr4 (by decide) (cert_ok (r := 291799328220) (b := 493108134941997590084) pr2 (by decide +kernel)) (cert_ok (r := 5058775598926860) (b := 1757223884106591266314) pr4 (by decide +kernel)))
theorem pr6 : IsPr 1125266252156850182658904441386709967 := prime_of_cert (by decide +kernel) (by decide +kernel) (cert_ok (r := 294598235223046) (b := 363966040104148855705611644974454555) pr5 (by decide +kernel))
theorem pr7 : IsPr 15778400344354997994418419698270088123916926905054652752758194827714659 := prime_of_cert (by decide +kernel) (by decide +kernel) (cert_ok (r := 14021926201120671579994175730661374) (b := 8254959361366692087094521958599552736149856986728481575631050697403242) pr6 (by decide +kernel))
theorem pr8 : IsPr 4002409555221667393417789825735904156556882819939007885332058136124031650490837864442687629129015664037894272559787 := prime_of_cert (by decide +kernel) (by decide +kernel) (cert_ok (r := 253663835868735594330404923636534084567099854) (b := 2187498333999863193215640476378758310847690922566267545269384146546613166935166697200060931464500123887301765890575) pr7 (by decide +kernel))
theorem pr9 : IsPr 3557 := prime_trial (k := 58) (by decide) (by decide) (by decide +kernel)
theorem pr10 : IsPr 911 := prime_trial (k := 29) (by decide) (by decide) (by decide +kernel)
theorem pr11 : IsPr 1263766531 := prime_of_cert (by decide +kernel) (by decide +kernel) (cert_two pr9 pr10 (by decide) (cert_ok (r := 355290) (b := 1084735757) pr9 (by decide +kernel)) (cert_ok (r := 1387230) (b := 979652892) pr10 (by decide +kernel)))
theorem pr12 : IsPr 35385462869 := prime_of_cert (by decide +kernel) (by decide +kernel) (cert_ok (r := 28) (b := 30792025501) pr11 (by decide +kernel))
theorem pr13 : IsPr 2480874801745591 := prime_of_cert (by decide +kernel) (by decide +kernel) (cert_ok (r := 70110) (b := 60395260069513) pr12 (by decide +kernel))
theorem pr14 : IsPr 13327 := prime_trial (k := 114) (by decide) (by decide) (by decide +kernel)
theorem pr15 : IsPr 173171039 := prime_of_cert (by decide +kernel) (by decide +kernel) (cert_ok (r := 12994) (b := 35859620) pr14 (by decide +kernel))
theorem pr16 : IsPr 13427688667394608761327070753331941386769 := prime_of_cert (by decide +kernel) (by decide +kernel) (cert_two pr13 pr15 (by decide) (cert_ok (r := 5412481378724403979982448) (b := 6785926852418085198570490017495330175623) pr13 (by decide +kernel)) (cert_ok (r := 77540036399473290457806115913712) (b := 8400704698881656509131354358865537047819) pr15 (by decide +kernel)))
theorem pr17 : IsPr 21888242871839275222246405745257275088696311157297823662689037894645226208583 := prime_of_cert (by decide +kernel) (by decide +kernel) (cert_ok (r := 1630082690626329392154177744477557478) (b := 7760040696430108728351579495285625070970037227808537281002514205477518194167) pr16 (by decide +kernel))
end Mine

end
section
open Lean.Grind
set_option linter.unusedSectionVars false
namespace Mine
section
variable {K : Type} [CommRing K] [DecidableEq K] {p : Nat} [IsCharP K p]

def cK (x : Int) : K := (Ring.intCast (α := K)).intCast x
theorem cK_mul (x y : Int) : cK (x * y) = (cK x * cK y : K) := Ring.intCast_mul x y
theorem cK_add (x y : Int) : cK (x + y) = (cK x + cK y : K) := Ring.intCast_add x y
theorem cK_sub (x y : Int) : cK (x - y) = (cK x - cK y : K) := Ring.intCast_sub x y
theorem cK_pow (x : Int) (k : Nat) : cK (x ^ k) = (cK x ^ k : K) := Ring.intCast_pow x k
theorem cK_one : cK 1 = (1 : K) := Ring.intCast_one
theorem cK_zero : cK 0 = (0 : K) := Ring.intCast_zero
theorem cK_2 : cK 2 = (2 : K) := Ring.intCast_ofNat 2
theorem cK_3 : cK 3 = (3 : K) := Ring.intCast_ofNat 3
theorem cK_4 : cK 4 = (4 : K) := Ring.intCast_ofNat 4
theorem cK_8 : cK 8 = (8 : K) := Ring.intCast_ofNat 8
section
variable (p)
theorem cK_ext {x y : Int} : (cK x : K) = cK y ↔ x % (p : Int) = y % (p : Int) := IsCharP.intCast_ext_iff p
theorem cK_eq0 {x : Int} : (cK x : K) = 0 ↔ x % (p : Int) = 0 := IsCharP.intCast_eq_zero_iff p x
theorem cK_mod (x : Int) : (cK (x % (p : Int)) : K) = cK x := (cK_ext p).mpr (Int.emod_emod_of_dvd x (Int.dvd_refl _))
theorem cK_zero_iff {x : Int} (h : In0 (p : Int) x) : (cK x : K) = 0 ↔ x = 0 := by
  rw [cK_eq0 p, Int.emod_eq_of_lt h.1 h.2]
theorem cK_eq_iff {x y : Int} (h : In0 (p : Int) x) (h' : In0 (p : Int) y) : (cK x : K) = cK y ↔ x = y := by
  rw [cK_ext p, Int.emod_eq_of_lt h.1 h.2, Int.emod_eq_of_lt h'.1 h'.2]
end

theorem fld_of (surj : ∀ a : K, ∃ n : Int, a = cK n) (hp : IsPr p) (h4 : 4 < p) : Fld (fun a : K => a ^ (p - 2)) where
  inv_ok a ha := by
    obtain ⟨n, rfl⟩ := surj a
    have hn : n % (p : Int) ≠ 0 := fun h => ha ((cK_eq0 p).mpr h)
    obtain ⟨m, hm⟩ := Int.eq_ofNat_of_zero_le (Int.emod_nonneg n (show (p : Int) ≠ 0 by omega))
    have e : (cK n : K) = cK (m : Int) := by rw [← cK_mod p n, hm]
    have hmp : m % p ≠ 0 := by
      have h1 : m < p := by
        have := Int.emod_lt_of_pos n (show (0 : Int) < p by omega)
        omega
      rw [Nat.mod_eq_of_lt h1]
      omega
    have f := fermat hp hmp
    rw [e, ← cK_pow, ← cK_mul, ← cK_one, cK_ext p]
    have : ((m : Int) * (m : Int) ^ (p - 2)) = ((m ^ (p - 1) : Nat) : Int) := by
      rw [show p - 1 = (p - 2) + 1 by omega, Nat.pow_succ]
      simp [Int.mul_comm]
    rw [this, Int.emod_eq_of_lt (a := 1) (by omega) (by omega)]
    have f' : ((m ^ (p - 1) % p : Nat) : Int) = 1 := by rw [f]; rfl
    rw [← f']
    simp
  two := by
    rw [← cK_2]
    intro h
    rw [cK_eq0 p, Int.emod_eq_of_lt (by omega) (by omega)] at h
    omega
  three := by
    rw [← cK_3]
    intro h
    rw [cK_eq0 p, Int.emod_eq_of_lt (by omega) (by omega)] at h
    omega

def c3 (T : Int × Int × Int) : K × K × K := (cK T.1, cK T.2.1, cK T.2.2)
def c2 : Option (Int × Int) → Option (K × K)
  | none => none
  | some (x, y) => some (cK x, cK y)
section
variable (p)
theorem c3_dbl (T : Int × Int × Int) : (c3 (dblT (p : Int) T) : K × K × K) = dblK (c3 T) := by
  obtain ⟨x, y, z⟩ := T
  simp only [c3, dblT, dblK, dX, dY, dZ, dH, dS2, dS, dB, dW, cK_mod p, cK_mul, cK_sub, cK_2, cK_3, cK_4, cK_8, Prod.mk.injEq]
  refine ⟨?_, ?_, ?_⟩ <;> grind
theorem c3_addG (T R : Int × Int × Int) : (c3 (addG (p : Int) T R) : K × K × K) = addGK (c3 T) (c3 R) := by
  obtain ⟨x, y, z⟩ := T
  obtain ⟨x', y', z'⟩ := R
  simp only [c3, addG, addGK, aU, aV2, aV, aVs, aVs2, aVc, aW, aA, cK_mod p, cK_mul, cK_sub, cK_2, Prod.mk.injEq]
  refine ⟨?_, ?_, ?_⟩ <;> grind
def In3 (p : Int) (T : Int × Int × Int) : Prop := In0 p T.1 ∧ In0 p T.2.1 ∧ In0 p T.2.2
theorem in3_dbl {T : Int × Int × Int} (h : Pok p) : In3 p (dblT (p : Int) T) := ⟨in0_emod _ h, in0_emod _ h, in0_emod _ h⟩
theorem in3_add {T R : Int × Int × Int} (h : Pok p) (hT : In3 p T) (hR : In3 p R) : In3 p (addT (p : Int) T R) := by
  unfold addT
  split
  · split
    · exact hT
    · exact hR
  · split
    · split
      · exact in3_dbl p h
      · exact ⟨in0_one h, in0_one h, in0_zero h⟩
    · exact ⟨in0_emod _ h, in0_emod _ h, in0_emod _ h⟩
theorem c3_add {T R : Int × Int × Int} (hT : In3 p T) (hR : In3 p R) : (c3 (addT (p : Int) T R) : K × K × K) = addK (c3 T) (c3 R) := by
  unfold addT addK
  have e1 : (c3 T : K × K × K).2.2 = 0 ↔ T.2.2 = 0 := cK_zero_iff p hT.2.2
  have e2 : (c3 R : K × K × K).2.2 = 0 ↔ R.2.2 = 0 := cK_zero_iff p hR.2.2
  have e3 : (c3 R : K × K × K).1 * (c3 T : K × K × K).2.2 = (c3 T : K × K × K).1 * (c3 R : K × K × K).2.2 ↔ R.1 * T.2.2 % p = T.1 * R.2.2 % p := by
    simp only [c3]; rw [← cK_mul, ← cK_mul, cK_ext p]
  have e4 : (c3 R : K × K × K).2.1 * (c3 T : K × K × K).2.2 = (c3 T : K × K × K).2.1 * (c3 R : K × K × K).2.2 ↔ R.2.1 * T.2.2 % p = T.2.1 * R.2.2 % p := by
    simp only [c3]; rw [← cK_mul, ← cK_mul, cK_ext p]
  simp only [e1, e2, e3, e4]
  repeat' split
  · rfl
  · rfl
  · exact c3_dbl p T
  · simp only [c3, cK_one, cK_zero]
  · exact c3_addG p T R
theorem c3_mul (h : Pok p) : ∀ (k : Nat) {T : Int × Int × Int} (n : Int), In3 p T → In3 p (mulF p k T n) ∧ (c3 (mulF (p : Int) k T n) : K × K × K) = mulK k (c3 T) n
  | 0, T, n, hT => by
    simp only [mulF, mulK]
    split
    · exact ⟨⟨in0_one h, in0_one h, in0_zero h⟩, by simp only [c3, cK_one, cK_zero]⟩
    · exact ⟨hT, rfl⟩
  | k + 1, T, n, hT => by
    have IH := c3_mul h k (n / 2) (in3_dbl p h (T := T))
    rw [c3_dbl p T] at IH
    simp only [mulF, mulK]
    split
    · exact ⟨⟨in0_one h, in0_one h, in0_zero h⟩, by simp only [c3, cK_one, cK_zero]⟩
    · split
      · exact ⟨hT, rfl⟩
      · split
        · exact IH
        · exact ⟨in3_add p h IH.1 hT, by rw [c3_add p IH.1 hT, IH.2]⟩

theorem c2_sum (h : Pok p) {x1 y1 x2 y2 : Int} (h1 : In0 p x1) (h2 : In0 p x2) :
    (c2 (sumL p x1 y1 x2 y2) : Option (K × K)) = sumK (fun a : K => a ^ (p - 2)) (some (cK x1, cK y1)) (some (cK x2, cK y2)) := by
  have e1 : (cK x1 : K) = cK x2 ↔ x1 = x2 := cK_eq_iff p h1 h2
  have e2 : (cK y1 : K) + cK y2 = 0 ↔ (y1 + y2) % p = 0 := by rw [← cK_add, cK_eq0 p]
  have e3 : ((p : Int) - 2).toNat = p - 2 := by omega
  simp only [sumL, sumK, e1, e2]
  split
  · rfl
  · simp only [c2, thirdX, thirdY, slopeL, slopeC, cK_mod p, cK_sub, cK_mul]
    by_cases hx : x1 = x2
    · simp only [hx, if_true, cK_mod p, cK_mul, cK_pow, cK_3, cK_2, e3]
    · simp only [hx, if_false, cK_mod p, cK_mul, cK_pow, cK_sub, e3]
/-- the row, as the law makes it -/
noncomputable def seqL (p x y : Int) : Nat → Option (Int × Int)
  | 0 => none
  | n + 1 => match seqL p x y n with
    | none => some (x, y)
    | some (a, b) => sumL p a b x y
theorem in_sumL (h : Pok p) {x1 y1 x2 y2 X Y : Int} (e : sumL p x1 y1 x2 y2 = some (X, Y)) : In0 p X ∧ In0 p Y := by
  unfold sumL at e
  split at e
  · cases e
  · cases e
    exact ⟨in0_emod _ h, in0_emod _ h⟩
theorem in_seqL (h : Pok p) {x y : Int} (hx : In0 p x) (hy : In0 p y) : ∀ n X Y, seqL p x y n = some (X, Y) → In0 p X ∧ In0 p Y
  | n + 1, X, Y, e => by
    simp only [seqL] at e
    split at e
    · cases e; exact ⟨hx, hy⟩
    · exact in_sumL p h e
theorem c2_seq (h : Pok p) {x y : Int} (hx : In0 p x) (hy : In0 p y) : ∀ n, (c2 (seqL p x y n) : Option (K × K)) = seqK (fun a : K => a ^ (p - 2)) (some (cK x, cK y)) n
  | 0 => rfl
  | n + 1 => by
    show _ = sumK _ (seqK _ _ n) _
    rw [← c2_seq h hx hy n]
    simp only [seqL]
    cases e : seqL p x y n with
    | none => rfl
    | some P =>
      obtain ⟨a, b⟩ := P
      exact c2_sum p h (in_seqL p h hx hy n a b e).1 hx
end
end
end Mine

end
section
open Lean.Grind
set_option linter.unusedSectionVars false
namespace Mine
theorem fin_surj {p : Nat} [NeZero p] : ∀ a : Fin p, ∃ n : Int, a = cK n := fun a => ⟨(a.val : Int), by
  unfold cK
  have h := Ring.intCast_natCast (α := Fin p) a.val
  refine Eq.trans ?_ h.symm
  exact (Fin.ofNat_val_eq_self a).symm⟩

theorem found_all {p : Nat} (hp : IsPr p) (h : Pok p) {c sc : Int} (hc : 1 ≤ c ∧ c < p) (hsc : 1 ≤ sc ∧ sc < p) {n : Nat} (hn : n < 2 ^ 14) {X Y : Int} (hon : OnC p c X Y) :
    match seqL p X Y n with
    | none => (mulF p 13 (X * sc % p, Y * sc % p, sc % p) n).2.2 = 0
    | some (a, b) => (mulF p 13 (X * sc % p, Y * sc % p, sc % p) n).2.2 ≠ 0 ∧ (a * (mulF p 13 (X * sc % p, Y * sc % p, sc % p) n).2.2 - (mulF p 13 (X * sc % p, Y * sc % p, sc % p) n).1) % p = 0 ∧
        (b * (mulF p 13 (X * sc % p, Y * sc % p, sc % p) n).2.2 - (mulF p 13 (X * sc % p, Y * sc % p, sc % p) n).2.1) % p = 0 := by
  have h4 : 4 < p := by have := h.1; omega
  haveI : NeZero p := ⟨by omega⟩
  have F := fld_of (K := Fin p) fin_surj hp h4
  obtain ⟨hX, hY, hXY⟩ := hon
  have hin : In3 p (X * sc % p, Y * sc % p, sc % p) := ⟨in0_emod _ h, in0_emod _ h, in0_emod _ h⟩
  have hcK : (cK c : Fin p) ≠ 0 := fun e => by
    rw [cK_zero_iff p ⟨by omega, hc.2⟩] at e; omega
  have hon' : OnK (cK c : Fin p) (some (cK X, cK Y)) := by
    show (cK Y : Fin p) * cK Y = cK X * cK X * cK X + cK c
    rw [← cK_mul, ← cK_mul, ← cK_mul, ← cK_add, cK_ext p, hXY]
    congr 2
    rw [Int.pow_succ, Int.pow_succ, Int.pow_succ, Int.pow_zero, Int.one_mul]
  have hrep : Rep (c3 (X * sc % p, Y * sc % p, sc % p) : Fin p × Fin p × Fin p) (some (cK X, cK Y)) := by
    simp only [Rep, c3, cK_mod p, cK_mul]
    refine ⟨fun e => ?_, trivial, trivial⟩
    rw [cK_zero_iff p ⟨by omega, hsc.2⟩] at e; omega
  have key := rep_mul F hcK 13 hrep hon' (n := n) hn
  have hm := c3_mul (K := Fin p) p h 13 (n : Int) hin
  rw [← hm.2, ← c2_seq p h hX hY n] at key
  have hz := hm.1.2.2
  generalize mulF p 13 (X * sc % p, Y * sc % p, sc % p) n = T at *
  cases e : seqL p X Y n with
  | none =>
    rw [e] at key
    exact (cK_zero_iff p hz).mp key
  | some P =>
    obtain ⟨a, b⟩ := P
    rw [e] at key
    simp only [c2, Rep, c3] at key
    obtain ⟨k1, k2, k3⟩ := key
    refine ⟨fun e => k1 ((cK_zero_iff p hz).mpr e), ?_, ?_⟩
    · rw [← cK_eq0 (K := Fin p) p, cK_sub, cK_mul, k2]; grind
    · rw [← cK_eq0 (K := Fin p) p, cK_sub, cK_mul, k3]; grind

theorem seqK_none {K : Type} [CommRing K] [DecidableEq K] {inv : K → K} : ∀ n, seqK inv none n = none
  | 0 => rfl
  | n + 1 => by show sumK inv (seqK inv none n) none = none; rw [seqK_none n]; rfl
theorem found_inf {p : Nat} (hp : IsPr p) (h : Pok p) {sc : Int} {n : Nat} (hn : n < 2 ^ 14) : (mulF p 13 (sc % p, sc % p, 0) n).2.2 = 0 := by
  have h4 : 4 < p := by have := h.1; omega
  haveI : NeZero p := ⟨by omega⟩
  have F := fld_of (K := Fin p) fin_surj hp h4
  have hin : In3 p (sc % p, sc % p, 0) := ⟨in0_emod _ h, in0_emod _ h, in0_zero h⟩
  have h1 : (1 : Fin p) ≠ 0 := fun e => by
    rw [← cK_one, cK_zero_iff p (in0_one h)] at e; cases e
  have hrep : Rep (c3 (sc % p, sc % p, 0) : Fin p × Fin p × Fin p) none := by
    simp only [Rep, c3, cK_zero]
  have key := rep_mul F h1 13 hrep trivial (n := n) hn
  have hm := c3_mul (K := Fin p) p h 13 (n : Int) hin
  rw [← hm.2, seqK_none] at key
  exact (cK_zero_iff p hm.1.2.2).mp key
/-- the row goes round -/
theorem seqL_mod {p : Nat} (h : Pok p) {x y : Int} (hx : In0 p x) (hy : In0 p y) {m : Nat} (e : seqL p x y m = none) (n : Nat) : seqL p x y (n % m) = seqL p x y n := by
  have : ∀ q r, seqL p x y (r + q * m) = seqL p x y r := by
    have one : ∀ r, seqL p x y (r + m) = seqL p x y r := by
      intro r
      induction r with
      | zero => rw [Nat.zero_add, e]; rfl
      | succ r ih => rw [show r + 1 + m = (r + m) + 1 by omega]; simp only [seqL]; rw [ih]
    intro q
    induction q with
    | zero => intro r; rw [Nat.zero_mul, Nat.add_zero]
    | succ q ih => intro r; rw [Nat.succ_mul, ← Nat.add_assoc, one, ih]
  conv => rhs; rw [← Nat.mod_add_div n m, Nat.mul_comm m]
  exact (this _ _).symm
end Mine

end
section
open Lean.Grind
set_option linter.unusedSectionVars false
set_option linter.unusedVariables false
set_option maxRecDepth 100000
namespace Mine
section
variable {K : Type} [CommRing K] [DecidableEq K] {inv : K → K}
/-- a curve's point on a curve that is the same but for a scale -/
def scl (u : K) : Option (K × K) → Option (K × K)
  | none => none
  | some (x, y) => some (u * u * x, u * u * u * y)
theorem pow6 (u : K) : ∀ e : Nat, (u ^ 6) ^ e = u ^ (6 * e)
  | 0 => by rw [Nat.mul_zero, Semiring.pow_zero, Semiring.pow_zero]
  | e + 1 => by rw [Semiring.pow_succ, pow6 u e, Nat.mul_succ, Semiring.pow_add]
theorem mul_powK (a b : K) : ∀ e : Nat, (a * b) ^ e = a ^ e * b ^ e
  | 0 => by rw [Semiring.pow_zero, Semiring.pow_zero, Semiring.pow_zero]; grind
  | e + 1 => by rw [Semiring.pow_succ, Semiring.pow_succ, Semiring.pow_succ, mul_powK a b e]; grind
theorem sumK_scl (F : Fld inv) {c u : K} (hu : u ≠ 0) : ∀ {P Q : Option (K × K)}, OnK c P → OnK c Q → sumK inv (scl u P) (scl u Q) = scl u (sumK inv P Q)
  | none, none, _, _ => rfl
  | none, some _, _, _ => rfl
  | some _, none, _, _ => rfl
  | some (x1, y1), some (x2, y2), hP, hQ => by
    have h2 := F.mul_ne hu hu
    have h3 := F.mul_ne h2 hu
    simp only [OnK] at hP hQ
    by_cases hx : x1 = x2
    · subst hx
      by_cases hy : y1 + y2 = 0
      · rw [sumK_opp hy]
        simp only [scl]
        rw [sumK_opp (by
          have : u * u * u * y1 + u * u * u * y2 = u * u * u * (y1 + y2) := by grind
          rw [this, hy]; grind)]
      · have e := same_x F hP hQ hy
        subst e
        have hy1 : y1 ≠ 0 := fun h => hy (by rw [h]; grind)
        obtain ⟨l, hl⟩ := slope_dbl F (x := x1) hy1
        rw [sumK_dbl F hy1 hl]
        simp only [scl]
        rw [sumK_dbl F (l := u * l) (F.mul_ne h3 hy1) (by
          have : u * l * (2 * (u * u * u * y1)) = u * u * (u * u) * (l * (2 * y1)) := by grind
          rw [this, hl]; grind)]
        clear hl hP hQ
        simp only [Option.some.injEq, Prod.mk.injEq]
        constructor <;> grind
    · obtain ⟨l, hl⟩ := slope_gen F (y1 := y1) (y2 := y2) hx
      rw [sumK_gen F hx hl]
      simp only [scl]
      have hx' : u * u * x1 ≠ u * u * x2 := fun h => hx (F.cancel h2 h)
      rw [sumK_gen F (l := u * l) hx' (by
        have : u * l * (u * u * x2 - u * u * x1) = u * u * u * (l * (x2 - x1)) := by grind
        rw [this, hl]; grind)]
      clear hl hP hQ
      simp only [Option.some.injEq, Prod.mk.injEq]
      constructor <;> grind
theorem seqK_scl (F : Fld inv) {c u : K} (hu : u ≠ 0) {P : Option (K × K)} (hP : OnK c P) : ∀ n, seqK inv (scl u P) n = scl u (seqK inv P n)
  | 0 => rfl
  | n + 1 => by
    show sumK inv (seqK inv (scl u P) n) (scl u P) = scl u (sumK inv (seqK inv P n) P)
    rw [seqK_scl F hu hP n, sumK_scl F hu (onK_seq F hP n) hP]
theorem scl_none {u : K} : ∀ {P : Option (K × K)}, scl u P = none → P = none
  | none, _ => rfl
end

def grp (tbl : List (Int × Int)) (r : Int) : Int := (tbl.lookup r).getD 0
/-- the point x, y, of whatever curve, times the number that the table has for the curve -/
noncomputable def chkPt (p : Int) (tbl : List (Int × Int)) (e : Nat) (x y : Int) : Bool :=
  decide ((y * y - x * x * x) % p = 0) || decide ((mulF p 13 (x, y, 1) (grp tbl (((y * y - x * x * x) % p) ^ e % p))).2.2 = 0)
noncomputable def chkAll (p : Nat) (tbl : List (Int × Int)) (e : Nat) : Bool :=
  (List.range p).all fun t => chkPt p tbl e t t && chkPt p tbl e 0 t && chkPt p tbl e t 0
def chkCnt (p : Nat) (tbl : List (Int × Int)) (e : Nat) : Bool :=
  (List.range p).all fun c => Nat.beq c 0 || (decide (cntF p c = grp tbl ((c : Int) ^ e % p)) && decide (0 ≤ grp tbl ((c : Int) ^ e % p)) && decide (grp tbl ((c : Int) ^ e % p) < 16384))

theorem small_ok {p : Nat} (hp : IsPr p) (h : Pok p) {tbl : List (Int × Int)} {e : Nat} (he : e = 0 ∨ 6 * e = p - 1) (h1 : chkAll p tbl e = true) (h2 : chkCnt p tbl e = true)
    {c X Y : Int} (hc : 1 ≤ c ∧ c < p) (hon : OnC p c X Y) : 0 ≤ cntF p c ∧ cntF p c < 16384 ∧ seqL p X Y (cntF p c).toNat = none := by
  have h4 : 4 < p := by have := h.1; omega
  haveI : NeZero p := ⟨by omega⟩
  have F := fld_of (K := Fin p) fin_surj hp h4
  obtain ⟨hX, hY, hXY⟩ := hon
  have hcK : (cK c : Fin p) ≠ 0 := fun e => by
    rw [cK_zero_iff p ⟨by omega, hc.2⟩] at e; omega
  have hon' : OnK (cK c : Fin p) (some (cK X, cK Y)) := by
    show (cK Y : Fin p) * cK Y = cK X * cK X * cK X + cK c
    rw [← cK_mul, ← cK_mul, ← cK_mul, ← cK_add, cK_ext p, hXY]
    congr 2
    rw [Int.pow_succ, Int.pow_succ, Int.pow_succ, Int.pow_zero, Int.one_mul]
  -- the number
  obtain ⟨c', hc'⟩ := Int.eq_ofNat_of_zero_le (show 0 ≤ c by omega)
  have hN := List.all_eq_true.mp h2 c' (List.mem_range.mpr (by omega))
  simp only [Bool.or_eq_true, Bool.and_eq_true, decide_eq_true_eq] at hN
  have hN' : cntF p c = grp tbl (c ^ e % p) ∧ 0 ≤ grp tbl (c ^ e % p) ∧ grp tbl (c ^ e % p) < 16384 := by
    rcases hN with hN | hN
    · have := Nat.eq_of_beq_eq_true hN; omega
    · rw [hc']; exact ⟨hN.1.1, hN.1.2, hN.2⟩
  obtain ⟨e1, e2, e3⟩ := hN'
  refine ⟨by omega, by omega, ?_⟩
  obtain ⟨N, eN⟩ := Int.eq_ofNat_of_zero_le e2
  have hNl : N < 2 ^ 14 := by omega
  -- it is enough for a scaled point that was looked at
  have key : ∀ (u : Fin p) (x y : Int), u ≠ 0 → In0 p x → In0 p y → (cK x : Fin p) = u * u * cK X → (cK y : Fin p) = u * u * u * cK Y → chkPt p tbl e x y = true → seqL p X Y (cntF p c).toNat = none := by
    intro u x y hu hx hy ex ey hk
    have hu2 := F.mul_ne hu hu
    have hu6 := F.mul_ne (F.mul_ne hu2 hu2) hu2
    have hon2 : OnK (u * u * (u * u) * (u * u) * cK c : Fin p) (some (cK x, cK y)) := by
      simp only [OnK] at hon' ⊢
      rw [ex, ey]
      have : u * u * u * cK Y * (u * u * u * cK Y) = u * u * (u * u) * (u * u) * (cK Y * cK Y) := by grind
      rw [this, hon']; grind
    have hcc : (cK ((y * y - x * x * x) % p) : Fin p) = u * u * (u * u) * (u * u) * cK c := by
      rw [cK_mod p, cK_sub, cK_mul, cK_mul, cK_mul]
      simp only [OnK] at hon2
      rw [hon2]; grind
    have hc2 : (u * u * (u * u) * (u * u) * cK c : Fin p) ≠ 0 := F.mul_ne hu6 hcK
    have hne : (y * y - x * x * x) % p ≠ 0 := fun q => hc2 (by rw [← hcc, q, cK_zero])
    have hpow : ((y * y - x * x * x) % p) ^ e % p = c ^ e % p := by
      rw [← cK_ext (K := Fin p) p, cK_pow, cK_pow, hcc]
      rcases he with rfl | he
      · simp only [Semiring.pow_zero]
      · have hF := F.inv_ok u hu
        have h6 : (u * u * (u * u) * (u * u)) ^ e = 1 := by
          have a1 : u * u * (u * u) * (u * u) = u ^ 6 := by grind
          have a2 : (u ^ 6) ^ e = u ^ (6 * e) := pow6 u e
          rw [a1, a2, he, show p - 1 = (p - 2) + 1 by omega, Semiring.pow_succ]
          grind
        have a3 : ∀ (a b : Fin p), (a * b) ^ e = a ^ e * b ^ e := fun a b => mul_powK a b e
        rw [a3, h6]; grind
    unfold chkPt at hk
    rw [Bool.or_eq_true] at hk
    have hz : (mulF p 13 (x, y, 1) (N : Int)).2.2 = 0 := by
      rcases hk with hk | hk
      · exact absurd (_root_.of_decide_eq_true hk) hne
      · have := _root_.of_decide_eq_true hk
        rw [hpow, eN] at this
        exact this
    have hrep : Rep (c3 (x, y, 1) : Fin p × Fin p × Fin p) (some (cK x, cK y)) := by
      simp only [Rep, c3, cK_one]
      refine ⟨fun q => ?_, by grind, by grind⟩
      rw [← cK_one, cK_zero_iff p (in0_one h)] at q; cases q
    have k1 := rep_mul F hc2 13 hrep hon2 (n := N) hNl
    have hm := c3_mul (K := Fin p) p h 13 (N : Int) (T := (x, y, 1)) ⟨hx, hy, in0_one h⟩
    rw [← hm.2] at k1
    have k2 : seqK (fun a : Fin p => a ^ (p - 2)) (some (cK x, cK y)) N = none := by
      cases q : seqK (fun a : Fin p => a ^ (p - 2)) (some (cK x, cK y)) N with
      | none => rfl
      | some P =>
        obtain ⟨a, b⟩ := P
        rw [q] at k1
        simp only [Rep, c3] at k1
        exact absurd ((cK_zero_iff p hm.1.2.2).mpr hz) k1.1
    rw [ex, ey] at k2
    have k3 := seqK_scl F hu hon' N
    simp only [scl] at k3
    rw [k2] at k3
    have k4 := scl_none k3.symm
    rw [← c2_seq p h hX hY N] at k4
    have : (cntF p c).toNat = N := by omega
    rw [this]
    cases q : seqL p X Y N with
    | none => rfl
    | some P => rw [q] at k4; cases k4
  have look : ∀ t : Int, In0 p t → chkPt p tbl e t t = true ∧ chkPt p tbl e 0 t = true ∧ chkPt p tbl e t 0 = true := by
    intro t ht
    obtain ⟨t', rfl⟩ := Int.eq_ofNat_of_zero_le ht.1
    have := List.all_eq_true.mp h1 t' (List.mem_range.mpr (by have := ht.2; omega))
    rw [Bool.and_eq_true, Bool.and_eq_true] at this
    exact ⟨this.1.1, this.1.2, this.2⟩
  have one1 : (1 : Fin p) ≠ 0 := fun q => by
    rw [← cK_one, cK_zero_iff p (in0_one h)] at q; cases q
  by_cases hx0 : X = 0
  · subst hx0
    exact key 1 0 Y one1 (in0_zero h) hY (by grind) (by grind) (look Y hY).2.1
  · by_cases hy0 : Y = 0
    · subst hy0
      exact key 1 X 0 one1 hX (in0_zero h) (by grind) (by grind) (look X hX).2.2
    · have nx : (cK X : Fin p) ≠ 0 := fun q => hx0 ((cK_zero_iff p hX).mp q)
      have ny : (cK Y : Fin p) ≠ 0 := fun q => hy0 ((cK_zero_iff p hY).mp q)
      have hinv := F.inv_ok _ ny
      obtain ⟨u, hu⟩ : ∃ u : Fin p, u * cK Y = cK X := ⟨cK X * (cK Y) ^ (p - 2), by
        generalize (cK Y : Fin p) ^ (p - 2) = i at *
        grind⟩
      have nu : u ≠ 0 := fun q => nx (by rw [← hu, q]; grind)
      obtain ⟨t, ht⟩ := fin_surj (u * u * cK X)
      have ht' : (cK (t % p) : Fin p) = u * u * cK X := by rw [cK_mod p, ht]
      exact key u (t % p) (t % p) nu (in0_emod t h) (in0_emod t h) ht' (by rw [ht', ← hu]; grind) (look _ (in0_emod t h)).1
theorem sp_7 : IsPr 7 := prime_trial (k := 1) (by decide) (by decide) (by decide +kernel)
theorem sA_7 : chkAll 7 [(1, 12), (2, 9), (3, 13), (4, 3), (5, 7), (6, 4)] 1 = true := by decide +kernel
theorem sC_7 : chkCnt 7 [(1, 12), (2, 9), (3, 13), (4, 3), (5, 7), (6, 4)] 1 = true := by decide +kernel
theorem small_7 {c X Y : Int} (hc : 1 ≤ c ∧ c < 7) (hon : OnC 7 c X Y) : 0 ≤ cntF 7 c ∧ cntF 7 c < 16384 ∧ seqL 7 X Y (cntF 7 c).toNat = none :=
  small_ok (p := 7) sp_7 ⟨by decide, by decide +kernel⟩ (by decide) sA_7 sC_7 hc hon
theorem sp_11 : IsPr 11 := prime_trial (k := 2) (by decide) (by decide) (by decide +kernel)
theorem sA_11 : chkAll 11 [(1, 12)] 0 = true := by decide +kernel
theorem sC_11 : chkCnt 11 [(1, 12)] 0 = true := by decide +kernel
theorem small_11 {c X Y : Int} (hc : 1 ≤ c ∧ c < 11) (hon : OnC 11 c X Y) : 0 ≤ cntF 11 c ∧ cntF 11 c < 16384 ∧ seqL 11 X Y (cntF 11 c).toNat = none :=
  small_ok (p := 11) sp_11 ⟨by decide, by decide +kernel⟩ (by decide) sA_11 sC_11 hc hon
theorem sp_19 : IsPr 19 := prime_trial (k := 3) (by decide) (by decide) (by decide +kernel)
theorem sA_19 : chkAll 19 [(1, 12), (8, 13), (7, 21), (11, 27), (18, 28), (12, 19)] 3 = true := by decide +kernel
theorem sC_19 : chkCnt 19 [(1, 12), (8, 13), (7, 21), (11, 27), (18, 28), (12, 19)] 3 = true := by decide +kernel
theorem small_19 {c X Y : Int} (hc : 1 ≤ c ∧ c < 19) (hon : OnC 19 c X Y) : 0 ≤ cntF 19 c ∧ cntF 19 c < 16384 ∧ seqL 19 X Y (cntF 19 c).toNat = none :=
  small_ok (p := 19) sp_19 ⟨by decide, by decide +kernel⟩ (by decide) sA_19 sC_19 hc hon
theorem sp_23 : IsPr 23 := prime_trial (k := 3) (by decide) (by decide) (by decide +kernel)
theorem sA_23 : chkAll 23 [(1, 24)] 0 = true := by decide +kernel
theorem sC_23 : chkCnt 23 [(1, 24)] 0 = true := by decide +kernel
theorem small_23 {c X Y : Int} (hc : 1 ≤ c ∧ c < 23) (hon : OnC 23 c X Y) : 0 ≤ cntF 23 c ∧ cntF 23 c < 16384 ∧ seqL 23 X Y (cntF 23 c).toNat = none :=
  small_ok (p := 23) sp_23 ⟨by decide, by decide +kernel⟩ (by decide) sA_23 sC_23 hc hon
theorem sp_31 : IsPr 31 := prime_trial (k := 4) (by decide) (by decide) (by decide +kernel)
theorem sA_31 : chkAll 31 [(1, 36), (26, 43), (25, 39), (5, 21), (6, 25), (30, 28)] 5 = true := by decide +kernel
theorem sC_31 : chkCnt 31 [(1, 36), (26, 43), (25, 39), (5, 21), (6, 25), (30, 28)] 5 = true := by decide +kernel
theorem small_31 {c X Y : Int} (hc : 1 ≤ c ∧ c < 31) (hon : OnC 31 c X Y) : 0 ≤ cntF 31 c ∧ cntF 31 c < 16384 ∧ seqL 31 X Y (cntF 31 c).toNat = none :=
  small_ok (p := 31) sp_31 ⟨by decide, by decide +kernel⟩ (by decide) sA_31 sC_31 hc hon
theorem sp_43 : IsPr 43 := prime_trial (k := 5) (by decide) (by decide) (by decide +kernel)
theorem sA_43 : chkAll 43 [(1, 36), (42, 52), (37, 49), (6, 39), (7, 31), (36, 57)] 7 = true := by decide +kernel
theorem sC_43 : chkCnt 43 [(1, 36), (42, 52), (37, 49), (6, 39), (7, 31), (36, 57)] 7 = true := by decide +kernel
theorem small_43 {c X Y : Int} (hc : 1 ≤ c ∧ c < 43) (hon : OnC 43 c X Y) : 0 ≤ cntF 43 c ∧ cntF 43 c < 16384 ∧ seqL 43 X Y (cntF 43 c).toNat = none :=
  small_ok (p := 43) sp_43 ⟨by decide, by decide +kernel⟩ (by decide) sA_43 sC_43 hc hon
theorem sp_47 : IsPr 47 := prime_trial (k := 5) (by decide) (by decide) (by decide +kernel)
theorem sA_47 : chkAll 47 [(1, 48)] 0 = true := by decide +kernel
theorem sC_47 : chkCnt 47 [(1, 48)] 0 = true := by decide +kernel
theorem small_47 {c X Y : Int} (hc : 1 ≤ c ∧ c < 47) (hon : OnC 47 c X Y) : 0 ≤ cntF 47 c ∧ cntF 47 c < 16384 ∧ seqL 47 X Y (cntF 47 c).toNat = none :=
  small_ok (p := 47) sp_47 ⟨by decide, by decide +kernel⟩ (by decide) sA_47 sC_47 hc hon
theorem sp_59 : IsPr 59 := prime_trial (k := 6) (by decide) (by decide) (by decide +kernel)
theorem sA_59 : chkAll 59 [(1, 60)] 0 = true := by decide +kernel
theorem sC_59 : chkCnt 59 [(1, 60)] 0 = true := by decide +kernel
theorem small_59 {c X Y : Int} (hc : 1 ≤ c ∧ c < 59) (hon : OnC 59 c X Y) : 0 ≤ cntF 59 c ∧ cntF 59 c < 16384 ∧ seqL 59 X Y (cntF 59 c).toNat = none :=
  small_ok (p := 59) sp_59 ⟨by decide, by decide +kernel⟩ (by decide) sA_59 sC_59 hc hon
end Mine

end
section
set_option linter.unusedVariables false
set_option maxRecDepth 100000
namespace Mine
/-- the law's primes -/
def PrimeL (p : Int) : Prop := p = 4002409555221667393417789825735904156556882819939007885332058136124031650490837864442687629129015664037894272559787 ∨ p = 21888242871839275222246405745257275088696311157297823662689037894645226208583 ∨ p ∈ ([7, 11, 19, 23, 31, 43, 47, 59] : List Int)
theorem mem_small {p : Int} (h : p ∈ ([7, 11, 19, 23, 31, 43, 47, 59] : List Int)) : p = 7 ∨ p = 11 ∨ p = 19 ∨ p = 23 ∨ p = 31 ∨ p = 43 ∨ p = 47 ∨ p = 59 := by simpa using h
theorem primeL_nat {p : Int} (h : PrimeL p) : ∃ P : Nat, IsPr P ∧ p = (P : Int) := by
  rcases h with rfl | rfl | h
  · exact ⟨_, pr8, rfl⟩
  · exact ⟨_, pr17, rfl⟩
  · rcases mem_small h with rfl | rfl | rfl | rfl | rfl | rfl | rfl | rfl
    · exact ⟨_, sp_7, rfl⟩
    · exact ⟨_, sp_11, rfl⟩
    · exact ⟨_, sp_19, rfl⟩
    · exact ⟨_, sp_23, rfl⟩
    · exact ⟨_, sp_31, rfl⟩
    · exact ⟨_, sp_43, rfl⟩
    · exact ⟨_, sp_47, rfl⟩
    · exact ⟨_, sp_59, rfl⟩
theorem small_of {p : Int} (h : PrimeL p) (h60 : p ≤ 60) : p = 7 ∨ p = 11 ∨ p = 19 ∨ p = 23 ∨ p = 31 ∨ p = 43 ∨ p = 47 ∨ p = 59 := by
  rcases h with rfl | rfl | h
  · exact absurd h60 (by decide)
  · exact absurd h60 (by decide)
  · exact mem_small h
theorem small_all {p c X Y : Int} (h : PrimeL p) (h60 : p ≤ 60) (hc : 1 ≤ c ∧ c < p) (hon : OnC p c X Y) : 0 ≤ cntF p c ∧ cntF p c < 16384 ∧ seqL p X Y (cntF p c).toNat = none := by
  rcases small_of h h60 with rfl | rfl | rfl | rfl | rfl | rfl | rfl | rfl
  · exact small_7 hc hon
  · exact small_11 hc hon
  · exact small_19 hc hon
  · exact small_23 hc hon
  · exact small_31 hc hon
  · exact small_43 hc hon
  · exact small_47 hc hon
  · exact small_59 hc hon
theorem cnt_of {p : Nat} {tbl : List (Int × Int)} {e : Nat} (h2 : chkCnt p tbl e = true) {c : Int} (hc : 1 ≤ c ∧ c < p) : 0 ≤ cntF p c ∧ cntF p c < 16384 := by
  obtain ⟨c', hc'⟩ := Int.eq_ofNat_of_zero_le (show 0 ≤ c by omega)
  have hN := List.all_eq_true.mp h2 c' (List.mem_range.mpr (by omega))
  simp only [Bool.or_eq_true, Bool.and_eq_true, decide_eq_true_eq] at hN
  rcases hN with hN | hN
  · have := Nat.eq_of_beq_eq_true hN; omega
  · rw [hc', hN.1.1]; exact ⟨hN.1.2, hN.2⟩
theorem cnt_all {p c : Int} (h : PrimeL p) (h60 : p ≤ 60) (hc : 1 ≤ c ∧ c < p) : 0 ≤ cntF p c ∧ cntF p c < 16384 := by
  rcases small_of h h60 with rfl | rfl | rfl | rfl | rfl | rfl | rfl | rfl
  · exact cnt_of sC_7 hc
  · exact cnt_of sC_11 hc
  · exact cnt_of sC_19 hc
  · exact cnt_of sC_23 hc
  · exact cnt_of sC_31 hc
  · exact cnt_of sC_43 hc
  · exact cnt_of sC_47 hc
  · exact cnt_of sC_59 hc
theorem pok_primeL {p : Int} (h : PrimeL p) : Pok p := by
  rcases h with rfl | rfl | h
  · exact ⟨by decide +kernel, by decide +kernel⟩
  · exact ⟨by decide +kernel, by decide +kernel⟩
  · have : ∀ q ∈ ([7, 11, 19, 23, 31, 43, 47, 59] : List Int), 4 < q ∧ q < 2 ^ 400 := by decide +kernel
    exact this p h
theorem in_seqI {p x y : Int} (h : PrimeL p) (hx : In0 p x) (hy : In0 p y) (n : Nat) (X Y : Int) (e : seqL p x y n = some (X, Y)) : In0 p X ∧ In0 p Y := by
  obtain ⟨P, hP, rfl⟩ := primeL_nat h
  exact in_seqL P (pok_primeL h) hx hy n X Y e
theorem seq_modI {p x y : Int} (h : PrimeL p) (hx : In0 p x) (hy : In0 p y) {m : Nat} (e : seqL p x y m = none) (n : Nat) : seqL p x y (n % m) = seqL p x y n := by
  obtain ⟨P, hP, rfl⟩ := primeL_nat h
  exact seqL_mod (pok_primeL h) hx hy e n
/-- multiply of infinity is infinity -/
theorem inf_ok {p sc n : Int} (h : PrimeL p) (h0 : 0 ≤ n) (hn : n < 16384) : (mulF p 13 (sc % p, sc % p, 0 % p) n).2.2 = 0 := by
  obtain ⟨P, hP, rfl⟩ := primeL_nat h
  obtain ⟨m, rfl⟩ := Int.eq_ofNat_of_zero_le h0
  rw [Int.zero_emod]
  exact found_inf hP (pok_primeL h) (by omega)
/-- multiply of a point, by the row -/
theorem pt_ok {p c X Y sc n : Int} (h : PrimeL p) (hc : 1 ≤ c ∧ c < p) (hsc : 1 ≤ sc ∧ sc < p) (h0 : 0 ≤ n) (hn : n < 16384) (hon : OnC p c X Y) :
    match seqL p X Y n.toNat with
    | none => (mulF p 13 (X * sc % p, Y * sc % p, sc % p) n).2.2 = 0
    | some (a, b) => (mulF p 13 (X * sc % p, Y * sc % p, sc % p) n).2.2 ≠ 0 ∧ (a * (mulF p 13 (X * sc % p, Y * sc % p, sc % p) n).2.2 - (mulF p 13 (X * sc % p, Y * sc % p, sc % p) n).1) % p = 0 ∧
        (b * (mulF p 13 (X * sc % p, Y * sc % p, sc % p) n).2.2 - (mulF p 13 (X * sc % p, Y * sc % p, sc % p) n).2.1) % p = 0 := by
  obtain ⟨P, hP, rfl⟩ := primeL_nat h
  obtain ⟨m, rfl⟩ := Int.eq_ofNat_of_zero_le h0
  exact found_all hP (pok_primeL h) hc hsc (n := m) (by omega) hon
theorem pt_small {p c X Y sc : Int} (h : PrimeL p) (h60 : p ≤ 60) (hc : 1 ≤ c ∧ c < p) (hsc : 1 ≤ sc ∧ sc < p) (hon : OnC p c X Y) :
    (mulF p 13 (X * sc % p, Y * sc % p, sc % p) (cntF p c)).2.2 = 0 := by
  obtain ⟨a, b, e⟩ := small_all h h60 hc hon
  have := pt_ok h hc hsc a b hon
  rw [e] at this
  exact this
end Mine

end
section
open PySem PySem.W PyProof.Rows PySem.Calls PySem.Spec
set_option maxRecDepth 100000
set_option maxHeartbeats 0
namespace Mine
theorem fill7 : (fun (_ : OpenLaw) (_ : Params → Frag) => True) PySem.Challenge.rw_kh0007_01 hd.heap_39 := by
  k_fill
  trivial
local macro_rules | `(tactic| k_mem) => `(tactic| (refine mem_of ?_; ktr_member))
local macro_rules | `(tactic| k_units) => `(tactic| ((try simp only [units_under_make, units_in1, PyProof.Rows.units_deeper]); (try dsimp only [ktrTop]); omega))
local macro_rules | `(tactic| k_room) => `(tactic| ((try simp only [depth_under_make, depth_under_kw, depth_in1, depth_deeper]); (try dsimp only [ktrTop]); omega))

def VPt (news : List (Addr × Obj)) (v : Value) : Option (Int × Int) → Prop
  | none => v = .none
  | some (x, y) => ∃ q, v = .ref q ∧ Pt2 news x y q
theorem VPt.mono {news news' : List (Addr × Obj)} {v : Value} (hs : ∀ e ∈ news, e ∈ news') : ∀ {o : Option (Int × Int)}, VPt news v o → VPt news' v o
  | none, h => h
  | some (_, _), ⟨q, h, tx, ty, hm⟩ => ⟨q, h, tx, ty, hs _ hm⟩
noncomputable def seqO (p : Int) : Option (Int × Int) → Nat → Option (Int × Int)
  | none, _ => none
  | some (X, Y), k => seqL p X Y k
def PtO (p c : Int) : Option (Int × Int) → Prop
  | none => True
  | some (X, Y) => OnC p c X Y
def formO (p sc : Int) : Option (Int × Int) → Int × Int × Int
  | none => (sc % p, sc % p, 0 % p)
  | some (X, Y) => (X * sc % p, Y * sc % p, sc % p)
theorem seqO_one {p : Int} : ∀ {o : Option (Int × Int)}, seqO p o 1 = o
  | none => rfl
  | some (_, _) => rfl
theorem seqO_zero {p : Int} : ∀ {o : Option (Int × Int)}, seqO p o 0 = none
  | none => rfl
  | some (_, _) => rfl
theorem pt_okO {p c sc n : Int} (h : PrimeL p) (hc : 1 ≤ c ∧ c < p) (hsc : 1 ≤ sc ∧ sc < p) (h0 : 0 ≤ n) (hn : n < 16384) : ∀ {o : Option (Int × Int)}, PtO p c o →
    match seqO p o n.toNat with
    | none => (mulF p 13 (formO p sc o) n).2.2 = 0
    | some (a, b) => (mulF p 13 (formO p sc o) n).2.2 ≠ 0 ∧ (a * (mulF p 13 (formO p sc o) n).2.2 - (mulF p 13 (formO p sc o) n).1) % p = 0 ∧ (b * (mulF p 13 (formO p sc o) n).2.2 - (mulF p 13 (formO p sc o) n).2.1) % p = 0
  | none, _ => inf_ok h h0 hn
  | some (_, _), hon => pt_ok h hc hsc h0 hn hon
theorem pt_smallO {p c sc : Int} (h : PrimeL p) (h60 : p ≤ 60) (hc : 1 ≤ c ∧ c < p) (hsc : 1 ≤ sc ∧ sc < p) : ∀ {o : Option (Int × Int)}, PtO p c o → (mulF p 13 (formO p sc o) (cntF p c)).2.2 = 0
  | none, _ => inf_ok h (cnt_all h h60 hc).1 (cnt_all h h60 hc).2
  | some (_, _), hon => pt_small h h60 hc hsc hon
theorem in_seqO {p c a b : Int} (h : PrimeL p) {n : Nat} : ∀ {o : Option (Int × Int)}, PtO p c o → seqO p o n = some (a, b) → In0 p a ∧ In0 p b
  | none, _, e => nomatch e
  | some (_, _), hon, e => in_seqI h hon.1 hon.2.1 n a b e
theorem seq_modO {p c : Int} (h : PrimeL p) {m n : Nat} : ∀ {o : Option (Int × Int)}, PtO p c o → seqO p o m = none → seqO p o (n % m) = seqO p o n
  | none, _, _ => rfl
  | some (_, _), hon, e => seq_modI h hon.1 hon.2.1 e n
theorem Fr_self {h₀ h : Heap} {L : Addr} {m : Str → Option Value} {x : Str} {v : Value} (F : Fr h₀ L h m) (e : m x = some v) : Fr h₀ L h (fun y => if y = x then some v else m y) := by
  have : (fun y => if y = x then some v else m y) = m := by
    funext y
    by_cases hy : y = x
    · rw [if_pos hy, hy, e]
    · rw [if_neg hy]
  rw [this]; exact F
theorem cut_stmt {M : Model} {A : Around} {E : Value → Shared → Prop} {s : Shared} {env : Env} {st : Stmt} {rest : List Stmt} {Q : Flow → Shared → Prop} (Mid : Shared → Prop)
    (h1 : wpAny M A (exec st env) (fun f s' => f = .next ∧ Mid s') E s) (h2 : ∀ s', Mid s' → wpAny M A (execs rest env) Q E s') : wpAny M A (execs (st :: rest) env) Q E s := by
  refine wpAny_execs_cons (wpAny_mono h1 (fun f s' h => ?_) fun _ _ z => z)
  obtain ⟨rfl, hm⟩ := h
  exact h2 s' hm
def FormMid (h₀ : Heap) (L : Addr) (m : Str → Option Value) (news : List (Addr × Obj)) (p : Int) (P : Int × Int × Int) (s s' : Shared) : Prop :=
  ∃ news' h' tk' q, s' = { s with heap := h', toks := tk' } ∧ Fr h₀ L h' (fun y => if y = Str.ofString "form" then some (.ref q) else m y) ∧ News h₀ L h' news' ∧ (∀ e ∈ news, e ∈ news') ∧ PTm news' p P q
def FormEnd (h₀ : Heap) (L : Addr) (m : Str → Option Value) (news : List (Addr × Obj)) (p : Int) (P : Int × Int × Int) (s : Shared) (f : Flow) (s' : Shared) : Prop := f = .next ∧ FormMid h₀ L m news p P s s'
theorem cut_form {M : Model} {A : Around} {E : Value → Shared → Prop} {s : Shared} {h₀ : Heap} {L : Addr} {m : Str → Option Value} {news : List (Addr × Obj)} {env : Env} {st : Stmt} {rest : List Stmt} {Q : Flow → Shared → Prop} (p : Int) (P : Int × Int × Int)
    (F : Fr h₀ L s.heap m) (N : News h₀ L s.heap news)
    (h1 : wpAny M A (exec st env) (FormEnd h₀ L m news p P s) E s)
    (h2 : ∀ news' h' tk' q, Fr h₀ L h' (fun y => if y = Str.ofString "form" then some (.ref q) else m y) → News h₀ L h' news' → (∀ e ∈ news, e ∈ news') → PTm news' p P q → wpAny M A (execs rest env) Q E { s with heap := h', toks := tk' }) :
    wpAny M A (execs (st :: rest) env) Q E s := by
  refine cut_stmt (FormMid h₀ L m news p P s) h1 fun s' h => ?_
  obtain ⟨news', h', tk', q, rfl, a, b, c, d⟩ := h
  exact h2 news' h' tk' q a b c d
theorem form_end {h₀ : Heap} {L : Addr} {m : Str → Option Value} {news news' : List (Addr × Obj)} {p : Int} {P : Int × Int × Int} {s : Shared} {h' : Heap} {tk' : Nat} {q : Addr}
    (F : Fr h₀ L h' (fun y => if y = Str.ofString "form" then some (.ref q) else m y)) (N : News h₀ L h' news') (hs : ∀ e ∈ news, e ∈ news') (hq : PTm news' p P q) : FormEnd h₀ L m news p P s .next { s with heap := h', toks := tk' } :=
  ⟨rfl, news', h', tk', q, rfl, F, N, hs, hq⟩

theorem cut_int {M : Model} {A : Around} {E : Value → Shared → Prop} {s : Shared} {h₀ : Heap} {L : Addr} {m : Str → Option Value} {news : List (Addr × Obj)} {env : Env} {x : Str} {pos1 pos2 : Pos} {e : PySem.Expr} {rest : List Stmt} {Q : Flow → Shared → Prop} (P : Int → Prop)
    (F : Fr h₀ L s.heap m) (N : News h₀ L s.heap news)
    (h1 : wpAny M A (eval e env) (fun v s' => ∃ i t h' tk', v = .int i t ∧ s' = { s with heap := h', toks := tk' } ∧ Fr h₀ L h' m ∧ News h₀ L h' news ∧ P i) E s)
    (h2 : ∀ i t h' tk', Fr h₀ L h' m → News h₀ L h' news → P i → wpAny M A (storeName env x (.int i t)) (fun _ s'' => wpAny M A (execs rest env) Q E s'') E { s with heap := h', toks := tk' })
    (hs : swapsWith e (some (.Name x pos1)) pos2.line env = pure false := by rfl) :
    wpAny M A (execs (.Assign [.Name x pos1] e pos2 :: rest) env) Q E s := by
  refine wpAny_execs_cons (wpAny_Assign_Name (wpAny_mono h1 (fun v s' h => ?_) fun _ _ z => z) hs)
  obtain ⟨i, t, h', tk', rfl, rfl, F', N', hP⟩ := h
  exact h2 i t h' tk' F' N' hP
def CutEnd (h₀ : Heap) (L : Addr) (m : Str → Option Value) (news : List (Addr × Obj)) (P : Int → Prop) (s : Shared) (v : Value) (s' : Shared) : Prop :=
  ∃ i t h' tk', v = .int i t ∧ s' = { s with heap := h', toks := tk' } ∧ Fr h₀ L h' m ∧ News h₀ L h' news ∧ P i
theorem cut_intE {M : Model} {A : Around} {E : Value → Shared → Prop} {s : Shared} {h₀ : Heap} {L : Addr} {m : Str → Option Value} {news : List (Addr × Obj)} {env : Env} {x : Str} {pos1 pos2 : Pos} {e : PySem.Expr} {rest : List Stmt} {Q : Flow → Shared → Prop} (P : Int → Prop)
    (F : Fr h₀ L s.heap m) (N : News h₀ L s.heap news)
    (h1 : wpAny M A (eval e env) (CutEnd h₀ L m news P s) E s)
    (h2 : ∀ i t h' tk', Fr h₀ L h' m → News h₀ L h' news → P i → wpAny M A (storeName env x (.int i t)) (fun _ s'' => wpAny M A (execs rest env) Q E s'') E { s with heap := h', toks := tk' })
    (hs : swapsWith e (some (.Name x pos1)) pos2.line env = pure false := by rfl) :
    wpAny M A (execs (.Assign [.Name x pos1] e pos2 :: rest) env) Q E s := cut_int P F N h1 h2 hs
theorem cut_end {h₀ : Heap} {L : Addr} {m : Str → Option Value} {news : List (Addr × Obj)} {P : Int → Prop} {s : Shared} {i : Int} {t : Tok} {h' : Heap} {tk' : Nat} (F : Fr h₀ L h' m) (N : News h₀ L h' news) (hP : P i) :
    CutEnd h₀ L m news P s (.int i t) { s with heap := h', toks := tk' } := ⟨_, _, _, _, rfl, rfl, F, N, hP⟩
theorem five {ys : List Value} {f : Int → Int} (h : IntsAre ys ((rangeKs 0 (5 - 0 : Int).toNat).map f)) (hf : ∀ k, 0 ≤ k → 0 ≤ f k) :
    ∃ g0 t0 g1 t1 g2 t2 g3 t3 g4 t4, ys = [.int g0 t0, .int g1 t1, .int g2 t2, .int g3 t3, .int g4 t4] ∧ 0 ≤ g0 ∧ 0 ≤ g1 ∧ 0 ≤ g2 ∧ 0 ≤ g3 ∧ 0 ≤ g4 := by
  have e : (rangeKs 0 (5 - 0 : Int).toNat).map f = [f 0, f 1, f 2, f 3, f 4] := rfl
  rw [e] at h
  obtain _ | ⟨_, t0, h⟩ := h
  obtain _ | ⟨_, t1, h⟩ := h
  obtain _ | ⟨_, t2, h⟩ := h
  obtain _ | ⟨_, t3, h⟩ := h
  obtain _ | ⟨_, t4, h⟩ := h
  cases h
  exact ⟨_, t0, _, t1, _, t2, _, t3, _, t4, rfl, hf _ (by decide), hf _ (by decide), hf _ (by decide), hf _ (by decide), hf _ (by decide)⟩
theorem absIf_nn {a : Int} : 0 ≤ (if a < 0 then -a else a) := by split <;> omega

theorem item_ints {prog : Program} {w : World} {A : Around} {E : Value → Shared → Prop} {s : Shared} {value slice : PySem.Expr} {l : Addr} {vs : List Value} {ns : List Int} {k : Int} {u : Tok} {Q : Value → Shared → Prop}
    (hl : s.heap.IsList l vs.toArray) (hI : IntsAre vs ns) (h0 : 0 ≤ k) (hk : k < ns.length) (hf : ns.length < 100) (h : ∀ p t, p ∈ ns → Q (.int p t) s)
    (hs : subscripted slice false (.ref l) (.int k u) = operate [.ref l, .int k u] (getItem (.ref l) (.int k u)) := by with_unfolding_all rfl) :
    wpAny (model prog w) A (subscriptTail value slice (.ref l) (.int k u)) Q E s := by
  have key : ∀ (vs : List Value) (ns : List Int), IntsAre vs ns → ∀ j, j < ns.length → ∃ p t, p ∈ ns ∧ vs[j]? = some (.int p t) := by
    intro vs ns hI
    induction hI with
    | nil => intro j hj; cases hj
    | cons n t _ ih =>
      intro j hj
      cases j with
      | zero => exact ⟨n, t, .head _, rfl⟩
      | succ j =>
        obtain ⟨p, t', hp, e⟩ := ih j (by simpa using hj)
        exact ⟨p, t', .tail _ hp, by simpa using e⟩
  obtain ⟨p, t, hp, e⟩ := key vs ns hI k.toNat (by omega)
  exact tail_any hl.typeIs slot_list_getitem.lookup (wpAny_getItem_list hl h0 (by omega) (by simpa using e) (h p t hp)) hs
theorem fmod_lt {a b : Int} (h : 0 < b) : Int.fmod a b < b := Int.fmod_lt_of_pos a h
theorem fmod3_lt2 {a : Int} (h : Int.fmod a 3 ≠ 2) : Int.fmod a 3 < 2 := by have := fmod_lt (a := a) (b := 3) (by decide); omega
theorem primeL_great {p : Int} (h : p ∈ ([4002409555221667393417789825735904156556882819939007885332058136124031650490837864442687629129015664037894272559787, 21888242871839275222246405745257275088696311157297823662689037894645226208583] : List Int)) : PrimeL p := by
  rcases List.mem_cons.mp h with h | h
  · exact .inl h
  · exact .inr (.inl (List.mem_singleton.mp h))
theorem primeL_small {p : Int} (h : p ∈ ([7, 11, 19, 23, 31, 43, 47, 59] : List Int)) : PrimeL p := .inr (.inr h)
theorem in0_shift {p v : Int} (h : Pok p) : In0 p (1 + Int.fmod v (p - 1)) := by
  have h4 := h.1
  have h1 := fmod_nn (v := v) (p := p - 1) (by omega)
  have h2 := fmod_lt (a := v) (b := p - 1) (by omega)
  exact ⟨by omega, by omega⟩
theorem ge1_shift {p v : Int} (h : Pok p) : 1 ≤ 1 + Int.fmod v (p - 1) := by
  have h4 := h.1
  have h1 := fmod_nn (v := v) (p := p - 1) (by omega)
  omega
/-- the state of the row's loop -/
structure RowS where
  rest : List (Addr × Obj)
  vals : List Value
  now : Value
  ep : Nat
abbrev rowLed (r : Addr) (c : RowS) : List (Addr × Obj) := (r, W.listOf c.vals.toArray c.ep) :: c.rest
abbrev rowPs (c : RowS) : List (Str × Value) := [(Str.ofString "now", c.now)]
def rowFacts (r : Addr) (rest0 : List (Addr × Obj)) (c : RowS) : Prop := (∀ e ∈ c.rest, e.1 ≠ r) ∧ (∀ e ∈ rest0, e ∈ c.rest)
def rowHas (p : Int) (o : Option (Int × Int)) (c : RowS) (k : Nat) : Prop := c.vals.length = k + 1 ∧ k + 1 ≤ 130 ∧ ∀ j, j ≤ k → ∃ v, c.vals[j]? = some v ∧ VPt c.rest v (seqO p o j)
def rowP (p : Int) (o : Option (Int × Int)) (c : RowS) : Prop := ∃ k, rowHas p o c k ∧ VPt c.rest c.now (seqO p o (k + 1))
def rowX (p : Int) (o : Option (Int × Int)) (c : RowS) : Prop := ∃ k, rowHas p o c k ∧ ((c.now = .none ∧ seqO p o (k + 1) = none) ∨ ((∃ q, c.now = .ref q) ∧ k + 1 = 130))
def rowMu (c : RowS) : Nat := 131 - c.vals.length
theorem rowP_start {p : Int} {o : Option (Int × Int)} {rest : List (Addr × Obj)} {v : Value} (h : VPt rest v o) : rowP p o ⟨rest, [.none], v, 0⟩ :=
  ⟨0, ⟨rfl, by decide, fun j hj => ⟨.none, by rw [show j = 0 by omega]; rfl, by rw [show j = 0 by omega, seqO_zero]; rfl⟩⟩, by rw [seqO_one]; exact h⟩
theorem rowHas_push {p x y : Int} {o : Option (Int × Int)} {c : RowS} {k : Nat} {q : Addr} {rest' : List (Addr × Obj)} {now' : Value} {ep' : Nat} (h : rowHas p o c k) (hk : k + 1 < 130) (hs : seqO p o (k + 1) = some (x, y)) (hq : Pt2 rest' x y q) (hsub : ∀ e ∈ c.rest, e ∈ rest') :
    rowHas p o ⟨rest', c.vals ++ [.ref q], now', ep'⟩ (k + 1) := by
  obtain ⟨h1, h2, h3⟩ := h
  refine ⟨by simp [h1], by omega, fun j hj => ?_⟩
  by_cases hjk : j ≤ k
  · obtain ⟨v, e, hv⟩ := h3 j hjk
    exact ⟨v, by rw [List.getElem?_append_left (by omega)]; exact e, hv.mono hsub⟩
  · have : j = k + 1 := by omega
    subst this
    refine ⟨.ref q, ?_, ?_⟩
    · rw [List.getElem?_append_right (by omega)]
      simp [h1]
    · rw [hs]; exact ⟨q, rfl, hq⟩
def RowEnd (h₀ : Heap) (L : Addr) (m₀ : Str → Option Value) (r : Addr) (rest0 : List (Addr × Obj)) (p : Int) (o : Option (Int × Int)) (s s' : Shared) : Prop :=
  ∃ (c : RowS) (u : Str → Option Value) (h : Heap) (tk : Nat), s' = { s with heap := h, toks := tk } ∧ rowFacts r rest0 c ∧ rowX p o c ∧ Fr h₀ L h (kstB (fun z => if ([] : List Str).contains z then u z else m₀ z) (rowPs c)) ∧ News h₀ L h (rowLed r c)
theorem row_end {h₀ : Heap} {L : Addr} {m₀ : Str → Option Value} {r : Addr} {rest0 : List (Addr × Obj)} {p : Int} {o : Option (Int × Int)} {s : Shared} {h : Heap} {tk : Nat} (c : RowS) (u : Str → Option Value) (a : rowFacts r rest0 c) (b : rowX p o c) (d : Fr h₀ L h (kstB (fun z => if ([] : List Str).contains z then u z else m₀ z) (rowPs c))) (e : News h₀ L h (rowLed r c)) :
    RowEnd h₀ L m₀ r rest0 p o s { s with heap := h, toks := tk } := ⟨c, u, h, tk, rfl, a, b, d, e⟩
theorem row_while {prog : Program} {w : World} {A : Around} {E : Value → Shared → Prop} {Q : Flow → Shared → Prop} {s : Shared} {env : Env} {h₀ : Heap} {L : Addr} {test : PySem.Expr} {body : List Stmt} {pos : Pos} {m₀ : Str → Option Value} {r : Addr} {v : Value} {rest0 : List (Addr × Obj)} {p : Int} {o : Option (Int × Int)}
    (F : Fr h₀ L s.heap m₀) (N : News h₀ L s.heap (rowLed r ⟨rest0, [.none], v, 0⟩)) (hf : ∀ e ∈ rest0, e.1 ≠ r) (hk : m₀ (Str.ofString "now") = some v) (hq : VPt rest0 v o)
    (turn : ∀ (c : RowS) (u : Str → Option Value) h tk, rowFacts r rest0 c → rowP p o c → Fr h₀ L h (kstB (fun z => if ([] : List Str).contains z then u z else m₀ z) (rowPs c)) → News h₀ L h (rowLed r c) →
      wpAny (model prog w) A (isTrue test env (eval test env)) (fun b s₂ =>
        if b = true then wpAny (model prog w) A (execs body env) (KswPost h₀ L s (rowLed r) rowPs (rowFacts r rest0) [] m₀ (rowP p o) rowMu
            (fun f s' => f = .next ∧ RowEnd h₀ L m₀ r rest0 p o s s') c) E s₂
        else RowEnd h₀ L m₀ r rest0 p o s s₂) E { s with heap := h, toks := tk })
    (rest : ∀ (c : RowS) (u : Str → Option Value) h tk, rowFacts r rest0 c → rowX p o c → Fr h₀ L h (kstB (fun z => if ([] : List Str).contains z then u z else m₀ z) (rowPs c)) → News h₀ L h (rowLed r c) → Q .next { s with heap := h, toks := tk })
    (hE : PassesOwn (model prog w) A env E := by passes_own) :
    wpAny (model prog w) A (exec (.While test body [] pos) env) Q E s := by
  refine wpAny_mono (Q := fun f s' => f = .next ∧ RowEnd h₀ L m₀ r rest0 p o s s') ?_ (fun f s' h => ?_) fun _ _ e => e
  · refine ksw_while (rowLed r) rowPs (rowFacts r rest0) [] (rowP p o) rowMu ⟨rest0, [.none], v, 0⟩ F N ⟨hf, fun e he => he⟩ (List.forall_mem_cons.mpr ⟨hk, List.forall_mem_nil _⟩) (rowP_start hq) (fun c u h tk a b d e => ?_) hE
    refine wpAny_mono (turn c u h tk a b d e) (fun b s₂ z => ?_) fun _ _ e => e
    cases b with
    | true => exact z
    | false => exact ⟨rfl, z⟩
  · obtain ⟨rfl, c, u, h, tk, rfl, a, b, d, e⟩ := h
    exact rest c u h tk a b d e
theorem row_turn_end {h₀ : Heap} {L : Addr} {m₀ u : Str → Option Value} {r : Addr} {rest0 rest1 rest' news' : List (Addr × Obj)} {p x y : Int} {o : Option (Int × Int)} {s : Shared} {h : Heap} {tk k ep : Nat} {vals : List Value} {q9 : Addr} {now' : Value}
    (hfc : rowFacts r rest0 ⟨rest1, vals, .ref q9, ep⟩) (hk : rowHas p o ⟨rest1, vals, .ref q9, ep⟩ k) (hlt : vals.length < 130) (hs9 : seqO p o (k + 1) = some (x, y)) (hq : Pt2 rest1 x y q9)
    (hv : VPt rest' now' (seqO p o (k + 1 + 1))) (hsub : ∀ e ∈ rest1, e ∈ rest') (hne : ∀ e ∈ rest', e.1 ≠ r)
    (F : Fr h₀ L h (fun y => if y = Str.ofString "now" then some now' else kstB (fun z => if ([] : List Str).contains z = true then u z else m₀ z) (rowPs ⟨rest1, vals, .ref q9, ep⟩) y)) (N : News h₀ L h news')
    (hN : ∀ e ∈ (r, W.listOf (vals.toArray.push (.ref q9)) (ep + 1)) :: rest', e ∈ news') :
    KswEnd h₀ L s (rowLed r) rowPs (rowFacts r rest0) [] m₀ (rowP p o) rowMu ⟨rest1, vals, .ref q9, ep⟩ { s with heap := h, toks := tk } := by
  have hlen : vals.length = k + 1 := hk.1
  refine ksw_end ⟨rest', vals ++ [.ref q9], now', ep + 1⟩ F N ?_ ?_ ?_ ?_ ?_ ?_
  · intro e he
    refine hN e ?_
    have he' : e ∈ (r, W.listOf (vals ++ [Value.ref q9]).toArray (ep + 1)) :: rest' := he
    rw [← List.push_toArray] at he'
    exact he'
  · exact ⟨hne, fun e he => hsub e (hfc.2 e he)⟩
  · intro e he
    rw [List.mem_singleton.mp he]
    exact if_pos rfl
  · intro z hz _
    have hz' : z ≠ Str.ofString "now" := hz (Str.ofString "now", now') (.head _)
    simp only [if_neg hz', kstB]
    rfl
  · exact ⟨k + 1, rowHas_push hk (by omega) hs9 (hq.imp fun _ a => a.imp fun _ b => hsub _ b) hsub, hv⟩
  · show 131 - (vals ++ [Value.ref q9]).length < 131 - vals.length
    rw [List.length_append]
    have : [Value.ref q9].length = 1 := rfl
    omega
theorem row_due {p cc : Int} {o : Option (Int × Int)} {c : RowS} (h : PrimeL p) (hO : PtO p cc o) {i : Int} (h0 : 0 ≤ i) {k : Nat} (hh : rowHas p o c k) (hc : seqO p o (k + 1) = none ∨ (k + 1 = 130 ∧ i < 129)) :
    ∃ v, c.vals[(Int.fmod i (c.vals.length : Int)).toNat]? = some v ∧ VPt c.rest v (seqO p o i.toNat) := by
  obtain ⟨h1, h2, h3⟩ := hh
  obtain ⟨n, rfl⟩ := Int.eq_ofNat_of_zero_le h0
  have e : (Int.fmod (n : Int) (c.vals.length : Int)).toNat = n % (k + 1) := by
    rw [h1, fmod_pos (by omega)]
    show (((n % (k + 1) : Nat) : Int)).toNat = _
    exact Int.toNat_natCast _
  have hlt : n % (k + 1) < k + 1 := Nat.mod_lt _ (by omega)
  obtain ⟨v, hv, hp⟩ := h3 (n % (k + 1)) (by omega)
  refine ⟨v, by rw [e]; exact hv, ?_⟩
  rw [Int.toNat_natCast]
  rcases hc with hc | ⟨hc, hn⟩
  · rw [seq_modO h hO hc] at hp; exact hp
  · rw [Nat.mod_eq_of_lt (by omega)] at hp; exact hp
theorem item_row {prog : Program} {w : World} {A : Around} {E : Value → Shared → Prop} {s : Shared} {value slice : PySem.Expr} {h₀ : Heap} {L l : Addr} {news : List (Addr × Obj)} {vals : List Value} {n : Nat} {k : Int} {u : Tok} {v : Value} {Q : Value → Shared → Prop}
    (N : News h₀ L s.heap news) (hm : (l, W.listOf vals.toArray n) ∈ news) (h0 : 0 ≤ k) (hk : k < 2 ^ 63) (e : vals[k.toNat]? = some v) (h : Q v s)
    (hs : subscripted slice false (.ref l) (.int k u) = operate [.ref l, .int k u] (getItem (.ref l) (.int k u)) := by with_unfolding_all rfl) :
    wpAny (model prog w) A (subscriptTail value slice (.ref l) (.int k u)) Q E s := by
  have hl := News.isList N hm
  exact tail_any hl.typeIs slot_list_getitem.lookup (wpAny_getItem_list hl h0 hk (by simpa using e) h) hs
theorem len_row {prog : Program} {w : World} {A : Around} {E : Value → Shared → Prop} {s : Shared} {h₀ : Heap} {L l : Addr} {news : List (Addr × Obj)} {vals : List Value} {n : Nat} {Q : Value → Shared → Prop} (N : News h₀ L s.heap news) (hm : (l, W.listOf vals.toArray n) ∈ news) (hz : vals.length ≤ 130)
    (h : Q (.int (vals.length : Int) (s.toks + 1)) { s with toks := s.toks + 1 + 1 }) : wpAny (model prog w) A (call (.builtin "len") [.ref l]) Q E s := by
  have hl := News.isList N hm
  have e : vals.toArray.size = vals.length := List.size_toArray ..
  exact call_len_list hl (by rw [e]; omega) (by rw [e]; exact h)
theorem ne_nil {prog : Program} {w : World} {A : Around} {E : Value → Shared → Prop} {s : Shared} {a : Int} {t u : Tok} {Q : Value → Shared → Prop} (e : a = 0) (h : Q (.bool false) s) : wpAny (model prog w) A (compareOp .NotEq (.int a t) (.int 0 u)) Q E s := by
  refine ne_int ?_
  rw [e]
  exact h
def Hgv (news : List (Addr × Obj)) (l : Addr) (vs : List Value) : Prop := (l, W.listOf vs.toArray vs.length) ∈ news
section
variable {w : World} {mean : ExcName → Option Value} {mg mb : Str → Option Value} {dp un : Nat} {gd : Option (List Code)} {cn : Str} {cs : Scope} {a : Addr} {ccd : Value} {cl : List (Str × Addr)} {outer : List Env} {A₀ : Around} {base h₀ : Heap} {L : Addr} {m : Str → Option Value} {news : List (Addr × Obj)} {s : Shared} {Q E : Value → Shared → Prop}

theorem isinf_t (B : Below A₀ base outer h₀) (F : Fr h₀ L s.heap m) (X : (hd.heap_39 w.params).In h₀) (N : News h₀ L s.heap news) (T : Top hd.view_39 loose mean mg mb h₀) (hk : cs.kind = .function)
    (hu : un + 20 < cLine) (hdp : dp + 12 < recursionLimit) {q : Addr} {p : Int} {P : Int × Int × Int} (hq : PTm news p P q) (hp : Pok p) (hz : P.2.2 = 0)
    (hret : ∀ news' h' tk', Fr h₀ L h' m → News h₀ L h' news' → (∀ e ∈ news, e ∈ news') → Q (.bool true) { s with heap := h', toks := tk' }) :
    wpAny (model prog w) (ktrTop dp un gd cn cs L a ccd cl outer) (call (.ref 28) [.ref q]) Q E s :=
  isinf_spec B F X N T hk hu hdp hq hp fun n h t a b c => by rw [hz]; exact hret n h t a b c
theorem isinf_f (B : Below A₀ base outer h₀) (F : Fr h₀ L s.heap m) (X : (hd.heap_39 w.params).In h₀) (N : News h₀ L s.heap news) (T : Top hd.view_39 loose mean mg mb h₀) (hk : cs.kind = .function)
    (hu : un + 20 < cLine) (hdp : dp + 12 < recursionLimit) {q : Addr} {p : Int} {P : Int × Int × Int} (hq : PTm news p P q) (hp : Pok p) (hz : P.2.2 ≠ 0)
    (hret : ∀ news' h' tk', Fr h₀ L h' m → News h₀ L h' news' → (∀ e ∈ news, e ∈ news') → Q (.bool false) { s with heap := h', toks := tk' }) :
    wpAny (model prog w) (ktrTop dp un gd cn cs L a ccd cl outer) (call (.ref 28) [.ref q]) Q E s :=
  isinf_spec B F X N T hk hu hdp hq hp fun n h t a b c => by rw [show (P.2.2 == 0) = false from beq_false_of_ne hz]; exact hret n h t a b c

theorem point_o (B : Below A₀ base outer h₀) (F : Fr h₀ L s.heap m) (X : (hd.heap_39 w.params).In h₀) (N : News h₀ L s.heap news) (T : Top hd.view_39 loose mean mg mb h₀) (hk : cs.kind = .function)
    (hu : un + 20 < cLine) (hdp : dp + 12 < recursionLimit) {p c n : Int} {tp tc tn : Tok} (hp : Pok p) (hn : 0 ≤ n) (hc : In0 p c)
    (hret : ∀ o v news' h' tk', PtO p c o → VPt news' v o → Fr h₀ L h' m → News h₀ L h' news' → (∀ e ∈ news, e ∈ news') → Q v { s with heap := h', toks := tk' }) :
    wpAny (model prog w) (ktrTop dp un gd cn cs L a ccd cl outer) (call (.ref 239) [.int n tn, .int c tc, .int p tp]) Q E s :=
  point_spec B F X N T hk hu hdp hp hn hc (fun h' tk' F N => hret none .none news h' tk' trivial rfl F N (fun e he => he))
    (fun X Y hon q tX tY h' tk' F N _ => hret (some (X, Y)) (.ref q) _ h' tk' hon ⟨q, rfl, tX, tY, .head _⟩ F N (fun e he => .tail _ he))
theorem newfq_v (B : Below A₀ base outer h₀) (F : Fr h₀ L s.heap m) (X : (hd.heap_39 w.params).In h₀) (N : News h₀ L s.heap news) (T : Top hd.view_39 loose mean mg mb h₀) (hk : cs.kind = .function)
    (hdp : dp + 6 < recursionLimit) {p v : Int} {t tp : Tok} (hp : Pok p) (hret : FqV h₀ L m news s Q p (v % p)) :
    wpAny (model prog w) (ktrTop dp un gd cn cs L a ccd cl outer) (call (.ref 214) [.int v t, .int p tp]) Q E s :=
  newfq_spec B F X N T hk hdp hp fun z dz h1 k1 t1 h2 k2 t2 h' tk' F N _ _ => hret z _ h' tk' F N (fun e he => .tail _ (.tail _ he)) ⟨dz, h1, k1, t1, h2, k2, t2, .head _, .tail _ (.head _), in0_emod v hp⟩
end
local macro_rules | `(tactic| walk_at "call builtin:len") => `(tactic| (k_here; (with_reducible rename Hgv _ _ _ => hgv9); (with_reducible show wpAny _ _ (call (Value.builtin "len") [Value.ref _]) _ _ _); k_dflt (refine' len_row ?kN ?km ?kz ?_; (case kN => with_reducible assumption); (case km => exact List.Mem.head _); (case kz => with_reducible assumption))))
local macro_rules | `(tactic| k_all) => `(tactic| with_reducible assumption)
local macro_rules | `(tactic| walk_at "call ref") => `(tactic| (k_here; (first | (with_reducible show wpAny _ _ (call (Value.ref 214) _) _ _ _) | (with_reducible show wpAny _ _ (call (Value.ref 253) _) _ _ _) | (with_reducible show wpAny _ _ (call (Value.ref 239) _) _ _ _) | (with_reducible show wpAny _ _ (call (Value.ref 49) _) _ _ _) | (with_reducible show wpAny _ _ (call (Value.ref 28) _) _ _ _) | (with_reducible show wpAny _ _ (call (Value.ref 260) _) _ _ _)); refine stop_here ?_))
local macro_rules | `(tactic| walk_at "subscriptTail") => `(tactic| (k_here; (first | (with_reducible show wpAny _ _ (subscriptTail _ _ (Value.ref _) (Value.int (Int.fmod _ _) _)) _ _ _) | ((with_reducible rename Hgv _ _ _ => hgv9); first | (with_reducible show wpAny _ _ (subscriptTail (Expr.Name (Str.ofString "given") _) _ (Value.ref _) (Value.int _ _)) _ _ _))); refine stop_here ?_))
local macro_rules | `(tactic| walk_at "execs cons") => `(tactic| (k_here; (first | (with_reducible show wpAny _ _ (execs (Stmt.Assign [Expr.Name (Str.ofString "prime") _] _ _ :: _) _) _ _ _) | (with_reducible show wpAny _ _ (execs (Stmt.Assign [Expr.Name (Str.ofString "shift") _] _ _ :: _) _) _ _ _) | (with_reducible show wpAny _ _ (execs (Stmt.Assign [Expr.Name (Str.ofString "scale") _] _ _ :: _) _) _ _ _) | (with_reducible show wpAny _ _ (execs (Stmt.Assign [Expr.Name (Str.ofString "number") _] _ _ :: _) _) _ _ _) | (with_reducible show wpAny _ _ (execs (Stmt.If (Expr.Compare (Expr.Name (Str.ofString "point") _) _ _ _) _ _ _ :: _) _) _ _ _)); refine stop_here ?_))
local macro_rules | `(tactic| walk_at "compareOp NotEq int int") => `(tactic| (k_here; (with_reducible show wpAny _ _ (compareOp CmpOp.NotEq (Value.int (Int.fmod (_ * _ - _) _) _) (Value.int 0 _)) _ _ _); k_dflt (refine' ne_nil ?ke ?_; (case ke => with_reducible assumption)); (try dsimp only)))
local macro_rules | `(tactic| walk_at "CutEnd") => `(tactic| (refine stop_here ?_))
local macro_rules | `(tactic| walk_at "KswEnd") => `(tactic| (refine stop_here ?_))
local macro_rules | `(tactic| walk_at "FormEnd") => `(tactic| (refine stop_here ?_))
local macro_rules | `(tactic| walk_at "exec While BoolOp cons nil") => `(tactic| (k_here; (with_reducible show wpAny _ _ (exec (Stmt.While _ _ _ _) _) _ _ _); refine stop_here ?_))

theorem xx : PySem.Challenge.rw_kh0007_01.Holds := by
  refine Mine.hd ?_
  k_go0
  all_goals try k_fold
  k_steps
  refine stop_go ?_
  with_reducible rename IntsAre _ (List.map _ (rangeKs _ _)) => hI9
  have hf9 := five hI9 (by intro k hk; (try dsimp only); split <;> first | exact absIf_nn | omega)
  obtain ⟨g0, t0, g1, t1, g2, t2, g3, t3, g4, t4, hy9, hg0, hg1, hg2, hg3, hg4⟩ := hf9
  subst hy9
  clear hI9
  k_dflt (refine' cut_int PrimeL ?kF ?kN ?h1 ?h2)
  case kF => k_asm
  case kN => k_asm
  case h1 =>
    try k_fold
    k_steps
    · refine stop_go ?_
      k_dflt (refine' item_ints ?kl ?kI ?k0 ?kk ?kf ?kh)
      case kl => is_list
      case kI => l_ints
      case k0 => exact fmod_nn (by decide)
      case kk => exact fmod3_lt2 (by assumption)
      case kf => decide
      case kh =>
        intro i u hi
        exact ⟨_, _, _, _, rfl, rfl, by k_asm, cb_drop (by assumption) (by intro e he; repeat (first | exact he | refine List.mem_cons_of_mem _ ?_)), primeL_great hi⟩
    · refine stop_go ?_
      k_dflt (refine' item_ints ?kl ?kI ?k0 ?kk ?kf ?kh)
      case kl => is_list
      case kI => l_ints
      case k0 => exact fmod_nn (by decide)
      case kk => exact fmod_lt (by decide)
      case kf => decide
      case kh =>
        intro i u hi
        exact ⟨_, _, _, _, rfl, rfl, by k_asm, cb_drop (by assumption) (by intro e he; repeat (first | exact he | refine List.mem_cons_of_mem _ ?_)), primeL_small hi⟩
  case h2 =>
    intro p tp h9 tk9 F9 N9 hPL
    have hp := pok_primeL hPL
    have hp0 := hp.pos
    have hp4 := hp.1
    try k_fold
    k_steps
    refine stop_go ?_
    k_dflt (refine' cut_intE (fun i => 1 ≤ i ∧ i < p) ?kF ?kN ?h1 ?h2)
    case kF => k_asm
    case kN => k_asm
    case h1 =>
      try k_fold
      k_steps
      refine stop_go ?_
      exact cut_end (by k_asm) (by k_asm) ⟨ge1_shift hp, (in0_shift hp).2⟩
    case h2 =>
     intro cc tcc h0 tk0 F0 N0 hccP
     have hc : In0 p cc := ⟨by omega, hccP.2⟩
     try k_fold
     k_steps
     refine stop_go ?_
     k_dflt (refine' point_o ?k1 ?k2 ?k3 ?k4 ?k5 ?kK ?ku ?kd hp ?kn hc ?kret)
     case k1 => k_asm
     case k2 => k_asm
     case k3 => k_asm
     case k4 => k_asm
     case k5 => k_asm
     case kK => exact rfl
     case ku => decide
     case kd => decide
     case kn => exact hg2
     case kret =>
      intro o v n1 h1 tk1 hO hv F1 N1 sub1
      have hgv : Hgv n1 _ [Value.int g0 t0, Value.int g1 t1, Value.int g2 t2, Value.int g3 t3, Value.int g4 t4] := sub1 _ (by k_mem)
      try k_fold
      k_steps
      refine stop_go ?_
      k_dflt (refine' cut_intE (fun i => 1 ≤ i ∧ i < p) ?kF ?kN ?h1 ?h2)
      case kF => k_asm
      case kN => k_asm
      case h1 =>
        try k_fold
        k_steps
        refine stop_go ?_
        with_reducible rename Hgv _ _ _ => hgv
        k_dflt (refine' item_row (v := Value.int g3 t3) ?kN ?km ?k0 ?kk ?ke ?kh)
        case kN => k_asm
        case km => exact hgv
        case k0 => decide
        case kk => decide
        case ke => rfl
        case kh =>
          try k_fold
          k_steps
          refine stop_go ?_
          exact cut_end (by k_asm) (by k_asm) ⟨ge1_shift hp, (in0_shift hp).2⟩
      case h2 =>
        intro sc tsc h9 tk9 F9 N9 hscP
        have hs : In0 p sc := ⟨by omega, hscP.2⟩
        try k_fold
        k_steps
        refine stop_go ?_
        k_dflt (refine' newfq_v ?k1 ?k2 ?k3 ?k4 ?k5 ?kK ?kd hp ?kret)
        case k1 => k_asm
        case k2 => k_asm
        case k3 => k_asm
        case k4 => k_asm
        case k5 => k_asm
        case kK => exact rfl
        case kd => decide
        case kret =>
          intro z2 n2 h2 tk2 F2 N2 sub2 q2
          skip
          try k_fold
          k_steps
          refine stop_go ?_
          k_dflt (refine' newfq_v ?k1 ?k2 ?k3 ?k4 ?k5 ?kK ?kd hp ?kret)
          case k1 => k_asm
          case k2 => k_asm
          case k3 => k_asm
          case k4 => k_asm
          case k5 => k_asm
          case kK => exact rfl
          case kd => decide
          case kret =>
            intro z3 n3 h3 tk3 F3 N3 sub3 q3
            skip
            try k_fold
            k_steps
            refine stop_go ?_
            k_dflt (refine' newfq_v ?k1 ?k2 ?k3 ?k4 ?k5 ?kK ?kd hp ?kret)
            case k1 => k_asm
            case k2 => k_asm
            case k3 => k_asm
            case k4 => k_asm
            case k5 => k_asm
            case kK => exact rfl
            case kd => decide
            case kret =>
              intro z4 n4 h4 tk4 F4 N4 sub4 q4
              skip
              try k_fold
              k_steps
              refine stop_go ?_
              have hv4 := hv.mono (fun e he => sub4 _ (sub3 _ (sub2 _ he)))
              have hgv4 : Hgv n4 _ [Value.int g0 t0, Value.int g1 t1, Value.int g2 t2, Value.int g3 t3, Value.int g4 t4] := sub4 _ (sub3 _ (sub2 _ hgv))
              have hq2 := q2.mono (fun e he => sub4 _ (sub3 _ he))
              have hq3 := q3.mono (fun e he => sub4 _ he)
              clear hv hgv q2 q3 sub2 sub3 sub4
              k_dflt (refine' cut_form p (formO p sc o) ?kF ?kN ?h1 ?h2)
              case kF => k_asm
              case kN => k_asm
              case h1 =>
                cases o with
                | none =>
                  have hv0 : v = .none := hv4
                  subst hv0
                  try k_fold
                  k_steps
                  refine stop_go ?_
                  exact form_end (Fr_self (by k_asm) rfl) (by k_asm) (fun e he => he) ⟨_, _, _, .head _, hq2.mono (fun e he => .tail _ he), hq3.mono (fun e he => .tail _ he), q4.mono (fun e he => .tail _ he)⟩
                | some XY =>
                  obtain ⟨X, Y⟩ := XY
                  obtain ⟨q, hv0, tX, tY, hqm⟩ := hv4
                  subst hv0
                  have hmx := mulOk_in0 hp hO.1 hs
                  have hmy := mulOk_in0 hp hO.2.1 hs
                  try k_fold
                  k_steps
                  refine stop_go ?_
                  k_dflt (refine' newfq_v ?k1 ?k2 ?k3 ?k4 ?k5 ?kK ?kd hp ?kret)
                  case k1 => k_asm
                  case k2 => k_asm
                  case k3 => k_asm
                  case k4 => k_asm
                  case k5 => k_asm
                  case kK => exact rfl
                  case kd => decide
                  case kret =>
                    intro z5 n5 h5 tk5 F5 N5 sub5 q5
                    have hqm5 := sub5 _ (List.mem_cons_of_mem _ hqm)
                    try k_fold
                    k_steps
                    refine stop_go ?_
                    k_dflt (refine' newfq_v ?k1 ?k2 ?k3 ?k4 ?k5 ?kK ?kd hp ?kret)
                    case k1 => k_asm
                    case k2 => k_asm
                    case k3 => k_asm
                    case k4 => k_asm
                    case k5 => k_asm
                    case kK => exact rfl
                    case kd => decide
                    case kret =>
                      intro z6 n6 h6 tk6 F6 N6 sub6 q6
                      skip
                      try k_fold
                      k_steps
                      refine stop_go ?_
                      k_dflt (refine' newfq_v ?k1 ?k2 ?k3 ?k4 ?k5 ?kK ?kd hp ?kret)
                      case k1 => k_asm
                      case k2 => k_asm
                      case k3 => k_asm
                      case k4 => k_asm
                      case k5 => k_asm
                      case kK => exact rfl
                      case kd => decide
                      case kret =>
                        intro z7 n7 h7 tk7 F7 N7 sub7 q7
                        skip
                        try k_fold
                        k_steps
                        refine stop_go ?_
                        exact form_end (by k_asm) (by k_asm) (fun e he => .tail _ (sub7 _ (sub6 _ (sub5 _ he)))) ⟨_, _, _, .head _, q5.mono (fun e he => .tail _ (sub7 _ (sub6 _ he))), q6.mono (fun e he => .tail _ (sub7 _ he)), q7.mono (fun e he => .tail _ he)⟩
              case h2 =>
                intro n5 h5 tk5 qf F5 N5 sub5 hform
                have hv5 := hv4.mono (fun e he => sub5 _ (List.mem_cons_of_mem _ he))
                have hgv : Hgv n5 _ [Value.int g0 t0, Value.int g1 t1, Value.int g2 t2, Value.int g3 t3, Value.int g4 t4] := sub5 _ (List.mem_cons_of_mem _ hgv4)
                clear hv4 hgv4 hq2 hq3 q4 sub5
                try k_fold
                k_steps
                refine stop_go ?_
                rename News _ _ _ _ => lN
                rename Fr _ _ _ _ => lF
                try dsimp only at lF
                k_dflt (refine' row_while (p := p) (o := o) (v := v) lF lN ?kf ?kk ?kq ?turn ?rest)
                case kf =>
                  intro e he
                  exact Nat.ne_of_lt ((by assumption : ∀ p ∈ n5, p.1 < _) e he)
                case kk => exact rfl
                case kq => exact hv5
                case turn =>
                  intro c u hh tk hfc hP F1 N1
                  obtain ⟨k, hk, hvk⟩ := hP
                  obtain ⟨rest1, vals, now, ep⟩ := c
                  cases hs9 : seqO p o (k + 1) with
                  | none =>
                    rw [hs9] at hvk
                    have hv' : now = .none := hvk
                    subst hv'
                    try k_fold
                    k_steps
                    exact row_end ⟨rest1, vals, .none, ep⟩ u hfc ⟨k, hk, .inl ⟨rfl, hs9⟩⟩ (by k_asm) (by k_asm)
                  | some P =>
                    obtain ⟨x, y⟩ := P
                    rw [hs9] at hvk
                    obtain ⟨q9, hv', tx9, ty9, hm9⟩ := hvk
                    have hv2 : now = .ref q9 := hv'
                    subst hv2
                    have hin := in_seqO hPL hO hs9
                    cases o with
                    | none => exact nomatch hs9
                    | some XY =>
                      obtain ⟨X, Y⟩ := XY
                      obtain ⟨q, hv0, tX, tY, hqm⟩ := hv5
                      subst hv0
                      have hX9 := hO.1
                      have hY9 := hO.2.1
                      have hm9' : (q9, tup2 (.int x tx9) (.int y ty9)) ∈ rest1 := hm9
                      have hq1 : (q, tup2 (.int X tX) (.int Y tY)) ∈ rest1 := hfc.2 _ hqm
                      have hne := hfc.1
                      dsimp only at hne
                      have hlen : vals.length = k + 1 := hk.1
                      have hk2 : k + 1 ≤ 130 := hk.2.1
                      have hlen2 : vals.length ≤ 130 := by omega
                      have hsz : vals.toArray.size ≤ sizeLine := by rw [List.size_toArray, hlen]; exact Nat.le_trans hk2 (by decide)
                      try k_fold
                      k_steps
                      · refine stop_go ?_
                        have hlt9 : vals.length < 130 := by
                          with_reducible rename (_ < (130 : Int)) => hno
                          have hno' : ((vals.length : Int) < 130) := hno
                          omega
                        have hs10 : seqO p (some (X, Y)) (k + 1 + 1) = sumL p x y X Y := by
                          show (match seqL p X Y (k + 1) with | none => some (X, Y) | some (a, b) => sumL p a b X Y) = _
                          rw [show seqL p X Y (k + 1) = some (x, y) from hs9]
                        k_dflt (refine' sum_spec ?k1 ?k2 ?k3 ?k4 ?k5 ?kK ?ku ?kd ?kq1 ?kq2 hp hin.1 hin.2 hX9 hY9 ?hnone ?hsome)
                        case k1 => k_asm
                        case k2 => k_asm
                        case k3 => k_asm
                        case k4 => k_asm
                        case k5 => k_asm
                        case kK => exact rfl
                        case ku => decide
                        case kd => decide
                        case kq1 => exact ⟨tx9, ty9, List.mem_cons_of_mem _ hm9'⟩
                        case kq2 => exact ⟨tX, tY, List.mem_cons_of_mem _ hq1⟩
                        case hnone =>
                          intro hz h7 tk7 F7 N7
                          try k_fold
                          k_steps
                          refine stop_go ?_
                          rename News _ _ _ _ => lN
                          rename Fr _ _ _ _ => lF
                          exact row_turn_end hfc hk hlt9 hs9 ⟨tx9, ty9, hm9'⟩ (by rw [hs10, hz]; rfl) (fun e he => he) hne lF lN (fun e he => he)
                        case hsome =>
                          intro X7 Y7 hz q7 tX7 tY7 h7 tk7 F7 N7 l7
                          have hq7 := l7 _ (.head _)
                          try k_fold
                          k_steps
                          refine stop_go ?_
                          rename News _ _ _ _ => lN
                          rename Fr _ _ _ _ => lF
                          refine row_turn_end (rest' := (q7, tup2 (.int X7 tX7) (.int Y7 tY7)) :: rest1) hfc hk hlt9 hs9 ⟨tx9, ty9, hm9'⟩ (by rw [hs10, hz]; exact ⟨q7, rfl, tX7, tY7, .head _⟩) (fun e he => .tail _ he) ?_ lF lN ?_
                          · intro e he
                            rcases List.mem_cons.mp he with rfl | he
                            · exact (Nat.ne_of_lt hq7).symm
                            · exact hne e he
                          · intro e he
                            rcases List.mem_cons.mp he with rfl | he
                            · exact .tail _ (.head _)
                            · rcases List.mem_cons.mp he with rfl | he
                              · exact .head _
                              · exact .tail _ (.tail _ he)
                      · with_reducible rename ¬ (_ < (130 : Int)) => hno
                        have hno' : ¬ ((vals.length : Int) < 130) := hno
                        exact row_end ⟨rest1, vals, .ref q9, ep⟩ u hfc ⟨k, hk, .inr ⟨⟨q9, rfl⟩, by omega⟩⟩ (by k_asm) (by k_asm)
                case rest =>
                  intro c u hh tk hfc hRX F1 N1
                  obtain ⟨rest1, vals, now, ep⟩ := c
                  obtain ⟨k, hk, hnow⟩ := hRX
                  have hlen : vals.length = k + 1 := hk.1
                  have hk2 : k + 1 ≤ 130 := hk.2.1
                  have hlen2 : vals.length ≤ 130 := by omega
                  have hform1 : PTm rest1 p (formO p sc o) qf := hform.mono hfc.2
                  have hgv : Hgv rest1 _ [Value.int g0 t0, Value.int g1 t1, Value.int g2 t2, Value.int g3 t3, Value.int g4 t4] := hfc.2 _ hgv
                  clear hform hv5
                  try k_fold
                  k_steps
                  refine stop_go ?_
                  have e14 : (2 : Int) ^ Int.toNat 14 = 16384 := by decide
                  have hn0 : 0 ≤ Int.fmod g4 (2 ^ Int.toNat 14) := fmod_nn (by decide)
                  have hn1 : Int.fmod g4 (2 ^ Int.toNat 14) < 16384 := by rw [e14]; exact fmod_lt (by decide)
                  have hn2 : 0 ≤ Int.fmod g4 129 := fmod_nn (by decide)
                  have hn3 : Int.fmod g4 129 < 129 := fmod_lt (by decide)
                  have hn4 : Int.fmod g4 129 < 16384 := by omega
                  k_dflt (refine' cut_intE (fun i => 0 ≤ i ∧ i < 16384 ∧ ∃ v, vals[(Int.fmod i (vals.length : Int)).toNat]? = some v ∧ VPt rest1 v (seqO p o i.toNat)) ?kF ?kN ?h1 ?h2)
                  case kF => k_asm
                  case kN => k_asm
                  case h1 =>
                    obtain ⟨hnow, hsq⟩ | ⟨⟨q9, hnow⟩, hk130⟩ := hnow
                    · have hnow' : now = .none := hnow
                      subst hnow'
                      have hd9 := row_due hPL hO hn0 hk (.inl hsq)
                      try k_fold
                      k_steps
                      refine stop_go ?_
                      with_reducible rename Hgv _ _ _ => hgv
                      k_dflt (refine' item_row (v := Value.int g4 t4) ?kN ?km ?k0 ?kk ?ke ?kh)
                      case kN => k_asm
                      case km => exact List.mem_cons_of_mem _ hgv
                      case k0 => decide
                      case kk => decide
                      case ke => rfl
                      case kh =>
                        try k_fold
                        k_steps
                        refine stop_go ?_
                        exact cut_end (by k_asm) (by k_asm) ⟨hn0, hn1, hd9⟩
                    · have hnow' : now = .ref q9 := hnow
                      subst hnow'
                      have hd9 := row_due hPL hO hn2 hk (.inr ⟨hk130, hn3⟩)
                      try k_fold
                      k_steps
                      refine stop_go ?_
                      with_reducible rename Hgv _ _ _ => hgv
                      k_dflt (refine' item_row (v := Value.int g4 t4) ?kN ?km ?k0 ?kk ?ke ?kh)
                      case kN => k_asm
                      case km => exact List.mem_cons_of_mem _ hgv
                      case k0 => decide
                      case kk => decide
                      case ke => rfl
                      case kh =>
                        try k_fold
                        k_steps
                        refine stop_go ?_
                        exact cut_end (by k_asm) (by k_asm) ⟨hn2, hn4, hd9⟩
                  case h2 =>
                    clear e14 hn0 hn1 hn2 hn3 hn4 hnow
                    intro i ti h9 tk9 F9 N9 hPi
                    obtain ⟨hi0, hi1, vd, hvd, hvp⟩ := hPi
                    have hlen3 : 0 < (vals.length : Int) := by omega
                    have hfl : Int.fmod i (vals.length : Int) < 2 ^ 63 := by
                      have := fmod_lt (a := i) hlen3
                      omega
                    try k_fold
                    k_steps
                    refine stop_go ?_
                    k_dflt (refine' item_row (v := vd) ?kN ?km ?k0 ?kk ?ke ?kh)
                    case kN => k_asm
                    case km => exact List.Mem.head _
                    case k0 => exact fmod_nn hlen3
                    case kk => exact hfl
                    case ke => exact hvd
                    case kh =>
                      clear hgv hfl
                      have e7 := pt_okO hPL hccP hscP hi0 hi1 hO
                      cases hsq : seqO p o i.toNat with
                      | none =>
                        rw [hsq] at hvp e7
                        have hv0 : vd = .none := hvp
                        subst hv0
                        try k_fold
                        k_steps
                        refine stop_go ?_
                        k_dflt (refine' mul_use (P := formO p sc o) (mul_at 13) ?k1 ?k2 ?k3 ?k4 ?k5 ?kK ?ku ?kd ?kq hp ?ka ?kb ?kret)
                        case k1 => k_asm
                        case k2 => k_asm
                        case k3 => k_asm
                        case k4 => k_asm
                        case k5 => k_asm
                        case kK => exact rfl
                        case ku => decide
                        case kd => decide
                        case kq => exact hform1.mono (fun e he => List.mem_cons_of_mem _ he)
                        case ka => exact hi0
                        case kb => exact hi1
                        case kret =>
                          intro q7 n7 h7 tk7 F7 N7 sub7 hq7
                          try k_fold
                          k_steps
                          refine stop_go ?_
                          k_dflt (refine' isinf_t ?k1 ?k2 ?k3 ?k4 ?k5 ?kK ?ku ?kd hq7 hp e7 ?kret)
                          case k1 => k_asm
                          case k2 => k_asm
                          case k3 => k_asm
                          case k4 => k_asm
                          case k5 => k_asm
                          case kK => exact rfl
                          case ku => decide
                          case kd => decide
                          case kret =>
                            intro n6 h6 tk6 F6 N6 sub6
                            clear e7 hq7
                            try k_fold
                            k_steps
                            refine stop_go ?_
                            have h60 : p ≤ 60 := by omega
                            have hcn := cnt_all hPL h60 hccP
                            k_dflt (refine' pts_spec ?k1 ?k2 ?k3 ?k4 ?k5 ?kK ?ku ?kd hp h60 hc ?kret)
                            case k1 => k_asm
                            case k2 => k_asm
                            case k3 => k_asm
                            case k4 => k_asm
                            case k5 => k_asm
                            case kK => exact rfl
                            case ku => decide
                            case kd => decide
                            case kret =>
                              intro t5 h5 tk5 F5 N5
                              try k_fold
                              k_steps
                              refine stop_go ?_
                              k_dflt (refine' mul_use (P := formO p sc o) (mul_at 13) ?k1 ?k2 ?k3 ?k4 ?k5 ?kK ?ku ?kd ?kq hp ?ka ?kb ?kret)
                              case k1 => k_asm
                              case k2 => k_asm
                              case k3 => k_asm
                              case k4 => k_asm
                              case k5 => k_asm
                              case kK => exact rfl
                              case ku => decide
                              case kd => decide
                              case kq => exact hform1.mono (fun e he => sub6 _ (sub7 _ (List.mem_cons_of_mem _ he)))
                              case ka => exact hcn.1
                              case kb => exact hcn.2
                              case kret =>
                                intro q3 n3 h3 tk3 F3 N3 sub3 hq3
                                have e3 := pt_smallO hPL h60 hccP hscP hO
                                try k_fold
                                k_steps
                                refine stop_go ?_
                                k_dflt (refine' isinf_t ?k1 ?k2 ?k3 ?k4 ?k5 ?kK ?ku ?kd hq3 hp e3 ?kret)
                                case k1 => k_asm
                                case k2 => k_asm
                                case k3 => k_asm
                                case k4 => k_asm
                                case k5 => k_asm
                                case kK => exact rfl
                                case ku => decide
                                case kd => decide
                                case kret =>
                                  intro n2 h2 tk2 F2 N2 sub2
                                  try k_fold
                                  k_steps

                      | some ab =>
                        obtain ⟨a, b⟩ := ab
                        rw [hsq] at hvp e7
                        have hab := in_seqO hPL hO hsq
                        obtain ⟨qd, hvd0, ta, tb, hdm⟩ := hvp
                        have hv0 : vd = .ref qd := hvd0
                        subst hv0
                        try k_fold
                        k_steps
                        refine stop_go ?_
                        k_dflt (refine' mul_use (P := formO p sc o) (mul_at 13) ?k1 ?k2 ?k3 ?k4 ?k5 ?kK ?ku ?kd ?kq hp ?ka ?kb ?kret)
                        case k1 => k_asm
                        case k2 => k_asm
                        case k3 => k_asm
                        case k4 => k_asm
                        case k5 => k_asm
                        case kK => exact rfl
                        case ku => decide
                        case kd => decide
                        case kq => exact hform1.mono (fun e he => List.mem_cons_of_mem _ he)
                        case ka => exact hi0
                        case kb => exact hi1
                        case kret =>
                          intro q7 n7 h7 tk7 F7 N7 sub7 hq7
                          have e8 : _ ∧ _ ∧ _ := e7
                          clear e7
                          generalize mulF p 13 (formO p sc o) i = P7 at hq7 e8
                          obtain ⟨xf, yf, zf⟩ := P7
                          obtain ⟨e7a, e7b, e7c⟩ := e8
                          have hz7 : zf ≠ 0 := e7a
                          have f1 : Int.fmod (a * zf - xf) p = 0 := by rw [fmod_pos hp0]; exact e7b
                          have f2 : Int.fmod (b * zf - yf) p = 0 := by rw [fmod_pos hp0]; exact e7c
                          try k_fold
                          k_steps
                          refine stop_go ?_
                          k_dflt (refine' isinf_f ?k1 ?k2 ?k3 ?k4 ?k5 ?kK ?ku ?kd hq7 hp hz7 ?kret)
                          case k1 => k_asm
                          case k2 => k_asm
                          case k3 => k_asm
                          case k4 => k_asm
                          case k5 => k_asm
                          case kK => exact rfl
                          case ku => decide
                          case kd => decide
                          case kret =>
                            intro n6 h6 tk6 F6 N6 sub6
                            obtain ⟨xa, ya, za, hqa, ⟨dxa, ha1, ka1, ta1, ha2, ka2, ta2, hxa, hdxa, hia⟩, ⟨dya, hb1, kb1, tb1, hb2, kb2, tb2, hya, hdya, hib⟩, ⟨dza, hc11, kc1, tc1, hc12, kc2, tc2, hza, hdza, hic⟩⟩ := hq7.mono sub6
                            have hdm6 : (qd, tup2 (.int a ta) (.int b tb)) ∈ n6 := sub6 _ (sub7 _ (List.mem_cons_of_mem _ hdm))
                            have hm1 := mulOk_in0 hp hab.1 hic
                            have hm2 := mulOk_in0 hp hab.2 hic
                            clear e7a e7b e7c hq7
                            try k_fold
                            k_steps
                            clear f1 f2 hm1 hm2
                            refine stop_go ?_
                            have h60 : p ≤ 60 := by omega
                            have hcn := cnt_all hPL h60 hccP
                            k_dflt (refine' pts_spec ?k1 ?k2 ?k3 ?k4 ?k5 ?kK ?ku ?kd hp h60 hc ?kret)
                            case k1 => k_asm
                            case k2 => k_asm
                            case k3 => k_asm
                            case k4 => k_asm
                            case k5 => k_asm
                            case kK => exact rfl
                            case ku => decide
                            case kd => decide
                            case kret =>
                              intro t5 h5 tk5 F5 N5
                              try k_fold
                              k_steps
                              refine stop_go ?_
                              k_dflt (refine' mul_use (P := formO p sc o) (mul_at 13) ?k1 ?k2 ?k3 ?k4 ?k5 ?kK ?ku ?kd ?kq hp ?ka ?kb ?kret)
                              case k1 => k_asm
                              case k2 => k_asm
                              case k3 => k_asm
                              case k4 => k_asm
                              case k5 => k_asm
                              case kK => exact rfl
                              case ku => decide
                              case kd => decide
                              case kq => exact hform1.mono (fun e he => List.mem_cons_of_mem _ (sub6 _ (sub7 _ (List.mem_cons_of_mem _ he))))
                              case ka => exact hcn.1
                              case kb => exact hcn.2
                              case kret =>
                                intro q3 n3 h3 tk3 F3 N3 sub3 hq3
                                have e3 := pt_smallO hPL h60 hccP hscP hO
                                try k_fold
                                k_steps
                                refine stop_go ?_
                                k_dflt (refine' isinf_t ?k1 ?k2 ?k3 ?k4 ?k5 ?kK ?ku ?kd hq3 hp e3 ?kret)
                                case k1 => k_asm
                                case k2 => k_asm
                                case k3 => k_asm
                                case k4 => k_asm
                                case k5 => k_asm
                                case kK => exact rfl
                                case ku => decide
                                case kd => decide
                                case kret =>
                                  intro n2 h2 tk2 F2 N2 sub2
                                  try k_fold
                                  k_steps

end Mine

end
set_option maxHeartbeats 4000000 in
theorem PySem.Challenge.cw_kh0007_01_holds : PySem.Challenge.rw_kh0007_01.Holds := by
  exact Mine.xx
