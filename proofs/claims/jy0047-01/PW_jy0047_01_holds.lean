import PyProof.Rows.All
import Wide.All
import OpenK.AllK
import Wide.FinOn
import Lean
import PySem.Challenge.RW_jy0047_01
/-! The law of unbiased_randrange: the walks of its functions, each once; the plain laws; the two loops; the whole. -/
open PySem PySem.W PyProof.Rows
set_option Elab.async false
set_option rowWalk.seconds 0
namespace Mine
set_option maxRecDepth 100000 in
set_option maxHeartbeats 8000000 in
open_top hd for PySem.Challenge.rw_jy0047_01
section JA
abbrev theProg : Program := PySem.Challenge.rw_jy0047_01.row.prog
def bitsN (v : Int) : Nat := Builtin.Int.intBits v
def sizeBits (v : Int) : Int := if (Builtin.Int.intBits v : Int) ≠ 0 then (Builtin.Int.intBits v : Int) else 1
def sizeBytes (v : Int) : Int := (sizeBits v + 7).fdiv 8
section
variable {w : World} {p : Program} {loose : List Str} {mean : ExcName → Option Value} {mg mb : Str → Option Value}
  {dp un : Nat} {gd : Option (List Code)} {cn : Str} {cs : Scope} {a : Addr} {ccd : Value} {cl : List (Str × Addr)} {outer : List Env} {A₀ : Around} {base h₀ : Heap} {L : Addr} {m : Str → Option Value} {s : Shared} {Q E : Value → Shared → Prop} {news : List (Addr × Obj)}
set_option maxRecDepth 100000 in
set_option maxHeartbeats 8000000 in
theorem size_bits_ok {v : Int} {t : Tok} (B : Below A₀ base outer h₀) (F : Fr h₀ L s.heap m) (X : (hd.heap_39 w.params).In h₀) (N : News h₀ L s.heap news) (T : Top p loose mean mg mb h₀) (hk : cs.kind = .function)
    (hdp : dp + 1 < recursionLimit) (hun : un + 8 < cLine) (hret : CbRet h₀ L m news s Q (fun t => .int (sizeBits v) t)) :
    wpAny (model PySem.Challenge.rw_jy0047_01.row.prog w) (ktrTop dp un gd cn cs L a ccd cl outer) (call (.ref 21) [.int v t]) Q E s := by
  have fill : (fun (_ : OpenLaw) (_ : Params → Frag) => wpAny (model PySem.Challenge.rw_jy0047_01.row.prog w) (ktrTop dp un gd cn cs L a ccd cl outer) (call (.ref 21) [.int v t]) Q E s) PySem.Challenge.rw_jy0047_01 hd.heap_39 := by
    w_top off
    k_fill
    dsimp only [CbRet] at hret
    refine wpAny_call ?_
    k_dflt cell_enter
    k_steps
    · refine cb_retI hret ?_ (by k_asm) (by k_asm)
      rename_i h0 _ _ _ _
      rw [sizeBits, if_pos h0]
    · refine cb_retI hret ?_ (by k_asm) (by k_asm)
      rename_i h0 _ _ _ _
      rw [sizeBits, if_neg (by omega)]
  exact fill

local macro_rules | `(tactic| walk_at "call ref") => `(tactic| (
  k_here
  (with_reducible show wpAny _ _ (call (Value.ref 21) _) _ _ _)
  k_dflt (refine' size_bits_ok ?j1 ?j2 ?j3 ?j4 ?j5 ?j6 ?j7 ?j8 ?_; (case j1 => k_asm); (case j2 => k_asm); (case j3 => k_asm); (case j4 => k_asm); (case j5 => k_asm); (case j6 => first | exact rfl | assumption); (case j7 => ktr_room); (case j8 => ktr_units))
  intro t9 h9 tk9 F9 N9
  (try dsimp only)
  (try k_sweep)
  (try k_fold)))

set_option maxRecDepth 100000 in
set_option maxHeartbeats 8000000 in
theorem size_bytes_ok {v : Int} {t : Tok} (B : Below A₀ base outer h₀) (F : Fr h₀ L s.heap m) (X : (hd.heap_39 w.params).In h₀) (N : News h₀ L s.heap news) (T : Top p loose mean mg mb h₀) (hk : cs.kind = .function)
    (hdp : dp + 2 < recursionLimit) (hun : un + 16 < cLine) (hret : CbRet h₀ L m news s Q (fun t => .int (sizeBytes v) t)) :
    wpAny (model PySem.Challenge.rw_jy0047_01.row.prog w) (ktrTop dp un gd cn cs L a ccd cl outer) (call (.ref 28) [.int v t]) Q E s := by
  have fill : (fun (_ : OpenLaw) (_ : Params → Frag) => wpAny (model PySem.Challenge.rw_jy0047_01.row.prog w) (ktrTop dp un gd cn cs L a ccd cl outer) (call (.ref 28) [.int v t]) Q E s) PySem.Challenge.rw_jy0047_01 hd.heap_39 := by
    k_fill
    dsimp only [CbRet] at hret
    refine wpAny_call ?_
    k_dflt cell_enter
    k_steps
    all_goals exact cb_retI hret rfl (by k_asm) (by k_asm)
  exact fill
end
end JA
section JB
def maskTop (v : Int) : Int := if (sizeBits v).fmod 8 ≠ 0 then 2 ^ ((sizeBits v).fmod 8).toNat - 1 else 255
theorem pow2_small (r : Int) (h8 : r < 8) : 1 ≤ (2 : Int) ^ r.toNat ∧ (2 : Int) ^ r.toNat ≤ 128 := by
  have h : r.toNat < 8 := by omega
  generalize r.toNat = n at h
  match n, h with
  | 0, _ | 1, _ | 2, _ | 3, _ | 4, _ | 5, _ | 6, _ | 7, _ => exact ⟨by decide, by decide⟩
theorem top_in (v : Int) : 1 ≤ (2 : Int) ^ ((sizeBits v).fmod 8).toNat ∧ (2 : Int) ^ ((sizeBits v).fmod 8).toNat ≤ 128 :=
  pow2_small _ (Int.fmod_lt_of_pos _ (by decide))
abbrev tupObj (vs : List Value) : Obj := { cls := .type "tuple", data := .seq vs.toArray }
section
variable {w : World} {p : Program} {loose : List Str} {mean : ExcName → Option Value} {mg mb : Str → Option Value}
  {dp un : Nat} {gd : Option (List Code)} {cn : Str} {cs : Scope} {a : Addr} {ccd : Value} {cl : List (Str × Addr)} {outer : List Env} {A₀ : Around} {base h₀ : Heap} {L : Addr} {m : Str → Option Value} {s : Shared} {Q E : Value → Shared → Prop} {news : List (Addr × Obj)}
local macro_rules | `(tactic| walk_at "call ref") => `(tactic| (
  k_here
  (with_reducible show wpAny _ _ (call (Value.ref 21) _) _ _ _)
  k_dflt (refine' size_bits_ok ?j1 ?j2 ?j3 ?j4 ?j5 ?j6 ?j7 ?j8 ?_; (case j1 => k_asm); (case j2 => k_asm); (case j3 => k_asm); (case j4 => k_asm); (case j5 => k_asm); (case j6 => first | exact rfl | assumption); (case j7 => ktr_room); (case j8 => ktr_units))
  intro t9 h9 tk9 F9 N9
  (try dsimp only)
  (try k_sweep)
  (try k_fold)))
local macro_rules | `(tactic| walk_at "call ref") => `(tactic| (
  k_here
  (with_reducible show wpAny _ _ (call (Value.ref 28) _) _ _ _)
  k_dflt (refine' size_bytes_ok ?j1 ?j2 ?j3 ?j4 ?j5 ?j6 ?j7 ?j8 ?_; (case j1 => k_asm); (case j2 => k_asm); (case j3 => k_asm); (case j4 => k_asm); (case j5 => k_asm); (case j6 => first | exact rfl | assumption); (case j7 => ktr_room); (case j8 => ktr_units))
  intro t9 h9 tk9 F9 N9
  (try dsimp only)
  (try k_sweep)
  (try k_fold)))

set_option maxRecDepth 100000 in
set_option maxHeartbeats 8000000 in
theorem generate_mask_ok {v : Int} {t : Tok} (B : Below A₀ base outer h₀) (F : Fr h₀ L s.heap m) (X : (hd.heap_39 w.params).In h₀) (N : News h₀ L s.heap news) (T : Top p loose mean mg mb h₀) (hk : cs.kind = .function)
    (hdp : dp + 3 < recursionLimit) (hun : un + 24 < cLine)
    (hret : ∀ x t1 t2 h' tk, Fr h₀ L h' m → News h₀ L h' ((x, tupObj [.int (maskTop v) t1, .int (sizeBytes v) t2]) :: news) → (∀ q ∈ news, q.1 < x) → Q (.ref x) { s with heap := h', toks := tk }) :
    wpAny (model PySem.Challenge.rw_jy0047_01.row.prog w) (ktrTop dp un gd cn cs L a ccd cl outer) (call (.ref 49) [.int v t]) Q E s := by
  have fill : (fun (_ : OpenLaw) (_ : Params → Frag) => wpAny (model PySem.Challenge.rw_jy0047_01.row.prog w) (ktrTop dp un gd cn cs L a ccd cl outer) (call (.ref 49) [.int v t]) Q E s) PySem.Challenge.rw_jy0047_01 hd.heap_39 := by
    w_top off
    k_fill
    refine wpAny_call ?_
    k_dflt cell_enter
    k_steps
    all_goals (have hp := top_in v)
    · rw [show maskTop v = 1 * 2 ^ ((sizeBits v).fmod 8).toNat - 1 by rw [maskTop, if_pos (by assumption), Int.one_mul]] at hret
      exact hret _ _ _ _ _ (by k_asm) (by k_asm) (by assumption)
    · exfalso; omega
    · exfalso; omega
    · rw [show maskTop v = 255 by rw [maskTop, if_neg (by omega)]] at hret
      exact hret _ _ _ _ _ (by k_asm) (by k_asm) (by assumption)
  exact fill
end
end JB
section JC
set_option maxRecDepth 100000
open PySem.Calls PySem.Builtin.Int

/-! octets of a number, big end first -/
def bigArr (k : Nat) (x : Int) : Array UInt8 := (KTBy.low x k).reverse.toArray
theorem bigArr_size (k : Nat) (x : Int) : (bigArr k x).size = k := by
  unfold bigArr
  rw [List.size_toArray, List.length_reverse, KTBy.low_length]
theorem bigArr_ints {k : Nat} {x : Int} (h0 : 0 ≤ x) (h1 : x < 256 ^ k) : KBw.bInts (bigArr k x) = (KTBy.little k x).reverse := by
  show (List.map (fun c : UInt8 => ((c.toNat : Nat) : Int)) (List.reverse (KTBy.low x k))) = _
  rw [List.map_reverse, KTBy.low_ints h0 h1, ← KTBy.little_eq]

section
variable {prog : Program} {w : World} {M : Model} {A : Around} {E : Value → Shared → Prop} {s : Shared}
theorem to_big {k : Nat} {x z : Int} {t u v : Tok} {Q : Value → Shared → Prop} (hz : z = (k : Int)) (hk : k ≤ 1000) (h0 : 0 ≤ x) (h1 : x < 256 ^ k) (h : ∀ t' k', Q (.bytes (bigArr k x) t') { s with toks := k' }) :
    wpAny (model prog w) A (call (.builtin "int.to_bytes") [.int x t, .int z u, .str (PySem.Str.ofString "big") v]) Q E s := by
  subst hz
  refine wpAny_call_entry KTBy.slot (typeIs_int s x t) KTBy.entry ?_ (KTBy.args _ _ _)
  have hb := KTBy.bits_le (k := k) rfl h0 h1
  show wpAny _ _ (Builtin.Int.intOfSelf (.int x t) >>= fun y => _) _ _ s
  refine wpAny_bind (wpAny_of_eq (a := x) rfl ?_)
  show wpAny _ _ (Builtin.Int.intBindNamed "to_bytes" ["length", "byteorder", "signed"] 0 2 [.int (k : Int) u, .str (PySem.Str.ofString "big") v] [] >>= fun l => _) _ _ s
  refine wpAny_bind (wpAny_of_eq (a := [some (.int (k : Int) u), some (.str (PySem.Str.ofString "big") v), none]) (by kernel_rfl) ?_)
  show wpAny _ _ (Builtin.Int.intIndex "int.to_bytes" (.int (k : Int) u) >>= fun n => _) _ _ s
  refine wpAny_bind (wpAny_of_eq (a := (k : Int)) rfl ?_)
  refine KTBy.if_not (by show (decide ((k : Int) < -(2 ^ 63 : Int)) || decide ((k : Int) ≥ 2 ^ 63)) = false; rw [decide_eq_false (show ¬ ((k : Int) < -(2 ^ 63 : Int)) by omega), decide_eq_false (show ¬ ((k : Int) ≥ 2 ^ 63) by omega)]; rfl) ?_
  refine wpAny_bind (wpAny_of_eq (a := PySem.Str.ofString "big") (by kernel_rfl) ?_)
  refine wpAny_bind (wpAny_of_eq (a := false) rfl ?_)
  refine wpAny_bind (wpAny_of_eq (a := false) (by kernel_rfl) ?_)
  refine wpAny_ite_false (decide_eq_false (show ¬ ((k : Int) < 0) by omega)) ?_
  refine wpAny_ite_false (decide_eq_false (show ¬ ((k : Int) > 2 ^ 63 - 1 - 33) by omega)) ?_
  refine wpAny_ite_false (decide_eq_false (show ¬ ((k : Int) > (sizeLine : Int)) by rw [sizeLine_eq]; omega)) ?_
  refine KTBy.if_not (by show (decide (x < 0) && !false) = false; rw [decide_eq_false (show ¬ x < 0 by omega)]; rfl) ?_
  refine KTBy.if_not (by show (_ && decide ((intBits x : Int) > 8 * (k : Int))) = false; rw [decide_eq_false (show ¬ ((intBits x : Int) > 8 * (k : Int)) by omega), Bool.and_false]) ?_
  exact wpAny_bind (wpAny_mkBytes (wpAny_pure ⟨_, rfl, h _ _⟩) (by show (List.reverse (KTBy.low x (Int.toNat (k : Int)))).length ≤ sizeLine; rw [List.length_reverse, KTBy.low_length, Int.toNat_natCast, sizeLine_eq]; omega))

theorem to_bigZ {x z : Int} {t u v : Tok} {Q : Value → Shared → Prop} (hz0 : 0 ≤ z) (hz1 : z ≤ 1000) (h0 : 0 ≤ x) (h1 : x < 256 ^ z.toNat) (h : ∀ t' k', Q (.bytes (bigArr z.toNat x) t') { s with toks := k' }) :
    wpAny (model prog w) A (call (.builtin "int.to_bytes") [.int x t, .int z u, .str (PySem.Str.ofString "big") v]) Q E s :=
  to_big (k := z.toNat) (by omega) (by omega) h0 h1 h
theorem grown {n e : Nat} {Q : Value → Shared → Prop} (he : e ≤ 100000) (hn : n < 2 ^ e) (h : Q (.int (n : Int) s.toks) { s with toks := s.toks + 1 }) : wpAny M A (mkIntGrown (n : Int)) Q E s := by
  unfold mkIntGrown
  have hl : ¬ ((n : Int).natAbs.log2 ≥ bitsLine) := by
    rw [Int.natAbs_natCast]
    have hb : bitsLine = 134217728 := by first | rfl | decide
    by_cases hz : n = 0
    · subst hz
      rw [hb]
      decide
    · have h1 := (Nat.log2_lt hz).mpr hn
      omega
  rw [if_neg hl]
  exact wpAny_mkInt h
theorem tree_big {b : Array UInt8} {t u : Tok} {P : Fin → Shared → Prop} (hl : b.size ≤ 1000) (h : P (.done (.ret (.int (KFB.value (KBw.bInts b)) s.toks))) { s with toks := s.toks + 1 }) :
    wpAny M A (Builtin.«int.from_bytes» ⟨[.type "int", .bytes b t, .str (PySem.Str.ofString "big") u], []⟩) P E s := by
  have hv : ((b.toList.foldl (fun (acc : Nat) (b : UInt8) => acc * 256 + b.toNat) 0 : Nat) : Int) = KFB.value (KBw.bInts b) := KFB.fold_cast b.toList 0
  have hn : b.toList.foldl (fun (acc : Nat) (b : UInt8) => acc * 256 + b.toNat) 0 < 2 ^ (8 * b.size) := by
    have h1 := KFB.fold_lt b.toList 0
    rw [Nat.zero_add, Nat.one_mul, Array.length_toList] at h1
    rw [Nat.pow_mul]
    exact h1
  unfold Builtin.«int.from_bytes»
  refine wpAny_bind (wpAny_of_eq (a := true) KFB.type_int ?_)
  refine KFB.if_not rfl ?_
  refine wpAny_bind (wpAny_of_eq (a := true) F.conv_sub_int ?_)
  refine KFB.if_not rfl ?_
  refine wpAny_bind (wpAny_of_eq (a := [some (.bytes b t), some (.str (PySem.Str.ofString "big") u), none]) (by kernel_rfl) ?_)
  refine wpAny_bind (wpAny_of_eq (a := PySem.Str.ofString "big") (by kernel_rfl) ?_)
  refine wpAny_bind (wpAny_of_eq (a := false) rfl ?_)
  refine wpAny_bind (wpAny_of_eq (a := false) (by kernel_rfl) ?_)
  refine wpAny_bind (wpAny_of_eq (a := b) rfl ?_)
  show wpAny _ _ (mkIntGrown (b.toList.foldl (fun (acc : Int) (b : UInt8) => acc * 256 + (b.toNat : Int)) ((0 : Nat) : Int)) >>= fun v => _) _ _ _
  rw [KFB.foldI_eq]
  refine wpAny_bind (grown (by omega) hn ?_)
  rw [hv]
  refine KFB.if_so (by decide +kernel) ?_
  exact wpAny_bind (wpAny_pure (wpAny_pure h))
theorem from_big {x L : Addr} {h₀ : Heap} {news : List (Addr × Obj)} {b : Array UInt8} {t u : Tok} {Q : Value → Shared → Prop} (N : News h₀ L s.heap news) (hm : (x, KFB.bound) ∈ news) (hl : b.size ≤ 1000)
    (h : ∀ t' k, Q (.int (KFB.value (KBw.bInts b)) t') { s with toks := k }) : wpAny (model prog w) A (call (.ref x) [.bytes b t, .str (PySem.Str.ofString "big") u]) Q E s :=
  KFB.call_of (KFB.at_of N hm) (fun z => tree_big hl z) (h _ _)

theorem from_big2 {x L : Addr} {h₀ : Heap} {news : List (Addr × Obj)} {b : Array UInt8} {ks : List Int} {t u : Tok} {Q : Value → Shared → Prop} (N : News h₀ L s.heap news) (hm : (x, KFB.bound) ∈ news) (hb : KBw.bInts b = ks) (hl : ks.length ≤ 1000)
    (h : ∀ t' k, Q (.int (KFB.value ks) t') { s with toks := k }) : wpAny (model prog w) A (call (.ref x) [.bytes b t, .str (PySem.Str.ofString "big") u]) Q E s := by
  subst hb
  exact from_big N hm (by rw [← KBw.ints_length]; exact hl) h
theorem allLt_to {d : Addr} : ∀ {l : List (Addr × Obj)}, AllLt d l → ∀ p ∈ l, p.1 < d
  | [], _, _, hp => nomatch hp
  | q :: r, h, p, hp => by
    rcases List.mem_cons.mp hp with rfl | hp
    · exact h.1
    · exact allLt_to h.2 p hp

theorem bytes_len : typeLookup (.type "bytes") "__len__" = pure (some (.builtin "bytes.__len__")) := by rw [typeLookup_type, builtinLookup_eq_fast]; kernel_rfl
abbrev OctetAt (b : Array UInt8) (i : Nat) (v : Value) : Prop := ∃ c u, b[i]? = some c ∧ v = .int (c.toNat : Int) u

theorem extend_bytes {R : Result → Shared → Prop} (hh : A.handled = none) (b : Array UInt8) (t : Tok) (S : Addr) (res : Value) (c₀ : Nat) (hS : s.heap.get? S = some { cls := .type "list", data := .seq #[] c₀ })
    (hR : ∀ h' tk acc' c', (∀ b o, b ≠ S → s.heap.get? b = some o → h'.get? b = some o) → h'.get? S = some { cls := .type "list", dict := none, data := .seq acc' c', slots := #[] } →
      ItemsOf (OctetAt b) acc' b.size → R (.ok (.ret res)) { s with heap := h', toks := tk }) (hn : b.size ≤ sizeLine) :
    wpAny (model prog w) A.in1 (Builtin.List.listExtendWith (.ref S) (.bytes b t) res)
      (fun fin s' => match fin with | .done f => R (.ok f) s' | .again c' => c'.quiet = true ∧ codeAny (model prog w) A c' R s') (fun e s' => R (.error e) s') s := by
  have hSI : S ≠ s.heap.objs.size := Nat.ne_of_lt (Heap.lt_size hS)
  have hSf : S ∉ [s.heap.objs.size] := fun hm => hSI (List.mem_singleton.mp hm)
  unfold Builtin.List.listExtendWith
  refine wpAny_bind (wpAny_typeOf (T := "bytes") (v := .bytes b t) rfl ?_)
  have h1 : Builtin.List.listSameRef (.ref S) (.bytes b t) = false := rfl
  have h2 : (Value.type "bytes" == Value.type "list") = false := by decide
  have h3 : (Value.type "bytes" == Value.type "tuple") = false := by decide
  simp only [h1, h2, h3, Bool.or_false, Bool.false_eq_true, if_false]
  refine wpAny_bind (KBw.pyIter_bytes ?_)
  refine wpAny_bind (wpAny_holding ?_)
  unfold Builtin.List.listLengthHint
  refine wpAny_bind (wpAny_specialOf (T := "bytes") (v := .bytes b t) rfl bytes_len ?_)
  wp_delta
  refine wpAny_bind (wpAny_isInstance (T := "bytes") (v := .bytes b t) (b := true) rfl (by rw [isSubtype_type]; kernel_rfl) ?_)
  show wpAny _ _ (typeOf (Value.bytes b t) >>= _) _ _ _
  refine wpAny_bind (wpAny_typeOf (T := "bytes") (v := .bytes b t) rfl ?_)
  refine wpAny_pure ?_
  rw [if_neg (by decide)]
  refine wpAny_pure ⟨plainId_quiet F.plain_extend_loop _, codeAny_extend_loopS (KBw.walks (A := A.in1) hh s.heap.objs.size b t).toS hn _ hSf _ b.size 0 _ _ _ rfl (Nat.zero_le _) ⟨_, Heap.get?_push_size _ rfl, rfl, rfl⟩ (Heap.get?_push_of_some _ hS) (ItemsOf.nil _) fun s' acc' c' hm hS' hacc => ?_⟩
  rw [Moved.eq_with hm]
  refine hR s'.heap s'.toks acc' c' (fun b ob hb e => hm.heap b ob (fun hmem => ?_) (Heap.get?_push_of_some _ e)) hS' hacc
  rcases List.mem_cons.mp hmem with e' | hmem
  · exact hb e'
  · exact absurd (Heap.lt_size e) (by rw [List.mem_singleton.mp hmem]; exact Nat.lt_irrefl _)

theorem init_bytes {R : Result → Shared → Prop} (hh : A.handled = none) (b : Array UInt8) (t : Tok) (S : Addr) (hS : s.heap.get? S = some { cls := .type "list", data := .seq #[] })
    (hR : ∀ h' tk acc' c', (∀ b o, b ≠ S → s.heap.get? b = some o → h'.get? b = some o) → h'.get? S = some { cls := .type "list", dict := none, data := .seq acc' c', slots := #[] } →
      ItemsOf (OctetAt b) acc' b.size → R (.ok (.ret .none)) { s with heap := h', toks := tk }) (hn : b.size ≤ sizeLine) :
    wpAny (model prog w) A.in1 (Builtin.«list.__init__» ⟨[.ref S, .bytes b t], []⟩)
      (fun fin s' => match fin with | .done f => R (.ok f) s' | .again c' => c'.quiet = true ∧ codeAny (model prog w) A c' R s') (fun e s' => R (.error e) s') s := by
  show wpAny _ _ (do let old ← Builtin.List.listItems (.ref S); Builtin.List.listUpdate (.ref S) (fun _ => #[]); letGo old.toList.reverse; Builtin.List.listExtendWith (.ref S) (.bytes b t) .none) _ _ s
  refine wpAny_bind ?_
  unfold Builtin.List.listItems
  refine wpAny_bind (wpAny_seqItems hS rfl (wpAny_pure ?_))
  show wpAny _ _ (updateSeq S (fun _ => #[]) >>= fun _ => letGo (#[] : Array Value).toList.reverse >>= fun _ => Builtin.List.listExtendWith (.ref S) (.bytes b t) .none) _ _ s
  refine wpAny_bind (wpAny_updateSeq hS rfl ?_)
  have hS₂ := Heap.get?_update_self (Obj.mapSeq (fun _ => (#[] : Array Value))) hS rfl
  have oth : ∀ b o, b ≠ S → s.heap.get? b = some o → (s.heap.update S (Obj.mapSeq (fun _ => (#[] : Array Value)))).get? b = some o :=
    fun b o hb e => (Heap.get?_update_other _ _ (Ne.symm hb)).trans e
  refine wpAny_bind (wpAny_letGo ?_)
  refine extend_bytes (hn := hn) hh b t S .none _ hS₂ fun h' tk acc' c' hk hS' hacc => ?_
  exact hR h' tk acc' c' (fun b o hb e => hk b o hb (oth b o hb e)) hS' hacc

theorem intsAre_of : ∀ (vs : List Value) (ns : List Int), vs.length = ns.length → (∀ j v, vs[j]? = some v → ∃ t, v = Value.int (ns.getD j 0) t) → IntsAre vs ns
  | [], [], _, _ => .nil
  | [], _ :: _, h, _ => by simp at h
  | _ :: _, [], h, _ => by simp at h
  | v :: r, n :: q, h, k => by
    obtain ⟨t, e⟩ := k 0 v rfl
    subst e
    exact .cons _ _ (intsAre_of r q (by simpa using h) fun j u hu => k (j + 1) u hu)

theorem list_bytes {h₀ : Heap} {L : Addr} {m : PySem.Str → Option Value} {news : List (Addr × Obj)} {Q : Value → Shared → Prop} (F0 : Fr h₀ L s.heap m) (N : News h₀ L s.heap news) (hh : A.handled = none) (b : Array UInt8) (t : Tok) (hn : b.size ≤ 1000)
    (hQ : ∀ D vs c h' tk, Fr h₀ L h' m → News h₀ L h' ((D, listOf vs.toArray c) :: news) → IntsAre vs (KBw.bInts b) → (∀ q ∈ news, q.1 < D) → Q (.ref D) { s with heap := h', toks := tk }) :
    wpAny (model prog w) A (call (.type "list") [.bytes b t]) Q E s := by
  refine callType_codes (Q₁ := fun obj s₁ => obj = .ref s.heap.objs.size ∧ s₁ = { s with heap := s.heap.push { cls := .type "list", data := .seq #[] } }) F.called_list (F.typeCall_list_1 _) F.entry_list_init
    (code_list_new _ ⟨rfl, rfl⟩) fun obj s₁ h₁ => ?_
  obtain ⟨rfl, rfl⟩ := h₁
  have hS : (s.heap.push { cls := .type "list", data := .seq #[] }).get? s.heap.objs.size = some { cls := .type "list", data := .seq #[] } := Heap.get?_push_size _ rfl
  refine ⟨⟨_, hS, rfl⟩, F.args_list_init_2 _ _, init_bytes (A := A.in1) (hn := by rw [sizeLine_eq]; omega) hh b t _ hS fun h' tk acc' c' hk hS' hacc => ?_⟩
  have hk' : ∀ b o, s.heap.get? b = some o → h'.get? b = some o := fun b o e => hk b o (Nat.ne_of_lt (Heap.lt_size e)) (Heap.get?_push_of_some _ e)
  refine ⟨rfl, hQ _ acc'.toList c' h' tk (F0.keeps hk') (news_pushed F0 N hk' (by rw [Array.toArray_toList]; exact hS') rfl) ?_ fun q hq => Heap.lt_size (N q hq).1⟩
  refine intsAre_of _ _ (by rw [Array.length_toList, hacc.1, KBw.ints_length]) fun j v hv => ?_
  obtain ⟨c, u, hc, rfl⟩ := hacc.2 j v (by simpa using hv)
  refine ⟨u, ?_⟩
  have e := KBw.ints_get hc
  rw [List.getD_eq_getElem?_getD, e]
  rfl
end
end JC
section JD
section
variable {w : World} {p : Program} {loose : List Str} {mean : ExcName → Option Value} {mg mb : Str → Option Value}
  {dp un : Nat} {gd : Option (List Code)} {cn : Str} {cs : Scope} {a : Addr} {ccd : Value} {cl : List (Str × Addr)} {outer : List Env} {A₀ : Around} {base h₀ : Heap} {L : Addr} {m : Str → Option Value} {s : Shared} {Q E : Value → Shared → Prop} {news : List (Addr × Obj)}
local macro_rules | `(tactic| walk_at "call ref") => `(tactic| (
  k_here
  (with_reducible show wpAny _ _ (call (Value.ref _) [Value.bytes _ _, Value.str _ _]) _ _ _)
  k_dflt (refine' from_big2 ?j1 ?j2 ?j3 ?j4 ?_; (case j1 => k_asm); (case j2 => k_mem); (case j3 => first | assumption | exact KBa.ints_make (by assumption)); (case j4 => omega))
  intro _ _
  (try dsimp only)
  (try k_fold)))
local macro_rules | `(tactic| k_mem) => `(tactic| assumption)
set_option maxRecDepth 100000 in
set_option maxHeartbeats 8000000 in
theorem mask_list_ok {v : Int} {t : Tok} {l : Addr} {vs : List Value} {c : Nat} {ks : List Int} (B : Below A₀ base outer h₀) (F : Fr h₀ L s.heap m) (X : (hd.heap_39 w.params).In h₀) (N : News h₀ L s.heap news) (T : Top p loose mean mg mb h₀) (hk : cs.kind = .function)
    (hdp : dp + 1 < recursionLimit) (hun : un + 8 < cLine) (hl : (l, listOf vs.toArray c) ∈ news) (hi : IntsAre vs ks) (hpos : 0 < ks.length) (hlen : ks.length ≤ 1000)
    (hret : ∀ D vs' c' h' tk, Fr h₀ L h' m → News h₀ L h' ((D, listOf vs'.toArray c') :: news) → IntsAre vs' (Builtin.bitAnd v (ks.getD 0 0) :: ks.drop 1) → (∀ q ∈ news, q.1 < D) → Q (.ref D) { s with heap := h', toks := tk }) :
    wpAny (model PySem.Challenge.rw_jy0047_01.row.prog w) (ktrTop dp un gd cn cs L a ccd cl outer) (call (.ref 63) [.int v t, .ref l]) Q E s := by
  have fill : (fun (_ : OpenLaw) (_ : Params → Frag) => wpAny (model PySem.Challenge.rw_jy0047_01.row.prog w) (ktrTop dp un gd cn cs L a ccd cl outer) (call (.ref 63) [.int v t, .ref l]) Q E s) PySem.Challenge.rw_jy0047_01 hd.heap_39 := by
    w_top off
    k_fill
    refine wpAny_call ?_
    k_dflt cell_enter
    k_steps
    rename_i hI l1 kF kN _ _
    refine hret _ _ 0 _ _ kF (cb_drop kN ?_) (by simpa using hI) (allLt_to l1.2.2)
    intro p hp
    rcases List.mem_cons.mp hp with rfl | hp
    · exact .head _
    · exact .tail _ (.tail _ (.tail _ hp))
  exact fill
set_option maxRecDepth 100000 in
set_option maxHeartbeats 8000000 in
theorem list_number_ok {l : Addr} {vs : List Value} {c : Nat} {ks : List Int} (B : Below A₀ base outer h₀) (F : Fr h₀ L s.heap m) (X : (hd.heap_39 w.params).In h₀) (N : News h₀ L s.heap news) (T : Top p loose mean mg mb h₀) (hk : cs.kind = .function)
    (hdp : dp + 1 < recursionLimit) (hun : un + 8 < cLine) (hl : (l, listOf vs.toArray c) ∈ news) (hi : IntsAre vs ks) (hin : KBa.In ks) (hlen : ks.length ≤ 1000)
    (hret : CbRet h₀ L m news s Q (fun t => .int (KFB.value ks) t)) :
    wpAny (model PySem.Challenge.rw_jy0047_01.row.prog w) (ktrTop dp un gd cn cs L a ccd cl outer) (call (.ref 70) [.ref l]) Q E s := by
  have fill : (fun (_ : OpenLaw) (_ : Params → Frag) => wpAny (model PySem.Challenge.rw_jy0047_01.row.prog w) (ktrTop dp un gd cn cs L a ccd cl outer) (call (.ref 70) [.ref l]) Q E s) PySem.Challenge.rw_jy0047_01 hd.heap_39 := by
    k_fill
    dsimp only [CbRet] at hret
    refine wpAny_call ?_
    k_dflt cell_enter
    k_steps
    exact cb_retI hret rfl (by k_asm) (cb_drop (by assumption) fun p hp => .tail _ hp)
  exact fill
end
end JD
section JE
section
variable {w : World} {p : Program} {loose : List Str} {mean : ExcName → Option Value} {mg mb : Str → Option Value}
  {dp un : Nat} {gd : Option (List Code)} {cn : Str} {cs : Scope} {a : Addr} {ccd : Value} {cl : List (Str × Addr)} {outer : List Env} {A₀ : Around} {base h₀ : Heap} {L : Addr} {m : Str → Option Value} {s : Shared} {Q E : Value → Shared → Prop} {news : List (Addr × Obj)}
def num (ns : List Int) (place : Int) : Int := (if 0 < ns.length then ns.getD (place.fmod (ns.length : Int)).toNat 0 else 0) + 7 * place
set_option maxRecDepth 100000 in
set_option maxHeartbeats 8000000 in
theorem law_number_ok {l : Addr} {vs : List Value} {ns : List Int} {place : Int} {t : Tok} (B : Below A₀ base outer h₀) (F : Fr h₀ L s.heap m) (X : (hd.heap_39 w.params).In h₀) (N : News h₀ L s.heap news) (T : Top p loose mean mg mb h₀) (hk : cs.kind = .function)
    (hdp : dp + 1 < recursionLimit) (hun : un + 8 < cLine) (hl : base.IsList l vs.toArray) (hi : IntsAre vs ns) (hlen : ns.length ≤ 63) (h0 : 0 ≤ place) (h1 : place ≤ 200)
    (hret : CbRet h₀ L m news s Q (fun t => .int (num ns place) t)) :
    wpAny (model PySem.Challenge.rw_jy0047_01.row.prog w) (ktrTop dp un gd cn cs L a ccd cl outer) (call (.ref 84) [.ref l, .int place t]) Q E s := by
  have fill : (fun (_ : OpenLaw) (_ : Params → Frag) => wpAny (model PySem.Challenge.rw_jy0047_01.row.prog w) (ktrTop dp un gd cn cs L a ccd cl outer) (call (.ref 84) [.ref l, .int place t]) Q E s) PySem.Challenge.rw_jy0047_01 hd.heap_39 := by
    w_top off
    k_fill
    dsimp only [CbRet] at hret
    refine wpAny_call ?_
    k_dflt cell_enter
    k_steps
    · exact cb_retI hret (by rw [num, if_pos (by assumption)]) (by k_asm) (by k_asm)
    · exact cb_retI hret (by rw [num, if_neg (by assumption)]) (by k_asm) (by k_asm)
  exact fill
end
end JE
section JF
section
variable {w : World} {p : Program} {loose : List Str} {mean : ExcName → Option Value} {mg mb : Str → Option Value}
  {dp un : Nat} {gd : Option (List Code)} {cn : Str} {cs : Scope} {a : Addr} {ccd : Value} {cl : List (Str × Addr)} {outer : List Env} {A₀ : Around} {base h₀ : Heap} {L : Addr} {m : Str → Option Value} {s : Shared} {Q E : Value → Shared → Prop} {news : List (Addr × Obj)}
theorem intBits_pos {v : Int} (h : 0 ≤ v) : v.toNat < 2 ^ Builtin.Int.intBits v := by
  have := PySem.intBits_le_iff.mp (Nat.le_refl (Builtin.Int.intBits v))
  omega
theorem sizeBits_pos (v : Int) : 1 ≤ sizeBits v := by unfold sizeBits; split <;> omega
theorem sizeBytes_nat (v : Int) : sizeBytes v = ((sizeBytes v).toNat : Int) := by
  have h := sizeBits_pos v
  have : 0 ≤ sizeBytes v := by unfold sizeBytes; rw [Int.fdiv_eq_ediv_of_nonneg _ (by decide)]; omega
  omega
theorem below_sizeBytes {v : Int} (h : 0 ≤ v) : v < 256 ^ (sizeBytes v).toNat := by
  have h1 := intBits_pos h
  have h2 : Builtin.Int.intBits v ≤ 8 * (sizeBytes v).toNat := by
    have := sizeBits_pos v
    unfold sizeBytes
    rw [Int.fdiv_eq_ediv_of_nonneg _ (by decide)]
    have h3 : (Builtin.Int.intBits v : Int) ≤ sizeBits v := by unfold sizeBits; split <;> omega
    omega
  have h3 : (2 : Nat) ^ Builtin.Int.intBits v ≤ 2 ^ (8 * (sizeBytes v).toNat) := Nat.pow_le_pow_right (by decide) h2
  rw [Nat.pow_mul] at h3
  have h4 : ((256 : Int) ^ (sizeBytes v).toNat) = ((256 ^ (sizeBytes v).toNat : Nat) : Int) := KTBy.p256 _
  rw [h4]
  have h5 : v.toNat < 256 ^ (sizeBytes v).toNat := Nat.lt_of_lt_of_le h1 h3
  omega
local macro_rules | `(tactic| walk_at "call ref") => `(tactic| (
  k_here
  (with_reducible show wpAny _ _ (call (Value.ref 28) _) _ _ _)
  k_dflt (refine' size_bytes_ok ?j1 ?j2 ?j3 ?j4 ?j5 ?j6 ?j7 ?j8 ?_; (case j1 => k_asm); (case j2 => k_asm); (case j3 => k_asm); (case j4 => k_asm); (case j5 => k_asm); (case j6 => first | exact rfl | assumption); (case j7 => ktr_room); (case j8 => ktr_units))
  intro t9 h9 tk9 F9 N9
  (try dsimp only)
  (try k_sweep)
  (try k_fold)))

theorem len_arr {prog : Program} {M : Around} {b : Array UInt8} {t : Tok} {Q : Value → Shared → Prop} (hfit : b.size ≤ 1000) (h : Q (.int (b.size : Int) (s.toks + 1)) { s with toks := s.toks + 1 + 1 }) : wpAny (model prog w) M (call (.builtin "len") [.bytes b t]) Q E s :=
  KBw.len_K (ks := KBw.bInts b) rfl (by rw [KBw.ints_length]; omega) (by rw [KBw.ints_length]; exact h)
local macro_rules | `(tactic| walk_at "my enter") => `(tactic| (refine' code_def ?k1 ?k2 ?k3 ?k4 ?k5 ?kA ?kF ?kK ?k6 ?k7 ?k8 ?k9 ?kB ?_ ?c2 ?c3 ?c4 ?c5; (case kA => exact rfl); (case kF => exact rfl); (case kK => first | exact rfl | assumption); (case k1 => k_asm); (case k2 => k_asm); (case k3 => k_asm); (case k4 => k_asm); (case k5 => k_asm); (case k6 => k_is); (case k7 => k_is); (case k8 => ktr_room); (case k9 => exact BindsTo.of_eq rfl); (case c5 => decide); (case kB => exact locs rfl); (case c2 => exact rfl); (case c3 => exact rfl); (case c4 => exact rfl); k_whole; intro g' L' h' FG' F' N' B' X' T'; (try dsimp only); (try k_lift B'); (try k_fold)))
local macro_rules | `(tactic| walk_at "call type:type") => `(tactic| ((with_reducible show wpAny _ _ (call _ [Value.bytes _ _]) _ _ _); refine call_type_of (Tx := "bytes") rfl (by decide +kernel) ?_))
local macro_rules | `(tactic| walk_at "call builtin:len") => `(tactic| (
  k_here
  (with_reducible show wpAny _ _ (call (Value.builtin "len") [Value.bytes (bigArr _ _) _]) _ _ _)
  k_dflt (refine' len_arr ?j1 ?_; (case j1 => rw [bigArr_size]; omega))
  (try simp only [bigArr_size])))
local macro_rules | `(tactic| walk_at "call builtin:int.to_bytes") => `(tactic| (
  k_here
  (with_reducible show wpAny _ _ (call (Value.builtin "int.to_bytes") [Value.int _ _, Value.int _ _, Value.str _ _]) _ _ _)
  k_dflt (refine' to_big (k := Int.toNat (sizeBytes _)) ?j1 ?j2 ?j3 ?j4 ?_; (case j1 => exact sizeBytes_nat _); (case j2 => omega); (case j3 => assumption); (case j4 => assumption))
  intro t9 tk9
  (try dsimp only)
  (try k_fold)))
set_option maxRecDepth 100000 in
set_option maxHeartbeats 8000000 in
theorem number_bytes_ok {x v : Int} {t u : Tok} (B : Below A₀ base outer h₀) (F : Fr h₀ L s.heap m) (X : (hd.heap_39 w.params).In h₀) (N : News h₀ L s.heap news) (T : Top p loose mean mg mb h₀) (hk : cs.kind = .function)
    (hdp : dp + 3 < recursionLimit) (hun : un + 24 < cLine) (h0 : 0 ≤ x) (h1 : x ≤ v) (h2 : x < 256 ^ (sizeBytes v).toNat) (h3 : (sizeBytes v).toNat ≤ 1000)
    (hret : ∀ t' h' tk', Fr h₀ L h' m → News h₀ L h' news → Q (.bytes (bigArr (sizeBytes v).toNat x) t') { s with heap := h', toks := tk' }) :
    wpAny (model PySem.Challenge.rw_jy0047_01.row.prog w) (ktrTop dp un gd cn cs L a ccd cl outer) (call (.ref 35) [.int x t, .int v u]) Q E s := by
  have fill : (fun (_ : OpenLaw) (_ : Params → Frag) => wpAny (model PySem.Challenge.rw_jy0047_01.row.prog w) (ktrTop dp un gd cn cs L a ccd cl outer) (call (.ref 35) [.int x t, .int v u]) Q E s) PySem.Challenge.rw_jy0047_01 hd.heap_39 := by
    w_top off
    k_fill
    have hnn := sizeBytes_nat v
    refine wpAny_call ?_
    k_dflt cell_enter
    k_steps
    · exact hret _ _ _ (by k_asm) (by k_asm)
    · exfalso; omega
  exact fill
local macro_rules | `(tactic| walk_at "call ref") => `(tactic| (
  k_here
  (with_reducible show wpAny _ _ (call (Value.ref _) [Value.bytes _ _, Value.str _ _]) _ _ _)
  k_dflt (refine' from_big2 ?j1 ?j2 ?j3 ?j4 ?_; (case j1 => k_asm); (case j2 => k_mem); (case j3 => first | assumption | exact KBa.ints_make (by assumption)); (case j4 => omega))
  intro _ _
  (try dsimp only)
  (try k_fold)))
set_option maxRecDepth 100000 in
set_option maxHeartbeats 8000000 in
theorem bytes_number_ok {b : Array UInt8} {ks : List Int} {t : Tok} (B : Below A₀ base outer h₀) (F : Fr h₀ L s.heap m) (X : (hd.heap_39 w.params).In h₀) (N : News h₀ L s.heap news) (T : Top p loose mean mg mb h₀) (hk : cs.kind = .function)
    (hdp : dp + 1 < recursionLimit) (hun : un + 8 < cLine) (hb : KBw.bInts b = ks) (hlen : ks.length ≤ 1000)
    (hret : CbRet h₀ L m news s Q (fun t => .int (KFB.value ks) t)) :
    wpAny (model PySem.Challenge.rw_jy0047_01.row.prog w) (ktrTop dp un gd cn cs L a ccd cl outer) (call (.ref 42) [.bytes b t]) Q E s := by
  have fill : (fun (_ : OpenLaw) (_ : Params → Frag) => wpAny (model PySem.Challenge.rw_jy0047_01.row.prog w) (ktrTop dp un gd cn cs L a ccd cl outer) (call (.ref 42) [.bytes b t]) Q E s) PySem.Challenge.rw_jy0047_01 hd.heap_39 := by
    k_fill
    dsimp only [CbRet] at hret
    refine wpAny_call ?_
    k_dflt cell_enter
    k_steps
    exact cb_retI hret rfl (by k_asm) (cb_drop (by assumption) fun p hp => .tail _ hp)
  exact fill
local macro_rules | `(tactic| walk_at "call ref") => `(tactic| (
  k_here
  (with_reducible show wpAny _ _ (call (Value.ref 35) _) _ _ _)
  k_dflt (refine' number_bytes_ok ?j1 ?j2 ?j3 ?j4 ?j5 ?j6 ?j7 ?j8 ?j9 ?j10 ?j11 ?j12 ?_; (case j1 => k_asm); (case j2 => k_asm); (case j3 => k_asm); (case j4 => k_asm); (case j5 => k_asm); (case j6 => first | exact rfl | assumption); (case j7 => ktr_room); (case j8 => ktr_units); (case j9 => assumption); (case j10 => assumption); (case j11 => assumption); (case j12 => assumption))
  intro t9 h9 tk9 F9 N9
  (try dsimp only)
  (try k_sweep)
  (try k_fold)))
set_option maxRecDepth 100000 in
set_option maxHeartbeats 8000000 in
theorem law_written_good {x v : Int} {t u : Tok} (B : Below A₀ base outer h₀) (F : Fr h₀ L s.heap m) (X : (hd.heap_39 w.params).In h₀) (N : News h₀ L s.heap news) (T : Top p loose mean mg mb h₀) (hk : cs.kind = .function)
    (hdp : dp + 4 < recursionLimit) (hun : un + 32 < cLine) (h0 : 0 ≤ x) (h1 : x ≤ v) (h2 : x < 256 ^ (sizeBytes v).toNat) (h3 : (sizeBytes v).toNat ≤ 1000)
    (hret : ∀ t' h' tk', Fr h₀ L h' m → News h₀ L h' news → Q (.bytes (bigArr (sizeBytes v).toNat x) t') { s with heap := h', toks := tk' }) :
    wpAny (model PySem.Challenge.rw_jy0047_01.row.prog w) (ktrTop dp un gd cn cs L a ccd cl outer) (call (.ref 91) [.int x t, .int v u]) Q E s := by
  have fill : (fun (_ : OpenLaw) (_ : Params → Frag) => wpAny (model PySem.Challenge.rw_jy0047_01.row.prog w) (ktrTop dp un gd cn cs L a ccd cl outer) (call (.ref 91) [.int x t, .int v u]) Q E s) PySem.Challenge.rw_jy0047_01 hd.heap_39 := by
    k_fill
    refine wpAny_call ?_
    k_dflt cell_enter
    k_steps
    exact hret _ _ _ (by k_asm) (by k_asm)
  exact fill
end
end JF
section JG
open PySem.Calls
section
variable {prog : Program} {w : World} {A₀ A : Around} {s : Shared} {base h₀ : Heap} {L : Addr} {m : Str → Option Value} {env : Env} {news : List (Addr × Obj)} {K : Frag} {p : Program} {loose : List Str} {mean : ExcName → Option Value} {mg mb : Str → Option Value}
    {R : Result → Shared → Prop} {name qual : Str} {params : Arguments} {body : List Stmt} {scope : Scope} {dV kV doc pm cdv ct oc : Value} {an od : Option Addr} {osl : Array (Option Value)} {f : Addr} {args : Args} {binds : List (Str × Value)}
/-- a def with a try, called from the outermost frame, whatever cells that frame has -/
theorem enter_try (B : Below A₀ base [] h₀) (F : Fr h₀ L s.heap m) (X₀ : K.In h₀) (N : News h₀ L s.heap news) (T : Top p loose mean mg mb h₀) (hA : A.frames = some [env]) (hf : env.frame = some L) (hke : env.scope.kind = .function)
    (ho : K.lookup f = some ⟨oc, od, .func (fnOf name qual params body scope dV kV doc pm an cdv ct), osl⟩) (hcd : codeIn K cdv qual = true) (hroom : A.depth < recursionLimit)
    (hbind : BindsTo s (fnOf name qual params body scope dV kV doc pm an cdv ct) args binds) (hloc : ∀ y ∈ binds, scope.names.lookup y.1 = some .local)
    (h : ∀ g L' h₁, Fr h₀ L g m → Fr g L' h₁ (fun y => binds.reverse.lookup y) → News g L' h₁ news → Below A base [env] g → K.In g → Top p loose mean mg mb g → KtsDicts ([env].filterMap (·.frame)) g →
      wpAny (model prog w) (A.deeper (envOf qual scope L' f cdv)) (execs body (envOf qual scope L' f cdv))
        (fun fl s' => LeaveS0 ([env].filterMap (·.frame)) h₀ L m g R (match fl with | .ret v => v | _ => .none) s')
        (fun e s' => wpAny (model prog w) (A.deeper (envOf qual scope L' f cdv)) (leaving (envOf qual scope L' f cdv) e) (fun _ s'' => R (.error e) s'') (fun e' s'' => R (.error e') s'') s')
        { s with heap := h₁, toks := s.toks + binds.length })
    (hco : scope.isCoroutine = false) (hgen : scope.isGenerator = false) (hk : scope.kind = .function)
    (hcell : ∀ x ∈ scope.names, x.2 ≠ .cell) : codeAny (model prog w) A (.call (.ref f) args) R s := by
  have X := X₀.keeps F.keep
  have hfl : [env].filterMap (·.frame) = [L] := by simp [hf]
  have nL₀ : h₀.get? L = none := kts_self F
  obtain ⟨FG, BG, st, lv⟩ := groundX (R := R) B F N hA hf hke
  refine codeAny_call_def (fd := fnOf name qual params body scope dV kV doc pm an cdv ct) (body := body) (binds := binds) hroom (X _ _ ho) rfl (T.nolimit.keeps F.keep) (codeRec_of X hcd) rfl hbind hcell hloc (fun h₁ hns hk₁ => ?_) hco hgen hk
  obtain ⟨oL, es, ep, hLg, hLd, hLk, hLf⟩ := FG.ns
  refine wpAny_mono (h _ s.heap.objs.size h₁ FG ⟨hns, fun b o e => hk₁ b o (of_hideAll _ e), Nat.le_of_eq (hideAll_size _ _)⟩
    (fun p hp => ⟨hk₁ _ _ (N p hp).1, Nat.ne_of_lt (Heap.lt_size (N p hp).1), hideAll_none _ (List.mem_map_of_mem hp)⟩) BG (X₀.keeps st) (T.keeps st) (fun b hb => by
      rw [hfl] at hb
      rw [List.mem_singleton.mp hb]
      exact ⟨oL, es, ep, hLg, hLd⟩)) (fun fl s' hl => ?_) fun _ _ y => y
  obtain ⟨g', L', m', news', T', F', N', k⟩ := hl
  rw [hfl] at T'
  obtain ⟨sl, hs⟩ := T'.up hLg
  refine k ⟨⟨_, es, ep, F'.keep _ _ hs, hLd, hLk, hLf⟩, fun b o e => F'.keep b o (T'.other b o (st b o e) (fun q => by
    rw [List.mem_singleton.mp q, nL₀] at e
    cases e)), F.above⟩ fun p hp => ⟨(N' p hp).1, fun q => ?_, ?_⟩
  · have := (N' p hp).2.2; rw [q, hs] at this; cases this
  · cases q : h₀.get? p.1 with
    | none => rfl
    | some o =>
      obtain ⟨sl', hs'⟩ := T'.up (st _ _ q)
      have := (N' p hp).2.2
      rw [hs'] at this
      cases this
end
section
variable {w : World} {p : Program} {loose : List Str} {mean : ExcName → Option Value} {mg mb : Str → Option Value}
  {dp un : Nat} {gd : Option (List Code)} {cn : Str} {cs : Scope} {a : Addr} {ccd : Value} {cl : List (Str × Addr)} {outer : List Env} {A₀ : Around} {base h₀ : Heap} {L : Addr} {m : Str → Option Value} {s : Shared} {Q E : Value → Shared → Prop} {news : List (Addr × Obj)}
local macro_rules | `(tactic| walk_at "my enter") => `(tactic| (refine' code_def ?k1 ?k2 ?k3 ?k4 ?k5 ?kA ?kF ?kK ?k6 ?k7 ?k8 ?k9 ?kB ?_ ?c2 ?c3 ?c4 ?c5; (case kA => exact rfl); (case kF => exact rfl); (case kK => first | exact rfl | assumption); (case k1 => k_asm); (case k2 => k_asm); (case k3 => k_asm); (case k4 => k_asm); (case k5 => k_asm); (case k6 => k_is); (case k7 => k_is); (case k8 => ktr_room); (case k9 => exact BindsTo.of_eq rfl); (case c5 => decide); (case kB => exact locs rfl); (case c2 => exact rfl); (case c3 => exact rfl); (case c4 => exact rfl); k_whole; intro g' L' h' FG' F' N' B' X' T'; (try dsimp only); (try k_lift B'); (try k_fold)))
local macro_rules | `(tactic| walk_at "call ref") => `(tactic| (
  k_here
  (with_reducible show wpAny _ _ (call (Value.ref 35) _) _ _ _)
  refine wpAny_call ?_
  k_dflt (walk_at "my enter")))
local macro_rules | `(tactic| walk_at "exec Raise some none") => `(tactic| (k_here; (with_reducible show wpAny _ _ (exec (Stmt.Raise (some (Expr.Name _ _)) none _) _) _ _ _); (with_reducible rename Fr _ _ _ _ => kF); k_dflt (refine' Raise_classB ?hh excClass_ValueError excClass_ValueError.self ?hx ?_; (case hh => rfl); (case hx => (refine' name_B kF ?k1 ?k2 ?k3 ?k4 ?k5 ?_; (case k1 => k_asm); (case k2 => k_asm); (case k3 => k_is); (case k4 => boot_by_name); (case k5 => decide); exact ⟨rfl, rfl⟩)))))
set_option maxRecDepth 100000 in
set_option maxHeartbeats 8000000 in
theorem law_written_bad {x v : Int} {t u : Tok} (B : Below A₀ base [] h₀) (F : Fr h₀ L s.heap m) (X : (hd.heap_39 w.params).In h₀) (N : News h₀ L s.heap news) (T : Top p loose mean mg mb h₀) (XB : (hd.heap_39 w.params).In base) (TB : Top p loose mean mg mb base) (hk : cs.kind = .function)
    (hdp : dp + 4 < recursionLimit) (hun : un + 32 < cLine) (h1 : v < x)
    (hret : ∀ t' h' tk', Fr h₀ L h' m → News h₀ L h' news → Q (.str (PySem.Str.ofString "refused") t') { s with heap := h', toks := tk' }) :
    wpAny (model PySem.Challenge.rw_jy0047_01.row.prog w) (ktrTop dp un gd cn cs L a ccd cl []) (call (.ref 91) [.int x t, .int v u]) Q E s := by
  have fill : (fun (_ : OpenLaw) (_ : Params → Frag) => wpAny (model PySem.Challenge.rw_jy0047_01.row.prog w) (ktrTop dp un gd cn cs L a ccd cl []) (call (.ref 91) [.int x t, .int v u]) Q E s) PySem.Challenge.rw_jy0047_01 hd.heap_39 := by
    w_top off
    k_fill
    refine wpAny_call ?_
    k_dflt (refine' enter_try ?k1 ?k2 ?k3 ?k4 ?k5 ?kA ?kF ?kK ?k6 ?k7 ?k8 ?k9 ?kB ?_ ?c2 ?c3 ?c4 ?c5; (case kA => exact rfl); (case kF => exact rfl); (case kK => first | exact rfl | assumption); (case k1 => k_asm); (case k2 => k_asm); (case k3 => k_asm); (case k4 => k_asm); (case k5 => k_asm); (case k6 => k_is); (case k7 => k_is); (case k8 => ktr_room); (case k9 => exact BindsTo.of_eq rfl); (case c5 => decide); (case kB => exact locs rfl); (case c2 => exact rfl); (case c3 => exact rfl); (case c4 => exact rfl); k_whole; intro g' L' h' FG' F' N' B' X' T' D'; (try dsimp only); (try k_lift B'); (try k_fold))
    k_steps
    exact hret _ _ _ (by k_asm) (by k_asm)
  exact fill
end
end JG
section JH
open PySem.Calls
/-! parts of the law's own text, taken from the row -/
def nth : List Stmt → Nat → Stmt
  | [], _ => .Pass ⟨0, 0, 0, 0⟩
  | s :: _, 0 => s
  | _ :: r, n + 1 => nth r n
def bodyOf : Stmt → List Stmt
  | .FunctionDef _ _ b _ _ _ _ _ _ _ => b
  | .For _ _ b _ _ => b
  | _ => []
def argsOf : Stmt → Arguments
  | .FunctionDef _ a _ _ _ _ _ _ _ _ => a
  | _ => { posonlyargs := [], args := [], vararg := none, kwonlyargs := [], kw_defaults := [], kwarg := none, defaults := [] }
def scopeOf : Stmt → Scope
  | .FunctionDef _ _ _ _ _ _ sc _ _ _ => sc
  | _ => { kind := .function, names := [], isGenerator := false, isCoroutine := false, more := [] }
def lawS : Stmt := nth PySem.Challenge.pw_jy0047_01.main.body 14
def numS : Stmt := nth (bodyOf lawS) 0
def turnS : Stmt := nth (bodyOf lawS) 1
def rowsS : Stmt := nth (bodyOf turnS) 5
def chanceS : Stmt := nth (bodyOf turnS) 6
/-- the closure `number` stands on the ledger, its one cell holds the script -/
def NumAt (news : List (Addr × Obj)) (fn l : Addr) : Prop :=
  ∃ (c c' : Addr) (o oc : Obj) (qual : Str) (doc pm ctv : Value) (vs : Array Value) (tq : Tok),
    (fn, fnMade (Str.ofString "number") qual (argsOf numS) (bodyOf numS) (scopeOf numS) [(Str.ofString "script", c)] doc pm c' ctv) ∈ news ∧
    (c, o) ∈ news ∧ o.data = .cell (some (.ref l)) ∧ (c', oc) ∈ news ∧ oc.data = .fields vs ∧ vs[1]? = some (.str qual tq)
/-- the closure `rows` -/
def RowsAt (news : List (Addr × Obj)) (fr l : Addr) (turn wide : Int) : Prop :=
  ∃ (fn cN cT cW c' : Addr) (oN oT oW oc : Obj) (qual : Str) (doc pm ctv : Value) (vs : Array Value) (tq tt tw : Tok),
    (fr, fnMade (Str.ofString "rows") qual (argsOf rowsS) (bodyOf rowsS) (scopeOf rowsS) [(Str.ofString "wide", cW), (Str.ofString "turn", cT), (Str.ofString "number", cN)] doc pm c' ctv) ∈ news ∧
    (cN, oN) ∈ news ∧ oN.data = .cell (some (.ref fn)) ∧ (cT, oT) ∈ news ∧ oT.data = .cell (some (.int turn tt)) ∧ (cW, oW) ∈ news ∧ oW.data = .cell (some (.int wide tw)) ∧
    (c', oc) ∈ news ∧ oc.data = .fields vs ∧ vs[1]? = some (.str qual tq) ∧ NumAt news fn l
def spread : Int := 16395309179817738009521987751666139093583423331470737840399399094199505546377
def rowV (ns : List Int) (turn wide k : Int) : Int :=
  if k.fmod 4 = 0 then 0 else (num ns (10 + 5 * turn + k) * (if turn = 1 then 1 else spread)).fmod (256 ^ wide.toNat)
/-- the script's numbers have bits in bounds -/
def BitsIn (ns : List Int) : Prop := ∀ place : Int, 0 ≤ place → place ≤ 200 → Builtin.Int.intBits (num ns place) ≤ 2000000
theorem mul_one_ok {x : Int} : IntMulOk x 1 := IntMulOk.of_right (by decide)
theorem mul_spread_ok {x : Int} (h : Builtin.Int.intBits x ≤ 2000000) : IntMulOk x spread := IntMulOk.of_le (n := 1000) h (PySem.intBits_le_iff.mpr (by decide +kernel)) (by decide)
section
variable {w : World} {p : Program} {loose : List Str} {mean : ExcName → Option Value} {mg mb : Str → Option Value}
  {dp un : Nat} {gd : Option (List Code)} {cn : Str} {cs : Scope} {a : Addr} {ccd : Value} {cl : List (Str × Addr)} {outer : List Env} {A₀ : Around} {base h₀ : Heap} {L : Addr} {m : Str → Option Value} {s : Shared} {Q E : Value → Shared → Prop} {news : List (Addr × Obj)}
local macro_rules | `(tactic| walk_at "call ref") => `(tactic| (
  k_here
  (with_reducible show wpAny _ _ (call (Value.ref 84) _) _ _ _)
  k_dflt (refine' law_number_ok ?j1 ?j2 ?j3 ?j4 ?j5 ?j6 ?j7 ?j8 ?j9 ?j10 ?j11 ?j12 ?j13 ?_; (case j1 => k_asm); (case j2 => k_asm); (case j3 => k_asm); (case j4 => k_asm); (case j5 => k_asm); (case j6 => first | exact rfl | assumption); (case j7 => ktr_room); (case j8 => ktr_units); (case j9 => k_asm); (case j10 => assumption); (case j11 => assumption); (case j12 => omega); (case j13 => omega))
  intro t9 h9 tk9 F9 N9
  (try dsimp only)
  (try k_sweep)
  (try k_fold)))
local macro_rules | `(tactic| walk_at "my closure") => `(tactic| (refine' code_nest ?k1 ?k2 ?k3 ?k4 ?k5 ?kA ?kF ?kK ?k6 ?k7 ?k8 ?k9 ?kB ?_ ?c2 ?c3 ?c4 ?c5; (case kA => exact rfl); (case kF => exact rfl); (case kK => first | exact rfl | assumption); (case k1 => k_asm); (case k2 => k_asm); (case k3 => k_asm); (case k4 => k_asm); (case k5 => k_asm); (case k6 => assumption); (case k7 => exact codeRec_news (by k_asm) (by assumption) (by assumption) (by assumption)); (case k8 => ktr_room); (case k9 => exact BindsTo.of_eq rfl); (case c5 => decide); (case kB => exact locs rfl); (case c2 => exact rfl); (case c3 => exact rfl); (case c4 => exact rfl); k_whole; intro g' L' h' FG' F' N' B' X' T'; (try dsimp only); (try k_lift B'); (try k_fold)))
local macro_rules | `(tactic| walk_at "eval Name") => `(tactic| (k_here; k_dflt (refine' nameX_F ?N ?c ?m ?d ?_ ?a ?b; (case a => rfl); (case b => rfl); (case N => k_asm); (case c => rfl); (case m => assumption); (case d => assumption); k_whole)))
local macro_rules | `(tactic| walk_at "callWith ref") => `(tactic| (k_here; k_dflt (first
  | (refine' callWith_F ?k1 ?_; (case k1 => exact FnAt.of (by k_asm) (by assumption)); k_whole)
  | (refine' callWith_F0 ?k1 ?_; (case k1 => exact FnAt.of (by k_asm) (by assumption)); k_whole; try dsimp only [List.nil_append, List.cons_append]))))
local macro_rules | `(tactic| walk_at "FnAt") => `(tactic| (k_dflt (exact FnAt.of (by k_asm) (by assumption))))
set_option maxRecDepth 100000 in
set_option maxHeartbeats 8000000 in
theorem number_ok {fn l : Addr} {vs : List Value} {ns : List Int} {place : Int} {t : Tok} (B : Below A₀ base outer h₀) (F : Fr h₀ L s.heap m) (X : (hd.heap_39 w.params).In h₀) (N : News h₀ L s.heap news) (T : Top p loose mean mg mb h₀) (hk : cs.kind = .function)
    (hdp : dp + 2 < recursionLimit) (hun : un + 16 < cLine) (hn : NumAt news fn l) (hl : base.IsList l vs.toArray) (hi : IntsAre vs ns) (hlen : ns.length ≤ 63) (h0 : 0 ≤ place) (h1 : place ≤ 200)
    (hret : CbRet h₀ L m news s Q (fun t => .int (num ns place) t)) :
    wpAny (model PySem.Challenge.rw_jy0047_01.row.prog w) (ktrTop dp un gd cn cs L a ccd cl outer) (call (.ref fn) [.int place t]) Q E s := by
  have fill : (fun (_ : OpenLaw) (_ : Params → Frag) => wpAny (model PySem.Challenge.rw_jy0047_01.row.prog w) (ktrTop dp un gd cn cs L a ccd cl outer) (call (.ref fn) [.int place t]) Q E s) PySem.Challenge.rw_jy0047_01 hd.heap_39 := by
    w_top off
    k_fill
    dsimp only [CbRet] at hret
    obtain ⟨c, c', o, oc, qual, doc, pm, ctv, vq, tq, hm, hc, hcd, hc', hdc, hq⟩ := hn
    dsimp only [argsOf, bodyOf, scopeOf, numS, lawS, nth, PySem.Challenge.pw_jy0047_01] at hm
    refine wpAny_call ?_
    k_dflt (walk_at "my closure")
    k_steps
    all_goals exact cb_retI hret rfl (by k_asm) (by k_asm)
  exact fill
local macro_rules | `(tactic| walk_at "call ref") => `(tactic| (
  k_here
  (with_reducible show wpAny _ _ (call (Value.ref _) [Value.int _ _]) _ _ _)
  k_dflt (refine' number_ok ?j1 ?j2 ?j3 ?j4 ?j5 ?j6 ?j7 ?j8 ?j9 ?j10 ?j11 ?j12 ?j13 ?j14 ?_; (case j1 => k_asm); (case j2 => k_asm); (case j3 => k_asm); (case j4 => k_asm); (case j5 => k_asm); (case j6 => first | exact rfl | assumption); (case j7 => ktr_room); (case j8 => ktr_units); (case j9 => assumption); (case j10 => k_asm); (case j11 => assumption); (case j12 => omega); (case j13 => omega); (case j14 => omega))
  intro t9 h9 tk9 F9 N9
  (try dsimp only)
  (try k_sweep)
  (try k_fold)))
local macro_rules | `(tactic| walk_at "binaryOp Mult int int") => `(tactic| (k_here; k_dflt (first
  | (refine' mul_int ?_ ?hm; (case hm => exact mul_spread_ok (by first | (exact (by assumption : BitsIn _) _ (by omega) (by omega)) | assumption)))
  | (refine' mul_int ?_ ?hm; (case hm => exact mul_one_ok)))))
set_option maxRecDepth 100000 in
set_option maxHeartbeats 8000000 in
theorem rows_ok {fr l : Addr} {vs : List Value} {ns : List Int} {turn wide k : Int} {t : Tok} (B : Below A₀ base outer h₀) (F : Fr h₀ L s.heap m) (X : (hd.heap_39 w.params).In h₀) (N : News h₀ L s.heap news) (T : Top p loose mean mg mb h₀) (hk : cs.kind = .function)
    (hdp : dp + 3 < recursionLimit) (hun : un + 24 < cLine) (hr : RowsAt news fr l turn wide) (hl : base.IsList l vs.toArray) (hi : IntsAre vs ns) (hlen : ns.length ≤ 63) (hbits : BitsIn ns)
    (ht0 : 0 ≤ turn) (ht1 : turn ≤ 2) (hw0 : 1 ≤ wide) (hw1 : wide ≤ 100) (h0 : 1 ≤ k) (h1 : k ≤ 4)
    (hret : CbRet h₀ L m news s Q (fun t => .int (rowV ns turn wide k) t)) :
    wpAny (model PySem.Challenge.rw_jy0047_01.row.prog w) (ktrTop dp un gd cn cs L a ccd cl outer) (call (.ref fr) [.int k t]) Q E s := by
  have fill : (fun (_ : OpenLaw) (_ : Params → Frag) => wpAny (model PySem.Challenge.rw_jy0047_01.row.prog w) (ktrTop dp un gd cn cs L a ccd cl outer) (call (.ref fr) [.int k t]) Q E s) PySem.Challenge.rw_jy0047_01 hd.heap_39 := by
    k_fill
    dsimp only [CbRet] at hret
    obtain ⟨fn, cN, cT, cW, c', oN, oT, oW, oc, qual, doc, pm, ctv, vq, tq, tt, tw, hm, hcN, hdN, hcT, hdT, hcW, hdW, hc', hdc, hq, hNum⟩ := hr
    dsimp only [argsOf, bodyOf, scopeOf, rowsS, turnS, lawS, nth, PySem.Challenge.pw_jy0047_01] at hm
    have hNum' := hNum
    obtain ⟨_, _, _, _, _, _, _, _, _, _, hmN, _⟩ := hNum'
    refine wpAny_call ?_
    k_dflt (walk_at "my closure")
    k_steps
    · exact cb_retI hret (by rw [rowV, if_pos (by assumption)]) (by k_asm) (by k_asm)
    · exact cb_retI hret (by rw [rowV, if_neg (by assumption), if_pos (by assumption)]) (by k_asm) (by k_asm)
    · exact cb_retI hret (by rw [rowV, if_neg (by assumption), if_neg (by assumption)]; rfl) (by k_asm) (by k_asm)
  exact fill
end
end JH
section JI
local macro_rules | `(tactic| walk_at "no such step") => `(tactic| fail)
open PySem.Calls
theorem NumAt.mono {n₁ n₂ : List (Addr × Obj)} {fn l : Addr} (h : NumAt n₁ fn l) (hs : ∀ p ∈ n₁, p ∈ n₂) : NumAt n₂ fn l := by
  obtain ⟨c, c', o, oc, qual, doc, pm, ctv, vq, tq, hm, hc, hcd, hc', hdc, hq⟩ := h
  exact ⟨c, c', o, oc, qual, doc, pm, ctv, vq, tq, hs _ hm, hs _ hc, hcd, hs _ hc', hdc, hq⟩
theorem RowsAt.mono {n₁ n₂ : List (Addr × Obj)} {fr l : Addr} {turn wide : Int} (h : RowsAt n₁ fr l turn wide) (hs : ∀ p ∈ n₁, p ∈ n₂) : RowsAt n₂ fr l turn wide := by
  obtain ⟨fn, cN, cT, cW, c', oN, oT, oW, oc, qual, doc, pm, ctv, vq, tq, tt, tw, hm, hcN, hdN, hcT, hdT, hcW, hdW, hc', hdc, hq, hNum⟩ := h
  exact ⟨fn, cN, cT, cW, c', oN, oT, oW, oc, qual, doc, pm, ctv, vq, tq, tt, tw, hs _ hm, hs _ hcN, hdN, hs _ hcT, hdT, hs _ hcW, hdW, hs _ hc', hdc, hq, hNum.mono hs⟩
theorem RowsAt.fn {news : List (Addr × Obj)} {fr l : Addr} {turn wide : Int} (h : RowsAt news fr l turn wide) : ∃ o fd, (fr, o) ∈ news ∧ o = ({ cls := .type "function", data := .func fd } : Obj) := by
  obtain ⟨_, _, _, _, _, _, _, _, _, _, _, _, _, _, _, _, _, hm, _⟩ := h
  exact ⟨_, _, hm, rfl⟩
/-- the closure `chance`: it keeps its questions in the list at D -/
def ChanceAt (news : List (Addr × Obj)) (fch D fr l : Addr) (turn wide : Int) : Prop :=
  ∃ (cA cR c' : Addr) (oA oR oc : Obj) (qual : Str) (doc pm ctv : Value) (vs : Array Value) (tq : Tok),
    (fch, fnMade (Str.ofString "chance") qual (argsOf chanceS) (bodyOf chanceS) (scopeOf chanceS) [(Str.ofString "rows", cR), (Str.ofString "asked", cA)] doc pm c' ctv) ∈ news ∧
    (cA, oA) ∈ news ∧ oA.data = .cell (some (.ref D)) ∧ (cR, oR) ∈ news ∧ oR.data = .cell (some (.ref fr)) ∧
    (c', oc) ∈ news ∧ oc.data = .fields vs ∧ vs[1]? = some (.str qual tq) ∧ RowsAt news fr l turn wide
theorem rowV_in (ns : List Int) (turn wide k : Int) : 0 ≤ rowV ns turn wide k ∧ rowV ns turn wide k < 256 ^ wide.toNat := by
  have hp : (0 : Int) < 256 ^ wide.toNat := pow_pos_of (by decide) _
  unfold rowV
  split
  · exact ⟨Int.le_refl _, hp⟩
  · exact ⟨Int.fmod_nonneg_of_pos _ hp, Int.fmod_lt_of_pos _ hp⟩
theorem len_news {prog : Program} {M : Around} {s : Shared} {E : Value → Shared → Prop} {w : World} {h₀ : Heap} {L l : Addr} {c : Nat} {vs : List Value} {news : List (Addr × Obj)} {Q : Value → Shared → Prop} (N : News h₀ L s.heap news) (hm : (l, listOf vs.toArray c) ∈ news) (hfit : vs.length ≤ 1000)
    (h : Q (.int (vs.length : Int) (s.toks + 1)) { s with toks := s.toks + 1 + 1 }) : wpAny (model prog w) M (call (.builtin "len") [.ref l]) Q E s :=
  len_list (N.isList hm) (by rw [List.size_toArray]; omega) (by rw [List.size_toArray]; exact h)
section
variable {w : World} {p : Program} {loose : List Str} {mean : ExcName → Option Value} {mg mb : Str → Option Value}
  {dp un : Nat} {gd : Option (List Code)} {cn : Str} {cs : Scope} {a : Addr} {ccd : Value} {cl : List (Str × Addr)} {outer : List Env} {A₀ : Around} {base h₀ : Heap} {L : Addr} {m : Str → Option Value} {s : Shared} {Q E : Value → Shared → Prop} {news : List (Addr × Obj)}
local macro_rules | `(tactic| walk_at "call builtin:len") => `(tactic| (
  k_here
  (with_reducible show wpAny _ _ (call (Value.builtin "len") [Value.ref _]) _ _ _)
  k_dflt (refine' len_news ?j1 ?j2 ?j3 ?_; (case j1 => k_asm); (case j2 => k_mem); (case j3 => (try simp only [List.length_append, List.length_cons, List.length_nil]); omega))
  (try simp only [List.length_append, List.length_cons, List.length_nil, Nat.zero_add])))
local macro_rules | `(tactic| walk_at "my closure") => `(tactic| (refine' code_nest ?k1 ?k2 ?k3 ?k4 ?k5 ?kA ?kF ?kK ?k6 ?k7 ?k8 ?k9 ?kB ?_ ?c2 ?c3 ?c4 ?c5; (case kA => exact rfl); (case kF => exact rfl); (case kK => first | exact rfl | assumption); (case k1 => k_asm); (case k2 => k_asm); (case k3 => k_asm); (case k4 => k_asm); (case k5 => k_asm); (case k6 => k_mem); (case k7 => exact codeRec_news (by k_asm) (by k_mem) (by assumption) (by assumption)); (case k8 => ktr_room); (case k9 => exact BindsTo.of_eq rfl); (case c5 => decide); (case kB => exact locs rfl); (case c2 => exact rfl); (case c3 => exact rfl); (case c4 => exact rfl); k_whole; intro g' L' h' FG' F' N' B' X' T'; (try dsimp only); (try k_lift B'); (try k_fold)))
local macro_rules | `(tactic| walk_at "eval Name") => `(tactic| (k_here; k_dflt (refine' nameX_F ?N ?c ?m ?d ?_ ?a ?b; (case a => rfl); (case b => rfl); (case N => k_asm); (case c => rfl); (case m => k_mem); (case d => assumption); k_whole)))
local macro_rules | `(tactic| walk_at "callWith ref") => `(tactic| (k_here; k_dflt (first
  | (refine' callWith_F ?k1 ?_; (case k1 => exact FnAt.of (by k_asm) (by k_mem)); k_whole)
  | (refine' callWith_F0 ?k1 ?_; (case k1 => exact FnAt.of (by k_asm) (by k_mem)); k_whole; try dsimp only [List.nil_append, List.cons_append]))))
local macro_rules | `(tactic| walk_at "FnAt") => `(tactic| (k_dflt (exact FnAt.of (by k_asm) (by k_mem))))
local macro_rules | `(tactic| k_mem) => `(tactic| first | assumption | exact List.mem_cons_of_mem _ (by assumption) | exact List.mem_cons_of_mem _ (List.mem_cons_of_mem _ (by assumption)))
local macro_rules | `(tactic| k_all) => `(tactic| assumption)
local macro_rules | `(tactic| walk_at "call ref") => `(tactic| (
  k_here
  (with_reducible show wpAny _ _ (call (Value.ref _) [Value.int _ _]) _ _ _)
  k_dflt (refine' rows_ok ?j1 ?j2 ?j3 ?j4 ?j5 ?j6 ?j7 ?j8 ?j9 ?j10 ?j11 ?j12 ?j13 ?j14 ?j15 ?j16 ?j17 ?j18 ?j19 ?_; (case j1 => k_asm); (case j2 => k_asm); (case j3 => k_asm); (case j4 => k_asm); (case j5 => k_asm); (case j6 => first | exact rfl | assumption); (case j7 => ktr_room); (case j8 => ktr_units); (case j9 => exact RowsAt.mono (by assumption) (fun _ hp => List.mem_cons_of_mem _ hp)); (case j10 => k_asm); (case j11 => assumption); (case j12 => omega); (case j13 => assumption); (case j14 => omega); (case j15 => omega); (case j16 => omega); (case j17 => omega); (case j18 => omega); (case j19 => omega))
  intro t9 h9 tk9 F9 N9
  (try dsimp only)
  (try k_sweep)
  (try k_fold)))
local macro_rules | `(tactic| walk_at "call builtin:int.to_bytes") => `(tactic| (
  k_here
  (with_reducible show wpAny _ _ (call (Value.builtin "int.to_bytes") [Value.int _ _, Value.int _ _, Value.str _ _]) _ _ _)
  k_dflt (refine' to_bigZ ?j1 ?j2 ?j3 ?j4 ?_; (case j1 => omega); (case j2 => omega); (case j3 => exact (rowV_in _ _ _ _).1); (case j4 => exact (rowV_in _ _ _ _).2))
  intro t9 tk9
  (try dsimp only)
  (try k_fold)))
set_option maxRecDepth 100000 in
set_option maxHeartbeats 8000000 in
theorem chance_ok {fch D fr l : Addr} {xs vs : List Value} {ns : List Int} {turn wide : Int} {t : Tok} {c : Nat} {rest : List (Addr × Obj)} (B : Below A₀ base outer h₀) (F : Fr h₀ L s.heap m) (X : (hd.heap_39 w.params).In h₀) (N : News h₀ L s.heap ((D, listOf xs.toArray c) :: rest)) (T : Top p loose mean mg mb h₀) (hk : cs.kind = .function)
    (hdp : dp + 4 < recursionLimit) (hun : un + 32 < cLine) (hch : ChanceAt rest fch D fr l turn wide) (hD : ∀ p ∈ rest, p.1 ≠ D) (hl : base.IsList l vs.toArray) (hi : IntsAre vs ns) (hlen : ns.length ≤ 63) (hbits : BitsIn ns)
    (ht0 : 0 ≤ turn) (ht1 : turn ≤ 2) (hw0 : 1 ≤ wide) (hw1 : wide ≤ 100) (h1 : xs.length ≤ 3)
    (hret : ∀ t' c' h' tk, Fr h₀ L h' m → News h₀ L h' ((D, listOf (xs ++ [Value.int wide t]).toArray c') :: rest) → Q (.bytes (bigArr wide.toNat (rowV ns turn wide ((xs.length : Int) + 1))) t') { s with heap := h', toks := tk }) :
    wpAny (model PySem.Challenge.rw_jy0047_01.row.prog w) (ktrTop dp un gd cn cs L a ccd cl outer) (call (.ref fch) [.int wide t]) Q E s := by
  have fill : (fun (_ : OpenLaw) (_ : Params → Frag) => wpAny (model PySem.Challenge.rw_jy0047_01.row.prog w) (ktrTop dp un gd cn cs L a ccd cl outer) (call (.ref fch) [.int wide t]) Q E s) PySem.Challenge.rw_jy0047_01 hd.heap_39 := by
    w_top off
    k_fill
    obtain ⟨cA, cR, c', oA, oR, oc, qual, doc, pm, ctv, vq, tq, hm, hcA, hdA, hcR, hdR, hc', hdc, hq, hRows⟩ := hch
    dsimp only [argsOf, bodyOf, scopeOf, chanceS, turnS, lawS, nth, PySem.Challenge.pw_jy0047_01] at hm
    obtain ⟨oF, fdF, hmF, rfl⟩ := hRows.fn
    refine wpAny_call ?_
    k_dflt (walk_at "my closure")
    k_steps
    all_goals exact hret _ _ _ _ (by k_asm) (by k_asm)
  exact fill
end
end JI
section JJ
open PySem.Calls
def Held (P : Prop) : Prop := P
theorem Held.mk {P : Prop} (h : P) : Held P := h
section
variable {w : World} {p : Program} {loose : List Str} {mean : ExcName → Option Value} {mg mb : Str → Option Value}
  {dp un : Nat} {gd : Option (List Code)} {cn : Str} {cs : Scope} {a : Addr} {ccd : Value} {cl : List (Str × Addr)} {outer : List Env} {A₀ : Around} {base h₀ : Heap} {L : Addr} {m : Str → Option Value} {s : Shared} {Q E : Value → Shared → Prop} {news : List (Addr × Obj)}
local macro_rules | `(tactic| k_mem) => `(tactic| first | assumption | exact List.mem_cons_self .. | exact List.mem_cons_of_mem _ (by assumption) | exact List.mem_cons_of_mem _ (List.mem_cons_self ..) | exact List.mem_cons_of_mem _ (List.mem_cons_of_mem _ (by assumption)))
local macro_rules | `(tactic| k_all) => `(tactic| assumption)
local macro_rules | `(tactic| walk_at "eval Name") => `(tactic| (k_here; k_dflt (refine' nameX_F ?N ?c ?m ?d ?_ ?a ?b; (case a => rfl); (case b => rfl); (case N => k_asm); (case c => rfl); (case m => k_mem); (case d => assumption); k_whole)))
local macro_rules | `(tactic| walk_at "callWith ref") => `(tactic| (k_here; k_dflt (first
  | (refine' callWith_F ?k1 ?_; (case k1 => exact FnAt.of (by k_asm) (by k_mem)); k_whole)
  | (refine' callWith_F0 ?k1 ?_; (case k1 => exact FnAt.of (by k_asm) (by k_mem)); k_whole; try dsimp only [List.nil_append, List.cons_append]))))
local macro_rules | `(tactic| walk_at "FnAt") => `(tactic| (k_dflt (exact FnAt.of (by k_asm) (by k_mem))))
local macro_rules | `(tactic| walk_at "call ref") => `(tactic| (
  k_here
  (with_reducible show wpAny _ _ (call (Value.ref _) [Value.int _ _]) _ _ _)
  k_dflt (refine' chance_ok ?j1 ?j2 ?j3 ?j4 ?j5 ?j6 ?j7 ?j8 ?j9 ?j10 ?j11 ?j12 ?j13 ?j14 ?j15 ?j16 ?j17 ?j18 ?j19 ?_; (case j1 => k_asm); (case j2 => k_asm); (case j3 => k_asm); (case j4 => k_asm); (case j5 => k_asm); (case j6 => first | exact rfl | assumption); (case j7 => ktr_room); (case j8 => ktr_units); (case j9 => assumption); (case j10 => assumption); (case j11 => k_asm); (case j12 => assumption); (case j13 => omega); (case j14 => assumption); (case j15 => omega); (case j16 => omega); (case j17 => omega); (case j18 => omega); (case j19 => omega))
  intro t9 c9 h9 tk9 F9 N9
  (try dsimp only)
  (try k_sweep)
  (try k_fold)))
theorem ChanceAt.fn {news : List (Addr × Obj)} {fch D fr l : Addr} {turn wide : Int} (h : ChanceAt news fch D fr l turn wide) : ∃ o fd, (fch, o) ∈ news ∧ o = ({ cls := .type "function", data := .func fd } : Obj) := by
  obtain ⟨_, _, _, _, _, _, _, _, _, _, _, _, hm, _⟩ := h
  exact ⟨_, _, hm, rfl⟩
local macro_rules | `(tactic| walk_at "call type:list") => `(tactic| (
  k_here
  (with_reducible show wpAny _ _ (call (Value.type "list") [Value.bytes (bigArr _ _) _]) _ _ _)
  k_dflt (refine' list_bytes ?j1 ?j2 ?j3 _ _ ?j4 ?_; (case j1 => k_asm); (case j2 => k_asm); (case j3 => rfl); (case j4 => rw [bigArr_size]; omega))
  intro D9 vs9 c9 h9 tk9 F9 N9 hI9 l9
  (try dsimp only)
  (try k_sweep)
  (try k_fold)))
set_option maxRecDepth 100000 in
set_option maxHeartbeats 8000000 in
theorem random_list_ok {fch D fr l : Addr} {xs vs : List Value} {ns : List Int} {turn wide : Int} {t : Tok} {c : Nat} {rest : List (Addr × Obj)} (B : Below A₀ base outer h₀) (F : Fr h₀ L s.heap m) (X : (hd.heap_39 w.params).In h₀) (N : News h₀ L s.heap ((D, listOf xs.toArray c) :: rest)) (T : Top p loose mean mg mb h₀) (hk : cs.kind = .function)
    (hdp : dp + 5 < recursionLimit) (hun : un + 40 < cLine) (hch : ChanceAt rest fch D fr l turn wide) (hD : ∀ p ∈ rest, p.1 ≠ D) (hl : base.IsList l vs.toArray) (hi : IntsAre vs ns) (hlen : ns.length ≤ 63) (hbits : BitsIn ns)
    (ht0 : 0 ≤ turn) (ht1 : turn ≤ 2) (hw0 : 1 ≤ wide) (hw1 : wide ≤ 100) (h1 : xs.length ≤ 3)
    (hret : ∀ R ys c' c'' h' tk, Fr h₀ L h' m → News h₀ L h' ((R, listOf ys.toArray c'') :: (D, listOf (xs ++ [Value.int wide t]).toArray c') :: rest) → IntsAre ys (KBw.bInts (bigArr wide.toNat (rowV ns turn wide ((xs.length : Int) + 1)))) → Q (.ref R) { s with heap := h', toks := tk }) :
    wpAny (model PySem.Challenge.rw_jy0047_01.row.prog w) (ktrTop dp un gd cn cs L a ccd cl outer) (call (.ref 56) [.int wide t, .ref fch]) Q E s := by
  have fill : (fun (_ : OpenLaw) (_ : Params → Frag) => wpAny (model PySem.Challenge.rw_jy0047_01.row.prog w) (ktrTop dp un gd cn cs L a ccd cl outer) (call (.ref 56) [.int wide t, .ref fch]) Q E s) PySem.Challenge.rw_jy0047_01 hd.heap_39 := by
    w_top off
    k_fill
    obtain ⟨oF, fdF, hmF, rfl⟩ := hch.fn
    refine wpAny_call ?_
    k_dflt cell_enter
    k_steps
    all_goals exact hret _ _ _ _ _ _ (by k_asm) (by k_asm) (by assumption)
  exact fill
end
end JJ
section JM
theorem p2 (k : Nat) : (0 : Int) < 2 ^ k := kbt_pos k
theorem p256 (k : Nat) : (0 : Int) < 256 ^ k := pow_pos_of (by decide) k
theorem value_snoc (l : List Int) (d : Int) : KFB.value (l ++ [d]) = KFB.value l * 256 + d := by
  unfold KFB.value
  rw [List.foldl_append]
  rfl
theorem foldl_from (r : List Int) : ∀ a : Int, r.foldl (fun a k => a * 256 + k) a = a * 256 ^ r.length + r.foldl (fun a k => a * 256 + k) 0 := by
  induction r with
  | nil => intro a; simp
  | cons d r ih =>
    intro a
    rw [List.foldl_cons, List.foldl_cons, ih (a * 256 + d), ih (0 * 256 + d), List.length_cons, Int.pow_succ]
    generalize (256 : Int) ^ r.length = P
    generalize r.foldl (fun a k => a * 256 + k) 0 = V
    rw [Int.zero_mul, Int.zero_add, Int.add_mul, Int.mul_assoc, Int.mul_comm 256 P]
    omega
theorem value_cons (d : Int) (r : List Int) : KFB.value (d :: r) = d * 256 ^ r.length + KFB.value r := by
  unfold KFB.value
  rw [List.foldl_cons, foldl_from, Int.zero_mul, Int.zero_add]
/-- two rests, one above the other -/
theorem mod_step (x a b : Int) (ha : 0 < a) (hb : 0 < b) : x % (a * b) = a * (x / a % b) + x % a := by
  have h1 := Int.mul_ediv_add_emod x a
  have h2 := Int.mul_ediv_add_emod (x / a) b
  have h3 := Int.emod_nonneg x (Int.ne_of_gt ha)
  have h4 := Int.emod_lt_of_pos x ha
  have h5 := Int.emod_nonneg (x / a) (Int.ne_of_gt hb)
  have h6 := Int.emod_lt_of_pos (x / a) hb
  refine (kbt_unique (q := x / a / b) (Int.mul_pos ha hb) ?_ ?_ ?_).2
  · rw [Int.mul_assoc, Int.add_right_comm, ← Int.mul_add]
    rw [Int.add_comm (x / a % b), h2, h1]
  · have := Int.mul_nonneg (Int.le_of_lt ha) h5
    omega
  · have h7 : a * (x / a % b) ≤ a * (b - 1) := Int.mul_le_mul_of_nonneg_left (by omega) (Int.le_of_lt ha)
    rw [Int.mul_sub, Int.mul_one] at h7
    omega
theorem value_little : ∀ (n : Nat) (x : Int), KFB.value (KTBy.little n x).reverse = x % 256 ^ n
  | 0, x => by simp [KTBy.little, KFB.value, Int.emod_one]
  | n + 1, x => by
    show KFB.value (x % 256 :: KTBy.little n (x / 256)).reverse = _
    rw [List.reverse_cons, value_snoc, value_little n, Int.pow_succ, Int.mul_comm (256 ^ n) 256, mod_step x 256 (256 ^ n) (by decide) (p256 n), Int.mul_comm 256]
theorem little_last (n : Nat) (x : Int) : KTBy.little (n + 1) x = KTBy.little n x ++ [x / 256 ^ n % 256] := by
  rw [KTBy.little_eq, KTBy.little_eq, List.range_succ, List.map_append]
  rfl
theorem mod_mod_pow (d : Int) {r : Nat} (h : r ≤ 8) : d % 256 % 2 ^ r = d % 2 ^ r := by
  refine Int.emod_emod_of_dvd d ⟨2 ^ (8 - r), ?_⟩
  rw [← Int.pow_add, show r + (8 - r) = 8 by omega]
  decide
/-- the first octet masked by r bits, the others kept: the rest by 2 ^ (8 n + r) -/
theorem masked_value {n r : Nat} {x : Int} (hr : r ≤ 8) :
    KFB.value (Builtin.bitAnd (2 ^ r - 1) ((KTBy.little (n + 1) x).reverse.getD 0 0) :: (KTBy.little (n + 1) x).reverse.drop 1) = x % 2 ^ (8 * n + r) := by
  rw [little_last, List.reverse_append]
  show KFB.value (Builtin.bitAnd (2 ^ r - 1) (x / 256 ^ n % 256) :: (KTBy.little n x).reverse) = _
  rw [value_cons, List.length_reverse, KTBy.little_length, value_little, kbt_mask', mod_mod_pow _ hr]
  have e : (2 : Int) ^ (8 * n + r) = 256 ^ n * 2 ^ r := by
    rw [Int.pow_add, Int.pow_mul]
    rfl
  rw [e, mod_step x (256 ^ n) (2 ^ r) (p256 n) (p2 r), Int.mul_comm]
theorem value_big {k : Nat} {x : Int} (h0 : 0 ≤ x) (h1 : x < 256 ^ k) : KFB.value (KBw.bInts (bigArr k x)) = x := by
  rw [bigArr_ints h0 h1, value_little, Int.emod_eq_of_lt h0 h1]
end JM
section JN
def maskedL (size : Int) (ks : List Int) : List Int := Builtin.bitAnd (maskTop size) (ks.getD 0 0) :: ks.drop 1
def rowL (ns : List Int) (turn wide k : Int) : List Int := KBw.bInts (bigArr wide.toNat (rowV ns turn wide k))
def candV (ns : List Int) (turn wide size k : Int) : Int := KFB.value (maskedL size (rowL ns turn wide k))
theorem bits_pos {v : Int} (h : 1 ≤ v) : 1 ≤ Builtin.Int.intBits v := by
  have h1 := PySem.intBits_le_iff.mp (Nat.le_refl (Builtin.Int.intBits v))
  cases hb : Builtin.Int.intBits v with
  | zero =>
    rw [hb] at h1
    simp at h1
    omega
  | succ n => omega
theorem sizeBits_eq {v : Int} (h : 1 ≤ v) : sizeBits v = (Builtin.Int.intBits v : Int) := by
  have := bits_pos h
  rw [sizeBits, if_pos (by omega)]
theorem sizeBytes_eq {v : Int} (h : 1 ≤ v) : sizeBytes v = (((Builtin.Int.intBits v + 7) / 8 : Nat) : Int) := by
  rw [sizeBytes, sizeBits_eq h, Int.fdiv_eq_ediv_of_nonneg _ (by decide)]
  omega
theorem mask_eq {v : Int} (h : 1 ≤ v) : maskTop v = 2 ^ (Builtin.Int.intBits v - 8 * ((Builtin.Int.intBits v + 7) / 8 - 1)) - 1 := by
  have hb := bits_pos h
  rw [maskTop, sizeBits_eq h, Int.fmod_eq_emod_of_nonneg _ (by decide)]
  generalize Builtin.Int.intBits v = b at hb
  by_cases h8 : (b : Int) % 8 ≠ 0
  · rw [if_pos h8]
    rw [show ((b : Int) % 8).toNat = b - 8 * ((b + 7) / 8 - 1) by omega]
  · rw [if_neg h8]
    rw [show b - 8 * ((b + 7) / 8 - 1) = 8 by omega]
    decide
theorem row_bits (ns : List Int) (turn wide k : Int) : rowL ns turn wide k = (KTBy.little wide.toNat (rowV ns turn wide k)).reverse :=
  bigArr_ints (rowV_in ns turn wide k).1 (rowV_in ns turn wide k).2
theorem candV_eq {ns : List Int} {turn wide size k : Int} (hs : 1 ≤ size) (hw : sizeBytes size = wide) : candV ns turn wide size k = rowV ns turn wide k % 2 ^ Builtin.Int.intBits size := by
  have hb := bits_pos hs
  have hwb := sizeBytes_eq hs
  rw [hw] at hwb
  rw [candV, row_bits, maskedL, mask_eq hs]
  generalize rowV ns turn wide k = x
  subst hwb
  rw [Int.toNat_natCast]
  generalize Builtin.Int.intBits size = b at hb
  have h1 : (b + 7) / 8 = ((b + 7) / 8 - 1) + 1 := by omega
  have h2 := masked_value (n := (b + 7) / 8 - 1) (r := b - 8 * ((b + 7) / 8 - 1)) (x := x) (by omega)
  rw [← h1] at h2
  rw [h2, show 8 * ((b + 7) / 8 - 1) + (b - 8 * ((b + 7) / 8 - 1)) = b by omega]
theorem candV_four {ns : List Int} {turn wide size : Int} (hs : 1 ≤ size) (hw : sizeBytes size = wide) : candV ns turn wide size 4 = 0 := by
  rw [candV_eq hs hw, rowV, if_pos (by decide)]
  exact Int.zero_emod _
theorem maskTop_in (v : Int) : 0 ≤ maskTop v ∧ maskTop v < 256 := by
  have h := top_in v
  unfold maskTop
  split <;> omega
theorem bitAnd_in {x y : Int} (hx : 0 ≤ x) (hx1 : x < 256) (hy : 0 ≤ y) : 0 ≤ Builtin.bitAnd x y ∧ Builtin.bitAnd x y < 256 := by
  rw [bitAnd_pp hx hy]
  have h := @Nat.and_le_left x.toNat y.toNat
  omega
theorem masked_in {ns : List Int} {turn wide size k : Int} : KBa.In (maskedL size (rowL ns turn wide k)) := by
  have hr : ∀ d ∈ rowL ns turn wide k, 0 ≤ d ∧ d < 256 := fun d hd => KBw.ints_in hd
  have h0 : 0 ≤ (rowL ns turn wide k).getD 0 0 := by
    cases hL : rowL ns turn wide k with
    | nil => simp
    | cons d r => exact (hr d (by rw [hL]; exact .head _)).1
  intro d hd
  rcases List.mem_cons.mp hd with rfl | hd
  · exact bitAnd_in (maskTop_in size).1 (maskTop_in size).2 h0
  · exact hr d (List.mem_of_mem_drop hd)
theorem rowL_len {ns : List Int} {turn wide k : Int} : (rowL ns turn wide k).length = wide.toNat := by
  unfold rowL
  rw [KBw.ints_length, bigArr_size]
end JN
section JK
open PySem.Calls
structure Keep (P : Prop) : Prop where
  out : P
section
variable {w : World} {p : Program} {loose : List Str} {mean : ExcName → Option Value} {mg mb : Str → Option Value}
  {dp un : Nat} {gd : Option (List Code)} {cn : Str} {cs : Scope} {a : Addr} {ccd : Value} {cl : List (Str × Addr)} {outer : List Env} {A₀ : Around} {base h₀ : Heap} {L : Addr} {m : Str → Option Value} {s : Shared} {Q E : Value → Shared → Prop} {news : List (Addr × Obj)}
theorem ints_snoc : ∀ {xs : List Value} {ns : List Int} {n : Int} {t : Tok}, IntsAre xs ns → IntsAre (xs ++ [.int n t]) (ns ++ [n])
  | _, _, n, t, .nil => .cons n t .nil
  | _, _, _, _, .cons k u h => .cons k u (ints_snoc h)
theorem asked_more {xs : List Value} {j k : Nat} {n : Int} {t : Tok} (h : IntsAre xs (List.replicate j n)) (hk : k = j + 1) : IntsAre (xs ++ [.int n t]) (List.replicate k n) := by
  subst hk
  rw [List.replicate_succ']
  exact ints_snoc h
theorem masked_len (ns : List Int) (turn wide size k : Int) (h0 : 1 ≤ wide) (h1 : wide ≤ 100) : (maskedL size (rowL ns turn wide k)).length ≤ 1000 := by
  have h := rowL_len (ns := ns) (turn := turn) (wide := wide) (k := k)
  unfold maskedL
  rw [List.length_cons, List.length_drop, h]
  omega
local macro_rules | `(tactic| k_mem) => `(tactic| first | assumption | exact List.mem_cons_self .. | exact List.mem_cons_of_mem _ (by assumption) | exact List.mem_cons_of_mem _ (List.mem_cons_self ..) | exact List.mem_cons_of_mem _ (List.mem_cons_of_mem _ (by assumption)))
local macro_rules | `(tactic| k_all) => `(tactic| assumption)
local macro_rules | `(tactic| walk_at "eval Name") => `(tactic| (k_here; k_dflt (refine' nameX_F ?N ?c ?m ?d ?_ ?a ?b; (case a => rfl); (case b => rfl); (case N => k_asm); (case c => rfl); (case m => k_mem); (case d => assumption); k_whole)))
local macro_rules | `(tactic| walk_at "callWith ref") => `(tactic| (k_here; k_dflt (first
  | (refine' callWith_F ?k1 ?_; (case k1 => exact FnAt.of (by k_asm) (by k_mem)); k_whole)
  | (refine' callWith_F0 ?k1 ?_; (case k1 => exact FnAt.of (by k_asm) (by k_mem)); k_whole; try dsimp only [List.nil_append, List.cons_append]))))
local macro_rules | `(tactic| walk_at "FnAt") => `(tactic| (k_dflt (exact FnAt.of (by k_asm) (by k_mem))))
local macro_rules | `(tactic| walk_at "call builtin:len") => `(tactic| (
  k_here
  (with_reducible show wpAny _ _ (call (Value.builtin "len") [Value.ref _]) _ _ _)
  k_dflt (refine' len_news ?j1 ?j2 ?j3 ?_; (case j1 => k_asm); (case j2 => k_mem); (case j3 => (try simp only [List.length_append, List.length_cons, List.length_nil]); omega))
  (try simp only [List.length_append, List.length_cons, List.length_nil, Nat.zero_add])))
local macro_rules | `(tactic| walk_at "call ref") => `(tactic| (
  k_here
  (with_reducible show wpAny _ _ (call (Value.ref 49) _) _ _ _)
  k_dflt (refine' generate_mask_ok ?j1 ?j2 ?j3 ?j4 ?j5 ?j6 ?j7 ?j8 ?_; (case j1 => k_asm); (case j2 => k_asm); (case j3 => k_asm); (case j4 => k_asm); (case j5 => k_asm); (case j6 => first | exact rfl | assumption); (case j7 => ktr_room); (case j8 => ktr_units))
  intro x9 t9 t9 h9 tk9 F9 N9 l9
  (try dsimp only)
  (try k_sweep)
  (try k_fold)))
local macro_rules | `(tactic| walk_at "call ref") => `(tactic| (
  k_here
  (with_reducible show wpAny _ _ (call (Value.ref 56) _) _ _ _)
  k_dflt (refine' random_list_ok ?j1 ?j2 ?j3 ?j4 ?j5 ?j6 ?j7 ?j8 ?j9 ?j10 ?j11 ?j12 ?j13 ?j14 ?j15 ?j16 ?j17 ?j18 ?j19 ?_; (case j1 => k_asm); (case j2 => k_asm); (case j3 => k_asm); (case j4 => k_asm); (case j5 => k_asm); (case j6 => first | exact rfl | assumption); (case j7 => ktr_room); (case j8 => ktr_units); (case j9 => assumption); (case j10 => assumption); (case j11 => k_asm); (case j12 => assumption); (case j13 => omega); (case j14 => assumption); (case j15 => omega); (case j16 => omega); (case j17 => omega); (case j18 => omega); (case j19 => omega))
  intro D9 ys9 c9 c9 h9 tk9 F9 N9 hI9
  (have hL9 := IntsAre.length hI9; rw [KBw.ints_length, bigArr_size] at hL9)
  (try dsimp only)
  (try k_sweep)
  (try k_fold)))
local macro_rules | `(tactic| walk_at "call ref") => `(tactic| (
  k_here
  (with_reducible show wpAny _ _ (call (Value.ref 63) _) _ _ _)
  k_dflt (refine' mask_list_ok ?j1 ?j2 ?j3 ?j4 ?j5 ?j6 ?j7 ?j8 ?j9 ?j10 ?j11 ?j12 ?_; (case j1 => k_asm); (case j2 => k_asm); (case j3 => k_asm); (case j4 => k_asm); (case j5 => k_asm); (case j6 => first | exact rfl | assumption); (case j7 => ktr_room); (case j8 => ktr_units); (case j9 => k_mem); (case j10 => assumption); (case j11 => rw [KBw.ints_length, bigArr_size]; omega); (case j12 => rw [KBw.ints_length, bigArr_size]; omega))
  intro D9 ys9 c9 h9 tk9 F9 N9 hI9 l9
  (try dsimp only)
  (try k_sweep)
  (try k_fold)))
local macro_rules | `(tactic| walk_at "call ref") => `(tactic| (
  k_here
  (with_reducible show wpAny _ _ (call (Value.ref 70) _) _ _ _)
  k_dflt (refine' list_number_ok ?j1 ?j2 ?j3 ?j4 ?j5 ?j6 ?j7 ?j8 ?j9 ?j10 ?j11 ?j12 ?_; (case j1 => k_asm); (case j2 => k_asm); (case j3 => k_asm); (case j4 => k_asm); (case j5 => k_asm); (case j6 => first | exact rfl | assumption); (case j7 => ktr_room); (case j8 => ktr_units); (case j9 => k_mem); (case j10 => assumption); (case j11 => exact (masked_in : KBa.In (maskedL _ (rowL _ _ _ _)))); (case j12 => exact (masked_len _ _ _ _ _ (by assumption) (by assumption))))
  intro t9 h9 tk9 F9 N9
  (try dsimp only)
  (try k_sweep)
  (try k_fold)))
local macro_rules | `(tactic| walk_at "exec While Constant cons nil") => `(tactic| (show wpAny _ _ (exec (Stmt.While _ _ _ _) _) _ _ _; refine Keep.out ?_))
set_option maxRecDepth 100000 in
set_option maxHeartbeats 8000000 in
theorem randrange_ok {fch D fr l : Addr} {vs : List Value} {ns : List Int} {turn wide aV bV : Int} {t u : Tok} {c : Nat} {rest : List (Addr × Obj)} (B : Below A₀ base outer h₀) (F : Fr h₀ L s.heap m) (X : (hd.heap_39 w.params).In h₀) (N : News h₀ L s.heap ((D, listOf ([] : List Value).toArray c) :: rest)) (T : Top p loose mean mg mb h₀) (hk : cs.kind = .function)
    (hdp : dp + 6 < recursionLimit) (hun : un + 48 < cLine) (hch : ChanceAt rest fch D fr l turn wide) (hD : ∀ p ∈ rest, p.1 ≠ D) (hl : base.IsList l vs.toArray) (hi : IntsAre vs ns) (hlen : ns.length ≤ 63) (hbits : BitsIn ns)
    (ht0 : 0 ≤ turn) (ht1 : turn ≤ 2) (hs : 1 ≤ bV - aV) (hw : sizeBytes (bV - aV) = wide) (hw0 : 1 ≤ wide) (hw1 : wide ≤ 100)
    (hret : ∀ (k : Int) t' xs c' h' tk, 1 ≤ k → k ≤ 4 → candV ns turn wide (bV - aV) k < bV - aV → (∀ i : Int, 1 ≤ i → i < k → ¬ candV ns turn wide (bV - aV) i < bV - aV) → IntsAre xs (List.replicate k.toNat wide) →
      Fr h₀ L h' m → News h₀ L h' ((D, listOf xs.toArray c') :: rest) → Q (.int (aV + candV ns turn wide (bV - aV) k) t') { s with heap := h', toks := tk }) :
    wpAny (model PySem.Challenge.rw_jy0047_01.row.prog w) (ktrTop dp un gd cn cs L a ccd cl outer) (call (.ref 77) [.int aV t, .int bV u, .ref fch]) Q E s := by
  have fill : (fun (_ : OpenLaw) (_ : Params → Frag) => wpAny (model PySem.Challenge.rw_jy0047_01.row.prog w) (ktrTop dp un gd cn cs L a ccd cl outer) (call (.ref 77) [.int aV t, .int bV u, .ref fch]) Q E s) PySem.Challenge.rw_jy0047_01 hd.heap_39 := by
    w_top off
    k_fill
    obtain ⟨oF, fdF, hmF, rfl⟩ := hch.fn
    refine wpAny_call ?_
    k_dflt cell_enter
    subst hw
    k_steps
    refine ⟨?_⟩
    rename_i tn tm _ _ F' N' tk
    refine While_inv2 (fun n m₁ news₁ => ∃ (j : Nat) (xs : List Value) (c : Nat) (t1 t2 t3 : Tok), n = 3 - j ∧ j ≤ 3 ∧ news₁ = (D, listOf xs.toArray c) :: rest ∧ IntsAre xs (List.replicate j (sizeBytes (bV - aV))) ∧
      (∀ i : Int, 1 ≤ i → i < (j : Int) + 1 → ¬ candV ns turn (sizeBytes (bV - aV)) (bV - aV) i < bV - aV) ∧ m₁ (Str.ofString "start") = some (.int aV t) ∧ m₁ (Str.ofString "entropy_f") = some (.ref fch) ∧ m₁ (Str.ofString "maxval") = some (.int (bV - aV) t1) ∧
      m₁ (Str.ofString "num_bytes") = some (.int (sizeBytes (bV - aV)) t2) ∧ m₁ (Str.ofString "top_byte_mask_int") = some (.int (maskTop (bV - aV)) t3)) (by assumption) (cb_drop (by assumption) fun _ hp => List.mem_cons_of_mem _ hp)
      ⟨0, [], c, _, _, _, rfl, by omega, rfl, .nil, fun i h1 h2 => by omega, rfl, rfl, rfl, rfl, rfl⟩ ?_
    rintro n m₁ news₁ h₁ tk₁ F₁ N₁ ⟨j, xs, c₁, t1, t2, t3, hn, hj, rfl, hx, hno, e1, e2, e3, e4, e5⟩
    have em : kstB m₁ [(Str.ofString "start", .int aV t), (Str.ofString "entropy_f", .ref fch), (Str.ofString "maxval", .int (bV - aV) t1), (Str.ofString "num_bytes", .int (sizeBytes (bV - aV)) t2), (Str.ofString "top_byte_mask_int", .int (maskTop (bV - aV)) t3)] = m₁ :=
      funext fun z => kstB_eq (List.forall_mem_cons.mpr ⟨e1, List.forall_mem_cons.mpr ⟨e2, List.forall_mem_cons.mpr ⟨e3, List.forall_mem_cons.mpr ⟨e4, List.forall_mem_cons.mpr ⟨e5, List.forall_mem_nil _⟩⟩⟩⟩⟩) fun _ => rfl
    rw [← em] at F₁
    dsimp only [kstB] at F₁
    clear em
    have hxl := hx.length
    rw [List.length_replicate] at hxl
    (try k_sweep)
    k_steps
    · dsimp only [WhileStep2]
      k_steps
      have key : candV ns turn (sizeBytes (bV - aV)) (bV - aV) ((xs.length : Int) + 1) < bV - aV := by assumption
      refine hret ((xs.length : Int) + 1) _ (xs ++ [.int _ t2]) ?jcc _ _ (by omega) (by omega) key (fun i h1 h2 => hno i h1 (by omega)) (asked_more hx (by omega)) ?jff ?jnn
      case jff => k_asm
      case jnn => exact cb_drop (by assumption) fun _ hp => List.mem_cons_of_mem _ (List.mem_cons_of_mem _ hp)
    · have key : ¬ candV ns turn (sizeBytes (bV - aV)) (bV - aV) ((xs.length : Int) + 1) < bV - aV := by assumption
      have hj3 : j ≠ 3 := fun e => by
        have h4 := candV_four (ns := ns) (turn := turn) (size := bV - aV) hs rfl
        rw [show ((xs.length : Int) + 1) = 4 by omega, h4] at key
        omega
      refine ⟨_, _, _, _, 3 - (j + 1), rfl, by assumption, cb_drop (by assumption) fun _ hp => List.mem_cons_of_mem _ (List.mem_cons_of_mem _ hp), by omega, j + 1, xs ++ [_], _, t1, t2, t3, rfl, by omega, rfl, asked_more hx (by omega), ?_, rfl, rfl, rfl, rfl, rfl⟩
      intro i h1 h2
      by_cases hi9 : i < (j : Int) + 1
      · exact hno i h1 hi9
      · have ei : i = (xs.length : Int) + 1 := by omega
        rw [ei]
        exact key
    · exfalso; omega
  exact fill
end
end JK
section JO
set_option maxRecDepth 100000
section
variable {prog : Program} {w : World} {A : Around} {E : Value → Shared → Prop} {s : Shared} {env : Env} {h₀ : Heap} {x : Str} {px : Pos} {body : List Stmt} {Q : Flow → Shared → Prop}
/-- a for over a range whose target is any name, a captured one too: by an invariant of the frame and the ledger -/
theorem range_turns {r : Addr} {a₀ b₀ : Int} {t₀ u₀ v₀ : Tok} {n : Nat} {m₀ : Str → Option Value} {news : List (Addr × Obj)} (J : Nat → (Str → Option Value) → List (Addr × Obj) → Prop)
    (hh : A.handled = none) (hr : IsRange s.heap r a₀ b₀ 1 t₀ u₀ v₀) (hsmall : Builtin.Range.small a₀ b₀ 1 = true) (hn : Builtin.Range.rangeSize a₀ b₀ 1 = (n : Int)) (F : Fr h₀ env.locals s.heap m₀) (N : News h₀ env.locals s.heap news) (h0 : J 0 m₀ news)
    (turn : ∀ i I it t m₁ news₁ h tk, i < n → J i m₁ news₁ → (∀ p ∈ news₁, p.1 ≠ I) → Fr h₀ env.locals h m₁ → News h₀ env.locals h ((I, it) :: news₁) →
      wpAny (model prog w) A (assign (.Name x px) env (.int (a₀ + (i : Int)) t)) (fun _ s₂ => wpAny (model prog w) A (execs body env) (UnrPost h₀ env.locals { s with heap := h, toks := tk } I it (J (i + 1)) Q) E s₂) E { s with heap := h, toks := tk })
    (done : ∀ h tk m₁ news₁, J n m₁ news₁ → Fr h₀ env.locals h m₁ → News h₀ env.locals h news₁ → Q .next { s with heap := h, toks := tk }) :
    wpAny (model prog w) A (pyIter (.ref r)) (fun it s₂ => TurnsAt prog w A h₀ env (.Name x px) body Q E it s₂) E s := by
  refine wpAny_pyIter_range hr hsmall ?_
  have W : Walks prog w A s.heap.objs.size [s.heap.objs.size] [s.heap.objs.size] n (fun i v => i < n ∧ ∃ t, v = .int (a₀ + i * 1) t)
      (fun i h => IsRangeIter h s.heap.objs.size (a₀ + (i : Nat) * 1) ((n : Int) - (i : Nat)) 1) := (Walks.range hh _ a₀ 1 n).bound
  have hnew := next_is_new F
  refine ⟨_, _, _, n, _, _, _, m₀, news, J, rfl, KTurns.ofWalks (target := .Name x px) W (fun _ _ _ _ _ _ q => wpAny_pure q), ?_, ?_, ?_, (by show IsRangeIter _ _ _ _ _; rw [hn]; simpa using Heap.get?_push_size _ rfl), F.push _, (fun p hp => ⟨Heap.get?_push_of_some _ (N p hp).1, (N p hp).2⟩), h0, ?_, ?_⟩
  · intro hm
    exact absurd F.ns.lt ((List.mem_singleton.mp hm) ▸ Nat.lt_irrefl _)
  · intro b hb
    rw [List.mem_singleton.mp hb]
    exact hnew
  · intro p hp hI
    exact absurd (Heap.lt_size (N p hp).1) ((List.mem_singleton.mp hI) ▸ Nat.lt_irrefl _)
  · rintro i v m₁ news₁ hh' tk' own hin ⟨_, t, rfl⟩ hJ hoff hown hget hall hst F₁ N₁
    obtain ⟨it, hst'⟩ : ∃ it, hh'.get? s.heap.objs.size = some it := ⟨_, hst⟩
    have hmem := hall s.heap.objs.size (List.mem_singleton.mpr rfl) hnew _ hst'
    have e1 : a₀ + (i : Int) * 1 = a₀ + (i : Int) := by rw [Int.mul_one]
    rw [e1]
    have N₂ : News h₀ env.locals hh' ((s.heap.objs.size, it) :: news₁) := fun p hp => by
      rcases List.mem_cons.mp hp with rfl | hp
      · exact N₁ _ (List.mem_append_left _ hmem)
      · exact N₁ _ (List.mem_append_right _ hp)
    refine wpAny_mono (turn i s.heap.objs.size it t m₁ news₁ hh' tk' hin hJ (fun p hp e => hoff p hp (List.mem_singleton.mpr e)) F₁ N₂) (fun _ s₂ h₂ => wpAny_mono h₂ (fun f s₃ p => ?_) fun _ _ e => e) fun _ _ e => e
    have fin : UnrEnd h₀ env.locals { s with heap := hh', toks := tk' } s.heap.objs.size it (J (i + 1)) s₃ →
        LoopStepU h₀ env.locals [s.heap.objs.size] own (J (i + 1)) { s with heap := hh', toks := tk' } .next s₃ := by
      rintro ⟨h', tk, m', news', e, F', N', ho, r⟩
      refine ⟨rfl, h', tk, m', news', e, F', fun p hp => ?_, fun p hp hI => ho p hp (List.mem_singleton.mp hI), r⟩
      rcases List.mem_append.mp hp with hp | hp
      · have h1 : p.1 = s.heap.objs.size := List.mem_singleton.mp (hown p hp)
        have h2 : hh'.get? p.1 = some p.2 := hget p hp
        have h3 : p = (s.heap.objs.size, it) := by
          rw [h1, hst'] at h2
          exact Prod.ext h1 (Option.some.inj h2).symm
        rw [h3]
        exact N' _ (List.mem_cons_self ..)
      · exact N' _ (List.mem_cons_of_mem _ hp)
    cases f with
    | ret v => exact .ret p
    | brk => exact .brk p
    | next => exact .next (fin p)
    | cont => exact .cont (fin p)
  · rintro h' tk m' news' F' N' _ hJ
    exact done h' tk m' news' hJ F' N'
end
end JO
section JP
open PySem.Calls
abbrev fnObj (fd : FuncData) : Obj := { cls := .type "function", data := .func fd }
abbrev lawCells (L : Addr) : List (Str × Addr) := cellsFrom (L + 1) (scopeOf lawS).names []
abbrev lawEnv (L fa : Addr) : Env := envX (Str.ofString "law") (scopeOf lawS) L fa (.ref 97) (lawCells L)
abbrev lawA (dp un : Nat) (gd : Option (List Code)) (L fa : Addr) : Around := ktrTop dp un gd (Str.ofString "law") (scopeOf lawS) L fa (.ref 97) (lawCells L) []
def posOf : Stmt → Pos
  | .FunctionDef _ _ _ _ _ _ _ _ _ p => p
  | _ => ⟨0, 0, 0, 0⟩
/-- the law's ledger between the turns of its first loop -/
def J1 (L fa fn cn : Addr) (fd : FuncData) (oc oN oS : Obj) (i : Nat) (_m : Str → Option Value) (news : List (Addr × Obj)) : Prop :=
  ∃ (oA oR oT oW : Obj) (vA vR vT vW : Option Value) (ps : Array Value) (extra : List (Addr × Obj)),
    oA.data = .cell vA ∧ oR.data = .cell vR ∧ oT.data = .cell vT ∧ oW.data = .cell vW ∧
    news = (fn, fnObj fd) :: (cn, oc) :: (L + 1 + 1 + 1 + 1 + 1 + 1, oW) :: (L + 1 + 1 + 1 + 1 + 1, oT) :: (L + 1 + 1 + 1 + 1, oR) :: (L + 1 + 1 + 1, oN) :: (L + 1 + 1, oA) :: (L + 1, oS) :: (93, tabObj ps) :: extra ∧ (∀ q ∈ extra, L + 1 + 1 + 1 + 1 + 1 + 1 < q.1) ∧
    ((i = 0 ∧ ps = #[] ++ #[rawInt ((55 : Nat) : Int), rawInt ((4 : Nat) : Int), .ref cn] ∧ extra = []) ∨
     (1 ≤ i ∧ ∃ (cr cc : Addr) (ocr occ : Obj) (q1 q2 : Array Value) (t1 t2 : Tok), extra = [(cr, ocr), (cc, occ)] ∧ TriplesOk ps.toList ∧
       codeAmong (posOf rowsS) ps.toList = some (.ref cr) ∧ codeAmong (posOf chanceS) ps.toList = some (.ref cc) ∧ ocr.data = .fields q1 ∧ q1[1]? = some (.str (qualnameIn (lawEnv L fa) (Str.ofString "rows") (Str.ofString "rows")) t1) ∧ occ.data = .fields q2 ∧ q2[1]? = some (.str (qualnameIn (lawEnv L fa) (Str.ofString "chance") (Str.ofString "chance")) t2)))
def sizeV (ns : List Int) (T : Int) : Int := 1 + (num ns (3 + T) * (if T = 0 then 1 else spread)).fmod (2 ^ ((num ns (6 + T)).fmod 201).toNat)
theorem far_ne {extra : List (Addr × Obj)} {k c : Nat} (h : ∀ q ∈ extra, k < q.1) (hc : c ≤ k) : ∀ q ∈ extra, q.1 ≠ c := fun q hq => Nat.ne_of_gt (Nat.lt_of_le_of_lt hc (h q hq))
theorem sizeV_pos (ns : List Int) (T : Int) : 1 ≤ sizeV ns T := by
  have := Int.fmod_nonneg_of_pos (num ns (3 + T) * (if T = 0 then 1 else spread)) (p2 ((num ns (6 + T)).fmod 201).toNat)
  unfold sizeV
  omega
structure Mark1 : Prop where
structure Keep2 (P : Prop) : Prop where
  out : P
structure CutI (h₀ : Heap) (L : Addr) (m : Str → Option Value) (news : List (Addr × Obj)) (s : Shared) (x : Str) (v : Int) (f : Flow) (s' : Shared) : Prop where
  out : f = .next ∧ ∃ h' tk t, s' = { s with heap := h', toks := tk } ∧ Fr h₀ L h' (fun y => if y = x then some (.int v t) else m y) ∧ News h₀ L h' news
theorem CutI.intro {h₀ : Heap} {L : Addr} {m : Str → Option Value} {news : List (Addr × Obj)} {s : Shared} {x : Str} {v v' : Int} {h' : Heap} {tk : Nat} {t : Tok} (F : Fr h₀ L h' (fun y => if y = x then some (.int v' t) else m y)) (N : News h₀ L h' news) (e : v' = v) :
    CutI h₀ L m news s x v .next { s with heap := h', toks := tk } := by
  subst e
  exact ⟨rfl, h', tk, t, rfl, F, N⟩
theorem cut_int {M : Model} {A : Around} {E : Value → Shared → Prop} {s : Shared} {h₀ : Heap} {L : Addr} {m : Str → Option Value} {news : List (Addr × Obj)} {st : Stmt} {rest : List Stmt} {env : Env} {Q : Flow → Shared → Prop} (x : Str) (v : Int) (_F : Fr h₀ L s.heap m) (_N : News h₀ L s.heap news)
    (h1 : wpAny M A (exec st env) (CutI h₀ L m news s x v) E s)
    (h2 : ∀ h' tk t, Fr h₀ L h' (fun y => if y = x then some (.int v t) else m y) → News h₀ L h' news → wpAny M A (execs rest env) Q E { s with heap := h', toks := tk }) :
    wpAny M A (execs (st :: rest) env) Q E s := by
  refine wpAny_execs_cons (wpAny_mono h1 (fun f s' h => ?_) fun _ _ e => e)
  obtain ⟨rfl, h', tk, t, rfl, F, N⟩ := h.out
  exact h2 h' tk t F N
/-- what the two inner defs leave -/
structure CutD (h₀ : Heap) (L fa fn cn l I : Addr) (fd : FuncData) (oc oN oS it : Obj) (ns : List Int) (Tn : Int) (i : Nat) (s : Shared) (f : Flow) (s' : Shared) : Prop where
  out : f = .next ∧ ∃ (h' : Heap) (tk : Nat) (m' : Str → Option Value) (D fr fch : Addr) (rest news' : List (Addr × Obj)) (oT oW oR oA : Obj) (tT tW t1 t2 t3 : Tok),
    s' = { s with heap := h', toks := tk } ∧ Fr h₀ L h' m' ∧ News h₀ L h' ((D, listOf ([] : List Value).toArray 0) :: (I, it) :: rest) ∧ (∀ q ∈ (I, it) :: rest, q.1 ≠ D) ∧
    m' (Str.ofString "start") = some (.int (num ns Tn) t1) ∧ m' (Str.ofString "size") = some (.int (sizeV ns Tn) t2) ∧ m' (Str.ofString "bits") = some (.int (Builtin.Int.intBits (sizeV ns Tn) : Nat) t3) ∧ m' (Str.ofString "chance") = some (.ref fch) ∧
    ChanceAt rest fch D fr l Tn (sizeBytes (sizeV ns Tn)) ∧
    (L + 1 + 1 + 1 + 1 + 1, oT) ∈ rest ∧ oT.data = .cell (some (.int Tn tT)) ∧ (L + 1 + 1 + 1 + 1 + 1 + 1, oW) ∈ rest ∧ oW.data = .cell (some (.int (sizeBytes (sizeV ns Tn)) tW)) ∧ (L + 1 + 1 + 1, oN) ∈ rest ∧
    (L + 1 + 1 + 1 + 1, oR) ∈ rest ∧ oR.data = .cell (some (.ref fr)) ∧ (L + 1 + 1, oA) ∈ rest ∧ oA.data = .cell (some (.ref D)) ∧
    (∀ q ∈ news', q ∈ rest) ∧ (∀ q ∈ news', q.1 ≠ I) ∧ J1 L fa fn cn fd oc oN oS (i + 1) m' news'
theorem cut_defs {M : Model} {A : Around} {E : Value → Shared → Prop} {s : Shared} {st st' : Stmt} {rest : List Stmt} {env : Env} {Q : Flow → Shared → Prop} (R : Flow → Shared → Prop) (hR : ∀ f s', R f s' → f = .next)
    (h1 : wpAny M A (exec st env) (fun f s' => f = .next ∧ wpAny M A (exec st' env) R E s') E s)
    (h2 : ∀ s', R .next s' → wpAny M A (execs rest env) Q E s') : wpAny M A (execs (st :: st' :: rest) env) Q E s := by
  refine wpAny_execs_cons (wpAny_mono h1 (fun f s' h => ?_) fun _ _ e => e)
  obtain ⟨rfl, h⟩ := h
  refine wpAny_execs_cons (wpAny_mono h (fun f s' h => ?_) fun _ _ e => e)
  obtain rfl := hR f s' h
  exact h2 s' h
theorem pick4 {h₀ h : Heap} {L : Addr} {a b c d x y : Addr × Obj} {post : List (Addr × Obj)} (N : News h₀ L h (a :: b :: c :: d :: x :: y :: post)) : News h₀ L h (x :: y :: a :: b :: c :: d :: post) := by
  intro q hq
  refine N q ?_
  simp only [List.mem_cons] at hq ⊢
  rcases hq with h | h | h | h | h | h | h
  · exact .inr (.inr (.inr (.inr (.inl h))))
  · exact .inr (.inr (.inr (.inr (.inr (.inl h)))))
  · exact .inl h
  · exact .inr (.inl h)
  · exact .inr (.inr (.inl h))
  · exact .inr (.inr (.inr (.inl h)))
  · exact .inr (.inr (.inr (.inr (.inr (.inr h)))))
theorem pick2 {h₀ h : Heap} {L : Addr} {a b x y : Addr × Obj} {post : List (Addr × Obj)} (N : News h₀ L h (a :: b :: x :: y :: post)) : News h₀ L h (x :: y :: a :: b :: post) := by
  intro q hq
  refine N q ?_
  simp only [List.mem_cons] at hq ⊢
  rcases hq with h | h | h | h | h
  · exact .inr (.inr (.inl h))
  · exact .inr (.inr (.inr (.inl h)))
  · exact .inl h
  · exact .inr (.inl h)
  · exact .inr (.inr (.inr (.inr h)))
end JP
section JQ
open PySem.Calls
theorem ChanceAt.mono {n₁ n₂ : List (Addr × Obj)} {fch D fr l : Addr} {turn wide : Int} (h : ChanceAt n₁ fch D fr l turn wide) (hs : ∀ p ∈ n₁, p ∈ n₂) : ChanceAt n₂ fch D fr l turn wide := by
  obtain ⟨cA, cR, c', oA, oR, oc, qual, doc, pm, ctv, vq, tq, hm, hcA, hdA, hcR, hdR, hc', hdc, hq, hRows⟩ := h
  exact ⟨cA, cR, c', oA, oR, oc, qual, doc, pm, ctv, vq, tq, hs _ hm, hs _ hcA, hdA, hs _ hcR, hdR, hs _ hc', hdc, hq, hRows.mono hs⟩
theorem ChanceAt.rows {news : List (Addr × Obj)} {fch D fr l : Addr} {turn wide : Int} (h : ChanceAt news fch D fr l turn wide) : RowsAt news fr l turn wide := by
  obtain ⟨_, _, _, _, _, _, _, _, _, _, _, _, _, _, _, _, _, _, _, _, hRows⟩ := h
  exact hRows
theorem rowmod_eq {ns : List Int} {turn wide size k : Int} (hs : 1 ≤ size) (hw : sizeBytes size = wide) : (rowV ns turn wide k).fmod (2 ^ (((Builtin.Int.intBits size : Nat) : Int)).toNat) = candV ns turn wide size k := by
  rw [candV_eq hs hw, Int.toNat_natCast, Int.fmod_eq_emod_of_nonneg _ (Int.le_of_lt (p2 _))]
theorem mask_pow {size : Int} (hs : 1 ≤ size) : maskTop size = 2 ^ (((Builtin.Int.intBits size : Nat) : Int) - 8 * (sizeBytes size - 1)).toNat - 1 := by
  have hb := bits_pos hs
  rw [mask_eq hs, sizeBytes_eq hs]
  congr 2
  omega
theorem mask_exp {size : Int} (hs : 1 ≤ size) : 0 ≤ ((Builtin.Int.intBits size : Nat) : Int) - 8 * (sizeBytes size - 1) ∧ ((Builtin.Int.intBits size : Nat) : Int) - 8 * (sizeBytes size - 1) ≤ 8 := by
  have hb := bits_pos hs
  rw [sizeBytes_eq hs]
  omega
theorem size_bits_le (ns : List Int) (T : Int) : sizeV ns T ≤ 2 ^ 200 := by
  have h := Int.fmod_lt_of_pos (num ns (3 + T) * (if T = 0 then 1 else spread)) (p2 ((num ns (6 + T)).fmod 201).toNat)
  have h1 := Int.fmod_lt_of_pos (num ns (6 + T)) (show (0 : Int) < 201 by decide)
  have h2 : (2 : Int) ^ ((num ns (6 + T)).fmod 201).toNat ≤ 2 ^ 200 := by
    have h3 : ((num ns (6 + T)).fmod 201).toNat ≤ 200 := by omega
    have h4 : (2 : Nat) ^ ((num ns (6 + T)).fmod 201).toNat ≤ 2 ^ 200 := Nat.pow_le_pow_right (by decide) h3
    have e1 := kbt_cast ((num ns (6 + T)).fmod 201).toNat
    have e2 := kbt_cast 200
    omega
  unfold sizeV
  omega
theorem intBits_small {size : Int} (hs : 1 ≤ size) (h : size ≤ 2 ^ 200) : Builtin.Int.intBits size ≤ 201 := by
  refine PySem.intBits_le_iff.mpr ?_
  have e : (2 : Int) ^ 200 = 1606938044258990275541962092341162602522202993782792835301376 := by decide +kernel
  have e2 : (2 : Nat) ^ 201 = 3213876088517980551083924184682325205044405987565585670602752 := by decide +kernel
  rw [e] at h
  rw [e2]
  omega
theorem wide_small {size : Int} (hs : 1 ≤ size) (h : size ≤ 2 ^ 200) : 1 ≤ sizeBytes size ∧ sizeBytes size ≤ 26 := by
  have h1 := intBits_small hs h
  have h2 := bits_pos hs
  rw [sizeBytes_eq hs]
  omega
theorem ldX {M : Model} {A : Around} {E : Value → Shared → Prop} {s : Shared} {h₀ : Heap} {L a : Addr} {m : Str → Option Value} {cn : Str} {cs : Scope} {ccd : Value} {cl : List (Str × Addr)} {x : Str} {v : Value} {Q : Value → Shared → Prop} (F : Fr h₀ L s.heap m) (hv : m x = some v) (h : Q v s)
    (hk : cs.kind = .function := by rfl) (hx : (envX cn cs L a ccd cl).kindOf x = some .local := by rfl) : wpAny M A (loadName (envX cn cs L a ccd cl) x) Q E s := wpAny_loadName_local hk hx F.ns hv h
theorem flat_rep (j : Nat) (x : Int) : List.replicate j x = (List.replicate ((j : Nat) : Int).toNat [x]).flatten := by
  rw [Int.toNat_natCast]
  induction j with
  | zero => rfl
  | succ n ih => rw [List.replicate_succ, List.replicate_succ, List.flatten_cons, ← ih]; rfl
structure Mark2 : Prop where
def p3S : List Stmt := (bodyOf turnS).drop 7
section
variable {w : World} {p : Program} {loose : List Str} {mean : ExcName → Option Value} {mg mb : Str → Option Value} {dp un : Nat} {gd : Option (List Code)} {A₀ : Around} {base h₀ : Heap} {L fa : Addr} {E : Value → Shared → Prop}
local macro_rules | `(tactic| k_mem) => `(tactic| first | assumption | exact List.mem_cons_self .. | exact List.mem_cons_of_mem _ (by assumption) | exact List.mem_cons_of_mem _ (List.mem_cons_self ..) | exact List.mem_cons_of_mem _ (List.mem_cons_of_mem _ (by assumption)) | exact List.mem_cons_of_mem _ (List.mem_cons_of_mem _ (List.mem_cons_of_mem _ (by assumption))) | exact List.mem_cons_of_mem _ (List.mem_cons_of_mem _ (List.mem_cons_of_mem _ (List.mem_cons_of_mem _ (by assumption)))))
local macro_rules | `(tactic| walk_at "call ref") => `(tactic| (
  k_here
  (with_reducible show wpAny _ _ (call (Value.ref _) [Value.int _ _]) _ _ _)
  k_dflt (refine' rows_ok ?j1 ?j2 ?j3 ?j4 ?j5 ?j6 ?j7 ?j8 ?j9 ?j10 ?j11 ?j12 ?j13 ?j14 ?j15 ?j16 ?j17 ?j18 ?j19 ?_; (case j1 => k_asm); (case j2 => k_asm); (case j3 => k_asm); (case j4 => k_asm); (case j5 => k_asm); (case j6 => first | exact rfl | assumption); (case j7 => ktr_room); (case j8 => ktr_units); (case j9 => first | exact RowsAt.mono (by assumption) (fun _ hp => List.mem_cons_of_mem _ (List.mem_cons_of_mem _ hp)) | exact RowsAt.mono (by assumption) (fun _ hp => List.mem_cons_of_mem _ (List.mem_cons_of_mem _ (List.mem_cons_of_mem _ hp)))); (case j10 => k_asm); (case j11 => assumption); (case j12 => omega); (case j13 => assumption); (case j14 => omega); (case j15 => omega); (case j16 => omega); (case j17 => omega); (case j18 => omega); (case j19 => omega))
  intro t9 h9 tk9 F9 N9
  (try dsimp only)
  (try k_sweep)
  (try k_fold)))
local macro_rules | `(tactic| walk_at "call ref") => `(tactic| (
  k_here
  (with_reducible show wpAny _ _ (call (Value.ref 21) _) _ _ _)
  k_dflt (refine' size_bits_ok ?j1 ?j2 ?j3 ?j4 ?j5 ?j6 ?j7 ?j8 ?_; (case j1 => k_asm); (case j2 => k_asm); (case j3 => k_asm); (case j4 => k_asm); (case j5 => k_asm); (case j6 => first | exact rfl | assumption); (case j7 => ktr_room); (case j8 => ktr_units))
  intro t9 h9 tk9 F9 N9
  (try dsimp only)
  (try k_sweep)
  (try k_fold)))
local macro_rules | `(tactic| walk_at "call ref") => `(tactic| (
  k_here
  (with_reducible show wpAny _ _ (call (Value.ref 28) _) _ _ _)
  k_dflt (refine' size_bytes_ok ?j1 ?j2 ?j3 ?j4 ?j5 ?j6 ?j7 ?j8 ?_; (case j1 => k_asm); (case j2 => k_asm); (case j3 => k_asm); (case j4 => k_asm); (case j5 => k_asm); (case j6 => first | exact rfl | assumption); (case j7 => ktr_room); (case j8 => ktr_units))
  intro t9 h9 tk9 F9 N9
  (try dsimp only)
  (try k_sweep)
  (try k_fold)))
local macro_rules | `(tactic| walk_at "call ref") => `(tactic| (
  k_here
  (with_reducible show wpAny _ _ (call (Value.ref 49) _) _ _ _)
  k_dflt (refine' generate_mask_ok ?j1 ?j2 ?j3 ?j4 ?j5 ?j6 ?j7 ?j8 ?_; (case j1 => k_asm); (case j2 => k_asm); (case j3 => k_asm); (case j4 => k_asm); (case j5 => k_asm); (case j6 => first | exact rfl | assumption); (case j7 => ktr_room); (case j8 => ktr_units))
  intro x9 t9 t9 h9 tk9 F9 N9 l9
  (try dsimp only)
  (try k_sweep)
  (try k_fold)))
theorem randrange_ok2 {cn : Str} {cs : Scope} {a : Addr} {ccd : Value} {cl : List (Str × Addr)} {outer : List Env} {m : Str → Option Value} {s : Shared} {Q : Value → Shared → Prop}
    {fch D fr l : Addr} {vs : List Value} {ns : List Int} {turn wide aV bV size : Int} {t u : Tok} {c : Nat} {rest : List (Addr × Obj)} (B : Below A₀ base outer h₀) (F : Fr h₀ L s.heap m) (X : (hd.heap_39 w.params).In h₀) (N : News h₀ L s.heap ((D, listOf ([] : List Value).toArray c) :: rest)) (T : Top p loose mean mg mb h₀) (hk : cs.kind = .function)
    (hdp : dp + 6 < recursionLimit) (hun : un + 48 < cLine) (hch : ChanceAt rest fch D fr l turn wide) (hD : ∀ p ∈ rest, p.1 ≠ D) (hl : base.IsList l vs.toArray) (hi : IntsAre vs ns) (hlen : ns.length ≤ 63) (hbits : BitsIn ns)
    (ht0 : 0 ≤ turn) (ht1 : turn ≤ 2) (hsz : bV - aV = size) (hs : 1 ≤ size) (hw : sizeBytes size = wide) (hw0 : 1 ≤ wide) (hw1 : wide ≤ 100)
    (hret : ∀ (k : Int) t' xs c' h' tk, 1 ≤ k → k ≤ 4 → candV ns turn wide size k < size → (∀ i : Int, 1 ≤ i → i < k → ¬ candV ns turn wide size i < size) → IntsAre xs (List.replicate k.toNat wide) →
      Fr h₀ L h' m → News h₀ L h' ((D, listOf xs.toArray c') :: rest) → Q (.int (aV + candV ns turn wide size k) t') { s with heap := h', toks := tk }) :
    wpAny (model PySem.Challenge.rw_jy0047_01.row.prog w) (ktrTop dp un gd cn cs L a ccd cl outer) (call (.ref 77) [.int aV t, .int bV u, .ref fch]) Q E s := by
  subst hsz
  exact randrange_ok B F X N T hk hdp hun hch hD hl hi hlen hbits ht0 ht1 hs hw hw0 hw1 hret
local macro_rules | `(tactic| walk_at "call ref") => `(tactic| (
  k_here
  (with_reducible show wpAny _ _ (call (Value.ref 77) _) _ _ _)
  k_dflt (refine' randrange_ok2 ?j1 ?j2 ?j3 ?j4 ?j5 ?j6 ?j7 ?j8 ?j9 ?j10 ?j11 ?j12 ?j13 ?j14 ?j15 ?j16 ?j17 ?j18 ?j19 ?j20 ?j21 ?_; (case j1 => k_asm); (case j2 => k_asm); (case j3 => k_asm); (case j4 => k_asm); (case j5 => k_asm); (case j6 => first | exact rfl | assumption); (case j7 => ktr_room); (case j8 => ktr_units); (case j9 => exact ChanceAt.mono (by assumption) (fun _ hp => List.mem_cons_of_mem _ hp)); (case j19 => rfl); (case j10 => assumption); (case j11 => k_asm); (case j12 => assumption); (case j13 => assumption); (case j14 => assumption); (case j15 => assumption); (case j16 => assumption); (case j17 => omega); (case j18 => assumption); (case j20 => omega); (case j21 => omega))
  intro kk9 t9 xs9 c9 h9 tk9 hk1 hk2 hc9 hno9 hx9 F9 N9
  (try dsimp only)
  (try k_sweep)
  (try k_fold)))
local macro_rules | `(tactic| walk_at "exec While Compare cons nil") => `(tactic| ((fail_if_success (with_reducible rename Mark1 => mk9)); (show wpAny _ _ (exec (Stmt.While _ _ _ _) _) _ _ _); refine Keep2.out ?_))
local macro_rules | `(tactic| walk_at "loadName") => `(tactic| (k_here; k_dflt (refine' ldX ?k1 ?k2 ?_ ?k3 ?k4; (case k1 => k_asm); (case k2 => exact rfl); (case k3 => exact rfl); (case k4 => exact rfl); k_whole)))
local macro_rules | `(tactic| walk_at "execs cons") => `(tactic| ((fail_if_success (with_reducible rename Mark2 => mk9)); (show wpAny _ _ (execs (Stmt.If (Expr.BoolOp _ _ _) _ _ _ :: _) _) _ _ _); refine Keep2.out ?_))
set_option maxRecDepth 100000 in
set_option maxHeartbeats 8000000 in
theorem turn1b {l fn cn I D fr fch : Addr} {fd : FuncData} {oc oN oS it oT oW oR oA : Obj} {vs : List Value} {ns : List Int} {i : Nat} {Tn : Int} {tT tW t1 t2 t3 : Tok} {m' : Str → Option Value} {rest news' : List (Addr × Obj)} {Q : Flow → Shared → Prop} {s : Shared} {h : Heap} {tk : Nat}
    (B : Below A₀ base [] h₀) (F : Fr h₀ L h m') (X : (hd.heap_39 w.params).In h₀) (N : News h₀ L h ((D, listOf ([] : List Value).toArray 0) :: (I, it) :: rest)) (T : Top p loose mean mg mb h₀) (C : CodeHd h₀ 97 93)
    (hdp : dp + 10 < recursionLimit) (hun : un + 100 < cLine) (hl : base.IsList l vs.toArray) (hi : IntsAre vs ns) (hlen : ns.length ≤ 63) (hbits : BitsIn ns) (hT0 : 0 ≤ Tn) (hT1 : Tn ≤ 2)
    (hD : ∀ q ∈ (I, it) :: rest, q.1 ≠ D) (e1 : m' (Str.ofString "start") = some (.int (num ns Tn) t1)) (e2 : m' (Str.ofString "size") = some (.int (sizeV ns Tn) t2)) (e3 : m' (Str.ofString "bits") = some (.int (Builtin.Int.intBits (sizeV ns Tn) : Nat) t3)) (e4 : m' (Str.ofString "chance") = some (.ref fch))
    (hch : ChanceAt rest fch D fr l Tn (sizeBytes (sizeV ns Tn)))
    (mT : (L + 1 + 1 + 1 + 1 + 1, oT) ∈ rest) (dT : oT.data = .cell (some (.int Tn tT))) (mW : (L + 1 + 1 + 1 + 1 + 1 + 1, oW) ∈ rest) (dW : oW.data = .cell (some (.int (sizeBytes (sizeV ns Tn)) tW))) (mN : (L + 1 + 1 + 1, oN) ∈ rest)
    (mR : (L + 1 + 1 + 1 + 1, oR) ∈ rest) (dR : oR.data = .cell (some (.ref fr))) (mA : (L + 1 + 1, oA) ∈ rest) (dA : oA.data = .cell (some (.ref D)))
    (hsub : ∀ q ∈ news', q ∈ rest) (hoff : ∀ q ∈ news', q.1 ≠ I) (hJ : ∀ m'', J1 L fa fn cn fd oc oN oS (i + 1) m'' news') (hE : PassesOwn (model PySem.Challenge.rw_jy0047_01.row.prog w) (lawA dp un gd L fa) (lawEnv L fa) E) :
    wpAny (model PySem.Challenge.rw_jy0047_01.row.prog w) (lawA dp un gd L fa) (execs p3S (lawEnv L fa)) (UnrPost h₀ L s I it (J1 L fa fn cn fd oc oN oS (i + 1)) Q) E { s with heap := h, toks := tk } := by
  have fill : (fun (_ : OpenLaw) (_ : Params → Frag) => wpAny (model PySem.Challenge.rw_jy0047_01.row.prog w) (lawA dp un gd L fa) (execs p3S (lawEnv L fa)) (UnrPost h₀ L s I it (J1 L fa fn cn fd oc oN oS (i + 1)) Q) E { s with heap := h, toks := tk }) PySem.Challenge.rw_jy0047_01 hd.heap_39 := by
    w_top off
    k_fill
    have em : kstB m' [(Str.ofString "start", .int (num ns Tn) t1), (Str.ofString "size", .int (sizeV ns Tn) t2), (Str.ofString "bits", .int (Builtin.Int.intBits (sizeV ns Tn) : Nat) t3), (Str.ofString "chance", .ref fch)] = m' :=
      funext fun z => kstB_eq (List.forall_mem_cons.mpr ⟨e1, List.forall_mem_cons.mpr ⟨e2, List.forall_mem_cons.mpr ⟨e3, List.forall_mem_cons.mpr ⟨e4, List.forall_mem_nil _⟩⟩⟩⟩) fun _ => rfl
    rw [← em] at F
    dsimp only [kstB] at F
    clear em
    have hs1 : 1 ≤ sizeV ns Tn := sizeV_pos ns Tn
    have hs2 := size_bits_le ns Tn
    have hb1 := intBits_small hs1 hs2
    obtain ⟨hw0, hw1⟩ := wide_small hs1 hs2
    have hRows := hch.rows
    obtain ⟨oF, fdF, hmF, rfl⟩ := hch.fn
    obtain ⟨oF2, fdF2, hmF2, rfl⟩ := hRows.fn
    clear hs2
    dsimp only [lawA, lawEnv, lawCells, p3S, List.drop, bodyOf, turnS, scopeOf, lawS, nth, PySem.Challenge.pw_jy0047_01]
    k_steps
    refine ⟨?_⟩
    have mk : Mark1 := ⟨⟩
    rename_i kk tt xs c9 h9 tk9 hk1 hk2 hc hno hx h1 h2 F1 N1
    refine While_inv2 (fun n m₁ news₁ => ∃ (j : Nat) (tj : Tok), n = (kk - (j : Int)).toNat ∧ 1 ≤ j ∧ (j : Int) ≤ kk ∧ news₁ = (D, listOf xs.toArray c9) :: (I, it) :: rest ∧ m₁ (Str.ofString "start") = some (.int (num ns Tn) t1) ∧ m₁ (Str.ofString "size") = some (.int (sizeV ns Tn) t2) ∧
      m₁ (Str.ofString "bits") = some (.int (Builtin.Int.intBits (sizeV ns Tn) : Nat) t3) ∧ m₁ (Str.ofString "told") = some (.int (num ns Tn + candV ns Tn (sizeBytes (sizeV ns Tn)) (sizeV ns Tn) kk) tt) ∧ m₁ (Str.ofString "k") = some (.int (j : Int) tj)) F1 N1
      ⟨1, _, rfl, by omega, hk1, rfl, rfl, rfl, rfl, rfl, rfl⟩ ?_ hE
    rintro n m₁ news₁ h₁ tk₁ F₁ N₁ ⟨j, tj, hn, hj1, hj2, rfl, f1, f2, f3, f4, f5⟩
    clear F1 N1
    have em : kstB m₁ [(Str.ofString "start", .int (num ns Tn) t1), (Str.ofString "size", .int (sizeV ns Tn) t2), (Str.ofString "bits", .int (Builtin.Int.intBits (sizeV ns Tn) : Nat) t3), (Str.ofString "told", .int (num ns Tn + candV ns Tn (sizeBytes (sizeV ns Tn)) (sizeV ns Tn) kk) tt), (Str.ofString "k", .int (j : Int) tj)] = m₁ :=
      funext fun z => kstB_eq (List.forall_mem_cons.mpr ⟨f1, List.forall_mem_cons.mpr ⟨f2, List.forall_mem_cons.mpr ⟨f3, List.forall_mem_cons.mpr ⟨f4, List.forall_mem_cons.mpr ⟨f5, List.forall_mem_nil _⟩⟩⟩⟩⟩) fun _ => rfl
    rw [← em] at F₁
    dsimp only [kstB] at F₁
    clear em f1 f2 f3 f4 f5 e1 e2 e3 e4
    have hrm := rowmod_eq (ns := ns) (turn := Tn) (k := (j : Int)) hs1 rfl
    k_steps
    · have hne : (j : Int) ≠ kk := fun e => by
        rw [← e, ← hrm] at hc
        omega
      refine ⟨_, _, _, _, (kk - ((j + 1 : Nat) : Int)).toNat, rfl, by assumption, by assumption, by omega, j + 1, _, rfl, by omega, by omega, rfl, rfl, rfl, rfl, rfl, rfl⟩
    · refine ⟨?_⟩
      have mk2 : Mark2 := ⟨⟩
      rename_i hex
      have hjk : (j : Int) = kk := by
        by_cases hlt : (j : Int) < kk
        · exact absurd (by rw [← hrm]; omega) (hno (j : Int) (by omega) hlt)
        · omega
      subst hjk
      rw [Int.toNat_natCast] at hx
      have hmp := mask_pow hs1
      obtain ⟨hme0, hme1⟩ := mask_exp hs1
      have hsb := sizeBits_eq hs1
      have hfl := flat_rep j (sizeBytes (sizeV ns Tn))
      k_steps
      all_goals first
        | (exfalso; omega)
        | (exact absurd hfl (by assumption))
        | (exact absurd hmp (by assumption))
        | (exact absurd hsb (by assumption))
        | (refine UnrEnd.intro (by assumption) (by assumption) news' ?_ hoff (hJ _)
           intro q hq
           rcases List.mem_cons.mp hq with rfl | hq
           · repeat (first | exact List.mem_cons_self .. | apply List.mem_cons_of_mem)
           · have hq' := hsub q hq
             repeat (first | exact hq' | apply List.mem_cons_of_mem))
  exact fill
end
end JQ
section JR
open PySem.Calls
section
variable {w : World} {p : Program} {loose : List Str} {mean : ExcName → Option Value} {mg mb : Str → Option Value} {dp un : Nat} {gd : Option (List Code)} {A₀ : Around} {base h₀ : Heap} {L fa : Addr} {s : Shared} {E : Value → Shared → Prop}
local macro_rules | `(tactic| walk_at "call ref") => `(tactic| (
  k_here
  (with_reducible show wpAny _ _ (call (Value.ref _) [Value.int _ _]) _ _ _)
  k_dflt (refine' number_ok ?j1 ?j2 ?j3 ?j4 ?j5 ?j6 ?j7 ?j8 ?j9 ?j10 ?j11 ?j12 ?j13 ?j14 ?_; (case j1 => k_asm); (case j2 => k_asm); (case j3 => k_asm); (case j4 => k_asm); (case j5 => k_asm); (case j6 => first | exact rfl | assumption); (case j7 => ktr_room); (case j8 => ktr_units); (case j9 => exact NumAt.mono (by assumption) (List.forall_mem_cons.mpr ⟨by k_mem, List.forall_mem_cons.mpr ⟨by k_mem, List.forall_mem_cons.mpr ⟨by k_mem, List.forall_mem_nil _⟩⟩⟩)); (case j10 => k_asm); (case j11 => assumption); (case j12 => omega); (case j13 => omega); (case j14 => omega))
  intro t9 h9 tk9 F9 N9
  (try dsimp only)
  (try k_sweep)
  (try k_fold)))
local macro_rules | `(tactic| k_all) => `(tactic| exact far_ne (by assumption) (by omega))
local macro_rules | `(tactic| walk_at "execs cons") => `(tactic| ((show wpAny _ _ (execs (Stmt.Assign [Expr.Name ("size" : Str) _] _ _ :: _) _) _ _ _); refine Keep2.out ?_))
local macro_rules | `(tactic| walk_at "execs cons") => `(tactic| ((show wpAny _ _ (execs (Stmt.FunctionDef ("rows" : Str) _ _ _ _ _ _ _ _ _ :: _) _) _ _ _); refine Keep2.out ?_))
local macro_rules | `(tactic| walk_at "exec FunctionDef") => `(tactic| ((fail_if_success (with_reducible rename Mark1 => mk9)); (show wpAny _ _ (exec (Stmt.FunctionDef ("chance" : Str) _ _ _ _ _ _ _ _ _) _) _ _ _); refine Keep2.out ?_))
local macro_rules | `(tactic| kn_triples) => `(tactic| assumption)
local macro_rules | `(tactic| kn_hit) => `(tactic| assumption)
local macro_rules | `(tactic| walk_at "binaryOp Mult int int") => `(tactic| (k_here; k_dflt (first
  | (refine' mul_int ?_ ?hm; (case hm => exact mul_spread_ok (by first | (exact (by assumption : BitsIn _) _ (by omega) (by omega)) | assumption)))
  | (refine' mul_int ?_ ?hm; (case hm => exact mul_one_ok)))))
set_option maxRecDepth 100000 in
set_option maxHeartbeats 8000000 in
theorem turn1 {l fn cn I : Addr} {px : Pos} {fd : FuncData} {oc oN oS it : Obj} {vs : List Value} {ns : List Int} {i : Nat} {t : Tok} {m₁ : Str → Option Value} {news₁ : List (Addr × Obj)} {Q : Flow → Shared → Prop}
    (B : Below A₀ base [] h₀) (F : Fr h₀ L s.heap m₁) (X : (hd.heap_39 w.params).In h₀) (N : News h₀ L s.heap ((I, it) :: news₁)) (T : Top p loose mean mg mb h₀) (C : CodeHd h₀ 97 93)
    (hdp : dp + 10 < recursionLimit) (hun : un + 100 < cLine) (hNum : NumAt [(fn, fnObj fd), (cn, oc), (L + 1, oS)] fn l) (hN : oN.data = .cell (some (.ref fn))) (ha1 : @LT.lt Nat _ (L + 1 + 1 + 1 + 1 + 1 + 1) cn) (ha2 : @LT.lt Nat _ cn fn) (ha3 : @LT.lt Nat _ 93 L)
    (hl : base.IsList l vs.toArray) (hi : IntsAre vs ns) (hlen : ns.length ≤ 63) (hbits : BitsIn ns) (hi3 : i < 3) (hJ : J1 L fa fn cn fd oc oN oS i m₁ news₁) (hI : ∀ q ∈ news₁, q.1 ≠ I) (hE : PassesOwn (model PySem.Challenge.rw_jy0047_01.row.prog w) (lawA dp un gd L fa) (lawEnv L fa) E) :
    wpAny (model PySem.Challenge.rw_jy0047_01.row.prog w) (lawA dp un gd L fa) (assign (.Name (Str.ofString "turn") px) (lawEnv L fa) (.int (0 + (i : Int)) t))
      (fun _ s₂ => wpAny (model PySem.Challenge.rw_jy0047_01.row.prog w) (lawA dp un gd L fa) (execs (bodyOf turnS) (lawEnv L fa)) (UnrPost h₀ L s I it (J1 L fa fn cn fd oc oN oS (i + 1)) Q) E s₂) E s := by
  have fill : (fun (_ : OpenLaw) (_ : Params → Frag) => wpAny (model PySem.Challenge.rw_jy0047_01.row.prog w) (lawA dp un gd L fa) (assign (.Name (Str.ofString "turn") px) (lawEnv L fa) (.int (0 + (i : Int)) t))
      (fun _ s₂ => wpAny (model PySem.Challenge.rw_jy0047_01.row.prog w) (lawA dp un gd L fa) (execs (bodyOf turnS) (lawEnv L fa)) (UnrPost h₀ L s I it (J1 L fa fn cn fd oc oN oS (i + 1)) Q) E s₂) E s) PySem.Challenge.rw_jy0047_01 hd.heap_39 := by
    w_top off
    k_fill
    obtain ⟨oA, oR, oT, oW, vA, vR, vT, vW, ps, extra, hA, hR, hT, hW, rfl, hfar, hps⟩ := hJ
    simp only [List.forall_mem_cons] at hI
    obtain ⟨hI1, hI2, hI3, hI4, hI5, hI6, hI7, hI8, hI9, hIe⟩ := hI
    replace hI1 : @Ne Nat fn I := hI1
    replace hI2 : @Ne Nat cn I := hI2
    replace hI3 : @Ne Nat (L + 1 + 1 + 1 + 1 + 1 + 1) I := hI3
    replace hI4 : @Ne Nat (L + 1 + 1 + 1 + 1 + 1) I := hI4
    replace hI5 : @Ne Nat (L + 1 + 1 + 1 + 1) I := hI5
    replace hI6 : @Ne Nat (L + 1 + 1 + 1) I := hI6
    replace hI7 : @Ne Nat (L + 1 + 1) I := hI7
    replace hI8 : @Ne Nat (L + 1) I := hI8
    replace hI9 : @Ne Nat 93 I := hI9
    have hT0 : 0 ≤ (0 + (i : Int)) := by omega
    have hT1 : (0 + (i : Int)) ≤ 2 := by omega
    generalize hTi : (0 + (i : Int)) = Tn at hT0 hT1 ⊢
    dsimp only [lawA, lawEnv, lawCells, bodyOf, turnS, scopeOf, lawS, nth, PySem.Challenge.pw_jy0047_01]
    k_steps
    refine ⟨?_⟩
    rename Fr _ _ _ _ => F1
    rename News _ _ _ _ => N1
    refine cut_int (Str.ofString "size") (sizeV ns Tn) F1 N1 ?_ ?_
    · k_steps
      · exact CutI.intro (by assumption) (by assumption) (by rw [sizeV, if_pos (by assumption)])
      · exact CutI.intro (by assumption) (by assumption) (by rw [sizeV, if_neg (by assumption)]; rfl)
    · intro h2 tk2 t2 F2 N2
      clear F1 N1
      k_steps
      refine ⟨?_⟩
      have hs1 : 1 ≤ sizeV ns Tn := sizeV_pos ns Tn
      have hwd : ((Builtin.Int.intBits (sizeV ns Tn) : Int) + 7).fdiv 8 = sizeBytes (sizeV ns Tn) := by rw [sizeBytes, sizeBits_eq hs1]
      simp only [hwd] at *
      rename (Obj.data _ = Data.cell (some (Value.ref _))) => dA
      rename (Obj.data _ = Data.cell (some (Value.int Tn _))) => dT
      rename (Obj.data _ = Data.cell (some (Value.int (sizeBytes _) _))) => dW
      refine cut_defs (CutD h₀ L fa fn cn l I fd oc oN oS it ns Tn i s) (fun _ _ h => h.out.1) ?_ ?_
      · rcases hps with ⟨rfl, rfl, rfl⟩ | ⟨hi1, cr, cc, ocr, occ, q1, q2, t1, t2, rfl, htri, hcr, hcc, hq1, hx1, hq2, hx2⟩
        · k_steps
          refine ⟨?_⟩
          have mk : Mark1 := ⟨⟩
          rename (Obj.data _ = Data.cell (some (Value.ref _))) => dR
          rename (Obj.data _ = Data.fields _) => dF1
          rename (_ = some (Value.str _ _)) => dQ1
          k_steps
          rename (Obj.data _ = Data.fields _) => dF2
          rename (_ = some (Value.str _ _)) => dQ2
          rename News _ _ _ _ => N4
          rename Fr _ _ _ _ => F4
          have N5 := pick4 N4
          refine' ⟨rfl, _, _, _, _, _, _, _, _, _, _, _, _, _, _, _, _, _, rfl, F4, N5, ?joff, rfl, rfl, rfl, rfl, ?jch, by k_mem, dT, by k_mem, dW, by k_mem, by k_mem, dR, by k_mem, dA, ?jsub, ?joffI, ⟨_, _, _, _, _, _, _, _, _, _, dA, dR, dT, dW, rfl, ?jfar, .inr ⟨by omega, _, _, _, _, _, _, _, _, rfl, ?jtri, ?jc1, ?jc2, dF1, dQ1, dF2, dQ2⟩⟩⟩
          case joff => first | k_all | fail "off"
          case jch => exact ⟨_, _, _, _, _, _, _, _, _, _, _, _, by k_mem, by k_mem, dA, by k_mem, dR, by k_mem, dF2, dQ2, _, _, _, _, _, _, _, _, _, _, _, _, _, _, _, _, _, by k_mem, by k_mem, hN, by k_mem, dT, by k_mem, dW, by k_mem, dF1, dQ1, NumAt.mono hNum (List.forall_mem_cons.mpr ⟨by k_mem, List.forall_mem_cons.mpr ⟨by k_mem, List.forall_mem_cons.mpr ⟨by k_mem, List.forall_mem_nil _⟩⟩⟩)⟩
          case jsub =>
            repeat (first | exact List.forall_mem_nil _ | refine List.forall_mem_cons.mpr ⟨by k_mem, ?_⟩)
          case joffI => first | k_all | fail "offI"
          case jc1 => first | rfl | (simp [codeAmong, rawInt, posOf, rowsS, bodyOf, turnS, lawS, nth]; done)
          case jc2 => first | rfl | (simp [codeAmong, rawInt, posOf, rowsS, bodyOf, turnS, lawS, nth]; done)
          case jtri => first | exact True.intro | (simp [TriplesOk, rawInt]; done)
          case jfar => exact List.forall_mem_cons.mpr ⟨ltN (by omega), List.forall_mem_cons.mpr ⟨ltN (by omega), List.forall_mem_nil _⟩⟩
        · k_steps
          refine ⟨?_⟩
          have mk : Mark1 := ⟨⟩
          rename (Obj.data _ = Data.cell (some (Value.ref _))) => dR
          k_steps
          rename News _ _ _ _ => N4
          rename Fr _ _ _ _ => F4
          have N5 := pick2 N4
          have hf1 : @LT.lt Nat _ (L + 1 + 1 + 1 + 1 + 1 + 1) cr := hfar (cr, ocr) (.head _)
          have hf2 : @LT.lt Nat _ (L + 1 + 1 + 1 + 1 + 1 + 1) cc := hfar (cc, occ) (.tail _ (.head _))
          have hf3 : @Ne Nat cr I := hIe (cr, ocr) (.head _)
          have hf4 : @Ne Nat cc I := hIe (cc, occ) (.tail _ (.head _))
          simp only [AllLt, and_true] at *
          refine' ⟨rfl, _, _, _, _, _, _, _, _, _, _, _, _, _, _, _, _, _, rfl, F4, N5, ?joff, rfl, rfl, rfl, rfl, ?jch, by k_mem, dT, by k_mem, dW, by k_mem, by k_mem, dR, by k_mem, dA, ?jsub, ?joffI, ⟨_, _, _, _, _, _, _, _, _, _, dA, dR, dT, dW, rfl, ?jfar, .inr ⟨by omega, _, _, _, _, _, _, _, _, rfl, ?jtri, ?jc1, ?jc2, hq1, hx1, hq2, hx2⟩⟩⟩
          case joff => first | k_all | fail "off"
          case jch => exact ⟨_, _, _, _, _, _, _, _, _, _, _, _, by k_mem, by k_mem, dA, by k_mem, dR, by k_mem, hq2, hx2, _, _, _, _, _, _, _, _, _, _, _, _, _, _, _, _, _, by k_mem, by k_mem, hN, by k_mem, dT, by k_mem, dW, by k_mem, hq1, hx1, NumAt.mono hNum (List.forall_mem_cons.mpr ⟨by k_mem, List.forall_mem_cons.mpr ⟨by k_mem, List.forall_mem_cons.mpr ⟨by k_mem, List.forall_mem_nil _⟩⟩⟩)⟩
          case jsub =>
            repeat (first | exact List.forall_mem_nil _ | refine List.forall_mem_cons.mpr ⟨by k_mem, ?_⟩)
          case joffI => first | k_all | fail "offI"
          case jc1 => first | assumption | rfl | (simp [codeAmong, rawInt, posOf, rowsS, bodyOf, turnS, lawS, nth]; done)
          case jc2 => first | assumption | rfl | (simp [codeAmong, rawInt, posOf, rowsS, bodyOf, turnS, lawS, nth]; done)
          case jtri => first | assumption | exact True.intro | (simp [TriplesOk, rawInt]; done)
          case jfar => exact List.forall_mem_cons.mpr ⟨ltN (by omega), List.forall_mem_cons.mpr ⟨ltN (by omega), List.forall_mem_nil _⟩⟩
      · intro s' hcd
        obtain ⟨_, h', tk, m', D, fr, fch, rest, news', oT', oW', oR', oA', tT, tW, t1, t2, t3, rfl, F5, N5, hD, e1, e2, e3, e4, hch, mT, dT', mW, dW', mN, mR, dR', mA, dA', hsub, hoff, hJ⟩ := hcd.out
        exact turn1b B F5 X N5 T C hdp hun hl hi hlen hbits hT0 hT1 hD e1 e2 e3 e4 hch mT dT' mW dW' mN mR dR' mA dA' hsub hoff (fun _ => hJ) hE
  exact fill
end
end JR
section JS
open PySem.Calls
def turn2S : Stmt := nth (bodyOf lawS) 2
/-- the law's ledger between the turns of its second loop -/
def J2 (L fn cn : Addr) (fd : FuncData) (oc oN oS : Obj) (_i : Nat) (_m : Str → Option Value) (news : List (Addr × Obj)) : Prop :=
  ∃ (oT oW : Obj) (vT vW : Option Value) (ps : Array Value), oT.data = .cell vT ∧ oW.data = .cell vW ∧
    news = [(fn, fnObj fd), (cn, oc), (L + 1 + 1 + 1 + 1 + 1 + 1, oW), (L + 1 + 1 + 1 + 1 + 1, oT), (L + 1 + 1 + 1, oN), (L + 1, oS), (93, tabObj ps)]
def boundV (ns : List Int) (T : Int) : Int := (num ns (30 + T) * (if T.fmod 2 = 1 then spread else 1)).fmod (2 ^ (8 + (num ns (34 + T)).fmod 120).toNat)
def menuV (ns : List Int) (T b : Int) : List Int := [(num ns (38 + T)).fmod (b + 1), b, b + 1 + (num ns (38 + T)).fmod 5, 0]
def valueV (ns : List Int) (T b : Int) : Int := (menuV ns T b).getD ((T + num ns 42).fmod 4).toNat 0
theorem boundV_nonneg (ns : List Int) (T : Int) : 0 ≤ boundV ns T := Int.fmod_nonneg_of_pos _ (p2 _)
theorem boundV_lt (ns : List Int) (T : Int) : boundV ns T < 2 ^ 200 := by
  have h := Int.fmod_lt_of_pos (num ns (30 + T) * (if T.fmod 2 = 1 then spread else 1)) (p2 (8 + (num ns (34 + T)).fmod 120).toNat)
  have h1 := Int.fmod_lt_of_pos (num ns (34 + T)) (show (0 : Int) < 120 by decide)
  have h3 : (8 + (num ns (34 + T)).fmod 120).toNat ≤ 200 := by omega
  have h4 : (2 : Nat) ^ (8 + (num ns (34 + T)).fmod 120).toNat ≤ 2 ^ 200 := Nat.pow_le_pow_right (by decide) h3
  have e1 := kbt_cast (8 + (num ns (34 + T)).fmod 120).toNat
  have e2 := kbt_cast 200
  unfold boundV
  omega
theorem valueV_nonneg (ns : List Int) (T : Int) {b : Int} (hb : 0 ≤ b) : 0 ≤ valueV ns T b := by
  have h1 := Int.fmod_nonneg_of_pos (num ns (38 + T)) (show (0 : Int) < b + 1 by omega)
  have h2 := Int.fmod_nonneg_of_pos (num ns (38 + T)) (show (0 : Int) < 5 by decide)
  unfold valueV menuV
  generalize ((T + num ns 42).fmod 4).toNat = k
  match k with
  | 0 => exact h1
  | 1 => exact hb
  | 2 => show 0 ≤ b + 1 + (num ns (38 + T)).fmod 5; omega
  | 3 => exact Int.le_refl _
  | n + 4 => exact Int.le_refl _
theorem wide_max {b : Int} (hb : 0 ≤ b) : (if ((Builtin.Int.intBits b : Int) + 7).fdiv 8 > 1 then ((Builtin.Int.intBits b : Int) + 7).fdiv 8 else 1) = sizeBytes b := by
  by_cases h : 1 ≤ b
  · have := bits_pos h
    rw [sizeBytes, sizeBits_eq h, Int.fdiv_eq_ediv_of_nonneg _ (by decide)]
    omega
  · have e : b = 0 := by omega
    subst e
    decide +kernel
theorem bytes_small {b : Int} (hb : 0 ≤ b) (h : b < 2 ^ 200) : 1 ≤ sizeBytes b ∧ sizeBytes b ≤ 26 := by
  by_cases h1 : 1 ≤ b
  · exact wide_small h1 (Int.le_of_lt h)
  · have e : b = 0 := by omega
    subst e
    exact ⟨by decide +kernel, by decide +kernel⟩
structure XBox (P : Prop) : Prop where
  out : P
structure Mark3 : Prop where
structure Mark4 : Prop where
section
variable {w : World} {p : Program} {loose : List Str} {mean : ExcName → Option Value} {mg mb : Str → Option Value} {dp un : Nat} {gd : Option (List Code)} {A₀ : Around} {base h₀ : Heap} {L fa : Addr} {s : Shared} {E : Value → Shared → Prop}
local macro_rules | `(tactic| walk_at "call ref") => `(tactic| (
  k_here
  (with_reducible show wpAny _ _ (call (Value.ref _) [Value.int _ _]) _ _ _)
  k_dflt (refine' number_ok ?j1 ?j2 ?j3 ?j4 ?j5 ?j6 ?j7 ?j8 ?j9 ?j10 ?j11 ?j12 ?j13 ?j14 ?_; (case j1 => k_asm); (case j2 => k_asm); (case j3 => k_asm); (case j4 => k_asm); (case j5 => k_asm); (case j6 => first | exact rfl | assumption); (case j7 => ktr_room); (case j8 => ktr_units); (case j9 => exact NumAt.mono (by assumption) (List.forall_mem_cons.mpr ⟨by k_mem, List.forall_mem_cons.mpr ⟨by k_mem, List.forall_mem_cons.mpr ⟨by k_mem, List.forall_mem_nil _⟩⟩⟩)); (case j10 => k_asm); (case j11 => assumption); (case j12 => omega); (case j13 => omega); (case j14 => omega))
  intro t9 h9 tk9 F9 N9
  (try dsimp only)
  (try k_sweep)
  (try k_fold)))
local macro_rules | `(tactic| walk_at "call ref") => `(tactic| (
  k_here
  (with_reducible show wpAny _ _ (call (Value.ref 91) _) _ _ _)
  k_dflt (refine' law_written_bad ?j1 ?j2 ?j3 ?j4 ?j5 ?j6 ?j7 ?j8 ?j9 ?j10 ?j11 ?_; (case j1 => k_asm); (case j2 => k_asm); (case j3 => k_asm); (case j4 => k_asm); (case j5 => k_asm); (case j6 => exact And.left (XBox.out (by assumption))); (case j7 => exact And.right (XBox.out (by assumption))); (case j8 => first | exact rfl | assumption); (case j9 => ktr_room); (case j10 => ktr_units); (case j11 => assumption))
  intro t9 h9 tk9 F9 N9
  (try dsimp only)
  (try k_sweep)
  (try k_fold)))
local macro_rules | `(tactic| walk_at "call ref") => `(tactic| (
  k_here
  (with_reducible show wpAny _ _ (call (Value.ref 91) _) _ _ _)
  k_dflt (refine' law_written_good ?j1 ?j2 ?j3 ?j4 ?j5 ?j6 ?j7 ?j8 ?j9 ?j10 ?j11 ?j12 ?_; (case j1 => k_asm); (case j2 => k_asm); (case j3 => k_asm); (case j4 => k_asm); (case j5 => k_asm); (case j6 => first | exact rfl | assumption); (case j7 => ktr_room); (case j8 => ktr_units); (case j9 => assumption); (case j10 => assumption); (case j11 => assumption); (case j12 => assumption))
  intro t9 h9 tk9 F9 N9
  (try dsimp only)
  (try k_sweep)
  (try k_fold)))
local macro_rules | `(tactic| walk_at "call ref") => `(tactic| (
  k_here
  (with_reducible show wpAny _ _ (call (Value.ref 42) _) _ _ _)
  k_dflt (refine' bytes_number_ok ?j1 ?j2 ?j3 ?j4 ?j5 ?j6 ?j7 ?j8 ?j9 ?j10 ?_; (case j1 => k_asm); (case j2 => k_asm); (case j3 => k_asm); (case j4 => k_asm); (case j5 => k_asm); (case j6 => first | exact rfl | assumption); (case j7 => ktr_room); (case j8 => ktr_units); (case j9 => exact rfl); (case j10 => rw [KBw.ints_length, bigArr_size]; omega))
  intro t9 h9 tk9 F9 N9
  (try dsimp only)
  (try k_sweep)
  (try k_fold)))
local macro_rules | `(tactic| walk_at "call builtin:int.to_bytes") => `(tactic| (
  k_here
  (with_reducible show wpAny _ _ (call (Value.builtin "int.to_bytes") [Value.int _ _, Value.int _ _, Value.str _ _]) _ _ _)
  k_dflt (refine' to_bigZ ?j1 ?j2 ?j3 ?j4 ?_; (case j1 => omega); (case j2 => omega); (case j3 => assumption); (case j4 => assumption))
  intro t9 tk9
  (try dsimp only)
  (try k_fold)))
local macro_rules | `(tactic| walk_at "execs cons") => `(tactic| ((fail_if_success (with_reducible rename Mark1 => mk9)); (show wpAny _ _ (execs (Stmt.Assign [Expr.Name ("bound" : Str) _] _ _ :: _) _) _ _ _); refine Keep2.out ?_))
local macro_rules | `(tactic| walk_at "execs cons") => `(tactic| ((fail_if_success (with_reducible rename Mark2 => mk9)); (show wpAny _ _ (execs (Stmt.Assign [Expr.Name ("value" : Str) _] _ _ :: _) _) _ _ _); refine Keep2.out ?_))
local macro_rules | `(tactic| walk_at "execs cons") => `(tactic| ((fail_if_success (with_reducible rename Mark3 => mk9)); (show wpAny _ _ (execs (Stmt.Assign [Expr.Name ("told" : Str) _] _ _ :: _) _) _ _ _); refine Keep2.out ?_))
local macro_rules | `(tactic| walk_at "binaryOp Mult int int") => `(tactic| (k_here; k_dflt (first
  | (refine' mul_int ?_ ?hm; (case hm => exact mul_spread_ok (by first | (exact (by assumption : BitsIn _) _ (by omega) (by omega)) | assumption)))
  | (refine' mul_int ?_ ?hm; (case hm => exact mul_one_ok)))))
set_option maxRecDepth 100000 in
set_option maxHeartbeats 8000000 in
theorem turn2 {l fn cn I : Addr} {px : Pos} {fd : FuncData} {oc oN oS it : Obj} {vs : List Value} {ns : List Int} {i : Nat} {t : Tok} {m₁ : Str → Option Value} {news₁ : List (Addr × Obj)} {Q : Flow → Shared → Prop}
    (B : Below A₀ base [] h₀) (F : Fr h₀ L s.heap m₁) (X : (hd.heap_39 w.params).In h₀) (N : News h₀ L s.heap ((I, it) :: news₁)) (T : Top p loose mean mg mb h₀) (XT : XBox ((hd.heap_39 w.params).In base ∧ Top p loose mean mg mb base)) (C : CodeHd h₀ 97 93)
    (hdp : dp + 10 < recursionLimit) (hun : un + 100 < cLine) (hNum : NumAt [(fn, fnObj fd), (cn, oc), (L + 1, oS)] fn l) (hN : oN.data = .cell (some (.ref fn))) (ha1 : @LT.lt Nat _ (L + 1 + 1 + 1 + 1 + 1 + 1) cn) (ha2 : @LT.lt Nat _ cn fn) (ha3 : @LT.lt Nat _ 93 L)
    (hl : base.IsList l vs.toArray) (hi : IntsAre vs ns) (hlen : ns.length ≤ 63) (hbits : BitsIn ns) (hi3 : i < 4) (hJ : J2 L fn cn fd oc oN oS i m₁ news₁) (hI : ∀ q ∈ news₁, q.1 ≠ I) :
    wpAny (model PySem.Challenge.rw_jy0047_01.row.prog w) (lawA dp un gd L fa) (assign (.Name (Str.ofString "turn") px) (lawEnv L fa) (.int (0 + (i : Int)) t))
      (fun _ s₂ => wpAny (model PySem.Challenge.rw_jy0047_01.row.prog w) (lawA dp un gd L fa) (execs (bodyOf turn2S) (lawEnv L fa)) (UnrPost h₀ L s I it (J2 L fn cn fd oc oN oS (i + 1)) Q) E s₂) E s := by
  have fill : (fun (_ : OpenLaw) (_ : Params → Frag) => wpAny (model PySem.Challenge.rw_jy0047_01.row.prog w) (lawA dp un gd L fa) (assign (.Name (Str.ofString "turn") px) (lawEnv L fa) (.int (0 + (i : Int)) t))
      (fun _ s₂ => wpAny (model PySem.Challenge.rw_jy0047_01.row.prog w) (lawA dp un gd L fa) (execs (bodyOf turn2S) (lawEnv L fa)) (UnrPost h₀ L s I it (J2 L fn cn fd oc oN oS (i + 1)) Q) E s₂) E s) PySem.Challenge.rw_jy0047_01 hd.heap_39 := by
    w_top off
    k_fill
    obtain ⟨oT, oW, vT, vW, ps, hT, hW, rfl⟩ := hJ
    simp only [List.forall_mem_cons] at hI
    obtain ⟨hI1, hI2, hI3, hI4, hI6, hI8, hI9, _⟩ := hI
    replace hI1 : @Ne Nat fn I := hI1
    replace hI2 : @Ne Nat cn I := hI2
    replace hI3 : @Ne Nat (L + 1 + 1 + 1 + 1 + 1 + 1) I := hI3
    replace hI4 : @Ne Nat (L + 1 + 1 + 1 + 1 + 1) I := hI4
    replace hI6 : @Ne Nat (L + 1 + 1 + 1) I := hI6
    replace hI8 : @Ne Nat (L + 1) I := hI8
    replace hI9 : @Ne Nat 93 I := hI9
    have hT0 : 0 ≤ (0 + (i : Int)) := by omega
    have hT1 : (0 + (i : Int)) ≤ 3 := by omega
    generalize hTi : (0 + (i : Int)) = Tn at hT0 hT1 ⊢
    dsimp only [lawA, lawEnv, lawCells, bodyOf, turn2S, scopeOf, lawS, nth, PySem.Challenge.pw_jy0047_01]
    k_steps
    refine ⟨?_⟩
    have mk1 : Mark1 := ⟨⟩
    rename Fr _ _ _ _ => F1
    rename News _ _ _ _ => N1
    refine cut_int (Str.ofString "bound") (boundV ns Tn) F1 N1 ?_ ?_
    · k_steps
      · exact CutI.intro (by assumption) (by assumption) (by rw [boundV, if_pos (by assumption)]; rfl)
      · exact CutI.intro (by assumption) (by assumption) (by rw [boundV, if_neg (by assumption)])
    · intro h2 tk2 t2 F2 N2
      clear F1 N1
      have hb0 := boundV_nonneg ns Tn
      have hb1 := boundV_lt ns Tn
      generalize boundV ns Tn = b at *
      k_steps
      refine ⟨?_⟩
      have mk2 : Mark2 := ⟨⟩
      refine cut_int (Str.ofString "value") (valueV ns Tn b) F2 N2 ?_ ?_
      · k_steps
        · exact CutI.intro (by assumption) (cb_drop (by assumption) fun _ hp => List.mem_cons_of_mem _ hp) (by rw [valueV, (by assumption : (Tn + num ns 42).fmod 4 = 0)]; rfl)
        · exact CutI.intro (by assumption) (cb_drop (by assumption) fun _ hp => List.mem_cons_of_mem _ hp) (by rw [valueV, (by assumption : (Tn + num ns 42).fmod 4 = 1)]; rfl)
        · exact CutI.intro (by assumption) (cb_drop (by assumption) fun _ hp => List.mem_cons_of_mem _ hp) (by rw [valueV, (by assumption : (Tn + num ns 42).fmod 4 = 2)]; rfl)
        · exact CutI.intro (by assumption) (cb_drop (by assumption) fun _ hp => List.mem_cons_of_mem _ hp) (by rw [valueV, (by assumption : (Tn + num ns 42).fmod 4 = 3)]; rfl)
      · intro h3 tk3 t3 F3 N3
        k_steps
        refine ⟨?_⟩
        have mk3 : Mark3 := ⟨⟩
        have hwm := wide_max hb0
        have hv0 := valueV_nonneg ns Tn hb0
        generalize valueV ns Tn b = v at *
        obtain ⟨hw0, hw1⟩ := bytes_small hb0 hb1
        have hbb := below_sizeBytes hb0
        simp only [hwm] at *
        rename (Obj.data _ = Data.cell (some (Value.int Tn _))) => dT
        rename (Obj.data _ = Data.cell (some (Value.int (sizeBytes _) _))) => dW
        by_cases hvb : v ≤ b
        · have hv1 : v < 256 ^ (sizeBytes b).toNat := by omega
          have hvbig := value_big hv0 hv1
          have hw2 : (sizeBytes b).toNat ≤ 1000 := by omega
          k_steps
          all_goals first
            | (exfalso; omega)
            | (refine' UnrEnd.intro (by assumption) (by assumption) _ ?sub ?off ⟨_, _, _, _, _, dT, dW, rfl⟩
               case sub => repeat (first | exact List.forall_mem_nil _ | refine List.forall_mem_cons.mpr ⟨by k_mem, ?_⟩)
               case off => first | k_all | fail "off")
            | (exfalso; rename ((_ != _) = true) => hne9; rw [bne_self_eq_false] at hne9; exact Bool.noConfusion hne9)
        · have hvb' : b < v := by omega
          k_steps
          all_goals first
            | (exfalso; omega)
            | (refine' UnrEnd.intro (by assumption) (by assumption) _ ?sub ?off ⟨_, _, _, _, _, dT, dW, rfl⟩
               case sub => repeat (first | exact List.forall_mem_nil _ | refine List.forall_mem_cons.mpr ⟨by k_mem, ?_⟩)
               case off => first | k_all | fail "off")
            | (exfalso; rename ((_ != _) = true) => hne9; rw [bne_self_eq_false] at hne9; exact Bool.noConfusion hne9)
  exact fill
end
end JS
section JL
open PySem.Calls
section
variable {w : World} {p : Program} {loose : List Str} {mean : ExcName → Option Value} {mg mb : Str → Option Value} {dp un : Nat} {gd : Option (List Code)} {A₀ : Around} {base h₀ : Heap} {L fa : Addr} {s : Shared} {E : Value → Shared → Prop}
/-- the first loop -/
theorem loop1 {l fn cn r : Addr} {px : Pos} {fd : FuncData} {oc oN oS oA oR oT oW : Obj} {vs : List Value} {ns : List Int} {t₀ u₀ v₀ : Tok} {m : Str → Option Value} {Q : Flow → Shared → Prop}
    (B : Below A₀ base [] h₀) (F : Fr h₀ L s.heap m) (X : (hd.heap_39 w.params).In h₀) (N : News h₀ L s.heap [(fn, fnObj fd), (cn, oc), (L + 1 + 1 + 1 + 1 + 1 + 1, oW), (L + 1 + 1 + 1 + 1 + 1, oT), (L + 1 + 1 + 1 + 1, oR), (L + 1 + 1 + 1, oN), (L + 1 + 1, oA), (L + 1, oS), (93, tabObj (#[] ++ #[rawInt ((55 : Nat) : Int), rawInt ((4 : Nat) : Int), .ref cn]))])
    (T : Top p loose mean mg mb h₀) (C : CodeHd h₀ 97 93) (hdp : dp + 10 < recursionLimit) (hun : un + 100 < cLine) (hNum : NumAt [(fn, fnObj fd), (cn, oc), (L + 1, oS)] fn l) (hN : oN.data = .cell (some (.ref fn))) (ha1 : @LT.lt Nat _ (L + 1 + 1 + 1 + 1 + 1 + 1) cn) (ha2 : @LT.lt Nat _ cn fn) (ha3 : @LT.lt Nat _ 93 L)
    (hl : base.IsList l vs.toArray) (hi : IntsAre vs ns) (hlen : ns.length ≤ 63) (hbits : BitsIn ns) (hA : ∃ v, oA.data = .cell v) (hR : ∃ v, oR.data = .cell v) (hT : ∃ v, oT.data = .cell v) (hW : ∃ v, oW.data = .cell v) (hr : IsRange s.heap r 0 3 1 t₀ u₀ v₀)
    (done : ∀ h tk m₁ news₁, J1 L fa fn cn fd oc oN oS 3 m₁ news₁ → Fr h₀ L h m₁ → News h₀ L h news₁ → Q .next { s with heap := h, toks := tk })
    (hE : PassesOwn (model PySem.Challenge.rw_jy0047_01.row.prog w) (lawA dp un gd L fa) (lawEnv L fa) E) :
    wpAny (model PySem.Challenge.rw_jy0047_01.row.prog w) (lawA dp un gd L fa) (pyIter (.ref r)) (fun it s₂ => TurnsAt PySem.Challenge.rw_jy0047_01.row.prog w (lawA dp un gd L fa) h₀ (lawEnv L fa) (.Name (Str.ofString "turn") px) (bodyOf turnS) Q E it s₂) E s := by
  obtain ⟨vA, hA⟩ := hA
  obtain ⟨vR, hR⟩ := hR
  obtain ⟨vT, hT⟩ := hT
  obtain ⟨vW, hW⟩ := hW
  have h0 : J1 L fa fn cn fd oc oN oS 0 m [(fn, fnObj fd), (cn, oc), (L + 1 + 1 + 1 + 1 + 1 + 1, oW), (L + 1 + 1 + 1 + 1 + 1, oT), (L + 1 + 1 + 1 + 1, oR), (L + 1 + 1 + 1, oN), (L + 1 + 1, oA), (L + 1, oS), (93, tabObj (#[] ++ #[rawInt ((55 : Nat) : Int), rawInt ((4 : Nat) : Int), .ref cn]))] := by
    refine ⟨oA, oR, oT, oW, vA, vR, vT, vW, #[] ++ #[rawInt ((55 : Nat) : Int), rawInt ((4 : Nat) : Int), .ref cn], [], hA, hR, hT, hW, ?_, ?_, .inl ⟨?_, ?_, ?_⟩⟩
    · with_reducible rfl
    · intro q hq
      cases hq
    · with_reducible rfl
    · with_reducible rfl
    · with_reducible rfl
  refine range_turns (n := 3) (env := lawEnv L fa) (J1 L fa fn cn fd oc oN oS) rfl hr (by decide) (by decide) F N h0 ?_ done
  intro i I it t m₁ news₁ h tk hi3 hJ hoff F₁ N₁
  exact turn1 B F₁ X N₁ T C hdp hun hNum hN ha1 ha2 ha3 hl hi hlen hbits hi3 hJ hoff hE
theorem J1_drop {fn cn : Addr} {fd : FuncData} {oc oN oS : Obj} {m : Str → Option Value} {news : List (Addr × Obj)} (h : J1 L fa fn cn fd oc oN oS 3 m news) :
    ∃ (oT oW : Obj) (vT vW : Option Value) (ps : Array Value), oT.data = .cell vT ∧ oW.data = .cell vW ∧ TriplesOk ps.toList ∧
      ∀ q ∈ [(fn, fnObj fd), (cn, oc), (L + 1 + 1 + 1 + 1 + 1 + 1, oW), (L + 1 + 1 + 1 + 1 + 1, oT), (L + 1 + 1 + 1, oN), (L + 1, oS), (93, tabObj ps)], q ∈ news := by
  obtain ⟨oA, oR, oT, oW, vA, vR, vT, vW, ps, extra, hA, hR, hT, hW, rfl, hfar, hps⟩ := h
  rcases hps with ⟨h0, _⟩ | ⟨_, _, _, _, _, _, _, _, _, _, ht, _⟩
  · exact absurd h0 (by decide)
  · refine ⟨oT, oW, vT, vW, ps, hT, hW, ht, ?_⟩
    repeat (first | exact List.forall_mem_nil _ | refine List.forall_mem_cons.mpr ⟨by (repeat (first | exact List.mem_cons_self .. | apply List.mem_cons_of_mem)), ?_⟩)
/-- the second loop -/
theorem loop2 {l fn cn r : Addr} {px : Pos} {fd : FuncData} {oc oN oS oT oW : Obj} {vs : List Value} {ns : List Int} {t₀ u₀ v₀ : Tok} {m : Str → Option Value} {vT vW : Option Value} {ps : Array Value} {Q : Flow → Shared → Prop}
    (B : Below A₀ base [] h₀) (F : Fr h₀ L s.heap m) (X : (hd.heap_39 w.params).In h₀) (N : News h₀ L s.heap [(fn, fnObj fd), (cn, oc), (L + 1 + 1 + 1 + 1 + 1 + 1, oW), (L + 1 + 1 + 1 + 1 + 1, oT), (L + 1 + 1 + 1, oN), (L + 1, oS), (93, tabObj ps)])
    (T : Top p loose mean mg mb h₀) (XT : XBox ((hd.heap_39 w.params).In base ∧ Top p loose mean mg mb base)) (C : CodeHd h₀ 97 93) (hdp : dp + 10 < recursionLimit) (hun : un + 100 < cLine) (hNum : NumAt [(fn, fnObj fd), (cn, oc), (L + 1, oS)] fn l) (hN : oN.data = .cell (some (.ref fn))) (ha1 : @LT.lt Nat _ (L + 1 + 1 + 1 + 1 + 1 + 1) cn) (ha2 : @LT.lt Nat _ cn fn) (ha3 : @LT.lt Nat _ 93 L)
    (hl : base.IsList l vs.toArray) (hi : IntsAre vs ns) (hlen : ns.length ≤ 63) (hbits : BitsIn ns) (hT : oT.data = .cell vT) (hW : oW.data = .cell vW) (hr : IsRange s.heap r 0 4 1 t₀ u₀ v₀)
    (done : ∀ h tk m₁ news₁, J2 L fn cn fd oc oN oS 4 m₁ news₁ → Fr h₀ L h m₁ → News h₀ L h news₁ → Q .next { s with heap := h, toks := tk }) :
    wpAny (model PySem.Challenge.rw_jy0047_01.row.prog w) (lawA dp un gd L fa) (pyIter (.ref r)) (fun it s₂ => TurnsAt PySem.Challenge.rw_jy0047_01.row.prog w (lawA dp un gd L fa) h₀ (lawEnv L fa) (.Name (Str.ofString "turn") px) (bodyOf turn2S) Q E it s₂) E s := by
  have h0 : J2 L fn cn fd oc oN oS 0 m [(fn, fnObj fd), (cn, oc), (L + 1 + 1 + 1 + 1 + 1 + 1, oW), (L + 1 + 1 + 1 + 1 + 1, oT), (L + 1 + 1 + 1, oN), (L + 1, oS), (93, tabObj ps)] := ⟨oT, oW, vT, vW, ps, hT, hW, by with_reducible rfl⟩
  refine range_turns (n := 4) (env := lawEnv L fa) (J2 L fn cn fd oc oN oS) rfl hr (by decide) (by decide) F N h0 ?_ done
  intro i I it t m₁ news₁ h tk hi3 hJ hoff F₁ N₁
  exact turn2 B F₁ X N₁ T XT C hdp hun hNum hN ha1 ha2 ha3 hl hi hlen hbits hi3 hJ hoff
theorem bits_in {ns : List Int} (h : PyData.layable0 (.list (ns.map .int)) = true) : BitsIn ns := fun place h0 h1 => by
  have e : Builtin.Int.intBits (if 0 < ns.length then ns.getD (place.fmod (ns.length : Int)).toNat 0 else 0) ≤ 1048576 := by
    split
    · exact kbm_getD h (by decide)
    · exact Nat.le_trans (PySem.intBits_le_iff.mpr (show (0 : Int).natAbs < 2 ^ 1 by decide)) (by decide)
  have e2 : Builtin.Int.intBits (7 * place) ≤ 11 := by
    refine PySem.intBits_le_iff.mpr ?_
    have e3 : (2 : Nat) ^ 11 = 2048 := by decide
    omega
  have e4 := PySem.intBits_add_le e e2
  unfold num
  exact Nat.le_trans e4 (by decide)
theorem bits_zero : sizeBits 0 = 1 := by decide +kernel
theorem bytes_zero : sizeBytes 0 = 1 := by decide +kernel
end
end JL
end Mine
section JT
open Mine
open PySem.Calls
local macro_rules | `(tactic| walk_at "call ref") => `(tactic| (
  k_here
  (with_reducible show wpAny _ _ (call (Value.ref 21) _) _ _ _)
  k_dflt (refine' size_bits_ok ?j1 ?j2 ?j3 ?j4 ?j5 ?j6 ?j7 ?j8 ?_; (case j1 => k_asm); (case j2 => k_asm); (case j3 => k_asm); (case j4 => k_asm); (case j5 => k_asm); (case j6 => first | exact rfl | assumption); (case j7 => ktr_room); (case j8 => ktr_units))
  intro t9 h9 tk9 F9 N9
  (try dsimp only)
  (try k_sweep)
  (try k_fold)))
local macro_rules | `(tactic| walk_at "call ref") => `(tactic| (
  k_here
  (with_reducible show wpAny _ _ (call (Value.ref 28) _) _ _ _)
  k_dflt (refine' size_bytes_ok ?j1 ?j2 ?j3 ?j4 ?j5 ?j6 ?j7 ?j8 ?_; (case j1 => k_asm); (case j2 => k_asm); (case j3 => k_asm); (case j4 => k_asm); (case j5 => k_asm); (case j6 => first | exact rfl | assumption); (case j7 => ktr_room); (case j8 => ktr_units))
  intro t9 h9 tk9 F9 N9
  (try dsimp only)
  (try k_sweep)
  (try k_fold)))
set_option maxRecDepth 100000 in
set_option maxHeartbeats 8000000 in
theorem PySem.Challenge.cw_jy0047_01_holds : PySem.Challenge.rw_jy0047_01.Holds :=
  Mine.hd (by
    k_go0
    (all_goals try k_fold)
    k_steps
    rename Fr _ _ _ _ => F1
    rename News _ _ _ _ => N1
    refine For_turns F1 ?_
    k_steps
    rename Fr _ _ _ _ => F2
    rename News _ _ _ _ => N2
    with_reducible (rename IsRange _ _ _ _ _ _ _ _ => hr)
    with_reducible (rename Below _ _ _ _ => K1)
    with_reducible (rename Top _ _ _ _ _ _ => T1)
    with_reducible (rename Frag.In _ _ => X1)
    with_reducible (rename IntsAre _ _ => hI)
    with_reducible (rename (PyData.layable0 (PyData.list (List.map PyData.int _)) = true) => hlay)
    with_reducible (rename (Obj.data _ = Data.cell (some (Value.ref _))) => dN)
    with_reducible (rename (Obj.data _ = Data.fields _) => dC)
    with_reducible (rename (_ = some (Value.str _ _)) => dQ)
    with_reducible (rename (¬ ((63 : Nat) : Int) < _) => h63)
    have hbits := bits_in hlay
    refine loop1 K1 F2 X1 N2 T1 codeHd ?jdp ?jun ?jNum dN ?ja1 ?ja2 ?ja3 lifted hI ?jlen hbits ?jA ?jR ?jT ?jW hr ?done ?jE
    case jdp => decide
    case jun => decide
    case jNum => exact ⟨_, _, _, _, _, _, _, _, _, _, List.mem_cons_self .., List.mem_cons_of_mem _ (List.mem_cons_of_mem _ (List.mem_cons_self ..)), by first | assumption | exact rfl, List.mem_cons_of_mem _ (List.mem_cons_self ..), dC, dQ⟩
    case ja1 =>
      with_reducible (rename (_ < _ ∧ _) => l1)
      exact l1.1
    case ja2 => assumption
    case ja3 => assumption
    case jlen => omega
    case jA => exact ⟨_, by assumption⟩
    case jR => exact ⟨_, by assumption⟩
    case jT => exact ⟨_, by assumption⟩
    case jW => exact ⟨_, by assumption⟩
    case jE => passes_own
    clear F2 N2
    rename Fr _ _ _ _ => F9
    clear F9
    rename News _ _ _ _ => N9
    clear N9
    intro h tk m₁ news₁ hJ F₁ N₁
    obtain ⟨oT, oW, vT, vW, ps, dT, dW, hps, hsub⟩ := J1_drop hJ
    replace N₁ := cb_drop N₁ hsub
    k_steps
    clear hsub hJ hr
    refine For_turns F₁ ?_
    k_steps
    rename Fr _ _ _ _ => F2
    rename News _ _ _ _ => N2
    with_reducible (rename IsRange _ _ _ _ _ _ _ _ => hr)
    refine loop2 K1 F2 X1 N2 T1 ⟨⟨X1, T1⟩⟩ codeHd ?qjdp ?qjun ?qjNum dN ?qja1 ?qja2 ?qja3 lifted hI ?qjlen hbits dT dW hr ?_
    case qjdp => decide
    case qjun => decide
    case qjNum => exact ⟨_, _, _, _, _, _, _, _, _, _, List.mem_cons_self .., List.mem_cons_of_mem _ (List.mem_cons_of_mem _ (List.mem_cons_self ..)), by first | assumption | exact rfl, List.mem_cons_of_mem _ (List.mem_cons_self ..), dC, dQ⟩
    case qja1 =>
      with_reducible (rename (_ < _ ∧ _) => l1)
      exact l1.1
    case qja2 => assumption
    case qja3 => assumption
    case qjlen => omega
    clear F2 N2 dT dW
    rename Fr _ _ _ _ => F9
    clear F9
    rename News _ _ _ _ => N9
    clear N9
    intro h3 tk3 m₃ news₃ hJ F₃ N₃
    obtain ⟨oT, oW, vT, vW, ps3, dT, dW, rfl⟩ := hJ
    have hz1 := bits_zero
    have hz2 := bytes_zero
    k_steps)
end JT
