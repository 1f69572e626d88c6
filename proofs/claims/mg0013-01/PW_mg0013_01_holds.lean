import PyProof.Rows.All
import Wide.All
import OpenK.AllK
import Wide.FinOn
import PySem.Challenge.RW_mg0013_01
set_option Elab.async false

-- Hd
section
open PySem PySem.W PyProof.Rows
namespace Mine
set_option maxRecDepth 100000 in
set_option maxHeartbeats 8000000 in
open_top hd for PySem.Challenge.rw_mg0013_01
end Mine
end

-- B1
section
open PySem PySem.W PyProof.Rows PySem.Calls
namespace Mine
open Builtin
/-- the signs of a dump, small letters -/
def hexL (b : List UInt8) : List Nat := b.flatMap fun c => [Bytes.hexDigit (c.toNat / 16), Bytes.hexDigit (c.toNat % 16)]
theorem hexL_length (b : List UInt8) : (hexL b).length = 2 * b.length := by
  induction b with
  | nil => rfl
  | cons c r ih => simp only [hexL, List.flatMap_cons, List.length_append, List.length_cons, List.length_nil] at ih ⊢; omega
theorem hexFold (l : List UInt8) : ∀ (k : Nat) (acc : Array Nat), (l.zipIdx k).foldl (fun (out : Array Nat) (p : UInt8 × Nat) => (out.push (Bytes.hexDigit (p.1.toNat / 16))).push (Bytes.hexDigit (p.1.toNat % 16))) acc = acc ++ (hexL l).toArray := by
  induction l with
  | nil => intro k acc; simp [hexL]
  | cons c r ih =>
    intro k acc
    rw [List.zipIdx_cons, List.foldl_cons, ih]
    simp [hexL]
section
variable {b : Array UInt8} {t : Tok}
theorem hex_eq : «bytes.hex» ⟨[.bytes b t], []⟩ = retStr ⟨(b.toList.zipIdx.foldl (fun (out : Array Nat) (p : UInt8 × Nat) => (out.push (Bytes.hexDigit (p.1.toNat / 16))).push (Bytes.hexDigit (p.1.toNat % 16))) #[])⟩ := by
  first | rfl | kernel_rfl
theorem meets_hex : Meets («bytes.hex» ⟨[.bytes b t], []⟩) (fun _ R s => (hexL b.toList).length ≤ sizeLine ∧ ∀ t' k, R (.ok (.ret (.str ⟨(hexL b.toList).toArray⟩ t'))) { s with toks := k }) := by
  refine .of_wp fun prog w A R s hS => ?_
  obtain ⟨hsz, h⟩ := hS
  rw [hex_eq, hexFold]
  refine wpAny_bind (wpAny_mkStr (wpAny_pure ⟨_, rfl, ?_⟩) ?_)
  · have := h s.toks (s.toks + 1)
    simpa using this
  · show (#[] ++ (hexL b.toList).toArray).size ≤ sizeLine
    simpa using hsz
end
section
variable {prog : Program} {w : World} {A : Around} {E : Value → Shared → Prop} {s : Shared} {b : Array UInt8} {t : Tok} {Q : Value → Shared → Prop}
theorem call_hex (hb : b.size ≤ 1000) (h : ∀ t' k, Q (.str ⟨(hexL b.toList).toArray⟩ t') { s with toks := k }) : wpAny (model prog w) A (call (.builtin "bytes.hex") [.bytes b t]) Q E s :=
  call_meets FB.slot_bytes_hex (typeIs_bytes _ _ _) FB.entry_bytes_hex (FB.args_bytes_hex_1 _) meets_hex ⟨by rw [sizeLine_eq, hexL_length, Array.length_toList]; omega, h⟩
theorem noRefB {b : Array UInt8} : ∀ a, Value.bytes b t = .ref a → ∃ o, s.heap.get? a = some o ∧ o.dict = none := fun _ e => nomatch e
theorem meth_hex {M : Model} {pl : Sem Bool} {Q : Value × List Value → Shared → Prop} (h : Q (.builtin "bytes.hex", [.bytes b t]) s) : wpAny M A (getMethod (.bytes b t) "hex" pl) Q E s := by
  with_reducible exact KBd.method_of (.bytes b t) (typeIs_bytes _ _ _) FB.slot_bytes_hex FB.type_bytes_hex noRefB h
end

set_option maxRecDepth 100000
theorem slot_bytes_upper : Slot "bytes" "upper" "bytes.upper" :=
  .of (owner := "bytes") (n := "upper") (by rw [typeLookup_type, builtinLookup_eq_fast]; kernel_rfl) (by decide +kernel) (by decide +kernel) (by decide +kernel)
    (by first | exact .inl (by decide +kernel) | exact .inr (by decide +kernel)) (by rw [isSubtype_type]; kernel_rfl)
theorem type_bytes_upper : typeOf (.builtin "bytes.upper") = pure (.type "method_descriptor") := by show builtinType _ = _; rw [builtinType_eq_fast]; kernel_rfl
theorem entry_bytes_upper : entryFor table "bytes.upper" = some Builtin.«bytes.upper» := entryFor_of_tree (by kernel_rfl)
theorem args_bytes_upper_1 (a : Value) : argsOk "bytes.upper" ⟨[a], []⟩ := by
  unfold argsOk; rw [signature?_of (id := "bytes.upper") (n := ['r', 'e', 'p', 'p', 'u']) (o := ['s', 'e', 't', 'y', 'b']) (by kernel_rfl) FB.owner_bytes]; kernel_rfl
section
variable {b : Array UInt8} {t : Tok}
theorem upper_eq : «bytes.upper» ⟨[.bytes b t], []⟩ = (mkBytes (b.toList.map Bytes.toUpper).toArray >>= fun v => ret v) := by
  first | rfl | kernel_rfl
theorem meets_upper : Meets («bytes.upper» ⟨[.bytes b t], []⟩) (fun _ R s => b.size ≤ sizeLine ∧ ∀ t' k, R (.ok (.ret (.bytes (b.toList.map Bytes.toUpper).toArray t'))) { s with toks := k }) := by
  refine .of_wp fun prog w A R s hS => ?_
  obtain ⟨hsz, h⟩ := hS
  rw [upper_eq]
  refine wpAny_bind (wpAny_mkBytes (wpAny_pure ⟨_, rfl, h _ _⟩) ?_)
  simpa using hsz
end
section
variable {prog : Program} {w : World} {A : Around} {E : Value → Shared → Prop} {s : Shared} {b : Array UInt8} {t : Tok} {Q : Value → Shared → Prop}
theorem call_upper (hb : b.size ≤ 2000) (h : ∀ t' k, Q (.bytes (b.toList.map Bytes.toUpper).toArray t') { s with toks := k }) : wpAny (model prog w) A (call (.builtin "bytes.upper") [.bytes b t]) Q E s :=
  call_meets slot_bytes_upper (typeIs_bytes _ _ _) entry_bytes_upper (args_bytes_upper_1 _) meets_upper ⟨by rw [sizeLine_eq]; omega, h⟩
theorem meth_upper {M : Model} {pl : Sem Bool} {Q : Value × List Value → Shared → Prop} (h : Q (.builtin "bytes.upper", [.bytes b t]) s) : wpAny M A (getMethod (.bytes b t) "upper" pl) Q E s := by
  with_reducible exact KBd.method_of (.bytes b t) (typeIs_bytes _ _ _) slot_bytes_upper type_bytes_upper noRefB h
end
end Mine
end

-- B2
section
open PySem PySem.W PyProof.Rows PySem.Calls
namespace Mine
open Builtin
set_option maxRecDepth 100000
theorem encode_eq {x : Str} {t u : Tok} : «str.encode» ⟨[.str x t, .str (Str.ofString "ascii") u], []⟩ = ((_codecs.encodeNarrow "str.encode" _codecs.asciiCodec none (.str x t) x >>= fun b => mkBytes b) >>= fun v => ret v) := by
  first | rfl | kernel_rfl
theorem loop_two {σ : Type} (f : Nat → σ → Sem (ForInStep σ)) (s0 s1 : σ) (n : Nat) (hn : 0 < n) (h0 : ∀ a, f a s0 = pure (.yield s1)) (h1 : ∀ a, f a s1 = pure (.done s1)) :
    forIn (List.range' 0 n) s0 f = (pure s1 : Sem σ) := by
  obtain ⟨k, rfl⟩ : ∃ k, n = k + 1 := ⟨n - 1, by omega⟩
  rw [List.range'_succ, List.forIn_cons, h0, pure_bind]
  cases k with
  | zero => rfl
  | succ k => 
    dsimp only
    rw [List.range'_succ, List.forIn_cons, h1, pure_bind]
theorem fold_bytes (l : List Nat) : ∀ acc : Array UInt8, l.foldl (fun acc y => acc ++ (_codecs.asciiCodec.bytesOf y).toArray) acc = acc ++ (l.map Nat.toUInt8).toArray := by
  induction l with
  | nil => intro acc; simp
  | cons c r ih => intro acc; rw [List.foldl_cons, ih]; simp [_codecs.asciiCodec]
theorem narrow {x : Str} {v : Value} (hx : ∀ c ∈ x.cps.toList, c < 128) (hs : x.length ≤ 4000) : _codecs.encodeNarrow "str.encode" _codecs.asciiCodec none v x = pure (x.cps.map Nat.toUInt8) := by
  by_cases h0 : x.length = 0
  · have e : x.cps = #[] := Array.eq_empty_of_size_eq_zero h0
    unfold _codecs.encodeNarrow
    rw [h0]
    simp only [Std.Legacy.Range.forIn_eq_forIn_range', Std.Legacy.Range.size]
    simp [e]
  · have hsz : x.cps.size = x.length := rfl
    have hbad : ∀ c ∈ x.cps, _codecs.asciiCodec.bad c = false := fun c hc => by
      have := hx c (by simpa using hc)
      simp [_codecs.asciiCodec]; omega
    have hnone : Array.findIdx? _codecs.asciiCodec.bad x.cps = none := by
      rw [Array.findIdx?_eq_none_iff]
      exact hbad
    obtain ⟨c, hc⟩ : ∃ c, x.cps[0]? = some c := ⟨x.cps[0]'(by omega), Array.getElem?_eq_getElem (by omega)⟩
    have hcb : _codecs.asciiCodec.bad c = false := hbad c (Array.mem_of_getElem? hc)
    unfold _codecs.encodeNarrow
    simp only [Std.Legacy.Range.forIn_eq_forIn_range', Std.Legacy.Range.size]
    rw [loop_two (s1 := (x.length, x.cps.map Nat.toUInt8, {}))]
    · rfl
    · omega
    · intro a
      rw [if_neg (by simp)]
      simp only [hc, hcb]
      simp only [Bool.not_false, if_true, Array.extract_size, hnone, Option.getD_none, Nat.zero_add, hsz]
      rw [show x.cps.extract 0 x.length = x.cps by rw [← hsz, Array.extract_size]]
      rw [← Array.foldl_toList, fold_bytes]
      simp
      rw [hnone, Option.getD_none, hsz]
      rw [List.take_of_length_le (by rw [List.length_map, Array.length_toList]; exact Nat.le_refl _)]
      rw [← Array.toList_map]
    · intro a
      rw [if_neg (by rw [sizeLine_eq]; simp; omega)]
      rw [show x.cps[x.length]? = none by simp [Str.length]]
section
variable {x : Str} {t u : Tok}
theorem meets_encode (hx : ∀ c ∈ x.cps.toList, c < 128) (hs : x.length ≤ 4000) : Meets («str.encode» ⟨[.str x t, .str (Str.ofString "ascii") u], []⟩) (fun _ R s => ∀ t' k, R (.ok (.ret (.bytes (x.cps.map Nat.toUInt8) t'))) { s with toks := k }) := by
  refine .of_wp fun prog w A R s h => ?_
  rw [encode_eq, narrow hx hs]
  refine wpAny_bind (wpAny_bind (wpAny_pure (wpAny_mkBytes (wpAny_pure ⟨_, rfl, h _ _⟩) ?_)))
  rw [sizeLine_eq, Array.size_map]
  have : x.cps.size = x.length := rfl
  omega
end
section
variable {prog : Program} {w : World} {A : Around} {E : Value → Shared → Prop} {s : Shared} {x : Str} {t u : Tok} {Q : Value → Shared → Prop}
theorem call_encode (hx : ∀ c ∈ x.cps.toList, c < 128) (hs : x.length ≤ 4000) (h : ∀ t' k, Q (.bytes (x.cps.map Nat.toUInt8) t') { s with toks := k }) : wpAny (model prog w) A (call (.builtin "str.encode") [.str x t, .str (Str.ofString "ascii") u]) Q E s :=
  call_meets F.slot_str_encode (typeIs_str _ _ _) F.entry_str_encode (F.args_str_encode_2 _ _) (meets_encode hx hs) h
theorem meth_encode {M : Model} {pl : Sem Bool} {Q : Value × List Value → Shared → Prop} (h : Q (.builtin "str.encode", [.str x t]) s) : wpAny M A (getMethod (.str x t) "encode" pl) Q E s :=
  getMethod_builtin (typeIs_str _ _ _) F.plainAttrs_str F.slot_str_encode F.type_str_encode (fun _ e => nomatch e) h
end
end Mine
end

-- C1
section
open PySem PySem.W PyProof.Rows PySem.Calls
namespace Mine
noncomputable abbrev looseN : List Str := looseW hd.view_39 [Str.ofString "_NO_SEP", Str.ofString "b2a_hex", Str.ofString "hexlify"]

/-- the signs' codes of unctrl's word -/
def repF (i : Int) : List Nat :=
  if i = 127 then [94, 63] else if 32 ≤ i % 128 ∧ i % 128 ≤ 126 then [(i % 128).toNat] else if i % 128 = 127 then [94, 159] else [94, (i % 128).toNat + 64]
def wordF (i : Int) : List Nat := if i % 256 < 128 then repF i else 33 :: repF i
def unctrlF (i : Int) : Str := ⟨(wordF i).toArray⟩

theorem or32 (x : Int) (h : 0 ≤ x ∧ x ≤ 127) : 0 ≤ Builtin.bitOr x 32 ∧ Builtin.bitOr x 32 ≤ 127 := by
  obtain ⟨n, rfl⟩ := Int.eq_ofNat_of_zero_le h.1
  have : n < 128 := by omega
  exact (by decide +kernel : ∀ n : Nat, n < 128 → 0 ≤ Builtin.bitOr (n : Int) 32 ∧ Builtin.bitOr (n : Int) 32 ≤ 127) n this

theorem bit128 (i : Int) : Builtin.bitAnd i 128 = 0 ↔ i % 256 < 128 := by
  have e : Builtin.bitAnd i 128 = (i / 128 % 2) * 128 := kbt_bit i 7
  rw [e]; omega
theorem rep_q {i : Int} (h : i = 127) : Str.ofString "^?" = ⟨(repF i).toArray⟩ := by subst h; decide
theorem rep_p {i : Int} (h : i ≠ 127) (h1 : 32 ≤ Builtin.bitAnd i 127) (h2 : Builtin.bitAnd i 127 ≤ 126) : (⟨#[(Builtin.bitAnd i 127).toNat]⟩ : Str) = ⟨(repF i).toArray⟩ := by
  rw [bitAnd_m7] at *
  unfold repF
  rw [if_neg h, if_pos ⟨h1, h2⟩]
theorem or32' (x : Int) (h : 0 ≤ x ∧ x ≤ 127) (h' : ¬ (32 ≤ x ∧ x ≤ 126)) : (Builtin.bitOr x 32 + 32).toNat = if x = 127 then 159 else x.toNat + 64 := by
  obtain ⟨n, rfl⟩ := Int.eq_ofNat_of_zero_le h.1
  have : n < 128 := by omega
  exact (by decide +kernel : ∀ n : Nat, n < 128 → ¬ (32 ≤ (n : Int) ∧ (n : Int) ≤ 126) → (Builtin.bitOr (n : Int) 32 + 32).toNat = if (n : Int) = 127 then 159 else (n : Int).toNat + 64) n this h'
theorem rep_c {i : Int} (h : i ≠ 127) (h' : ¬ (32 ≤ Builtin.bitAnd i 127 ∧ Builtin.bitAnd i 127 ≤ 126)) : Str.ofString "^" ++ (⟨#[(Builtin.bitOr (Builtin.bitAnd i 127) 32 + 32).toNat]⟩ : Str) = ⟨(repF i).toArray⟩ := by
  have hb : 0 ≤ Builtin.bitAnd i 127 ∧ Builtin.bitAnd i 127 ≤ 127 := by rw [bitAnd_m7]; omega
  rw [or32' _ hb h']
  rw [bitAnd_m7] at *
  unfold repF
  rw [if_neg h, if_neg h']
  by_cases e : i % 128 = 127
  · rw [if_pos e, if_pos e]; decide
  · rw [if_neg e, if_neg e, show Str.ofString "^" = ⟨#[94]⟩ by decide]; rfl
theorem rep_c1 {i : Int} (h : i ≠ 127) (h' : ¬ 32 ≤ Builtin.bitAnd i 127) : Str.ofString "^" ++ (⟨#[(Builtin.bitOr (Builtin.bitAnd i 127) 32 + 32).toNat]⟩ : Str) = ⟨(repF i).toArray⟩ := rep_c h fun x => h' x.1
theorem rep_c2 {i : Int} (h : i ≠ 127) (h' : ¬ Builtin.bitAnd i 127 ≤ 126) : Str.ofString "^" ++ (⟨#[(Builtin.bitOr (Builtin.bitAnd i 127) 32 + 32).toNat]⟩ : Str) = ⟨(repF i).toArray⟩ := rep_c h fun x => h' x.2
theorem fin_hi {i : Int} {r : Str} (h : Builtin.bitAnd i 128 ≠ 0) (e : r = ⟨(repF i).toArray⟩) : Str.ofString "!" ++ r = unctrlF i := by
  rw [ne_eq, bit128] at h
  subst e
  unfold unctrlF wordF
  rw [if_neg h, show Str.ofString "!" = ⟨#[33]⟩ by decide]
  exact Str.ext' (Array.toList_inj.mp (by rw [Str.cps_append, Array.toList_append]; rfl))
theorem fin_lo {i : Int} {r : Str} (h : Builtin.bitAnd i 128 = 0) (e : r = ⟨(repF i).toArray⟩) : r = unctrlF i := by
  rw [bit128] at h
  subst e
  unfold unctrlF wordF
  rw [if_pos h]

set_option maxRecDepth 100000 in
set_option maxHeartbeats 8000000 in
theorem unctrl_int {w : World} {mean : ExcName → Option Value} {mg mb : Str → Option Value} {news : List (Addr × Obj)} {i : Int} {t : Tok} {cn : Str} {cs : Scope} {a : Addr} {ccd : Value} {cl : List (Str × Addr)} {base h₀ : Heap} {L : Addr} {m : Str → Option Value} {s : Shared} {Q E : Value → Shared → Prop}
    (B : Below callerA base [] h₀) (F : Fr h₀ L s.heap m) (X : (hd.heap_39 w.params).In h₀) (N : News h₀ L s.heap news) (T : Top hd.view_39 looseN mean mg mb h₀) (hk : cs.kind = .function)
    (hret : CbRet h₀ L m news s Q (fun t => .str (unctrlF i) t)) :
    wpAny (model PySem.Challenge.rw_mg0013_01.row.prog w) (callerA.deeper (envX cn cs L a ccd cl)) (call (.ref 42) [.int i t]) Q E s := by
  have hb : 0 ≤ Builtin.bitAnd i 127 ∧ Builtin.bitAnd i 127 ≤ 127 := by rw [bitAnd_m7]; omega
  have ho := or32 _ hb
  w_top off
  revert X; k_fill; intro X
  refine wpAny_call ?_
  k_dflt cell_enter
  k_steps
  all_goals (refine cb_retS hret ?_ (by k_asm) (by k_asm))
  all_goals first
    | exact fin_hi (by assumption) (rep_q (by assumption))
    | exact fin_lo (by assumption) (rep_q (by assumption))
    | exact fin_hi (by assumption) (rep_p (by assumption) (by assumption) (by assumption))
    | exact fin_lo (by assumption) (rep_p (by assumption) (by assumption) (by assumption))
    | exact fin_hi (by assumption) (rep_c1 (by assumption) (by assumption))
    | exact fin_lo (by assumption) (rep_c1 (by assumption) (by assumption))
    | exact fin_hi (by assumption) (rep_c2 (by assumption) (by assumption))
    | exact fin_lo (by assumption) (rep_c2 (by assumption) (by assumption))
end Mine
end

-- C2
section
open PySem PySem.W PyProof.Rows PySem.Calls
namespace Mine
set_option maxRecDepth 100000 in
set_option maxHeartbeats 8000000 in
theorem unctrl_chr {w : World} {mean : ExcName → Option Value} {mg mb : Str → Option Value} {news : List (Addr × Obj)} {c : Nat} {t : Tok} {cn : Str} {cs : Scope} {a : Addr} {ccd : Value} {cl : List (Str × Addr)} {base h₀ : Heap} {L : Addr} {m : Str → Option Value} {s : Shared} {Q E : Value → Shared → Prop}
    (h1 : c < 55296)
    (B : Below callerA base [] h₀) (F : Fr h₀ L s.heap m) (X : (hd.heap_39 w.params).In h₀) (N : News h₀ L s.heap news) (T : Top hd.view_39 looseN mean mg mb h₀) (hk : cs.kind = .function)
    (hret : CbRet h₀ L m news s Q (fun t => .str (unctrlF (c : Int)) t)) :
    wpAny (model PySem.Challenge.rw_mg0013_01.row.prog w) (callerA.deeper (envX cn cs L a ccd cl)) (call (.ref 42) [.str ⟨#[c]⟩ t]) Q E s := by
  have hb : 0 ≤ Builtin.bitAnd (c : Int) 127 ∧ Builtin.bitAnd (c : Int) 127 ≤ 127 := by rw [bitAnd_m7]; omega
  have ho := or32 _ hb
  w_top off
  revert X; k_fill; intro X
  refine wpAny_call ?_
  k_dflt cell_enter
  k_steps
  all_goals (refine cb_retS hret ?_ (by k_asm) (by k_asm))
  all_goals first
    | exact fin_hi (by assumption) (rep_q (by assumption))
    | exact fin_lo (by assumption) (rep_q (by assumption))
    | exact fin_hi (by assumption) (rep_p (by assumption) (by assumption) (by assumption))
    | exact fin_lo (by assumption) (rep_p (by assumption) (by assumption) (by assumption))
    | exact fin_hi (by assumption) (rep_c1 (by assumption) (by assumption))
    | exact fin_lo (by assumption) (rep_c1 (by assumption) (by assumption))
    | exact fin_hi (by assumption) (rep_c2 (by assumption) (by assumption))
    | exact fin_lo (by assumption) (rep_c2 (by assumption) (by assumption))
end Mine
end

-- C3
section
open PySem PySem.W PyProof.Rows PySem.Calls
namespace Mine
def hexUp (b : Array UInt8) : Array UInt8 := (((hexL b.toList).toArray.map Nat.toUInt8).toList.map Builtin.Bytes.toUpper).toArray
theorem hexL_small (b : List UInt8) : ∀ c ∈ hexL b, c < 128 := by
  intro c hc
  obtain ⟨u, _, hu⟩ := List.mem_flatMap.mp hc
  have h1 : u.toNat < 256 := u.toNat_lt
  have key : ∀ n, n < 16 → Builtin.Bytes.hexDigit n < 128 := by decide
  simp only [List.mem_cons, List.not_mem_nil, or_false] at hu
  rcases hu with rfl | rfl
  · exact key _ (by omega)
  · exact key _ (by omega)
section
variable {prog : Program} {w : World} {A : Around} {E : Value → Shared → Prop} {s : Shared} {b : Array UInt8} {t u : Tok} {Q : Value → Shared → Prop}
theorem enc_hex (hb : b.size ≤ 1000) (h : ∀ t' k, Q (.bytes ((hexL b.toList).toArray.map Nat.toUInt8) t') { s with toks := k }) : wpAny (model prog w) A (call (.builtin "str.encode") [.str ⟨(hexL b.toList).toArray⟩ t, .str (Str.ofString "ascii") u]) Q E s :=
  call_encode (hexL_small _) (by show (hexL b.toList).toArray.size ≤ 4000; rw [List.size_toArray, hexL_length, Array.length_toList]; omega) h
theorem up_hex (hb : b.size ≤ 1000) (h : ∀ t' k, Q (.bytes (hexUp b) t') { s with toks := k }) : wpAny (model prog w) A (call (.builtin "bytes.upper") [.bytes ((hexL b.toList).toArray.map Nat.toUInt8) t]) Q E s :=
  call_upper (by rw [Array.size_map, List.size_toArray, hexL_length, Array.length_toList]; omega) h
end
local macro_rules | `(tactic| walk_at "call type:type") => `(tactic| ((with_reducible show wpAny _ _ (call _ [Value.bytes _ _]) _ _ _); refine call_type_of (Tx := "bytes") rfl (by decide +kernel) ?_))
local macro_rules | `(tactic| walk_at "compareOp Is") => `(tactic| ((with_reducible show wpAny _ _ (compareOp _ (Value.type "bytes") (Value.type "bytes")) _ _ _); refine wpAny_is_self (by rfl) ?_))
local macro_rules | `(tactic| walk_at "compareOp IsNot") => `(tactic| ((with_reducible show wpAny _ _ (compareOp _ (Value.type "int") (Value.type "int")) _ _ _); refine wpAny_isNot_self (by rfl) ?_))
local macro_rules | `(tactic| walk_at "compareOp Is ref ref") => `(tactic| (refine wpAny_is_ref_self ?_))
local macro_rules | `(tactic| walk_at "getMethod bytes") => `(tactic| first | refine meth_hex ?_ | refine meth_upper ?_)
local macro_rules | `(tactic| walk_at "getMethod str") => `(tactic| (refine meth_encode ?_))
local macro_rules | `(tactic| walk_at "call builtin:bytes.hex") => `(tactic| (refine call_hex (by assumption) ?_; intro t' k'))
local macro_rules | `(tactic| walk_at "call builtin:str.encode") => `(tactic| (refine enc_hex (by assumption) ?_; intro t' k'))
local macro_rules | `(tactic| walk_at "call builtin:bytes.upper") => `(tactic| (refine up_hex (by assumption) ?_; intro t' k'))
theorem cb_retY {h₀ h' : Heap} {L : Addr} {m : Str → Option Value} {news : List (Addr × Obj)} {s : Shared} {Q : Value → Shared → Prop} {t : Tok} {tk' : Nat} {x y : Array UInt8} (hret : ∀ (t : Tok) (h' : Heap) (tk' : Nat), Fr h₀ L h' m → News h₀ L h' news → Q (.bytes x t) { s with heap := h', toks := tk' }) (e : y = x) (F : Fr h₀ L h' m) (N : News h₀ L h' news) : Q (.bytes y t) { s with heap := h', toks := tk' } := by
  subst e
  exact hret t h' tk' F N
set_option maxRecDepth 100000 in
set_option maxHeartbeats 8000000 in
theorem b16_any {w : World} {mean : ExcName → Option Value} {mg mb : Str → Option Value} {news : List (Addr × Obj)} {b : Array UInt8} {t : Tok} {cn : Str} {cs : Scope} {a : Addr} {ccd : Value} {cl : List (Str × Addr)} {base h₀ : Heap} {L : Addr} {m : Str → Option Value} {s : Shared} {Q E : Value → Shared → Prop}
    (h1 : b.size ≤ 1000)
    (B : Below callerA base [] h₀) (F : Fr h₀ L s.heap m) (X : (hd.heap_39 w.params).In h₀) (N : News h₀ L s.heap news) (T : Top hd.view_39 looseN mean mg mb h₀) (hk : cs.kind = .function)
    (hret : CbRet h₀ L m news s Q (fun t => .bytes (hexUp b) t)) :
    wpAny (model PySem.Challenge.rw_mg0013_01.row.prog w) (callerA.deeper (envX cn cs L a ccd cl)) (call (.ref 65) [.bytes b t]) Q E s := by
  w_top off
  revert X; k_fill; intro X
  refine wpAny_call ?_
  k_dflt cell_enter
  k_steps
  exact cb_retY hret rfl (by k_asm) (by k_asm)
end Mine
end

-- C4
section
open PySem PySem.W PyProof.Rows PySem.Calls
namespace Mine
abbrev sgS : Str := Str.ofString "0123456789ABCDEF"
abbrev octN (y : Str) : Int := 16 * Txt.find sgS (Txt.slice y (some (-2)) (some (-1))) + Txt.find sgS (Txt.slice y (some (-1)) none)
abbrev octC1 (y : Str) : Prop := (y.length : Int) = 4 ∧ (Txt.slice y none (some 2) == Str.ofString "5E") = true ∧ 64 ≤ octN y ∧ octN y ≤ 95
abbrev octC2 (y : Str) : Prop := (y.length : Int) = 2 ∧ 32 ≤ octN y ∧ octN y ≤ 126
def octRest (h : Int) (y : Str) : Int :=
  if (y == Str.ofString "5E3F") = true ∧ h = 0 then 127 else if (y == Str.ofString "5E9F") = true then 127 + h
  else if octC1 y then octN y - 64 + h else if octC2 y then octN y + h else -1
def octetF (x : Str) : Int :=
  if 2 < (x.length : Int) ∧ (Txt.slice x none (some 2) == Str.ofString "21") = true then octRest 128 (Txt.slice x (some 2) none) else octRest 0 x
section
variable {x y : Str} {h v : Int}
theorem oF_hi (h1 : 2 < (x.length : Int)) (h2 : (Txt.slice x none (some 2) == Str.ofString "21") = true) : octetF x = octRest 128 (Txt.slice x (some 2) none) := if_pos ⟨h1, h2⟩
theorem oF_lo1 (h1 : ¬ 2 < (x.length : Int)) : octetF x = octRest 0 x := if_neg fun z => h1 z.1
theorem oF_lo2 (h1 : (Txt.slice x none (some 2) == Str.ofString "21") = false) : octetF x = octRest 0 x := if_neg fun z => by rw [h1] at z; exact absurd z.2 (by decide)
theorem nq1 (e : (y == Str.ofString "5E3F") = false) : ¬ ((y == Str.ofString "5E3F") = true ∧ h = 0) := fun z => by rw [e] at z; exact absurd z.1 (by decide)
theorem nq2 : ¬ ((y == Str.ofString "5E3F") = true ∧ (128 : Int) = 0) := fun z => absurd z.2 (by decide)
theorem n11 (e : ¬ (y.length : Int) = 4) : ¬ octC1 y := fun z => e z.1
theorem n12 (e : (Txt.slice y none (some 2) == Str.ofString "5E") = false) : ¬ octC1 y := fun z => by have := z.2.1; rw [e] at this; exact absurd this (by decide)
theorem n13 (e : ¬ 64 ≤ octN y) : ¬ octC1 y := fun z => e z.2.2.1
theorem n14 (e : ¬ octN y ≤ 95) : ¬ octC1 y := fun z => e z.2.2.2
theorem n15 (e : (y.length : Int) = 2) : ¬ octC1 y := fun z => by have := z.1; omega
theorem n21 (e : ¬ (y.length : Int) = 2) : ¬ octC2 y := fun z => e z.1
theorem n22 (e : ¬ 32 ≤ octN y) : ¬ octC2 y := fun z => e z.2.1
theorem n23 (e : ¬ octN y ≤ 126) : ¬ octC2 y := fun z => e z.2.2
theorem r1 (e : (y == Str.ofString "5E3F") = true) (hv : v = 127) : v = octRest 0 y := by rw [hv, octRest, if_pos ⟨e, rfl⟩]
theorem r2 (e : (y == Str.ofString "5E9F") = true) (hv : v = 127 + h) : v = octRest h y := by
  subst hv
  have e' : y = Str.ofString "5E9F" := eq_of_beq e
  have : (y == Str.ofString "5E3F") = false := by subst e'; decide
  rw [octRest, if_neg (nq1 this), if_pos e]
theorem r3 (q : ¬ ((y == Str.ofString "5E3F") = true ∧ h = 0)) (e : (y == Str.ofString "5E9F") = false) (a1 : (y.length : Int) = 4) (a2 : (Txt.slice y none (some 2) == Str.ofString "5E") = true) (a3 : 64 ≤ octN y) (a4 : octN y ≤ 95) (hv : v = octN y - 64 + h) : v = octRest h y := by
  subst hv
  rw [octRest, if_neg q, if_neg (by rw [e]; decide), if_pos ⟨a1, a2, a3, a4⟩]
theorem r4 (q : ¬ ((y == Str.ofString "5E3F") = true ∧ h = 0)) (e : (y == Str.ofString "5E9F") = false) (c1 : ¬ octC1 y) (a1 : (y.length : Int) = 2) (a3 : 32 ≤ octN y) (a4 : octN y ≤ 126) (hv : v = octN y + h) : v = octRest h y := by
  subst hv
  rw [octRest, if_neg q, if_neg (by rw [e]; decide), if_neg c1, if_pos ⟨a1, a3, a4⟩]
theorem r5 (q : ¬ ((y == Str.ofString "5E3F") = true ∧ h = 0)) (e : (y == Str.ofString "5E9F") = false) (c1 : ¬ octC1 y) (c2 : ¬ octC2 y) (hv : v = -1) : v = octRest h y := by
  subst hv
  rw [octRest, if_neg q, if_neg (by rw [e]; decide), if_neg c1, if_neg c2]
end
set_option maxRecDepth 100000 in
set_option maxHeartbeats 8000000 in
theorem octet_any {w : World} {mean : ExcName → Option Value} {mg mb : Str → Option Value} {news : List (Addr × Obj)} {x : Str} {t : Tok} {cn : Str} {cs : Scope} {a : Addr} {ccd : Value} {cl : List (Str × Addr)} {base h₀ : Heap} {L : Addr} {m : Str → Option Value} {s : Shared} {Q E : Value → Shared → Prop}
    (h1 : x.length ≤ 1000)
    (B : Below callerA base [] h₀) (F : Fr h₀ L s.heap m) (X : (hd.heap_39 w.params).In h₀) (N : News h₀ L s.heap news) (T : Top hd.view_39 looseN mean mg mb h₀) (hk : cs.kind = .function)
    (hret : CbRet h₀ L m news s Q (fun t => .int (octetF x) t)) :
    wpAny (model PySem.Challenge.rw_mg0013_01.row.prog w) (callerA.deeper (envX cn cs L a ccd cl)) (call (.ref 72) [.str x t]) Q E s := by
  w_top off
  revert X; k_fill; intro X
  refine wpAny_call ?_
  k_dflt cell_enter
  k_steps
  all_goals (refine cb_retI hret ?_ (by k_asm) (by k_asm))
  all_goals first
    | rw [oF_hi (by with_reducible assumption) (by with_reducible assumption)]
    | rw [oF_lo1 (by with_reducible assumption)]
    | rw [oF_lo2 (by with_reducible assumption)]
  all_goals first
    | with_reducible exact r1 (by with_reducible assumption) (by rfl)
    | with_reducible exact r2 (by with_reducible assumption) (by rfl)
    | with_reducible exact r3 (by first | exact nq1 (by with_reducible assumption) | exact nq2) (by with_reducible assumption) (by with_reducible assumption) (by with_reducible assumption) (by with_reducible assumption) (by with_reducible assumption) (by rfl)
    | with_reducible exact r4 (by first | exact nq1 (by with_reducible assumption) | exact nq2) (by with_reducible assumption) (by exact n15 (by with_reducible assumption)) (by with_reducible assumption) (by first | with_reducible assumption | omega) (by first | with_reducible assumption | omega) (by rfl)
    | with_reducible exact r5 (by first | exact nq1 (by with_reducible assumption) | exact nq2) (by with_reducible assumption) (by first | exact n11 (by with_reducible assumption) | exact n12 (by with_reducible assumption) | exact n13 (by with_reducible assumption) | exact n14 (by with_reducible assumption)) (by first | exact n21 (by with_reducible assumption) | exact n22 (by with_reducible assumption) | exact n23 (by with_reducible assumption)) (by rfl)
    | (exfalso; omega)
end Mine
end

-- B3
section
open PySem PySem.W PyProof.Rows PySem.Calls
namespace Mine
open LCg
/-- a source other than a list: its iterator is one new object -/
def Src (prog : Program) (w : World) (A : Around) (xv : Value) (s₁ : Shared) (n : Nat) (P : Nat → Value → Prop) : Prop :=
  ∀ (Q : Value → Shared → Prop) (E : Value → Shared → Prop),
    (∀ (o : Obj) (St : Nat → Heap → Prop), Walks prog w A s₁.heap.objs.size [s₁.heap.objs.size] [s₁.heap.objs.size] n P St → St 0 (s₁.heap.push o) →
      (∀ i h, St i h → ∃ o, h.get? s₁.heap.objs.size = some o) → (∀ i h h' o, St i h → h.get? s₁.heap.objs.size = some o → h'.get? s₁.heap.objs.size = some o → St i h') →
      Q (.ref s₁.heap.objs.size) { s₁ with heap := s₁.heap.push o }) → wpAny (model prog w) A (pyIter xv) Q E s₁
section
variable {prog : Program} {w : World} {A : Around} {E : Value → Shared → Prop} {s : Shared} {h₀ : Heap} {L : Addr} {m : Str → Option Value} {env : Env}
theorem src_bytes {b : Array UInt8} {t : Tok} (hh : A.handled = none) : Src prog w A (.bytes b t) s b.size (fun i v => ∃ c u, b[i]? = some c ∧ v = .int (c.toNat : Int) u) := by
  intro Q E hQ
  refine KBw.pyIter_bytes (hQ _ (fun i h => KBw.IsBytesIter h s.heap.objs.size b t i) (KBw.walks hh _ b t) ⟨_, Heap.get?_push_size _ rfl, rfl, rfl⟩ (fun i h st => by obtain ⟨o, e, _⟩ := st; exact ⟨o, e⟩) ?_)
  intro i h h' o st e e'
  obtain ⟨o', q, r⟩ := st
  rw [e] at q
  cases q
  exact ⟨o, e', r⟩
theorem src_str {x : Str} {t : Tok} (hh : A.handled = none) : Src prog w A (.str x t) s x.cps.size (SignAt x) := by
  intro Q E hQ
  cases ha : x.cps.all (· < 128)
  · refine wpAny_pyIter_wide ha (hQ _ (fun i h => h.IsStrIter s.heap.objs.size "str_iterator" x t i) (Walks.strWide hh _ x t) ⟨_, Heap.get?_push_size _ rfl, rfl, rfl⟩ (fun i h st => by obtain ⟨o, e, _⟩ := st; exact ⟨o, e⟩) ?_)
    intro i h h' o st e e'
    obtain ⟨o', q, r⟩ := st
    rw [e] at q
    cases q
    exact ⟨o, e', r⟩
  · refine wpAny_pyIter_ascii ha (hQ _ (fun i h => h.IsStrIter s.heap.objs.size "str_ascii_iterator" x t i) (Walks.strAscii hh _ x t) ⟨_, Heap.get?_push_size _ rfl, rfl, rfl⟩ (fun i h st => by obtain ⟨o, e, _⟩ := st; exact ⟨o, e⟩) ?_)
    intro i h h' o st e e'
    obtain ⟨o', q, r⟩ := st
    rw [e] at q
    cases q
    exact ⟨o, e', r⟩
theorem src_signs {l : List Nat} {t : Tok} (hh : A.handled = none) : Src prog w A (.str ⟨l.toArray⟩ t) s l.length (fun i v => ∃ c u, l[i]? = some c ∧ v = .str ⟨#[c]⟩ u) := by
  have h := src_str (prog := prog) (w := w) (s := s) (x := ⟨l.toArray⟩) (t := t) hh
  have e : SignAt ⟨l.toArray⟩ = fun i v => ∃ c u, l[i]? = some c ∧ v = .str ⟨#[c]⟩ u := by
    funext i v
    unfold SignAt
    simp
  rw [e] at h
  simpa using h
theorem src_range {r : Addr} {a b c : Int} {t u v : Tok} {n : Nat} (hh : A.handled = none) (hr : IsRange s.heap r a b c t u v) (hsm : Builtin.Range.small a b c = true) (hn : Builtin.Range.rangeSize a b c = ((n : Nat) : Int)) :
    Src prog w A (.ref r) s n (fun i v => ∃ t, v = .int (a + (i : Int) * c) t) := by
  intro Q E hQ
  refine wpAny_pyIter_range hr hsm (hQ _ (fun i h => IsRangeIter h s.heap.objs.size (a + (i : Nat) * c) ((n : Int) - (i : Nat)) c) (Walks.range hh _ a c n) ?_ (fun i h st => ⟨_, st⟩) ?_)
  · show IsRangeIter _ _ _ _ _
    rw [hn]
    simpa using Heap.get?_push_size _ rfl
  · intro i h h' o st e e'
    have st' : h.get? s.heap.objs.size = some _ := st
    show h'.get? s.heap.objs.size = some _
    rw [e', ← e]; exact st'

/-- the iterable is there: what is asked of it -/
def CompGo (prog : Program) (w : World) (A : Around) (h₀ : Heap) (L : Addr) (m : Str → Option Value) (env : Env) (elt : Expr) (x : Str) (scope : Scope) (cl : List (Str × Addr)) (Q : Value → Shared → Prop) (xv : Value) (s₁ : Shared) : Prop :=
  ∃ n P news, Fr h₀ L s₁.heap m ∧ News h₀ L s₁.heap news ∧ n ≤ sizeLine ∧ Src prog w A xv s₁ n P ∧
      ∀ g, CompRest prog w A h₀ L m env elt x scope cl { s₁ with heap := g } (fun _ => True) P (FinE h₀ L m { s₁ with heap := g } Q) n 0 [] news
theorem ListComp_S {elt iter : Expr} {x : Str} {px : Pos} {scope : Scope} {cl : List (Str × Addr)} {pos : Pos} {Q : Value → Shared → Prop} (_F₀ : Fr h₀ L s.heap m)
    (hclos : closureFor scope env = pure cl) (hcell : ∀ y ∈ scope.names, y.2 ≠ .cell) (hkind : scope.kind = .function)
    (hnames : ∀ y ∈ scope.names, y.2 = .local → scope.names.lookup y.1 = some .local) (hx : scope.names.lookup x = some .local)
    (h : wpAny (model prog w) A (eval iter env) (CompGo prog w A h₀ L m env elt x scope cl Q) E s)
    (hs : ∀ x, foldedSetIterable iter env x = pure x := by intro _; rfl) :
    wpAny (model prog w) A (eval (.ListComp elt [⟨.Name x px, iter, [], 0⟩] scope pos) env) Q E s := by
  rw [eval_ListComp]
  refine wpAny_comprehension_free (use := none) rfl hs hclos hkind hnames (wpAny_mono h (fun xv s₁ h₁ => ?_) fun _ _ e => e)
  obtain ⟨n, P, news, F, N, hsz, S, R⟩ := h₁
  refine S _ _ fun o St W h0 hI hSt => ?_
  have up : ∀ b o', s₁.heap.get? b = some o' → (s₁.heap.push o).get? b = some o' := fun b o e => Heap.get?_push_of_some _ e
  refine block_U (S := fun _ => True) W hsz hI (fun i h h' o _ st e e' _ _ _ => hSt i h h' o st e e') hcell hkind hx h0 (fun b hb => ?_)
    (F.keeps up) (N.grown up) (Nat.ne_of_lt F.ns.lt) (next_is_new F) (fun p hp => Nat.ne_of_lt (Heap.lt_size (N p hp).1)) trivial (R _) ?_
  · rw [List.mem_singleton.mp hb]
    show s₁.heap.objs.size < (s₁.heap.push _).objs.size
    rw [Heap.size_push]; exact Nat.lt_succ_self _
  · intro D C h tk m' ys news' F' N' o1 hn hC₀ hD₀ hCL hDL hCD offC fin
    refine ⟨m', hn, fun h'' hs'' => fin D h'' tk (F'.change hs'' hCL hC₀) (fun p hp => ?_) o1⟩
    refine ⟨hs''.extBut _ _ ?_ (N' p hp).1, (N' p hp).2⟩
    rcases List.mem_cons.mp hp with rfl | hp
    · exact Ne.symm hCD
    · exact offC p hp

/-- an element's end: the ledger as it was -/
def ElEnd (h₀ : Heap) (L : Addr) (m : Str → Option Value) (s : Shared) (news : List (Addr × Obj)) (R : Value → Prop) (y : Value) (s₂ : Shared) : Prop :=
  ∃ h' tk', s₂ = { s with heap := h', toks := tk' } ∧ Fr h₀ L h' m ∧ News h₀ L h' news ∧ R y
theorem rest_gen {elt : Expr} {x : Str} {scope : Scope} {cl : List (Str × Addr)} {S : List (Addr × Obj) → Prop} {P : Nat → Value → Prop} {Fin : List Value → List (Addr × Obj) → Prop} {news : List (Addr × Obj)} {n : Nat} (R : Nat → Value → Prop) (hS : S news)
    (turn : ∀ i v I oI C oC D m₂ ys h tk (E' : Value → Shared → Prop), i < n → P i v → NsObj oC m₂ → m₂ x = some v → Fr h₀ L h m → News h₀ L h ((I, oI) :: (C, oC) :: (D, lst ys) :: news) → Off3 I C D news → ((@Ne Nat I C) ∧ (@Ne Nat I D) ∧ (@Ne Nat C D)) →
      wpAny (model prog w) A (eval elt (compEnvC scope cl C env)) (ElEnd h₀ L m { s with heap := h, toks := tk } ((I, oI) :: (C, oC) :: (D, lst ys) :: news) (R i)) E' { s with heap := h, toks := tk })
    (fin : ∀ ys : List Value, ys.length = n → (∀ i y, ys[i]? = some y → R i y) → Fin ys news) : CompRest prog w A h₀ L m env elt x scope cl s S P Fin n 0 [] news := by
  have key : ∀ (j i : Nat) (ys : List Value), i + j = n → ys.length = i → (∀ i y, ys[i]? = some y → R i y) → CompRest prog w A h₀ L m env elt x scope cl s S P Fin j i ys news := by
    intro j
    induction j with
    | zero =>
      intro i ys hi hl hy
      exact CompRest.zero (fin ys (by omega) hy)
    | succ j ih =>
      intro i ys hi hl hy
      refine CompRest.succ ?_
      intro v I oI C oC D m₂ h tk E' hv hC hx F N off ne
      refine wpAny_mono (turn i v I oI C oC D m₂ ys h tk E' (by omega) hv hC hx F N off ne) (fun y s₂ hq => ?_) fun _ _ e => e
      obtain ⟨h', tk', e, F', N', hr⟩ := hq
      refine ⟨h', tk', news, e, F', N', off, hS, ih (i + 1) (ys ++ [y]) (by omega) (by simp [hl]) ?_⟩
      intro k z hz
      rw [List.getElem?_append] at hz
      split at hz
      · exact hy k z hz
      · rename_i hk
        have : k - ys.length = 0 := by
          cases hd : k - ys.length with
          | zero => rfl
          | succ q => rw [hd] at hz; simp at hz
        rw [this] at hz
        have hz' : z = y := by simpa using hz.symm
        have : k = i := by omega
        subst hz' this
        exact hr
  exact key n 0 [] (by omega) rfl (by intro i y h; simp at h)

theorem go_gen {elt : Expr} {x : Str} {scope : Scope} {cl : List (Str × Addr)} {P : Nat → Value → Prop} {news : List (Addr × Obj)} {n : Nat} {Q : Value → Shared → Prop} {xv : Value} (R : Nat → Value → Prop)
    (F : Fr h₀ L s.heap m) (N : News h₀ L s.heap news) (hsz : n ≤ sizeLine) (S : Src prog w A xv s n P)
    (turn : ∀ g i v I oI C oC D m₂ ys h tk (E' : Value → Shared → Prop), i < n → P i v → NsObj oC m₂ → m₂ x = some v → Fr h₀ L h m → News h₀ L h ((I, oI) :: (C, oC) :: (D, lst ys) :: news) → Off3 I C D news → ((@Ne Nat I C) ∧ (@Ne Nat I D) ∧ (@Ne Nat C D)) →
      wpAny (model prog w) A (eval elt (compEnvC scope cl C env)) (ElEnd h₀ L m { s with heap := h, toks := tk } ((I, oI) :: (C, oC) :: (D, lst ys) :: news) (R i)) E' { { s with heap := g } with heap := h, toks := tk })
    (fin : ∀ g, ∀ ys : List Value, ys.length = n → (∀ i y, ys[i]? = some y → R i y) → FinE h₀ L m { s with heap := g } Q ys news) : CompGo prog w A h₀ L m env elt x scope cl Q xv s :=
  ⟨n, P, news, F, N, hsz, S, fun g => rest_gen R trivial (fun i v I oI C oC D m₂ ys h tk E' hi hv hC hx F N off ne => turn g i v I oI C oC D m₂ ys h tk E' hi hv hC hx F N off ne) (fun ys hl hr => fin g ys hl hr)⟩
/-- the same over a list of the ledger, under the library's own rule -/
theorem go_list {elt : Expr} {x : Str} {scope : Scope} {cl : List (Str × Addr)} {news : List (Addr × Obj)} {Fin : Shared → List Value → List (Addr × Obj) → Prop} {ax : Addr} {its : Array Value} {k : Nat} (R : Nat → Value → Prop)
    (hh : A.handled = none) (F : Fr h₀ L s.heap m) (N : News h₀ L s.heap news) (hm : (ax, ({ cls := .type "list", data := .seq its k } : Obj)) ∈ news) (hsz : its.size ≤ sizeLine)
    (turn : ∀ g i v I oI C oC D m₂ ys h tk (E' : Value → Shared → Prop), i < its.size → its[i]? = some v → NsObj oC m₂ → m₂ x = some v → Fr h₀ L h m → News h₀ L h ((I, oI) :: (C, oC) :: (D, lst ys) :: news) → Off3 I C D news → ((@Ne Nat I C) ∧ (@Ne Nat I D) ∧ (@Ne Nat C D)) →
      wpAny (model prog w) A (eval elt (compEnvC scope cl C env)) (ElEnd h₀ L m { s with heap := h, toks := tk } ((I, oI) :: (C, oC) :: (D, lst ys) :: news) (R i)) E' { { s with heap := g } with heap := h, toks := tk })
    (fin : ∀ g, ∀ ys : List Value, ys.length = its.size → (∀ i y, ys[i]? = some y → R i y) → Fin { s with heap := g } ys news) : CompSrc prog w A h₀ L m env elt x scope cl Fin (.ref ax) s :=
  CompSrc.ledger hh F N hm hsz fun g => rest_gen R (.inr ⟨_, hm, rfl, _, rfl⟩) (fun i v I oI C oC D m₂ ys h tk E' hi hv hC hx F N off ne => turn g i v I oI C oC D m₂ ys h tk E' hi hv hC hx F N off ne) (fun ys hl hr => fin g ys hl hr)
theorem el_end {h' : Heap} {tk' : Nat} {news : List (Addr × Obj)} {R : Value → Prop} {y : Value} (F : Fr h₀ L h' m) (N : News h₀ L h' news) (r : R y) : ElEnd h₀ L m s news R y { s with heap := h', toks := tk' } := ⟨h', tk', rfl, F, N, r⟩
end
end Mine
end

-- B4
section
open PySem PySem.W PyProof.Rows PySem.Calls
namespace Mine
section
variable {α : Type}
theorem strs_of {ys : List Value} {l : List α} {g : α → Str} (hl : ys.length = l.length) (hr : ∀ (i : Nat) (y : Value), ys[i]? = some y → ∃ a t, l[i]? = some a ∧ y = Value.str (g a) t) : StrsAre ys (l.map g) := by
  induction ys generalizing l with
  | nil => cases l with
    | nil => exact .nil
    | cons a r => simp at hl
  | cons y ys ih => cases l with
    | nil => simp at hl
    | cons a r =>
      obtain ⟨a', t, h1, rfl⟩ := hr 0 y rfl
      have e : a = a' := by simpa using h1
      subst e
      exact .cons _ t (ih (by simpa using hl) fun i z hz => hr (i + 1) z (by simpa using hz))
theorem ints_of {ys : List Value} {l : List α} {g : α → Int} (hl : ys.length = l.length) (hr : ∀ (i : Nat) (y : Value), ys[i]? = some y → ∃ a t, l[i]? = some a ∧ y = Value.int (g a) t) : IntsAre ys (l.map g) := by
  induction ys generalizing l with
  | nil => cases l with
    | nil => exact .nil
    | cons a r => simp at hl
  | cons y ys ih => cases l with
    | nil => simp at hl
    | cons a r =>
      obtain ⟨a', t, h1, rfl⟩ := hr 0 y rfl
      have e : a = a' := by simpa using h1
      subst e
      exact .cons _ t (ih (by simpa using hl) fun i z hz => hr (i + 1) z (by simpa using hz))
end
theorem str_item {α : Type} {l : List α} {g : α → Str} {i : Nat} {a : α} {x : Str} {t : Tok} (h : l[i]? = some a) (e : x = g a) : ∃ a t', l[i]? = some a ∧ Value.str x t = Value.str (g a) t' := ⟨a, t, h, by rw [e]⟩
theorem int_item {α : Type} {l : List α} {g : α → Int} {i : Nat} {a : α} {x : Int} {t : Tok} (h : l[i]? = some a) (e : x = g a) : ∃ a t', l[i]? = some a ∧ Value.int x t = Value.int (g a) t' := ⟨a, t, h, by rw [e]⟩
theorem strs_at {vs : List Value} {xs : List Str} (h : StrsAre vs xs) : ∀ (i : Nat) (v : Value), vs[i]? = some v → ∃ x t, xs[i]? = some x ∧ v = .str x t := by
  induction h with
  | nil => intro i v hv; simp at hv
  | cons y t _ ih =>
    intro i v hv
    cases i with
    | zero => exact ⟨y, t, rfl, by simpa using hv.symm⟩
    | succ i => exact ih i v (by simpa using hv)
theorem strs_length {vs : List Value} {xs : List Str} (h : StrsAre vs xs) : vs.length = xs.length := by
  induction h with
  | nil => rfl
  | cons y t _ ih => simp [ih]
section
variable {prog : Program} {w : World} {A : Around} {E : Value → Shared → Prop} {s : Shared} {t : Tok} {Q : Value → Shared → Prop} {D : Addr} {ys : List Value} {xs : List Str} {x : Str}
theorem call_join (hl : s.heap.IsList D ys.toArray) (hs : StrsAre ys xs) (hB : ∀ a ∈ xs, a.length ≤ 8) (hn : xs.length ≤ 5000) (hx : x.length ≤ 8) (h : ∀ t' k, Q (.str (Txt.join x xs) t') { s with toks := k }) :
    wpAny (model prog w) A (call (.builtin "str.join") [.str x t, .ref D]) Q E s := by
  refine join_madeW (l := xs) (g := id) 8 hl (by simpa using hs.carried) hB (by omega) (by omega) fun t' k => ?_
  rw [List.map_id]
  exact h t' k
end
theorem join_signs {α : Type} (f : α → Nat) (l : List α) : Txt.join (Str.ofString "") (l.map fun a => (⟨#[f a]⟩ : Str)) = ⟨(l.map f).toArray⟩ := by
  have e : Str.ofString "" = ⟨#[]⟩ := by decide
  rw [e]
  show Builtin.Str.glued _ _ = _
  rw [StrLaws.glued_eq_join]
  induction l with
  | nil => rfl
  | cons a r ih =>
    cases r with
    | nil => rfl
    | cons b r =>
      rw [List.map_cons, List.map_cons, Str.join, ← List.map_cons (f := fun a => (⟨#[f a]⟩ : Str)), ih]
      · apply Str.ext'
        apply Array.toList_inj.mp
        simp [Str.cps_append]
      · simp
theorem slice_plain {x : Str} {i j : Int} (h0 : 0 ≤ i) (h1 : i ≤ j) (h2 : j ≤ x.length) : Txt.slice x (some i) (some j) = ⟨((x.cps.toList.drop i.toNat).take (j - i).toNat).toArray⟩ := eq_of_beq (slice_closesL h0 h1 h2)
end Mine
end

-- C5
section
open PySem PySem.W PyProof.Rows PySem.Calls
namespace Mine
theorem apart_of {news : List (Addr × Obj)} {L d : Nat} (h : ∀ p ∈ news, p.1 < L) (hd : L ≤ d) : ∀ p ∈ news, p.1 ≠ d := fun p hp e => by
  have h1 : p.1 < L := h p hp
  have h2 : p.1 = d := e
  exact absurd (Nat.lt_of_lt_of_le h1 hd) (by rw [h2]; exact Nat.lt_irrefl _)
local macro_rules | `(tactic| k_all) => `(tactic| (refine apart_of (by assumption) (by first | exact Nat.le_refl _ | exact Nat.le_succ _ | omega)))
local macro_rules | `(tactic| walk_at "eval ListComp") => `(tactic| (k_here; k_dflt (refine ListComp_S (by k_asm) (by with_unfolding_all rfl) (by decide) (by rfl) (by decide) (by rfl) ?_)))
def pairS (l : List Nat) (n : Nat) : List Str := (List.range n).map fun i => (⟨((l.drop (2 * i)).take 2).toArray⟩ : Str)
theorem size_two (n : Nat) : Builtin.Range.rangeSize 0 ((2 * n : Nat) : Int) 2 = ((n : Nat) : Int) := by
  unfold Builtin.Range.rangeSize
  rw [if_pos (by decide)]
  split
  · omega
  · omega
theorem small_two {n : Nat} (hn : n ≤ 1000) : Builtin.Range.small 0 ((2 * n : Nat) : Int) 2 = true := by
  unfold Builtin.Range.small
  rw [size_two]
  unfold Builtin.Range.rangeFitsLong
  simp only [Bool.and_eq_true, Bool.or_eq_true, decide_eq_true_eq]
  rw [if_pos (by decide)]
  simp only [Bool.and_eq_true, decide_eq_true_eq]
  omega
set_option maxRecDepth 100000 in
set_option maxHeartbeats 8000000 in
theorem pairs_any {w : World} {mean : ExcName → Option Value} {mg mb : Str → Option Value} {news : List (Addr × Obj)} {b : Array UInt8} {t : Tok} {cn : Str} {nm : List (Str × NameKind)} {mr : List (Str × Const)} {a : Addr} {ccd : Value} {cl : List (Str × Addr)} {base h₀ : Heap} {L : Addr} {m : Str → Option Value} {s : Shared} {Q E : Value → Shared → Prop}
    {n : Nat} (hn : n ≤ 500) (h1 : b.size = 2 * n)
    (B : Below callerA base [] h₀) (F : Fr h₀ L s.heap m) (X : (hd.heap_39 w.params).In h₀) (N : News h₀ L s.heap news) (T : Top hd.view_39 looseN mean mg mb h₀)
    (hret : ∀ (D : Addr) (ys : List Value) (h' : Heap) (tk' : Nat), StrsAre ys (pairS (b.toList.map fun c => c.toNat) n) → Fr h₀ L h' m → News h₀ L h' ((D, LCg.lst ys) :: news) → Q (.ref D) { s with heap := h', toks := tk' }) :
    wpAny (model PySem.Challenge.rw_mg0013_01.row.prog w) (callerA.deeper (envX cn { kind := .function, names := nm, isGenerator := false, isCoroutine := false, more := mr } L a ccd cl)) (call (.ref 77) [.bytes b t]) Q E s := by
  w_top off
  revert X; k_fill; intro X
  k_steps
  refine go_gen (fun i y => ∃ a t, b.toList[i]? = some a ∧ y = Value.str ⟨#[a.toNat]⟩ t) (by k_asm) (by k_asm) (by rw [sizeLine_eq]; omega) (src_bytes rfl) ?_ ?_
  · intro g i v I oI C oC D m₂ ys h tk E' hi hv hC hx F9 N9 off ne
    obtain ⟨c, u, hc, rfl⟩ := hv
    have hc8 : 0 ≤ (c.toNat : Int) ∧ (c.toNat : Int) ≤ 255 := by have := c.toNat_lt; omega
    k_steps
    exact el_end (by k_asm) (by k_asm) ⟨c, _, by simpa using hc, rfl⟩
  · intro g ys hl hr
    have hS := strs_of (g := fun c : UInt8 => (⟨#[c.toNat]⟩ : Str)) (by simpa using hl) hr
    k_steps
    refine call_join (News.isList (by k_asm) (by k_mem)) hS ?_ ?_ (by decide) ?_
    · intro a ha
      obtain ⟨c, _, rfl⟩ := List.mem_map.mp ha
      exact (by decide : 1 ≤ 8)
    · rw [List.length_map, Array.length_toList]; omega
    · rw [join_signs (fun c : UInt8 => c.toNat)]
      intro t9 k9
      have hlen : (⟨(b.toList.map fun c => c.toNat).toArray⟩ : Str).length = b.size := by simp [Str.length]
      generalize hx9 : (⟨(b.toList.map fun c => c.toNat).toArray⟩ : Str) = x9 at *
      k_steps
      refine go_gen (fun i y => ∃ a t, (List.range n)[i]? = some a ∧ y = Value.str ⟨((x9.cps.toList.drop (2 * a)).take 2).toArray⟩ t) (by k_asm) (by k_asm) (n := n) (by rw [sizeLine_eq]; omega) (src_range rfl (by assumption) (by rw [hlen, h1]; exact small_two (by omega)) (by rw [hlen, h1]; exact size_two n)) ?_ ?_
      · intro g i v I oI C oC D m₂ ys h tk E' hi hv hC hx F9 N9 off ne
        obtain ⟨u, rfl⟩ := hv
        k_steps
        refine el_end (by k_asm) (by k_asm) (str_item (a := i) (by simp [hi]) ?_)
        rw [slice_plain (by omega) (by omega) (by rw [hlen]; omega)]
        rw [show (0 + (i : Int) * 2).toNat = 2 * i by omega, show (0 + (i : Int) * 2 + 2 - (0 + (i : Int) * 2)).toNat = 2 by omega]
      · intro g ys hl hr
        have hS := strs_of (g := fun a : Nat => (⟨((x9.cps.toList.drop (2 * a)).take 2).toArray⟩ : Str)) (by simpa using hl) hr
        k_steps
        refine hret _ ys _ _ ?_ (by k_asm) (cb_drop (by k_asm) ?_)
        · rw [pairS, show (b.toList.map fun c => c.toNat) = x9.cps.toList by rw [← hx9]]
          exact hS
        · intro p hp
          rcases List.mem_cons.mp hp with rfl | hp
          · k_mem
          · exact List.mem_cons_of_mem _ (List.mem_cons_of_mem _ (List.mem_cons_of_mem _ hp))
end Mine
end

-- M0
section
open PySem PySem.W PyProof.Rows PySem.Calls
namespace Mine
/-- a mark at which the walk's loop stands still -/
def Stop (p : Prop) : Prop := p
theorem Stop.out {p : Prop} (h : Stop p) : p := h
/-- the numbers: a list of one to twelve ints -/
def NumEnd (h₀ : Heap) (L : Addr) (m : Str → Option Value) (s : Shared) (news : List (Addr × Obj)) (v : Value) (s₂ : Shared) : Prop :=
  ∃ D vs ns k h' tk', v = .ref D ∧ s₂ = { s with heap := h', toks := tk' } ∧ Fr h₀ L h' m ∧ News h₀ L h' ((D, listOf vs.toArray k) :: news) ∧ IntsAre vs ns ∧ 1 ≤ ns.length ∧ ns.length ≤ 12 ∧ ∀ p ∈ news, p.1 < D
theorem num_end {h₀ : Heap} {L : Addr} {m : Str → Option Value} {s : Shared} {news : List (Addr × Obj)} {D : Addr} {vs : List Value} {ns : List Int} {k : Nat} {h' : Heap} {tk' : Nat} (F : Fr h₀ L h' m) (N : News h₀ L h' ((D, listOf vs.toArray k) :: news)) (hI : IntsAre vs ns) (h1 : 1 ≤ ns.length) (h2 : ns.length ≤ 12) (hl : ∀ p ∈ news, p.1 < D) :
    NumEnd h₀ L m s news (.ref D) { s with heap := h', toks := tk' } := ⟨D, vs, ns, k, h', tk', rfl, rfl, F, N, hI, h1, h2, hl⟩
theorem num_cut {M : Model} {A : Around} {t : Sem Value} {E Q : Value → Shared → Prop} {h₀ : Heap} {L : Addr} {m : Str → Option Value} {s : Shared} {news : List (Addr × Obj)} (_F : Fr h₀ L s.heap m) (_N : News h₀ L s.heap news)
    (h : wpAny M A t (NumEnd h₀ L m s news) E s) (k : ∀ v s₂, NumEnd h₀ L m s news v s₂ → Q v s₂) : wpAny M A t Q E s := wpAny_mono h k fun _ _ e => e
def codesF (ns : List Int) : List Int := ns.mapIdx fun i x => if i % 2 = 1 then x % 55296 else x
theorem codesF_length (ns : List Int) : (codesF ns).length = ns.length := by simp [codesF]
theorem codesF_odd (ns : List Int) (i : Nat) (c : Int) (h : (codesF ns)[i]? = some c) (hi : i % 2 = 1) : 0 ≤ c ∧ c < 55296 := by
  unfold codesF at h
  rw [List.getElem?_mapIdx] at h
  cases e : ns[i]? with
  | none => rw [e] at h; simp at h
  | some x =>
    rw [e] at h
    simp only [Option.map_some, Option.some.injEq, if_pos hi] at h
    omega
theorem codesF_at {ns : List Int} {i : Nat} (hi : i < ns.length) : (codesF ns)[i]? = some (if i % 2 = 1 then ns.getD i 0 % 55296 else ns.getD i 0) := by
  unfold codesF
  rw [List.getElem?_mapIdx, List.getElem?_eq_getElem hi]
  simp [List.getD, hi]
theorem code_odd {ns : List Int} {i : Nat} {t : Tok} (hi : i < ns.length) (h : (i : Int).fmod 2 = 1) : ∃ c t', (codesF ns)[i]? = some c ∧ Value.int ((ns.getD (i : Int).toNat 0).fmod 55296) t = Value.int (id c) t' := by
  refine ⟨_, t, codesF_at hi, ?_⟩
  rw [Int.fmod_eq_emod_of_nonneg _ (by decide)] at h
  rw [if_pos (by omega), Int.toNat_natCast, Int.fmod_eq_emod_of_nonneg _ (by decide)]
  rfl
theorem code_even {ns : List Int} {i : Nat} {t : Tok} (hi : i < ns.length) (h : (i : Int).fmod 2 ≠ 1) : ∃ c t', (codesF ns)[i]? = some c ∧ Value.int (ns.getD (i : Int).toNat 0) t = Value.int (id c) t' := by
  refine ⟨_, t, codesF_at hi, ?_⟩
  rw [Int.fmod_eq_emod_of_nonneg _ (by decide)] at h
  rw [if_neg (by omega), Int.toNat_natCast]
  rfl
theorem page_item {cs : List Int} {i : Nat} {t : Tok} (hi : i < cs.length) : ∃ c t', cs[i]? = some c ∧ Value.str (unctrlF (cs.getD (i : Int).toNat 0)) t = Value.str (unctrlF c) t' :=
  str_item (a := cs[i]) (List.getElem?_eq_getElem hi) (by rw [Int.toNat_natCast]; simp [List.getD, hi])
theorem page_item' {cs : List Int} {i : Nat} {t : Tok} (hi : i < cs.length) (h0 : 0 ≤ cs.getD (i : Int).toNat 0) : ∃ c t', cs[i]? = some c ∧ Value.str (unctrlF ((cs.getD (i : Int).toNat 0).toNat : Int)) t = Value.str (unctrlF c) t' := by
  rw [Int.toNat_of_nonneg h0]; exact page_item hi
theorem cs_odd {cs : List Int} (hodd : ∀ (i : Nat) (c : Int), cs[i]? = some c → i % 2 = 1 → 0 ≤ c ∧ c < 55296) {i : Nat} (hi : i < cs.length) (h : i % 2 = 1) : 0 ≤ cs.getD (i : Int).toNat 0 ∧ cs.getD (i : Int).toNat 0 < 55296 := by
  refine hodd i _ ?_ h
  rw [Int.toNat_natCast, List.getElem?_eq_getElem hi]
  simp [List.getD, hi]
theorem fmod_odd {i : Nat} (h : i % 2 = 1) : (i : Int).fmod 2 = 1 := by rw [Int.fmod_eq_emod_of_nonneg _ (by decide)]; omega
theorem fmod_even {i : Nat} (h : ¬ i % 2 = 1) : ¬ (i : Int).fmod 2 = 1 := by rw [Int.fmod_eq_emod_of_nonneg _ (by decide)]; omega
theorem b16_var {w : World} {mean : ExcName → Option Value} {mg mb : Str → Option Value} {news : List (Addr × Obj)} {b : Array UInt8} {t : Tok} {cn : Str} {cs : Scope} {a : Addr} {ccd : Value} {cl : List (Str × Addr)} {base h₀ : Heap} {L : Addr} {m : Str → Option Value} {s : Shared} {Q E : Value → Shared → Prop}
    (h1 : b.size ≤ 1000)
    (B : Below callerA base [] h₀) (F : Fr h₀ L s.heap m) (X : (hd.heap_39 w.params).In h₀) (N : News h₀ L s.heap news) (T : Top hd.view_39 looseN mean mg mb h₀) (hk : cs.kind = .function)
    (hret : ∀ (r : Array UInt8) (t : Tok) (h' : Heap) (tk' : Nat), r = hexUp b → Fr h₀ L h' m → News h₀ L h' news → Q (.bytes r t) { s with heap := h', toks := tk' }) :
    wpAny (model PySem.Challenge.rw_mg0013_01.row.prog w) (callerA.deeper (envX cn cs L a ccd cl)) (call (.ref 65) [.bytes b t]) Q E s :=
  b16_any h1 B F X N T hk fun t h' tk' F' N' => hret _ t h' tk' rfl F' N'
theorem hexUp_size (b : Array UInt8) : (hexUp b).size = 2 * b.size := by
  unfold hexUp
  rw [List.size_toArray, List.length_map, Array.length_toList, Array.size_map, List.size_toArray, hexL_length, Array.length_toList]
theorem pairs_hex {w : World} {mean : ExcName → Option Value} {mg mb : Str → Option Value} {news : List (Addr × Obj)} {b x : Array UInt8} {t : Tok} {cn : Str} {nm : List (Str × NameKind)} {mr : List (Str × Const)} {a : Addr} {ccd : Value} {cl : List (Str × Addr)} {base h₀ : Heap} {L : Addr} {m : Str → Option Value} {s : Shared} {Q E : Value → Shared → Prop}
    (hb : b = hexUp x) (h1 : x.size ≤ 500)
    (B : Below callerA base [] h₀) (F : Fr h₀ L s.heap m) (X : (hd.heap_39 w.params).In h₀) (N : News h₀ L s.heap news) (T : Top hd.view_39 looseN mean mg mb h₀)
    (hret : ∀ (D : Addr) (ys : List Value) (h' : Heap) (tk' : Nat), StrsAre ys (pairS (b.toList.map fun c => c.toNat) x.size) → Fr h₀ L h' m → News h₀ L h' ((D, LCg.lst ys) :: news) → Q (.ref D) { s with heap := h', toks := tk' }) :
    wpAny (model PySem.Challenge.rw_mg0013_01.row.prog w) (callerA.deeper (envX cn { kind := .function, names := nm, isGenerator := false, isCoroutine := false, more := mr } L a ccd cl)) (call (.ref 77) [.bytes b t]) Q E s :=
  pairs_any h1 (by rw [hb, hexUp_size]) B F X N T hret
section
variable {prog : Program} {w : World} {A : Around} {E : Value → Shared → Prop} {s : Shared} {h₀ : Heap} {L : Addr} {m : Str → Option Value} {news : List (Addr × Obj)}
theorem replT {x : Str} {t : Tok} {k : Nat} {Q : Value → Shared → Prop} (hk : 1 ≤ k) (hx : x.length ≤ 1000) (hq : ∀ t' k', Q (.str (Txt.replace x (Str.ofString " ") (Str.ofString "")) t') { s with toks := k' }) :
    wpAny (model prog w) A (call (.builtin "str.replace") [.str x t, .str (Str.ofString " ") k, .str (Str.ofString "") (k + 1)]) Q E s :=
  SC.replaceW (Nat.ne_of_gt hk) (Nat.succ_ne_zero k) (Nat.ne_of_lt (Nat.lt_succ_self k)) (by decide) (by omega) (by decide) hq
theorem isi_bytes {b : Array UInt8} {t : Tok} {Q : Value → Shared → Prop} (h : ∀ tk, Q (.bool true) { s with toks := tk }) : wpAny (model prog w) A (call (.builtin "isinstance") [.bytes b t, .type "bytes"]) Q E s :=
  kia_one (K := []) kitx_bytes (fun a o h => by cases h) trivial (by decide +kernel) (by intro h; cases h) h
theorem iteF {a b : Prop} (h : b) : if false = true then a else b := by simpa using h
theorem iteT {a b : Prop} (h : a) : if true = true then a else b := by simpa using h
theorem iteNT {a b : Prop} (h : b) : if (!true) = true then a else b := by simpa using h
theorem iteNF {a b : Prop} (h : a) : if (!false) = true then a else b := by simpa using h
theorem bytesK {l : Addr} {vs : List Value} {ns : List Int} {Q : Value → Shared → Prop} (F : Fr h₀ L s.heap m) (N : News h₀ L s.heap news) (hl : s.heap.IsList l vs.toArray) (hi : IntsAre vs ns) (hr : ∀ n ∈ ns, 0 ≤ n ∧ n < 256) (hz : vs.length ≤ 1000) (hh : A.handled = none)
    (h : ∀ h' t k, Fr h₀ L h' m → News h₀ L h' news → Q (.bytes (byteArr ns) t) { s with heap := h', toks := k }) : wpAny (model prog w) A (call (.type "bytes") [.ref l]) Q E s :=
  call_bytes_ints hl hi hr (by rw [sizeLine_eq]; omega) hh fun h' t k hk => h h' t k (F.keeps hk) (N.grown hk)
end
end Mine
end

-- P1
section
open PySem PySem.W PyProof.Rows PySem.Calls
namespace Mine
/-- the page's codes -/
def pageL : List Int → List Nat
  | [] => []
  | [c] => wordF c
  | c :: d :: r => wordF c ++ 10 :: pageL (d :: r)
theorem join_page : ∀ cs : List Int, Txt.join (Str.ofString "\n") (cs.map unctrlF) = ⟨(pageL cs).toArray⟩ := by
  intro cs
  have e : Str.ofString "\n" = ⟨#[10]⟩ := by decide
  rw [e]
  show Builtin.Str.glued _ _ = _
  rw [StrLaws.glued_eq_join]
  induction cs with
  | nil => rfl
  | cons c r ih =>
    cases r with
    | nil => rfl
    | cons d r =>
      rw [List.map_cons, List.map_cons, Str.join, ← List.map_cons (f := unctrlF), ih]
      · apply Str.ext'
        apply Array.toList_inj.mp
        simp [Str.cps_append, pageL, unctrlF]
      · simp
theorem repF_le (c : Int) : ∀ n ∈ repF c, 32 ≤ n ∧ n ≤ 159 := by
  intro n hn
  unfold repF at hn
  split at hn
  · simp at hn; omega
  · split at hn
    · simp at hn; omega
    · split at hn
      · simp at hn; omega
      · simp at hn; omega
theorem wordF_le (c : Int) : ∀ n ∈ wordF c, 32 ≤ n ∧ n ≤ 159 := by
  intro n hn
  unfold wordF at hn
  split at hn
  · exact repF_le c n hn
  · rcases List.mem_cons.mp hn with rfl | h
    · omega
    · exact repF_le c n h
theorem repF_len (c : Int) : 1 ≤ (repF c).length ∧ (repF c).length ≤ 2 := by
  unfold repF
  split
  · simp
  · split
    · simp
    · split <;> simp
theorem wordF_len (c : Int) : 1 ≤ (wordF c).length ∧ (wordF c).length ≤ 3 := by
  have := repF_len c
  unfold wordF
  split
  · omega
  · simp only [List.length_cons]; omega
theorem pageL_le : ∀ cs : List Int, ∀ n ∈ pageL cs, n ≤ 159
  | [], n, h => by simp [pageL] at h
  | [c], n, h => (wordF_le c n h).2
  | c :: d :: r, n, h => by
    rw [pageL, List.mem_append, List.mem_cons] at h
    rcases h with h | h | h
    · exact (wordF_le c n h).2
    · omega
    · exact pageL_le (d :: r) n h
theorem pageL_len : ∀ cs : List Int, (pageL cs).length ≤ 4 * cs.length
  | [] => by simp [pageL]
  | [c] => by have := wordF_len c; simp only [pageL, List.length_cons, List.length_nil]; omega
  | c :: d :: r => by
    have := wordF_len c
    have := pageL_len (d :: r)
    simp only [pageL, List.length_append, List.length_cons] at this ⊢
    omega
theorem pageL_pos : ∀ cs : List Int, 0 < cs.length → 0 < (pageL cs).length
  | [], h => by simp at h
  | [c], _ => by have := wordF_len c; simp only [pageL]; omega
  | c :: d :: r, _ => by have := wordF_len c; simp only [pageL, List.length_append]; omega
theorem unctrlF_len (c : Int) : (unctrlF c).length ≤ 8 := by
  have := wordF_len c
  show (wordF c).toArray.size ≤ 8
  rw [List.size_toArray]; omega
end Mine
end

-- B5
section
open PySem PySem.W PyProof.Rows PySem.Calls
namespace Mine
open LCg
section
variable {prog : Program} {w : World} {A : Around} {E : Value → Shared → Prop} {s : Shared} {h₀ : Heap} {m : Str → Option Value} {env : Env}
theorem paired_at {α β : Type} {F : α → β → Prop} {l : List α} {k : List β} (h : Paired F l k) : k.length = l.length ∧ ∀ (i : Nat) (b : β), k[i]? = some b → ∃ a, l[i]? = some a ∧ F a b := by
  induction h with
  | nil => exact ⟨rfl, fun i b hb => by simp at hb⟩
  | cons hf _ ih =>
    refine ⟨by simp [ih.1], fun i b hb => ?_⟩
    cases i with
    | zero => exact ⟨_, rfl, by simpa using (by simpa using hb) ▸ hf⟩
    | succ i => exact ih.2 i b (by simpa using hb)
theorem off1_of {D : Addr} : ∀ {l : List (Addr × Obj)}, (∀ p ∈ l, p.1 ≠ D) → Off1 D l
  | [], _ => trivial
  | _ :: _, h => ⟨h _ List.mem_cons_self, off1_of fun p hp => h p (List.mem_cons_of_mem _ hp)⟩
/-- a list is there, and the tokens stand at one or more: what is asked of it, for a name's comprehension -/
def GoT (prog : Program) (w : World) (A : Around) (h₀ : Heap) (L : Addr) (m : Str → Option Value) (env : Env) (elt : Expr) (x y : Str) (scope : Scope) (cl : List (Str × Addr)) (R : Value → Value → Prop) (Q : Flow → Shared → Prop) (xv : Value) (s₁ : Shared) : Prop :=
  ∃ (ax : Addr) (its : List Value) (news : List (Addr × Obj)), xv = .ref ax ∧ A.handled = none ∧ Fr h₀ L s₁.heap m ∧ News h₀ L s₁.heap news ∧ s₁.heap.IsList ax its.toArray ∧ its.length ≤ sizeLine ∧ 1 ≤ s₁.toks ∧
    (∀ C oC v m₂ (s₃ : Shared) (E' : Value → Shared → Prop), v ∈ its → NsObj oC m₂ → m₂ x = some v → Fr h₀ L s₃.heap m → News h₀ L s₃.heap [(C, oC)] → 1 ≤ s₃.toks →
      wpAny (model prog w) A (eval elt (compEnvC scope cl C env)) (fun y s₄ => (∃ tk', s₄ = { s₃ with toks := tk' }) ∧ R v y) E' s₃) ∧
    (∀ D h' tk (ys : List Value) k, ys.length = its.length → (∀ (i : Nat) (z : Value), ys[i]? = some z → ∃ v, its[i]? = some v ∧ R v z) → Fr h₀ L h' (fun z => if z = y then some (.ref D) else m z) → News h₀ L h' ((D, listOf ys.toArray k) :: news) → Off1 D news →
      Q .next { s₁ with heap := h', toks := tk })
theorem Assign_LC_T {elt iter : Expr} {x y : Str} {px py : Pos} {scope : Scope} {cl : List (Str × Addr)} {pos spos : Pos} {Q : Flow → Shared → Prop} {L : Addr} (R : Value → Value → Prop) (_F₀ : Fr h₀ L s.heap m) (hLe : env.locals = L)
    (hsw : swapsWith (.ListComp elt [⟨.Name x px, iter, [], 0⟩] scope pos) (some (.Name y py)) spos.line env = pure true)
    (hclos : closureFor scope env = pure cl) (hcell : ∀ z ∈ scope.names, z.2 ≠ .cell) (hkind : scope.kind = .function)
    (hnames : ∀ z ∈ scope.names, z.2 = .local → scope.names.lookup z.1 = some .local) (hx : scope.names.lookup x = some .local)
    (hy : env.kindOf y = some .local) (hp : (env.scope.kind == .class || (env.scope.kind == .module && env.locals != env.globals)) = false)
    (h : wpAny (model prog w) A (eval iter env) (GoT prog w A h₀ L m env elt x y scope cl R Q) E s)
    (hs : ∀ x, foldedSetIterable iter env x = pure x := by intro _; rfl) :
    wpAny (model prog w) A (exec (.Assign [.Name y py] (.ListComp elt [⟨.Name x px, iter, [], 0⟩] scope pos) spos) env) Q E s := by
  subst hLe
  refine wpAny_Assign_ListComp_free (fun _ => true) R hsw hclos hcell hkind hnames hx hy hp ?_ hs
  refine wpAny_mono h (fun xv s₁ g => ?_) fun _ _ e => e
  obtain ⟨ax, its, news, rfl, hh, F, N, hl, hsz, htk, turn, fin⟩ := g
  refine wpAny_pyIter_list hl ?_
  have hlt : ax < s₁.heap.objs.size := by obtain ⟨_, e, _⟩ := hl; exact Heap.lt_size e
  have hL : env.locals < s₁.heap.objs.size := F.ns.lt
  have up : ∀ b o, s₁.heap.get? b = some o → (s₁.heap.push { cls := .type "list_iterator", data := .fields #[.ref ax, .int 0 0] }).get? b = some o := fun b o e => Heap.get?_push_of_some _ e
  have hsp : (s₁.heap.push { cls := .type "list_iterator", data := .fields #[.ref ax, .int 0 0] }).objs.size = s₁.heap.objs.size + 1 := Heap.size_push _ _
  refine ⟨s₁.heap.objs.size, [s₁.heap.objs.size, ax], [s₁.heap.objs.size], its.toArray.size, (fun i v => its.toArray[i]? = some v), (fun i h => h.IsListIter s₁.heap.objs.size ax i ∧ h.IsList ax its.toArray), m, rfl,
    Walks.list hh s₁.heap.objs.size ax (Nat.ne_of_lt hlt) its.toArray, by rw [List.size_toArray]; exact hsz, ⟨⟨_, Heap.get?_push_size _ rfl, rfl, rfl⟩, hl.push _⟩, ?_, ?_, (F.keeps up).ns, ⟨?_, ?_⟩, ?_⟩
  · intro b hb
    show b < (s₁.heap.push _).objs.size
    rw [hsp]
    rcases List.mem_cons.mp hb with rfl | hb
    · exact Nat.lt_succ_self _
    · rw [List.mem_singleton.mp hb]; exact Nat.lt_succ_of_lt hlt
  · intro hm
    exact absurd hL ((List.mem_singleton.mp hm) ▸ Nat.lt_irrefl _)
  · intro C i v s₃ m₃ E' _ _ _ _ _ _
    exact wpAny_pure ⟨rfl, s₃.heap, s₃.toks, rfl, fun _ _ e => e⟩
  · intro C i v s₃ m₃ E' hC hv _ hn hm hk ht
    obtain ⟨oC, heC, hoC⟩ := ns_obj hn
    have hCs : s₁.heap.objs.size + 1 ≤ C := by
      have hC' : (s₁.heap.push { cls := .type "list_iterator", data := .fields #[.ref ax, .int 0 0] }).objs.size ≤ C := hC
      rw [hsp] at hC'; exact hC'
    have old : ∀ b o, s₁.heap.get? b = some o → s₃.heap.get? b = some o := fun b o e => hk b o (fun hb => absurd (Heap.lt_size e) ((List.mem_singleton.mp hb) ▸ Nat.lt_irrefl _)) (up b o e)
    have hCL : C ≠ env.locals := fun e => by
      have h1 : env.locals < s₁.heap.objs.size := hL
      rw [← e] at h1
      exact absurd (Nat.lt_of_lt_of_le h1 (Nat.le_of_succ_le hCs)) (Nat.lt_irrefl _)
    have hC0 : h₀.get? C = none := by
      cases e : h₀.get? C with
      | none => rfl
      | some o => exact absurd (Nat.lt_of_lt_of_le (Heap.lt_size (F.keep C o e)) (Nat.le_of_succ_le hCs)) (Nat.lt_irrefl _)
    have hvm : v ∈ its := by
      have hv' : its[i]? = some v := by simpa using hv
      exact List.mem_of_getElem? hv'
    refine wpAny_mono (turn C oC v m₃ s₃ E' hvm hoC hm ((F.keeps old)) ?_ ?_) (fun y s₄ q => ?_) fun _ _ e => e
    · intro p hp
      rw [List.mem_singleton.mp hp]
      exact ⟨heC, hCL, hC0⟩
    · exact Nat.le_trans htk ht
    · obtain ⟨⟨tk', e⟩, r⟩ := q
      exact ⟨r, s₃.heap, tk', e, fun _ _ e => e⟩
  · intro D h' tk ys vs hD hlD hpl hlen hP hF hns hk
    have hft : vs.filter (fun _ => true) = vs := List.filter_eq_self.mpr fun _ _ => rfl
    rw [hft] at hF
    have hvs : vs = its := by
      apply List.ext_getElem?
      intro j
      cases e : vs[j]? with
      | some v => have := hP j v e; simpa using this.symm
      | none =>
        rw [List.getElem?_eq_none_iff] at e
        rw [hlen, List.size_toArray] at e
        exact (List.getElem?_eq_none_iff.mpr e).symm
    subst hvs
    obtain ⟨q1, q2⟩ := paired_at hF
    obtain ⟨n, hpD⟩ := hpl
    have hDs : ∀ b o, s₁.heap.get? b = some o → b ≠ D := fun b o e hb => by
      have := up b o e
      rw [hb] at this
      have hD' : (s₁.heap.push { cls := .type "list_iterator", data := .fields #[.ref ax, .int 0 0] }).get? D = none := hD
      rw [hD'] at this; cases this
    have hL0 : h₀.get? env.locals = none := Heap.get?_none_of_le F.above
    have old : ∀ b o, b ≠ env.locals → s₁.heap.get? b = some o → h'.get? b = some o := fun b o hb e => hk b o hb (fun hm => absurd (Heap.lt_size e) ((List.mem_singleton.mp hm) ▸ Nat.lt_irrefl _)) (up b o e)
    have F' : Fr h₀ env.locals h' (fun z => if z = y then some (.ref D) else m z) := ⟨hns, fun b o e => old b o (fun hb => by rw [hb, hL0] at e; cases e) (F.keep b o e), F.above⟩
    have hDL : D ≠ env.locals := by
      obtain ⟨o, es, ep, e, _⟩ := F.ns
      exact fun q => hDs env.locals o e q.symm
    have hD0 : h₀.get? D = none := by
      cases e : h₀.get? D with
      | none => rfl
      | some o => exact absurd rfl (hDs D o (F.keep D o e))
    refine fin D h' tk ys.toList n (by rw [q1]) (fun i z hz => q2 i z hz) F' (fun p hp => ?_) (off1_of fun p hp => hDs p.1 p.2 (N p hp).1)
    rcases List.mem_cons.mp hp with rfl | hp
    · exact ⟨hpD, hDL, hD0⟩
    · exact ⟨old _ _ (N p hp).2.1 (N p hp).1, (N p hp).2⟩
end
end Mine
end

-- B6
section
open PySem PySem.W PyProof.Rows PySem.Calls PySem.Spec PySem.SeqAt
namespace Mine
inductive Bools : List Value → List Bool → Prop
  | nil : Bools [] []
  | cons (b : Bool) {vs bs} : Bools vs bs → Bools (.bool b :: vs) (b :: bs)
theorem bools_of {α : Type} {ys : List Value} {l : List α} {g : α → Bool} (hl : ys.length = l.length) (hr : ∀ (i : Nat) (y : Value), ys[i]? = some y → ∃ a, l[i]? = some a ∧ y = Value.bool (g a)) : Bools ys (l.map g) := by
  induction ys generalizing l with
  | nil => cases l with
    | nil => exact .nil
    | cons a r => simp at hl
  | cons y ys ih => cases l with
    | nil => simp at hl
    | cons a r =>
      obtain ⟨a', h1, rfl⟩ := hr 0 y rfl
      have e : a = a' := by simpa using h1
      subst e
      exact .cons _ (ih (by simpa using hl) fun i z hz => hr (i + 1) z (by simpa using hz))
def flat : PyData → Bool
  | .bool _ => true
  | .str x => PyData.strOk x
  | _ => false
theorem flat_same : ∀ ds : List PyData, ds.all flat = true → PySem.Spec.sameAll ds ds = true ∧ noMixAll ds ds = true ∧ PyData.canLayAll0 ds = true ∧ PyData.depthAll ds ≤ 1
  | [], _ => by simp [PySem.Spec.sameAll, noMixAll, PyData.canLayAll0, PyData.depthAll]
  | d :: r, h => by
    rw [List.all_cons, Bool.and_eq_true] at h
    obtain ⟨a, b, c, e⟩ := flat_same r h.2
    cases d with
    | bool x => simp [PySem.Spec.sameAll, noMixAll, PyData.canLayAll0, PyData.depthAll, PySem.Spec.same, noMix, PyData.canLay0, PyData.depth, a, b, c]; omega
    | str x =>
      have hx : PyData.strOk x = true := h.1
      simp [hx, PySem.Spec.sameAll, noMixAll, PyData.canLayAll0, PyData.depthAll, PySem.Spec.same, noMix, PyData.canLay0, PyData.depth, a, b, c]; omega
    | _ => exact absurd h.1 (by simp [flat])
theorem flat_shaped (ds : List PyData) (h : ds.all flat = true) : shaped (.list ds) = true := by
  obtain ⟨_, _, c, e⟩ := flat_same ds h
  have h2 : PyData.depth (.list ds) ≤ 64 := by simp only [PyData.depth]; omega
  show (PyData.canLay0 (.list ds) && decide (PyData.depth (.list ds) ≤ 64)) = true
  rw [Bool.and_eq_true]
  exact ⟨by simp only [PyData.canLay0]; exact c, decide_eq_true h2⟩
theorem readsAll_strs {h : Heap} {vs : List Value} {xs : List Str} (hs : StrsAre vs xs) : ReadsAll h vs (xs.map PyData.str) [] := by
  induction hs with
  | nil => exact .nil
  | cons y t _ ih => simpa using ReadsAll.cons (Reads.str (h := h) y t) ih
theorem readsAll_bools {h : Heap} {vs : List Value} {bs : List Bool} (hs : Bools vs bs) : ReadsAll h vs (bs.map PyData.bool) [] := by
  induction hs with
  | nil => exact .nil
  | cons b _ ih => simpa using ReadsAll.cons (Reads.bool (h := h) b) ih
theorem reads_lst {h : Heap} {a : Addr} {vs : List Value} {ds : List PyData} (hl : h.IsList a vs.toArray) (hr : ReadsAll h vs ds []) : Reads h (.ref a) (.list ds) [a] := by
  obtain ⟨o, ho, hc, n, hd⟩ := hl
  exact Reads.list ho hc hd (by simpa using hr)
section
variable {prog : Program} {w : World} {A : Around} {E : Value → Shared → Prop} {s : Shared} {a b : Addr} {vs us : List Value} {Q : Value → Shared → Prop}
theorem ne_same {ds : List PyData} (hl : s.heap.IsList a vs.toArray) (hi : ReadsAll s.heap vs ds []) (hl' : s.heap.IsList b us.toArray) (hi' : ReadsAll s.heap us ds []) (hf : ds.all flat = true) (hu : A.units + 64 < cLine) (h : Q (.bool false) s) :
    wpAny (model prog w) A (compareOp .NotEq (.ref a) (.ref b)) Q E s := by
  obtain ⟨e1, e2, _⟩ := flat_same ds hf
  exact ne_dataH_same (reads_lst hl hi) (reads_lst hl' hi') (flat_shaped ds hf) (flat_shaped ds hf) hu (by simp only [noMix]; exact e2) (by simp only [PySem.Spec.same]; rw [e1]; exact h)
theorem eq_same {ds : List PyData} (hl : s.heap.IsList a vs.toArray) (hi : ReadsAll s.heap vs ds []) (hl' : s.heap.IsList b us.toArray) (hi' : ReadsAll s.heap us ds []) (hf : ds.all flat = true) (hu : A.units + 64 < cLine) (h : Q (.bool true) s) :
    wpAny (model prog w) A (compareOp .Eq (.ref a) (.ref b)) Q E s := by
  obtain ⟨e1, e2, _⟩ := flat_same ds hf
  exact eq_dataH_same (reads_lst hl hi) (reads_lst hl' hi') (flat_shaped ds hf) (flat_shaped ds hf) hu (by simp only [noMix]; exact e2) (by simp only [PySem.Spec.same]; rw [e1]; exact h)
theorem ne_bools {bs : List Bool} (hl : s.heap.IsList a vs.toArray) (hi : Bools vs bs) (hl' : s.heap.IsList b us.toArray) (hi' : Bools us bs) (hu : A.units + 64 < cLine) (h : Q (.bool false) s) :
    wpAny (model prog w) A (compareOp .NotEq (.ref a) (.ref b)) Q E s := ne_same hl (readsAll_bools hi) hl' (readsAll_bools hi') (by simp [flat]) hu h
theorem eq_strs {xs : List Str} (hl : s.heap.IsList a vs.toArray) (hi : StrsAre vs xs) (hl' : s.heap.IsList b us.toArray) (hi' : StrsAre us xs) (hk : ∀ x ∈ xs, PyData.strOk x = true) (hu : A.units + 64 < cLine) (h : Q (.bool true) s) :
    wpAny (model prog w) A (compareOp .Eq (.ref a) (.ref b)) Q E s := eq_same hl (readsAll_strs hi) hl' (readsAll_strs hi') (by simpa [flat] using hk) hu h
theorem ne_ints {ns : List Int} (hl : s.heap.IsList a vs.toArray) (hi : IntsAre vs ns) (hl' : s.heap.IsList b us.toArray) (hi' : IntsAre us ns) (hu : A.units + 64 < cLine) (h : Q (.bool false) s) :
    wpAny (model prog w) A (compareOp .NotEq (.ref a) (.ref b)) Q E s := ne_intsK hl hi hl' hi' hu (by simpa using h)
end
end Mine
end

-- P2
section
open PySem PySem.W PyProof.Rows PySem.Calls
namespace Mine
def digU (d : Nat) : Nat := if d < 10 then 48 + d else 55 + d
def pairC (n : Nat) : Str := ⟨#[digU (n / 16), digU (n % 16)]⟩
def hexU (l : List Nat) : List Nat := l.flatMap fun n => [digU (n / 16), digU (n % 16)]
def spc : List Nat → List Nat
  | [] => []
  | [n] => [digU (n / 16), digU (n % 16)]
  | n :: k :: r => digU (n / 16) :: digU (n % 16) :: 32 :: spc (k :: r)
def spW (c : Int) : Str := ⟨(spc (wordF c)).toArray⟩
def hexW (c : Int) : Str := ⟨(hexU (wordF c)).toArray⟩
theorem hexU_cons (n : Nat) (l : List Nat) : hexU (n :: l) = digU (n / 16) :: digU (n % 16) :: hexU l := rfl
theorem up_dig {d : Nat} (h : d < 16) : (Builtin.Bytes.toUpper (Nat.toUInt8 (Builtin.Bytes.hexDigit d))).toNat = digU d :=
  (by decide +kernel : ∀ d : Nat, d < 16 → (Builtin.Bytes.toUpper (Nat.toUInt8 (Builtin.Bytes.hexDigit d))).toNat = digU d) d h
theorem u8_small {n : Nat} (h : n < 256) : (((n : Int).toNat.toUInt8).toNat) = n := by
  show n % 256 = n
  omega
theorem hexUp_dig : ∀ (l : List Nat), (∀ n ∈ l, n < 256) → (hexUp (byteArr (l.map fun n : Nat => (n : Int)))).toList.map (fun c => c.toNat) = hexU l
  | [], _ => by simp [hexUp, byteArr, hexL, hexU]
  | n :: r, h => by
    have hn : n < 256 := h n (List.mem_cons_self ..)
    have ih := hexUp_dig r fun k hk => h k (List.mem_cons_of_mem _ hk)
    unfold hexUp byteArr at ih ⊢
    simp only [List.map_cons, List.map_map, hexL, List.flatMap_cons, Array.toList_map, List.map_append, List.map_nil] at ih ⊢
    rw [ih, hexU_cons]
    simp only [u8_small hn, List.cons_append, List.nil_append]
    rw [up_dig (by omega), up_dig (by omega)]
theorem pairS_succ (a b : Nat) (t : List Nat) (n : Nat) : pairS (a :: b :: t) (n + 1) = ⟨#[a, b]⟩ :: pairS t n := by
  unfold pairS
  rw [List.range_succ_eq_map, List.map_cons, List.map_map]
  congr 1
theorem pairS_hexU : ∀ l : List Nat, pairS (hexU l) l.length = l.map pairC
  | [] => rfl
  | n :: r => by rw [hexU_cons, List.length_cons, pairS_succ, pairS_hexU r]; rfl
theorem pairS_hex {ns : List Int} {l : List Nat} (hl : ns = l.map fun n : Nat => (n : Int)) (h : ∀ n ∈ l, n < 256) : pairS ((hexUp (byteArr ns)).toList.map fun c => c.toNat) (byteArr ns).size = l.map pairC := by
  subst hl
  rw [hexUp_dig l h, byteArr_size, List.length_map, pairS_hexU]
theorem join_pairs (l : List Nat) : Txt.join (Str.ofString " ") (l.map pairC) = ⟨(spc l).toArray⟩ := by
  have e : Str.ofString " " = ⟨#[32]⟩ := by decide
  rw [e]
  show Builtin.Str.glued _ _ = _
  rw [StrLaws.glued_eq_join]
  induction l with
  | nil => rfl
  | cons c r ih =>
    cases r with
    | nil => rfl
    | cons d r =>
      rw [List.map_cons, List.map_cons, Str.join, ← List.map_cons (f := pairC), ih]
      · apply Str.ext'
        apply Array.toList_inj.mp
        simp [Str.cps_append, spc, pairC]
      · simp
theorem spc_len : ∀ l : List Nat, (spc l).length ≤ 3 * l.length
  | [] => by simp [spc]
  | [n] => by simp [spc]
  | n :: k :: r => by
    have := spc_len (k :: r)
    simp only [spc, List.length_cons] at this ⊢
    omega
theorem digU_ge (d : Nat) : 48 ≤ digU d := by unfold digU; split <;> omega
theorem digU_pos {d : Nat} (h : 0 < d) : digU d ≠ 48 := by unfold digU; split <;> omega
theorem spc_cat : ∀ (w v : List Nat), w ≠ [] → v ≠ [] → spc (w ++ 10 :: v) = spc w ++ 32 :: 48 :: 65 :: 32 :: spc v
  | [], _, h, _ => absurd rfl h
  | [n], v, _, hv => by
    cases v with
    | nil => exact absurd rfl hv
    | cons k r => rfl
  | n :: k :: r, v, _, hv => by
    have ih := spc_cat (k :: r) v (by simp) hv
    simp only [List.cons_append, spc] at ih ⊢
    rw [ih]
theorem spc_gap : ∀ (w : List Nat), (∀ n ∈ w, 32 ≤ n) → ∀ k : Nat, (spc w)[k]? = some 32 → ∃ d, (spc w)[k + 1]? = some d ∧ d ≠ 48
  | [], _, k, h => by simp [spc] at h
  | [n], _, k, h => by
    have h1 := digU_ge (n / 16)
    have h2 := digU_ge (n % 16)
    match k, h with
    | 0, h => simp [spc] at h; omega
    | 1, h => simp [spc] at h; omega
    | k + 2, h => simp [spc] at h
  | n :: m :: r, hw, k, h => by
    have h1 := digU_ge (n / 16)
    have h2 := digU_ge (n % 16)
    have ih := spc_gap (m :: r) fun x hx => hw x (List.mem_cons_of_mem _ hx)
    match k, h with
    | 0, h => simp [spc] at h; omega
    | 1, h => simp [spc] at h; omega
    | 2, _ =>
      have hm : 32 ≤ m := hw m (by simp)
      refine ⟨digU (m / 16), ?_, digU_pos (by omega)⟩
      cases r <;> simp [spc]
    | k + 3, h =>
      have h' : (spc (m :: r))[k]? = some 32 := by simpa [spc] using h
      obtain ⟨d, e, hd⟩ := ih k h'
      exact ⟨d, by simpa [spc] using e, hd⟩
theorem wordF_ne (c : Int) : wordF c ≠ [] := by
  have := (wordF_len c).1
  intro e
  rw [e] at this
  exact absurd this (by decide)
theorem pageL_ne (c : Int) (r : List Int) : pageL (c :: r) ≠ [] := by
  have := pageL_pos (c :: r) (by simp)
  intro e
  rw [e] at this
  exact absurd this (by decide)
open StrLaws Builtin.Str
abbrev brk : Str := ⟨#[32, 48, 65, 32]⟩
theorem at_two {x : Str} {hi k : Nat} (h : At x brk hi k) : x.cps.toList[k]? = some 32 ∧ x.cps.toList[k + 1]? = some 48 := by
  have h2 := h.2
  rw [subAt_eq] at h2
  have e : (x.cps.toList.drop k).take 4 = [32, 48, 65, 32] := eq_of_beq h2
  have e0 : ((x.cps.toList.drop k).take 4)[0]? = some 32 := by rw [e]; rfl
  have e1 : ((x.cps.toList.drop k).take 4)[1]? = some 48 := by rw [e]; rfl
  rw [List.getElem?_take_of_lt (by decide), List.getElem?_drop] at e0 e1
  exact ⟨e0, e1⟩
theorem no_at {x : Str} {hi a k : Nat} {w rest : List Nat} (hx : x.cps.toList.drop a = spc w ++ rest) (hw : ∀ n ∈ w, 32 ≤ n) (h1 : a ≤ k) (h2 : k < a + (spc w).length) : ¬ At x brk hi k := by
  intro h
  obtain ⟨e0, e1⟩ := at_two h
  have f0 : (spc w ++ rest)[k - a]? = some 32 := by rw [← hx, List.getElem?_drop, show a + (k - a) = k by omega]; exact e0
  have f1 : (spc w ++ rest)[k - a + 1]? = some 48 := by rw [← hx, List.getElem?_drop, show a + (k - a + 1) = k + 1 by omega]; exact e1
  rw [List.getElem?_append_left (by omega)] at f0
  obtain ⟨d, ed, hd⟩ := spc_gap w hw _ f0
  have hl : k - a + 1 < (spc w).length := (List.getElem?_eq_some_iff.mp ed).1
  rw [List.getElem?_append_left hl, ed] at f1
  exact hd (by simpa using f1)
theorem parts_page (x : Str) : ∀ (cs : List Int) (a : Nat) (cuts : List Nat) (f : Nat), cs ≠ [] → x.cps.toList.drop a = spc (pageL cs) → ChainG x brk x.length a cuts f → (∀ k, f ≤ k → ¬ At x brk x.length k) →
    partsFrom x 4 a cuts = cs.map spW
  | [], _, _, _, h, _, _, _ => absurd rfl h
  | [c], a, cuts, f, _, hx, hG, hn => by
    have hx' : x.cps.toList.drop a = spc (wordF c) ++ [] := by rw [hx, List.append_nil]; rfl
    have hlen : (spc (wordF c)).length = x.length - a := by
      have := congrArg List.length hx'
      rw [List.length_drop, List.append_nil] at this
      rw [← this]; rfl
    have hno : ∀ k, a ≤ k → ¬ At x brk x.length k := by
      intro k hk hA
      refine no_at hx' (fun n hn => (wordF_le c n hn).1) hk ?_ hA
      have := hA.1
      have e4 : brk.length = 4 := rfl
      omega
    cases cuts with
    | cons e r => exact absurd hG.2.1 (hno e hG.1)
    | nil =>
      show [strSub x a x.length] = [spW c]
      congr 1
      apply Str.ext'
      apply Array.toList_inj.mp
      rw [strSub_toList, hx', List.append_nil, ← hlen, List.take_length]
      rfl
  | c :: d :: r, a, cuts, f, _, hx, hG, hn => by
    have hx' : x.cps.toList.drop a = spc (wordF c) ++ 32 :: 48 :: 65 :: 32 :: spc (pageL (d :: r)) := by
      rw [hx]; exact spc_cat _ _ (wordF_ne c) (pageL_ne d r)
    have hlen : (spc (wordF c)).length + 4 + (spc (pageL (d :: r))).length = x.length - a := by
      have := congrArg List.length hx'
      rw [List.length_drop, List.length_append] at this
      simp only [List.length_cons] at this
      have e : x.cps.toList.length = x.length := rfl
      omega
    have e4 : brk.length = 4 := rfl
    have hat : At x brk x.length (a + (spc (wordF c)).length) := by
      refine ⟨by omega, ?_⟩
      rw [subAt_eq, ← List.drop_drop, hx', List.drop_left]
      rfl
    have hno : ∀ k, a ≤ k → k < a + (spc (wordF c)).length → ¬ At x brk x.length k := fun k h1 h2 => no_at hx' (fun n hn => (wordF_le c n hn).1) h1 h2
    cases cuts with
    | nil =>
      have ef : f = a := hG
      exact absurd hat (hn _ (by omega))
    | cons e q =>
      obtain ⟨g1, g2, g3, g4⟩ := hG
      have ee : e = a + (spc (wordF c)).length := by
        rcases Nat.lt_trichotomy e (a + (spc (wordF c)).length) with h | h | h
        · exact absurd g2 (hno e g1 h)
        · exact h
        · exact absurd hat (g3 _ (by omega) h)
      subst ee
      have ih := parts_page x (d :: r) (a + (spc (wordF c)).length + 4) q f (by simp) ?_ g4 hn
      · show strSub x a (a + (spc (wordF c)).length) :: partsFrom x 4 (a + (spc (wordF c)).length + 4) q = spW c :: (d :: r).map spW
        rw [ih]
        congr 1
        apply Str.ext'
        apply Array.toList_inj.mp
        rw [strSub_toList, hx', show a + (spc (wordF c)).length - a = (spc (wordF c)).length by omega, List.take_left]
        rfl
      · rw [← List.drop_drop, ← List.drop_drop, hx', List.drop_left]
        rfl
theorem kind_one (x : Str) : 1 ≤ Builtin.Str.strKind x := by unfold Builtin.Str.strKind; split <;> (try split) <;> decide
theorem split_page {cs : List Int} {pl : List Nat} (hpg : pageL cs = pl) (h0 : 0 < cs.length) : Txt.split ⟨(spc pl).toArray⟩ (Str.ofString " 0A ") = cs.map spW := by
  subst hpg
  have hne : cs ≠ [] := by intro e; rw [e] at h0; exact absurd h0 (by decide)
  rw [show Str.ofString " 0A " = brk by decide]
  generalize hx : (⟨(spc (pageL cs)).toArray⟩ : Str) = x
  have hd : x.cps.toList.drop 0 = spc (pageL cs) := by rw [← hx]; rfl
  obtain ⟨f, hG, hn⟩ := occ_tight x brk (by decide)
  have hp := parts_page x cs 0 _ f hne hd hG hn
  unfold Txt.split
  split
  · rename_i hc
    rw [Bool.or_eq_true, decide_eq_true_eq, decide_eq_true_eq] at hc
    have hlt : x.length < brk.length := by
      rcases hc with h | h
      · exact h
      · have := kind_one x
        have e : Builtin.Str.strKind brk = 1 := by decide +kernel
        omega
    rw [← hp]
    generalize occurrences x brk 0 x.length (x.length + 1) = cuts at hG
    cases cuts with
    | nil => show [x] = [strSub x 0 x.length]; rw [sub_whole]
    | cons e q =>
      have := hG.2.1.1
      omega
  · split
    · rename_i he
      rw [← hp, List.isEmpty_iff.mp he]
      show [x] = [strSub x 0 x.length]; rw [sub_whole]
    · rw [partsBetween_eq]
      exact hp
theorem strike_spc : ∀ w : List Nat, (spc w).filter (· != 32) = hexU w
  | [] => rfl
  | [n] => by
    have h1 := digU_ge (n / 16)
    have h2 := digU_ge (n % 16)
    show List.filter (· != 32) [digU (n / 16), digU (n % 16)] = [digU (n / 16), digU (n % 16)]
    rw [List.filter_cons_of_pos (by simp; omega), List.filter_cons_of_pos (by simp; omega)]; rfl
  | n :: k :: r => by
    have h1 := digU_ge (n / 16)
    have h2 := digU_ge (n % 16)
    have ih := strike_spc (k :: r)
    rw [spc, hexU_cons, List.filter_cons_of_pos (by simp; omega), List.filter_cons_of_pos (by simp; omega), List.filter_cons_of_neg (by simp), ih]
theorem strike_word (c : Int) : Txt.replace (spW c) (Str.ofString " ") (Str.ofString "") = hexW c := by
  rw [show Str.ofString " " = ⟨#[32]⟩ by decide, show Str.ofString "" = ⟨#[]⟩ by decide]
  apply Str.ext'
  apply Array.toList_inj.mp
  rw [replace_strikes]
  exact strike_spc (wordF c)
def wordG (m : Nat) : List Nat :=
  let r := if 32 ≤ m % 128 ∧ m % 128 ≤ 126 then [m % 128] else if m % 128 = 127 then [94, 159] else [94, m % 128 + 64]
  if m < 128 then r else 33 :: r
theorem wordF_G {c : Int} (h : c ≠ 127) : wordF c = wordG (c % 256).toNat := by
  unfold wordF wordG repF
  rw [if_neg h]
  have e : (c % 256).toNat % 128 = (c % 128).toNat := by omega
  rw [e]
  have h1 : (32 ≤ (c % 128).toNat ∧ (c % 128).toNat ≤ 126) ↔ (32 ≤ c % 128 ∧ c % 128 ≤ 126) := by omega
  have h2 : (c % 128).toNat = 127 ↔ c % 128 = 127 := by omega
  have h3 : (c % 256).toNat < 128 ↔ c % 256 < 128 := by omega
  simp only [h1, h2, h3]
theorem find_dig {d : Nat} (h : d < 16) : Txt.find sgS ⟨#[digU d]⟩ = (d : Int) :=
  (by decide +kernel : ∀ d : Nat, d < 16 → Txt.find sgS ⟨#[digU d]⟩ = (d : Int)) d h
section
variable (p q a b r s : Nat)
theorem sl2a : Txt.slice ⟨#[a, b]⟩ (some (-2)) (some (-1)) = ⟨#[a]⟩ := by kernel_rfl
theorem sl2b : Txt.slice ⟨#[a, b]⟩ (some (-1)) none = ⟨#[b]⟩ := by kernel_rfl
theorem sl4a : Txt.slice ⟨#[p, q, a, b]⟩ (some (-2)) (some (-1)) = ⟨#[a]⟩ := by kernel_rfl
theorem sl4b : Txt.slice ⟨#[p, q, a, b]⟩ (some (-1)) none = ⟨#[b]⟩ := by kernel_rfl
theorem sl4h : Txt.slice ⟨#[p, q, a, b]⟩ none (some 2) = ⟨#[p, q]⟩ := by kernel_rfl
theorem sl6h : Txt.slice ⟨#[p, q, a, b, r, s]⟩ none (some 2) = ⟨#[p, q]⟩ := by kernel_rfl
theorem sl4t : Txt.slice ⟨#[p, q, a, b]⟩ (some 2) none = ⟨#[a, b]⟩ := by kernel_rfl
theorem sl6t : Txt.slice ⟨#[p, q, a, b, r, s]⟩ (some 2) none = ⟨#[a, b, r, s]⟩ := by kernel_rfl
theorem two_ne : ((⟨#[a, b]⟩ : Str) == ⟨#[p, q, r, s]⟩) = false := by
  apply beq_false_of_ne
  intro e
  have := congrArg (fun x : Str => x.cps.size) e
  exact absurd this (by show ¬ (2 = 4); decide)
theorem four_ne {a b p q r s : Nat} (h : a ≠ r) : ((⟨#[p, q, a, b]⟩ : Str) == ⟨#[p, q, r, s]⟩) = false := by
  apply beq_false_of_ne
  intro e
  have := congrArg (fun x : Str => x.cps.toList[2]?) e
  exact h (by simpa using this)
end
theorem s5E3F : Str.ofString "5E3F" = ⟨#[53, 69, 51, 70]⟩ := by decide
theorem s5E9F : Str.ofString "5E9F" = ⟨#[53, 69, 57, 70]⟩ := by decide
theorem octN2 {n : Nat} (h : n < 256) : octN ⟨#[digU (n / 16), digU (n % 16)]⟩ = n := by
  unfold octN
  rw [sl2a, sl2b, find_dig (by omega), find_dig (by omega)]
  omega
theorem octN4 {p q n : Nat} (h : n < 256) : octN ⟨#[p, q, digU (n / 16), digU (n % 16)]⟩ = n := by
  unfold octN
  rw [sl4a, sl4b, find_dig (by omega), find_dig (by omega)]
  omega
theorem rest2 {h : Int} {n : Nat} (h1 : 32 ≤ n) (h2 : n ≤ 126) : (n : Int) + h = octRest h ⟨#[digU (n / 16), digU (n % 16)]⟩ := by
  have hN := octN2 (n := n) (by omega)
  refine r4 (nq1 (by rw [s5E3F]; exact two_ne ..)) (by rw [s5E9F]; exact two_ne ..) (n15 rfl) rfl ?_ ?_ ?_
  · rw [hN]; omega
  · rw [hN]; omega
  · rw [hN]
theorem dig45 {n : Nat} (h1 : 64 ≤ n) (h2 : n ≤ 95) : digU (n / 16) = 52 ∨ digU (n / 16) = 53 := by
  have : n / 16 = 4 ∨ n / 16 = 5 := by omega
  rcases this with e | e
  · left; rw [e]; rfl
  · right; rw [e]; rfl
theorem rest4 {h : Int} {n : Nat} (h1 : 64 ≤ n) (h2 : n ≤ 95) : (n : Int) - 64 + h = octRest h ⟨#[53, 69, digU (n / 16), digU (n % 16)]⟩ := by
  have hN := octN4 (p := 53) (q := 69) (n := n) (by omega)
  have hd := dig45 h1 h2
  refine r3 (nq1 (by rw [s5E3F]; exact four_ne (by omega))) (by rw [s5E9F]; exact four_ne (by omega)) rfl (by rw [sl4h]; decide) ?_ ?_ ?_
  · rw [hN]; omega
  · rw [hN]; omega
  · rw [hN]
theorem rest9 {h : Int} : 127 + h = octRest h ⟨#[53, 69, 57, 70]⟩ := r2 (by rw [s5E9F]; simp) rfl
theorem lo4 {a b : Nat} : octetF ⟨#[53, 69, a, b]⟩ = octRest 0 ⟨#[53, 69, a, b]⟩ := oF_lo2 (by rw [sl4h]; decide)
theorem lo2 {a b : Nat} : octetF ⟨#[a, b]⟩ = octRest 0 ⟨#[a, b]⟩ := oF_lo1 (by show ¬ (2 : Int) < 2; decide)
theorem hi4 {a b : Nat} : octetF ⟨#[50, 49, a, b]⟩ = octRest 128 ⟨#[a, b]⟩ := by
  rw [oF_hi (by show (2 : Int) < 4; decide) (by rw [sl4h]; decide), sl4t]
theorem hi6 {a b c d : Nat} : octetF ⟨#[50, 49, a, b, c, d]⟩ = octRest 128 ⟨#[a, b, c, d]⟩ := by
  rw [oF_hi (by show (2 : Int) < 6; decide) (by rw [sl6h]; decide), sl6t]
theorem octG {m : Nat} (h : m < 256) : octetF ⟨(hexU (wordG m)).toArray⟩ = (m : Int) := by
  unfold wordG
  by_cases hm : m < 128
  · simp only [if_pos hm]
    split
    · rename_i hp
      rw [show m % 128 = m by omega] at hp ⊢
      exact lo2.trans ((rest2 hp.1 hp.2).symm.trans (by omega))
    · split
      · rename_i e
        exact lo4.trans (rest9.symm.trans (by omega))
      · rw [show m % 128 = m by omega] at *
        exact lo4.trans ((rest4 (n := m + 64) (by omega) (by omega)).symm.trans (by omega))
  · simp only [if_neg hm]
    split
    · rename_i hp
      exact hi4.trans ((rest2 hp.1 hp.2).symm.trans (by omega))
    · split
      · rename_i e
        exact hi6.trans (rest9.symm.trans (by omega))
      · exact hi6.trans ((rest4 (n := m % 128 + 64) (by omega) (by omega)).symm.trans (by omega))
theorem delG {m : Nat} (h : m < 256) : ((⟨(hexU (wordG m)).toArray⟩ : Str) == Str.ofString "5E3F") = false :=
  (by decide +kernel : ∀ m : Nat, m < 256 → ((⟨(hexU (wordG m)).toArray⟩ : Str) == Str.ofString "5E3F") = false) m h
theorem octet_word (c : Int) : octetF (hexW c) = c % 256 := by
  by_cases h : c = 127
  · subst h; decide +kernel
  · unfold hexW
    rw [wordF_G h, octG (by omega)]
    omega
theorem word_del (c : Int) : (hexW c == Str.ofString "5E3F") = decide (c = 127) := by
  by_cases h : c = 127
  · subst h; decide +kernel
  · unfold hexW
    rw [wordF_G h, delG (by omega), decide_eq_false h]
theorem hexU_len (l : List Nat) : (hexU l).length = 2 * l.length := by
  induction l with
  | nil => rfl
  | cons n r ih => rw [hexU_cons, List.length_cons, List.length_cons, List.length_cons, ih]; omega
theorem hexW_len (c : Int) : (hexW c).length ≤ 6 := by
  have := (wordF_len c).2
  show (hexU (wordF c)).toArray.size ≤ 6
  rw [List.size_toArray, hexU_len]; omega
theorem spW_len (c : Int) : (spW c).length ≤ 9 := by
  have := (wordF_len c).2
  have := spc_len (wordF c)
  show (spc (wordF c)).toArray.size ≤ 9
  rw [List.size_toArray]; omega
theorem item_pair {n : Nat} (h : n < 256) : Txt.item (Str.ofString "0123456789ABCDEF") ((n : Int).fdiv 16) ++ Txt.item (Str.ofString "0123456789ABCDEF") ((n : Int).fmod 16) = pairC n :=
  (by decide +kernel : ∀ n : Nat, n < 256 → Txt.item (Str.ofString "0123456789ABCDEF") ((n : Int).fdiv 16) ++ Txt.item (Str.ofString "0123456789ABCDEF") ((n : Int).fmod 16) = pairC n) n h
theorem pair_ok {n : Nat} (h : n < 256) : PyData.strOk (pairC n) = true :=
  (by decide +kernel : ∀ n : Nat, n < 256 → PyData.strOk (pairC n) = true) n h
theorem words_are {cs : List Int} {its wys : List Value} (ha : StrsAre its (cs.map spW)) (hl : wys.length = its.length)
    (hr : ∀ (i : Nat) (z : Value), wys[i]? = some z → ∃ v, its[i]? = some v ∧ ∃ x t t', v = Value.str x t ∧ z = Value.str (Txt.replace x (Str.ofString " ") (Str.ofString "")) t') : StrsAre wys (cs.map hexW) := by
  have h5l := strs_length ha
  rw [List.length_map] at h5l
  refine strs_of (by omega) fun i z hz => ?_
  obtain ⟨v, hv, x, t, t', rfl, rfl⟩ := hr i z hz
  obtain ⟨y, u, hy, e⟩ := strs_at ha i _ hv
  rw [List.getElem?_map] at hy
  obtain ⟨c, hc, rfl⟩ := Option.map_eq_some_iff.mp hy
  cases e
  exact ⟨c, t', hc, by rw [strike_word]⟩
end Mine
end

-- W2
section
open PySem PySem.W PyProof.Rows PySem.Calls
namespace Mine
theorem mod_lt (c : Int) : (c % 256).toNat < 256 := by omega
local macro_rules | `(tactic| walk_at "eval ListComp") => `(tactic| refine Stop.out ?_)
local macro_rules | `(tactic| walk_at "exec Assign cons ListComp") => `(tactic| refine Stop.out ?_)
local macro_rules | `(tactic| walk_at "call type:bytes") => `(tactic| refine Stop.out ?_)
local macro_rules | `(tactic| walk_at "call builtin:isinstance") => `(tactic| ((with_reducible show wpAny _ _ (call _ [Value.bytes _ _, Value.type "bytes"]) _ _ _); refine isi_bytes ?_; intro k9))
local macro_rules | `(tactic| walk_at "ite") => `(tactic| first | with_reducible refine iteF ?_ | with_reducible refine iteT ?_ | with_reducible refine iteNT ?_ | with_reducible refine iteNF ?_)
local macro_rules | `(tactic| walk_at "CompSrc") => `(tactic| refine Stop.out ?_)
local macro_rules | `(tactic| walk_at "call ref") => `(tactic| ((with_reducible show wpAny _ _ (call (Value.ref 42) [Value.int _ _]) _ _ _); k_dflt (refine unctrl_int (by k_asm) (by k_asm) (by k_asm) (by k_asm) (by k_asm) rfl ?_); intro t9 h9 tk9 F9 N9; (try k_sweep)))
local macro_rules | `(tactic| walk_at "call ref") => `(tactic| ((with_reducible show wpAny _ _ (call (Value.ref 42) [Value.str _ _]) _ _ _); k_dflt (refine unctrl_chr (by omega) (by k_asm) (by k_asm) (by k_asm) (by k_asm) (by k_asm) rfl ?_); intro t9 h9 tk9 F9 N9; (try k_sweep)))
local macro_rules | `(tactic| walk_at "call ref") => `(tactic| ((with_reducible show wpAny _ _ (call (Value.ref 65) [Value.bytes _ _]) _ _ _); k_dflt (refine b16_var (by omega) (by k_asm) (by k_asm) (by k_asm) (by k_asm) (by k_asm) rfl ?_); intro r9 t9 h9 tk9 hr9 F9 N9; (try k_sweep)))
local macro_rules | `(tactic| walk_at "call ref") => `(tactic| ((with_reducible show wpAny _ _ (call (Value.ref 77) [Value.bytes _ _]) _ _ _); k_dflt (refine pairs_hex (by assumption) (by omega) (by k_asm) (by k_asm) (by k_asm) (by k_asm) (by k_asm) ?_); intro D9 ys9 h9 tk9 hS9 F9 N9; (try k_sweep)))
local macro_rules | `(tactic| walk_at "call ref") => `(tactic| ((with_reducible show wpAny _ _ (call (Value.ref 72) [Value.str _ _]) _ _ _); k_dflt (refine octet_any (by omega) (by k_asm) (by k_asm) (by k_asm) (by k_asm) (by k_asm) rfl ?_); intro t9 h9 tk9 F9 N9; (try k_sweep)))
local macro_rules | `(tactic| walk_at "compareOp NotEq ref ref") => `(tactic| refine Stop.out ?_)
local macro_rules | `(tactic| walk_at "compareOp Eq ref ref") => `(tactic| refine Stop.out ?_)
local macro_rules | `(tactic| k_ne) => `(tactic| (refine neN ?_; first | with_reducible assumption | exact Ne.symm (by with_reducible assumption)))
local macro_rules | `(tactic| walk_at "storeName str") => `(tactic| walk_at "storeName")
local macro_rules | `(tactic| walk_at "call builtin:str.join") => `(tactic| refine Stop.out ?_)
local macro_rules | `(tactic| walk_at "call builtin:str.split") => `(tactic| refine Stop.out ?_)
set_option pp.deepTerms false in
set_option pp.deepTerms.threshold 5 in
set_option maxRecDepth 100000 in
set_option maxHeartbeats 8000000 in
theorem law_holds : PySem.Challenge.rw_mg0013_01.Holds := hd (by
  w_strict (
    w_top off
    k_go0
    (all_goals try k_fold)
    rename Below callerA _ _ _ => K0
    change Below callerA (Shared.heap _) [] (Shared.heap _) at K0
    walk1
    walk1
    refine num_cut (by k_asm) (by k_asm) ?_ ?_
    · k_steps
      · exact num_end (by k_asm) (by k_asm) (by assumption) (by omega) (by omega) (List.forall_mem_cons.mpr ⟨by refine ltN ?_; (try dsimp only); omega, List.forall_mem_cons.mpr ⟨by refine ltN ?_; (try dsimp only); omega, List.forall_mem_cons.mpr ⟨by refine ltN ?_; (try dsimp only); omega, List.forall_mem_nil _⟩⟩⟩)
      · exact num_end (by k_asm) (cb_drop (by k_asm) (List.forall_mem_cons.mpr ⟨by k_mem, List.forall_mem_cons.mpr ⟨by k_mem, List.forall_mem_cons.mpr ⟨by k_mem, List.forall_mem_cons.mpr ⟨by k_mem, List.forall_mem_nil _⟩⟩⟩⟩)) (.cons 127 _ (.cons 255 _ (.cons 383 _ (.cons 10 _ .nil)))) (by decide) (by decide) (List.forall_mem_cons.mpr ⟨by refine ltN ?_; (try dsimp only); omega, List.forall_mem_cons.mpr ⟨by refine ltN ?_; (try dsimp only); omega, List.forall_mem_cons.mpr ⟨by refine ltN ?_; (try dsimp only); omega, List.forall_mem_nil _⟩⟩⟩)
    · rintro v s₂ ⟨D, vs, ns, k, h', tk', rfl, rfl, F9, N9, hI9, h19, h129, l1⟩
      k_lt l1
      k_steps
      refine wpAny_Assign_Name ?_
      refine ListComp_S (by k_asm) (by with_unfolding_all rfl) (by decide) (by rfl) (by decide) (by rfl) ?_
      k_steps
      have hvl := hI9.length
      refine go_gen (fun i y => ∃ c t, (codesF ns)[i]? = some c ∧ y = Value.int (id c) t) (by k_asm) (by k_asm) (n := ns.length) (by rw [sizeLine_eq]; omega) (src_range rfl (by assumption) (by exact small_one (by omega) (by omega) (by omega) (by omega)) (by exact rangeSize_nat _ _)) ?_ ?_
      · intro g i v I oI C oC D9 m₂ ys h tk E' hi hv hC hx F9 N9 off ne
        obtain ⟨u, rfl⟩ := hv
        rw [show 0 + (i : Int) * 1 = (i : Int) by omega] at hx
        simp only [LCg.Off3, and_true] at off
        k_steps
        · exact el_end (by k_asm) (by k_asm) (code_odd hi (by assumption))
        · exact el_end (by k_asm) (by k_asm) (code_even hi (by assumption))
      · intro g cys hcyl hr
        have hS0 := ints_of (g := id) (by rw [codesF_length]; exact hcyl) hr
        rw [List.map_id] at hS0
        have hcl := codesF_length ns
        have hodd := codesF_odd ns
        generalize codesF ns = cs at hS0 hcl hodd
        k_steps
        have hyl := hS0.length
        refine ListComp_S (by k_asm) (by with_unfolding_all rfl) (by decide) (by rfl) (by decide) (by rfl) ?_
        k_steps
        refine go_gen (fun i y => ∃ c t, cs[i]? = some c ∧ y = Value.str (unctrlF c) t) (by k_asm) (by k_asm) (n := cs.length) (by rw [sizeLine_eq]; omega) (src_range rfl (by assumption) (by exact small_one (by omega) (by omega) (by omega) (by omega)) (by exact rangeSize_nat _ _)) ?_ ?_
        · intro g i v I oI C oC D9 m₂ ys h tk E' hi hv hC hx F9 N9 off ne
          obtain ⟨u, rfl⟩ := hv
          rw [show 0 + (i : Int) * 1 = (i : Int) by omega] at hx
          simp only [LCg.Off3, and_true] at off
          by_cases ho : i % 2 = 1
          · have hf := fmod_odd ho
            have hc := cs_odd hodd hi ho
            k_steps
            all_goals first
              | exact absurd hf (by assumption)
              | exact el_end (by k_asm) (by k_asm) (page_item' hi hc.1)
          · have hf := fmod_even ho
            k_steps
            all_goals first
              | exact absurd (by assumption) hf
              | exact el_end (by k_asm) (by k_asm) (page_item hi)
        · intro g ys hl hr
          have hS1 := strs_of (g := unctrlF) hl hr
          k_steps
          refine call_join (News.isList (by k_asm) (by k_mem)) hS1 (by intro a ha; obtain ⟨c, _, rfl⟩ := List.mem_map.mp ha; exact unctrlF_len c) (by rw [List.length_map]; omega) (by decide) ?_
          rw [join_page]
          intro t8 k8
          have hp1 := pageL_le cs
          have hp2 := pageL_len cs
          have hp3 := pageL_pos cs (by omega)
          generalize hpg : pageL cs = pl at hp1 hp2 hp3
          (try k_fold)
          k_steps
          refine ListComp_S (by k_asm) (by with_unfolding_all rfl) (by decide) (by rfl) (by decide) (by rfl) ?_
          k_steps
          refine go_gen (fun i y => ∃ n t, pl[i]? = some n ∧ y = Value.int ((n : Nat) : Int) t) (by k_asm) (by k_asm) (n := pl.length) (by rw [sizeLine_eq]; omega) (src_signs rfl) ?_ ?_
          · intro g i v I oI C oC D9 m₂ ys h tk E' hi hv hC hx F9 N9 off ne
            obtain ⟨c, u, hc, rfl⟩ := hv
            simp only [LCg.Off3, and_true] at off
            k_steps
            exact el_end (by k_asm) (by k_asm) (int_item (g := fun n : Nat => (n : Int)) hc rfl)
          · intro g ys hl hr
            have hS2 := ints_of (g := fun n : Nat => (n : Int)) hl hr
            k_steps
            refine ListComp_S (by k_asm) (by with_unfolding_all rfl) (by decide) (by rfl) (by decide) (by rfl) ?_
            k_steps
            refine go_gen (fun i y => ∃ n t, pl[i]? = some n ∧ y = Value.int ((n : Nat) : Int) t) (by k_asm) (by k_asm) (n := pl.length) (by rw [sizeLine_eq]; omega) (src_signs rfl) ?_ ?_
            · intro g i v I oI C oC D9 m₂ ys h tk E' hi hv hC hx F9 N9 off ne
              obtain ⟨c, u, hc, rfl⟩ := hv
              simp only [LCg.Off3, and_true] at off
              k_steps
              exact el_end (by k_asm) (by k_asm) (int_item (g := fun n : Nat => (n : Int)) hc rfl)
            · intro g ys hl hr
              have hS3 := ints_of (g := fun n : Nat => (n : Int)) hl hr
              k_steps
              refine bytesK (by k_asm) (by k_asm) (News.isList (by k_asm) (by k_mem)) hS3 (by intro n hn; obtain ⟨c, hc, rfl⟩ := List.mem_map.mp hn; have := hp1 c hc; omega) (by omega) rfl ?_
              intro h7 t7 k7 F7 N7
              (try k_sweep)
              have hbz : (byteArr (pl.map fun n : Nat => (n : Int))).size = pl.length := by rw [byteArr_size, List.length_map]
              generalize hba : byteArr (pl.map fun n : Nat => (n : Int)) = ba at hbz
              k_steps
              refine LCg.ListComp_U (F₀ := by k_asm) (by with_unfolding_all rfl) (by decide) (by rfl) (by decide) (by rfl) ?_
              k_steps
              refine go_list (its := cys.toArray) (fun i y => ∃ c t, cs[i]? = some c ∧ y = Value.int (c % 256) t) rfl (by k_asm) (by k_asm) (by k_mem) (by rw [sizeLine_eq, List.size_toArray]; omega) ?_ ?_
              · intro g i v I oI C oC D9 m₂ ys h tk E' hi hv hC hx F9 N9 off ne
                obtain ⟨c, u, rfl, hc⟩ := IntsAre.at hS0 i v (by simpa using hv)
                simp only [LCg.Off3, and_true] at off
                k_steps
                exact el_end (by k_asm) (by k_asm) (int_item (g := fun c : Int => c % 256) hc (Int.fmod_eq_emod_of_nonneg _ (by decide)))
              · intro g ys hl hr
                have hS4 := ints_of (g := fun c : Int => c % 256) (by rw [hl, List.size_toArray]; exact hyl) hr
                k_steps
                refine bytesK (by k_asm) (by k_asm) (News.isList (by k_asm) (by k_mem)) hS4 (by intro n hn; obtain ⟨c, hc, rfl⟩ := List.mem_map.mp hn; omega) (by rw [hl, List.size_toArray]; omega) rfl ?_
                intro h6 t6 k6 F6 N6
                (try k_sweep)
                have hdz : (byteArr (cs.map fun c : Int => c % 256)).size = cs.length := by rw [byteArr_size, List.length_map]
                generalize hda : byteArr (cs.map fun c : Int => c % 256) = da at hdz
                k_steps
                refine Assign_LC_T (fun v z => ∃ x t t', v = Value.str x t ∧ z = Value.str (Txt.replace x (Str.ofString " ") (Str.ofString "")) t') (by k_asm) rfl (by with_unfolding_all rfl) (by with_unfolding_all rfl) (by decide) (by rfl) (by decide) (by rfl) (by rfl) (by rfl) ?_
                k_steps
                rename _ = hexUp ba => hsh
                rename _ = hexUp da => hdh
                rename StrsAre _ (pairS _ _) => hSp
                rw [hsh, ← hba, pairS_hex (l := pl) rfl (by intro n hn; have := hp1 n hn; omega)] at hSp
                refine call_join (News.isList (by k_asm) (by k_mem)) hSp (by intro a ha; obtain ⟨c, _, rfl⟩ := List.mem_map.mp ha; exact (by decide : 2 ≤ 8)) (by rw [List.length_map]; omega) (by decide) ?_
                rw [join_pairs]
                intro t5 k5
                have hsl := spc_len pl
                have hsp := split_page hpg (by omega)
                generalize hsx : spc pl = sx at hsl hsp
                k_steps
                refine wpAny_with_toks (n := 1) (by dsimp only; omega) ?_
                refine KSpl.split1 (by k_asm) (by k_asm) (by decide) ?_ (by rw [sizeLine_eq]; show sx.toArray.size + 2 ≤ _; rw [List.size_toArray]; omega)
                intro D5 l5 h5 k5 e5 a5 F5 N5 l1 htk5
                (try k_lt l1)
                (try k_sweep)
                rw [hsp] at e5
                rw [e5] at a5
                have h5l := strs_length a5
                rw [List.length_map] at h5l
                refine ⟨D5, strValues l5, _, rfl, rfl, by k_asm, by k_asm, News.isList (by k_asm) (by k_mem), by rw [sizeLine_eq]; omega, htk5, ?_, ?_⟩
                · intro C oC v m₂ s₃ E' hv hC hx F9 N9 ht
                  obtain ⟨i, hi⟩ := List.mem_iff_getElem?.mp hv
                  obtain ⟨x, u, hx1, rfl⟩ := strs_at a5 i v hi
                  rw [List.getElem?_map] at hx1
                  obtain ⟨c, hc, rfl⟩ := Option.map_eq_some_iff.mp hx1
                  have hwl := spW_len c
                  k_steps
                  refine replT ht (by omega) ?_
                  intro t9 k9
                  k_unfold
                  exact ⟨⟨_, rfl⟩, _, _, _, rfl, rfl⟩
                · intro D4 h4 tk4 wys k4 hwyl hr F4 N4 o1
                  simp only [LCg.Off1, and_true] at o1
                  have hS5 := words_are a5 hwyl hr
                  have hwl5 := strs_length hS5
                  rw [List.length_map] at hwl5
                  (try k_sweep)
                  k_steps
                  refine LCg.Assign_ListComp_U (F₀ := by k_asm) (by rfl) (by with_unfolding_all rfl) (by with_unfolding_all rfl) (by decide) (by rfl) (by decide) (by rfl) (by rfl) (by rfl) ?_
                  k_steps
                  refine go_list (its := wys.toArray) (fun i y => ∃ c t, cs[i]? = some c ∧ y = Value.int (c % 256) t) rfl (by k_asm) (by k_asm) (by k_mem) (by rw [sizeLine_eq, List.size_toArray]; omega) ?_ ?_
                  · intro g i v I oI C oC D9 m₂ ys h tk E' hi hv hC hx F9 N9 off ne
                    obtain ⟨x, u, hx1, rfl⟩ := strs_at hS5 i v (by simpa using hv)
                    rw [List.getElem?_map] at hx1
                    obtain ⟨c, hc, rfl⟩ := Option.map_eq_some_iff.mp hx1
                    simp only [LCg.Off3, and_true] at off
                    have hwl := hexW_len c
                    k_steps
                    exact el_end (by k_asm) (by k_asm) (int_item (g := fun c : Int => c % 256) hc (octet_word c))
                  · intro g oys hoyl hr
                    have hS6 := ints_of (g := fun c : Int => c % 256) (by rw [hoyl, List.size_toArray]; exact hwl5) hr
                    have hol := hS6.length
                    rw [List.length_map] at hol
                    unfold LCg.FinA
                    intro Doct hoct tkoct Foct Noct o1oct
                    simp only [LCg.Off1, and_true] at o1oct
                    dsimp only
                    have hso := o1oct.2.2.2.2.2.2.2.2.2.1
                    k_steps
                    refine LCg.ListComp_U (F₀ := by k_asm) (by with_unfolding_all rfl) (by decide) (by rfl) (by decide) (by rfl) ?_
                    k_steps
                    refine go_list (its := cys.toArray) (fun i y => ∃ c t, cs[i]? = some c ∧ y = Value.int (c % 256) t) rfl (by k_asm) (by k_asm) (by k_mem) (by rw [sizeLine_eq, List.size_toArray]; omega) ?_ ?_
                    · intro g i v I oI C oC D9 m₂ ys h tk E' hi hv hC hx F9 N9 off ne
                      obtain ⟨c, u, rfl, hc⟩ := IntsAre.at hS0 i v (by simpa using hv)
                      simp only [LCg.Off3, and_true] at off
                      k_steps
                      exact el_end (by k_asm) (by k_asm) (int_item (g := fun c : Int => c % 256) hc (Int.fmod_eq_emod_of_nonneg _ (by decide)))
                    · intro g ys hl hr
                      have hS7 := ints_of (g := fun c : Int => c % 256) (by rw [hl, List.size_toArray]; exact hyl) hr
                      k_steps
                      refine ne_ints (News.isList (by k_asm) (by k_mem)) hS6 (News.isList (by k_asm) (by k_mem)) hS7 (by units_room) ?_
                      k_steps
                      refine LCg.ListComp_U (F₀ := by k_asm) (by with_unfolding_all rfl) (by decide) (by rfl) (by decide) (by rfl) ?_
                      k_steps
                      refine go_list (its := wys.toArray) (fun i y => ∃ c, cs[i]? = some c ∧ y = Value.bool (decide (c = 127))) rfl (by k_asm) (by k_asm) (by k_mem) (by rw [sizeLine_eq, List.size_toArray]; omega) ?_ ?_
                      · intro g i v I oI C oC D9 m₂ ys h tk E' hi hv hC hx F9 N9 off ne
                        obtain ⟨x, u, hx1, rfl⟩ := strs_at hS5 i v (by simpa using hv)
                        rw [List.getElem?_map] at hx1
                        obtain ⟨c, hc, rfl⟩ := Option.map_eq_some_iff.mp hx1
                        simp only [LCg.Off3, and_true] at off
                        k_steps
                        exact el_end (by k_asm) (by k_asm) ⟨c, hc, by rw [word_del]⟩
                      · intro g bys hbyl hrb
                        have hS8 := bools_of (g := fun c : Int => decide (c = 127)) (by rw [hbyl, List.size_toArray]; exact hwl5) hrb
                        k_steps
                        refine LCg.ListComp_U (F₀ := by k_asm) (by with_unfolding_all rfl) (by decide) (by rfl) (by decide) (by rfl) ?_
                        k_steps
                        refine go_list (its := cys.toArray) (fun i y => ∃ c, cs[i]? = some c ∧ y = Value.bool (decide (c = 127))) rfl (by k_asm) (by k_asm) (by k_mem) (by rw [sizeLine_eq, List.size_toArray]; omega) ?_ ?_
                        · intro g i v I oI C oC D9 m₂ ys h tk E' hi hv hC hx F9 N9 off ne
                          obtain ⟨c, u, rfl, hc⟩ := IntsAre.at hS0 i v (by simpa using hv)
                          simp only [LCg.Off3, and_true] at off
                          k_steps
                          exact el_end (by k_asm) (by k_asm) ⟨c, hc, by first | rfl | simp⟩
                        · intro g dys hdyl hrd
                          have hS9 := bools_of (g := fun c : Int => decide (c = 127)) (by rw [hdyl, List.size_toArray]; exact hyl) hrd
                          k_steps
                          refine ne_bools (News.isList (by k_asm) (by k_mem)) hS8 (News.isList (by k_asm) (by k_mem)) hS9 (by units_room) ?_
                          rename News _ _ _ _ => Nq
                          replace Nq := cb_drop Nq (List.forall_mem_cons.mpr ⟨List.mem_of_getElem? (i := 3) rfl, List.forall_mem_cons.mpr ⟨List.mem_of_getElem? (i := 13) rfl, List.forall_mem_nil _⟩⟩)
                          k_steps
                          rename StrsAre _ (pairS _ _) => hSd
                          rw [hdh, ← hda, pairS_hex (l := cs.map fun c : Int => (c % 256).toNat) (by rw [List.map_map]; apply List.map_congr_left; intro c _; show c % 256 = (((c % 256).toNat : Nat) : Int); omega) (by intro n hn; obtain ⟨c, _, rfl⟩ := List.mem_map.mp hn; omega), List.map_map] at hSd
                          refine LCg.ListComp_U (F₀ := by k_asm) (by with_unfolding_all rfl) (by decide) (by rfl) (by decide) (by rfl) ?_
                          k_steps
                          refine go_list (its := oys.toArray) (fun i y => ∃ c t, cs[i]? = some c ∧ y = Value.str ((pairC ∘ fun c : Int => (c % 256).toNat) c) t) rfl (by k_asm) (by k_asm) (by k_mem) (by rw [sizeLine_eq, List.size_toArray]; omega) ?_ ?_
                          · intro g i v I oI C oC D9 m₂ ys h tk E' hi hv hC hx F9 N9 off ne
                            obtain ⟨o, u, rfl, ho⟩ := IntsAre.at hS6 i v (by simpa using hv)
                            rw [List.getElem?_map] at ho
                            obtain ⟨c, hc, rfl⟩ := Option.map_eq_some_iff.mp ho
                            simp only [LCg.Off3, and_true] at off
                            obtain ⟨n, hn⟩ := Int.eq_ofNat_of_zero_le (show 0 ≤ c % 256 by omega)
                            have hn2 : n < 256 := by omega
                            rw [hn] at hx
                            have hq1 : 0 ≤ (n : Int).fdiv 16 ∧ (n : Int).fdiv 16 < 16 := by rw [Int.fdiv_eq_ediv_of_nonneg _ (by decide)]; omega
                            have hq2 : 0 ≤ (n : Int).fmod 16 ∧ (n : Int).fmod 16 < 16 := by rw [Int.fmod_eq_emod_of_nonneg _ (by decide)]; omega
                            k_steps
                            refine el_end (by k_asm) (by k_asm) (str_item (g := pairC ∘ fun c : Int => (c % 256).toNat) hc ?_)
                            show _ = pairC (c % 256).toNat
                            rw [hn, Int.toNat_natCast]
                            exact item_pair hn2
                          · intro g zys hzyl hrz
                            have hS10 := strs_of (g := pairC ∘ fun c : Int => (c % 256).toNat) (by rw [hzyl, List.size_toArray, hS6.length, List.length_map]) hrz
                            k_steps
                            refine eq_strs (News.isList (by k_asm) (by k_mem)) hSd (News.isList (by k_asm) (by k_mem)) hS10 (by intro x hx; obtain ⟨c, _, rfl⟩ := List.mem_map.mp hx; exact pair_ok (n := (c % 256).toNat) (mod_lt c)) (by units_room) ?_
                            k_steps))
end Mine
end

theorem PySem.Challenge.cw_mg0013_01_holds : PySem.Challenge.rw_mg0013_01.Holds :=
  Mine.law_holds
