import PyProof.Rows.All
import Wide.All
import OpenK.AllK
import Wide.FinOn
import Lean
import PySem.Challenge.RW_xb0001_01
set_option Elab.async false
set_option maxRecDepth 100000
set_option maxHeartbeats 8000000
set_option linter.all false
set_option compiler.extract_closed false
open PySem PySem.W PySem.Calls PyProof.Rows
namespace Mine
section
open_top hd for PySem.Challenge.rw_xb0001_01
end
section
open Builtin

-- facts of the tables
theorem slot_upper : Slot "bytes" "upper" "bytes.upper" :=
  .of (owner := "bytes") (n := "upper") (by rw [typeLookup_type, builtinLookup_eq_fast]; kernel_rfl) (by decide +kernel) (by decide +kernel) (by decide +kernel)
    (by first | exact .inl (by decide +kernel) | exact .inr (by decide +kernel)) (by rw [isSubtype_type]; kernel_rfl)
theorem type_upper : typeOf (.builtin "bytes.upper") = pure (.type "method_descriptor") := by show builtinType _ = _; rw [builtinType_eq_fast]; kernel_rfl
theorem entry_upper : entryFor table "bytes.upper" = some Builtin.«bytes.upper» := entryFor_of_tree (by kernel_rfl)
theorem args_upper (a : Value) : argsOk "bytes.upper" ⟨[a], []⟩ := by
  unfold argsOk; rw [signature?_of (id := "bytes.upper") (n := ['r', 'e', 'p', 'p', 'u']) (o := ['s', 'e', 't', 'y', 'b']) (by kernel_rfl) FB.owner_bytes]; kernel_rfl
theorem slot_translate : Slot "bytes" "translate" "bytes.translate" :=
  .of (owner := "bytes") (n := "translate") (by rw [typeLookup_type, builtinLookup_eq_fast]; kernel_rfl) (by decide +kernel) (by decide +kernel) (by decide +kernel)
    (by first | exact .inl (by decide +kernel) | exact .inr (by decide +kernel)) (by rw [isSubtype_type]; kernel_rfl)
theorem type_translate : typeOf (.builtin "bytes.translate") = pure (.type "method_descriptor") := by show builtinType _ = _; rw [builtinType_eq_fast]; kernel_rfl
theorem entry_translate : entryFor table "bytes.translate" = some Builtin.«bytes.translate» := entryFor_of_tree (by kernel_rfl)
theorem args_translate (a b : Value) : argsOk "bytes.translate" ⟨[a, b], []⟩ := by
  unfold argsOk; rw [signature?_of (id := "bytes.translate") (n := ['e', 't', 'a', 'l', 's', 'n', 'a', 'r', 't']) (o := ['s', 'e', 't', 'y', 'b']) (by kernel_rfl) FB.owner_bytes]; kernel_rfl
theorem slot_encode : Slot "str" "encode" "str.encode" :=
  .of (owner := "str") (n := "encode") (by rw [typeLookup_type, builtinLookup_eq_fast]; kernel_rfl) (by decide +kernel) (by decide +kernel) (by decide +kernel)
    (by first | exact .inl (by decide +kernel) | exact .inr (by decide +kernel)) (by rw [isSubtype_type]; kernel_rfl)
theorem type_encode : typeOf (.builtin "str.encode") = pure (.type "method_descriptor") := by show builtinType _ = _; rw [builtinType_eq_fast]; kernel_rfl
theorem entry_encode : entryFor table "str.encode" = some Builtin.«str.encode» := entryFor_of_tree (by kernel_rfl)

-- bytes.hex
def hexText (b : Array UInt8) : Str := ⟨(b.toList.flatMap fun c => [Bytes.hexDigit (c.toNat / 16), Bytes.hexDigit (c.toNat % 16)]).toArray⟩
theorem hexText_length (b : Array UInt8) : (hexText b).length = 2 * b.size := by
  obtain ⟨l⟩ := b
  show (l.flatMap fun c => [Bytes.hexDigit (c.toNat / 16), Bytes.hexDigit (c.toNat % 16)]).toArray.size = 2 * l.length
  rw [List.size_toArray]
  induction l with
  | nil => rfl
  | cons c r ih => simp only [List.flatMap_cons, List.length_append, List.length_cons, List.length_nil, ih]; omega
theorem hex_fold : ∀ (l : List (UInt8 × Nat)) (acc : Array Nat), l.foldl (fun (out : Array Nat) (x : UInt8 × Nat) => (out.push (Bytes.hexDigit (x.1.toNat / 16))).push (Bytes.hexDigit (x.1.toNat % 16))) acc
    = acc ++ (l.flatMap fun x => [Bytes.hexDigit (x.1.toNat / 16), Bytes.hexDigit (x.1.toNat % 16)]).toArray := by
  intro l
  induction l with
  | nil => intro acc; simp
  | cons c r ih => intro acc; rw [List.foldl_cons, ih]; apply Array.ext'; simp
theorem zipIdx_flat {β : Type} (f : UInt8 → List β) : ∀ (l : List UInt8) (n : Nat), (l.zipIdx n).flatMap (fun x => f x.1) = l.flatMap f := by
  intro l
  induction l with
  | nil => intro n; rfl
  | cons c r ih => intro n; simp only [List.zipIdx_cons, List.flatMap_cons, ih]
theorem hex_eq (b : Array UInt8) (t : Tok) : «bytes.hex» ⟨[.bytes b t], []⟩ = retStr ⟨b.toList.zipIdx.foldl (fun (out : Array Nat) (x : UInt8 × Nat) => (out.push (Bytes.hexDigit (x.1.toNat / 16))).push (Bytes.hexDigit (x.1.toNat % 16))) #[]⟩ := by
  rfl
theorem meets_hex (b : Array UInt8) (t : Tok) : Meets («bytes.hex» ⟨[.bytes b t], []⟩) (fun _ R s => 2 * b.size ≤ sizeLine ∧ R (.ok (.ret (.str (hexText b) s.toks))) { s with toks := s.toks + 1 }) := by
  refine .of_wp fun prog w A R s hS => ?_
  obtain ⟨hz, h⟩ := hS
  have e : «bytes.hex» ⟨[.bytes b t], []⟩ = retStr (hexText b) := by
    rw [hex_eq, hex_fold, zipIdx_flat (fun c => [Bytes.hexDigit (c.toNat / 16), Bytes.hexDigit (c.toNat % 16)])]
    simp [hexText]
  rw [e]
  exact wpAny_bind (wpAny_mkStr (wpAny_pure ⟨_, rfl, h⟩) (by rw [hexText_length]; exact hz))

-- bytes.upper
def upArr (b : Array UInt8) : Array UInt8 := (b.toList.map Bytes.toUpper).toArray
theorem upArr_size (b : Array UInt8) : (upArr b).size = b.size := by simp [upArr]
theorem meets_upper (b : Array UInt8) (t : Tok) : Meets («bytes.upper» ⟨[.bytes b t], []⟩) (fun _ R s => b.size ≤ sizeLine ∧ R (.ok (.ret (.bytes (upArr b) s.toks))) { s with toks := s.toks + 1 }) := by
  refine .of_wp fun prog w A R s hS => ?_
  obtain ⟨hz, h⟩ := hS
  have e : «bytes.upper» ⟨[.bytes b t], []⟩ = mkBytes (upArr b) >>= fun v => ret v := rfl
  rw [e]
  exact wpAny_bind (wpAny_mkBytes (wpAny_pure ⟨_, rfl, h⟩) (by rw [upArr_size]; exact hz))

-- bytes.translate
def transArr (tab b : Array UInt8) : Array UInt8 := b.map fun c => tab.getD c.toNat c
theorem transArr_size (tab b : Array UInt8) : (transArr tab b).size = b.size := by simp [transArr]
theorem meets_translate (b tab : Array UInt8) (t t2 : Tok) (ht : tab.size = 256) : Meets («bytes.translate» ⟨[.bytes b t, .bytes tab t2], []⟩)
    (fun _ R s => b.size ≤ sizeLine ∧ ∀ t' k, R (.ok (.ret (.bytes (transArr tab b) t'))) { s with toks := k }) := by
  refine .of_wp fun prog w A R s hS => ?_
  obtain ⟨hz, h⟩ := hS
  unfold Builtin.«bytes.translate» Bytes.translateM
  dsimp only [List.length_cons, List.length_nil, List.any_nil, List.head?]
  have h256 : (tab.size != 256) = false := by rw [ht]; rfl
  have hf : b.filter (!(#[] : Array UInt8).contains ·) = b := by
    rw [Array.filter_eq_self]
    intro c _
    simp
  refine wpAny_ite (KBy.ite_no (by decide) ?_)
  refine bm_if_false rfl ?_
  refine bm_if_false rfl ?_
  refine wpAny_bind (wpAny_of_eq KBd.like_eq ?_)
  refine bm_if_false h256 ?_
  refine wpAny_bind (wpAny_pure ?_)
  refine wpAny_bind (wpAny_pure ?_)
  refine wpAny_bind (wpAny_of_eq (a := b) rfl ?_)
  dsimp only
  rw [hf]
  refine wpAny_ite ?_
  split
  · rename_i hb
    refine wpAny_bind (wpAny_rule ?_)
    have hb' : transArr tab b = b := beq_iff_eq.mp hb
    have es : Bytes.Kind.bytes.same (.bytes b t) = pure (.bytes b t) := by rfl
    refine wpAny_bind (wpAny_of_eq es (wpAny_pure ⟨_, rfl, ?_⟩))
    have := h t s.toks
    rw [hb'] at this
    exact this
  · exact wpAny_bind (wpAny_mkBytes (wpAny_pure ⟨_, rfl, h _ _⟩) (by rw [Array.size_map]; exact hz))

-- str.encode("ascii")
def encArr (x : Str) : Array UInt8 := x.cps.map (·.toUInt8)
theorem encArr_size (x : Str) : (encArr x).size = x.length := by simp [encArr, PySem.Str.length]
theorem enc_clean (x : Str) (hx : ∀ c ∈ x.cps, c < 128) : x.cps.findIdx? (_codecs.asciiCodec.bad) = none := by
  rw [Array.findIdx?_eq_none_iff]
  intro c hc
  have := hx c hc
  simp [_codecs.asciiCodec]
  omega
theorem enc_fold : ∀ (l : List Nat) (acc : Array UInt8), l.foldl (fun acc y => acc ++ (_codecs.asciiCodec.bytesOf y).toArray) acc = acc ++ (l.map (·.toUInt8)).toArray := by
  intro l
  induction l with
  | nil => intro acc; simp
  | cons c r ih => intro acc; rw [List.foldl_cons, ih]; apply Array.ext'; simp [_codecs.asciiCodec]
theorem loop2 {σ : Type} (n : Nat) (a b : σ) (f : Nat → σ → Sem (ForInStep σ)) (h1 : 0 < n → f 0 a = pure (.yield b)) (h2 : ∀ k, f k b = pure (.done b)) (h0 : n = 0 → a = b) :
    (forIn [0:n] a f : Sem σ) = pure b := by
  rw [Std.Legacy.Range.forIn_eq_forIn_range']
  have hs : [0:n].size = n := by simp [Std.Legacy.Range.size]
  rw [hs]
  show forIn (List.range' 0 n 1) a f = pure b
  match n with
  | 0 => rw [h0 rfl]; rfl
  | 1 => 
    rw [show List.range' 0 1 1 = [0] from rfl, List.forIn_cons, h1 (by decide)]
    rfl
  | n + 2 =>
    rw [List.range'_succ, List.forIn_cons, h1 (by omega)]
    show forIn (List.range' (0 + 1) (n + 1) 1) b f = pure b
    rw [List.range'_succ, List.forIn_cons, h2]
    rfl
theorem narrow_eq (x : Str) (v : Value) (hx : ∀ c ∈ x.cps, c < 128) (hz : x.length ≤ sizeLine) : _codecs.encodeNarrow "str.encode" _codecs.asciiCodec none v x = pure (encArr x) := by
  unfold _codecs.encodeNarrow
  extract_lets utf8 name asciiBytes limit i out st
  rw [loop2 x.length (i, out, st) (x.length, encArr x, st)]
  · rfl
  · intro h0
    have hget : x.cps[0]? = some (x.cps[0]'h0) := Array.getElem?_eq_getElem h0
    have hb : (!_codecs.asciiCodec.bad (x.cps[0]'h0)) = true := by
      have := hx _ (Array.getElem_mem h0)
      simp [_codecs.asciiCodec]
      omega
    have he : x.cps.extract 0 = x.cps := by simp
    show (if (#[] : Array UInt8).size > sizeLine then _ else _) = _
    rw [if_neg (by rw [sizeLine_eq]; simp)]
    simp only [i]
    rw [hget]
    dsimp only
    rw [if_pos hb]
    simp only [out, he, enc_clean x hx, Option.getD_none, Nat.zero_add]
    rw [← Array.foldl_toList, enc_fold]
    have : (#[] ++ (x.cps.toList.map (·.toUInt8)).toArray : Array UInt8) = encArr x := by
      apply Array.ext'
      simp [encArr]
    rw [this]
    rfl
  · intro k
    have hget : x.cps[x.length]? = none := Array.getElem?_eq_none (Nat.le_refl _)
    show (if (encArr x).size > sizeLine then _ else _) = _
    rw [if_neg (by rw [encArr_size]; omega)]
    dsimp only
    rw [hget]
  · intro h0
    have : x.cps = #[] := Array.eq_empty_of_size_eq_zero h0
    simp [encArr, this, h0, i, out]

theorem encode_eq (x : Str) (t t2 : Tok) : «str.encode» ⟨[.str x t, .str (PySem.Str.ofString "ascii") t2], []⟩ = (_codecs.encodeNarrow "str.encode" _codecs.asciiCodec none (.str x t) x >>= mkBytes) >>= fun v => ret v := by
  kernel_rfl
theorem args_encode (a b : Value) : argsOk "str.encode" ⟨[a, b], []⟩ := by
  unfold argsOk; kernel_rfl
theorem meets_encode (x : Str) (t t2 : Tok) (hx : ∀ c ∈ x.cps, c < 128) : Meets («str.encode» ⟨[.str x t, .str (PySem.Str.ofString "ascii") t2], []⟩)
    (fun _ R s => x.length ≤ sizeLine ∧ R (.ok (.ret (.bytes (encArr x) s.toks))) { s with toks := s.toks + 1 }) := by
  refine .of_wp fun prog w A R s hS => ?_
  obtain ⟨hz, h⟩ := hS
  rw [encode_eq, narrow_eq x _ hx hz]
  refine wpAny_bind (wpAny_bind (wpAny_pure ?_))
  exact wpAny_mkBytes (wpAny_pure ⟨_, rfl, h⟩) (by rw [encArr_size]; exact hz)

-- bytes.maketrans
theorem entry_maketrans : entryFor table "bytes.maketrans" = some Builtin.«bytes.maketrans» := entryFor_of_tree (by kernel_rfl)
theorem type_maketrans : typeOf (.builtin "bytes.maketrans") = pure (.type "builtin_function_or_method") := by show builtinType _ = _; rw [builtinType_eq_fast]; kernel_rfl
def mkTab (b c : Array UInt8) : Array UInt8 := (b.toList.zip c.toList).foldl (fun t (f, x) => t.setIfInBounds f.toNat x) ((Array.range 256).map (·.toUInt8))
theorem mkTab_size (b c : Array UInt8) : (mkTab b c).size = 256 := by
  unfold mkTab
  generalize b.toList.zip c.toList = l
  have : ∀ (l : List (UInt8 × UInt8)) (a : Array UInt8), a.size = 256 → (l.foldl (fun t (f, x) => t.setIfInBounds f.toNat x) a).size = 256 := by
    intro l
    induction l with
    | nil => intro a h; exact h
    | cons p r ih => intro a h; rw [List.foldl_cons]; exact ih _ (by simpa using h)
  exact this l _ (by simp)
theorem meets_maketrans (b c : Array UInt8) (t t2 : Tok) (hbc : b.size = c.size) : Meets («bytes.maketrans» ⟨[.bytes b t, .bytes c t2], []⟩)
    (fun _ R s => R (.ok (.ret (.bytes (mkTab b c) s.toks))) { s with toks := s.toks + 1 }) := by
  refine .of_wp fun prog w A R s h => ?_
  unfold Builtin.«bytes.maketrans» Bytes.maketransM
  refine wpAny_bind (wpAny_of_eq (a := ()) rfl ?_)
  refine wpAny_bind (wpAny_of_eq (a := ()) rfl ?_)
  refine wpAny_bind (wpAny_of_eq KBd.like_eq ?_)
  refine wpAny_bind (wpAny_of_eq KBd.like_eq ?_)
  have hne : (b.size != c.size) = false := by rw [hbc]; simp
  refine bm_if_false hne ?_
  exact wpAny_bind (wpAny_mkBytes (wpAny_pure ⟨_, rfl, h⟩) (by show (mkTab b c).size ≤ _; rw [mkTab_size, sizeLine_eq]; decide))
theorem plain_maketrans : plainId "bytes.maketrans" = true := by decide +kernel
theorem check_maketrans (a b : Value) : checkBuiltinCall "bytes.maketrans" ⟨[a, b], []⟩ = pure () := by kernel_rfl

theorem call_checked {prog : Program} {w : World} {A : Around} {E : Value → Shared → Prop} {s : Shared} {id : String} {B : Builtin} {args : List Value} {S : PySem.Spec} {Q : Value → Shared → Prop} (ck : checkBuiltinCall id ⟨args, []⟩ = pure ()) (plain : plainId id = true)
    (entry : entryFor table id = some B) (g : Meets (B ⟨args, []⟩) S) (h : S A (wants Q E) s) : wpAny (model prog w) A (call (.builtin id) args) Q E s := by
  refine wpAny_call (codeAny_call_builtin plain entry ?_)
  rw [ck]
  exact wpAny_pure (g prog w A (wants Q E) s h)

section
variable {prog : Program} {w : World} {A : Around} {E : Value → Shared → Prop} {s : Shared} {b c tab : Array UInt8} {t t2 : Tok} {x : Str} {Q : Value → Shared → Prop}
theorem call_type_bytes (h : Q (.type "bytes") s) : wpAny (model prog w) A (call (.type "type") [.bytes b t]) Q E s := call_type_of (typeIs_bytes s b t) (by decide +kernel) h
theorem call_hex (hz : b.size ≤ 1048576) (h : ∀ t' k, Q (.str (hexText b) t') { s with toks := k }) : wpAny (model prog w) A (call (.builtin "bytes.hex") [.bytes b t]) Q E s :=
  call_meets FB.slot_bytes_hex (typeIs_bytes _ _ _) FB.entry_bytes_hex (FB.args_bytes_hex_1 _) (meets_hex b t) ⟨by rw [sizeLine_eq]; omega, h _ _⟩
theorem call_upper (hz : b.size ≤ 1048576) (h : ∀ t' k, Q (.bytes (upArr b) t') { s with toks := k }) : wpAny (model prog w) A (call (.builtin "bytes.upper") [.bytes b t]) Q E s :=
  call_meets slot_upper (typeIs_bytes _ _ _) entry_upper (args_upper _) (meets_upper b t) ⟨by rw [sizeLine_eq]; omega, h _ _⟩
theorem call_translate (hz : b.size ≤ 1048576) (ht : tab.size = 256) (h : ∀ t' k, Q (.bytes (transArr tab b) t') { s with toks := k }) : wpAny (model prog w) A (call (.builtin "bytes.translate") [.bytes b t, .bytes tab t2]) Q E s :=
  call_meets slot_translate (typeIs_bytes _ _ _) entry_translate (args_translate _ _) (meets_translate b tab t t2 ht) ⟨by rw [sizeLine_eq]; omega, h⟩
theorem call_encode (hx : ∀ c ∈ x.cps, c < 128) (hz : x.length ≤ 1048576) (h : ∀ t' k, Q (.bytes (encArr x) t') { s with toks := k }) :
    wpAny (model prog w) A (call (.builtin "str.encode") [.str x t, .str (PySem.Str.ofString "ascii") t2]) Q E s :=
  call_meets slot_encode (typeIs_str _ _ _) entry_encode (args_encode _ _) (meets_encode x t t2 hx) ⟨by rw [sizeLine_eq]; omega, h _ _⟩
theorem call_maketrans (hbc : b.size = c.size) (h : ∀ t' k, Q (.bytes (mkTab b c) t') { s with toks := k }) : wpAny (model prog w) A (call (.builtin "bytes.maketrans") [.bytes b t, .bytes c t2]) Q E s :=
  call_checked (check_maketrans _ _) plain_maketrans entry_maketrans (meets_maketrans b c t t2 hbc) (h _ _)
theorem meth_hex {M : Model} {pl : Sem Bool} {Q : Value × List Value → Shared → Prop} (h : Q (.builtin "bytes.hex", [.bytes b t]) s) : wpAny M A (getMethod (.bytes b t) "hex" pl) Q E s := by
  with_reducible exact KBd.method_of (.bytes b t) (typeIs_bytes _ _ _) FB.slot_bytes_hex FB.type_bytes_hex KBd.noRef h
theorem meth_upper {M : Model} {pl : Sem Bool} {Q : Value × List Value → Shared → Prop} (h : Q (.builtin "bytes.upper", [.bytes b t]) s) : wpAny M A (getMethod (.bytes b t) "upper" pl) Q E s := by
  with_reducible exact KBd.method_of (.bytes b t) (typeIs_bytes _ _ _) slot_upper type_upper KBd.noRef h
theorem meth_translate {M : Model} {pl : Sem Bool} {Q : Value × List Value → Shared → Prop} (h : Q (.builtin "bytes.translate", [.bytes b t]) s) : wpAny M A (getMethod (.bytes b t) "translate" pl) Q E s := by
  with_reducible exact KBd.method_of (.bytes b t) (typeIs_bytes _ _ _) slot_translate type_translate KBd.noRef h
end
end
section
open Builtin

def reCode : Array Nat := #[14, 12, 4, 1, 1, 21, 22, 48, 57, 22, 65, 70, 0, 13, 9, 21, 22, 48, 57, 22, 65, 70, 0, 1]
def isHexUp (c : Nat) : Bool := (48 ≤ c && c ≤ 57) || (65 ≤ c && c ≤ 70)
theorem inSet5 (c : Nat) (seen : Sre.Seen) : ∃ seen', Sre.inSet reCode c reCode.size 5 true seen = .ok (!isHexUp c, seen') := by
  have e : Sre.inSet reCode c reCode.size 5 true seen = (if 48 ≤ c && c ≤ 57 then .ok (false, (seen.add 21).add 22) else if 65 ≤ c && c ≤ 70 then .ok (false, ((seen.add 21).add 22).add 22) else .ok (true, (((seen.add 21).add 22).add 22).add 0)) := by rfl
  rw [e]
  unfold isHexUp
  cases (decide (48 ≤ c) && decide (c ≤ 57)) <;> cases (decide (65 ≤ c) && decide (c ≤ 70)) <;> exact ⟨_, rfl⟩
theorem inSet15 (c : Nat) (seen : Sre.Seen) : ∃ seen', Sre.inSet reCode c reCode.size 15 true seen = .ok (!isHexUp c, seen') := by
  have e : Sre.inSet reCode c reCode.size 15 true seen = (if 48 ≤ c && c ≤ 57 then .ok (false, (seen.add 21).add 22) else if 65 ≤ c && c ≤ 70 then .ok (false, ((seen.add 21).add 22).add 22) else .ok (true, (((seen.add 21).add 22).add 22).add 0)) := by rfl
  rw [e]
  unfold isHexUp
  cases (decide (48 ≤ c) && decide (c ≤ 57)) <;> cases (decide (65 ≤ c) && decide (c ≤ 70)) <;> exact ⟨_, rfl⟩

theorem admitted_all (m : Sre.M) (hc : m.code = reCode) (h : ∀ i, i < m.lim → isHexUp (m.text.getD i 0) = true) : ∀ (fuel s : Nat) (seen : Sre.Seen), ∃ seen', Sre.M.admitted m fuel s seen = .ok (none, seen') := by
  intro fuel
  induction fuel with
  | zero => intro s seen; exact ⟨_, rfl⟩
  | succ fuel ih =>
    intro s seen
    unfold Sre.M.admitted
    by_cases hs : s ≥ m.lim
    · rw [if_pos hs]; exact ⟨_, rfl⟩
    · rw [if_neg hs, hc]
      obtain ⟨seen', e⟩ := inSet5 (m.text.getD s 0) seen
      rw [e, h s (by omega)]
      exact ih _ _
theorem admitted_some (m : Sre.M) (hc : m.code = reCode) : ∀ (fuel s : Nat) (seen : Sre.Seen), m.lim < fuel + s → (∃ i, s ≤ i ∧ i < m.lim ∧ isHexUp (m.text.getD i 0) = false) →
    ∃ i seen', Sre.M.admitted m fuel s seen = .ok (some i, seen') ∧ i < m.lim ∧ isHexUp (m.text.getD i 0) = false := by
  intro fuel
  induction fuel with
  | zero => rintro s seen hf ⟨i, h1, h2, _⟩; omega
  | succ fuel ih =>
    rintro s seen hf ⟨i, h1, h2, h3⟩
    unfold Sre.M.admitted
    rw [if_neg (by omega), hc]
    obtain ⟨seen', e⟩ := inSet5 (m.text.getD s 0) seen
    rw [e]
    cases hx : isHexUp (m.text.getD s 0) with
    | true =>
      refine ih _ _ (by omega) ⟨i, ?_, h2, h3⟩
      rcases Nat.eq_or_lt_of_le h1 with q | q
      · rw [← q] at h3; rw [hx] at h3; cases h3
      · exact q
    | false => exact ⟨s, seen', rfl, by omega, hx⟩

theorem run_failed (m : Sre.M) (h0 : m.outcome = none) (h1 : m.answer = some false) (h2 : m.frames = []) : (m.runFor 4).outcome = some .failed := by
  obtain ⟨code, text, lim, start, lastStart, wholeText, mustAdvance, pc, pos, handed, outermost, marks, lastmark, lastindex, loops, inner, frames, weight, answer, seen, outcome⟩ := m
  simp only at h0 h1 h2
  subst h0 h1 h2
  rfl

section
variable (text : Array Nat) (lim start lastStart pos handed : Nat) (outermost : Bool) (marks : Array (Option Nat)) (lastmark lastindex : Int) (loops : Array Sre.Loop) (inner : Option Nat) (seen seen' : Sre.Seen) (i : Nat)
abbrev mA : Sre.M := { code := reCode, text, lim, start, lastStart, wholeText := false, mustAdvance := false, pc := 13, pos, handed, outermost, marks, lastmark, lastindex, loops, inner, frames := [], weight := 0, answer := none, seen, outcome := none }
abbrev mB : Sre.M := { code := reCode, text, lim, start := i, lastStart, wholeText := false, mustAdvance := false, pc := 13, pos := i, handed := i, outermost := true, marks, lastmark := -1, lastindex := -1, loops, inner, frames := [{ wait := .nextStart, pc := 13, pos := i, outermost := true }], weight := 1, answer := none, seen, outcome := none }
abbrev mC : Sre.M := { code := reCode, text, lim, start := i, lastStart, wholeText := false, mustAdvance := false, pc := 23, pos := i + 1, handed := i, outermost := true, marks, lastmark := -1, lastindex := -1, loops, inner, frames := [{ wait := .nextStart, pc := 13, pos := i, outermost := true }], weight := 1, answer := none, seen, outcome := none }
theorem stepA : (mA text lim start lastStart pos handed outermost marks lastmark lastindex loops inner seen).attemptAt i true = mB text lim lastStart marks loops inner seen i := by kernel_rfl
theorem stepC : (Sre.M.runFor 3 (mC text lim lastStart marks loops inner seen i)).outcome = some .matched := by kernel_rfl
theorem stepB (hlt : ¬ (i ≥ lim)) (e : Sre.inSet reCode (text.getD i 0) reCode.size 15 true (seen.add 13) = .ok (true, seen')) : (mB text lim lastStart marks loops inner seen i).step = mC text lim lastStart marks loops inner seen' i := by
  have e1 : (mB text lim lastStart marks loops inner seen i).step = (if i ≥ lim then { mB text lim lastStart marks loops inner seen i with seen := seen.add 13, answer := some false } else
      match Sre.inSet reCode (text.getD i 0) reCode.size 15 true (seen.add 13) with
      | .error why => Sre.M.stick { mB text lim lastStart marks loops inner seen i with seen := seen.add 13 } why
      | .ok (false, seen) => { mB text lim lastStart marks loops inner seen i with seen := seen, answer := some false }
      | .ok (true, seen) => { mB text lim lastStart marks loops inner seen i with seen := seen, pc := 23, pos := i + 1 }) := by kernel_rfl
  rw [e1, if_neg hlt, e]
theorem run_found (hlt : i < lim) (hx : isHexUp (text.getD i 0) = false) : (((mA text lim start lastStart pos handed outermost marks lastmark lastindex loops inner seen).attemptAt i true).runFor 4).outcome = some .matched := by
  obtain ⟨seen', e⟩ := inSet15 (text.getD i 0) (seen.add 13)
  rw [hx] at e
  rw [stepA]
  have h4 : Sre.M.runFor 4 (mB text lim lastStart marks loops inner seen i) = Sre.M.runFor 3 (Sre.M.step (mB text lim lastStart marks loops inner seen i)) := by kernel_rfl
  rw [h4, stepB text lim lastStart marks loops inner seen seen' i (by omega) e]
  exact stepC ..
end

def mS (T : Array Nat) (last : Nat) : Sre.M := mA T T.size 0 last 0 0 true #[] (-1) (-1) #[] none (({} : Sre.Seen).add 14)
theorem search_eq (T : Array Nat) : Sre.forSearch reCode T 0 0 T.size false = if (decide (0 > T.size) || decide (T.size - 0 < 1)) = true then (mS T 0).say false else (mS T T.size).attemptFrom 0 true := by kernel_rfl
theorem from_eq (T : Array Nat) : (mS T T.size).attemptFrom 0 true = (match Sre.M.admitted (mS T T.size) (T.size + 1 - 0) 0 (({} : Sre.Seen).add 14) with
    | .ok (some s, seen) => (mA T T.size 0 T.size 0 0 true #[] (-1) (-1) #[] none seen).attemptAt s true
    | .ok (none, seen) => (mA T T.size 0 T.size 0 0 true #[] (-1) (-1) #[] none seen).say false
    | .error why => (mS T T.size).stick why) := by kernel_rfl
theorem search_found (T : Array Nat) (h : ∃ i, i < T.size ∧ isHexUp (T.getD i 0) = false) : ((Sre.forSearch reCode T 0 0 T.size false).runFor 4).outcome = some .matched := by
  obtain ⟨i, hi, hx⟩ := h
  rw [search_eq, if_neg (by simp only [Bool.or_eq_true, decide_eq_true_eq]; omega), from_eq]
  obtain ⟨j, seen', e, hj, hxj⟩ := admitted_some (mS T T.size) rfl (T.size + 1 - 0) 0 (({} : Sre.Seen).add 14) (by show T.size < _; omega) ⟨i, Nat.zero_le _, hi, hx⟩
  rw [e]
  exact run_found _ _ _ _ _ _ _ _ _ _ _ _ _ _ hj hxj
theorem search_none (T : Array Nat) (h : ∀ i, i < T.size → isHexUp (T.getD i 0) = true) : ((Sre.forSearch reCode T 0 0 T.size false).runFor 4).outcome = some .failed := by
  rw [search_eq]
  split
  · exact run_failed _ rfl rfl rfl
  · rw [from_eq]
    obtain ⟨seen', e⟩ := admitted_all (mS T T.size) rfl h (T.size + 1 - 0) 0 (({} : Sre.Seen).add 14)
    rw [e]
    exact run_failed _ rfl rfl rfl

-- the engine's run as a tree
section
variable {M : Model} {A : Around} {E : Value → Shared → Prop} {s : Shared}
theorem ruleLoop {m : Sre.M} {Q : PUnit → Shared → Prop} (h : Q ⟨⟩ s) : ∀ l : List Nat, wpAny M A (forIn l PUnit.unit fun i _ => do
      if m.seen.has i then rule (Sre.names.getD i "")
      pure (ForInStep.yield PUnit.unit)) Q E s := by
  intro l
  induction l with
  | nil => exact wpAny_pure h
  | cons i r ih =>
    rw [List.forIn_cons]
    refine wpAny_bind ?_
    refine wpAny_ite ?_
    split
    · exact wpAny_bind (wpAny_rule (wpAny_pure ih))
    · exact wpAny_pure ih
end
theorem drive_eq (m : Sre.M) (h : (m.runFor 4).outcome.isSome = true) : Re.reDrive (2 ^ 64) m = pure (m.runFor 4) := by
  have e : ∀ n, Re.reDrive (n + 1) m = (if (m.runFor 4).outcome.isSome = true then pure (m.runFor 4) else (do rule "sre.turn"; Re.reDrive n (m.runFor 4))) := fun n => rfl
  rw [show (2 ^ 64 : Nat) = 18446744073709551615 + 1 from rfl, e, if_pos h]
theorem runToEnd_found {M : Model} {A : Around} {E : Value → Shared → Prop} {s : Shared} {m : Sre.M} {Q : Option Sre.M → Shared → Prop} (h : (m.runFor 4).outcome = some .matched) (hq : Q (some (m.runFor 4)) s) : wpAny M A (Re.reRunToEnd m) Q E s := by
  unfold Re.reRunToEnd
  refine wpAny_bind (wpAny_of_eq (drive_eq m (by rw [h]; rfl)) ?_)
  refine wpAny_bind (ruleLoop ?_ _)
  rw [h]
  exact wpAny_pure hq
theorem runToEnd_none {M : Model} {A : Around} {E : Value → Shared → Prop} {s : Shared} {m : Sre.M} {Q : Option Sre.M → Shared → Prop} (h : (m.runFor 4).outcome = some .failed) (hq : Q none s) : wpAny M A (Re.reRunToEnd m) Q E s := by
  unfold Re.reRunToEnd
  refine wpAny_bind (wpAny_of_eq (drive_eq m (by rw [h]; rfl)) ?_)
  refine wpAny_bind (ruleLoop ?_ _)
  rw [h]
  exact wpAny_pure hq
end
section
open Builtin

theorem named_eq (id : String) (v : Value) : Re.reNamed id "search" ["string", "pos", "endpos"] 1 [v] [] = pure [some v, none, none] := by rfl
theorem textOf_eq (b : Array UInt8) (t : Tok) : Re.reTextOf (.bytes b t) = pure (b.map (·.toNat), 1) := by
  unfold Re.reTextOf
  rw [show asStr? (.bytes b t) = pure none from rfl]
  simp only [pure_bind]
  rw [KBy.quiet_eq]
  rfl
theorem noColl_eq (b : Array UInt8) (t : Tok) : Re.reNoCollectionInside (.bytes b t) 1 = pure () := by
  unfold Re.reNoCollectionInside
  rw [if_pos (by decide), KBy.isInstance_eq]
  rfl
structure PatAt (h : Heap) (pat cd : Addr) : Prop where
  p : ∃ o vs, h.get? pat = some o ∧ o.data = .fields vs ∧ vs.getD 6 .none = .int 1 0 ∧ vs.getD 2 .none = .int 0 0 ∧ vs.getD 5 .none = .ref cd
  c : ∃ o xs n, h.get? cd = some o ∧ o.data = .seq xs n ∧ (xs.map Re.reRawOf).map (·.toNat) = reCode
section
variable {M : Model} {A : Around} {E : Value → Shared → Prop} {s : Shared}
theorem target_wp {id : String} {pat cd : Addr} {b : Array UInt8} {t : Tok} {Q : Re.ReTarget → Shared → Prop} (P : PatAt s.heap pat cd) (hz : b.size ≤ 1048576)
    (h : Q { pattern := .ref pat, string := .bytes b t, code := reCode, text := b.map (·.toNat), kind := 1, groups := 0, pos := 0, lim := (b.map (·.toNat)).size } s) :
    wpAny M A (Re.reTarget id "search" ⟨[.ref pat, .bytes b t], []⟩) Q E s := by
  obtain ⟨⟨o, vs, ho, hd, h6, h2, h5⟩, ⟨o2, xs, n, ho2, hd2, hx⟩⟩ := P
  unfold Re.reTarget
  refine wpAny_bind (wpAny_of_eq (named_eq _ _) ?_)
  refine wpAny_bind (wpAny_pure ?_)
  refine wpAny_bind (wpAny_pure ?_)
  refine wpAny_bind (wpAny_fieldsOf ho hd ?_)
  refine wpAny_bind (wpAny_of_eq (textOf_eq b t) ?_)
  rw [h6, h2, h5]
  dsimp only
  refine bm_if_false (by decide) ?_
  refine bm_if_false (by decide) ?_
  refine wpAny_bind (wpAny_of_eq (noColl_eq b t) ?_)
  unfold Re.reRawItems
  refine wpAny_bind (wpAny_bind (wpAny_seqItems ho2 hd2 (wpAny_pure ?_)))
  refine wpAny_pure ?_
  rw [Option.getD_some, hx]
  have e1 : min (Int.toNat 0) (b.map (·.toNat)).size = 0 := by simp
  have e2 : min (Int.toNat (2 ^ 63 - 1)) (b.map (·.toNat)).size = (b.map (·.toNat)).size := by
    rw [Array.size_map]
    have : Int.toNat (2 ^ 63 - 1) = 9223372036854775807 := by decide
    rw [this]
    omega
  rw [e1, e2]
  exact h
end
theorem isHexUp_getD (b : Array UInt8) (i : Nat) (hi : i < b.size) : (b.map (·.toNat)).getD i 0 = (b[i]'hi).toNat := by
  simp [Array.getD, hi]
theorem meets_search_none (pat cd : Addr) (b : Array UInt8) (t : Tok) (hx : ∀ c ∈ b, isHexUp c.toNat = true) : Meets («re.Pattern.search» ⟨[.ref pat, .bytes b t], []⟩)
    (fun _ R s => PatAt s.heap pat cd ∧ b.size ≤ 1048576 ∧ R (.ok (.ret .none)) s) := by
  refine .of_wp fun prog w A R s hS => ?_
  obtain ⟨P, hz, h⟩ := hS
  unfold Builtin.«re.Pattern.search»
  refine wpAny_bind (target_wp P hz ?_)
  unfold Re.reAnswer
  refine wpAny_bind (runToEnd_none (search_none _ fun i hi => ?_) ?_)
  · have hi' : i < b.size := by simpa using hi
    show isHexUp ((b.map (·.toNat)).getD i 0) = true
    rw [isHexUp_getD b i hi']
    exact hx _ (Array.getElem_mem hi')
  · exact wpAny_pure ⟨_, rfl, h⟩
def tupOf (xs : Array Value) : Obj := { cls := .type "tuple", data := .seq xs }
def matchObj (vs : Array Value) : Obj := { cls := .type "re.Match", data := .fields vs }
theorem meets_search_some (pat cd : Addr) (b : Array UInt8) (t : Tok) (hx : ∃ c ∈ b, isHexUp c.toNat = false) : Meets («re.Pattern.search» ⟨[.ref pat, .bytes b t], []⟩)
    (fun _ R s => PatAt s.heap pat cd ∧ b.size ≤ 1048576 ∧ ∀ xs vs, R (.ok (.ret (.ref (s.heap.objs.size + 1)))) { s with heap := (s.heap.push (tupOf xs)).push (matchObj vs) }) := by
  refine .of_wp fun prog w A R s hS => ?_
  obtain ⟨P, hz, h⟩ := hS
  obtain ⟨c, hc, hcx⟩ := hx
  obtain ⟨i, hi, rfl⟩ := Array.mem_iff_getElem.mp hc
  unfold Builtin.«re.Pattern.search»
  refine wpAny_bind (target_wp P hz ?_)
  unfold Re.reAnswer
  refine wpAny_bind (runToEnd_found (search_found _ ⟨i, by simpa using hi, ?_⟩) ?_)
  · show isHexUp ((b.map (·.toNat)).getD i 0) = false
    rw [isHexUp_getD b i hi]
    exact hcx
  · dsimp only
    unfold Re.reNewMatch
    rw [show List.range 0 = [] from rfl]
    simp only [List.flatMap_nil, List.any_nil]
    refine wpAny_bind ?_
    refine bm_if_false rfl ?_
    refine wpAny_bind (wpAny_newTuple ?_ (by simp [sizeLine_eq]))
    unfold newFields
    refine wpAny_newObj_type ?_ (by simp [sizeOk, sizeLine_eq])
    refine wpAny_pure ⟨_, rfl, ?_⟩
    rw [Heap.size_push]
    exact h _ _
-- the pattern as an object, its method
theorem plainAttrs_pat : PlainAttrs "re.Pattern" :=
  ⟨⟨"object.__getattribute__", by rw [typeLookup_type, builtinLookup_eq_fast]; kernel_rfl, by decide +kernel⟩, by rw [typeLookup_type, builtinLookup_eq_fast]; kernel_rfl⟩
theorem slot_search : Slot "re.Pattern" "search" "re.Pattern.search" :=
  .of (owner := "re.Pattern") (n := "search") (by rw [typeLookup_type, builtinLookup_eq_fast]; kernel_rfl) (by decide +kernel) (by decide +kernel) (by decide +kernel)
    (by first | exact .inl (by decide +kernel) | exact .inr (by decide +kernel)) (by rw [isSubtype_type]; kernel_rfl)
theorem type_search : typeOf (.builtin "re.Pattern.search") = pure (.type "method_descriptor") := by show builtinType _ = _; rw [builtinType_eq_fast]; kernel_rfl
theorem entry_search : entryFor table "re.Pattern.search" = some Builtin.«re.Pattern.search» := entryFor_of_tree (by kernel_rfl)
theorem args_search (a b : Value) : argsOk "re.Pattern.search" ⟨[a, b], []⟩ := by
  unfold argsOk; kernel_rfl
theorem noBool_match : typeLookup (.type "re.Match") "__bool__" = pure none := by rw [typeLookup_type, builtinLookup_eq_fast]; kernel_rfl
theorem noLen_match : typeLookup (.type "re.Match") "__len__" = pure none := by rw [typeLookup_type, builtinLookup_eq_fast]; kernel_rfl
section
variable {prog : Program} {w : World} {M : Model} {A : Around} {E : Value → Shared → Prop} {s : Shared} {pat cd : Addr} {b : Array UInt8} {t : Tok} {op : Obj}
theorem meth_search {pl : Sem Bool} {Q : Value × List Value → Shared → Prop} (ho : s.heap.get? pat = some op) (hc : op.cls = .type "re.Pattern") (hd : op.dict = none) (h : Q (.builtin "re.Pattern.search", [.ref pat]) s) : wpAny M A (getMethod (.ref pat) "search" pl) Q E s := by
  have hT : s.TypeIs (.ref pat) "re.Pattern" := ⟨op, ho, hc⟩
  have hn : ∀ a, Value.ref pat = .ref a → ∃ o, s.heap.get? a = some o ∧ o.dict = none := fun a e => by cases e; exact ⟨op, ho, hd⟩
  with_reducible exact getMethod_builtin (v := .ref pat) hT plainAttrs_pat slot_search type_search hn h
theorem call_search_none {Q : Value → Shared → Prop} (ho : s.heap.get? pat = some op) (hc : op.cls = .type "re.Pattern") (P : PatAt s.heap pat cd) (hz : b.size ≤ 1048576) (hx : ∀ c ∈ b, isHexUp c.toNat = true) (h : Q .none s) :
    wpAny (model prog w) A (call (.builtin "re.Pattern.search") [.ref pat, .bytes b t]) Q E s :=
  call_meets slot_search ⟨op, ho, hc⟩ entry_search (args_search _ _) (meets_search_none pat cd b t hx) ⟨P, hz, h⟩
theorem call_search_some {Q : Value → Shared → Prop} (ho : s.heap.get? pat = some op) (hc : op.cls = .type "re.Pattern") (P : PatAt s.heap pat cd) (hz : b.size ≤ 1048576) (hx : ∃ c ∈ b, isHexUp c.toNat = false)
    (h : ∀ xs vs, Q (.ref (s.heap.objs.size + 1)) { s with heap := (s.heap.push (tupOf xs)).push (matchObj vs) }) :
    wpAny (model prog w) A (call (.builtin "re.Pattern.search") [.ref pat, .bytes b t]) Q E s :=
  call_meets slot_search ⟨op, ho, hc⟩ entry_search (args_search _ _) (meets_search_some pat cd b t hx) ⟨P, hz, h⟩
theorem truthy_match {x : Addr} {vs : Array Value} {Q : Bool → Shared → Prop} (ho : s.heap.get? x = some (matchObj vs)) (h : Q true s) : wpAny M A (truthy (.ref x)) Q E s := by
  have hT : s.TypeIs (.ref x) "re.Match" := ⟨_, ho, rfl⟩
  unfold truthy
  refine wpAny_bind (m := callSpecial? (.ref x) (Str.ofString "__bool__")) (wpAny_bind (wpAny_specialOf hT noBool_match (wpAny_pure ?_)))
  refine wpAny_bind (wpAny_specialOf hT noLen_match ?_)
  exact wpAny_pure h
end
end
section
open Builtin

-- one spelling of texts and of bytes
def mkS (cs : List Nat) : Str := ⟨cs.toArray⟩
def toI (cs : List Nat) : List Int := cs.map fun (c : Nat) => (c : Int)
theorem mkS_length (cs : List Nat) : (mkS cs).length = cs.length := by simp [mkS, PySem.Str.length]
theorem toI_length (cs : List Nat) : (toI cs).length = cs.length := by simp [toI]
def Asc (cs : List Nat) : Prop := ∀ c ∈ cs, c < 128
theorem Asc.inI {cs : List Nat} (h : Asc cs) : KBa.In (toI cs) := by
  intro n hn
  obtain ⟨c, hc, rfl⟩ := List.mem_map.mp hn
  have := h c hc
  omega
theorem encArr_mk (cs : List Nat) : encArr (mkS cs) = byteArr (toI cs) := by
  apply Array.ext'
  simp [encArr, mkS, byteArr, toI, Function.comp_def]
def hexL (ns : List Int) : List Nat := ns.flatMap fun n => [Bytes.hexDigit (n.toNat / 16), Bytes.hexDigit (n.toNat % 16)]
theorem hexL_length (ns : List Int) : (hexL ns).length = 2 * ns.length := by
  induction ns with
  | nil => rfl
  | cons n r ih => 
    have : hexL (n :: r) = [Bytes.hexDigit (n.toNat / 16), Bytes.hexDigit (n.toNat % 16)] ++ hexL r := rfl
    rw [this, List.length_append, ih]; simp; omega
theorem byte_nat {n : Int} (h : 0 ≤ n ∧ n < 256) : n.toNat.toUInt8.toNat = n.toNat := by
  show n.toNat % 256 = n.toNat
  omega
theorem hexText_byteArr {ns : List Int} (h : KBa.In ns) : hexText (byteArr ns) = mkS (hexL ns) := by
  unfold hexText mkS hexL byteArr
  congr 1
  simp only [List.flatMap_map]
  congr 1
  induction ns with
  | nil => rfl
  | cons n r ih =>
    simp only [List.flatMap_cons]
    rw [byte_nat (h n (.head _)), ih fun k hk => h k (.tail _ hk)]
theorem hexDigit_lt {n : Nat} (h : n < 16) : Bytes.hexDigit n < 128 := by
  unfold Bytes.hexDigit
  split <;> omega
theorem asc_hexL {ns : List Int} (h : KBa.In ns) : Asc (hexL ns) := by
  intro c hc
  obtain ⟨n, hn, hc⟩ := List.mem_flatMap.mp hc
  have hb := h n hn
  simp only [List.mem_cons, List.not_mem_nil, or_false] at hc
  rcases hc with rfl | rfl
  · exact hexDigit_lt (by omega)
  · exact hexDigit_lt (by omega)
def upI (n : Int) : Int := if 97 ≤ n ∧ n ≤ 122 then n - 32 else n
theorem upI_in {ns : List Int} (h : KBa.In ns) : KBa.In (ns.map upI) := by
  intro n hn
  obtain ⟨c, hc, rfl⟩ := List.mem_map.mp hn
  have := h c hc
  unfold upI
  split <;> omega
theorem upArr_byteArr {ns : List Int} (h : KBa.In ns) : upArr (byteArr ns) = byteArr (ns.map upI) := by
  unfold upArr byteArr
  congr 1
  simp only [List.map_map]
  apply List.map_congr_left
  intro n hn
  have hb := h n hn
  show Bytes.toUpper n.toNat.toUInt8 = (upI n).toNat.toUInt8
  have key : ∀ k : Fin 256, Bytes.toUpper (k.val.toUInt8) = (upI (k.val : Int)).toNat.toUInt8 := by decide +kernel
  have := key ⟨n.toNat, by omega⟩
  simp only at this
  rw [this]
  congr 2
  show upI ((n.toNat : Nat) : Int) = upI n
  congr 1
  omega
def trI (tab : Array UInt8) (n : Int) : Int := ((tab.getD n.toNat 0).toNat : Int)
theorem trI_in (tab : Array UInt8) (ns : List Int) : KBa.In (ns.map (trI tab)) := by
  intro n hn
  obtain ⟨c, hc, rfl⟩ := List.mem_map.mp hn
  unfold trI
  have := (tab.getD c.toNat 0).toNat_lt
  omega
theorem transArr_byteArr {tab : Array UInt8} {ns : List Int} (ht : tab.size = 256) (h : KBa.In ns) : transArr tab (byteArr ns) = byteArr (ns.map (trI tab)) := by
  unfold transArr byteArr
  apply Array.ext'
  simp only [List.map_map, Array.toList_map]
  apply List.map_congr_left
  intro n hn
  have hb := h n hn
  show tab.getD n.toNat.toUInt8.toNat n.toNat.toUInt8 = (trI tab n).toNat.toUInt8
  rw [byte_nat hb]
  have hi : n.toNat < tab.size := by omega
  unfold trI
  simp [Array.getD, hi]
theorem hexUp_all {ns : List Int} (h : KBa.In ns) (hx : ∀ n ∈ ns, isHexUp n.toNat = true) : ∀ c ∈ byteArr ns, isHexUp c.toNat = true := by
  intro c hc
  simp only [byteArr, List.mem_toArray, List.mem_map] at hc
  obtain ⟨n, hn, rfl⟩ := hc
  rw [byte_nat (h n hn)]
  exact hx n hn
theorem hexUp_some {ns : List Int} (h : KBa.In ns) (hx : ∃ n ∈ ns, isHexUp n.toNat = false) : ∃ c ∈ byteArr ns, isHexUp c.toNat = false := by
  obtain ⟨n, hn, e⟩ := hx
  refine ⟨n.toNat.toUInt8, ?_, ?_⟩
  · simp only [byteArr, List.mem_toArray, List.mem_map]
    exact ⟨n, hn, rfl⟩
  · rw [byte_nat (h n hn)]
    exact e

section
variable {prog : Program} {w : World} {A : Around} {E : Value → Shared → Prop} {s : Shared} {tab : Array UInt8} {t t2 : Tok} {ns : List Int} {cs : List Nat} {Q : Value → Shared → Prop}
theorem call_hexL (hi : KBa.In ns) (hz : ns.length ≤ 1048576) (h : ∀ t' k, Q (.str (mkS (hexL ns)) t') { s with toks := k }) : wpAny (model prog w) A (call (.builtin "bytes.hex") [.bytes (byteArr ns) t]) Q E s :=
  call_hex (by rw [byteArr_size]; exact hz) (by rw [hexText_byteArr hi]; exact h)
theorem call_upperL (hi : KBa.In ns) (hz : ns.length ≤ 1048576) (h : ∀ t' k, KBa.In (ns.map upI) → Q (.bytes (byteArr (ns.map upI)) t') { s with toks := k }) : wpAny (model prog w) A (call (.builtin "bytes.upper") [.bytes (byteArr ns) t]) Q E s :=
  call_upper (by rw [byteArr_size]; exact hz) (by rw [upArr_byteArr hi]; exact fun t k => h t k (upI_in hi))
theorem call_translateL (hi : KBa.In ns) (hz : ns.length ≤ 1048576) (ht : tab.size = 256) (h : ∀ t' k, KBa.In (ns.map (trI tab)) → Q (.bytes (byteArr (ns.map (trI tab))) t') { s with toks := k }) :
    wpAny (model prog w) A (call (.builtin "bytes.translate") [.bytes (byteArr ns) t, .bytes tab t2]) Q E s :=
  call_translate (by rw [byteArr_size]; exact hz) ht (by rw [transArr_byteArr ht hi]; exact fun t k => h t k (trI_in tab ns))
theorem call_encodeL (ha : Asc cs) (hz : cs.length ≤ 1048576) (h : ∀ t' k, KBa.In (toI cs) → Q (.bytes (byteArr (toI cs)) t') { s with toks := k }) :
    wpAny (model prog w) A (call (.builtin "str.encode") [.str (mkS cs) t, .str (PySem.Str.ofString "ascii") t2]) Q E s :=
  call_encode (by intro c hc; exact ha c (by simpa [mkS] using hc)) (by rw [mkS_length]; exact hz) (by rw [encArr_mk]; exact fun t k => h t k ha.inI)
theorem meth_encode {M : Model} {x : Str} {pl : Sem Bool} {Q : Value × List Value → Shared → Prop} (h : Q (.builtin "str.encode", [.str x t]) s) : wpAny M A (getMethod (.str x t) "encode" pl) Q E s := by
  have hT : s.TypeIs (.str x t) "str" := typeIs_str _ _ _
  have hn : ∀ a, Value.str x t = .ref a → ∃ o, s.heap.get? a = some o ∧ o.dict = none := fun _ e => nomatch e
  with_reducible exact getMethod_builtin hT F.plainAttrs_str slot_encode type_encode hn h
end
end
section
open Builtin
theorem or_shift {x b : Int} (k : Nat) (hx : 0 ≤ x) (h0 : 0 ≤ b) (h1 : b < 2 ^ k) : Builtin.bitOr (x * 2 ^ k) b = x * 2 ^ k + b := by
  have hp : (0 : Int) < 2 ^ k := Int.pow_pos (by decide)
  have hxk : 0 ≤ x * 2 ^ k := Int.mul_nonneg hx (Int.le_of_lt hp)
  obtain ⟨n, rfl⟩ := Int.eq_ofNat_of_zero_le hx
  obtain ⟨c, rfl⟩ := Int.eq_ofNat_of_zero_le h0
  have hc : c < 2 ^ k := by exact_mod_cast h1
  have e1 : ((n : Int) * 2 ^ k) = ((n * 2 ^ k : Nat) : Int) := by push_cast; rfl
  rw [e1]
  have nn : ∀ z : Int, Builtin.bitNot (Builtin.bitNot z) = z := fun z => by show -(-z - 1) - 1 = z; omega
  have key : ∀ p q : Nat, Builtin.bitOr (p : Int) (q : Int) = ((p ||| q : Nat) : Int) := by
    intro p q
    unfold Builtin.bitOr Builtin.bitAnd
    have d1 : decide (0 ≤ Builtin.bitNot (p : Int)) = false := decide_eq_false (by show ¬ 0 ≤ -(p : Int) - 1; omega)
    have d2 : decide (0 ≤ Builtin.bitNot (q : Int)) = false := decide_eq_false (by show ¬ 0 ≤ -(q : Int) - 1; omega)
    rw [d1, d2]
    simp only [nn, Int.toNat_natCast]
  rw [key]
  have := Nat.shiftLeft_add_eq_or_of_lt hc n
  rw [Nat.shiftLeft_eq] at this
  rw [← this]
  push_cast
  rfl
theorem in_snoc {l : List Int} {x : Int} (h : KBa.In l) (h0 : 0 ≤ x) (h1 : x < 256) : KBa.In (l ++ [x]) := by
  intro n hn
  rcases List.mem_append.mp hn with hn | hn
  · exact h n hn
  · rw [List.mem_singleton.mp hn]
    exact ⟨h0, h1⟩
theorem meta_bytes : typeOf (.type "bytes") = pure (.type "type") := by kernel_rfl
section
variable {prog : Program} {w : World} {A : Around} {E : Value → Shared → Prop} {s : Shared} {a b : Int} {t u : Tok} {Q : Value → Shared → Prop}
theorem and65535 (h : ∀ t' k, 0 ≤ a % 65536 → a % 65536 < 65536 → Q (.int (a % 65536) t') { s with toks := k }) : wpAny (model prog w) A (binaryOp .BitAnd (.int a t) (.int 65535 u)) Q E s := and_int (by rw [bitAnd_m16]; exact h _ _ (by omega) (by omega))
theorem and63 (h : ∀ t' k, 0 ≤ a % 64 → a % 64 < 64 → Q (.int (a % 64) t') { s with toks := k }) : wpAny (model prog w) A (binaryOp .BitAnd (.int a t) (.int 63 u)) Q E s := and_int (by rw [bitAnd_m6]; exact h _ _ (by omega) (by omega))
theorem and15 (h : ∀ t' k, 0 ≤ a % 16 → a % 16 < 16 → Q (.int (a % 16) t') { s with toks := k }) : wpAny (model prog w) A (binaryOp .BitAnd (.int a t) (.int 15 u)) Q E s := and_int (by rw [bitAnd_m4]; exact h _ _ (by omega) (by omega))
theorem and3 (h : ∀ t' k, 0 ≤ a % 4 → a % 4 < 4 → Q (.int (a % 4) t') { s with toks := k }) : wpAny (model prog w) A (binaryOp .BitAnd (.int a t) (.int 3 u)) Q E s := and_int (by rw [bitAnd_m2]; exact h _ _ (by omega) (by omega))
theorem shl8 (h0 : 0 ≤ a) (h1 : a < 65536) (h : ∀ t' k, Q (.int (a * 256) t') { s with toks := k }) : wpAny (model prog w) A (binaryOp .LShift (.int a t) (.int 8 u)) Q E s :=
  lshift_int_small (by decide) (by decide) (by omega) (by exact h _ _)
theorem shl6 (h0 : 0 ≤ a) (h1 : a < 65536) (h : ∀ t' k, Q (.int (a * 64) t') { s with toks := k }) : wpAny (model prog w) A (binaryOp .LShift (.int a t) (.int 6 u)) Q E s :=
  lshift_int_small (by decide) (by decide) (by omega) (by exact h _ _)
theorem shl4 (h0 : 0 ≤ a) (h1 : a < 65536) (h : ∀ t' k, Q (.int (a * 16) t') { s with toks := k }) : wpAny (model prog w) A (binaryOp .LShift (.int a t) (.int 4 u)) Q E s :=
  lshift_int_small (by decide) (by decide) (by omega) (by exact h _ _)
theorem shl2 (h0 : 0 ≤ a) (h1 : a < 65536) (h : ∀ t' k, Q (.int (a * 4) t') { s with toks := k }) : wpAny (model prog w) A (binaryOp .LShift (.int a t) (.int 2 u)) Q E s :=
  lshift_int_small (by decide) (by decide) (by omega) (by exact h _ _)
theorem shr (n : Int) (d : Int) (hn : 0 ≤ n) (e : (2 : Int) ^ n.toNat = d) (h0 : 0 ≤ d) (h : ∀ t' k, Q (.int (a / d) t') { s with toks := k }) : wpAny (model prog w) A (binaryOp .RShift (.int a t) (.int n u)) Q E s :=
  rshift_int hn (by rw [e, Int.fdiv_eq_ediv_of_nonneg _ h0]; exact h _ _)
theorem or256 (h0 : 0 ≤ a) (h1 : 0 ≤ b) (h2 : b < 256) (h : ∀ t' k, Q (.int (a * 256 + b) t') { s with toks := k }) : wpAny (model prog w) A (binaryOp .BitOr (.int (a * 256) t) (.int b u)) Q E s :=
  or_int (by have := or_shift 8 h0 h1 h2; rw [show (2 : Int) ^ 8 = 256 from rfl] at this; rw [this]; exact h _ _)
theorem or64 (h0 : 0 ≤ a) (h1 : 0 ≤ b) (h2 : b < 64) (h : ∀ t' k, Q (.int (a * 64 + b) t') { s with toks := k }) : wpAny (model prog w) A (binaryOp .BitOr (.int (a * 64) t) (.int b u)) Q E s :=
  or_int (by have := or_shift 6 h0 h1 h2; rw [show (2 : Int) ^ 6 = 64 from rfl] at this; rw [this]; exact h _ _)
theorem or16 (h0 : 0 ≤ a) (h1 : 0 ≤ b) (h2 : b < 16) (h : ∀ t' k, Q (.int (a * 16 + b) t') { s with toks := k }) : wpAny (model prog w) A (binaryOp .BitOr (.int (a * 16) t) (.int b u)) Q E s :=
  or_int (by have := or_shift 4 h0 h1 h2; rw [show (2 : Int) ^ 4 = 16 from rfl] at this; rw [this]; exact h _ _)
theorem or4 (h0 : 0 ≤ a) (h1 : 0 ≤ b) (h2 : b < 4) (h : ∀ t' k, Q (.int (a * 4 + b) t') { s with toks := k }) : wpAny (model prog w) A (binaryOp .BitOr (.int (a * 4) t) (.int b u)) Q E s :=
  or_int (by have := or_shift 2 h0 h1 h2; rw [show (2 : Int) ^ 2 = 4 from rfl] at this; rw [this]; exact h _ _)
def b64L : List UInt8 := [65, 66, 67, 68, 69, 70, 71, 72, 73, 74, 75, 76, 77, 78, 79, 80, 81, 82, 83, 84, 85, 86, 87, 88, 89, 90, 97, 98, 99, 100, 101, 102, 103, 104, 105, 106, 107, 108, 109, 110, 111, 112, 113, 114, 115, 116, 117, 118, 119, 120, 121, 122, 48, 49, 50, 51, 52, 53, 54, 55, 56, 57, 43, 47]
def b64C (i : Int) : Int := (((b64L.getD i.toNat 0).toNat : Nat) : Int)
theorem b64C_in (i : Int) : 0 ≤ b64C i ∧ b64C i < 256 := by
  unfold b64C
  have := (b64L.getD i.toNat 0).toNat_lt
  omega
theorem item_b64 {value slice : PySem.Expr} {i : Int} {ui : Tok} (h0 : 0 ≤ i) (h1 : i < 64) (h : ∀ t' k, 0 ≤ b64C i → b64C i < 256 → Q (.int (b64C i) t') { s with toks := k })
    (hs : subscripted slice false (.bytes b64L.toArray t) (.int i ui) = operate [.bytes b64L.toArray t, .int i ui] (getItem (.bytes b64L.toArray t) (.int i ui)) := by with_unfolding_all rfl)
    (ht : ∀ r, letTemporaryGo value (.bytes b64L.toArray t) r = pure () := by intro _; with_unfolding_all rfl) :
    wpAny (model prog w) A (subscriptTail value slice (.bytes b64L.toArray t) (.int i ui)) Q E s :=
  KBy.item_N (x := b64L) (by decide) h0 (by show i < 64; exact h1) (h _ _ (b64C_in i).1 (b64C_in i).2) hs ht
end
end
section
theorem fill0 : PySem.Challenge.rw_xb0001_01 = PySem.Challenge.rw_xb0001_01 ∧ Mine.hd.heap_39 = Mine.hd.heap_39 := by
  k_fill
  exact ⟨rfl, rfl⟩
theorem look43 (P : Params) : ∃ o vs, List.lookup 43 (Mine.hd.heap_39 P) = some o ∧ o.cls = .type "re.Pattern" ∧ o.dict = none ∧ o.data = .fields vs ∧ vs.getD 6 .none = .int 1 0 ∧ vs.getD 2 .none = .int 0 0 ∧ vs.getD 5 .none = .ref 42 := by
  refine ⟨_, _, by k_is, rfl, rfl, rfl, rfl, rfl, rfl⟩
theorem look42 (P : Params) : ∃ o xs n, List.lookup 42 (Mine.hd.heap_39 P) = some o ∧ o.data = .seq xs n ∧ (xs.map Builtin.Re.reRawOf).map (·.toNat) = reCode := by
  refine ⟨_, _, _, by k_is, rfl, ?_⟩
  simp [Builtin.Re.reRawOf, reCode]
theorem patK {P : Params} {h : Heap} (X : (Mine.hd.heap_39 P).In h) : PatAt h 43 42 ∧ ∃ op, h.get? 43 = some op ∧ op.cls = .type "re.Pattern" ∧ op.dict = none := by
  obtain ⟨o, vs, e, c, d, a1, a2, a3, a4⟩ := look43 P
  obtain ⟨o2, xs, n, e2, b1, b2⟩ := look42 P
  exact ⟨⟨⟨o, vs, X _ _ e, a1, a2, a3, a4⟩, ⟨o2, xs, n, X _ _ e2, b1, b2⟩⟩, ⟨o, X _ _ e, c, d⟩⟩
section
variable {prog : Program} {w : World} {A : Around} {E : Value → Shared → Prop} {s : Shared} {h₀ : Heap} {L : Addr} {m : Str → Option Value} {news : List (Addr × Obj)} {t : Tok} {ns : List Int} {P : Params}
theorem meth_searchK {pl : Sem Bool} {Q : Value × List Value → Shared → Prop} (F : Fr h₀ L s.heap m) (X : (Mine.hd.heap_39 P).In h₀) (h : Q (.builtin "re.Pattern.search", [.ref 43]) s) : wpAny (model prog w) A (getMethod (.ref 43) "search" pl) Q E s := by
  obtain ⟨_, op, ho, hc, hd⟩ := patK (X.keeps F.keep)
  exact meth_search ho hc hd h
theorem search_noneK {Q : Value → Shared → Prop} (F : Fr h₀ L s.heap m) (X : (Mine.hd.heap_39 P).In h₀) (hi : KBa.In ns) (hz : ns.length ≤ 1048576) (hx : ∀ n ∈ ns, isHexUp n.toNat = true) (h : Q .none s) :
    wpAny (model prog w) A (call (.builtin "re.Pattern.search") [.ref 43, .bytes (byteArr ns) t]) Q E s := by
  obtain ⟨PA, op, ho, hc, hd⟩ := patK (X.keeps F.keep)
  exact call_search_none ho hc PA (by rw [byteArr_size]; exact hz) (hexUp_all hi hx) h
theorem search_someK {Q : Value → Shared → Prop} (F : Fr h₀ L s.heap m) (N : News h₀ L s.heap news) (X : (Mine.hd.heap_39 P).In h₀) (hi : KBa.In ns) (hz : ns.length ≤ 1048576) (hx : ∃ n ∈ ns, isHexUp n.toNat = false)
    (h : ∀ x vs h', Fr h₀ L h' m → News h₀ L h' ((x, matchObj vs) :: news) → (∀ p ∈ news, p.1 < x) → Q (.ref x) { s with heap := h' }) :
    wpAny (model prog w) A (call (.builtin "re.Pattern.search") [.ref 43, .bytes (byteArr ns) t]) Q E s := by
  obtain ⟨PA, op, ho, hc, hd⟩ := patK (X.keeps F.keep)
  refine call_search_some ho hc PA (by rw [byteArr_size]; exact hz) (hexUp_some hi hx) fun xs vs => ?_
  have F1 := F.push (tupOf xs)
  have N1 := News.push F N (tupOf xs)
  have F2 := F1.push (matchObj vs)
  have N2 := News.push F1 N1 (matchObj vs)
  have e : (s.heap.push (tupOf xs)).objs.size = s.heap.objs.size + 1 := Heap.size_push ..
  rw [e] at N2
  refine h (s.heap.objs.size + 1) vs _ F2 (fun q hq => ?_) fun p hp => Nat.lt_succ_of_lt (Heap.lt_size (N p hp).1)
  rcases List.mem_cons.mp hq with rfl | hq
  · exact N2 _ (.head _)
  · exact N2 _ (.tail _ (.tail _ hq))
theorem raisedK_drop {base : Heap} {l : List Env} {e t : Addr} {cls : Value} {vs : List Value} {news' : List (Addr × Obj)} {h : Heap} (R : RaisedK base l e cls t vs news' h) (hs : ∀ p ∈ news, p ∈ news') : RaisedK base l e cls t vs news h := by
  obtain ⟨⟨B, hB, hl, hfl, hnew⟩, htup⟩ := R
  exact ⟨⟨B, hB, fun q hq => hl q (hs q hq), hfl, hnew⟩, htup⟩
theorem raisedS_drop {base G : Heap} {l : List Env} {e t : Addr} {cls : Value} {vs : List Value} {news' : List (Addr × Obj)} {h : Heap} (R : RaisedS base G l e cls t vs news' h) (hs : ∀ p ∈ news, p ∈ news') : RaisedS base G l e cls t vs news h := by
  obtain ⟨⟨B, hB, hG, hl, hfl, hnew⟩, htup⟩ := R
  exact ⟨⟨B, hB, hG, fun q hq => hl q (hs q hq), hfl, hnew⟩, htup⟩
theorem make_bytes {D : Addr} {vs : List Value} {n : Nat} {Q : Value → Shared → Prop} (F : Fr h₀ L s.heap m) (N : News h₀ L s.heap news) (hm : (D, listOf vs.toArray n) ∈ news) (hh : A.handled = none) (hi : IntsAre vs ns) (hr : KBa.In ns) (hn : ns.length ≤ 16777216)
    (h : ∀ h' t' k, Fr h₀ L h' m → News h₀ L h' news → KBa.In ns → Q (.bytes (byteArr ns) t') { s with heap := h', toks := k }) : wpAny (model prog w) A (call (.type "bytes") [.ref D]) Q E s :=
  KBa.make_K F N hh ⟨_, (N _ hm).1, rfl, n, rfl⟩ hi hr hn h
theorem ret_bytes {x y : List Int} {h' : Heap} {tk' : Nat} {Q : Value → Shared → Prop} (hret : ∀ t h' tk', Fr h₀ L h' m → News h₀ L h' news → Q (.bytes (byteArr x) t) { s with heap := h', toks := tk' }) (e : y = x) (F : Fr h₀ L h' m) (N : News h₀ L h' news) :
    Q (.bytes (byteArr y) t) { s with heap := h', toks := tk' } := by
  subst e
  exact hret t h' tk' F N
theorem ret_str {x y : Str} {h' : Heap} {tk' : Nat} {Q : Value → Shared → Prop} (hret : ∀ t h' tk', Fr h₀ L h' m → News h₀ L h' news → Q (.str x t) { s with heap := h', toks := tk' }) (e : y = x) (F : Fr h₀ L h' m) (N : News h₀ L h' news) :
    Q (.str y t) { s with heap := h', toks := tk' } := by
  subst e
  exact hret t h' tk' F N
theorem truthy_matchK {x : Addr} {vs : Array Value} {Q : Bool → Shared → Prop} (N : News h₀ L s.heap news) (hm : (x, matchObj vs) ∈ news) (h : Q true s) : wpAny (model prog w) A (truthy (.ref x)) Q E s := truthy_match (N _ hm).1 h
end
end
local macro_rules | `(tactic| walk_at $s:str) => `(tactic| k_extra $s)
local macro_rules | `(tactic| k_room) => `(tactic| walk_at "m k_room")
local macro_rules | `(tactic| k_units) => `(tactic| walk_at "m k_units")
local macro_rules | `(tactic| k_intsEnd) => `(tactic| walk_at "m k_intsEnd")
local macro_rules | `(tactic| kba_in) => `(tactic| walk_at "m kba_in")
local macro_rules | `(tactic| kst_in) => `(tactic| walk_at "m kst_in")
local macro_rules | `(tactic| k_all) => `(tactic| walk_at "m k_all")
section

theorem fill1 : PySem.Challenge.rw_xb0001_01 = PySem.Challenge.rw_xb0001_01 ∧ Mine.hd.heap_39 = Mine.hd.heap_39 := by
  k_with_none
  w_top off
  k_with "m k_room" => (((try simp only [depth_mark, depth_under_make, depth_under_kw, depth_in1, depth_deeper, depth_caller]); (try dsimp only [ktrTop]); omega))
  k_with "m k_units" => (((have hcL9 := cLine_is); (try simp only [units_in1, units_deeper, Around.mark_units, units_caller]); (try dsimp only [ktrTop]); omega))
  k_with "my size" => (first | assumption | ((try simp only [List.length_map, List.length_append, List.length_cons, List.length_nil, hexL_length, toI_length, mkS_length]); omega))
  k_with "my enter" => ((refine' code_def ?zzk1 ?zzk2 ?zzk3 ?zzk4 ?zzk5 ?zzkA ?zzkF ?zzkK ?zzk6 ?zzk7 ?zzk8 ?zzk9 ?zzkB ?_ ?zzc2 ?zzc3 ?zzc4 ?zzc5; (case zzkA => exact rfl); (case zzkF => exact rfl); (case zzkK => assumption); (case zzk1 => k_asm); (case zzk2 => k_asm); (case zzk3 => k_asm); (case zzk4 => k_asm); (case zzk5 => k_asm); (case zzk6 => k_is); (case zzk7 => k_is); (case zzk8 => k_room); (case zzk9 => first | exact BindsTo.of_eq rfl | exact binds_K (by k_in) rfl (by k_is) rfl rfl rfl); (case zzc5 => decide); (case zzkB => exact locs rfl); (case zzc2 => exact rfl); (case zzc3 => exact rfl); (case zzc4 => exact rfl); k_whole; intro g' L' h' FG' F' N' B' X' T'; (try dsimp only); (try k_lift B'); (try k_fold)))
  k_with "call type:type" => ((k_here; (with_reducible show wpAny _ _ (call (Value.type "type") [Value.bytes _ _]) _ _ _); refine call_type_bytes ?_))
  k_with "getMethod bytes" => ((k_here; first | (with_reducible refine meth_hex ?_) | (with_reducible refine meth_upper ?_) | (with_reducible refine meth_translate ?_)))
  k_with "getMethod str" => ((k_here; (with_reducible refine meth_encode ?_)))
  k_with "getMethod ref" => ((k_here; (with_reducible show wpAny _ _ (getMethod _ (Str.ofString "search") _) _ _ _); (refine' meth_searchK ?zzkF ?zzkX ?_; (case zzkF => k_asm); (case zzkX => k_asm))))
  k_with "getMethod type:bytes" => ((k_here; refine' method_type ?zzF ?zzX ?zzm (by decide +kernel) ?zze ?zzh ?_; (case zzF => k_asm); (case zzX => k_asm); (case zzm => exact meta_bytes); (case zze => k_dflt k_is); (case zzh => k_handed)))
  k_with "call builtin:bytes.hex" => ((k_here; (refine' call_hexL ?zzki ?zzkz ?_; (case zzki => assumption); (case zzkz => walk_at "my size")); intro t9 k9))
  k_with "call builtin:bytes.upper" => ((k_here; (refine' call_upperL ?zzki ?zzkz ?_; (case zzki => assumption); (case zzkz => walk_at "my size")); intro t9 k9 hIn9))
  k_with "call builtin:bytes.translate" => ((k_here; (refine' call_translateL ?zzki ?zzkz ?zzkt ?_; (case zzki => assumption); (case zzkz => walk_at "my size"); (case zzkt => first | with_reducible exact mkTab_size _ _ | rfl)); intro t9 k9 hIn9))
  k_with "call builtin:bytes.maketrans" => ((k_here; (refine' call_maketrans ?zzki ?_; (case zzki => rfl)); intro t9 k9))
  k_with "call builtin:str.encode" => ((k_here; (refine' call_encodeL ?zzka ?zzkz ?_; (case zzka => first | assumption | exact asc_hexL (by assumption)); (case zzkz => walk_at "my size")); intro t9 k9 hIn9))
  k_with "call builtin:re.Pattern.search" => ((k_here; (refine' search_noneK ?zzkF ?zzkX ?zzki ?zzkz ?zzkh ?_; (case zzkF => k_asm); (case zzkX => k_asm); (case zzki => assumption); (case zzkz => walk_at "my size"); (case zzkh => assumption))))
  k_with "call builtin:re.Pattern.search" => ((k_here; (refine' search_someK ?zzkF ?zzkN ?zzkX ?zzki ?zzkz ?zzkh ?_; (case zzkF => k_asm); (case zzkN => k_asm); (case zzkX => k_asm); (case zzki => assumption); (case zzkz => walk_at "my size"); (case zzkh => assumption)); intro x9 vs9 h' F' N' l1; (try k_lt l1); (try k_sweep)))
  k_with "truthy ref" => ((k_here; (refine' truthy_matchK ?zzkN ?zzkm ?_; (case zzkN => k_asm); (case zzkm => k_mem))))
  k_with "m k_intsEnd" => (exact IntsAre.nil)
  k_with "my frame" => (first | k_asm | ((rename News _ _ _ _ => nE'); exact cb_drop nE' (by intro p hp; kst_mem)))
  k_with "m kba_in" => (walk_at "my in")
  k_with "my in" => (first | assumption | (refine' in_snoc ?zzki ?zzka ?zzkb; (case zzka => omega); (case zzkb => omega); (case zzki => walk_at "my in")))
  k_with "m kst_in" => (((try dsimp only); walk_at "my led"))
  k_with "my led" => (first | exact List.forall_mem_nil _ | (refine' List.forall_mem_cons.mpr ⟨?zzla, ?zzlb⟩; (case zzla => walk_at "my mem"); (case zzlb => walk_at "my led")) | (intro p hp; kst_mem))
  k_with "my mem" => (first | exact List.Mem.head _ | (refine List.Mem.tail _ ?_; walk_at "my mem"))
  k_with "call type:bytes" => ((k_here; (with_reducible show wpAny _ _ (call (Value.type "bytes") [Value.ref _]) _ _ _); (rename News _ _ _ _ => nE'); (try simp only [List.push_toArray] at nE'); (refine' make_bytes ?zzkF nE' ?zzkm ?zzkh ?zzki ?zzkr ?zzkn ?_; (case zzkF => k_asm); (case zzkm => walk_at "my mem"); (case zzkh => rfl); (case zzki => k_intsEnd); (case zzkr => walk_at "my in"); (case zzkn => ((try simp only [List.length_append, List.length_cons, List.length_nil]); omega))); intro h' t' k' F' N' hIn'; (try k_sweep)))
  k_with "leaving ref" => ((k_here; first | (refine' leave_raiseS ?zzk1 ?zzk0 ?zzk2 ?zzk3 ?_; (case zzk0 => assumption); (case zzk2 => assumption); (case zzk1 => assumption); (case zzk3 => k_asm); k_whole; intro h' t' S' R' U'; (try dsimp only at S' R' U' ⊢)) | (refine' leave_onS ?zzk1 ?zzk2 ?zzk3 ?zzk4 ?_; (case zzk3 => assumption); (case zzk2 => assumption); (case zzk1 => assumption); (case zzk4 => assumption); k_whole; intro h' S' R' U'; (try dsimp only at S' R' U' ⊢))))
  k_fill
  exact ⟨rfl, rfl⟩

section
variable {prog : Program} {w : World} {p : Program} {loose : List Str} {mean : ExcName → Option Value} {mg mb : Str → Option Value}
  {dp un : Nat} {gd : Option (List Code)} {cn : Str} {cs : Scope} {a : Addr} {ccd : Value} {cl : List (Str × Addr)} {outer : List Env} {A₀ : Around} {base h₀ : Heap} {L : Addr} {m : Str → Option Value}
  {news : List (Addr × Obj)} {s : Shared} {Q E : Value → Shared → Prop}

def hexV (c : Int) : Int := if 48 ≤ c ∧ c ≤ 57 then c - 48 else if 65 ≤ c ∧ c ≤ 70 then c - 55 else if 97 ≤ c ∧ c ≤ 102 then c - 87 else 16
def b64V (c : Int) : Int := if 65 ≤ c ∧ c ≤ 90 then c - 65 else if 97 ≤ c ∧ c ≤ 122 then c - 71 else if 48 ≤ c ∧ c ≤ 57 then c + 4 else if c = 43 then 62 else if c = 47 then 63 else 64
theorem hex_value (B : Below A₀ base outer h₀) (F : Fr h₀ L s.heap m) (X : (Mine.hd.heap_39 w.params).In h₀) (N : News h₀ L s.heap news) (T : Top p loose mean mg mb h₀) (hk : cs.kind = .function)
    (hd : dp + 2 < recursionLimit) (hu : un + 20 < cLine) (c : Int) (t : Tok)
    (h : ∀ t' h' tk', Fr h₀ L h' m → News h₀ L h' news → Q (.int (hexV c) t') { s with heap := h', toks := tk' }) :
    wpAny (model prog w) (ktrTop dp un gd cn cs L a ccd cl outer) (call (.ref 124) [.int c t]) Q E s := by
  refine wpAny_call ?_
  k_dflt walk_at "my enter"
  k_steps
  all_goals (refine' cb_retI (Q := Q) h ?e1 ?e2 ?e3; (case e2 => k_asm); (case e3 => k_asm); (case e1 => (unfold hexV; simp only [decide_eq_true_eq, decide_eq_false_iff_not, Bool.not_eq_true] at *; (repeat' split) <;> omega)))
theorem b64_value (B : Below A₀ base outer h₀) (F : Fr h₀ L s.heap m) (X : (Mine.hd.heap_39 w.params).In h₀) (N : News h₀ L s.heap news) (T : Top p loose mean mg mb h₀) (hk : cs.kind = .function)
    (hd : dp + 2 < recursionLimit) (hu : un + 20 < cLine) (c : Int) (t : Tok)
    (h : ∀ t' h' tk', Fr h₀ L h' m → News h₀ L h' news → Q (.int (b64V c) t') { s with heap := h', toks := tk' }) :
    wpAny (model prog w) (ktrTop dp un gd cn cs L a ccd cl outer) (call (.ref 92) [.int c t]) Q E s := by
  refine wpAny_call ?_
  k_dflt walk_at "my enter"
  k_steps
  all_goals (refine' cb_retI (Q := Q) h ?e1 ?e2 ?e3; (case e2 => k_asm); (case e3 => k_asm); (case e1 => (unfold b64V; simp only [decide_eq_true_eq, decide_eq_false_iff_not, Bool.not_eq_true] at *; (repeat' split) <;> omega)))
end
end
section

theorem fill2 : PySem.Challenge.rw_xb0001_01 = PySem.Challenge.rw_xb0001_01 ∧ Mine.hd.heap_39 = Mine.hd.heap_39 := by
  k_with_none
  w_top off
  k_with "m k_room" => (((try simp only [depth_mark, depth_under_make, depth_under_kw, depth_in1, depth_deeper, depth_caller]); (try dsimp only [ktrTop]); omega))
  k_with "m k_units" => (((have hcL9 := cLine_is); (try simp only [units_in1, units_deeper, Around.mark_units, units_caller]); (try dsimp only [ktrTop]); omega))
  k_with "my size" => (first | assumption | ((try simp only [List.length_map, List.length_append, List.length_cons, List.length_nil, hexL_length, toI_length, mkS_length]); omega))
  k_with "my enter" => ((refine' code_def ?zzk1 ?zzk2 ?zzk3 ?zzk4 ?zzk5 ?zzkA ?zzkF ?zzkK ?zzk6 ?zzk7 ?zzk8 ?zzk9 ?zzkB ?_ ?zzc2 ?zzc3 ?zzc4 ?zzc5; (case zzkA => exact rfl); (case zzkF => exact rfl); (case zzkK => assumption); (case zzk1 => k_asm); (case zzk2 => k_asm); (case zzk3 => k_asm); (case zzk4 => k_asm); (case zzk5 => k_asm); (case zzk6 => k_is); (case zzk7 => k_is); (case zzk8 => k_room); (case zzk9 => first | exact BindsTo.of_eq rfl | exact binds_K (by k_in) rfl (by k_is) rfl rfl rfl); (case zzc5 => decide); (case zzkB => exact locs rfl); (case zzc2 => exact rfl); (case zzc3 => exact rfl); (case zzc4 => exact rfl); k_whole; intro g' L' h' FG' F' N' B' X' T'; (try dsimp only); (try k_lift B'); (try k_fold)))
  k_with "call type:type" => ((k_here; (with_reducible show wpAny _ _ (call (Value.type "type") [Value.bytes _ _]) _ _ _); refine call_type_bytes ?_))
  k_with "getMethod bytes" => ((k_here; first | (with_reducible refine meth_hex ?_) | (with_reducible refine meth_upper ?_) | (with_reducible refine meth_translate ?_)))
  k_with "getMethod str" => ((k_here; (with_reducible refine meth_encode ?_)))
  k_with "getMethod ref" => ((k_here; (with_reducible show wpAny _ _ (getMethod _ (Str.ofString "search") _) _ _ _); (refine' meth_searchK ?zzkF ?zzkX ?_; (case zzkF => k_asm); (case zzkX => k_asm))))
  k_with "getMethod type:bytes" => ((k_here; refine' method_type ?zzF ?zzX ?zzm (by decide +kernel) ?zze ?zzh ?_; (case zzF => k_asm); (case zzX => k_asm); (case zzm => exact meta_bytes); (case zze => k_dflt k_is); (case zzh => k_handed)))
  k_with "call builtin:bytes.hex" => ((k_here; (refine' call_hexL ?zzki ?zzkz ?_; (case zzki => assumption); (case zzkz => walk_at "my size")); intro t9 k9))
  k_with "call builtin:bytes.upper" => ((k_here; (refine' call_upperL ?zzki ?zzkz ?_; (case zzki => assumption); (case zzkz => walk_at "my size")); intro t9 k9 hIn9))
  k_with "call builtin:bytes.translate" => ((k_here; (refine' call_translateL ?zzki ?zzkz ?zzkt ?_; (case zzki => assumption); (case zzkz => walk_at "my size"); (case zzkt => first | with_reducible exact mkTab_size _ _ | rfl)); intro t9 k9 hIn9))
  k_with "call builtin:bytes.maketrans" => ((k_here; (refine' call_maketrans ?zzki ?_; (case zzki => rfl)); intro t9 k9))
  k_with "call builtin:str.encode" => ((k_here; (refine' call_encodeL ?zzka ?zzkz ?_; (case zzka => first | assumption | exact asc_hexL (by assumption)); (case zzkz => walk_at "my size")); intro t9 k9 hIn9))
  k_with "call builtin:re.Pattern.search" => ((k_here; (refine' search_noneK ?zzkF ?zzkX ?zzki ?zzkz ?zzkh ?_; (case zzkF => k_asm); (case zzkX => k_asm); (case zzki => assumption); (case zzkz => walk_at "my size"); (case zzkh => assumption))))
  k_with "call builtin:re.Pattern.search" => ((k_here; (refine' search_someK ?zzkF ?zzkN ?zzkX ?zzki ?zzkz ?zzkh ?_; (case zzkF => k_asm); (case zzkN => k_asm); (case zzkX => k_asm); (case zzki => assumption); (case zzkz => walk_at "my size"); (case zzkh => assumption)); intro x9 vs9 h' F' N' l1; (try k_lt l1); (try k_sweep)))
  k_with "truthy ref" => ((k_here; (refine' truthy_matchK ?zzkN ?zzkm ?_; (case zzkN => k_asm); (case zzkm => k_mem))))
  k_with "m k_intsEnd" => (exact IntsAre.nil)
  k_with "my frame" => (first | k_asm | ((rename News _ _ _ _ => nE'); exact cb_drop nE' (by intro p hp; kst_mem)))
  k_with "m kba_in" => (walk_at "my in")
  k_with "my in" => (first | assumption | (refine' in_snoc ?zzki ?zzka ?zzkb; (case zzka => omega); (case zzkb => omega); (case zzki => walk_at "my in")))
  k_with "m kst_in" => (((try dsimp only); walk_at "my led"))
  k_with "my led" => (first | exact List.forall_mem_nil _ | (refine' List.forall_mem_cons.mpr ⟨?zzla, ?zzlb⟩; (case zzla => walk_at "my mem"); (case zzlb => walk_at "my led")) | (intro p hp; kst_mem))
  k_with "my mem" => (first | exact List.Mem.head _ | (refine List.Mem.tail _ ?_; walk_at "my mem"))
  k_with "call type:bytes" => ((k_here; (with_reducible show wpAny _ _ (call (Value.type "bytes") [Value.ref _]) _ _ _); (rename News _ _ _ _ => nE'); (try simp only [List.push_toArray] at nE'); (refine' make_bytes ?zzkF nE' ?zzkm ?zzkh ?zzki ?zzkr ?zzkn ?_; (case zzkF => k_asm); (case zzkm => walk_at "my mem"); (case zzkh => rfl); (case zzki => k_intsEnd); (case zzkr => walk_at "my in"); (case zzkn => ((try simp only [List.length_append, List.length_cons, List.length_nil]); omega))); intro h' t' k' F' N' hIn'; (try k_sweep)))
  k_with "leaving ref" => ((k_here; first | (refine' leave_raiseS ?zzk1 ?zzk0 ?zzk2 ?zzk3 ?_; (case zzk0 => assumption); (case zzk2 => assumption); (case zzk1 => assumption); (case zzk3 => k_asm); k_whole; intro h' t' S' R' U'; (try dsimp only at S' R' U' ⊢)) | (refine' leave_onS ?zzk1 ?zzk2 ?zzk3 ?zzk4 ?_; (case zzk3 => assumption); (case zzk2 => assumption); (case zzk1 => assumption); (case zzk4 => assumption); k_whole; intro h' S' R' U'; (try dsimp only at S' R' U' ⊢))))
  k_with "my call" => (((case zzk1 => k_asm); (case zzk2 => k_asm); (case zzk3 => k_asm); (case zzk4 => k_asm); (case zzk5 => k_asm); (case zzk6 => exact rfl); (case zzkd => k_room); (case zzku => k_units)))
  k_with "call ref" => ((k_here; (with_reducible show wpAny _ _ (call (Value.ref 124) _ _) _ _ _); k_dflt (refine' hex_value_in ?zzk1 ?zzk2 ?zzk3 ?zzk4 ?zzk5 ?zzk6 ?zzkd ?zzku ?zzhv ?zzhc _ ?_; (case zzhv => assumption); (case zzhc => exact getD_mem (by omega) (by omega)); walk_at "my call"); intro t9 h9 k9 q9 q8 F9 N9; (try dsimp only); (try k_sweep); (try k_fold)))
  k_fill
  exact ⟨rfl, rfl⟩

section
variable {prog : Program} {w : World} {p : Program} {loose : List Str} {mean : ExcName → Option Value} {mg mb : Str → Option Value}
  {dp un : Nat} {gd : Option (List Code)} {cn : Str} {cs : Scope} {a : Addr} {ccd : Value} {cl : List (Str × Addr)} {outer : List Env} {A₀ : Around} {base h₀ : Heap} {L : Addr} {m : Str → Option Value}
  {news : List (Addr × Obj)} {s : Shared} {Q E : Value → Shared → Prop}

theorem getD_mem {ns : List Int} {i : Int} (h0 : 0 ≤ i) (h1 : i < (ns.length : Int)) : ns.getD i.toNat 0 ∈ ns := by
  have h : i.toNat < ns.length := by omega
  rw [List.getD_eq_getElem?_getD, List.getElem?_eq_getElem h]
  exact List.getElem_mem h
theorem hexV_nonneg (c : Int) : 0 ≤ hexV c := by
  unfold hexV
  (repeat' split) <;> omega
theorem hex_value_in (B : Below A₀ base outer h₀) (F : Fr h₀ L s.heap m) (X : (Mine.hd.heap_39 w.params).In h₀) (N : News h₀ L s.heap news) (T : Top p loose mean mg mb h₀) (hk : cs.kind = .function)
    (hd : dp + 2 < recursionLimit) (hu : un + 20 < cLine) {ns : List Int} {c : Int} (hv : ∀ n ∈ ns, hexV n < 16) (hc : c ∈ ns) (t : Tok)
    (h : ∀ t' h' tk', 0 ≤ hexV c → hexV c < 16 → Fr h₀ L h' m → News h₀ L h' news → Q (.int (hexV c) t') { s with heap := h', toks := tk' }) :
    wpAny (model prog w) (ktrTop dp un gd cn cs L a ccd cl outer) (call (.ref 124) [.int c t]) Q E s :=
  hex_value B F X N T hk hd hu c t fun t' h' tk' => h t' h' tk' (hexV_nonneg c) (hv c hc)

def unhexK (ns : List Int) (k : Nat) : List Int := (List.range k).map fun j => hexV (ns.getD (2 * j) 0) * 16 + hexV (ns.getD (2 * j + 1) 0)
abbrev HexInv (ns : List Int) (i : Int) (out : List Int) : Prop := 0 ≤ i ∧ i % 2 = 0 ∧ i ≤ (ns.length : Int) ∧ out = unhexK ns (i.toNat / 2) ∧ out.length = i.toNat / 2 ∧ KBa.In out
theorem HexInv.start (ns : List Int) : HexInv ns 0 [] := ⟨by omega, by omega, by omega, rfl, rfl, fun _ h => nomatch h⟩
theorem HexInv.step {ns : List Int} {i x : Int} {out : List Int} (h0 : 0 ≤ i) (h1 : i % 2 = 0) (hlt : i < (ns.length : Int)) (h3 : out = unhexK ns (i.toNat / 2)) (h4 : out.length = i.toNat / 2) (h5 : KBa.In out) (hev : ns.length % 2 = 0) (hv : ∀ n ∈ ns, hexV n < 16)
    (hx : x = hexV (ns.getD i.toNat 0) * 16 + hexV (ns.getD (i + 1).toNat 0)) : HexInv ns (i + 2) (out ++ [x]) := by
  subst hx
  have e0 := hv _ (getD_mem h0 hlt)
  have e1 := hv _ (getD_mem (ns := ns) (i := i + 1) (by omega) (by omega))
  have p0 := hexV_nonneg (ns.getD i.toNat 0)
  have p1 := hexV_nonneg (ns.getD (i + 1).toNat 0)
  have eh : (i + 2).toNat / 2 = i.toNat / 2 + 1 := by omega
  refine ⟨by omega, by omega, by omega, ?_, by rw [List.length_append, h4, eh]; rfl, ?_⟩
  · rw [h3, eh]
    unfold unhexK
    rw [List.range_succ, List.map_append]
    have a1 : 2 * (i.toNat / 2) = i.toNat := by omega
    have a2 : (i + 1).toNat = i.toNat + 1 := by omega
    simp only [List.map_cons, List.map_nil, a1, a2]
  · intro n hn
    rcases List.mem_append.mp hn with hn | hn
    · exact h5 n hn
    · rw [List.mem_singleton.mp hn]
      omega
theorem HexInv.fin {ns : List Int} {i : Int} {out : List Int} (h3 : out = unhexK ns (i.toNat / 2)) (h2 : i ≤ (ns.length : Int)) (hge : ¬ i < (ns.length : Int)) : out = unhexK ns (ns.length / 2) := by
  have e : i.toNat = ns.length := by omega
  rw [h3, e]
theorem fmod_odd {n : Nat} (h : n % 2 = 0) (h' : ((n : Int)).fmod 2 ≠ 0) : False := by
  rw [Int.fmod_eq_emod_of_nonneg _ (by decide)] at h'
  omega
theorem fmod_even {n : Nat} (h : n % 2 = 1) (h' : ((n : Int)).fmod 2 = 0) : False := by
  rw [Int.fmod_eq_emod_of_nonneg _ (by decide)] at h'
  omega
theorem a2b_hex (B : Below A₀ base outer h₀) (F : Fr h₀ L s.heap m) (X : (Mine.hd.heap_39 w.params).In h₀) (N : News h₀ L s.heap news) (T : Top p loose mean mg mb h₀) (hk : cs.kind = .function)
    (hd : dp + 5 < recursionLimit) (hu : un + 50 < cLine) (ns : List Int) (t : Tok) (hz : ns.length ≤ 10000) (hIn : KBa.In ns) (hev : ns.length % 2 = 0) (hv : ∀ n ∈ ns, hexV n < 16)
    (h : ∀ t' h' tk', Fr h₀ L h' m → News h₀ L h' news → Q (.bytes (byteArr (unhexK ns (ns.length / 2))) t') { s with heap := h', toks := tk' }) :
    wpAny (model prog w) (ktrTop dp un gd cn cs L a ccd cl outer) (call (.ref 131) [.bytes (byteArr ns) t]) Q E s := by
  (k_with "exec While Compare cons nil" => k_while (fun (_ : List Int) i out => HexInv ns i out) (fun (_ : List Int) i out => ns.length - i.toNat) "i" "out")
  (k_with "state" => first | exact HexInv.start _ | exact HexInv.step (by omega) (by omega) (by omega) (by assumption) (by omega) (by assumption) hev hv (by rfl))
  refine wpAny_call ?_
  k_dflt walk_at "my enter"
  k_steps
  · exact (fmod_odd hev (by assumption)).elim
  · refine' ret_bytes (Q := Q) h ?e1 ?e2 ?e3
    case e1 => exact HexInv.fin (by assumption) (by assumption) (by assumption)
    all_goals walk_at "my frame"
theorem a2b_hex_odd (B : Below A₀ base outer h₀) (F : Fr h₀ L s.heap m) (X : (Mine.hd.heap_39 w.params).In h₀) (N : News h₀ L s.heap news) (T : Top p loose mean mg mb h₀) (hk : cs.kind = .function)
    (hd : dp + 5 < recursionLimit) (hu : un + 50 < cLine) (ns : List Int) (t : Tok) (hz : ns.length ≤ 10000) (hIn : KBa.In ns) (hev : ns.length % 2 = 1)
    (h : ∀ e t' vs g h' tk', Fr h₀ L g m → RaisedS base g (envX cn cs L a ccd cl :: outer) e (.ref 61) t' vs news h' → g.UpToSlots h' → E (.ref e) { s with heap := h', toks := tk' }) :
    wpAny (model prog w) (ktrTop dp un gd cn cs L a ccd cl outer) (call (.ref 131) [.bytes (byteArr ns) t]) Q E s := by
  refine wpAny_call ?_
  k_dflt walk_at "my enter"
  k_steps
  · exact h _ _ _ _ _ _ (by assumption) (by assumption) (by assumption)
  · exact (fmod_even hev (by assumption)).elim
end
end
section

theorem fill3 : PySem.Challenge.rw_xb0001_01 = PySem.Challenge.rw_xb0001_01 ∧ Mine.hd.heap_39 = Mine.hd.heap_39 := by
  k_with_none
  w_top off
  k_with "m k_room" => (((try simp only [depth_mark, depth_under_make, depth_under_kw, depth_in1, depth_deeper, depth_caller]); (try dsimp only [ktrTop]); omega))
  k_with "m k_units" => (((have hcL9 := cLine_is); (try simp only [units_in1, units_deeper, Around.mark_units, units_caller]); (try dsimp only [ktrTop]); omega))
  k_with "my size" => (first | assumption | ((try simp only [List.length_map, List.length_append, List.length_cons, List.length_nil, hexL_length, toI_length, mkS_length]); omega))
  k_with "my enter" => ((refine' code_def ?zzk1 ?zzk2 ?zzk3 ?zzk4 ?zzk5 ?zzkA ?zzkF ?zzkK ?zzk6 ?zzk7 ?zzk8 ?zzk9 ?zzkB ?_ ?zzc2 ?zzc3 ?zzc4 ?zzc5; (case zzkA => exact rfl); (case zzkF => exact rfl); (case zzkK => assumption); (case zzk1 => k_asm); (case zzk2 => k_asm); (case zzk3 => k_asm); (case zzk4 => k_asm); (case zzk5 => k_asm); (case zzk6 => k_is); (case zzk7 => k_is); (case zzk8 => k_room); (case zzk9 => first | exact BindsTo.of_eq rfl | exact binds_K (by k_in) rfl (by k_is) rfl rfl rfl); (case zzc5 => decide); (case zzkB => exact locs rfl); (case zzc2 => exact rfl); (case zzc3 => exact rfl); (case zzc4 => exact rfl); k_whole; intro g' L' h' FG' F' N' B' X' T'; (try dsimp only); (try k_lift B'); (try k_fold)))
  k_with "call type:type" => ((k_here; (with_reducible show wpAny _ _ (call (Value.type "type") [Value.bytes _ _]) _ _ _); refine call_type_bytes ?_))
  k_with "getMethod bytes" => ((k_here; first | (with_reducible refine meth_hex ?_) | (with_reducible refine meth_upper ?_) | (with_reducible refine meth_translate ?_)))
  k_with "getMethod str" => ((k_here; (with_reducible refine meth_encode ?_)))
  k_with "getMethod ref" => ((k_here; (with_reducible show wpAny _ _ (getMethod _ (Str.ofString "search") _) _ _ _); (refine' meth_searchK ?zzkF ?zzkX ?_; (case zzkF => k_asm); (case zzkX => k_asm))))
  k_with "getMethod type:bytes" => ((k_here; refine' method_type ?zzF ?zzX ?zzm (by decide +kernel) ?zze ?zzh ?_; (case zzF => k_asm); (case zzX => k_asm); (case zzm => exact meta_bytes); (case zze => k_dflt k_is); (case zzh => k_handed)))
  k_with "call builtin:bytes.hex" => ((k_here; (refine' call_hexL ?zzki ?zzkz ?_; (case zzki => assumption); (case zzkz => walk_at "my size")); intro t9 k9))
  k_with "call builtin:bytes.upper" => ((k_here; (refine' call_upperL ?zzki ?zzkz ?_; (case zzki => assumption); (case zzkz => walk_at "my size")); intro t9 k9 hIn9))
  k_with "call builtin:bytes.translate" => ((k_here; (refine' call_translateL ?zzki ?zzkz ?zzkt ?_; (case zzki => assumption); (case zzkz => walk_at "my size"); (case zzkt => first | with_reducible exact mkTab_size _ _ | rfl)); intro t9 k9 hIn9))
  k_with "call builtin:bytes.maketrans" => ((k_here; (refine' call_maketrans ?zzki ?_; (case zzki => rfl)); intro t9 k9))
  k_with "call builtin:str.encode" => ((k_here; (refine' call_encodeL ?zzka ?zzkz ?_; (case zzka => first | assumption | exact asc_hexL (by assumption)); (case zzkz => walk_at "my size")); intro t9 k9 hIn9))
  k_with "call builtin:re.Pattern.search" => ((k_here; (refine' search_noneK ?zzkF ?zzkX ?zzki ?zzkz ?zzkh ?_; (case zzkF => k_asm); (case zzkX => k_asm); (case zzki => assumption); (case zzkz => walk_at "my size"); (case zzkh => assumption))))
  k_with "call builtin:re.Pattern.search" => ((k_here; (refine' search_someK ?zzkF ?zzkN ?zzkX ?zzki ?zzkz ?zzkh ?_; (case zzkF => k_asm); (case zzkN => k_asm); (case zzkX => k_asm); (case zzki => assumption); (case zzkz => walk_at "my size"); (case zzkh => assumption)); intro x9 vs9 h' F' N' l1; (try k_lt l1); (try k_sweep)))
  k_with "truthy ref" => ((k_here; (refine' truthy_matchK ?zzkN ?zzkm ?_; (case zzkN => k_asm); (case zzkm => k_mem))))
  k_with "m k_intsEnd" => (exact IntsAre.nil)
  k_with "my frame" => (first | k_asm | ((rename News _ _ _ _ => nE'); exact cb_drop nE' (by intro p hp; kst_mem)))
  k_with "m kba_in" => (walk_at "my in")
  k_with "my in" => (first | assumption | (refine' in_snoc ?zzki ?zzka ?zzkb; (case zzka => omega); (case zzkb => omega); (case zzki => walk_at "my in")))
  k_with "m kst_in" => (((try dsimp only); walk_at "my led"))
  k_with "my led" => (first | exact List.forall_mem_nil _ | (refine' List.forall_mem_cons.mpr ⟨?zzla, ?zzlb⟩; (case zzla => walk_at "my mem"); (case zzlb => walk_at "my led")) | (intro p hp; kst_mem))
  k_with "my mem" => (first | exact List.Mem.head _ | (refine List.Mem.tail _ ?_; walk_at "my mem"))
  k_with "call type:bytes" => ((k_here; (with_reducible show wpAny _ _ (call (Value.type "bytes") [Value.ref _]) _ _ _); (rename News _ _ _ _ => nE'); (try simp only [List.push_toArray] at nE'); (refine' make_bytes ?zzkF nE' ?zzkm ?zzkh ?zzki ?zzkr ?zzkn ?_; (case zzkF => k_asm); (case zzkm => walk_at "my mem"); (case zzkh => rfl); (case zzki => k_intsEnd); (case zzkr => walk_at "my in"); (case zzkn => ((try simp only [List.length_append, List.length_cons, List.length_nil]); omega))); intro h' t' k' F' N' hIn'; (try k_sweep)))
  k_with "leaving ref" => ((k_here; first | (refine' leave_raiseS ?zzk1 ?zzk0 ?zzk2 ?zzk3 ?_; (case zzk0 => assumption); (case zzk2 => assumption); (case zzk1 => assumption); (case zzk3 => k_asm); k_whole; intro h' t' S' R' U'; (try dsimp only at S' R' U' ⊢)) | (refine' leave_onS ?zzk1 ?zzk2 ?zzk3 ?zzk4 ?_; (case zzk3 => assumption); (case zzk2 => assumption); (case zzk1 => assumption); (case zzk4 => assumption); k_whole; intro h' S' R' U'; (try dsimp only at S' R' U' ⊢))))
  k_with "my call" => (((case zzk1 => k_asm); (case zzk2 => k_asm); (case zzk3 => k_asm); (case zzk4 => k_asm); (case zzk5 => k_asm); (case zzk6 => exact rfl); (case zzkd => k_room); (case zzku => k_units)))
  k_with "call ref" => ((k_here; (with_reducible show wpAny _ _ (call (Value.ref 131) _ _) _ _ _); k_dflt (refine' a2b_hex_odd ?zzk1 ?zzk2 ?zzk3 ?zzk4 ?zzk5 ?zzk6 ?zzkd ?zzku _ _ ?zzkz ?zzki ?zzke ?_; (case zzki => assumption); (case zzkz => walk_at "my size"); (case zzke => assumption); walk_at "my call"); intro e9 t9 vs9 g9 h9 k9 F9 R9 U9; (try dsimp only)))
  k_with "call ref" => ((k_here; (with_reducible show wpAny _ _ (call (Value.ref 131) _ _) _ _ _); k_dflt (refine' a2b_hex ?zzk1 ?zzk2 ?zzk3 ?zzk4 ?zzk5 ?zzk6 ?zzkd ?zzku _ _ ?zzkz ?zzki ?zzke ?zzkv ?_; (case zzki => assumption); (case zzkz => walk_at "my size"); (case zzke => first | assumption | (rw [List.length_map]; assumption)); (case zzkv => exact hexUp_hv (by assumption) (by assumption)); walk_at "my call"); intro t9 h9 k9 F9 N9; (try dsimp only); (try k_sweep); (try k_fold)))
  k_fill
  exact ⟨rfl, rfl⟩

section
variable {prog : Program} {w : World} {p : Program} {loose : List Str} {mean : ExcName → Option Value} {mg mb : Str → Option Value}
  {dp un : Nat} {gd : Option (List Code)} {cn : Str} {cs : Scope} {a : Addr} {ccd : Value} {cl : List (Str × Addr)} {outer : List Env} {A₀ : Around} {base h₀ : Heap} {L : Addr} {m : Str → Option Value}
  {news : List (Addr × Obj)} {s : Shared} {Q E : Value → Shared → Prop}

theorem hexUp_hv {ns : List Int} (hIn : KBa.In ns) (h : ∀ n ∈ ns, isHexUp n.toNat = true) : ∀ n ∈ ns, hexV n < 16 := by
  intro n hn
  have h1 := h n hn
  have h2 := hIn n hn
  simp only [isHexUp, Bool.or_eq_true, Bool.and_eq_true, decide_eq_true_eq] at h1
  unfold hexV
  (repeat' split) <;> omega

theorem b16encode (B : Below A₀ base outer h₀) (F : Fr h₀ L s.heap m) (X : (Mine.hd.heap_39 w.params).In h₀) (N : News h₀ L s.heap news) (T : Top p loose mean mg mb h₀) (hk : cs.kind = .function)
    (hd : dp + 10 < recursionLimit) (hu : un + 80 < cLine) (ns : List Int) (t : Tok) (hz : ns.length ≤ 10000) (hIn : KBa.In ns)
    (h : ∀ t' h' tk', Fr h₀ L h' m → News h₀ L h' news → Q (.bytes (byteArr ((toI (hexL ns)).map upI)) t') { s with heap := h', toks := tk' }) :
    wpAny (model prog w) (ktrTop dp un gd cn cs L a ccd cl outer) (call (.ref 161) [.bytes (byteArr ns) t]) Q E s := by
  refine wpAny_call ?_
  k_dflt walk_at "my enter"
  k_steps
  · refine' ret_bytes (Q := Q) h ?e1 ?e2 ?e3
    case e1 => first | rfl | simp only [List.length_map, toI_length]
    all_goals walk_at "my frame"

theorem b16decode (B : Below A₀ base outer h₀) (F : Fr h₀ L s.heap m) (X : (Mine.hd.heap_39 w.params).In h₀) (N : News h₀ L s.heap news) (T : Top p loose mean mg mb h₀) (hk : cs.kind = .function)
    (hd : dp + 10 < recursionLimit) (hu : un + 80 < cLine) (xs : List Nat) (t : Tok) (hz : xs.length ≤ 10000) (ha : Asc xs) (hev : (toI xs).length % 2 = 0) (hx : ∀ n ∈ toI xs, isHexUp n.toNat = true)
    (h : ∀ t' h' tk', Fr h₀ L h' m → News h₀ L h' news → Q (.bytes (byteArr (unhexK (toI xs) (xs.length / 2))) t') { s with heap := h', toks := tk' }) :
    wpAny (model prog w) (ktrTop dp un gd cn cs L a ccd cl outer) (call (.ref 169) [.str (mkS xs) t]) Q E s := by
  refine wpAny_call ?_
  k_dflt walk_at "my enter"
  k_steps
  · refine' ret_bytes (Q := Q) h ?e1 ?e2 ?e3
    case e1 => first | rfl | simp only [List.length_map, toI_length]
    all_goals walk_at "my frame"

theorem b16decodeU (B : Below A₀ base outer h₀) (F : Fr h₀ L s.heap m) (X : (Mine.hd.heap_39 w.params).In h₀) (N : News h₀ L s.heap news) (T : Top p loose mean mg mb h₀) (hk : cs.kind = .function)
    (hd : dp + 10 < recursionLimit) (hu : un + 80 < cLine) (xs : List Nat) (t : Tok) (hz : xs.length ≤ 10000) (ha : Asc xs) (hev : (toI xs).length % 2 = 0) (hx : ∀ n ∈ (toI xs).map upI, isHexUp n.toNat = true)
    (h : ∀ t' h' tk', Fr h₀ L h' m → News h₀ L h' news → Q (.bytes (byteArr (unhexK ((toI xs).map upI) (xs.length / 2))) t') { s with heap := h', toks := tk' }) :
    wpAny (model prog w) (ktrTop dp un gd cn cs L a ccd cl outer) (call (.ref 169) [.str (mkS xs) t, .bool true]) Q E s := by
  refine wpAny_call ?_
  k_dflt walk_at "my enter"
  k_steps
  · refine' ret_bytes (Q := Q) h ?e1 ?e2 ?e3
    case e1 => first | rfl | simp only [List.length_map, toI_length]
    all_goals walk_at "my frame"

theorem b16decode_bad (B : Below A₀ base outer h₀) (F : Fr h₀ L s.heap m) (X : (Mine.hd.heap_39 w.params).In h₀) (N : News h₀ L s.heap news) (T : Top p loose mean mg mb h₀) (hk : cs.kind = .function)
    (hd : dp + 10 < recursionLimit) (hu : un + 80 < cLine) (xs : List Nat) (t : Tok) (hz : xs.length ≤ 10000) (ha : Asc xs) (hx : ∃ n ∈ toI xs, isHexUp n.toNat = false)
    (h : ∀ e t' vs g h' tk', Fr h₀ L g m → RaisedS base g (envX cn cs L a ccd cl :: outer) e (.ref 61) t' vs news h' → g.UpToSlots h' → E (.ref e) { s with heap := h', toks := tk' }) :
    wpAny (model prog w) (ktrTop dp un gd cn cs L a ccd cl outer) (call (.ref 169) [.str (mkS xs) t]) Q E s := by
  refine wpAny_call ?_
  k_dflt walk_at "my enter"
  k_steps
  · exact h _ _ _ _ _ _ (by assumption) (by first | assumption | exact raisedS_drop (by assumption) (by intro p hp; kst_mem)) (by assumption)

theorem b16decode_odd (B : Below A₀ base outer h₀) (F : Fr h₀ L s.heap m) (X : (Mine.hd.heap_39 w.params).In h₀) (N : News h₀ L s.heap news) (T : Top p loose mean mg mb h₀) (hk : cs.kind = .function)
    (hd : dp + 10 < recursionLimit) (hu : un + 80 < cLine) (xs : List Nat) (t : Tok) (hz : xs.length ≤ 10000) (ha : Asc xs) (hev : (toI xs).length % 2 = 1) (hx : ∀ n ∈ toI xs, isHexUp n.toNat = true)
    (h : ∀ e t' vs g h' tk', Fr h₀ L g m → RaisedS base g (envX cn cs L a ccd cl :: outer) e (.ref 61) t' vs news h' → g.UpToSlots h' → E (.ref e) { s with heap := h', toks := tk' }) :
    wpAny (model prog w) (ktrTop dp un gd cn cs L a ccd cl outer) (call (.ref 169) [.str (mkS xs) t]) Q E s := by
  refine wpAny_call ?_
  k_dflt walk_at "my enter"
  k_steps
  · exact h _ _ _ _ _ _ (by assumption) (by first | assumption | exact raisedS_drop (by assumption) (by intro p hp; kst_mem)) (by assumption)
end
end
section

theorem fill4 : PySem.Challenge.rw_xb0001_01 = PySem.Challenge.rw_xb0001_01 ∧ Mine.hd.heap_39 = Mine.hd.heap_39 := by
  k_with_none
  w_top off
  k_with "m k_room" => (((try simp only [depth_mark, depth_under_make, depth_under_kw, depth_in1, depth_deeper, depth_caller]); (try dsimp only [ktrTop]); omega))
  k_with "m k_units" => (((have hcL9 := cLine_is); (try simp only [units_in1, units_deeper, Around.mark_units, units_caller]); (try dsimp only [ktrTop]); omega))
  k_with "my size" => (first | assumption | ((try simp only [List.length_map, List.length_append, List.length_cons, List.length_nil, hexL_length, toI_length, mkS_length]); omega))
  k_with "my enter" => ((refine' code_def ?zzk1 ?zzk2 ?zzk3 ?zzk4 ?zzk5 ?zzkA ?zzkF ?zzkK ?zzk6 ?zzk7 ?zzk8 ?zzk9 ?zzkB ?_ ?zzc2 ?zzc3 ?zzc4 ?zzc5; (case zzkA => exact rfl); (case zzkF => exact rfl); (case zzkK => assumption); (case zzk1 => k_asm); (case zzk2 => k_asm); (case zzk3 => k_asm); (case zzk4 => k_asm); (case zzk5 => k_asm); (case zzk6 => k_is); (case zzk7 => k_is); (case zzk8 => k_room); (case zzk9 => first | exact BindsTo.of_eq rfl | exact binds_K (by k_in) rfl (by k_is) rfl rfl rfl); (case zzc5 => decide); (case zzkB => exact locs rfl); (case zzc2 => exact rfl); (case zzc3 => exact rfl); (case zzc4 => exact rfl); k_whole; intro g' L' h' FG' F' N' B' X' T'; (try dsimp only); (try k_lift B'); (try k_fold)))
  k_with "call type:type" => ((k_here; (with_reducible show wpAny _ _ (call (Value.type "type") [Value.bytes _ _]) _ _ _); refine call_type_bytes ?_))
  k_with "getMethod bytes" => ((k_here; first | (with_reducible refine meth_hex ?_) | (with_reducible refine meth_upper ?_) | (with_reducible refine meth_translate ?_)))
  k_with "getMethod str" => ((k_here; (with_reducible refine meth_encode ?_)))
  k_with "getMethod ref" => ((k_here; (with_reducible show wpAny _ _ (getMethod _ (Str.ofString "search") _) _ _ _); (refine' meth_searchK ?zzkF ?zzkX ?_; (case zzkF => k_asm); (case zzkX => k_asm))))
  k_with "getMethod type:bytes" => ((k_here; refine' method_type ?zzF ?zzX ?zzm (by decide +kernel) ?zze ?zzh ?_; (case zzF => k_asm); (case zzX => k_asm); (case zzm => exact meta_bytes); (case zze => k_dflt k_is); (case zzh => k_handed)))
  k_with "call builtin:bytes.hex" => ((k_here; (refine' call_hexL ?zzki ?zzkz ?_; (case zzki => assumption); (case zzkz => walk_at "my size")); intro t9 k9))
  k_with "call builtin:bytes.upper" => ((k_here; (refine' call_upperL ?zzki ?zzkz ?_; (case zzki => assumption); (case zzkz => walk_at "my size")); intro t9 k9 hIn9))
  k_with "call builtin:bytes.translate" => ((k_here; (refine' call_translateL ?zzki ?zzkz ?zzkt ?_; (case zzki => assumption); (case zzkz => walk_at "my size"); (case zzkt => first | with_reducible exact mkTab_size _ _ | rfl)); intro t9 k9 hIn9))
  k_with "call builtin:bytes.maketrans" => ((k_here; (refine' call_maketrans ?zzki ?_; (case zzki => rfl)); intro t9 k9))
  k_with "call builtin:str.encode" => ((k_here; (refine' call_encodeL ?zzka ?zzkz ?_; (case zzka => first | assumption | exact asc_hexL (by assumption)); (case zzkz => walk_at "my size")); intro t9 k9 hIn9))
  k_with "call builtin:re.Pattern.search" => ((k_here; (refine' search_noneK ?zzkF ?zzkX ?zzki ?zzkz ?zzkh ?_; (case zzkF => k_asm); (case zzkX => k_asm); (case zzki => assumption); (case zzkz => walk_at "my size"); (case zzkh => assumption))))
  k_with "call builtin:re.Pattern.search" => ((k_here; (refine' search_someK ?zzkF ?zzkN ?zzkX ?zzki ?zzkz ?zzkh ?_; (case zzkF => k_asm); (case zzkN => k_asm); (case zzkX => k_asm); (case zzki => assumption); (case zzkz => walk_at "my size"); (case zzkh => assumption)); intro x9 vs9 h' F' N' l1; (try k_lt l1); (try k_sweep)))
  k_with "truthy ref" => ((k_here; (refine' truthy_matchK ?zzkN ?zzkm ?_; (case zzkN => k_asm); (case zzkm => k_mem))))
  k_with "m k_intsEnd" => (exact IntsAre.nil)
  k_with "my frame" => (first | k_asm | ((rename News _ _ _ _ => nE'); exact cb_drop nE' (by intro p hp; kst_mem)))
  k_with "m kba_in" => (walk_at "my in")
  k_with "my in" => (first | assumption | (refine' in_snoc ?zzki ?zzka ?zzkb; (case zzka => omega); (case zzkb => omega); (case zzki => walk_at "my in")))
  k_with "m kst_in" => (((try dsimp only); walk_at "my led"))
  k_with "my led" => (first | exact List.forall_mem_nil _ | (refine' List.forall_mem_cons.mpr ⟨?zzla, ?zzlb⟩; (case zzla => walk_at "my mem"); (case zzlb => walk_at "my led")) | (intro p hp; kst_mem))
  k_with "my mem" => (first | exact List.Mem.head _ | (refine List.Mem.tail _ ?_; walk_at "my mem"))
  k_with "call type:bytes" => ((k_here; (with_reducible show wpAny _ _ (call (Value.type "bytes") [Value.ref _]) _ _ _); (rename News _ _ _ _ => nE'); (try simp only [List.push_toArray] at nE'); (refine' make_bytes ?zzkF nE' ?zzkm ?zzkh ?zzki ?zzkr ?zzkn ?_; (case zzkF => k_asm); (case zzkm => walk_at "my mem"); (case zzkh => rfl); (case zzki => k_intsEnd); (case zzkr => walk_at "my in"); (case zzkn => ((try simp only [List.length_append, List.length_cons, List.length_nil]); omega))); intro h' t' k' F' N' hIn'; (try k_sweep)))
  k_with "leaving ref" => ((k_here; first | (refine' leave_raiseS ?zzk1 ?zzk0 ?zzk2 ?zzk3 ?_; (case zzk0 => assumption); (case zzk2 => assumption); (case zzk1 => assumption); (case zzk3 => k_asm); k_whole; intro h' t' S' R' U'; (try dsimp only at S' R' U' ⊢)) | (refine' leave_onS ?zzk1 ?zzk2 ?zzk3 ?zzk4 ?_; (case zzk3 => assumption); (case zzk2 => assumption); (case zzk1 => assumption); (case zzk4 => assumption); k_whole; intro h' S' R' U'; (try dsimp only at S' R' U' ⊢))))
  k_with "my call" => (((case zzk1 => k_asm); (case zzk2 => k_asm); (case zzk3 => k_asm); (case zzk4 => k_asm); (case zzk5 => k_asm); (case zzk6 => exact rfl); (case zzkd => k_room); (case zzku => k_units)))
  k_with "binaryOp BitAnd int int" => ((k_here; first | (with_reducible refine and65535 ?_; intro t9 k9 q9 q8) | (with_reducible refine and63 ?_; intro t9 k9 q9 q8) | (with_reducible refine and15 ?_; intro t9 k9 q9 q8) | (with_reducible refine and3 ?_; intro t9 k9 q9 q8)))
  k_with "binaryOp LShift int int" => ((k_here; first | (with_reducible refine' shl8 ?zzka ?zzkb ?_; (case zzka => omega); (case zzkb => omega); intro t9 k9) | (with_reducible refine' shl6 ?zzka ?zzkb ?_; (case zzka => omega); (case zzkb => omega); intro t9 k9) | (with_reducible refine' shl4 ?zzka ?zzkb ?_; (case zzka => omega); (case zzkb => omega); intro t9 k9) | (with_reducible refine' shl2 ?zzka ?zzkb ?_; (case zzka => omega); (case zzkb => omega); intro t9 k9)))
  k_with "binaryOp RShift int int" => ((k_here; first | (refine' shr _ 4 ?zzka ?zzkb ?zzkc ?_; (case zzka => decide); (case zzkb => decide); (case zzkc => decide); intro t9 k9) | (refine' shr _ 16 ?zzka ?zzkb ?zzkc ?_; (case zzka => decide); (case zzkb => decide); (case zzkc => decide); intro t9 k9) | (refine' shr _ 64 ?zzka ?zzkb ?zzkc ?_; (case zzka => decide); (case zzkb => decide); (case zzkc => decide); intro t9 k9) | (refine' shr _ 1 ?zzka ?zzkb ?zzkc ?_; (case zzka => decide); (case zzkb => decide); (case zzkc => decide); intro t9 k9)))
  k_with "binaryOp BitOr int int" => ((k_here; first | (with_reducible refine' or256 ?zzka ?zzkb ?zzkc ?_; (case zzka => omega); (case zzkb => omega); (case zzkc => omega); intro t9 k9) | (with_reducible refine' or64 ?zzka ?zzkb ?zzkc ?_; (case zzka => omega); (case zzkb => omega); (case zzkc => omega); intro t9 k9) | (with_reducible refine' or16 ?zzka ?zzkb ?zzkc ?_; (case zzka => omega); (case zzkb => omega); (case zzkc => omega); intro t9 k9) | (with_reducible refine' or4 ?zzka ?zzkb ?zzkc ?_; (case zzka => omega); (case zzkb => omega); (case zzkc => omega); intro t9 k9)))
  k_with "subscriptTail Name BinOp bytes int" => ((k_here; (with_unfolding_all refine' item_b64 ?zzka ?zzkb ?_; (case zzka => omega); (case zzkb => omega)); intro t9 k9 q9 q8))
  k_fill
  exact ⟨rfl, rfl⟩

section
variable {prog : Program} {w : World} {p : Program} {loose : List Str} {mean : ExcName → Option Value} {mg mb : Str → Option Value}
  {dp un : Nat} {gd : Option (List Code)} {cn : Str} {cs : Scope} {a : Addr} {ccd : Value} {cl : List (Str × Addr)} {outer : List Env} {A₀ : Around} {base h₀ : Heap} {L : Addr} {m : Str → Option Value}
  {news : List (Addr × Obj)} {s : Shared} {Q E : Value → Shared → Prop}

def encStep (st : List Int × Int × Int) (b : Int) : List Int × Int × Int :=
  let c := (st.2.2 * 256 + b) % 65536
  if st.2.1 = 0 then (st.1 ++ [b64C (c / 4 % 64)], 2, c)
  else if st.2.1 = 2 then (st.1 ++ [b64C (c / 16 % 64)], 4, c)
  else (st.1 ++ [b64C (c / 64 % 64)] ++ [b64C (c / 1 % 64)], 0, c)
def encSt (ns : List Int) : List Int × Int × Int := ns.foldl encStep ([], 0, 0)
def encFin (st : List Int × Int × Int) : List Int :=
  if st.2.1 = 2 then st.1 ++ [b64C (st.2.2 % 4 * 16)] ++ [61] ++ [61] else if st.2.1 = 4 then st.1 ++ [b64C (st.2.2 % 16 * 4)] ++ [61] else st.1
def b64E (ns : List Int) : List Int := encFin (encSt ns)
structure EncInv (pre out : List Int) (lb lc : Int) : Prop where
  st : encSt pre = (out, lb, lc)
  lb : lb = 0 ∨ lb = 2 ∨ lb = 4
  lo : 0 ≤ lc
  hi : lc ≤ 65535
  inn : KBa.In out
  len : out.length ≤ 2 * pre.length
abbrev EncP (pre out : List Int) (lb lc : Int) : Prop := EncInv pre out lb lc ∧ (lb = 0 ∨ lb = 2 ∨ lb = 4) ∧ 0 ≤ lc ∧ lc ≤ 65535 ∧ KBa.In out ∧ out.length ≤ 2 * pre.length
theorem EncInv.all {pre out : List Int} {lb lc : Int} (h : EncInv pre out lb lc) : EncP pre out lb lc := ⟨h, h.lb, h.lo, h.hi, h.inn, h.len⟩
theorem EncInv.start : EncInv [] [] 0 0 := ⟨rfl, .inl rfl, by decide, by decide, fun _ h => (nomatch h), by decide⟩
theorem EncInv.fin0 {ns out : List Int} {lc : Int} (h : EncInv ns out 0 lc) : out = b64E ns := by
  unfold b64E
  rw [h.st]
  rfl
theorem EncInv.fin2 {ns out : List Int} {lc : Int} (h : EncInv ns out 2 lc) : out ++ [b64C (lc % 4 * 16)] ++ [61] ++ [61] = b64E ns := by
  unfold b64E
  rw [h.st]
  rfl
theorem EncInv.fin4 {ns out : List Int} {lc : Int} (h : EncInv ns out 4 lc) : out ++ [b64C (lc % 16 * 4)] ++ [61] = b64E ns := by
  unfold b64E
  rw [h.st]
  rfl
theorem EncInv.step {pre out : List Int} {lb lc n : Int} (h : EncInv pre out lb lc) : encSt (pre ++ [n]) = encStep (out, lb, lc) n := by
  unfold encSt
  rw [List.foldl_append]
  show encStep (encSt pre) n = _
  rw [h.st]
theorem EncInv.step0 {pre out out' : List Int} {lc n lb' lc' : Int} (h : EncInv pre out 0 lc) (e1 : out' = out ++ [b64C ((lc * 256 + n) % 65536 / 4 % 64)]) (e2 : lb' = 2) (e3 : lc' = (lc * 256 + n) % 65536) : EncInv (pre ++ [n]) out' lb' lc' := by
  subst e1 e2 e3
  exact ⟨h.step, .inr (.inl rfl), by omega, by omega, in_snoc h.inn (b64C_in _).1 (b64C_in _).2, by have := h.len; simp only [List.length_append, List.length_cons, List.length_nil]; omega⟩
theorem EncInv.step2 {pre out out' : List Int} {lc n lb' lc' : Int} (h : EncInv pre out 2 lc) (e1 : out' = out ++ [b64C ((lc * 256 + n) % 65536 / 16 % 64)]) (e2 : lb' = 4) (e3 : lc' = (lc * 256 + n) % 65536) : EncInv (pre ++ [n]) out' lb' lc' := by
  subst e1 e2 e3
  exact ⟨h.step, .inr (.inr rfl), by omega, by omega, in_snoc h.inn (b64C_in _).1 (b64C_in _).2, by have := h.len; simp only [List.length_append, List.length_cons, List.length_nil]; omega⟩
theorem EncInv.step4 {pre out out' : List Int} {lc n lb' lc' : Int} (h : EncInv pre out 4 lc) (e1 : out' = out ++ [b64C ((lc * 256 + n) % 65536 / 64 % 64)] ++ [b64C ((lc * 256 + n) % 65536 / 1 % 64)]) (e2 : lb' = 0) (e3 : lc' = (lc * 256 + n) % 65536) : EncInv (pre ++ [n]) out' lb' lc' := by
  subst e1 e2 e3
  exact ⟨h.step, .inl rfl, by omega, by omega, in_snoc (in_snoc h.inn (b64C_in _).1 (b64C_in _).2) (b64C_in _).1 (b64C_in _).2, by have := h.len; simp only [List.length_append, List.length_cons, List.length_nil]; omega⟩

theorem b2a_base64 (B : Below A₀ base outer h₀) (F : Fr h₀ L s.heap m) (X : (Mine.hd.heap_39 w.params).In h₀) (N : News h₀ L s.heap news) (T : Top p loose mean mg mb h₀) (hk : cs.kind = .function)
    (hd : dp + 5 < recursionLimit) (hu : un + 50 < cLine) (ns : List Int) (t : Tok) (hz : ns.length ≤ 10000) (hIn : KBa.In ns)
    (h : ∀ t' h' tk', Fr h₀ L h' m → News h₀ L h' news → Q (.bytes (byteArr (b64E ns)) t') { s with heap := h', toks := tk' }) :
    wpAny (model prog w) (ktrTop dp un gd cn cs L a ccd cl outer) (call (.ref 108) [.bytes (byteArr ns) t] [(Str.ofString "newline", .bool false)]) Q E s := by
  (k_with "pyIter bytes" => (k_state (fun pre out lb lc => EncP pre out lb lc) "out" "leftbits" "leftchar"; all_goals ((rename ((_ : Int) = 0 ∨ _ = 2 ∨ _ = 4) => hS9); rcases hS9 with hS9 | hS9 | hS9 <;> subst hS9)))
  (k_with "state" => first | exact EncInv.start.all | refine EncInv.all (EncInv.step0 (by with_reducible assumption) (by with_reducible rfl) (by omega) (by with_reducible rfl)) | refine EncInv.all (EncInv.step2 (by with_reducible assumption) (by with_reducible rfl) (by omega) (by with_reducible rfl)) | refine EncInv.all (EncInv.step4 (by with_reducible assumption) (by with_reducible rfl) (by omega) (by with_reducible rfl)))
  refine wpAny_call ?_
  k_dflt walk_at "my enter"
  k_steps
  · refine ret_bytes (Q := Q) h (EncInv.fin0 (by assumption)) ?_ ?_
    all_goals walk_at "my frame"
  · refine ret_bytes (Q := Q) h (EncInv.fin2 (by assumption)) ?_ ?_
    all_goals walk_at "my frame"
  · refine ret_bytes (Q := Q) h (EncInv.fin4 (by assumption)) ?_ ?_
    all_goals walk_at "my frame"
end
end
section

theorem fill5 : PySem.Challenge.rw_xb0001_01 = PySem.Challenge.rw_xb0001_01 ∧ Mine.hd.heap_39 = Mine.hd.heap_39 := by
  k_with_none
  w_top off
  k_with "m k_room" => (((try simp only [depth_mark, depth_under_make, depth_under_kw, depth_in1, depth_deeper, depth_caller]); (try dsimp only [ktrTop]); omega))
  k_with "m k_units" => (((have hcL9 := cLine_is); (try simp only [units_in1, units_deeper, Around.mark_units, units_caller]); (try dsimp only [ktrTop]); omega))
  k_with "my size" => (first | assumption | ((try simp only [List.length_map, List.length_append, List.length_cons, List.length_nil, hexL_length, toI_length, mkS_length]); omega))
  k_with "my enter" => ((refine' code_def ?zzk1 ?zzk2 ?zzk3 ?zzk4 ?zzk5 ?zzkA ?zzkF ?zzkK ?zzk6 ?zzk7 ?zzk8 ?zzk9 ?zzkB ?_ ?zzc2 ?zzc3 ?zzc4 ?zzc5; (case zzkA => exact rfl); (case zzkF => exact rfl); (case zzkK => assumption); (case zzk1 => k_asm); (case zzk2 => k_asm); (case zzk3 => k_asm); (case zzk4 => k_asm); (case zzk5 => k_asm); (case zzk6 => k_is); (case zzk7 => k_is); (case zzk8 => k_room); (case zzk9 => first | exact BindsTo.of_eq rfl | exact binds_K (by k_in) rfl (by k_is) rfl rfl rfl); (case zzc5 => decide); (case zzkB => exact locs rfl); (case zzc2 => exact rfl); (case zzc3 => exact rfl); (case zzc4 => exact rfl); k_whole; intro g' L' h' FG' F' N' B' X' T'; (try dsimp only); (try k_lift B'); (try k_fold)))
  k_with "call type:type" => ((k_here; (with_reducible show wpAny _ _ (call (Value.type "type") [Value.bytes _ _]) _ _ _); refine call_type_bytes ?_))
  k_with "getMethod bytes" => ((k_here; first | (with_reducible refine meth_hex ?_) | (with_reducible refine meth_upper ?_) | (with_reducible refine meth_translate ?_)))
  k_with "getMethod str" => ((k_here; (with_reducible refine meth_encode ?_)))
  k_with "getMethod ref" => ((k_here; (with_reducible show wpAny _ _ (getMethod _ (Str.ofString "search") _) _ _ _); (refine' meth_searchK ?zzkF ?zzkX ?_; (case zzkF => k_asm); (case zzkX => k_asm))))
  k_with "getMethod type:bytes" => ((k_here; refine' method_type ?zzF ?zzX ?zzm (by decide +kernel) ?zze ?zzh ?_; (case zzF => k_asm); (case zzX => k_asm); (case zzm => exact meta_bytes); (case zze => k_dflt k_is); (case zzh => k_handed)))
  k_with "call builtin:bytes.hex" => ((k_here; (refine' call_hexL ?zzki ?zzkz ?_; (case zzki => assumption); (case zzkz => walk_at "my size")); intro t9 k9))
  k_with "call builtin:bytes.upper" => ((k_here; (refine' call_upperL ?zzki ?zzkz ?_; (case zzki => assumption); (case zzkz => walk_at "my size")); intro t9 k9 hIn9))
  k_with "call builtin:bytes.translate" => ((k_here; (refine' call_translateL ?zzki ?zzkz ?zzkt ?_; (case zzki => assumption); (case zzkz => walk_at "my size"); (case zzkt => first | with_reducible exact mkTab_size _ _ | rfl)); intro t9 k9 hIn9))
  k_with "call builtin:bytes.maketrans" => ((k_here; (refine' call_maketrans ?zzki ?_; (case zzki => rfl)); intro t9 k9))
  k_with "call builtin:str.encode" => ((k_here; (refine' call_encodeL ?zzka ?zzkz ?_; (case zzka => first | assumption | exact asc_hexL (by assumption)); (case zzkz => walk_at "my size")); intro t9 k9 hIn9))
  k_with "call builtin:re.Pattern.search" => ((k_here; (refine' search_noneK ?zzkF ?zzkX ?zzki ?zzkz ?zzkh ?_; (case zzkF => k_asm); (case zzkX => k_asm); (case zzki => assumption); (case zzkz => walk_at "my size"); (case zzkh => assumption))))
  k_with "call builtin:re.Pattern.search" => ((k_here; (refine' search_someK ?zzkF ?zzkN ?zzkX ?zzki ?zzkz ?zzkh ?_; (case zzkF => k_asm); (case zzkN => k_asm); (case zzkX => k_asm); (case zzki => assumption); (case zzkz => walk_at "my size"); (case zzkh => assumption)); intro x9 vs9 h' F' N' l1; (try k_lt l1); (try k_sweep)))
  k_with "truthy ref" => ((k_here; (refine' truthy_matchK ?zzkN ?zzkm ?_; (case zzkN => k_asm); (case zzkm => k_mem))))
  k_with "m k_intsEnd" => (exact IntsAre.nil)
  k_with "my frame" => (first | k_asm | ((rename News _ _ _ _ => nE'); exact cb_drop nE' (by intro p hp; kst_mem)))
  k_with "m kba_in" => (walk_at "my in")
  k_with "my in" => (first | assumption | (refine' in_snoc ?zzki ?zzka ?zzkb; (case zzka => omega); (case zzkb => omega); (case zzki => walk_at "my in")))
  k_with "m kst_in" => (((try dsimp only); walk_at "my led"))
  k_with "my led" => (first | exact List.forall_mem_nil _ | (refine' List.forall_mem_cons.mpr ⟨?zzla, ?zzlb⟩; (case zzla => walk_at "my mem"); (case zzlb => walk_at "my led")) | (intro p hp; kst_mem))
  k_with "my mem" => (first | exact List.Mem.head _ | (refine List.Mem.tail _ ?_; walk_at "my mem"))
  k_with "call type:bytes" => ((k_here; (with_reducible show wpAny _ _ (call (Value.type "bytes") [Value.ref _]) _ _ _); (rename News _ _ _ _ => nE'); (try simp only [List.push_toArray] at nE'); (refine' make_bytes ?zzkF nE' ?zzkm ?zzkh ?zzki ?zzkr ?zzkn ?_; (case zzkF => k_asm); (case zzkm => walk_at "my mem"); (case zzkh => rfl); (case zzki => k_intsEnd); (case zzkr => walk_at "my in"); (case zzkn => ((try simp only [List.length_append, List.length_cons, List.length_nil]); omega))); intro h' t' k' F' N' hIn'; (try k_sweep)))
  k_with "leaving ref" => ((k_here; first | (refine' leave_raiseS ?zzk1 ?zzk0 ?zzk2 ?zzk3 ?_; (case zzk0 => assumption); (case zzk2 => assumption); (case zzk1 => assumption); (case zzk3 => k_asm); k_whole; intro h' t' S' R' U'; (try dsimp only at S' R' U' ⊢)) | (refine' leave_onS ?zzk1 ?zzk2 ?zzk3 ?zzk4 ?_; (case zzk3 => assumption); (case zzk2 => assumption); (case zzk1 => assumption); (case zzk4 => assumption); k_whole; intro h' S' R' U'; (try dsimp only at S' R' U' ⊢))))
  k_with "my call" => (((case zzk1 => k_asm); (case zzk2 => k_asm); (case zzk3 => k_asm); (case zzk4 => k_asm); (case zzk5 => k_asm); (case zzk6 => exact rfl); (case zzkd => k_room); (case zzku => k_units)))
  k_with "binaryOp BitAnd int int" => ((k_here; first | (with_reducible refine and65535 ?_; intro t9 k9 q9 q8) | (with_reducible refine and63 ?_; intro t9 k9 q9 q8) | (with_reducible refine and15 ?_; intro t9 k9 q9 q8) | (with_reducible refine and3 ?_; intro t9 k9 q9 q8)))
  k_with "binaryOp LShift int int" => ((k_here; first | (with_reducible refine' shl8 ?zzka ?zzkb ?_; (case zzka => omega); (case zzkb => omega); intro t9 k9) | (with_reducible refine' shl6 ?zzka ?zzkb ?_; (case zzka => omega); (case zzkb => omega); intro t9 k9) | (with_reducible refine' shl4 ?zzka ?zzkb ?_; (case zzka => omega); (case zzkb => omega); intro t9 k9) | (with_reducible refine' shl2 ?zzka ?zzkb ?_; (case zzka => omega); (case zzkb => omega); intro t9 k9)))
  k_with "binaryOp RShift int int" => ((k_here; first | (refine' shr _ 4 ?zzka ?zzkb ?zzkc ?_; (case zzka => decide); (case zzkb => decide); (case zzkc => decide); intro t9 k9) | (refine' shr _ 16 ?zzka ?zzkb ?zzkc ?_; (case zzka => decide); (case zzkb => decide); (case zzkc => decide); intro t9 k9) | (refine' shr _ 64 ?zzka ?zzkb ?zzkc ?_; (case zzka => decide); (case zzkb => decide); (case zzkc => decide); intro t9 k9) | (refine' shr _ 1 ?zzka ?zzkb ?zzkc ?_; (case zzka => decide); (case zzkb => decide); (case zzkc => decide); intro t9 k9)))
  k_with "binaryOp BitOr int int" => ((k_here; first | (with_reducible refine' or256 ?zzka ?zzkb ?zzkc ?_; (case zzka => omega); (case zzkb => omega); (case zzkc => omega); intro t9 k9) | (with_reducible refine' or64 ?zzka ?zzkb ?zzkc ?_; (case zzka => omega); (case zzkb => omega); (case zzkc => omega); intro t9 k9) | (with_reducible refine' or16 ?zzka ?zzkb ?zzkc ?_; (case zzka => omega); (case zzkb => omega); (case zzkc => omega); intro t9 k9) | (with_reducible refine' or4 ?zzka ?zzkb ?zzkc ?_; (case zzka => omega); (case zzkb => omega); (case zzkc => omega); intro t9 k9)))
  k_with "subscriptTail Name BinOp bytes int" => ((k_here; (with_unfolding_all refine' item_b64 ?zzka ?zzkb ?_; (case zzka => omega); (case zzkb => omega)); intro t9 k9 q9 q8))
  k_with "call ref" => ((k_here; (with_reducible show wpAny _ _ (call (Value.ref 92) _ _) _ _ _); k_dflt (refine' b64_value_in ?zzk1 ?zzk2 ?zzk3 ?zzk4 ?zzk5 ?zzk6 ?zzkd ?zzku _ _ ?_; walk_at "my call"); intro t9 h9 k9 q9 q8 F9 N9; (try dsimp only); (try k_sweep); (try k_fold)))
  k_with "binaryOp Mod str int" => ((k_here; exfalso; omega))
  k_fill
  exact ⟨rfl, rfl⟩

section
variable {prog : Program} {w : World} {p : Program} {loose : List Str} {mean : ExcName → Option Value} {mg mb : Str → Option Value}
  {dp un : Nat} {gd : Option (List Code)} {cn : Str} {cs : Scope} {a : Addr} {ccd : Value} {cl : List (Str × Addr)} {outer : List Env} {A₀ : Around} {base h₀ : Heap} {L : Addr} {m : Str → Option Value}
  {news : List (Addr × Obj)} {s : Shared} {Q E : Value → Shared → Prop}

abbrev DSt := List Int × Int × Int × Int
def decV (o : List Int) (q l v : Int) : DSt :=
  if q = 0 then (o, 1, v, 0) else if q = 1 then (o ++ [l * 4 + v / 16], 2, v % 16, 0) else if q = 2 then (o ++ [l * 16 + v / 4], 3, v % 4, 0) else (o ++ [l * 64 + v], 0, 0, 0)
def decN (st : DSt) (c : Int) : DSt :=
  if c = 61 then (st.1, st.2.1, st.2.2.1, st.2.2.2 + 1) else if 64 ≤ b64V c then st else decV st.1 st.2.1 st.2.2.1 (b64V c)
def decRunN (ns : List Int) : DSt := ns.foldl decN ([], 0, 0, 0)
def decS (st : DSt) (c : Int) : Option DSt :=
  if c = 61 then (if 2 ≤ st.2.1 ∧ st.2.1 + (st.2.2.2 + 1) ≤ 4 then some (st.1, st.2.1, st.2.2.1, st.2.2.2 + 1) else none)
  else if 64 ≤ b64V c then none else if st.2.2.2 ≠ 0 then none else some (decV st.1 st.2.1 st.2.2.1 (b64V c))
def decRunS (ns : List Int) : Option DSt := ns.foldlM decS ([], 0, 0, 0)
theorem b64V_lo (c : Int) : 0 ≤ b64V c := by unfold b64V; (repeat' split) <;> omega
theorem b64V_hi (c : Int) : b64V c ≤ 64 := by unfold b64V; (repeat' split) <;> omega
structure DOk (pre o : List Int) (q l p : Int) : Prop where
  q : q = 0 ∨ (q = 1 ∧ l < 64) ∨ (q = 2 ∧ l < 16) ∨ (q = 3 ∧ l < 4)
  lo : 0 ≤ l
  p : 0 ≤ p
  inn : KBa.In o
  len : o.length ≤ pre.length
abbrev DP (pre o : List Int) (q l p : Int) : Prop := DOk pre o q l p ∧ (q = 0 ∨ (q = 1 ∧ l < 64) ∨ (q = 2 ∧ l < 16) ∨ (q = 3 ∧ l < 4)) ∧ 0 ≤ l ∧ 0 ≤ p ∧ KBa.In o ∧ o.length ≤ pre.length
theorem DOk.all {pre o : List Int} {q l p : Int} (h : DOk pre o q l p) : DP pre o q l p := ⟨h, h.q, h.lo, h.p, h.inn, h.len⟩
theorem DOk.start : DOk [] [] 0 0 0 := ⟨.inl rfl, by decide, by decide, fun _ h => (nomatch h), by decide⟩
theorem len_snoc {o pre : List Int} {x n : Int} (h : o.length ≤ pre.length) : (o ++ [x]).length ≤ (pre ++ [n]).length := by
  simp only [List.length_append, List.length_cons, List.length_nil]; omega
theorem len_same {o pre : List Int} {n : Int} (h : o.length ≤ pre.length) : o.length ≤ (pre ++ [n]).length := by
  simp only [List.length_append, List.length_cons, List.length_nil]; omega
-- one step of the state: what a turn leaves
theorem DOk.pad {pre o : List Int} {q l p n : Int} (h : DOk pre o q l p) : DOk (pre ++ [n]) o q l (p + 1) := ⟨h.q, h.lo, by have := h.p; omega, h.inn, len_same h.len⟩
theorem DOk.same {pre o : List Int} {q l p n : Int} (h : DOk pre o q l p) : DOk (pre ++ [n]) o q l p := ⟨h.q, h.lo, h.p, h.inn, len_same h.len⟩
theorem DOk.v0 {pre o : List Int} {q l p n v : Int} (h : DOk pre o q l p) (hv : 0 ≤ v) (hv2 : v < 64) : DOk (pre ++ [n]) o 1 v 0 := ⟨.inr (.inl ⟨rfl, hv2⟩), hv, by decide, h.inn, len_same h.len⟩
theorem DOk.v1 {pre o : List Int} {q l p n v : Int} (h : DOk pre o q l p) (hq : q = 1) (hv : 0 ≤ v) (hv2 : v < 64) : DOk (pre ++ [n]) (o ++ [l * 4 + v / 16]) 2 (v % 16) 0 := by
  have h1 := h.q; have h2 := h.lo
  exact ⟨.inr (.inr (.inl ⟨rfl, by omega⟩)), by omega, by decide, in_snoc h.inn (by omega) (by omega), len_snoc h.len⟩
theorem DOk.v2 {pre o : List Int} {q l p n v : Int} (h : DOk pre o q l p) (hq : q = 2) (hv : 0 ≤ v) (hv2 : v < 64) : DOk (pre ++ [n]) (o ++ [l * 16 + v / 4]) 3 (v % 4) 0 := by
  have h1 := h.q; have h2 := h.lo
  exact ⟨.inr (.inr (.inr ⟨rfl, by omega⟩)), by omega, by decide, in_snoc h.inn (by omega) (by omega), len_snoc h.len⟩
theorem DOk.v3 {pre o : List Int} {q l p n v : Int} (h : DOk pre o q l p) (hq : q = 3) (hv : 0 ≤ v) (hv2 : v < 64) : DOk (pre ++ [n]) (o ++ [l * 64 + v]) 0 0 0 := by
  have h1 := h.q; have h2 := h.lo
  exact ⟨.inl rfl, by decide, by decide, in_snoc h.inn (by omega) (by omega), len_snoc h.len⟩
-- the run, not strict
theorem runN_snoc (pre : List Int) (n : Int) : decRunN (pre ++ [n]) = decN (decRunN pre) n := by unfold decRunN; rw [List.foldl_append]; rfl
abbrev DPN (pre o : List Int) (q l p : Int) : Prop := decRunN pre = (o, q, l, p) ∧ DP pre o q l p
theorem DPN.start : DPN [] [] 0 0 0 := ⟨rfl, DOk.start.all⟩
theorem DPN.pad {pre o o' : List Int} {q l p n q' l' p' : Int} (hr : decRunN pre = (o, q, l, p)) (h : DOk pre o q l p) (hc : n = 61) (e1 : o' = o) (e2 : q' = q) (e3 : l' = l) (e4 : p' = p + 1) : DPN (pre ++ [n]) o' q' l' p' := by
  subst e1 e2 e3 e4
  refine ⟨?_, h.pad.all⟩
  rw [runN_snoc, hr]; unfold decN; rw [if_pos hc]
theorem DPN.same {pre o o' : List Int} {q l p n q' l' p' : Int} (hr : decRunN pre = (o, q, l, p)) (h : DOk pre o q l p) (hc : ¬ n = 61) (hv : 64 ≤ b64V n) (e1 : o' = o) (e2 : q' = q) (e3 : l' = l) (e4 : p' = p) : DPN (pre ++ [n]) o' q' l' p' := by
  subst e1 e2 e3 e4
  refine ⟨?_, h.same.all⟩
  rw [runN_snoc, hr]; unfold decN; rw [if_neg hc, if_pos hv]
theorem DPN.v0 {pre o o' : List Int} {q l p n q' l' p' : Int} (hr : decRunN pre = (o, q, l, p)) (h : DOk pre o q l p) (hc : ¬ n = 61) (hv : ¬ 64 ≤ b64V n) (hq : q = 0) (e1 : o' = o) (e2 : q' = 1) (e3 : l' = b64V n) (e4 : p' = 0) : DPN (pre ++ [n]) o' q' l' p' := by
  subst e1 e2 e3 e4
  refine ⟨?_, (h.v0 (b64V_lo n) (by omega)).all⟩
  rw [runN_snoc, hr]; unfold decN decV; rw [if_neg hc, if_neg hv, if_pos hq]
theorem DPN.v1 {pre o o' : List Int} {q l p n q' l' p' : Int} (hr : decRunN pre = (o, q, l, p)) (h : DOk pre o q l p) (hc : ¬ n = 61) (hv : ¬ 64 ≤ b64V n) (hq : q = 1) (e1 : o' = o ++ [l * 4 + b64V n / 16]) (e2 : q' = 2) (e3 : l' = b64V n % 16) (e4 : p' = 0) : DPN (pre ++ [n]) o' q' l' p' := by
  subst e1 e2 e3 e4
  refine ⟨?_, (h.v1 hq (b64V_lo n) (by omega)).all⟩
  rw [runN_snoc, hr]; unfold decN decV; rw [if_neg hc, if_neg hv, if_neg (show ¬ q = 0 by omega), if_pos hq]
theorem DPN.v2 {pre o o' : List Int} {q l p n q' l' p' : Int} (hr : decRunN pre = (o, q, l, p)) (h : DOk pre o q l p) (hc : ¬ n = 61) (hv : ¬ 64 ≤ b64V n) (hq : q = 2) (e1 : o' = o ++ [l * 16 + b64V n / 4]) (e2 : q' = 3) (e3 : l' = b64V n % 4) (e4 : p' = 0) : DPN (pre ++ [n]) o' q' l' p' := by
  subst e1 e2 e3 e4
  refine ⟨?_, (h.v2 hq (b64V_lo n) (by omega)).all⟩
  rw [runN_snoc, hr]; unfold decN decV; rw [if_neg hc, if_neg hv, if_neg (show ¬ q = 0 by omega), if_neg (show ¬ q = 1 by omega), if_pos hq]
theorem DPN.v3 {pre o o' : List Int} {q l p n q' l' p' : Int} (hr : decRunN pre = (o, q, l, p)) (h : DOk pre o q l p) (hc : ¬ n = 61) (hv : ¬ 64 ≤ b64V n) (hq : q = 3) (e1 : o' = o ++ [l * 64 + b64V n]) (e2 : q' = 0) (e3 : l' = 0) (e4 : p' = 0) : DPN (pre ++ [n]) o' q' l' p' := by
  subst e1 e2 e3 e4
  refine ⟨?_, (h.v3 hq (b64V_lo n) (by omega)).all⟩
  rw [runN_snoc, hr]; unfold decN decV; rw [if_neg hc, if_neg hv, if_neg (show ¬ q = 0 by omega), if_neg (show ¬ q = 1 by omega), if_neg (show ¬ q = 2 by omega)]
theorem DSt.inj {o o' : List Int} {q q' l l' p p' : Int} (e : (o, q, l, p) = (o', q', l', p')) : o = o' ∧ q = q' ∧ l = l' ∧ p = p' := by
  simpa using e

theorem b64_value_in (B : Below A₀ base outer h₀) (F : Fr h₀ L s.heap m) (X : (Mine.hd.heap_39 w.params).In h₀) (N : News h₀ L s.heap news) (T : Top p loose mean mg mb h₀) (hk : cs.kind = .function)
    (hd : dp + 2 < recursionLimit) (hu : un + 20 < cLine) (c : Int) (t : Tok)
    (h : ∀ t' h' tk', 0 ≤ b64V c → b64V c ≤ 64 → Fr h₀ L h' m → News h₀ L h' news → Q (.int (b64V c) t') { s with heap := h', toks := tk' }) :
    wpAny (model prog w) (ktrTop dp un gd cn cs L a ccd cl outer) (call (.ref 92) [.int c t]) Q E s :=
  b64_value B F X N T hk hd hu c t fun t' h' tk' => h t' h' tk' (b64V_lo c) (b64V_hi c)

theorem a2b_base64 (B : Below A₀ base outer h₀) (F : Fr h₀ L s.heap m) (X : (Mine.hd.heap_39 w.params).In h₀) (N : News h₀ L s.heap news) (T : Top p loose mean mg mb h₀) (hk : cs.kind = .function)
    (hd : dp + 5 < recursionLimit) (hu : un + 50 < cLine) (ns : List Int) (t : Tok) (hz : ns.length ≤ 10000) (hIn : KBa.In ns) (o : List Int) (q l p9 : Int) (hrun : decRunN ns = (o, q, l, p9)) (hq1 : q = 0 ∨ 2 ≤ q)
    (h : ∀ t' h' tk', (q = 0 ∨ 4 ≤ q + p9) → Fr h₀ L h' m → News h₀ L h' news → Q (.bytes (byteArr o) t') { s with heap := h', toks := tk' })
    (he : ∀ e t' vs g h' tk', q ≠ 0 → q + p9 < 4 → Fr h₀ L g m → RaisedS base g (envX cn cs L a ccd cl :: outer) e (.ref 61) t' vs news h' → g.UpToSlots h' → E (.ref e) { s with heap := h', toks := tk' }) :
    wpAny (model prog w) (ktrTop dp un gd cn cs L a ccd cl outer) (call (.ref 100) [.bytes (byteArr ns) t] [(Str.ofString "strict_mode", .bool false)]) Q E s := by
  (k_with "pyIter bytes" => (k_state (fun pre o q l p i => DPN pre o q l p) "out" "quad_pos" "leftchar" "pads" "i"; rotate_left; (have e9 := DSt.inj (hrun.symm.trans (by assumption)); obtain ⟨e1, e2, e3, e4⟩ := e9; subst e1 e2 e3 e4); rotate_left))
  (k_with "state" => first | exact DPN.start | refine DPN.pad (by with_reducible assumption) (by with_reducible assumption) (by omega) (by with_reducible rfl) (by with_reducible rfl) (by with_reducible rfl) (by with_reducible rfl) | refine DPN.same (by with_reducible assumption) (by with_reducible assumption) (by omega) (by omega) (by with_reducible rfl) (by with_reducible rfl) (by with_reducible rfl) (by with_reducible rfl) | refine DPN.v0 (by with_reducible assumption) (by with_reducible assumption) (by omega) (by omega) (by omega) (by with_reducible rfl) (by with_reducible rfl) (by with_reducible rfl) (by with_reducible rfl) | refine DPN.v1 (by with_reducible assumption) (by with_reducible assumption) (by omega) (by omega) (by omega) (by with_reducible rfl) (by with_reducible rfl) (by with_reducible rfl) (by with_reducible rfl) | refine DPN.v2 (by with_reducible assumption) (by with_reducible assumption) (by omega) (by omega) (by omega) (by with_reducible rfl) (by with_reducible rfl) (by with_reducible rfl) (by with_reducible rfl) | refine DPN.v3 (by with_reducible assumption) (by with_reducible assumption) (by omega) (by omega) (by omega) (by with_reducible rfl) (by with_reducible rfl) (by with_reducible rfl) (by with_reducible rfl))
  refine wpAny_call ?_
  k_dflt walk_at "my enter"
  k_steps
  · exact he _ _ _ _ _ _ (by omega) (by omega) (by assumption) (by first | assumption | exact raisedS_drop (by assumption) (by intro p hp; kst_mem)) (by assumption)
  all_goals (refine ret_bytes (Q := Q) (fun t' h' tk' => h t' h' tk' (by omega)) rfl ?_ ?_ <;> walk_at "my frame")
end
end
section

theorem fill6 : PySem.Challenge.rw_xb0001_01 = PySem.Challenge.rw_xb0001_01 ∧ Mine.hd.heap_39 = Mine.hd.heap_39 := by
  k_with_none
  w_top off
  k_with "m k_room" => (((try simp only [depth_mark, depth_under_make, depth_under_kw, depth_in1, depth_deeper, depth_caller]); (try dsimp only [ktrTop]); omega))
  k_with "m k_units" => (((have hcL9 := cLine_is); (try simp only [units_in1, units_deeper, Around.mark_units, units_caller]); (try dsimp only [ktrTop]); omega))
  k_with "my size" => (first | assumption | ((try simp only [List.length_map, List.length_append, List.length_cons, List.length_nil, hexL_length, toI_length, mkS_length]); omega))
  k_with "my enter" => ((refine' code_def ?zzk1 ?zzk2 ?zzk3 ?zzk4 ?zzk5 ?zzkA ?zzkF ?zzkK ?zzk6 ?zzk7 ?zzk8 ?zzk9 ?zzkB ?_ ?zzc2 ?zzc3 ?zzc4 ?zzc5; (case zzkA => exact rfl); (case zzkF => exact rfl); (case zzkK => assumption); (case zzk1 => k_asm); (case zzk2 => k_asm); (case zzk3 => k_asm); (case zzk4 => k_asm); (case zzk5 => k_asm); (case zzk6 => k_is); (case zzk7 => k_is); (case zzk8 => k_room); (case zzk9 => first | exact BindsTo.of_eq rfl | exact binds_K (by k_in) rfl (by k_is) rfl rfl rfl); (case zzc5 => decide); (case zzkB => exact locs rfl); (case zzc2 => exact rfl); (case zzc3 => exact rfl); (case zzc4 => exact rfl); k_whole; intro g' L' h' FG' F' N' B' X' T'; (try dsimp only); (try k_lift B'); (try k_fold)))
  k_with "call type:type" => ((k_here; (with_reducible show wpAny _ _ (call (Value.type "type") [Value.bytes _ _]) _ _ _); refine call_type_bytes ?_))
  k_with "getMethod bytes" => ((k_here; first | (with_reducible refine meth_hex ?_) | (with_reducible refine meth_upper ?_) | (with_reducible refine meth_translate ?_)))
  k_with "getMethod str" => ((k_here; (with_reducible refine meth_encode ?_)))
  k_with "getMethod ref" => ((k_here; (with_reducible show wpAny _ _ (getMethod _ (Str.ofString "search") _) _ _ _); (refine' meth_searchK ?zzkF ?zzkX ?_; (case zzkF => k_asm); (case zzkX => k_asm))))
  k_with "getMethod type:bytes" => ((k_here; refine' method_type ?zzF ?zzX ?zzm (by decide +kernel) ?zze ?zzh ?_; (case zzF => k_asm); (case zzX => k_asm); (case zzm => exact meta_bytes); (case zze => k_dflt k_is); (case zzh => k_handed)))
  k_with "call builtin:bytes.hex" => ((k_here; (refine' call_hexL ?zzki ?zzkz ?_; (case zzki => assumption); (case zzkz => walk_at "my size")); intro t9 k9))
  k_with "call builtin:bytes.upper" => ((k_here; (refine' call_upperL ?zzki ?zzkz ?_; (case zzki => assumption); (case zzkz => walk_at "my size")); intro t9 k9 hIn9))
  k_with "call builtin:bytes.translate" => ((k_here; (refine' call_translateL ?zzki ?zzkz ?zzkt ?_; (case zzki => assumption); (case zzkz => walk_at "my size"); (case zzkt => first | with_reducible exact mkTab_size _ _ | rfl)); intro t9 k9 hIn9))
  k_with "call builtin:bytes.maketrans" => ((k_here; (refine' call_maketrans ?zzki ?_; (case zzki => rfl)); intro t9 k9))
  k_with "call builtin:str.encode" => ((k_here; (refine' call_encodeL ?zzka ?zzkz ?_; (case zzka => first | assumption | exact asc_hexL (by assumption)); (case zzkz => walk_at "my size")); intro t9 k9 hIn9))
  k_with "call builtin:re.Pattern.search" => ((k_here; (refine' search_noneK ?zzkF ?zzkX ?zzki ?zzkz ?zzkh ?_; (case zzkF => k_asm); (case zzkX => k_asm); (case zzki => assumption); (case zzkz => walk_at "my size"); (case zzkh => assumption))))
  k_with "call builtin:re.Pattern.search" => ((k_here; (refine' search_someK ?zzkF ?zzkN ?zzkX ?zzki ?zzkz ?zzkh ?_; (case zzkF => k_asm); (case zzkN => k_asm); (case zzkX => k_asm); (case zzki => assumption); (case zzkz => walk_at "my size"); (case zzkh => assumption)); intro x9 vs9 h' F' N' l1; (try k_lt l1); (try k_sweep)))
  k_with "truthy ref" => ((k_here; (refine' truthy_matchK ?zzkN ?zzkm ?_; (case zzkN => k_asm); (case zzkm => k_mem))))
  k_with "m k_intsEnd" => (exact IntsAre.nil)
  k_with "my frame" => (first | k_asm | ((rename News _ _ _ _ => nE'); exact cb_drop nE' (by intro p hp; kst_mem)))
  k_with "m kba_in" => (walk_at "my in")
  k_with "my in" => (first | assumption | (refine' in_snoc ?zzki ?zzka ?zzkb; (case zzka => omega); (case zzkb => omega); (case zzki => walk_at "my in")))
  k_with "m kst_in" => (((try dsimp only); walk_at "my led"))
  k_with "my led" => (first | exact List.forall_mem_nil _ | (refine' List.forall_mem_cons.mpr ⟨?zzla, ?zzlb⟩; (case zzla => walk_at "my mem"); (case zzlb => walk_at "my led")) | (intro p hp; kst_mem))
  k_with "my mem" => (first | exact List.Mem.head _ | (refine List.Mem.tail _ ?_; walk_at "my mem"))
  k_with "call type:bytes" => ((k_here; (with_reducible show wpAny _ _ (call (Value.type "bytes") [Value.ref _]) _ _ _); (rename News _ _ _ _ => nE'); (try simp only [List.push_toArray] at nE'); (refine' make_bytes ?zzkF nE' ?zzkm ?zzkh ?zzki ?zzkr ?zzkn ?_; (case zzkF => k_asm); (case zzkm => walk_at "my mem"); (case zzkh => rfl); (case zzki => k_intsEnd); (case zzkr => walk_at "my in"); (case zzkn => ((try simp only [List.length_append, List.length_cons, List.length_nil]); omega))); intro h' t' k' F' N' hIn'; (try k_sweep)))
  k_with "leaving ref" => ((k_here; first | (refine' leave_raiseS ?zzk1 ?zzk0 ?zzk2 ?zzk3 ?_; (case zzk0 => assumption); (case zzk2 => assumption); (case zzk1 => assumption); (case zzk3 => k_asm); k_whole; intro h' t' S' R' U'; (try dsimp only at S' R' U' ⊢)) | (refine' leave_onS ?zzk1 ?zzk2 ?zzk3 ?zzk4 ?_; (case zzk3 => assumption); (case zzk2 => assumption); (case zzk1 => assumption); (case zzk4 => assumption); k_whole; intro h' S' R' U'; (try dsimp only at S' R' U' ⊢))))
  k_with "my call" => (((case zzk1 => k_asm); (case zzk2 => k_asm); (case zzk3 => k_asm); (case zzk4 => k_asm); (case zzk5 => k_asm); (case zzk6 => exact rfl); (case zzkd => k_room); (case zzku => k_units)))
  k_with "binaryOp BitAnd int int" => ((k_here; first | (with_reducible refine and65535 ?_; intro t9 k9 q9 q8) | (with_reducible refine and63 ?_; intro t9 k9 q9 q8) | (with_reducible refine and15 ?_; intro t9 k9 q9 q8) | (with_reducible refine and3 ?_; intro t9 k9 q9 q8)))
  k_with "binaryOp LShift int int" => ((k_here; first | (with_reducible refine' shl8 ?zzka ?zzkb ?_; (case zzka => omega); (case zzkb => omega); intro t9 k9) | (with_reducible refine' shl6 ?zzka ?zzkb ?_; (case zzka => omega); (case zzkb => omega); intro t9 k9) | (with_reducible refine' shl4 ?zzka ?zzkb ?_; (case zzka => omega); (case zzkb => omega); intro t9 k9) | (with_reducible refine' shl2 ?zzka ?zzkb ?_; (case zzka => omega); (case zzkb => omega); intro t9 k9)))
  k_with "binaryOp RShift int int" => ((k_here; first | (refine' shr _ 4 ?zzka ?zzkb ?zzkc ?_; (case zzka => decide); (case zzkb => decide); (case zzkc => decide); intro t9 k9) | (refine' shr _ 16 ?zzka ?zzkb ?zzkc ?_; (case zzka => decide); (case zzkb => decide); (case zzkc => decide); intro t9 k9) | (refine' shr _ 64 ?zzka ?zzkb ?zzkc ?_; (case zzka => decide); (case zzkb => decide); (case zzkc => decide); intro t9 k9) | (refine' shr _ 1 ?zzka ?zzkb ?zzkc ?_; (case zzka => decide); (case zzkb => decide); (case zzkc => decide); intro t9 k9)))
  k_with "binaryOp BitOr int int" => ((k_here; first | (with_reducible refine' or256 ?zzka ?zzkb ?zzkc ?_; (case zzka => omega); (case zzkb => omega); (case zzkc => omega); intro t9 k9) | (with_reducible refine' or64 ?zzka ?zzkb ?zzkc ?_; (case zzka => omega); (case zzkb => omega); (case zzkc => omega); intro t9 k9) | (with_reducible refine' or16 ?zzka ?zzkb ?zzkc ?_; (case zzka => omega); (case zzkb => omega); (case zzkc => omega); intro t9 k9) | (with_reducible refine' or4 ?zzka ?zzkb ?zzkc ?_; (case zzka => omega); (case zzkb => omega); (case zzkc => omega); intro t9 k9)))
  k_with "subscriptTail Name BinOp bytes int" => ((k_here; (with_unfolding_all refine' item_b64 ?zzka ?zzkb ?_; (case zzka => omega); (case zzkb => omega)); intro t9 k9 q9 q8))
  k_with "call ref" => ((k_here; (with_reducible show wpAny _ _ (call (Value.ref 92) _ _) _ _ _); k_dflt (refine' b64_value_in ?zzk1 ?zzk2 ?zzk3 ?zzk4 ?zzk5 ?zzk6 ?zzkd ?zzku _ _ ?_; walk_at "my call"); intro t9 h9 k9 q9 q8 F9 N9; (try dsimp only); (try k_sweep); (try k_fold)))
  k_with "binaryOp Mod str int" => ((k_here; exfalso; omega))
  k_fill
  exact ⟨rfl, rfl⟩

section
variable {prog : Program} {w : World} {p : Program} {loose : List Str} {mean : ExcName → Option Value} {mg mb : Str → Option Value}
  {dp un : Nat} {gd : Option (List Code)} {cn : Str} {cs : Scope} {a : Addr} {ccd : Value} {cl : List (Str × Addr)} {outer : List Env} {A₀ : Around} {base h₀ : Heap} {L : Addr} {m : Str → Option Value}
  {news : List (Addr × Obj)} {s : Shared} {Q E : Value → Shared → Prop}

theorem runS_snoc {pre : List Int} {n : Int} {st : DSt} (h : decRunS pre = some st) : decRunS (pre ++ [n]) = decS st n := by
  unfold decRunS at h ⊢
  rw [List.foldlM_append, h]
  show (List.foldlM decS st [n]) = _
  rw [List.foldlM_cons]
  show (decS st n >>= fun s' => List.foldlM decS s' []) = _
  cases decS st n <;> rfl
theorem runS_turn {ns pre post : List Int} {n q l p : Int} {o : List Int} {fin : DSt} (hr : decRunS ns = some fin) (he : ns = pre ++ n :: post) (h : decRunS pre = some (o, q, l, p)) :
    (n = 61 ∧ 2 ≤ q ∧ q + (p + 1) ≤ 4) ∨ (¬ n = 61 ∧ ¬ 64 ≤ b64V n ∧ p = 0) := by
  subst he
  unfold decRunS at h hr
  rw [List.foldlM_append, h] at hr
  have hr' : (decS (o, q, l, p) n >>= fun s' => List.foldlM decS s' post) = some fin := by
    rw [← hr]; exact (List.foldlM_cons ..).symm
  cases hd : decS (o, q, l, p) n with
  | none => rw [hd] at hr'; cases hr'
  | some st =>
    unfold decS at hd
    dsimp only at hd
    split at hd
    · split at hd
      · exact .inl ⟨by assumption, by omega, by omega⟩
      · cases hd
    · split at hd
      · cases hd
      · split at hd
        · cases hd
        · exact .inr ⟨by assumption, by assumption, by omega⟩
abbrev DPS (pre o : List Int) (q l p i : Int) : Prop := decRunS pre = some (o, q, l, p) ∧ DP pre o q l p
theorem DPS.start : DPS [] [] 0 0 0 0 := ⟨rfl, DOk.start.all⟩
theorem DPS.pad {pre o o' : List Int} {q l p n q' l' p' i' : Int} (hr : decRunS pre = some (o, q, l, p)) (h : DOk pre o q l p) (hc : n = 61) (h2 : 2 ≤ q) (h4 : q + (p + 1) ≤ 4) (e1 : o' = o) (e2 : q' = q) (e3 : l' = l) (e4 : p' = p + 1) : DPS (pre ++ [n]) o' q' l' p' i' := by
  subst e1 e2 e3 e4
  refine ⟨?_, h.pad.all⟩
  rw [runS_snoc hr]; unfold decS; rw [if_pos hc, if_pos ⟨h2, h4⟩]
theorem DPS.v0 {pre o o' : List Int} {q l p n q' l' p' i' : Int} (hr : decRunS pre = some (o, q, l, p)) (h : DOk pre o q l p) (hc : ¬ n = 61) (hv : ¬ 64 ≤ b64V n) (hp : p = 0) (hq : q = 0) (e1 : o' = o) (e2 : q' = 1) (e3 : l' = b64V n) (e4 : p' = 0) : DPS (pre ++ [n]) o' q' l' p' i' := by
  subst e1 e2 e3 e4
  refine ⟨?_, (h.v0 (b64V_lo n) (by omega)).all⟩
  rw [runS_snoc hr]; unfold decS decV; rw [if_neg hc, if_neg hv, if_neg (fun z => z hp), if_pos hq]
theorem DPS.v1 {pre o o' : List Int} {q l p n q' l' p' i' : Int} (hr : decRunS pre = some (o, q, l, p)) (h : DOk pre o q l p) (hc : ¬ n = 61) (hv : ¬ 64 ≤ b64V n) (hp : p = 0) (hq : q = 1) (e1 : o' = o ++ [l * 4 + b64V n / 16]) (e2 : q' = 2) (e3 : l' = b64V n % 16) (e4 : p' = 0) : DPS (pre ++ [n]) o' q' l' p' i' := by
  subst e1 e2 e3 e4
  refine ⟨?_, (h.v1 hq (b64V_lo n) (by omega)).all⟩
  rw [runS_snoc hr]; unfold decS decV; rw [if_neg hc, if_neg hv, if_neg (fun z => z hp), if_neg (show ¬ q = 0 by omega), if_pos hq]
theorem DPS.v2 {pre o o' : List Int} {q l p n q' l' p' i' : Int} (hr : decRunS pre = some (o, q, l, p)) (h : DOk pre o q l p) (hc : ¬ n = 61) (hv : ¬ 64 ≤ b64V n) (hp : p = 0) (hq : q = 2) (e1 : o' = o ++ [l * 16 + b64V n / 4]) (e2 : q' = 3) (e3 : l' = b64V n % 4) (e4 : p' = 0) : DPS (pre ++ [n]) o' q' l' p' i' := by
  subst e1 e2 e3 e4
  refine ⟨?_, (h.v2 hq (b64V_lo n) (by omega)).all⟩
  rw [runS_snoc hr]; unfold decS decV; rw [if_neg hc, if_neg hv, if_neg (fun z => z hp), if_neg (show ¬ q = 0 by omega), if_neg (show ¬ q = 1 by omega), if_pos hq]
theorem DPS.v3 {pre o o' : List Int} {q l p n q' l' p' i' : Int} (hr : decRunS pre = some (o, q, l, p)) (h : DOk pre o q l p) (hc : ¬ n = 61) (hv : ¬ 64 ≤ b64V n) (hp : p = 0) (hq : q = 3) (e1 : o' = o ++ [l * 64 + b64V n]) (e2 : q' = 0) (e3 : l' = 0) (e4 : p' = 0) : DPS (pre ++ [n]) o' q' l' p' i' := by
  subst e1 e2 e3 e4
  refine ⟨?_, (h.v3 hq (b64V_lo n) (by omega)).all⟩
  rw [runS_snoc hr]; unfold decS decV; rw [if_neg hc, if_neg hv, if_neg (fun z => z hp), if_neg (show ¬ q = 0 by omega), if_neg (show ¬ q = 1 by omega), if_neg (show ¬ q = 2 by omega)]
theorem DSt.injS {o o' : List Int} {q q' l l' p p' : Int} (e : some (o, q, l, p) = some (o', q', l', p')) : o = o' ∧ q = q' ∧ l = l' ∧ p = p' := by
  simpa using e
theorem a2b_base64S (B : Below A₀ base outer h₀) (F : Fr h₀ L s.heap m) (X : (Mine.hd.heap_39 w.params).In h₀) (N : News h₀ L s.heap news) (T : Top p loose mean mg mb h₀) (hk : cs.kind = .function)
    (hd : dp + 5 < recursionLimit) (hu : un + 50 < cLine) (ns : List Int) (t : Tok) (hz : ns.length ≤ 10000) (hIn : KBa.In ns) (o : List Int) (q l p9 : Int) (hrun : decRunS ns = some (o, q, l, p9)) (hq1 : q = 0 ∨ 2 ≤ q) (hq2 : q = 0 ∨ 4 ≤ q + p9)
    (h : ∀ t' h' tk', Fr h₀ L h' m → News h₀ L h' news → Q (.bytes (byteArr o) t') { s with heap := h', toks := tk' }) :
    wpAny (model prog w) (ktrTop dp un gd cn cs L a ccd cl outer) (call (.ref 100) [.bytes (byteArr ns) t] [(Str.ofString "strict_mode", .bool true)]) Q E s := by
  (k_with "pyIter bytes" => (k_state (fun pre o q l p i => DPS pre o q l p i) "out" "quad_pos" "leftchar" "pads" "i"; (have hS9 := runS_turn hrun kEq (by assumption)); rotate_left; (have e9 := DSt.injS (hrun.symm.trans (by assumption)); obtain ⟨e1, e2, e3, e4⟩ := e9; subst e1 e2 e3 e4); rotate_left))
  (k_with "state" => first | exact DPS.start | refine DPS.pad (by with_reducible assumption) (by with_reducible assumption) (by omega) (by omega) (by omega) (by with_reducible rfl) (by with_reducible rfl) (by with_reducible rfl) (by with_reducible rfl) | refine DPS.v0 (by with_reducible assumption) (by with_reducible assumption) (by omega) (by omega) (by omega) (by omega) (by with_reducible rfl) (by with_reducible rfl) (by with_reducible rfl) (by with_reducible rfl) | refine DPS.v1 (by with_reducible assumption) (by with_reducible assumption) (by omega) (by omega) (by omega) (by omega) (by with_reducible rfl) (by with_reducible rfl) (by with_reducible rfl) (by with_reducible rfl) | refine DPS.v2 (by with_reducible assumption) (by with_reducible assumption) (by omega) (by omega) (by omega) (by omega) (by with_reducible rfl) (by with_reducible rfl) (by with_reducible rfl) (by with_reducible rfl) | refine DPS.v3 (by with_reducible assumption) (by with_reducible assumption) (by omega) (by omega) (by omega) (by omega) (by with_reducible rfl) (by with_reducible rfl) (by with_reducible rfl) (by with_reducible rfl))
  refine wpAny_call ?_
  k_dflt walk_at "my enter"
  k_steps
  all_goals first | (exfalso; omega) | (refine ret_bytes (Q := Q) (fun t' h' tk' => h t' h' tk') rfl ?_ ?_ <;> walk_at "my frame")
theorem bad_first {ns pre post : List Int} {n : Int} (hb : ∃ rest, ns = 33 :: rest) (he : ns = pre ++ n :: post) (hp : pre = []) : n = 33 := by
  obtain ⟨rest, rfl⟩ := hb
  subst hp
  exact ((List.cons.inj (by simpa using he)).1).symm
theorem b64V_33 : b64V 33 = 64 := rfl
theorem a2b_base64_bad (B : Below A₀ base outer h₀) (F : Fr h₀ L s.heap m) (X : (Mine.hd.heap_39 w.params).In h₀) (N : News h₀ L s.heap news) (T : Top p loose mean mg mb h₀) (hk : cs.kind = .function)
    (hd : dp + 5 < recursionLimit) (hu : un + 50 < cLine) (ns : List Int) (t : Tok) (hz : ns.length ≤ 10000) (hIn : KBa.In ns) (hb : ∃ rest, ns = 33 :: rest)
    (he : ∀ e t' vs g h' tk', Fr h₀ L g m → RaisedS base g (envX cn cs L a ccd cl :: outer) e (.ref 61) t' vs news h' → g.UpToSlots h' → E (.ref e) { s with heap := h', toks := tk' }) :
    wpAny (model prog w) (ktrTop dp un gd cn cs L a ccd cl outer) (call (.ref 100) [.bytes (byteArr ns) t] [(Str.ofString "strict_mode", .bool true)]) Q E s := by
  (k_with "pyIter bytes" => (k_state (fun pre (o : List Int) (q l p i : Int) => pre = []) "out" "quad_pos" "leftchar" "pads" "i"; (have hS9 := bad_first hb kEq kInv); subst hS9; (have hT9 := b64V_33); rotate_left; (exfalso; obtain ⟨r9, e9⟩ := hb; exact absurd (e9.symm.trans kInv) (List.cons_ne_nil _ _))))
  (k_with "state" => first | rfl)
  refine wpAny_call ?_
  k_dflt walk_at "my enter"
  k_steps
  all_goals first | (exact he _ _ _ _ _ _ (by assumption) (by first | assumption | exact raisedS_drop (by assumption) (by intro p hp; kst_mem)) (by assumption))
end
end
section

theorem fill7 : PySem.Challenge.rw_xb0001_01 = PySem.Challenge.rw_xb0001_01 ∧ Mine.hd.heap_39 = Mine.hd.heap_39 := by
  k_with_none
  w_top off
  k_with "m k_room" => (((try simp only [depth_mark, depth_under_make, depth_under_kw, depth_in1, depth_deeper, depth_caller]); (try dsimp only [ktrTop]); omega))
  k_with "m k_units" => (((have hcL9 := cLine_is); (try simp only [units_in1, units_deeper, Around.mark_units, units_caller]); (try dsimp only [ktrTop]); omega))
  k_with "my size" => (first | assumption | ((try simp only [List.length_map, List.length_append, List.length_cons, List.length_nil, hexL_length, toI_length, mkS_length]); omega))
  k_with "my enter" => ((refine' code_def ?zzk1 ?zzk2 ?zzk3 ?zzk4 ?zzk5 ?zzkA ?zzkF ?zzkK ?zzk6 ?zzk7 ?zzk8 ?zzk9 ?zzkB ?_ ?zzc2 ?zzc3 ?zzc4 ?zzc5; (case zzkA => exact rfl); (case zzkF => exact rfl); (case zzkK => assumption); (case zzk1 => k_asm); (case zzk2 => k_asm); (case zzk3 => k_asm); (case zzk4 => k_asm); (case zzk5 => k_asm); (case zzk6 => k_is); (case zzk7 => k_is); (case zzk8 => k_room); (case zzk9 => first | exact BindsTo.of_eq rfl | exact binds_K (by k_in) rfl (by k_is) rfl rfl rfl); (case zzc5 => decide); (case zzkB => exact locs rfl); (case zzc2 => exact rfl); (case zzc3 => exact rfl); (case zzc4 => exact rfl); k_whole; intro g' L' h' FG' F' N' B' X' T'; (try dsimp only); (try k_lift B'); (try k_fold)))
  k_with "call type:type" => ((k_here; (with_reducible show wpAny _ _ (call (Value.type "type") [Value.bytes _ _]) _ _ _); refine call_type_bytes ?_))
  k_with "getMethod bytes" => ((k_here; first | (with_reducible refine meth_hex ?_) | (with_reducible refine meth_upper ?_) | (with_reducible refine meth_translate ?_)))
  k_with "getMethod str" => ((k_here; (with_reducible refine meth_encode ?_)))
  k_with "getMethod ref" => ((k_here; (with_reducible show wpAny _ _ (getMethod _ (Str.ofString "search") _) _ _ _); (refine' meth_searchK ?zzkF ?zzkX ?_; (case zzkF => k_asm); (case zzkX => k_asm))))
  k_with "getMethod type:bytes" => ((k_here; refine' method_type ?zzF ?zzX ?zzm (by decide +kernel) ?zze ?zzh ?_; (case zzF => k_asm); (case zzX => k_asm); (case zzm => exact meta_bytes); (case zze => k_dflt k_is); (case zzh => k_handed)))
  k_with "call builtin:bytes.hex" => ((k_here; (refine' call_hexL ?zzki ?zzkz ?_; (case zzki => assumption); (case zzkz => walk_at "my size")); intro t9 k9))
  k_with "call builtin:bytes.upper" => ((k_here; (refine' call_upperL ?zzki ?zzkz ?_; (case zzki => assumption); (case zzkz => walk_at "my size")); intro t9 k9 hIn9))
  k_with "call builtin:bytes.translate" => ((k_here; (refine' call_translateL ?zzki ?zzkz ?zzkt ?_; (case zzki => assumption); (case zzkz => walk_at "my size"); (case zzkt => first | with_reducible exact mkTab_size _ _ | rfl)); intro t9 k9 hIn9))
  k_with "call builtin:bytes.maketrans" => ((k_here; (refine' call_maketrans ?zzki ?_; (case zzki => rfl)); intro t9 k9))
  k_with "call builtin:str.encode" => ((k_here; (refine' call_encodeL ?zzka ?zzkz ?_; (case zzka => first | assumption | exact asc_hexL (by assumption)); (case zzkz => walk_at "my size")); intro t9 k9 hIn9))
  k_with "call builtin:re.Pattern.search" => ((k_here; (refine' search_noneK ?zzkF ?zzkX ?zzki ?zzkz ?zzkh ?_; (case zzkF => k_asm); (case zzkX => k_asm); (case zzki => assumption); (case zzkz => walk_at "my size"); (case zzkh => assumption))))
  k_with "call builtin:re.Pattern.search" => ((k_here; (refine' search_someK ?zzkF ?zzkN ?zzkX ?zzki ?zzkz ?zzkh ?_; (case zzkF => k_asm); (case zzkN => k_asm); (case zzkX => k_asm); (case zzki => assumption); (case zzkz => walk_at "my size"); (case zzkh => assumption)); intro x9 vs9 h' F' N' l1; (try k_lt l1); (try k_sweep)))
  k_with "truthy ref" => ((k_here; (refine' truthy_matchK ?zzkN ?zzkm ?_; (case zzkN => k_asm); (case zzkm => k_mem))))
  k_with "m k_intsEnd" => (exact IntsAre.nil)
  k_with "my frame" => (first | k_asm | ((rename News _ _ _ _ => nE'); exact cb_drop nE' (by intro p hp; kst_mem)))
  k_with "m kba_in" => (walk_at "my in")
  k_with "my in" => (first | assumption | (refine' in_snoc ?zzki ?zzka ?zzkb; (case zzka => omega); (case zzkb => omega); (case zzki => walk_at "my in")))
  k_with "m kst_in" => (((try dsimp only); walk_at "my led"))
  k_with "my led" => (first | exact List.forall_mem_nil _ | (refine' List.forall_mem_cons.mpr ⟨?zzla, ?zzlb⟩; (case zzla => walk_at "my mem"); (case zzlb => walk_at "my led")) | (intro p hp; kst_mem))
  k_with "my mem" => (first | exact List.Mem.head _ | (refine List.Mem.tail _ ?_; walk_at "my mem"))
  k_with "call type:bytes" => ((k_here; (with_reducible show wpAny _ _ (call (Value.type "bytes") [Value.ref _]) _ _ _); (rename News _ _ _ _ => nE'); (try simp only [List.push_toArray] at nE'); (refine' make_bytes ?zzkF nE' ?zzkm ?zzkh ?zzki ?zzkr ?zzkn ?_; (case zzkF => k_asm); (case zzkm => walk_at "my mem"); (case zzkh => rfl); (case zzki => k_intsEnd); (case zzkr => walk_at "my in"); (case zzkn => ((try simp only [List.length_append, List.length_cons, List.length_nil]); omega))); intro h' t' k' F' N' hIn'; (try k_sweep)))
  k_with "leaving ref" => ((k_here; first | (refine' leave_raiseS ?zzk1 ?zzk0 ?zzk2 ?zzk3 ?_; (case zzk0 => assumption); (case zzk2 => assumption); (case zzk1 => assumption); (case zzk3 => k_asm); k_whole; intro h' t' S' R' U'; (try dsimp only at S' R' U' ⊢)) | (refine' leave_onS ?zzk1 ?zzk2 ?zzk3 ?zzk4 ?_; (case zzk3 => assumption); (case zzk2 => assumption); (case zzk1 => assumption); (case zzk4 => assumption); k_whole; intro h' S' R' U'; (try dsimp only at S' R' U' ⊢))))
  k_with "my call" => (((case zzk1 => k_asm); (case zzk2 => k_asm); (case zzk3 => k_asm); (case zzk4 => k_asm); (case zzk5 => k_asm); (case zzk6 => exact rfl); (case zzkd => k_room); (case zzku => k_units)))
  k_with "my call7" => (((case zzki => assumption); (case zzkz => walk_at "my size"); walk_at "my call"))
  k_with "call ref" => ((k_here; (with_reducible show wpAny _ _ (call (Value.ref 108) _ _) _ _ _); k_dflt (refine' b2a_base64 ?zzk1 ?zzk2 ?zzk3 ?zzk4 ?zzk5 ?zzk6 ?zzkd ?zzku _ _ ?zzkz ?zzki ?_; walk_at "my call7"); intro t9 h9 k9 F9 N9; (have hL9 := b64E_len (by assumption)); (have hIn9 := b64E_in (by assumption)); (try dsimp only); (try k_sweep); (try k_fold)))
  k_with "call ref" => ((k_here; (with_reducible show wpAny _ _ (call (Value.ref 100) _ _) _ _ _); k_dflt (refine' a2b_base64S ?zzk1 ?zzk2 ?zzk3 ?zzk4 ?zzk5 ?zzk6 ?zzkd ?zzku _ _ ?zzkz ?zzki _ _ _ _ ?zzkr ?zzkq ?zzkp ?_; (case zzkr => assumption); (case zzkq => assumption); (case zzkp => assumption); walk_at "my call7"); intro t9 h9 k9 F9 N9; (try dsimp only); (try k_sweep); (try k_fold)))
  k_with "call ref" => ((k_here; (with_reducible show wpAny _ _ (call (Value.ref 100) _ _) _ _ _); k_dflt (refine' a2b_base64_bad ?zzk1 ?zzk2 ?zzk3 ?zzk4 ?zzk5 ?zzk6 ?zzkd ?zzku _ _ ?zzkz ?zzki ?zzkr ?_; (case zzkr => assumption); walk_at "my call7"); intro e9 t9 vs9 g9 h9 k9 F9 R9 U9; (try dsimp only)))
  k_with "call ref" => ((k_here; (with_reducible show wpAny _ _ (call (Value.ref 100) _ _) _ _ _); k_dflt (refine' a2b_base64 ?zzk1 ?zzk2 ?zzk3 ?zzk4 ?zzk5 ?zzk6 ?zzkd ?zzku _ _ ?zzkz ?zzki _ _ _ _ ?zzkr ?zzkq ?_ ?zzkx; (case zzkr => assumption); (case zzkq => assumption); (case zzkx => (intro _ _ _ _ _ _ _ _; exfalso; omega)); walk_at "my call7"); intro t9 h9 k9 c9 F9 N9; (try dsimp only); (try k_sweep); (try k_fold)))
  k_with "call ref" => ((k_here; (with_reducible show wpAny _ _ (call (Value.ref 100) _ _) _ _ _); k_dflt (refine' a2b_base64 ?zzk1 ?zzk2 ?zzk3 ?zzk4 ?zzk5 ?zzk6 ?zzkd ?zzku _ _ ?zzkz ?zzki _ _ _ _ ?zzkr ?zzkq ?zzkx ?_; (case zzkr => assumption); (case zzkq => assumption); (case zzkx => (intro _ _ _ _; exfalso; omega)); walk_at "my call7"); intro e9 t9 vs9 g9 h9 k9 q9 p9 F9 R9 U9; (try dsimp only)))
  k_fill
  exact ⟨rfl, rfl⟩

section
variable {prog : Program} {w : World} {p : Program} {loose : List Str} {mean : ExcName → Option Value} {mg mb : Str → Option Value}
  {dp un : Nat} {gd : Option (List Code)} {cn : Str} {cs : Scope} {a : Addr} {ccd : Value} {cl : List (Str × Addr)} {outer : List Env} {A₀ : Around} {base h₀ : Heap} {L : Addr} {m : Str → Option Value}
  {news : List (Addr × Obj)} {s : Shared} {Q E : Value → Shared → Prop}

theorem enc_more : ∀ (post pre o : List Int) (lb lc : Int), EncInv pre o lb lc → ∃ o' lb' lc', EncInv (pre ++ post) o' lb' lc' := by
  intro post
  induction post with
  | nil => intro pre o lb lc h; exact ⟨o, lb, lc, by rw [List.append_nil]; exact h⟩
  | cons n r ih =>
    intro pre o lb lc h
    have e : pre ++ n :: r = (pre ++ [n]) ++ r := by rw [List.append_assoc]; rfl
    rw [e]
    rcases h.lb with rfl | rfl | rfl
    · exact ih _ _ _ _ (EncInv.step0 h rfl rfl rfl)
    · exact ih _ _ _ _ (EncInv.step2 h rfl rfl rfl)
    · exact ih _ _ _ _ (EncInv.step4 h rfl rfl rfl)
theorem enc_inv (ns : List Int) : ∃ o lb lc, EncInv ns o lb lc := enc_more ns [] _ _ _ EncInv.start
theorem b64E_in {ns : List Int} (_ : KBa.In ns) : KBa.In (b64E ns) := by
  obtain ⟨o, lb, lc, h⟩ := enc_inv ns
  rcases h.lb with rfl | rfl | rfl
  · rw [← h.fin0]; exact h.inn
  · rw [← h.fin2]; exact in_snoc (in_snoc (in_snoc h.inn (b64C_in _).1 (b64C_in _).2) (by decide) (by decide)) (by decide) (by decide)
  · rw [← h.fin4]; exact in_snoc (in_snoc h.inn (b64C_in _).1 (b64C_in _).2) (by decide) (by decide)
theorem b64E_len {ns : List Int} (_ : KBa.In ns) : (b64E ns).length ≤ 2 * ns.length + 3 := by
  obtain ⟨o, lb, lc, h⟩ := enc_inv ns
  have hl := h.len
  rcases h.lb with rfl | rfl | rfl
  · rw [← h.fin0]; omega
  · rw [← h.fin2]; simp only [List.length_append, List.length_cons, List.length_nil]; omega
  · rw [← h.fin4]; simp only [List.length_append, List.length_cons, List.length_nil]; omega

def trE (n : Int) : Int := if n = 43 then 46 else if n = 47 then 95 else n
def trD (n : Int) : Int := if n = 46 then 43 else if n = 95 then 47 else n
def trU (n : Int) : Int := if n = 43 then 45 else if n = 47 then 95 else n
theorem map_tr {tab : Array UInt8} {f : Int → Int} {ns : List Int} (ht : ∀ k : Fin 256, trI tab (k.val : Int) = f (k.val : Int)) (h : KBa.In ns) : ns.map (trI tab) = ns.map f := by
  apply List.map_congr_left
  intro n hn
  have hb := h n hn
  have e := ht ⟨n.toNat, by omega⟩
  have e2 : ((n.toNat : Nat) : Int) = n := by omega
  simp only [e2] at e
  exact e

theorem b64encode (B : Below A₀ base outer h₀) (F : Fr h₀ L s.heap m) (X : (Mine.hd.heap_39 w.params).In h₀) (N : News h₀ L s.heap news) (T : Top p loose mean mg mb h₀) (hk : cs.kind = .function)
    (hd : dp + 10 < recursionLimit) (hu : un + 80 < cLine) (ns : List Int) (t : Tok) (hz : ns.length ≤ 1000) (hIn : KBa.In ns)
    (h : ∀ t' h' tk', Fr h₀ L h' m → News h₀ L h' news → Q (.bytes (byteArr (b64E ns)) t') { s with heap := h', toks := tk' }) :
    wpAny (model prog w) (ktrTop dp un gd cn cs L a ccd cl outer) (call (.ref 139) [.bytes (byteArr ns) t] ) Q E s := by

  refine wpAny_call ?_
  k_dflt walk_at "my enter"
  k_steps
  · refine ret_bytes (Q := Q) h rfl ?_ ?_
    all_goals walk_at "my frame"

theorem b64encodeA (B : Below A₀ base outer h₀) (F : Fr h₀ L s.heap m) (X : (Mine.hd.heap_39 w.params).In h₀) (N : News h₀ L s.heap news) (T : Top p loose mean mg mb h₀) (hk : cs.kind = .function)
    (hd : dp + 10 < recursionLimit) (hu : un + 80 < cLine) (ns : List Int) (t : Tok) (hz : ns.length ≤ 1000) (hIn : KBa.In ns) (t2 : Tok)
    (h : ∀ t' h' tk', Fr h₀ L h' m → News h₀ L h' news → Q (.bytes (byteArr ((b64E ns).map trE)) t') { s with heap := h', toks := tk' }) :
    wpAny (model prog w) (ktrTop dp un gd cn cs L a ccd cl outer) (call (.ref 139) [.bytes (byteArr ns) t, .bytes #[46, 95] t2] ) Q E s := by

  refine wpAny_call ?_
  k_dflt walk_at "my enter"
  k_steps
  · refine ret_bytes (Q := Q) h (map_tr (by decide +kernel) (b64E_in hIn)) ?_ ?_
    all_goals walk_at "my frame"

theorem b64decode (B : Below A₀ base outer h₀) (F : Fr h₀ L s.heap m) (X : (Mine.hd.heap_39 w.params).In h₀) (N : News h₀ L s.heap news) (T : Top p loose mean mg mb h₀) (hk : cs.kind = .function)
    (hd : dp + 10 < recursionLimit) (hu : un + 80 < cLine) (xs : List Nat) (t : Tok) (hz : xs.length ≤ 1000) (ha : Asc xs) (o : List Int) (q l p9 : Int) (hrun : decRunN (toI xs) = (o, q, l, p9)) (hq1 : q = 0 ∨ 2 ≤ q) (hok : q = 0 ∨ 4 ≤ q + p9)
    (h : ∀ t' h' tk', Fr h₀ L h' m → News h₀ L h' news → Q (.bytes (byteArr o) t') { s with heap := h', toks := tk' }) :
    wpAny (model prog w) (ktrTop dp un gd cn cs L a ccd cl outer) (call (.ref 147) [.str (mkS xs) t] ) Q E s := by

  refine wpAny_call ?_
  k_dflt walk_at "my enter"
  k_steps
  · refine ret_bytes (Q := Q) h rfl ?_ ?_
    all_goals walk_at "my frame"

theorem b64decode_short (B : Below A₀ base outer h₀) (F : Fr h₀ L s.heap m) (X : (Mine.hd.heap_39 w.params).In h₀) (N : News h₀ L s.heap news) (T : Top p loose mean mg mb h₀) (hk : cs.kind = .function)
    (hd : dp + 10 < recursionLimit) (hu : un + 80 < cLine) (xs : List Nat) (t : Tok) (hz : xs.length ≤ 1000) (ha : Asc xs) (o : List Int) (q l p9 : Int) (hrun : decRunN (toI xs) = (o, q, l, p9)) (hq1 : q = 0 ∨ 2 ≤ q) (hok : ¬ (q = 0 ∨ 4 ≤ q + p9))
    (he : ∀ e t' vs g h' tk', Fr h₀ L g m → RaisedS base g (envX cn cs L a ccd cl :: outer) e (.ref 61) t' vs news h' → g.UpToSlots h' → E (.ref e) { s with heap := h', toks := tk' }) :
    wpAny (model prog w) (ktrTop dp un gd cn cs L a ccd cl outer) (call (.ref 147) [.str (mkS xs) t] ) Q E s := by

  refine wpAny_call ?_
  k_dflt walk_at "my enter"
  k_steps
  · exact he _ _ _ _ _ _ (by assumption) (by first | assumption | exact raisedS_drop (by assumption) (by intro p hp; kst_mem)) (by assumption)

theorem b64decodeA (B : Below A₀ base outer h₀) (F : Fr h₀ L s.heap m) (X : (Mine.hd.heap_39 w.params).In h₀) (N : News h₀ L s.heap news) (T : Top p loose mean mg mb h₀) (hk : cs.kind = .function)
    (hd : dp + 10 < recursionLimit) (hu : un + 80 < cLine) (xs : List Nat) (t : Tok) (hz : xs.length ≤ 1000) (ha : Asc xs) (o : List Int) (q l p9 : Int) (t2 : Tok) (hrun : decRunN ((toI xs).map trD) = (o, q, l, p9)) (hq1 : q = 0 ∨ 2 ≤ q) (hok : q = 0 ∨ 4 ≤ q + p9)
    (h : ∀ t' h' tk', Fr h₀ L h' m → News h₀ L h' news → Q (.bytes (byteArr o) t') { s with heap := h', toks := tk' }) :
    wpAny (model prog w) (ktrTop dp un gd cn cs L a ccd cl outer) (call (.ref 147) [.str (mkS xs) t, .bytes #[46, 95] t2] ) Q E s := by
  rw [← map_tr (tab := mkTab #[46, 95] #[43, 47]) (by decide +kernel) ha.inI] at hrun
  refine wpAny_call ?_
  k_dflt walk_at "my enter"
  k_steps
  · refine ret_bytes (Q := Q) h rfl ?_ ?_
    all_goals walk_at "my frame"

theorem b64decodeS (B : Below A₀ base outer h₀) (F : Fr h₀ L s.heap m) (X : (Mine.hd.heap_39 w.params).In h₀) (N : News h₀ L s.heap news) (T : Top p loose mean mg mb h₀) (hk : cs.kind = .function)
    (hd : dp + 10 < recursionLimit) (hu : un + 80 < cLine) (xs : List Nat) (t : Tok) (hz : xs.length ≤ 1000) (ha : Asc xs) (o : List Int) (q l p9 : Int) (hrun : decRunS (toI xs) = some (o, q, l, p9)) (hq1 : q = 0 ∨ 2 ≤ q) (hq2 : q = 0 ∨ 4 ≤ q + p9)
    (h : ∀ t' h' tk', Fr h₀ L h' m → News h₀ L h' news → Q (.bytes (byteArr o) t') { s with heap := h', toks := tk' }) :
    wpAny (model prog w) (ktrTop dp un gd cn cs L a ccd cl outer) (call (.ref 147) [.str (mkS xs) t] [(Str.ofString "validate", .bool true)]) Q E s := by

  refine wpAny_call ?_
  k_dflt walk_at "my enter"
  k_steps
  · refine ret_bytes (Q := Q) h rfl ?_ ?_
    all_goals walk_at "my frame"

theorem b64decode_bad (B : Below A₀ base outer h₀) (F : Fr h₀ L s.heap m) (X : (Mine.hd.heap_39 w.params).In h₀) (N : News h₀ L s.heap news) (T : Top p loose mean mg mb h₀) (hk : cs.kind = .function)
    (hd : dp + 10 < recursionLimit) (hu : un + 80 < cLine) (xs : List Nat) (t : Tok) (hz : xs.length ≤ 1000) (ha : Asc xs) (hb : ∃ rest, toI xs = 33 :: rest)
    (he : ∀ e t' vs g h' tk', Fr h₀ L g m → RaisedS base g (envX cn cs L a ccd cl :: outer) e (.ref 61) t' vs news h' → g.UpToSlots h' → E (.ref e) { s with heap := h', toks := tk' }) :
    wpAny (model prog w) (ktrTop dp un gd cn cs L a ccd cl outer) (call (.ref 147) [.str (mkS xs) t] [(Str.ofString "validate", .bool true)]) Q E s := by

  refine wpAny_call ?_
  k_dflt walk_at "my enter"
  k_steps
  · exact he _ _ _ _ _ _ (by assumption) (by first | assumption | exact raisedS_drop (by assumption) (by intro p hp; kst_mem)) (by assumption)

theorem urlsafe (B : Below A₀ base outer h₀) (F : Fr h₀ L s.heap m) (X : (Mine.hd.heap_39 w.params).In h₀) (N : News h₀ L s.heap news) (T : Top p loose mean mg mb h₀) (hk : cs.kind = .function)
    (hd : dp + 10 < recursionLimit) (hu : un + 80 < cLine) (ns : List Int) (t : Tok) (hz : ns.length ≤ 1000) (hIn : KBa.In ns)
    (h : ∀ t' h' tk', Fr h₀ L h' m → News h₀ L h' news → Q (.bytes (byteArr ((b64E ns).map trU)) t') { s with heap := h', toks := tk' }) :
    wpAny (model prog w) (ktrTop dp un gd cn cs L a ccd cl outer) (call (.ref 154) [.bytes (byteArr ns) t] ) Q E s := by

  refine wpAny_call ?_
  k_dflt walk_at "my enter"
  k_steps
  · refine ret_bytes (Q := Q) h (map_tr (by decide +kernel) (b64E_in hIn)) ?_ ?_
    all_goals walk_at "my frame"
end
end
section
open Builtin
theorem hexBase {k : Int} (h : 0 ≤ k ∧ k < 256) : baseText "0x" 16 (256 + k) = mkS ([48, 120, 49] ++ hexL [k]) := by
  have key : ∀ n : Fin 256, baseText "0x" 16 (256 + (n.val : Int)) = mkS ([48, 120, 49] ++ hexL [(n.val : Int)]) := by decide +kernel
  have := key ⟨k.toNat, by omega⟩
  have e : ((k.toNat : Nat) : Int) = k := by omega
  simp only [e] at this
  exact this
def upN (c : Nat) : Nat := if 97 ≤ c ∧ c ≤ 122 then c - 32 else c
theorem asc_upN {xs : List Nat} (h : Asc xs) : Asc (xs.map upN) := by
  intro c hc
  obtain ⟨d, hd, rfl⟩ := List.mem_map.mp hc
  have := h d hd
  unfold upN
  split <;> omega
theorem upper_mk {xs : List Nat} (h : Asc xs) : Txt.upper (mkS xs) = mkS (xs.map upN) := by
  rw [upper_ascii (x := mkS xs) (fun c hc => h c hc)]
  show (⟨xs.toArray.map up1⟩ : PySem.Str) = ⟨(xs.map upN).toArray⟩
  rw [List.map_toArray]
  rfl
theorem slice_take (xs : List Nat) (k : Nat) : Txt.slice (mkS xs) none (some (k : Int)) = mkS (xs.take k) := by
  show PySem.StrLaws.sliceText (mkS xs) none (some (k : Int)) = _
  by_cases hk : k ≤ xs.length
  · have e : PySem.StrLaws.sliceText (mkS xs) none (some (k : Int)) = PySem.StrLaws.sliceText (mkS xs) (some ((0 : Nat) : Int)) (some (k : Int)) := by
      unfold PySem.StrLaws.sliceText; rw [PySem.StrLaws.sliceIdx_none_lo]; rfl
    rw [e, PySem.StrLaws.sliceText_nat _ (Nat.zero_le _) (by rw [mkS_length]; exact hk)]
    simp [mkS]
  · have e : PySem.StrLaws.sliceText (mkS xs) none (some (k : Int)) = PySem.StrLaws.sliceText (mkS xs) (some ((0 : Nat) : Int)) (some ((xs.length : Nat) : Int)) := by
      unfold PySem.StrLaws.sliceText; rw [sliceIdx_hi_beyond _ (by rw [mkS_length]; omega), PySem.StrLaws.sliceIdx_none_lo, mkS_length]; rfl
    rw [e, PySem.StrLaws.sliceText_nat _ (Nat.zero_le _) (by rw [mkS_length]; omega)]
    simp [mkS, List.take_of_length_le (show xs.length ≤ k by omega)]
theorem slice_drop (xs : List Nat) (k : Nat) : Txt.slice (mkS xs) (some (k : Int)) none = mkS (xs.drop k) := by
  show PySem.StrLaws.sliceText (mkS xs) (some (k : Int)) none = _
  by_cases hk : k ≤ xs.length
  · have e : PySem.StrLaws.sliceText (mkS xs) (some (k : Int)) none = PySem.StrLaws.sliceText (mkS xs) (some (k : Int)) (some (((mkS xs).length : Nat) : Int)) := by
      unfold PySem.StrLaws.sliceText; rw [PySem.StrLaws.sliceIdx_none_hi]
    rw [e, PySem.StrLaws.sliceText_nat _ (by rw [mkS_length]; exact hk) (Nat.le_refl _), mkS_length]
    simp [mkS, List.take_of_length_le]
  · have e : PySem.StrLaws.sliceText (mkS xs) (some (k : Int)) none = PySem.StrLaws.sliceText (mkS xs) (some ((xs.length : Nat) : Int)) (some (((mkS xs).length : Nat) : Int)) := by
      unfold PySem.StrLaws.sliceText; rw [sliceIdx_lo_beyond _ (by rw [mkS_length]; omega), PySem.StrLaws.sliceIdx_none_hi, mkS_length]
    rw [e, PySem.StrLaws.sliceText_nat _ (by rw [mkS_length]; omega) (Nat.le_refl _), mkS_length]
    have hk2 : xs.length ≤ k := by omega
    simp [mkS, hk2]
theorem slice3 {k : Int} : Txt.slice (mkS ([48, 120, 49] ++ hexL [k])) (some 3) none = mkS (hexL [k]) := by
  have e := slice_drop ([48, 120, 49] ++ hexL [k]) 3
  exact e
theorem hex_el {k : Int} : mkS (hexL [k]) = Txt.slice (mkS ([48, 120, 49] ++ hexL [k])) (some 3) none := slice3.symm
theorem join_mk (g : Int → List Nat) : ∀ ks : List Int, Str.join (PySem.Str.ofString "") (ks.map fun k => mkS (g k)) = mkS (ks.flatMap g)
  | [] => rfl
  | [k] => by simp [Str.join]
  | k :: l :: r => by
    have ih := join_mk g (l :: r)
    show mkS (g k) ++ PySem.Str.ofString "" ++ Str.join (PySem.Str.ofString "") ((l :: r).map fun k => mkS (g k)) = _
    rw [ih]
    have e : ∀ a b : List Nat, mkS a ++ PySem.Str.ofString "" ++ mkS b = mkS (a ++ b) := by
      intro a b
      show (⟨a.toArray ++ #[] ++ b.toArray⟩ : PySem.Str) = ⟨(a ++ b).toArray⟩
      simp
    rw [e]
    rfl
theorem join_hexL (ks : List Int) : Txt.join (PySem.Str.ofString "") (ks.map fun k => mkS (hexL [k])) = mkS (hexL ks) := by
  show Builtin.Str.glued _ _ = _
  rw [StrLaws.glued_eq_join, join_mk]
  congr 1
section
variable {prog : Program} {w : World} {A : Around} {E : Value → Shared → Prop} {s : Shared} {t u : Tok} {Q : Value → Shared → Prop}
theorem call_hexint {k : Int} (h : 0 ≤ k ∧ k < 256) (hq : ∀ t' k', Q (.str (mkS ([48, 120, 49] ++ hexL [k])) t') { s with toks := k' }) : wpAny (model prog w) A (call (.builtin "hex") [.int (256 + k) t]) Q E s :=
  P.hex_of_int (by rw [hexBase h]; exact hq _ _) (by rw [hexBase h, mkS_length, sizeLine_eq, List.length_append, hexL_length]; simp)
theorem call_strupper {xs : List Nat} (ha : Asc xs) (hz : xs.length ≤ 1048576) (h : ∀ t' k', Asc (xs.map upN) → Q (.str (mkS (xs.map upN)) t') { s with toks := k' }) : wpAny (model prog w) A (call (.builtin "str.upper") [.str (mkS xs) t]) Q E s :=
  SCL.upper (by rw [mkS_length]; omega) fun _ => by rw [upper_mk ha]; exact h _ _ (asc_upN ha)
theorem join_hex {D : Addr} {ys : List Value} {ks : List Int} (hl : s.heap.IsList D ys.toArray) (hc : CarriedAll ys (ks.map fun k => PyData.str (mkS (hexL [k])))) (hn : ks.length ≤ 1048576)
    (h : ∀ t' k', Q (.str (mkS (hexL ks)) t') { s with toks := k' }) : wpAny (model prog w) A (call (.builtin "str.join") [.str (PySem.Str.ofString "") t, .ref D]) Q E s :=
  KT.join_B 2 hl hc (fun a _ => by rw [mkS_length, hexL_length]; simp) hn (by decide) fun t' k' => by rw [join_hexL]; exact h t' k'
end
end
section
open LCg
def SrcS (prog : Program) (w : World) (A : Around) (h₀ : Heap) (L : Addr) (m : Str → Option Value) (env : Env) (elt : Expr) (x : Str) (scope : Scope) (cl : List (Str × Addr)) (Fin : Shared → List Value → List (Addr × Obj) → Prop) (xv : Value) (s₁ : Shared) : Prop :=
  ∃ y t news, xv = .str y t ∧ A.handled = none ∧ Fr h₀ L s₁.heap m ∧ News h₀ L s₁.heap news ∧ y.cps.all (· < 128) = true ∧ y.cps.size ≤ sizeLine ∧
    ∀ s₂ : Shared, (∃ h, s₂ = { s₁ with heap := h }) → CompRest prog w A h₀ L m env elt x scope cl s₂ (fun _ => True) (SignAt y) (Fin s₂) y.cps.size 0 [] news
section
variable {prog : Program} {w : World} {A : Around} {E : Value → Shared → Prop} {s : Shared} {h₀ : Heap} {L : Addr} {m : Str → Option Value} {env : Env}
theorem SrcS.intro {elt : Expr} {x : Str} {scope : Scope} {cl : List (Str × Addr)} {Fin : Shared → List Value → List (Addr × Obj) → Prop} {cs : List Nat} {t : Tok} {news : List (Addr × Obj)} {s₁ : Shared}
    (hh : A.handled = none) (F : Fr h₀ L s₁.heap m) (N : News h₀ L s₁.heap news) (ha : Asc cs) (hsz : cs.length ≤ sizeLine)
    (turn : ∀ (c : Nat) t I oI C oC D m₂ ys h tk (E' : Value → Shared → Prop), c < 128 → NsObj oC m₂ → m₂ x = some (.str ⟨#[c]⟩ t) → Fr h₀ L h m → News h₀ L h ((I, oI) :: (C, oC) :: (D, lst ys) :: news) → Off3 I C D news → ((@Ne Nat I C) ∧ (@Ne Nat I D) ∧ (@Ne Nat C D)) → KPfMark →
      wpAny (model prog w) A (eval elt (compEnvC scope cl C env)) (CompEnd h₀ L m { s₁ with heap := h, toks := tk } I oI C oC D (lst ys) (fun _ => True) (fun y news' => KCfEl news (c : Int) y news')) E' { s₁ with heap := h, toks := tk })
    (fin : ∀ g, ∀ ys, IntsAre ys (toI cs) → Fin { s₁ with heap := g } ys news) :
    SrcS prog w A h₀ L m env elt x scope cl Fin (.str (mkS cs) t) s₁ := by
  refine ⟨_, _, news, rfl, hh, F, N, ?_, by simpa [mkS] using hsz, fun s₂ he => ?_⟩
  · simpa [mkS, Asc] using ha
  obtain ⟨g, rfl⟩ := he
  have key : ∀ (j i : Nat) (ys : List Value), i + j = cs.length → IntsAre ys (toI (cs.take i)) → CompRest prog w A h₀ L m env elt x scope cl { s₁ with heap := g } (fun _ => True) (SignAt (mkS cs)) (Fin { s₁ with heap := g }) j i ys news := by
    intro j
    induction j with
    | zero =>
      intro i ys hi hy
      have e : i = cs.length := by omega
      subst e
      rw [List.take_length] at hy
      exact CompRest.zero (fin g ys hy)
    | succ j ih =>
      intro i ys hi hy
      refine CompRest.succ ?_
      intro v I oI C oC D m₂ h tk E' hv hC hx F N off ne
      obtain ⟨c, t, hk, hv'⟩ := hv
      have hk : cs[i]? = some c := by simpa [mkS] using hk
      rw [hv'] at hx
      refine wpAny_mono (turn c t I oI C oC D m₂ ys h tk E' (ha c (List.mem_of_getElem? hk)) hC hx F N off ne True.intro) (fun y s₂ hq => ?_) fun _ _ e => e
      obtain ⟨h', tk', nw, e, F', N', off', hS, hn, t', hy'⟩ := hq
      rw [hn] at N' off'
      refine ⟨h', tk', news, e, F', N', off', hS, ?_⟩
      rw [hy']
      refine ih (i + 1) _ (by omega) ?_
      rw [List.take_add_one, hk]
      simpa [toI] using IntsAre.append hy (.cons (c : Int) t' .nil)
  have e : (mkS cs).cps.size = cs.length := by simp [mkS]
  rw [e]
  exact key cs.length 0 [] (by omega) (by simp only [List.take_zero]; exact .nil)
theorem ListComp_str {elt iter : Expr} {x : Str} {px : Pos} {scope : Scope} {cl : List (Str × Addr)} {pos : Pos} {Q : Value → Shared → Prop} (F₀ : Fr h₀ L s.heap m)
    (hclos : closureFor scope env = pure cl) (hcell : ∀ y ∈ scope.names, y.2 ≠ .cell) (hkind : scope.kind = .function)
    (hnames : ∀ y ∈ scope.names, y.2 = .local → scope.names.lookup y.1 = some .local) (hx : scope.names.lookup x = some .local)
    (h : wpAny (model prog w) A (eval iter env) (SrcS prog w A h₀ L m env elt x scope cl (fun s₂ => FinE h₀ L m s₂ Q)) E s)
    (hs : ∀ x, foldedSetIterable iter env x = pure x := by intro _; rfl) :
    wpAny (model prog w) A (eval (.ListComp elt [⟨.Name x px, iter, [], 0⟩] scope pos) env) Q E s := by
  rw [eval_ListComp]
  refine wpAny_comprehension_free (use := none) rfl hs hclos hkind hnames (wpAny_mono h (fun xv s₁ h₁ => ?_) fun _ _ e => e)
  obtain ⟨y, t, news, rfl, hh, F, N, ha, hsz, R⟩ := h₁
  refine wpAny_pyIter_ascii ha ?_
  have up : ∀ b o, s₁.heap.get? b = some o → (s₁.heap.push { cls := .type "str_ascii_iterator", data := .fields #[.str y t, .int 0 0] }).get? b = some o := fun b o e => Heap.get?_push_of_some _ e
  refine block_U (Walks.strAscii hh s₁.heap.objs.size y t) hsz (fun i h st => by obtain ⟨o, e, _⟩ := st; exact ⟨o, e⟩) (fun i h h' o nw st e e' _ _ _ => by
      obtain ⟨o', q, r⟩ := st
      rw [e] at q; cases q; exact ⟨o, e', r⟩) hcell hkind hx ⟨_, Heap.get?_push_size _ rfl, rfl, rfl⟩ (fun b hb => ?_)
    (F.keeps up) (N.grown up) (Nat.ne_of_lt F.ns.lt) (next_is_new F) (fun p hp => Nat.ne_of_lt (Heap.lt_size (N p hp).1)) trivial (R _ ⟨_, rfl⟩) ?_
  · rw [List.mem_singleton.mp hb]
    show s₁.heap.objs.size < (s₁.heap.push _).objs.size
    rw [Heap.size_push]; exact Nat.lt_succ_self _
  · intro D C h tk m' ys news' F' N' o1 hn hC₀ hD₀ hCL hDL hCD offC fin
    refine ⟨m', hn, fun h'' hs'' => fin D h'' tk (F'.change hs'' hCL hC₀) (fun p hp => ?_) o1⟩
    refine ⟨hs''.extBut _ _ ?_ (N' p hp).1, (N' p hp).2⟩
    rcases List.mem_cons.mp hp with rfl | hp
    · exact Ne.symm hCD
    · exact offC p hp
end
end
section
open Builtin
def rep (a b c : Nat) : Nat := if c = a then b else c
def b64N (i : Nat) : Nat := (b64L.getD i 0).toNat
def four4 (w : Nat) : List Nat := [b64N (w / 262144 % 64), b64N (w / 4096 % 64), b64N (w / 64 % 64), b64N (w / 1 % 64)]
def whole3 (a b c : Nat) : Nat := 256 * (256 * (256 * 0 + a) + b) + c
def fourL : List Int → List Nat
  | [] => []
  | [a] => (four4 (whole3 a.toNat 0 0)).take 2 ++ [61, 61]
  | [a, b] => (four4 (whole3 a.toNat b.toNat 0)).take 3 ++ [61]
  | a :: b :: c :: r => four4 (whole3 a.toNat b.toNat c.toNat) ++ fourL r
theorem toI_append (a b : List Nat) : toI (a ++ b) = toI a ++ toI b := by simp [toI]
theorem toI_cons (a : Nat) (b : List Nat) : toI (a :: b) = (a : Int) :: toI b := rfl
theorem toI_nil : toI [] = [] := rfl
theorem toI_upN (xs : List Nat) : toI (xs.map upN) = (toI xs).map upI := by
  simp only [toI, List.map_map]
  apply List.map_congr_left
  intro c _
  simp only [Function.comp, upN, upI]
  split <;> split <;> omega
theorem toI_rep {f : Int → Int} {g : Nat → Nat} (h : ∀ c : Nat, f (c : Int) = (g c : Int)) (xs : List Nat) : (toI xs).map f = toI (xs.map g) := by
  simp only [toI, List.map_map]
  apply List.map_congr_left
  intro c _
  exact h c
theorem b64N_ok (i : Nat) (h : i < 64) : b64V (b64N i : Int) = (i : Int) ∧ b64N i < 128 ∧ b64N i ≠ 46 ∧ b64N i ≠ 95 ∧ b64N i ≠ 61 := by
  have key : ∀ j : Fin 64, b64V (b64N j.val : Int) = (j.val : Int) ∧ b64N j.val < 128 ∧ b64N j.val ≠ 46 ∧ b64N j.val ≠ 95 ∧ b64N j.val ≠ 61 := by decide +kernel
  exact key ⟨i, h⟩
theorem four4_ok {w : Nat} : ∀ c ∈ four4 w, c < 128 ∧ c ≠ 46 ∧ c ≠ 95 ∧ c ≠ 61 := by
  intro c hc
  simp only [four4, List.mem_cons, List.not_mem_nil, or_false] at hc
  rcases hc with rfl | rfl | rfl | rfl <;> exact (b64N_ok _ (Nat.mod_lt _ (by decide))).2
theorem f_chars : ∀ ns : List Int, ∀ c ∈ fourL ns, c < 128 ∧ c ≠ 46 ∧ c ≠ 95
  | [], c, hc => by simp [fourL] at hc
  | [a], c, hc => by
    rcases List.mem_append.mp hc with hc | hc
    · have := four4_ok c (List.mem_of_mem_take hc); exact ⟨this.1, this.2.1, this.2.2.1⟩
    · have : c = 61 := by simpa using hc
      subst this; decide
  | [a, b], c, hc => by
    rcases List.mem_append.mp hc with hc | hc
    · have := four4_ok c (List.mem_of_mem_take hc); exact ⟨this.1, this.2.1, this.2.2.1⟩
    · have : c = 61 := by simpa using hc
      subst this; decide
  | a :: b :: d :: r, c, hc => by
    rcases List.mem_append.mp (show c ∈ four4 (whole3 a.toNat b.toNat d.toNat) ++ fourL r from hc) with hc | hc
    · have := four4_ok c hc; exact ⟨this.1, this.2.1, this.2.2.1⟩
    · exact f_chars r c hc
theorem f_len' : ∀ ns : List Int, (fourL ns).length ≤ 4 * ns.length
  | [] => by simp [fourL]
  | [a] => by simp [fourL, four4]
  | [a, b] => by simp [fourL, four4]
  | a :: b :: d :: r => by
    have := f_len' r
    simp [fourL, four4]; omega
theorem decN_ok {o : List Int} {q l p : Int} {i : Nat} (h : i < 64) : decN (o, q, l, p) (b64N i : Int) = decV o q l (i : Int) := by
  have k := b64N_ok i h
  have e : ¬ ((b64N i : Int) = 61) := by omega
  unfold decN
  rw [if_neg e, k.1, if_neg (by omega)]
theorem decN_eq {o : List Int} {q l p : Int} : decN (o, q, l, p) 61 = (o, q, l, p + 1) := by
  unfold decN
  rw [if_pos rfl]
theorem decS_ok {o : List Int} {q l : Int} {i : Nat} (h : i < 64) : decS (o, q, l, 0) (b64N i : Int) = some (decV o q l (i : Int)) := by
  have k := b64N_ok i h
  have e : ¬ ((b64N i : Int) = 61) := by omega
  unfold decS
  rw [if_neg e, k.1, if_neg (by omega), if_neg (by simp)]
theorem decS_eq {o : List Int} {q l p : Int} (h : 2 ≤ q ∧ q + (p + 1) ≤ 4) : decS (o, q, l, p) 61 = some (o, q, l, p + 1) := by
  unfold decS
  rw [if_pos rfl, if_pos h]
theorem decV0 {o : List Int} {l v : Int} : decV o 0 l v = (o, 1, v, 0) := by simp [decV]
theorem decV1 {o : List Int} {l v : Int} : decV o 1 l v = (o ++ [l * 4 + v / 16], 2, v % 16, 0) := by simp [decV]
theorem decV2 {o : List Int} {l v : Int} : decV o 2 l v = (o ++ [l * 16 + v / 4], 3, v % 4, 0) := by simp [decV]
theorem decV3 {o : List Int} {l v : Int} : decV o 3 l v = (o ++ [l * 64 + v], 0, 0, 0) := by simp [decV]
theorem m64 (x : Nat) : x % 64 < 64 := Nat.mod_lt _ (by decide)
theorem n0 {o : List Int} {l p : Int} (x : Nat) : decN (o, 0, l, p) (b64N (x % 64) : Int) = (o, 1, ((x % 64 : Nat) : Int), 0) := by rw [decN_ok (m64 x), decV0]
theorem n1 {o : List Int} {l p : Int} (x : Nat) : decN (o, 1, l, p) (b64N (x % 64) : Int) = (o ++ [l * 4 + ((x % 64 : Nat) : Int) / 16], 2, ((x % 64 : Nat) : Int) % 16, 0) := by rw [decN_ok (m64 x), decV1]
theorem n2 {o : List Int} {l p : Int} (x : Nat) : decN (o, 2, l, p) (b64N (x % 64) : Int) = (o ++ [l * 16 + ((x % 64 : Nat) : Int) / 4], 3, ((x % 64 : Nat) : Int) % 4, 0) := by rw [decN_ok (m64 x), decV2]
theorem n3 {o : List Int} {l p : Int} (x : Nat) : decN (o, 3, l, p) (b64N (x % 64) : Int) = (o ++ [l * 64 + ((x % 64 : Nat) : Int)], 0, 0, 0) := by rw [decN_ok (m64 x), decV3]
theorem s0 {o : List Int} {l : Int} (x : Nat) : decS (o, 0, l, 0) (b64N (x % 64) : Int) = some (o, 1, ((x % 64 : Nat) : Int), 0) := by rw [decS_ok (m64 x), decV0]
theorem s1 {o : List Int} {l : Int} (x : Nat) : decS (o, 1, l, 0) (b64N (x % 64) : Int) = some (o ++ [l * 4 + ((x % 64 : Nat) : Int) / 16], 2, ((x % 64 : Nat) : Int) % 16, 0) := by rw [decS_ok (m64 x), decV1]
theorem s2 {o : List Int} {l : Int} (x : Nat) : decS (o, 2, l, 0) (b64N (x % 64) : Int) = some (o ++ [l * 16 + ((x % 64 : Nat) : Int) / 4], 3, ((x % 64 : Nat) : Int) % 4, 0) := by rw [decS_ok (m64 x), decV2]
theorem s3 {o : List Int} {l : Int} (x : Nat) : decS (o, 3, l, 0) (b64N (x % 64) : Int) = some (o ++ [l * 64 + ((x % 64 : Nat) : Int)], 0, 0, 0) := by rw [decS_ok (m64 x), decV3]
theorem w0 {a b c : Nat} (ha : a < 256) (hb : b < 256) (hc : c < 256) : whole3 a b c / 262144 % 64 = a / 4 := by unfold whole3; omega
theorem w1 {a b c : Nat} (ha : a < 256) (hb : b < 256) (hc : c < 256) : whole3 a b c / 4096 % 64 = a % 4 * 16 + b / 16 := by unfold whole3; omega
theorem w2 {a b c : Nat} (ha : a < 256) (hb : b < 256) (hc : c < 256) : whole3 a b c / 64 % 64 = b % 16 * 4 + c / 64 := by unfold whole3; omega
theorem w3 {a b c : Nat} (ha : a < 256) (hb : b < 256) (hc : c < 256) : whole3 a b c / 1 % 64 = c % 64 := by unfold whole3; omega
theorem natB {a : Int} (h : 0 ≤ a ∧ a < 256) : ∃ n : Nat, n < 256 ∧ a = (n : Int) := ⟨a.toNat, by omega, by omega⟩
theorem b16 (c a : Int) (ha : 0 ≤ a ∧ a < 256) : (c * 256 + a) % 65536 % 256 = a ∧ 0 ≤ (c * 256 + a) % 65536 := by omega
theorem b17 (x b : Int) (hb : 0 ≤ b ∧ b < 256) : (x * 256 + b) % 65536 / 256 = x % 256 := by omega
theorem q0 {x : Int} {a : Nat} (h : x % 256 = (a : Int)) : (x / 4 % 64).toNat = a / 4 := by omega
theorem q1 {x : Int} {a : Nat} (h : x % 256 = (a : Int)) : (x % 4 * 16).toNat = a % 4 * 16 := by omega
theorem q2 {y : Int} {a b : Nat} (h : y % 256 = (b : Int)) (h2 : y / 256 = (a : Int)) : (y / 16 % 64).toNat = a % 4 * 16 + b / 16 := by omega
theorem q3 {y : Int} {b : Nat} (h : y % 256 = (b : Int)) : (y % 16 * 4).toNat = b % 16 * 4 := by omega
theorem q4 {z : Int} {b c : Nat} (h : z % 256 = (c : Int)) (h2 : z / 256 = (b : Int)) : (z / 64 % 64).toNat = b % 16 * 4 + c / 64 := by omega
theorem q5 {z : Int} {c : Nat} (h : z % 256 = (c : Int)) : (z / 1 % 64).toNat = c % 64 := by omega
theorem t0 {n k : Nat} (hk : k < 256) : ((n / 4 : Nat) : Int) * 4 + ((n % 4 * 16 + k / 16 : Nat) : Int) / 16 = (n : Int) := by omega
theorem t1 {n k : Nat} (hk : k < 256) : ((n % 4 * 16 + k / 16 : Nat) : Int) % 16 = (k : Int) / 16 := by omega
theorem t2 {k j : Nat} (hj : j < 256) : (k : Int) / 16 * 16 + ((k % 16 * 4 + j / 64 : Nat) : Int) / 4 = (k : Int) := by omega
theorem t3 {k j : Nat} (hj : j < 256) : ((k % 16 * 4 + j / 64 : Nat) : Int) % 4 = (j : Int) / 64 := by omega
theorem dec2 {o : List Int} {a b : Int} (ha : 0 ≤ a ∧ a < 256) (hb : 0 ≤ b ∧ b < 256) (c : Nat) (hc : c < 256) :
    (toI ((four4 (whole3 a.toNat b.toNat c)).take 2)).foldl decN (o, 0, 0, 0) = (o ++ [a], 2, (b / 16 : Int), 0) := by
  obtain ⟨n, hn, rfl⟩ := natB ha
  obtain ⟨k, hk, rfl⟩ := natB hb
  show decN (decN (o, 0, 0, 0) (b64N (whole3 n k c / 262144 % 64) : Int)) (b64N (whole3 n k c / 4096 % 64) : Int) = _
  rw [n0, n1, w0 hn hk hc, w1 hn hk hc, t0 hk, t1 hk]
theorem dec3 {o : List Int} {a b c : Int} (ha : 0 ≤ a ∧ a < 256) (hb : 0 ≤ b ∧ b < 256) (hc : 0 ≤ c ∧ c < 256) :
    (toI ((four4 (whole3 a.toNat b.toNat c.toNat)).take 3)).foldl decN (o, 0, 0, 0) = (o ++ [a, b], 3, (c / 64 : Int), 0) := by
  obtain ⟨n, hn, rfl⟩ := natB ha
  obtain ⟨k, hk, rfl⟩ := natB hb
  obtain ⟨j, hj, rfl⟩ := natB hc
  show decN (decN (decN (o, 0, 0, 0) (b64N (whole3 n k j / 262144 % 64) : Int)) (b64N (whole3 n k j / 4096 % 64) : Int)) (b64N (whole3 n k j / 64 % 64) : Int) = _
  rw [n0, n1, n2, List.append_assoc, w0 hn hk hj, w1 hn hk hj, w2 hn hk hj, t0 hk, t1 hk, t2 hj, t3 hj]
  rfl
theorem dec4 {o : List Int} {a b c : Int} (ha : 0 ≤ a ∧ a < 256) (hb : 0 ≤ b ∧ b < 256) (hc : 0 ≤ c ∧ c < 256) :
    (toI (four4 (whole3 a.toNat b.toNat c.toNat))).foldl decN (o, 0, 0, 0) = (o ++ [a, b, c], 0, 0, 0) := by
  have e : toI (four4 (whole3 a.toNat b.toNat c.toNat)) = toI ((four4 (whole3 a.toNat b.toNat c.toNat)).take 3) ++ [(b64N (whole3 a.toNat b.toNat c.toNat / 1 % 64) : Int)] := rfl
  rw [e, List.foldl_append, dec3 ha hb hc]
  show decN _ _ = _
  rw [n3, List.append_assoc]
  unfold whole3
  congr 2
  show [_, _, _] = [_, _, _]
  congr 1; congr 1; congr 1; omega
theorem in_tail {a : Int} {r : List Int} (h : KBa.In (a :: r)) : (0 ≤ a ∧ a < 256) ∧ KBa.In r := ⟨h a (.head _), fun n hn => h n (.tail _ hn)⟩
theorem f_dec' : ∀ (ns : List Int) (o : List Int), KBa.In ns → ∃ q l p, (toI (fourL ns)).foldl decN (o, 0, 0, 0) = (o ++ ns, q, l, p) ∧ (q = 0 ∨ 2 ≤ q) ∧ (q = 0 ∨ 4 ≤ q + p)
  | [], o, _ => ⟨0, 0, 0, by simp [fourL, toI], .inl rfl, .inl rfl⟩
  | [a], o, h => ⟨2, 0, 2, by
      show (toI ((four4 (whole3 a.toNat 0 0)).take 2 ++ [61, 61])).foldl decN (o, 0, 0, 0) = _
      rw [toI_append, List.foldl_append]
      have := dec2 (o := o) (b := 0) (in_tail h).1 (by omega) 0 (by omega)
      simp only [Int.toNat_zero] at this
      rw [this]
      show decN (decN _ 61) 61 = _
      rw [decN_eq, decN_eq]; rfl, .inr (by omega), .inr (by omega)⟩
  | [a, b], o, h => ⟨3, 0, 1, by
      show (toI ((four4 (whole3 a.toNat b.toNat 0)).take 3 ++ [61])).foldl decN (o, 0, 0, 0) = _
      rw [toI_append, List.foldl_append]
      have := dec3 (o := o) (c := 0) (in_tail h).1 (in_tail (in_tail h).2).1 (by omega)
      simp only [Int.toNat_zero] at this
      rw [this]
      show decN _ 61 = _
      rw [decN_eq]; rfl, .inr (by omega), .inr (by omega)⟩
  | a :: b :: c :: r, o, h => by
    obtain ⟨ha, h⟩ := in_tail h
    obtain ⟨hb, h⟩ := in_tail h
    obtain ⟨hc, h⟩ := in_tail h
    obtain ⟨q, l, p, e, e1, e2⟩ := f_dec' r (o ++ [a, b, c]) h
    refine ⟨q, l, p, ?_, e1, e2⟩
    show (toI (four4 (whole3 a.toNat b.toNat c.toNat) ++ fourL r)).foldl decN (o, 0, 0, 0) = _
    rw [toI_append, List.foldl_append, dec4 ha hb hc, e, List.append_assoc]
    rfl
theorem decN_skip {st : DSt} : decN (decN st 33) 10 = st := by
  have e : ∀ st : DSt, decN st 33 = st := fun st => rfl
  have e2 : ∀ st : DSt, decN st 10 = st := fun st => rfl
  rw [e, e2]
theorem decRunX (A B : List Nat) : decRunN (toI (A ++ [33, 10] ++ B)) = decRunN (toI (A ++ B)) := by
  unfold decRunN
  rw [toI_append, toI_append, toI_append, List.foldl_append, List.foldl_append, List.foldl_append]
  congr 1
-- strict
theorem foldlM_app {α β : Type} {f : β → α → Option β} (a b : List α) (x : β) : (a ++ b).foldlM f x = (a.foldlM f x).bind fun y => b.foldlM f y := by
  rw [List.foldlM_append]; rfl
theorem decS2 {o : List Int} {a b : Int} (ha : 0 ≤ a ∧ a < 256) (hb : 0 ≤ b ∧ b < 256) (c : Nat) (hc : c < 256) :
    (toI ((four4 (whole3 a.toNat b.toNat c)).take 2)).foldlM decS (o, 0, 0, 0) = some (o ++ [a], 2, (b / 16 : Int), 0) := by
  obtain ⟨n, hn, rfl⟩ := natB ha
  obtain ⟨k, hk, rfl⟩ := natB hb
  show ([(b64N (whole3 n k c / 262144 % 64) : Int), (b64N (whole3 n k c / 4096 % 64) : Int)]).foldlM decS (o, 0, 0, 0) = _
  simp only [List.foldlM_cons, List.foldlM_nil, s0, s1, Option.bind_eq_bind, Option.bind_some, Option.pure_def]
  rw [w0 hn hk hc, w1 hn hk hc, t0 hk, t1 hk]
theorem decS3 {o : List Int} {a b c : Int} (ha : 0 ≤ a ∧ a < 256) (hb : 0 ≤ b ∧ b < 256) (hc : 0 ≤ c ∧ c < 256) :
    (toI ((four4 (whole3 a.toNat b.toNat c.toNat)).take 3)).foldlM decS (o, 0, 0, 0) = some (o ++ [a, b], 3, (c / 64 : Int), 0) := by
  obtain ⟨n, hn, rfl⟩ := natB ha
  obtain ⟨k, hk, rfl⟩ := natB hb
  obtain ⟨j, hj, rfl⟩ := natB hc
  show ([(b64N (whole3 n k j / 262144 % 64) : Int), (b64N (whole3 n k j / 4096 % 64) : Int), (b64N (whole3 n k j / 64 % 64) : Int)]).foldlM decS (o, 0, 0, 0) = _
  simp only [List.foldlM_cons, List.foldlM_nil, s0, s1, s2, Option.bind_eq_bind, Option.bind_some, Option.pure_def, List.append_assoc]
  rw [w0 hn hk hj, w1 hn hk hj, w2 hn hk hj, t0 hk, t1 hk, t2 hj, t3 hj]
  rfl
theorem decS4 {o : List Int} {a b c : Int} (ha : 0 ≤ a ∧ a < 256) (hb : 0 ≤ b ∧ b < 256) (hc : 0 ≤ c ∧ c < 256) :
    (toI (four4 (whole3 a.toNat b.toNat c.toNat))).foldlM decS (o, 0, 0, 0) = some (o ++ [a, b, c], 0, 0, 0) := by
  have e : toI (four4 (whole3 a.toNat b.toNat c.toNat)) = toI ((four4 (whole3 a.toNat b.toNat c.toNat)).take 3) ++ [(b64N (whole3 a.toNat b.toNat c.toNat / 1 % 64) : Int)] := rfl
  rw [e, foldlM_app, decS3 ha hb hc]
  simp only [List.foldlM_cons, List.foldlM_nil, s3, Option.bind_eq_bind, Option.bind_some, Option.pure_def, List.append_assoc]
  unfold whole3
  show some (_, _, _, _) = some (_, _, _, _)
  congr 2
  show _ ++ [_, _, _] = _ ++ [_, _, _]
  congr 1; congr 1; congr 1; congr 1; omega
theorem f_decS' : ∀ (ns : List Int) (o : List Int), KBa.In ns → ∃ q l p, (toI (fourL ns)).foldlM decS (o, 0, 0, 0) = some (o ++ ns, q, l, p) ∧ (q = 0 ∨ 2 ≤ q) ∧ (q = 0 ∨ 4 ≤ q + p)
  | [], o, _ => ⟨0, 0, 0, by simp [fourL, toI], .inl rfl, .inl rfl⟩
  | [a], o, h => ⟨2, 0, 2, by
      show (toI ((four4 (whole3 a.toNat 0 0)).take 2 ++ [61, 61])).foldlM decS (o, 0, 0, 0) = _
      rw [toI_append, foldlM_app]
      have := decS2 (o := o) (b := 0) (in_tail h).1 (by omega) 0 (by omega)
      simp only [Int.toNat_zero] at this
      rw [this]
      have e : toI [61, 61] = [61, 61] := rfl
      rw [e]
      simp only [List.foldlM_cons, List.foldlM_nil, Option.bind_eq_bind, Option.bind_some, Option.pure_def]
      rw [decS_eq (by omega), Option.bind_some, decS_eq (by omega)]; rfl, .inr (by omega), .inr (by omega)⟩
  | [a, b], o, h => ⟨3, 0, 1, by
      show (toI ((four4 (whole3 a.toNat b.toNat 0)).take 3 ++ [61])).foldlM decS (o, 0, 0, 0) = _
      rw [toI_append, foldlM_app]
      have := decS3 (o := o) (c := 0) (in_tail h).1 (in_tail (in_tail h).2).1 (by omega)
      simp only [Int.toNat_zero] at this
      rw [this]
      have e : toI [61] = [61] := rfl
      rw [e]
      simp only [List.foldlM_cons, List.foldlM_nil, Option.bind_eq_bind, Option.bind_some, Option.pure_def]
      rw [decS_eq (by omega)]; rfl, .inr (by omega), .inr (by omega)⟩
  | a :: b :: c :: r, o, h => by
    obtain ⟨ha, h⟩ := in_tail h
    obtain ⟨hb, h⟩ := in_tail h
    obtain ⟨hc, h⟩ := in_tail h
    obtain ⟨q, l, p, e, e1, e2⟩ := f_decS' r (o ++ [a, b, c]) h
    refine ⟨q, l, p, ?_, e1, e2⟩
    show (toI (four4 (whole3 a.toNat b.toNat c.toNat) ++ fourL r)).foldlM decS (o, 0, 0, 0) = _
    rw [toI_append, foldlM_app, decS4 ha hb hc]
    show (toI (fourL r)).foldlM decS _ = _
    rw [e, List.append_assoc]
    rfl
-- one '=' short
theorem f_short' : ∀ (ns : List Int) (o : List Int), KBa.In ns → (fourL ns).getLast? = some 61 → ∃ o' q l p, (toI ((fourL ns).take ((fourL ns).length - 1))).foldl decN (o, 0, 0, 0) = (o', q, l, p) ∧ (q = 0 ∨ 2 ≤ q) ∧ ¬ (q = 0 ∨ 4 ≤ q + p)
  | [], o, _, hl => by simp [fourL] at hl
  | [a], o, h, _ => ⟨o ++ [a], 2, 0, 1, by
      show (toI ((four4 (whole3 a.toNat 0 0)).take 2 ++ [61])).foldl decN (o, 0, 0, 0) = _
      rw [toI_append, List.foldl_append]
      have := dec2 (o := o) (b := 0) (in_tail h).1 (by omega) 0 (by omega)
      simp only [Int.toNat_zero] at this
      rw [this]
      show decN _ 61 = _
      rw [decN_eq]; rfl, .inr (by omega), by omega⟩
  | [a, b], o, h, _ => ⟨o ++ [a, b], 3, 0, 0, by
      show (toI ((four4 (whole3 a.toNat b.toNat 0)).take 3)).foldl decN (o, 0, 0, 0) = _
      have := dec3 (o := o) (c := 0) (in_tail h).1 (in_tail (in_tail h).2).1 (by omega)
      simp only [Int.toNat_zero] at this
      rw [this]; rfl, .inr (by omega), by omega⟩
  | a :: b :: c :: r, o, h, hl => by
    obtain ⟨ha, h⟩ := in_tail h
    obtain ⟨hb, h⟩ := in_tail h
    obtain ⟨hc, h⟩ := in_tail h
    have hf : fourL (a :: b :: c :: r) = four4 (whole3 a.toNat b.toNat c.toNat) ++ fourL r := rfl
    rw [hf] at hl ⊢
    rcases List.eq_nil_or_concat (fourL r) with hr | ⟨u, d, hr⟩
    · rw [hr, List.append_nil] at hl
      have := four4_ok 61 (List.mem_of_getLast? hl)
      omega
    · have hl' : (fourL r).getLast? = some 61 := by
        rw [hr] at hl ⊢
        rw [List.concat_eq_append] at hl ⊢
        rw [← List.append_assoc, List.getLast?_concat] at hl
        rw [List.getLast?_concat]
        exact hl
      obtain ⟨o', q, l, p, e, e1, e2⟩ := f_short' r (o ++ [a, b, c]) h hl'
      refine ⟨o', q, l, p, ?_, e1, e2⟩
      have h4 : (four4 (whole3 a.toNat b.toNat c.toNat)).length = 4 := rfl
      have hp : 0 < (fourL r).length := by rw [hr]; simp
      rw [List.length_append, h4, show 4 + (fourL r).length - 1 = 4 + ((fourL r).length - 1) by omega, ← h4, List.take_length_add_append, toI_append, List.foldl_append, dec4 ha hb hc, e]
-- the encoder
theorem b64C_N {x : Int} {y : Nat} (h : x.toNat = y) : b64C x = (b64N y : Int) := by subst h; rfl
theorem f_enc' : ∀ (ns : List Int) (o : List Int) (c0 : Int), KBa.In ns → encFin (ns.foldl encStep (o, 0, c0)) = o ++ toI (fourL ns)
  | [], o, c0, _ => by simp [encFin, fourL, toI]
  | [a], o, c0, h => by
    obtain ⟨ha, _⟩ := in_tail h
    show encFin (encStep (o, 0, c0) a) = _
    have e1 : encStep (o, 0, c0) a = (o ++ [b64C ((c0 * 256 + a) % 65536 / 4 % 64)], 2, (c0 * 256 + a) % 65536) := by simp [encStep]
    have hx := (b16 c0 a ha).1
    rw [e1]
    generalize (c0 * 256 + a) % 65536 = x at hx ⊢
    obtain ⟨n, hn, rfl⟩ := natB ha
    show (o ++ [b64C _]) ++ [b64C (x % 4 * 16)] ++ [61] ++ [61] = o ++ [(b64N (whole3 n 0 0 / 262144 % 64) : Int), (b64N (whole3 n 0 0 / 4096 % 64) : Int), 61, 61]
    rw [w0 hn (by decide) (by decide), w1 hn (by decide) (by decide), b64C_N (q0 hx), b64C_N (q1 hx)]
    simp
  | [a, b], o, c0, h => by
    obtain ⟨ha, h⟩ := in_tail h
    obtain ⟨hb, _⟩ := in_tail h
    show encFin (encStep (encStep (o, 0, c0) a) b) = _
    have e1 : encStep (o, 0, c0) a = (o ++ [b64C ((c0 * 256 + a) % 65536 / 4 % 64)], 2, (c0 * 256 + a) % 65536) := by simp [encStep]
    have e2 : ∀ (o : List Int) (c : Int), encStep (o, 2, c) b = (o ++ [b64C ((c * 256 + b) % 65536 / 16 % 64)], 4, (c * 256 + b) % 65536) := by intro o c; simp [encStep]
    have hx := (b16 c0 a ha).1
    rw [e1, e2]
    generalize (c0 * 256 + a) % 65536 = x at hx ⊢
    have hy := (b16 x b hb).1
    have hz := b17 x b hb
    rw [hx] at hz
    generalize (x * 256 + b) % 65536 = y at hy hz ⊢
    obtain ⟨n, hn, rfl⟩ := natB ha
    obtain ⟨k, hk, rfl⟩ := natB hb
    show ((o ++ [b64C _]) ++ [b64C _]) ++ [b64C (y % 16 * 4)] ++ [61] = o ++ [(b64N (whole3 n k 0 / 262144 % 64) : Int), (b64N (whole3 n k 0 / 4096 % 64) : Int), (b64N (whole3 n k 0 / 64 % 64) : Int), 61]
    rw [w0 hn hk (by decide), w1 hn hk (by decide), w2 hn hk (by decide), b64C_N (q0 hx), b64C_N (q2 hy hz), b64C_N (q3 hy)]
    simp
  | a :: b :: c :: r, o, c0, h => by
    obtain ⟨ha, h⟩ := in_tail h
    obtain ⟨hb, h⟩ := in_tail h
    obtain ⟨hc, h⟩ := in_tail h
    show encFin (r.foldl encStep (encStep (encStep (encStep (o, 0, c0) a) b) c)) = _
    have e1 : encStep (o, 0, c0) a = (o ++ [b64C ((c0 * 256 + a) % 65536 / 4 % 64)], 2, (c0 * 256 + a) % 65536) := by simp [encStep]
    have e2 : ∀ (o : List Int) (c : Int), encStep (o, 2, c) b = (o ++ [b64C ((c * 256 + b) % 65536 / 16 % 64)], 4, (c * 256 + b) % 65536) := by intro o c; simp [encStep]
    have e3 : ∀ (o : List Int) (d : Int), encStep (o, 4, d) c = (o ++ [b64C ((d * 256 + c) % 65536 / 64 % 64)] ++ [b64C ((d * 256 + c) % 65536 / 1 % 64)], 0, (d * 256 + c) % 65536) := by intro o d; simp [encStep]
    have hx := (b16 c0 a ha).1
    rw [e1, e2, e3, f_enc' r _ _ h]
    generalize (c0 * 256 + a) % 65536 = x at hx ⊢
    have hy := (b16 x b hb).1
    have hz := b17 x b hb
    rw [hx] at hz
    generalize (x * 256 + b) % 65536 = y at hy hz ⊢
    have hu := (b16 y c hc).1
    have hv := b17 y c hc
    rw [hy] at hv
    generalize (y * 256 + c) % 65536 = z at hu hv ⊢
    obtain ⟨n, hn, rfl⟩ := natB ha
    obtain ⟨k, hk, rfl⟩ := natB hb
    obtain ⟨j, hj, rfl⟩ := natB hc
    have hf : toI (fourL ((n : Int) :: (k : Int) :: (j : Int) :: r)) = [(b64N (whole3 n k j / 262144 % 64) : Int), (b64N (whole3 n k j / 4096 % 64) : Int), (b64N (whole3 n k j / 64 % 64) : Int), (b64N (whole3 n k j / 1 % 64) : Int)] ++ toI (fourL r) := by
      show toI (four4 _ ++ fourL r) = _
      rw [toI_append]; rfl
    rw [hf, w0 hn hk hj, w1 hn hk hj, w2 hn hk hj, w3 hn hk hj, b64C_N (q0 hx), b64C_N (q2 hy hz), b64C_N (q4 hu hv), b64C_N (q5 hu)]
    simp
-- base 16
theorem hex_ok (n : Int) (h : 0 ≤ n ∧ n < 256) : hexV (upN (Bytes.hexDigit (n.toNat / 16)) : Int) * 16 + hexV (upN (Bytes.hexDigit (n.toNat % 16)) : Int) = n := by
  have key : ∀ j : Fin 256, hexV (upN (Bytes.hexDigit (j.val / 16)) : Int) * 16 + hexV (upN (Bytes.hexDigit (j.val % 16)) : Int) = (j.val : Int) := by decide +kernel
  have := key ⟨n.toNat, by omega⟩
  simp only at this
  rw [this]; omega
theorem unhex_cons (a b : Int) (r : List Int) (k : Nat) : unhexK (a :: b :: r) (k + 1) = (hexV a * 16 + hexV b) :: unhexK r k := by
  unfold unhexK
  rw [List.range_succ_eq_map, List.map_cons, List.map_map]
  congr 1
theorem fx_un' : ∀ ns : List Int, KBa.In ns → unhexK (toI ((hexL ns).map upN)) ns.length = ns
  | [], _ => rfl
  | n :: r, h => by
    obtain ⟨hn, h⟩ := in_tail h
    have e : toI ((hexL (n :: r)).map upN) = (upN (Bytes.hexDigit (n.toNat / 16)) : Int) :: (upN (Bytes.hexDigit (n.toNat % 16)) : Int) :: toI ((hexL r).map upN) := rfl
    rw [e, List.length_cons, unhex_cons, hex_ok n hn, fx_un' r h]
section
variable {ns : List Int} (h : KBa.In ns)
include h
theorem fx_up : ∀ n ∈ toI ((hexL ns).map upN), isHexUp n.toNat = true := by
  have key : ∀ j : Fin 16, isHexUp (upN (Bytes.hexDigit j.val)) = true := by decide +kernel
  intro n hn
  obtain ⟨c, hc, rfl⟩ := List.mem_map.mp hn
  obtain ⟨d, hd, rfl⟩ := List.mem_map.mp hc
  obtain ⟨k, hk, hd⟩ := List.mem_flatMap.mp hd
  have hb := h k hk
  simp only [List.mem_cons, List.not_mem_nil, or_false] at hd
  rw [Int.toNat_natCast]
  rcases hd with rfl | rfl
  · exact key ⟨k.toNat / 16, by omega⟩
  · exact key ⟨k.toNat % 16, by omega⟩
theorem fx_even : (toI ((hexL ns).map upN)).length % 2 = 0 := by
  rw [toI_length, List.length_map, hexL_length]; omega
theorem fx_un : unhexK (toI ((hexL ns).map upN)) (((hexL ns).map upN).length / 2) = ns := by
  rw [List.length_map, hexL_length, show 2 * ns.length / 2 = ns.length by omega]
  exact fx_un' ns h
theorem fx_low (hne : ¬ hexL ns = (hexL ns).map upN) : ∃ n ∈ toI (hexL ns), isHexUp n.toNat = false := by
  apply Classical.byContradiction
  intro hx
  apply hne
  have e : (hexL ns).map upN = (hexL ns).map _root_.id := by
    apply List.map_congr_left
    intro c hc
    have hm : (c : Int) ∈ toI (hexL ns) := List.mem_map.mpr ⟨c, hc, rfl⟩
    have hu : isHexUp c = true := by
      cases hq : isHexUp c with
      | true => rfl
      | false => exact absurd ⟨(c : Int), hm, by rw [Int.toNat_natCast]; exact hq⟩ hx
    unfold isHexUp at hu
    unfold upN
    simp at hu
    simp only [_root_.id]
    split <;> omega
  rw [e, List.map_id]
theorem f_enc : b64E ns = toI (fourL ns) := by
  have := f_enc' ns [] 0 h
  simpa [b64E, encSt] using this
theorem f_asc : Asc (fourL ns) := fun c hc => (f_chars ns c hc).1
theorem f_len : (fourL ns).length ≤ 4 * ns.length := f_len' ns
theorem f_dec : ∃ q l p, decRunN (toI (fourL ns)) = (ns, q, l, p) ∧ (q = 0 ∨ 2 ≤ q) ∧ (q = 0 ∨ 4 ≤ q + p) := by
  have := f_dec' ns [] h
  simpa [decRunN] using this
theorem f_decX : ∃ q l p, decRunN (toI ((fourL ns).take 2 ++ [33, 10] ++ (fourL ns).drop 2)) = (ns, q, l, p) ∧ (q = 0 ∨ 2 ≤ q) ∧ (q = 0 ∨ 4 ≤ q + p) := by
  rw [decRunX, List.take_append_drop]
  exact f_dec h
theorem f_decS : ∃ q l p, decRunS (toI (fourL ns)) = some (ns, q, l, p) ∧ (q = 0 ∨ 2 ≤ q) ∧ (q = 0 ∨ 4 ≤ q + p) := by
  have := f_decS' ns [] h
  simpa [decRunS] using this
theorem f_short (he : (fourL ns).getLast? = some 61) : ∃ o q l p, decRunN (toI ((fourL ns).take ((fourL ns).length - 1))) = (o, q, l, p) ∧ (q = 0 ∨ 2 ≤ q) ∧ ¬ (q = 0 ∨ 4 ≤ q + p) :=
  f_short' ns [] h he
theorem f_trD : (toI (((fourL ns).map (rep 43 46)).map (rep 47 95))).map trD = toI (fourL ns) := by
  simp only [toI, List.map_map]
  apply List.map_congr_left
  intro c hc
  have := f_chars ns c hc
  have a1 : ((c : Int) = 46) ↔ c = 46 := by omega
  have a2 : ((c : Int) = 95) ↔ c = 95 := by omega
  by_cases h1 : c = 43
  · subst h1; rfl
  · by_cases h2 : c = 47
    · subst h2; rfl
    · simp [trD, rep, Function.comp, a1, a2, h1, h2, this]
end
end
section
theorem rep_free {a b : Nat} : ∀ l : List Nat, a ∉ l → l.map (rep a b) = l
  | [], _ => rfl
  | k :: r, h => by
    have h1 : rep a b k = k := if_neg fun (e : k = a) => h (e ▸ List.mem_cons_self ..)
    rw [List.map_cons, h1, rep_free r fun m => h (List.mem_cons_of_mem _ m)]
theorem rep_join {a b : Nat} : ∀ parts : List Str, (∀ p ∈ parts, a ∉ p.cps.toList) → (Str.join ⟨#[a]⟩ parts).cps.toList.map (rep a b) = (Str.join ⟨#[b]⟩ parts).cps.toList
  | [], _ => rfl
  | [p], h => rep_free _ (h p (List.mem_singleton.mpr rfl))
  | p :: q :: r, h => by
    have ih := rep_join (b := b) (q :: r) fun x hx => h x (List.mem_cons_of_mem _ hx)
    show (p ++ ⟨#[a]⟩ ++ Str.join ⟨#[a]⟩ (q :: r)).cps.toList.map (rep a b) = (p ++ ⟨#[b]⟩ ++ Str.join ⟨#[b]⟩ (q :: r)).cps.toList
    simp only [Str.cps_append, Array.toList_append, List.map_append]
    rw [ih, rep_free _ (h p (List.mem_cons_self ..))]
    simp [rep]
theorem replace_mk (xs : List Nat) (a b : Nat) : Txt.replace (mkS xs) (mkS [a]) (mkS [b]) = mkS (xs.map (rep a b)) := by
  have e : (Txt.replace (mkS xs) ⟨#[a]⟩ ⟨#[b]⟩).cps.toList = (mkS xs).cps.toList.map (rep a b) := by
    rw [StrLaws.replace_one, ← rep_join _ (StrLaws.split_free (mkS xs) a), StrLaws.join_split]
  show Txt.replace (mkS xs) ⟨#[a]⟩ ⟨#[b]⟩ = _
  generalize Txt.replace (mkS xs) ⟨#[a]⟩ ⟨#[b]⟩ = r at e
  obtain ⟨⟨l⟩⟩ := r
  have e : l = xs.map (rep a b) := e
  rw [e]; rfl
theorem endswith_mk (xs : List Nat) (c : Nat) : Txt.endswith (mkS xs) (mkS [c]) = decide (xs.getLast? = some c) := by
  unfold Txt.endswith
  rw [StrLaws.subAt_eq, mkS_length, mkS_length]
  show (decide (0 + 1 ≤ xs.length) && (List.take 1 (List.drop (xs.length - 1) xs) == [c])) = _
  rcases List.eq_nil_or_concat xs with rfl | ⟨l, d, rfl⟩
  · rfl
  · have e1 : (l ++ [d]).length - 1 = l.length := by simp
    rw [List.concat_eq_append, e1, List.drop_left]
    by_cases h : d = c
    · subst h; simp
    · simp [h]
theorem mk_inj {a b : List Nat} : (mkS a == mkS b) = decide (a = b) := by
  by_cases h : a = b
  · subst h; simp
  · rw [decide_eq_false h]
    apply beq_eq_false_iff_ne.mpr
    intro e
    have := congrArg (fun s : Str => s.cps.toList) e
    exact h (by simpa [mkS] using this)
theorem Str_append {a b : List Nat} : mkS a ++ mkS b = mkS (a ++ b) := by
  show (⟨a.toArray ++ b.toArray⟩ : PySem.Str) = ⟨(a ++ b).toArray⟩
  simp
theorem litA : PySem.Str.ofString "A" = mkS [65] := rfl
theorem litGG : PySem.Str.ofString "GG" = mkS [71, 71] := rfl
theorem litX : PySem.Str.ofString "!" = mkS [33] := rfl
theorem litXN : PySem.Str.ofString "!\n" = mkS [33, 10] := rfl
theorem litE : PySem.Str.ofString "" = mkS [] := rfl
section
variable {prog : Program} {w : World} {A : Around} {E : Value → Shared → Prop} {s : Shared} {t u : Tok} {Q : Value → Shared → Prop}
theorem add_mk {x y : Str} {a b : List Nat} (e1 : x = mkS a) (e2 : y = mkS b) (hz : a.length + b.length ≤ 1048576) (h : ∀ t' k, Q (.str (mkS (a ++ b)) t') { s with toks := k }) : wpAny (model prog w) A (binaryOp .Add (.str x t) (.str y u)) Q E s := by
  subst e1; subst e2
  refine add_str ?_ (by rw [mkS_length, mkS_length, sizeLine_eq]; omega)
  rw [Str_append]
  exact h
theorem eq_mk_true {a b : List Nat} (e : a = b) (h : Q (.bool true) s) : wpAny (model prog w) A (compareOp .Eq (.str (mkS a) t) (.str (mkS b) u)) Q E s :=
  PyProof.Rows.eq_str (by rw [mk_inj, decide_eq_true e]; exact h)
theorem eq_mk_false {a b : List Nat} (e : ¬ a = b) (h : Q (.bool false) s) : wpAny (model prog w) A (compareOp .Eq (.str (mkS a) t) (.str (mkS b) u)) Q E s :=
  PyProof.Rows.eq_str (by rw [mk_inj, decide_eq_false e]; exact h)
theorem ne_same {b : Array UInt8} (h : Q (.bool false) s) : wpAny (model prog w) A (compareOp .NotEq (.bytes b t) (.bytes b u)) Q E s :=
  ne_bytes (by simpa using h)
theorem eq_same {b : Array UInt8} (h : Q (.bool true) s) : wpAny (model prog w) A (compareOp .Eq (.bytes b t) (.bytes b u)) Q E s :=
  eq_bytes (by simpa using h)
end
end
section
-- the count of tokens never falls
theorem runs_toks {M : Model} {Γ : Ctx} {p : Pos} {t : Sem Fin} {fs : List Frame} {s s' : Shared} {e : End} (h : Runs M Γ p t fs s e s') : s.toks ≤ s'.toks := by
  induction h with
  | done | raise | yield => exact Nat.le_refl _
  | again _ _ ih | rule _ ih | «at» _ ih | load _ _ ih | loadIfAlive _ ih | point _ ih | ask _ ih | handled _ ih | genState _ _ ih | stack _ ih | thread _ ih => exact ih
  | update _ _ ih | alloc _ ih | choose _ _ ih | os _ ih | newGen _ ih => exact ih
  | fresh _ ih => exact Nat.le_trans (Nat.le_succ _) ih
  | call _ _ ih1 ih2 => exact Nat.le_trans ih1 ih2
  | callSusp _ ih => exact ih
  | resumeFresh _ _ _ _ ih1 ih2 => exact Nat.le_trans ih1 ih2
  | resumeSuspended _ _ _ _ ih1 ih2 => exact Nat.le_trans ih1 ih2
  | resumeJustStarted _ _ _ ih => exact ih
  | resumeThrowFresh _ _ ih => exact ih
  | resumeRunning _ _ ih => exact ih
  | resumeFinished _ _ ih => exact ih
  | segRet _ _ ih1 ih2 => exact Nat.le_trans ih1 ih2
  | segGen _ _ ih1 ih2 => exact Nat.le_trans ih1 ih2
  | segSuspOut _ _ ih => exact ih
  | segSuspGen _ _ _ _ ih1 ih2 => exact Nat.le_trans ih1 ih2
theorem wakes_toks {M : Model} {Γ : Ctx} {p : Pos} {g : Nat} {r : Resume} {s s' : Shared} {res : GenResult} (h : Wakes M Γ p g r s res s') : s.toks ≤ s'.toks := by
  unfold Wakes at h
  split at h
  · exact h.elim
  · split at h
    · obtain ⟨e₁, s₁, h1, _, _, rfl⟩ := h
      have k := runs_toks h1; exact k
    · obtain ⟨_, rfl⟩ := h
      exact Nat.le_refl _
    · obtain ⟨_, rfl⟩ := h
      exact Nat.le_refl _
  · obtain ⟨e₁, s₁, h1, _, _, rfl⟩ := h
    have k := runs_toks h1; exact k
  · obtain ⟨_, rfl⟩ := h
    exact Nat.le_refl _
  · obtain ⟨_, rfl⟩ := h
    exact Nat.le_refl _
theorem wp_toks {X : Type} (M : Model) (Γ : Ctx) (tree : Sem X) : ∀ (post : X → Pos → Shared → Prop) (exc : Value → Pos → Shared → Prop) (p : Pos) (s : Shared), Sem.wp M Γ tree post exc p s →
    Sem.wp M Γ tree (fun a p' s' => post a p' s' ∧ s.toks ≤ s'.toks) (fun e p' s' => exc e p' s' ∧ s.toks ≤ s'.toks) p s := by
  induction tree with
  | pure x => exact fun _ _ _ _ h => ⟨h, Nat.le_refl _⟩
  | raise v => exact fun _ _ _ _ h => ⟨h, Nat.le_refl _⟩
  | unsupported | finish | yield | fork | await | register => exact fun _ _ _ _ h => h
  | rule _ k ih | «at» _ k ih | alloc _ k ih | loadIfAlive _ k ih | point _ k ih | ask k ih | os _ _ k ih | handled _ k ih | newGen _ k ih | stack k ih | thread k ih => exact fun post exc p s h => ih _ _ _ _ _ h
  | fresh k ih =>
    exact fun post exc p s h => Sem.wp_mono M Γ (k s.toks) (fun x p' s' q => ⟨q.1, Nat.le_trans (Nat.le_succ _) q.2⟩) (fun x p' s' q => ⟨q.1, Nat.le_trans (Nat.le_succ _) q.2⟩) _ _ (ih _ _ _ _ _ h)
  | load a _ k ih | genState a k ih => exact fun post exc p s ⟨o, ho, h⟩ => ⟨o, ho, ih _ _ _ _ _ h⟩
  | update a _ f k ih | choose _ _ k ih => exact fun post exc p s ⟨ha, h⟩ => ⟨ha, ih _ _ _ _ _ h⟩
  | call c h g l k ih =>
    exact fun post exc p s ⟨r, s', hr, h⟩ => ⟨r, s', hr, Sem.wp_mono M Γ (k r) (fun x p' s'' q => ⟨q.1, Nat.le_trans (runs_toks hr) q.2⟩) (fun x p' s'' q => ⟨q.1, Nat.le_trans (runs_toks hr) q.2⟩) _ _ (ih _ _ _ _ _ h)⟩
  | resume g r l k ih =>
    exact fun post exc p s ⟨res, s', hw, h⟩ => ⟨res, s', hw, Sem.wp_mono M Γ (k res) (fun x p' s'' q => ⟨q.1, Nat.le_trans (wakes_toks hw) q.2⟩) (fun x p' s'' q => ⟨q.1, Nat.le_trans (wakes_toks hw) q.2⟩) _ _ (ih _ _ _ _ _ h)⟩
def TokUp (a b : Nat) : Prop := a ≤ b
theorem TokUp.le {a b : Nat} (h : TokUp a b) : a ≤ b := h
theorem wpAny_telling {α : Type} {M : Model} {A : Around} {t : Sem α} {Q : α → Shared → Prop} {E : Value → Shared → Prop} {s : Shared} (h : wpAny M A t (fun v s' => TokUp s.toks s'.toks → Q v s') E s) : wpAny M A t Q E s :=
  fun Γ p hΓ => Sem.wp_mono M Γ t (fun _ _ _ q => q.1 q.2) (fun _ _ _ q => q.1) p s (wp_toks M Γ t _ _ p s (h Γ p hΓ))
end
section
-- a frame with cells: leaving it by a raise, and calling a function without cells from it
section
variable {M : Model} {A A₀ : Around} {E : Value → Shared → Prop} {s' : Shared} {base g g₂ h : Heap} {outer : List Env} {L a e t : Addr} {m : Str → Option Value} {env : Env} {Q : Unit → Shared → Prop} {news : List (Addr × Obj)}
theorem mem_frames {b : Addr} (hf : env.frame = some L) (hm : b ∈ (env :: outer).filterMap (·.frame)) : b = L ∨ b ∈ outer.filterMap (·.frame) := by
  rw [List.filterMap_cons_some hf] at hm
  exact List.mem_cons.mp hm
theorem leave_onSX {cls : Value} {vs : List Value} (K : Below A base outer g) (F : Fr g L g₂ m) (R : RaisedS base g₂ (env :: outer) e cls t vs news s'.heap) (hsm : g₂.UpToSlots s'.heap)
    (hQ : ∀ h', RaisedS base g outer e cls t vs news h' → g.UpToSlots h' → Q () { s' with heap := h' }) (hf : env.frame = some L := by rfl) :
    wpAny M (A.deeper env) (leaving env (.ref e)) Q E s' := by
  obtain ⟨⟨B, hB, hBG, hl, hfl, hnew⟩, htup⟩ := R
  exact wpAny_leaves_onW (Around.frames_deeper K.stack) hf hfl fun h' x1 x2 =>
    hQ h' ⟨⟨B, hB, fun b o q nm => hBG b o (F.keep b o q) (fun hm => by
      rcases mem_frames hf hm with z | z
      · rw [z, kts_self F] at q
        cases q
      · exact nm z), fun q hq => ⟨(hl q hq).1, kts_none F.keep (hl q hq).2.1, (hl q hq).2.2⟩, x1, hnew⟩, htup.of_slots x2⟩ ((Heap.UpToSlots.of_keeps F.keep).trans (hsm.trans x2))
end
section
variable {prog : Program} {w : World} {A₀ A : Around} {s : Shared} {base h₀ : Heap} {L a : Addr} {m : Str → Option Value} {env : Env} {news : List (Addr × Obj)} {K : Frag} {p : Program} {loose : List Str} {mean : ExcName → Option Value} {mg mb : Str → Option Value}
    {R : Result → Shared → Prop} {name qual : Str} {params : Arguments} {body : List Stmt} {scope : Scope} {dV kV doc pm cdv ct oc : Value} {an od : Option Addr} {osl : Array (Option Value)} {f : Addr} {args : Args} {binds : List (Str × Value)}
theorem told_enter (B : Below A₀ base [] h₀) (F : Fr h₀ L s.heap m) (X₀ : K.In h₀) (N : News h₀ L s.heap news) (T : Top p loose mean mg mb h₀) (hA : A.frames = some [env]) (hf : env.frame = some L) (hke : env.scope.kind = .function)
    (ho : K.lookup f = some ⟨oc, od, .func (fnOf name qual params body scope dV kV doc pm an cdv ct), osl⟩) (hcd : codeIn K cdv qual = true) (hroom : A.depth < recursionLimit)
    (hbind : BindsTo s (fnOf name qual params body scope dV kV doc pm an cdv ct) args binds) (hloc : ∀ y ∈ binds, scope.names.lookup y.1 = some .local)
    (h : ∀ g L' h₁, Fr h₀ L g m → Fr g L' h₁ (fun y => binds.reverse.lookup y) → News g L' h₁ news → Below A base [env] g → K.In g → Top p loose mean mg mb g → KtsDicts ([env].filterMap (·.frame)) g →
      wpAny (model prog w) (A.deeper (envOf qual scope L' f cdv)) (execs body (envOf qual scope L' f cdv))
        (fun fl s' => LeaveS0 ([env].filterMap (·.frame)) h₀ L m g R (match fl with | .ret v => v | _ => .none) s')
        (fun e s' => wpAny (model prog w) (A.deeper (envOf qual scope L' f cdv)) (leaving (envOf qual scope L' f cdv) e) (fun _ s'' => R (.error e) s'') (fun e' s'' => R (.error e') s'') s')
        { s with heap := h₁, toks := s.toks + binds.length })
    (hco : scope.isCoroutine = false) (hgen : scope.isGenerator = false) (hk : scope.kind = .function)
    (hcell : ∀ x ∈ scope.names, x.2 ≠ .cell) : codeAny (model prog w) A (.call (.ref f) args) R s := by
  have X := X₀.keeps F.keep
  refine codeAny_call_def (fd := fnOf name qual params body scope dV kV doc pm an cdv ct) (body := body) (binds := binds) hroom (X _ _ ho) rfl (T.nolimit.keeps F.keep) (codeRec_of X hcd) rfl hbind hcell hloc (fun h₁ hns hk₁ => ?_) hco hgen hk
  obtain ⟨oL, es, ep, hLg, hLd, hN, hNs, st, B₁⟩ := kts_enter (A := { A with frames := some [envOf "" env.scope L 0 .none] }) B F N rfl hke
  have B₂ : Below A base [env] (hideAll s.heap (news.map (·.1))) := ⟨hA, B₁.stays, by
    obtain ⟨q1, ⟨L₂, o, q2, q3⟩, q4⟩ := B₁.frames
    refine ⟨q1, ⟨L₂, o, hf.trans q2, q3⟩, trivial⟩⟩
  refine wpAny_mono (h _ s.heap.objs.size h₁ ⟨hN _ hLg, st, F.above⟩ ⟨hns, fun b o e => hk₁ b o (of_hideAll _ e), Nat.le_of_eq (hideAll_size _ _)⟩
    (fun p hp => ⟨hk₁ _ _ (N p hp).1, Nat.ne_of_lt (Heap.lt_size (N p hp).1), hideAll_none _ (List.mem_map_of_mem hp)⟩) B₂ (X₀.keeps st) (T.keeps st) (fun b hb => by
      rcases mem_frames hf hb with rfl | z
      · exact ⟨oL, es, ep, hLg, hLd⟩
      · simp at z)) (fun fl s' hl => ?_) fun _ _ y => y
  obtain ⟨g', L', m', news', T', F', N', k⟩ := hl
  have nL₀ : h₀.get? L = none := kts_self F
  obtain ⟨sl, hs⟩ := T'.up hLg
  refine k ⟨hNs sl _ (F'.keep _ _ hs), fun b o e => F'.keep b o (T'.other b o (st b o e) (fun q => by
    rcases mem_frames hf q with z | z
    · rw [z, nL₀] at e
      cases e
    · simp at z)), F.above⟩ fun p hp => ⟨(N' p hp).1, fun q => ?_, ?_⟩
  · have := (N' p hp).2.2; rw [q, hs] at this; cases this
  · cases q : h₀.get? p.1 with
    | none => rfl
    | some o =>
      obtain ⟨sl', hs'⟩ := T'.up (st _ _ q)
      have := (N' p hp).2.2
      rw [hs'] at this
      cases this
end
section
variable {α : Type} {prog : Program} {w : World} {A : Around} {s : Shared} {h₀ : Heap} {L : Addr} {m : Str → Option Value} {news : List (Addr × Obj)} {Q : α → Shared → Prop} {E : Value → Shared → Prop} {c : Sem α}
-- the branches of a test meet again: same answer, same frame, same news
def Met (h₀ : Heap) (L : Addr) (m : Str → Option Value) (news : List (Addr × Obj)) (s : Shared) (r v : α) (s' : Shared) : Prop :=
  v = r ∧ ∃ h' tk, s' = { s with heap := h', toks := tk } ∧ Fr h₀ L h' m ∧ News h₀ L h' news
theorem met {r : α} {h' : Heap} {tk : Nat} (F : Fr h₀ L h' m) (N : News h₀ L h' news) : Met h₀ L m news s r r { s with heap := h', toks := tk } := ⟨rfl, h', tk, rfl, F, N⟩
theorem met2 {r v : α} {h' : Heap} {tk : Nat} (e : v = r) (F : Fr h₀ L h' m) (N : News h₀ L h' news) : Met h₀ L m news s r v { s with heap := h', toks := tk } := ⟨e, h', tk, rfl, F, N⟩
theorem met_cut (r : α) (_ : Fr h₀ L s.heap m) (_ : News h₀ L s.heap news) (h1 : wpAny (model prog w) A c (Met h₀ L m news s r) E s) (h2 : ∀ h' tk, Fr h₀ L h' m → News h₀ L h' news → TokUp s.toks tk → Q r { s with heap := h', toks := tk }) : wpAny (model prog w) A c Q E s :=
  wpAny_telling (wpAny_mono h1 (fun v s' k l => by
    obtain ⟨rfl, h', tk, rfl, F, N⟩ := k
    exact h2 h' tk F N l) fun _ _ y => y)
end
end
section
section
variable {prog : Program} {w : World} {p : Program} {loose : List Str} {mean : ExcName → Option Value} {mg mb : Str → Option Value}
  {dp un : Nat} {gd : Option (List Code)} {cn : Str} {cs : Scope} {a : Addr} {ccd : Value} {cl : List (Str × Addr)} {outer : List Env} {A₀ : Around} {base h₀ : Heap} {L : Addr} {m : Str → Option Value}
  {news : List (Addr × Obj)} {s : Shared} {Q E : Value → Shared → Prop}
theorem L_b16encode (B : Below A₀ base outer h₀) (F : Fr h₀ L s.heap m) (X : (Mine.hd.heap_39 w.params).In h₀) (N : News h₀ L s.heap news) (T : Top p loose mean mg mb h₀) (hk : cs.kind = .function)
    (hd : dp + 10 < recursionLimit) (hu : un + 80 < cLine) {ns : List Int} {t : Tok} (hz : ns.length ≤ 64) (hi : KBa.In ns) 
    (h : ∀ t' h' tk', Fr h₀ L h' m → News h₀ L h' news → Q (.bytes (byteArr (toI ((hexL ns).map upN))) t') { s with heap := h', toks := tk' }) : wpAny (model prog w) (ktrTop dp un gd cn cs L a ccd cl outer) (call (.ref 161) [.bytes (byteArr ns) t]) Q E s := by
  rw [toI_upN] at h
  exact b16encode B F X N T hk hd hu ns t (by omega) hi h
theorem L_b16decode (B : Below A₀ base outer h₀) (F : Fr h₀ L s.heap m) (X : (Mine.hd.heap_39 w.params).In h₀) (N : News h₀ L s.heap news) (T : Top p loose mean mg mb h₀) (hk : cs.kind = .function)
    (hd : dp + 10 < recursionLimit) (hu : un + 80 < cLine) {ns : List Int} {t : Tok} (hz : ns.length ≤ 64) (hi : KBa.In ns) 
    (h : ∀ t' h' tk', Fr h₀ L h' m → News h₀ L h' news → Q (.bytes (byteArr ns) t') { s with heap := h', toks := tk' }) : wpAny (model prog w) (ktrTop dp un gd cn cs L a ccd cl outer) (call (.ref 169) [.str (mkS ((hexL ns).map upN)) t]) Q E s := by
  exact b16decode B F X N T hk hd hu _ t (by rw [List.length_map, hexL_length]; omega) (asc_upN (asc_hexL hi)) (fx_even hi) (fx_up hi) (by rw [fx_un hi]; exact h)
theorem L_b16decodeU (B : Below A₀ base outer h₀) (F : Fr h₀ L s.heap m) (X : (Mine.hd.heap_39 w.params).In h₀) (N : News h₀ L s.heap news) (T : Top p loose mean mg mb h₀) (hk : cs.kind = .function)
    (hd : dp + 10 < recursionLimit) (hu : un + 80 < cLine) {ns : List Int} {t : Tok} (hz : ns.length ≤ 64) (hi : KBa.In ns) 
    (h : ∀ t' h' tk', Fr h₀ L h' m → News h₀ L h' news → Q (.bytes (byteArr ns) t') { s with heap := h', toks := tk' }) : wpAny (model prog w) (ktrTop dp un gd cn cs L a ccd cl outer) (call (.ref 169) [.str (mkS (hexL ns)) t, .bool true]) Q E s := by
  refine b16decodeU B F X N T hk hd hu _ t (by rw [hexL_length]; omega) (asc_hexL hi) (by rw [toI_length, hexL_length]; omega) (by rw [← toI_upN]; exact fx_up hi) ?_
  have e := fx_un hi
  rw [toI_upN, List.length_map] at e
  rw [e]; exact h
theorem L_b16decode_eq (B : Below A₀ base outer h₀) (F : Fr h₀ L s.heap m) (X : (Mine.hd.heap_39 w.params).In h₀) (N : News h₀ L s.heap news) (T : Top p loose mean mg mb h₀) (hk : cs.kind = .function)
    (hd : dp + 10 < recursionLimit) (hu : un + 80 < cLine) {ns : List Int} {t : Tok} (hz : ns.length ≤ 64) (hi : KBa.In ns) (he : hexL ns = (hexL ns).map upN)
    (h : ∀ t' h' tk', Fr h₀ L h' m → News h₀ L h' news → Q (.bytes (byteArr ns) t') { s with heap := h', toks := tk' }) : wpAny (model prog w) (ktrTop dp un gd cn cs L a ccd cl outer) (call (.ref 169) [.str (mkS (hexL ns)) t]) Q E s := by
  rw [he]
  exact L_b16decode B F X N T hk hd hu hz hi h
theorem L_b16decode_low (B : Below A₀ base outer h₀) (F : Fr h₀ L s.heap m) (X : (Mine.hd.heap_39 w.params).In h₀) (N : News h₀ L s.heap news) (T : Top p loose mean mg mb h₀) (hk : cs.kind = .function)
    (hd : dp + 10 < recursionLimit) (hu : un + 80 < cLine) {ns : List Int} {t : Tok} (hz : ns.length ≤ 64) (hi : KBa.In ns) (he : ¬ hexL ns = (hexL ns).map upN)
    (h : ∀ e t' vs g h' tk', Fr h₀ L g m → RaisedS base g (envX cn cs L a ccd cl :: outer) e (.ref 61) t' vs news h' → g.UpToSlots h' → E (.ref e) { s with heap := h', toks := tk' }) : wpAny (model prog w) (ktrTop dp un gd cn cs L a ccd cl outer) (call (.ref 169) [.str (mkS (hexL ns)) t]) Q E s := by
  exact b16decode_bad B F X N T hk hd hu _ t (by rw [hexL_length]; omega) (asc_hexL hi) (fx_low hi he) h
theorem L_b16decode_any (B : Below A₀ base outer h₀) (F : Fr h₀ L s.heap m) (X : (Mine.hd.heap_39 w.params).In h₀) (N : News h₀ L s.heap news) (T : Top p loose mean mg mb h₀) (hk : cs.kind = .function)
    (hd : dp + 10 < recursionLimit) (hu : un + 80 < cLine) {ns : List Int} {t : Tok} (hz : ns.length ≤ 64) (hi : KBa.In ns)
    (h1 : hexL ns = (hexL ns).map upN → ∀ t' h' tk', Fr h₀ L h' m → News h₀ L h' news → Q (.bytes (byteArr ns) t') { s with heap := h', toks := tk' })
    (h2 : ¬ hexL ns = (hexL ns).map upN → ∀ e t' vs g h' tk', Fr h₀ L g m → RaisedS base g (envX cn cs L a ccd cl :: outer) e (.ref 61) t' vs news h' → g.UpToSlots h' → E (.ref e) { s with heap := h', toks := tk' }) : wpAny (model prog w) (ktrTop dp un gd cn cs L a ccd cl outer) (call (.ref 169) [.str (mkS (hexL ns)) t]) Q E s := by
  by_cases he : hexL ns = (hexL ns).map upN
  · exact L_b16decode_eq B F X N T hk hd hu hz hi he (h1 he)
  · exact L_b16decode_low B F X N T hk hd hu hz hi he (h2 he)
theorem L_b16decode_odd (B : Below A₀ base outer h₀) (F : Fr h₀ L s.heap m) (X : (Mine.hd.heap_39 w.params).In h₀) (N : News h₀ L s.heap news) (T : Top p loose mean mg mb h₀) (hk : cs.kind = .function)
    (hd : dp + 10 < recursionLimit) (hu : un + 80 < cLine) {ns : List Int} {t : Tok} (hz : ns.length ≤ 64) (hi : KBa.In ns) 
    (h : ∀ e t' vs g h' tk', Fr h₀ L g m → RaisedS base g (envX cn cs L a ccd cl :: outer) e (.ref 61) t' vs news h' → g.UpToSlots h' → E (.ref e) { s with heap := h', toks := tk' }) : wpAny (model prog w) (ktrTop dp un gd cn cs L a ccd cl outer) (call (.ref 169) [.str (mkS ((hexL ns).map upN ++ [65])) t]) Q E s := by
  refine b16decode_odd B F X N T hk hd hu _ t (by rw [List.length_append, List.length_map, hexL_length]; simp; omega) ?_ ?_ ?_ h
  · intro c hc
    rcases List.mem_append.mp hc with hc | hc
    · exact asc_upN (asc_hexL hi) c hc
    · rw [List.mem_singleton.mp hc]; decide
  · rw [toI_length, List.length_append, List.length_map, hexL_length]; simp
  · rw [toI_append]
    intro n hn
    rcases List.mem_append.mp hn with hn | hn
    · exact fx_up hi n hn
    · rw [List.mem_singleton.mp hn]; rfl
theorem L_b16decode_bad (B : Below A₀ base outer h₀) (F : Fr h₀ L s.heap m) (X : (Mine.hd.heap_39 w.params).In h₀) (N : News h₀ L s.heap news) (T : Top p loose mean mg mb h₀) (hk : cs.kind = .function)
    (hd : dp + 10 < recursionLimit) (hu : un + 80 < cLine) {ns : List Int} {t : Tok} (hz : ns.length ≤ 64) (hi : KBa.In ns) 
    (h : ∀ e t' vs g h' tk', Fr h₀ L g m → RaisedS base g (envX cn cs L a ccd cl :: outer) e (.ref 61) t' vs news h' → g.UpToSlots h' → E (.ref e) { s with heap := h', toks := tk' }) : wpAny (model prog w) (ktrTop dp un gd cn cs L a ccd cl outer) (call (.ref 169) [.str (mkS ([71, 71] ++ (hexL ns).map upN)) t]) Q E s := by
  refine b16decode_bad B F X N T hk hd hu _ t (by rw [List.length_append, List.length_map, hexL_length]; simp; omega) ?_ ⟨71, List.Mem.head _, rfl⟩ h
  intro c hc
  rcases List.mem_append.mp hc with hc | hc
  · have : c = 71 := by simpa using hc
    rw [this]; decide
  · exact asc_upN (asc_hexL hi) c hc
theorem L_b64encode (B : Below A₀ base outer h₀) (F : Fr h₀ L s.heap m) (X : (Mine.hd.heap_39 w.params).In h₀) (N : News h₀ L s.heap news) (T : Top p loose mean mg mb h₀) (hk : cs.kind = .function)
    (hd : dp + 10 < recursionLimit) (hu : un + 80 < cLine) {ns : List Int} {t : Tok} (hz : ns.length ≤ 64) (hi : KBa.In ns) 
    (h : ∀ t' h' tk', Fr h₀ L h' m → News h₀ L h' news → Q (.bytes (byteArr (toI (fourL ns))) t') { s with heap := h', toks := tk' }) : wpAny (model prog w) (ktrTop dp un gd cn cs L a ccd cl outer) (call (.ref 139) [.bytes (byteArr ns) t]) Q E s := by
  rw [← f_enc hi] at h
  exact b64encode B F X N T hk hd hu ns t (by omega) hi h
theorem L_b64decode (B : Below A₀ base outer h₀) (F : Fr h₀ L s.heap m) (X : (Mine.hd.heap_39 w.params).In h₀) (N : News h₀ L s.heap news) (T : Top p loose mean mg mb h₀) (hk : cs.kind = .function)
    (hd : dp + 10 < recursionLimit) (hu : un + 80 < cLine) {ns : List Int} {t : Tok} (hz : ns.length ≤ 64) (hi : KBa.In ns) 
    (h : ∀ t' h' tk', Fr h₀ L h' m → News h₀ L h' news → Q (.bytes (byteArr ns) t') { s with heap := h', toks := tk' }) : wpAny (model prog w) (ktrTop dp un gd cn cs L a ccd cl outer) (call (.ref 147) [.str (mkS (fourL ns)) t]) Q E s := by
  obtain ⟨q, l, p, e, e1, e2⟩ := f_dec hi
  exact b64decode B F X N T hk hd hu _ t (by have := f_len hi; omega) (f_asc hi) _ _ _ _ e e1 e2 h
theorem L_b64decodeX (B : Below A₀ base outer h₀) (F : Fr h₀ L s.heap m) (X : (Mine.hd.heap_39 w.params).In h₀) (N : News h₀ L s.heap news) (T : Top p loose mean mg mb h₀) (hk : cs.kind = .function)
    (hd : dp + 10 < recursionLimit) (hu : un + 80 < cLine) {ns : List Int} {t : Tok} (hz : ns.length ≤ 64) (hi : KBa.In ns) 
    (h : ∀ t' h' tk', Fr h₀ L h' m → News h₀ L h' news → Q (.bytes (byteArr ns) t') { s with heap := h', toks := tk' }) : wpAny (model prog w) (ktrTop dp un gd cn cs L a ccd cl outer) (call (.ref 147) [.str (mkS ((fourL ns).take 2 ++ [33, 10] ++ (fourL ns).drop 2)) t]) Q E s := by
  obtain ⟨q, l, p, e, e1, e2⟩ := f_decX hi
  refine b64decode B F X N T hk hd hu _ t (by have := f_len hi; simp only [List.length_append, List.length_take, List.length_drop, List.length_cons, List.length_nil]; omega) ?_ _ _ _ _ e e1 e2 h
  intro c hc
  rcases List.mem_append.mp hc with hc | hc
  · rcases List.mem_append.mp hc with hc | hc
    · exact f_asc hi c (List.mem_of_mem_take hc)
    · simp at hc; omega
  · exact f_asc hi c (List.mem_of_mem_drop hc)
theorem L_b64decodeX2 (B : Below A₀ base outer h₀) (F : Fr h₀ L s.heap m) (X : (Mine.hd.heap_39 w.params).In h₀) (N : News h₀ L s.heap news) (T : Top p loose mean mg mb h₀) (hk : cs.kind = .function)
    (hd : dp + 10 < recursionLimit) (hu : un + 80 < cLine) {ns : List Int} {t : Tok} (hz : ns.length ≤ 64) (hi : KBa.In ns) 
    (h : ∀ t' h' tk', Fr h₀ L h' m → News h₀ L h' news → Q (.bytes (byteArr ns) t') { s with heap := h', toks := tk' }) : wpAny (model prog w) (ktrTop dp un gd cn cs L a ccd cl outer) (call (.ref 147) [.str (mkS ((fourL ns).take 2 ++ 33 :: 10 :: (fourL ns).drop 2)) t]) Q E s := by
  have e : (fourL ns).take 2 ++ 33 :: 10 :: (fourL ns).drop 2 = (fourL ns).take 2 ++ [33, 10] ++ (fourL ns).drop 2 := by simp
  rw [e]
  exact L_b64decodeX B F X N T hk hd hu hz hi h
theorem L_b64decode_bad (B : Below A₀ base outer h₀) (F : Fr h₀ L s.heap m) (X : (Mine.hd.heap_39 w.params).In h₀) (N : News h₀ L s.heap news) (T : Top p loose mean mg mb h₀) (hk : cs.kind = .function)
    (hd : dp + 10 < recursionLimit) (hu : un + 80 < cLine) {ns : List Int} {t : Tok} (hz : ns.length ≤ 64) (hi : KBa.In ns) 
    (h : ∀ e t' vs g h' tk', Fr h₀ L g m → RaisedS base g (envX cn cs L a ccd cl :: outer) e (.ref 61) t' vs news h' → g.UpToSlots h' → E (.ref e) { s with heap := h', toks := tk' }) : wpAny (model prog w) (ktrTop dp un gd cn cs L a ccd cl outer) (call (.ref 147) [.str (mkS ([33] ++ fourL ns)) t] [(Str.ofString "validate", .bool true)]) Q E s := by
  refine b64decode_bad B F X N T hk hd hu _ t (by have := f_len hi; rw [List.length_append]; simp; omega) ?_ ⟨toI (fourL ns), by rw [toI_append]; rfl⟩ h
  intro c hc
  rcases List.mem_append.mp hc with hc | hc
  · rw [List.mem_singleton.mp hc]; decide
  · exact f_asc hi c hc
theorem L_b64decodeS (B : Below A₀ base outer h₀) (F : Fr h₀ L s.heap m) (X : (Mine.hd.heap_39 w.params).In h₀) (N : News h₀ L s.heap news) (T : Top p loose mean mg mb h₀) (hk : cs.kind = .function)
    (hd : dp + 10 < recursionLimit) (hu : un + 80 < cLine) {ns : List Int} {t : Tok} (hz : ns.length ≤ 64) (hi : KBa.In ns) 
    (h : ∀ t' h' tk', Fr h₀ L h' m → News h₀ L h' news → Q (.bytes (byteArr ns) t') { s with heap := h', toks := tk' }) : wpAny (model prog w) (ktrTop dp un gd cn cs L a ccd cl outer) (call (.ref 147) [.str (mkS (fourL ns)) t] [(Str.ofString "validate", .bool true)]) Q E s := by
  obtain ⟨q, l, p, e, e1, e2⟩ := f_decS hi
  exact b64decodeS B F X N T hk hd hu _ t (by have := f_len hi; omega) (f_asc hi) _ _ _ _ e e1 e2 h
theorem L_b64encodeA (B : Below A₀ base outer h₀) (F : Fr h₀ L s.heap m) (X : (Mine.hd.heap_39 w.params).In h₀) (N : News h₀ L s.heap news) (T : Top p loose mean mg mb h₀) (hk : cs.kind = .function)
    (hd : dp + 10 < recursionLimit) (hu : un + 80 < cLine) {ns : List Int} {t : Tok} (hz : ns.length ≤ 64) (hi : KBa.In ns) {t2 : Tok}
    (h : ∀ t' h' tk', Fr h₀ L h' m → News h₀ L h' news → Q (.bytes (byteArr (toI (((fourL ns).map (rep 43 46)).map (rep 47 95)))) t') { s with heap := h', toks := tk' }) : wpAny (model prog w) (ktrTop dp un gd cn cs L a ccd cl outer) (call (.ref 139) [.bytes (byteArr ns) t, .bytes #[46, 95] t2]) Q E s := by
  refine b64encodeA B F X N T hk hd hu ns t (by omega) hi t2 ?_
  have e : (b64E ns).map trE = toI (((fourL ns).map (rep 43 46)).map (rep 47 95)) := by
    rw [f_enc hi, List.map_map]
    refine toI_rep (fun c => ?_) _
    have a1 : ((c : Int) = 43) ↔ c = 43 := by omega
    have a2 : ((c : Int) = 47) ↔ c = 47 := by omega
    by_cases h1 : c = 43
    · subst h1; rfl
    · by_cases h2 : c = 47
      · subst h2; rfl
      · simp [trE, rep, Function.comp, a1, a2, h1, h2]
  rw [e]; exact h
theorem asc_rep {a b : Nat} (hb : b < 128) {xs : List Nat} (h : Asc xs) : Asc (xs.map (rep a b)) := by
  intro c hc
  obtain ⟨d, hd, rfl⟩ := List.mem_map.mp hc
  have := h d hd
  unfold rep
  split <;> omega
theorem L_b64decodeA (B : Below A₀ base outer h₀) (F : Fr h₀ L s.heap m) (X : (Mine.hd.heap_39 w.params).In h₀) (N : News h₀ L s.heap news) (T : Top p loose mean mg mb h₀) (hk : cs.kind = .function)
    (hd : dp + 10 < recursionLimit) (hu : un + 80 < cLine) {ns : List Int} {t : Tok} (hz : ns.length ≤ 64) (hi : KBa.In ns) {t2 : Tok}
    (h : ∀ t' h' tk', Fr h₀ L h' m → News h₀ L h' news → Q (.bytes (byteArr ns) t') { s with heap := h', toks := tk' }) : wpAny (model prog w) (ktrTop dp un gd cn cs L a ccd cl outer) (call (.ref 147) [.str (mkS (((fourL ns).map (rep 43 46)).map (rep 47 95))) t, .bytes #[46, 95] t2]) Q E s := by
  obtain ⟨q, l, p, e, e1, e2⟩ := f_dec hi
  exact b64decodeA B F X N T hk hd hu _ t (by have := f_len hi; rw [List.length_map, List.length_map]; omega) (asc_rep (by decide) (asc_rep (by decide) (f_asc hi))) _ _ _ _ t2 (by rw [f_trD hi]; exact e) e1 e2 h
theorem L_b64decode_short (B : Below A₀ base outer h₀) (F : Fr h₀ L s.heap m) (X : (Mine.hd.heap_39 w.params).In h₀) (N : News h₀ L s.heap news) (T : Top p loose mean mg mb h₀) (hk : cs.kind = .function)
    (hd : dp + 10 < recursionLimit) (hu : un + 80 < cLine) {ns : List Int} {t : Tok} (hz : ns.length ≤ 64) (hi : KBa.In ns) (hl : (fourL ns).getLast? = some 61)
    (h : ∀ e t' vs g h' tk', Fr h₀ L g m → RaisedS base g (envX cn cs L a ccd cl :: outer) e (.ref 61) t' vs news h' → g.UpToSlots h' → E (.ref e) { s with heap := h', toks := tk' }) : wpAny (model prog w) (ktrTop dp un gd cn cs L a ccd cl outer) (call (.ref 147) [.str (mkS ((fourL ns).take ((fourL ns).length - 1))) t]) Q E s := by
  obtain ⟨o, q, l, p, e, e1, e2⟩ := f_short hi hl
  refine b64decode_short B F X N T hk hd hu _ t (by have := f_len hi; rw [List.length_take]; omega) (fun c hc => f_asc hi c (List.mem_of_mem_take hc)) _ _ _ _ e e1 e2 h
theorem L_urlsafe (B : Below A₀ base outer h₀) (F : Fr h₀ L s.heap m) (X : (Mine.hd.heap_39 w.params).In h₀) (N : News h₀ L s.heap news) (T : Top p loose mean mg mb h₀) (hk : cs.kind = .function)
    (hd : dp + 10 < recursionLimit) (hu : un + 80 < cLine) {ns : List Int} {t : Tok} (hz : ns.length ≤ 64) (hi : KBa.In ns) 
    (h : ∀ t' h' tk', Fr h₀ L h' m → News h₀ L h' news → Q (.bytes (byteArr (toI (((fourL ns).map (rep 43 45)).map (rep 47 95)))) t') { s with heap := h', toks := tk' }) : wpAny (model prog w) (ktrTop dp un gd cn cs L a ccd cl outer) (call (.ref 154) [.bytes (byteArr ns) t]) Q E s := by
  refine urlsafe B F X N T hk hd hu ns t (by omega) hi ?_
  have e : (b64E ns).map trU = toI (((fourL ns).map (rep 43 45)).map (rep 47 95)) := by
    rw [f_enc hi, List.map_map]
    refine toI_rep (fun c => ?_) _
    have a1 : ((c : Int) = 43) ↔ c = 43 := by omega
    have a2 : ((c : Int) = 47) ↔ c = 47 := by omega
    by_cases h1 : c = 43
    · subst h1; rfl
    · by_cases h2 : c = 47
      · subst h2; rfl
      · simp [trU, rep, Function.comp, a1, a2, h1, h2]
  rw [e]; exact h
end
end
section
-- the loop `for k in range(0, len(octets), 3)` of a frame with two cells
section
variable {prog : Program} {w : World} {A : Around} {E : Value → Shared → Prop} {s : Shared} {env : Env} {h₀ : Heap} {body : List Stmt} {Q : Flow → Shared → Prop}
def FourEnd (h₀ : Heap) (L r c1 c2 : Addr) (ob oS : Obj) (G : PySem.Str) (tl : List (Addr × Obj)) (s₁ s₂ : Shared) : Prop :=
  ∃ h' tk m' oW vW tF, s₂ = { s₁ with heap := h', toks := tk } ∧ Fr h₀ L h' m' ∧ News h₀ L h' ((c2, oW) :: (c1, oS) :: (r, ob) :: tl) ∧ oW.data = .cell vW ∧ m' (Str.ofString "octets") = some (.ref r) ∧ m' (Str.ofString "found") = some (.str G tF)
def FourPost (h₀ : Heap) (L r c1 c2 : Addr) (ob oS : Obj) (G : PySem.Str) (tl : List (Addr × Obj)) (s₁ : Shared) (f : Flow) (s₂ : Shared) : Prop :=
  match f with
  | .ret _ => False
  | .brk => False
  | _ => FourEnd h₀ L r c1 c2 ob oS G tl s₁ s₂
theorem four_end {L r c1 c2 : Addr} {ob oS oW : Obj} {G g : PySem.Str} {tl : List (Addr × Obj)} {s₁ : Shared} {h' : Heap} {tk : Nat} {m' : Str → Option Value} {vW : Option Value} {tF : Tok}
    (F : Fr h₀ L h' m') (N : News h₀ L h' ((c2, oW) :: (c1, oS) :: (r, ob) :: tl)) (hW : oW.data = .cell vW) (ho : m' (Str.ofString "octets") = some (.ref r)) (hf : m' (Str.ofString "found") = some (.str g tF)) (e : g = G) :
    FourEnd h₀ L r c1 c2 ob oS G tl s₁ { s₁ with heap := h', toks := tk } := ⟨h', tk, m', oW, vW, tF, rfl, F, N, hW, ho, by rw [hf, e]⟩
theorem size3 (n : Nat) : Builtin.Range.rangeSize 0 (n : Int) 3 = (((n + 2) / 3 : Nat) : Int) := by
  unfold Builtin.Range.rangeSize
  rw [if_pos (by decide)]
  split <;> omega
theorem four_range {L r rg c1 c2 : Addr} {ob oS oW : Obj} {vW : Option Value} {tF t₀ u₀ v₀ : Tok} {ns : List Int} {m₀ : Str → Option Value} {news : List (Addr × Obj)} (G : List Int → PySem.Str)
    (hL : L = env.locals) (hh : A.handled = none) (hr : IsRange s.heap rg 0 (ns.length : Int) 3 t₀ u₀ v₀) (hz : ns.length ≤ 64) (F : Fr h₀ L s.heap m₀)
    (N : News h₀ L s.heap ((c2, oW) :: (c1, oS) :: (r, ob) :: news)) (hW : oW.data = .cell vW) (ho : m₀ (Str.ofString "octets") = some (.ref r)) (hf : m₀ (Str.ofString "found") = some (.str (G []) tF))
    (h1 : ∀ p ∈ news, p.1 ≠ c1) (h2 : ∀ p ∈ news, p.1 ≠ c2) 
    (turn : ∀ (pre three post : List Int) (t tF : Tok) (vW : Option Value) (oW : Obj) (u : Str → Option Value) h tk tl, ns = pre ++ three ++ post → pre.length % 3 = 0 → (three.length = 3 ∨ three ≠ [] ∧ three.length < 3 ∧ post = []) → oW.data = .cell vW → (∀ p ∈ tl, p.1 ≠ c1) → (∀ p ∈ tl, p.1 ≠ c2) →
      Fr h₀ L h (fun y => if y = Str.ofString "k" then some (.int (pre.length : Int) t) else if y = Str.ofString "octets" then some (.ref r) else if y = Str.ofString "found" then some (.str (G pre) tF) else u y) → News h₀ L h ((c2, oW) :: (c1, oS) :: (r, ob) :: tl) →
      wpAny (model prog w) A (execs body env) (FourPost h₀ L r c1 c2 ob oS (G (pre ++ three)) tl { s with heap := h, toks := tk }) E { s with heap := h, toks := tk })
    (done : ∀ (tF : Tok) (u : Str → Option Value) h tk oW, Fr h₀ L h (fun y => if y = Str.ofString "octets" then some (.ref r) else if y = Str.ofString "found" then some (.str (G ns) tF) else u y) → News h₀ L h ((c2, oW) :: (c1, oS) :: (r, ob) :: news) → Q .next { s with heap := h, toks := tk }) :
    wpAny (model prog w) A (pyIter (.ref rg)) (fun it s₂ => LoopAtV prog w A h₀ env (Str.ofString "k") body Q E it s₂) E s := by
  subst hL
  have hsmall : Builtin.Range.small 0 (ns.length : Int) 3 = true := by
    obtain ⟨k, hk⟩ : ∃ k : Fin 65, k.val = ns.length := ⟨⟨ns.length, by omega⟩, rfl⟩
    rw [← hk]
    have key : ∀ k : Fin 65, Builtin.Range.small 0 (k.val : Int) 3 = true := by decide +kernel
    exact key k
  refine wpAny_pyIter_range hr hsmall ?_
  have hn := size3 ns.length
  generalize hn' : (ns.length + 2) / 3 = n at hn
  have W : Walks prog w A s.heap.objs.size [s.heap.objs.size] [s.heap.objs.size] n (fun i v => i < n ∧ ∃ t, v = .int (0 + i * 3) t)
      (fun i h => IsRangeIter h s.heap.objs.size (0 + (i : Nat) * 3) ((n : Int) - (i : Nat)) 3) := (Walks.range hh _ 0 3 n).bound
  refine loop_invN (fun i m nx => ∃ oW vW tF, nx = (c2, oW) :: (c1, oS) :: (r, ob) :: news ∧ oW.data = .cell vW ∧ m (Str.ofString "octets") = some (.ref r) ∧ m (Str.ofString "found") = some (.str (G (ns.take (3 * i))) tF)) W ?_ ?_ ?_ ?_ (by show IsRangeIter _ _ _ _ _; rw [hn]; simpa using Heap.get?_push_size _ rfl) (F.push _) (fun p hp => ⟨Heap.get?_push_of_some _ (N p hp).1, (N p hp).2⟩) ⟨oW, vW, tF, rfl, hW, ho, hf⟩ ?_ ?_
  · intro hm
    exact absurd F.ns.lt ((List.mem_singleton.mp hm) ▸ Nat.lt_irrefl _)
  · intro b hb
    rw [List.mem_singleton.mp hb]
    exact next_is_new F
  · intro p hp hI
    exact absurd (Heap.lt_size (N p hp).1) ((List.mem_singleton.mp hI) ▸ Nat.lt_irrefl _)
  · intro p hp hI
    exact absurd (Heap.lt_size (N p hp).1) ((List.mem_singleton.mp hI) ▸ Nat.lt_irrefl _)
  · rintro i v m₁ nx h tk own hi ⟨_, t, rfl⟩ _ hoff ⟨oW, vW, tF, rfl, hW, ho, hf⟩ F₁ N₁
    have hlt : 3 * i < ns.length := by omega
    have hlen : (ns.take (3 * i)).length = 3 * i := by rw [List.length_take]; omega
    have e1 : (0 : Int) + (i : Int) * 3 = ((ns.take (3 * i)).length : Int) := by rw [hlen]; omega
    rw [e1] at F₁
    have e2 : ns = ns.take (3 * i) ++ (ns.drop (3 * i)).take 3 ++ (ns.drop (3 * i)).drop 3 := by
      rw [List.append_assoc, List.take_append_drop, List.take_append_drop]
    have e3 : ns.take (3 * (i + 1)) = ns.take (3 * i) ++ (ns.drop (3 * i)).take 3 := by
      rw [show 3 * (i + 1) = 3 * i + 3 by omega, List.take_add]
    have em : (fun y => if y = Str.ofString "k" then some (.int ((ns.take (3 * i)).length : Int) t) else if y = Str.ofString "octets" then some (.ref r) else if y = Str.ofString "found" then some (.str (G (ns.take (3 * i))) tF) else m₁ y) = fun y => if y = Str.ofString "k" then some (.int ((ns.take (3 * i)).length : Int) t) else m₁ y := by
      funext y
      by_cases q : y = Str.ofString "k"
      · rw [if_pos q, if_pos q]
      · rw [if_neg q, if_neg q]
        by_cases q2 : y = Str.ofString "octets"
        · rw [if_pos q2, q2, ho]
        · rw [if_neg q2]
          by_cases q3 : y = Str.ofString "found"
          · rw [if_pos q3, q3, hf]
          · rw [if_neg q3]
    rw [← em] at F₁
    have o1 := hoff.ne (b := c1) (List.Mem.tail _ (List.Mem.head _))
    have o2 := hoff.ne (b := c2) (List.Mem.head _)
    refine wpAny_mono (turn _ _ _ t tF vW oW m₁ h tk (news ++ own) e2 (by rw [hlen]; omega) ?_ hW (fun p hp => (List.mem_append.mp hp).elim (h1 p) (o1 p)) (fun p hp => (List.mem_append.mp hp).elim (h2 p) (o2 p)) F₁ N₁) (fun f s₂ q => ?_) fun _ _ x => x
    · have hl3 : ((ns.drop (3 * i)).take 3).length = min 3 (ns.length - 3 * i) := by rw [List.length_take, List.length_drop]
      by_cases q : 3 ≤ ns.length - 3 * i
      · exact .inl (by omega)
      · refine .inr ⟨fun e => ?_, by omega, List.drop_eq_nil_of_le (by rw [List.length_drop]; omega)⟩
        rw [e] at hl3
        simp at hl3
        omega
    · rw [← e3] at q
      have up : FourEnd h₀ env.locals r c1 c2 ob oS (G (ns.take (3 * (i + 1)))) (news ++ own) { s with heap := h, toks := tk } s₂ → InvEndN h₀ env.locals (fun m nx => ∃ oW vW tF, nx = (c2, oW) :: (c1, oS) :: (r, ob) :: news ∧ oW.data = .cell vW ∧ m (Str.ofString "octets") = some (.ref r) ∧ m (Str.ofString "found") = some (.str (G (ns.take (3 * (i + 1)))) tF)) own (((c2, oW) :: (c1, oS) :: (r, ob) :: news).map (·.1)) { s with heap := h, toks := tk } s₂ := by
        rintro ⟨h', tk', m', oW', vW', tF', e', F', N', hW', ho', hf'⟩
        refine ⟨h', tk', m', _, (c2, oW') :: (c1, oS) :: (r, ob) :: news, e', F', N', fun p hp => ?_, fun p hp => ?_, rfl, oW', vW', tF', rfl, hW', ho', hf'⟩
        · exact List.mem_append_left own hp
        · exact List.Mem.tail _ (List.Mem.tail _ (List.Mem.tail _ (List.mem_append_right _ hp)))
      cases f with
      | ret v => exact q.elim
      | brk => exact q.elim
      | next => exact up q
      | cont => exact up q
  · rintro m₁ nx h tk ⟨oW, vW, tF, rfl, hW, ho, hf⟩ F₁ N₁
    rw [List.take_of_length_le (by omega)] at hf
    refine done tF m₁ h tk oW ?_ N₁
    have em : (fun y => if y = Str.ofString "octets" then some (.ref r) else if y = Str.ofString "found" then some (.str (G ns) tF) else m₁ y) = m₁ := by
      funext y
      by_cases q2 : y = Str.ofString "octets"
      · rw [if_pos q2, q2, ho]
      · rw [if_neg q2]
        by_cases q3 : y = Str.ofString "found"
        · rw [if_pos q3, q3, hf]
        · rw [if_neg q3]
    rw [em]
    exact F₁
end
theorem three_cases {three post : List Int} (h : three.length = 3 ∨ three ≠ [] ∧ three.length < 3 ∧ post = []) : (∃ a b c, three = [a, b, c]) ∨ (∃ a b, three = [a, b] ∧ post = []) ∨ (∃ a, three = [a] ∧ post = []) := by
  match three, h with
  | [a, b, c], _ => exact .inl ⟨a, b, c, rfl⟩
  | [a, b], h => exact .inr (.inl ⟨a, b, rfl, by simpa using h⟩)
  | [a], h => exact .inr (.inr ⟨a, rfl, by simpa using h⟩)
  | [], h => simp at h
  | _ :: _ :: _ :: _ :: _, h => simp at h; omega
theorem slc {vs : List Value} {ns pre three post : List Int} (hi : IntsAre vs ns) (e : ns = pre ++ three ++ post) (h : three.length = 3 ∨ three.length < 3 ∧ post = []) : IntsAre (slicePick vs.toArray (some (pre.length : Int)) (some ((pre.length : Int) + 3)) none).toList three := by
  have k := kmk_run hi (x := (pre.length : Int)) (y := (pre.length : Int) + 3) (by omega) (by omega)
  have e1 : ((pre.length : Int)).toNat = pre.length := by omega
  have e2 : ((pre.length : Int) + 3).toNat = pre.length + 3 := by omega
  rw [e1, e2] at k
  have e3 : (ns.drop pre.length).take (min (pre.length + 3) ns.length - pre.length) = three := by
    rw [e, List.append_assoc, List.drop_left]
    rcases h with h | ⟨h, rfl⟩
    · rw [List.take_append_of_le_length (by simp only [List.length_append]; omega), List.take_of_length_le (by simp only [List.length_append]; omega)]
    · rw [List.append_nil, List.take_of_length_le (by simp only [List.length_append]; omega)]
  rw [e3] at k
  exact k
theorem ints3 {ws : List Value} {a b c : Int} (h : IntsAre ws [a, b, c]) : ∃ t1 t2 t3, ws = [.int a t1, .int b t2, .int c t3] := by
  cases h with | cons _ t1 h => cases h with | cons _ t2 h => cases h with | cons _ t3 h => cases h; exact ⟨t1, t2, t3, rfl⟩
theorem ints2 {ws : List Value} {a b : Int} (h : IntsAre ws [a, b]) : ∃ t1 t2, ws = [.int a t1, .int b t2] := by
  cases h with | cons _ t1 h => cases h with | cons _ t2 h => cases h; exact ⟨t1, t2, rfl⟩
theorem ints1 {ws : List Value} {a : Int} (h : IntsAre ws [a]) : ∃ t1, ws = [.int a t1] := by
  cases h with | cons _ t1 h => cases h; exact ⟨t1, rfl⟩
theorem lt23 {a b : Int} : [a, b].length < 3 := by simp
theorem lt13 {a : Int} : [a].length < 3 := by simp
-- the loop `for octet in three + [0] * n` whose body stores the cell `whole`
section
variable {prog : Program} {w : World} {A : Around} {E : Value → Shared → Prop} {s : Shared} {env : Env} {h₀ : Heap} {body : List Stmt} {Q : Flow → Shared → Prop}
def octF (m₀ : Str → Option Value) (u : Option Value) : Str → Option Value := fun y => if y = Str.ofString "octet" then u else m₀ y
theorem octF_self (m₀ : Str → Option Value) : octF m₀ (m₀ (Str.ofString "octet")) = m₀ := by
  funext y
  unfold octF
  by_cases q : y = Str.ofString "octet"
  · rw [if_pos q, q]
  · rw [if_neg q]
theorem octF_two (m₀ : Str → Option Value) (u v : Option Value) : (fun y => if y = Str.ofString "octet" then v else octF m₀ u y) = fun y => if y = Str.ofString "octet" then v else m₀ y := by
  funext y
  unfold octF
  by_cases q : y = Str.ofString "octet"
  · rw [if_pos q, if_pos q]
  · rw [if_neg q, if_neg q, if_neg q]
def OctPost (h₀ : Heap) (L c2 : Addr) (x : Int) (m : Str → Option Value) (tl : List (Addr × Obj)) (s₁ : Shared) (f : Flow) (s₂ : Shared) : Prop :=
  f = .next ∧ ∃ h' tk oW tW, s₂ = { s₁ with heap := h', toks := tk } ∧ Fr h₀ L h' m ∧ News h₀ L h' ((c2, oW) :: tl) ∧ oW.data = .cell (some (.int x tW))
theorem oct_end {L c2 : Addr} {x y : Int} {m : Str → Option Value} {tl : List (Addr × Obj)} {s₁ : Shared} {h' : Heap} {tk : Nat} {oW : Obj} {tW : Tok} (F : Fr h₀ L h' m) (N : News h₀ L h' ((c2, oW) :: tl)) (hW : oW.data = .cell (some (.int y tW))) (e : y = x) :
    OctPost h₀ L c2 x m tl s₁ .next { s₁ with heap := h', toks := tk } := by subst e; exact ⟨rfl, h', tk, oW, tW, rfl, F, N, hW⟩
def wh (w a b c : Int) : Nat → Int
  | 0 => w
  | 1 => 256 * w + a
  | 2 => 256 * (256 * w + a) + b
  | _ => 256 * (256 * (256 * w + a) + b) + c
theorem oct_loop {L D Dt c1 c2 r : Addr} {q1 q2 : Addr × Obj} {ob oS oW ot : Obj} {a b c x : Int} {ta tb tc tW : Tok} {nD : Nat} {m₀ : Str → Option Value} {tl : List (Addr × Obj)}
    (hL : L = env.locals) (hh : A.handled = none) (F : Fr h₀ L s.heap m₀)
    (N : News h₀ L s.heap ((D, listOf [Value.int a ta, Value.int b tb, Value.int c tc].toArray nD) :: q1 :: q2 :: (Dt, ot) :: (c2, oW) :: (c1, oS) :: (r, ob) :: tl)) (hW : oW.data = .cell (some (.int x tW)))
    (d1 : Dt ≠ c2) (d2 : c1 ≠ c2) (d3 : r ≠ c2) (d4 : ∀ p ∈ tl, p.1 ≠ c2) (g1 : Dt ≠ D) (g2 : c1 ≠ D) (g3 : r ≠ D) (g4 : ∀ p ∈ tl, p.1 ≠ D) (g5 : c2 ≠ D)
    (turn : ∀ (v y : Int) (t tW : Tok) oW h tk tl', oW.data = .cell (some (.int y tW)) → (∀ p ∈ tl', p.1 ≠ c2) → Fr h₀ L h (fun y => if y = Str.ofString "octet" then some (.int v t) else m₀ y) → News h₀ L h ((c2, oW) :: tl') →
      wpAny (model prog w) A (execs body env) (OctPost h₀ L c2 (256 * y + v) (fun y => if y = Str.ofString "octet" then some (.int v t) else m₀ y) tl' { s with heap := h, toks := tk }) E { s with heap := h, toks := tk })
    (done : ∀ u tW oW h tk, oW.data = .cell (some (.int (256 * (256 * (256 * x + a) + b) + c) tW)) → Fr h₀ L h (fun y => if y = Str.ofString "octet" then u else m₀ y) → News h₀ L h ((Dt, ot) :: (c2, oW) :: (c1, oS) :: (r, ob) :: tl) → Q .next { s with heap := h, toks := tk }) :
    wpAny (model prog w) A (pyIter (.ref D)) (fun it s₂ => LoopAtV prog w A h₀ env (Str.ofString "octet") body Q E it s₂) E s := by
  subst hL
  have hax := N _ (List.Mem.head _)
  have hl : s.heap.IsList D [Value.int a ta, Value.int b tb, Value.int c tc].toArray := ⟨_, hax.1, rfl, nD, rfl⟩
  have hlt : D < s.heap.objs.size := Heap.lt_size hax.1
  have hne : D ≠ s.heap.objs.size := Nat.ne_of_lt hlt
  refine wpAny_pyIter_list hl ?_
  have W := Walks.list (prog := prog) (w := w) hh s.heap.objs.size D hne [Value.int a ta, Value.int b tb, Value.int c tc].toArray
  have N₀ : News h₀ env.locals s.heap ((Dt, ot) :: (c2, oW) :: (c1, oS) :: (r, ob) :: tl) := fun p hp => N p (List.Mem.tail _ (List.Mem.tail _ (List.Mem.tail _ hp)))
  refine loop_invN (fun i m nx => ∃ oW tW u, nx = (Dt, ot) :: (c2, oW) :: (c1, oS) :: (r, ob) :: tl ∧ oW.data = .cell (some (.int (wh x a b c i) tW)) ∧ m = octF m₀ u) W ?_ ?_ ?_ ?_ ⟨⟨_, Heap.get?_push_size _ rfl, rfl, rfl⟩, hl.at fun o e => Heap.get?_push_of_some _ e⟩ (F.push _) (fun p hp => ⟨Heap.get?_push_of_some _ (N₀ p hp).1, (N₀ p hp).2⟩) ⟨oW, tW, _, rfl, hW, (octF_self m₀).symm⟩ ?_ ?_
  · intro hmm
    rcases List.mem_cons.mp hmm with e | hmm
    · exact absurd F.ns.lt (e ▸ Nat.lt_irrefl _)
    · exact hax.2.1 (List.mem_singleton.mp hmm).symm
  · intro b hb
    rw [List.mem_singleton.mp hb]
    exact next_is_new F
  · intro p hp hI
    exact absurd (Heap.lt_size (N₀ p hp).1) ((List.mem_singleton.mp hI) ▸ Nat.lt_irrefl _)
  · intro p hp hI
    rcases List.mem_cons.mp hI with e | hI
    · exact absurd (Heap.lt_size (N₀ p hp).1) (e ▸ Nat.lt_irrefl _)
    · have e := List.mem_singleton.mp hI
      rcases List.mem_cons.mp hp with rfl | hp
      · exact g1 e
      rcases List.mem_cons.mp hp with rfl | hp
      · exact g5 e
      rcases List.mem_cons.mp hp with rfl | hp
      · exact g2 e
      rcases List.mem_cons.mp hp with rfl | hp
      · exact g3 e
      · exact g4 p hp e
  · rintro i v m₁ nx h tk own hi hv _ hoff ⟨oW, tW, u, rfl, hW, rfl⟩ F₁ N₁
    obtain ⟨k, t, rfl, hk⟩ : ∃ k t, v = .int k t ∧ wh x a b c (i + 1) = 256 * wh x a b c i + k := by
      match i, hi, hv with
      | 0, _, hv => exact ⟨a, ta, (Option.some.inj hv).symm, rfl⟩
      | 1, _, hv => exact ⟨b, tb, (Option.some.inj hv).symm, rfl⟩
      | 2, _, hv => exact ⟨c, tc, (Option.some.inj hv).symm, rfl⟩
      | i + 3, hi, _ => exact absurd hi (by simp)
    rw [octF_two] at F₁
    have o2 := hoff.ne (b := c2) (List.Mem.tail _ (List.Mem.head _))
    have N₂ : News h₀ env.locals h ((c2, oW) :: (((Dt, ot) :: (c1, oS) :: (r, ob) :: tl) ++ own)) := by
      intro p hp
      refine N₁ p ?_
      simp only [List.mem_cons, List.mem_append] at hp ⊢
      rcases hp with h | (h | h | h | h) | h <;> simp [h]
    refine wpAny_mono (turn k _ t tW oW h tk _ hW (fun p hp => ?_) F₁ N₂) (fun f s₂ q => ?_) fun _ _ x => x
    · rcases List.mem_append.mp hp with hp | hp
      · rcases List.mem_cons.mp hp with rfl | hp
        · exact d1
        rcases List.mem_cons.mp hp with rfl | hp
        · exact d2
        rcases List.mem_cons.mp hp with rfl | hp
        · exact d3
        · exact d4 p hp
      · exact o2 p hp
    · obtain ⟨rfl, h', tk', oW', tW', e', F', N', hW'⟩ := q
      show InvEndN _ _ _ _ _ _ _
      refine ⟨h', tk', _, _, (Dt, ot) :: (c2, oW') :: (c1, oS) :: (r, ob) :: tl, e', F', N', fun p hp => ?_, fun p hp => ?_, rfl, oW', tW', some (.int k t), rfl, by rw [hk]; exact hW', rfl⟩
      · simp only [List.mem_cons, List.mem_append] at hp ⊢
        rcases hp with h | h | h | h | h <;> simp [h]
      · exact List.Mem.tail _ (List.mem_append_right _ hp)
  · rintro m₁ nx h tk ⟨oW, tW, u, rfl, hW, rfl⟩ F₁ N₁
    exact done u tW oW h tk hW F₁ N₁
end
end
section
open LCg
-- a comprehension over the written tuple (3, 2, 1, 0) whose element makes texts and leaves the heap alone
def SrcT (prog : Program) (w : World) (A : Around) (h₀ : Heap) (L : Addr) (m : Str → Option Value) (env : Env) (elt : Expr) (x : Str) (scope : Scope) (cl : List (Str × Addr)) (Fin : Shared → List Value → List (Addr × Obj) → Prop) (xv : Value) (s₁ : Shared) : Prop :=
  ∃ ax o its n news, xv = .ref ax ∧ A.handled = none ∧ Fr h₀ L s₁.heap m ∧ News h₀ L s₁.heap news ∧ (ax, o) ∈ news ∧ o.cls = .type "tuple" ∧ o.data = .seq its n ∧ its.size ≤ sizeLine ∧
    ∀ s₂ : Shared, (∃ h, s₂ = { s₁ with heap := h }) → CompRest prog w A h₀ L m env elt x scope cl s₂ (fun nw => (ax, o) ∈ nw) (fun i v => its[i]? = some v) (Fin s₂) its.size 0 [] news
def TurnP (r : PySem.Str) (s₁ : Shared) (y : Value) (s₂ : Shared) : Prop := ∃ t tk, y = .str r t ∧ s₂ = { s₁ with toks := tk }
theorem turnP {r r' : PySem.Str} {s₁ : Shared} {t : Tok} {tk : Nat} (e : r' = r) : TurnP r s₁ (.str r' t) { s₁ with toks := tk } := by subst e; exact ⟨t, tk, rfl, rfl⟩
section
variable {prog : Program} {w : World} {A : Around} {E : Value → Shared → Prop} {s : Shared} {h₀ : Heap} {L : Addr} {m : Str → Option Value} {env : Env}
theorem SrcT.intro {elt : Expr} {x : Str} {scope : Scope} {cl : List (Str × Addr)} {Fin : Shared → List Value → List (Addr × Obj) → Prop} {ax : Addr} {o : Obj} {n : Nat} {t3 t2 t1 t0 : Tok} {news : List (Addr × Obj)} {s₁ : Shared} (g : Int → PySem.Str)
    (hh : A.handled = none) (F : Fr h₀ L s₁.heap m) (N : News h₀ L s₁.heap news) (hm : (ax, o) ∈ news) (hc : o.cls = .type "tuple") (hd : o.data = .seq [Value.int 3 t3, Value.int 2 t2, Value.int 1 t1, Value.int 0 t0].toArray n)
    (turn : ∀ (j : Int) t C oC m₂ h tk (E' : Value → Shared → Prop), (j = 3 ∨ j = 2 ∨ j = 1 ∨ j = 0) → NsObj oC m₂ → m₂ x = some (.int j t) → Fr h₀ L h m → News h₀ L h ((C, oC) :: news) →
      wpAny (model prog w) A (eval elt (compEnvC scope cl C env)) (TurnP (g j) { s₁ with heap := h, toks := tk }) E' { s₁ with heap := h, toks := tk })
    (fin : ∀ g', ∀ ys, CarriedAll ys (([3, 2, 1, 0] : List Int).map fun k => PyData.str (g k)) → Fin { s₁ with heap := g' } ys news) :
    SrcT prog w A h₀ L m env elt x scope cl Fin (.ref ax) s₁ := by
  refine ⟨ax, o, _, n, news, rfl, hh, F, N, hm, hc, hd, by rw [sizeLine_eq]; simp, fun s₂ he => ?_⟩
  obtain ⟨g', rfl⟩ := he
  refine kct_rest (ks := [3, 2, 1, 0]) (n := 4) g rfl (fun i v hi hv => ?_) (fun k t I oI C oC D m₂ ys h tk E' hk hC hx F N off ne _ => ?_) (fun ys hy _ => fin g' ys hy)
  · match i, hi, hv with
    | 0, _, hv => exact ⟨3, t3, rfl, (Option.some.inj hv).symm⟩
    | 1, _, hv => exact ⟨2, t2, rfl, (Option.some.inj hv).symm⟩
    | 2, _, hv => exact ⟨1, t1, rfl, (Option.some.inj hv).symm⟩
    | 3, _, hv => exact ⟨0, t0, rfl, (Option.some.inj hv).symm⟩
    | i + 4, hi, _ => exact absurd hi (by omega)
  · refine wpAny_mono (turn k t C oC m₂ h tk E' (by simpa using hk) hC hx F (fun p hp => N p (List.Mem.tail _ ?_))) (fun y s₂ q => ?_) fun _ _ e => e
    · rcases List.mem_cons.mp hp with rfl | hp
      · exact List.Mem.head _
      · exact List.Mem.tail _ (List.Mem.tail _ hp)
    · obtain ⟨t', tk', rfl, rfl⟩ := q
      exact ⟨h, tk', news, rfl, F, N, off, hm, rfl, t', rfl⟩
theorem ListComp_tup {elt iter : Expr} {x : Str} {px : Pos} {scope : Scope} {cl : List (Str × Addr)} {pos : Pos} {Q : Value → Shared → Prop} (F₀ : Fr h₀ L s.heap m)
    (hclos : closureFor scope env = pure cl) (hcell : ∀ y ∈ scope.names, y.2 ≠ .cell) (hkind : scope.kind = .function)
    (hnames : ∀ y ∈ scope.names, y.2 = .local → scope.names.lookup y.1 = some .local) (hx : scope.names.lookup x = some .local)
    (h : wpAny (model prog w) A (eval iter env) (SrcT prog w A h₀ L m env elt x scope cl (fun s₂ => FinE h₀ L m s₂ Q)) E s)
    (hs : ∀ x, foldedSetIterable iter env x = pure x := by intro _; rfl) :
    wpAny (model prog w) A (eval (.ListComp elt [⟨.Name x px, iter, [], 0⟩] scope pos) env) Q E s := by
  rw [eval_ListComp]
  refine wpAny_comprehension_free (use := none) rfl hs hclos hkind hnames (wpAny_mono h (fun xv s₁ h₁ => ?_) fun _ _ e => e)
  obtain ⟨ax, o, its, n, news, rfl, hh, F, N, hm, hc, hd, hsz, R⟩ := h₁
  have hl : s₁.heap.IsTuple ax its := ⟨o, (N _ hm).1, hc, n, hd⟩
  have hlt : ax < s₁.heap.objs.size := Heap.lt_size (N _ hm).1
  refine wpAny_pyIter_tuple hl ?_
  have up : ∀ b o, s₁.heap.get? b = some o → (s₁.heap.push { cls := .type "tuple_iterator", data := .fields #[.ref ax, .int 0 0] }).get? b = some o := fun b o e => Heap.get?_push_of_some _ e
  refine block_U (Walks.tuple hh s₁.heap.objs.size ax (Nat.ne_of_lt hlt) its) hsz (fun i h st => by obtain ⟨o, e, _⟩ := st.1; exact ⟨o, e⟩) (fun i h h' o' nw st e e' k N S => ⟨by obtain ⟨o'', q, r⟩ := st.1; rw [e] at q; cases q; exact ⟨o', e', r⟩, ⟨o, (N _ S).1, hc, n, hd⟩⟩) hcell hkind hx ⟨⟨_, Heap.get?_push_size _ rfl, rfl, rfl⟩, hl.push _⟩ (fun b hb => ?_)
      (F.keeps up) (N.grown up) (Nat.ne_of_lt F.ns.lt) (next_is_new F) (fun p hp => Nat.ne_of_lt (Heap.lt_size (N p hp).1)) hm (R _ ⟨_, rfl⟩) ?_
  · show b < (s₁.heap.push _).objs.size
    rw [Heap.size_push]
    rcases List.mem_cons.mp hb with rfl | hb
    · exact Nat.lt_succ_self _
    · rw [List.mem_singleton.mp hb]; exact Nat.lt_succ_of_lt hlt
  · intro D C h tk m' ys news' F' N' o1 hn hC₀ hD₀ hCL hDL hCD offC fin
    refine ⟨m', hn, fun h'' hs'' => fin D h'' tk (F'.change hs'' hCL hC₀) (fun p hp => ?_) o1⟩
    refine ⟨hs''.extBut _ _ ?_ (N' p hp).1, (N' p hp).2⟩
    rcases List.mem_cons.mp hp with rfl | hp
    · exact Ne.symm hCD
    · exact offC p hp
end
end
section
open LCg
theorem fourL_append (r : List Int) : ∀ (n : Nat) (l : List Int), l.length = 3 * n → fourL (l ++ r) = fourL l ++ fourL r
  | 0, [], _ => rfl
  | n + 1, a :: b :: c :: l, h => by
    have ih := fourL_append r n l (by simp at h; omega)
    show four4 (whole3 a.toNat b.toNat c.toNat) ++ fourL (l ++ r) = (four4 (whole3 a.toNat b.toNat c.toNat) ++ fourL l) ++ fourL r
    rw [ih, List.append_assoc]
  | 0, _ :: _, h => by simp at h
  | n + 1, [], h => by simp at h
  | n + 1, [_], h => by simp at h; omega
  | n + 1, [_, _], h => by simp at h; omega
theorem fourL_app {l r : List Int} (h : l.length % 3 = 0) : fourL (l ++ r) = fourL l ++ fourL r := fourL_append r (l.length / 3) l (by omega)
def sgn (x j : Int) : PySem.Str := mkS [b64N (x / 64 ^ j.toNat % 64).toNat]
theorem sgn_join {x : Int} (hx : 0 ≤ x) : Txt.join (PySem.Str.ofString "") (([3, 2, 1, 0] : List Int).map (sgn x)) = mkS (four4 x.toNat) := by
  show Builtin.Str.glued _ _ = _
  have e : ([3, 2, 1, 0] : List Int).map (sgn x) = ([3, 2, 1, 0] : List Int).map fun j => mkS [b64N (x / 64 ^ j.toNat % 64).toNat] := rfl
  rw [StrLaws.glued_eq_join, e, join_mk]
  congr 1
  obtain ⟨w, rfl⟩ : ∃ w : Nat, x = (w : Int) := ⟨x.toNat, by omega⟩
  have k : ∀ d : Nat, ((w : Int) / (d : Int) % 64).toNat = w / d % 64 := by
    intro d
    have : ((w : Int) / (d : Int) % 64) = ((w / d % 64 : Nat) : Int) := by push_cast; rfl
    rw [this]; rfl
  show [b64N ((w : Int) / ((262144 : Nat) : Int) % 64).toNat] ++ ([b64N ((w : Int) / ((4096 : Nat) : Int) % 64).toNat] ++ ([b64N ((w : Int) / ((64 : Nat) : Int) % 64).toNat] ++ ([b64N ((w : Int) / ((1 : Nat) : Int) % 64).toNat] ++ []))) = four4 w
  simp only [k]
  rfl
section
variable {prog : Program} {w : World} {A : Around} {E : Value → Shared → Prop} {s : Shared} {h₀ : Heap} {L : Addr} {m : Str → Option Value} {env : Env} {t u : Tok} {Q : Value → Shared → Prop}
theorem SrcT.sign {elt : Expr} {x : Str} {scope : Scope} {cl : List (Str × Addr)} {Fin : Shared → List Value → List (Addr × Obj) → Prop} {ax : Addr} {o oW : Obj} {n : Nat} {y : Int} {tW t3 t2 t1 t0 : Tok} {news : List (Addr × Obj)} {s₁ : Shared}
    (_ : oW.data = .cell (some (.int y tW)))
    (hh : A.handled = none) (F : Fr h₀ L s₁.heap m) (N : News h₀ L s₁.heap news) (hm : (ax, o) ∈ news) (hc : o.cls = .type "tuple") (hd : o.data = .seq [Value.int 3 t3, Value.int 2 t2, Value.int 1 t1, Value.int 0 t0].toArray n)
    (turn : ∀ (j : Int) t C oC m₂ h tk (E' : Value → Shared → Prop), (j = 3 ∨ j = 2 ∨ j = 1 ∨ j = 0) → NsObj oC m₂ → m₂ x = some (.int j t) → Fr h₀ L h m → News h₀ L h ((C, oC) :: news) →
      wpAny (model prog w) A (eval elt (compEnvC scope cl C env)) (TurnP (sgn y j) { s₁ with heap := h, toks := tk }) E' { s₁ with heap := h, toks := tk })
    (fin : ∀ g', ∀ ys, CarriedAll ys (([3, 2, 1, 0] : List Int).map fun k => PyData.str (sgn y k)) → Fin { s₁ with heap := g' } ys news) :
    SrcT prog w A h₀ L m env elt x scope cl Fin (.ref ax) s₁ := SrcT.intro (sgn y) hh F N hm hc hd turn fin
theorem join_sgn {D : Addr} {ys : List Value} {x : Int} (hl : s.heap.IsList D ys.toArray) (hc : CarriedAll ys (([3, 2, 1, 0] : List Int).map fun k => PyData.str (sgn x k))) (hx : 0 ≤ x)
    (h : ∀ t' k', Q (.str (mkS (four4 x.toNat)) t') { s with toks := k' }) : wpAny (model prog w) A (call (.builtin "str.join") [.str (PySem.Str.ofString "") t, .ref D]) Q E s :=
  KT.join_B 1 hl hc (fun a _ => by unfold sgn; rw [mkS_length]; simp) (by simp) (by decide) fun t' k' => by
    have e := sgn_join hx
    have e2 : ([3, 2, 1, 0] : List Int).map (fun k => sgn x k) = ([3, 2, 1, 0] : List Int).map (sgn x) := rfl
    rw [e2, e]; exact h t' k'
end
theorem in3 {ns pre post : List Int} {a b c : Int} (hi : KBa.In ns) (e : ns = pre ++ [a, b, c] ++ post) : (0 ≤ a ∧ a < 256) ∧ (0 ≤ b ∧ b < 256) ∧ 0 ≤ c ∧ c < 256 :=
  ⟨hi a (by simp [e]), hi b (by simp [e]), hi c (by simp [e])⟩
theorem in2 {ns pre post : List Int} {a b : Int} (hi : KBa.In ns) (e : ns = pre ++ [a, b] ++ post) : (0 ≤ a ∧ a < 256) ∧ (0 ≤ b ∧ b < 256) := ⟨hi a (by simp [e]), hi b (by simp [e])⟩
theorem in1 {ns pre post : List Int} {a : Int} (hi : KBa.In ns) (e : ns = pre ++ [a] ++ post) : (0 ≤ a ∧ a < 256) := hi a (by simp [e])
def SIGNS : PySem.Str := PySem.Str.ofString "ABCDEFGHIJKLMNOPQRSTUVWXYZabcdefghijklmnopqrstuvwxyz0123456789+/"
theorem item_signs (i : Int) (h0 : 0 ≤ i) (h1 : i < 64) : Txt.item SIGNS i = mkS [b64N i.toNat] := by
  have key : ∀ k : Fin 64, Txt.item SIGNS (k.val : Int) = mkS [b64N k.val] := by decide +kernel
  have := key ⟨i.toNat, by omega⟩
  have e : ((i.toNat : Nat) : Int) = i := by omega
  simp only [e] at this
  exact this
theorem item_sgn {x j K : Int} (hK : K = 64 ^ j.toNat) : Txt.item (PySem.Str.ofString "ABCDEFGHIJKLMNOPQRSTUVWXYZabcdefghijklmnopqrstuvwxyz0123456789+/") ((x.fdiv K).fmod 64) = sgn x j := by
  subst hK
  have hp : (0 : Int) ≤ 64 ^ j.toNat := Int.pow_nonneg (by decide)
  rw [Int.fdiv_eq_ediv_of_nonneg _ hp, Int.fmod_eq_emod_of_nonneg _ (by decide)]
  exact item_signs _ (by omega) (by omega)
theorem slice_takeI (xs : List Nat) (k : Int) (hk : 0 ≤ k) : Txt.slice (mkS xs) none (some k) = mkS (xs.take k.toNat) := by
  have := slice_take xs k.toNat
  have e : ((k.toNat : Nat) : Int) = k := by omega
  rwa [e] at this
theorem four4_length (w : Nat) : (four4 w).length = 4 := rfl
theorem room3 {ns pre three post : List Int} (e : ns = pre ++ three ++ post) (hz : ns.length ≤ 64) : (fourL pre).length ≤ 256 := by
  have := f_len' pre
  have h : ns.length = pre.length + three.length + post.length := by rw [e]; simp; omega
  omega
theorem mulE (n : Int) (k : Nat) (h : n = (k : Int)) (hk : k < 3) : Txt.mul (PySem.Str.ofString "=") n = mkS (List.replicate k 61) := by
  subst h
  have key : ∀ k : Fin 3, Txt.mul (PySem.Str.ofString "=") (k.val : Int) = mkS (List.replicate k.val 61) := by decide +kernel
  exact key ⟨k, hk⟩
theorem end3 {pre : List Int} {a b c : Int} (hp : pre.length % 3 = 0) (h : (0 ≤ a ∧ a < 256) ∧ (0 ≤ b ∧ b < 256) ∧ 0 ≤ c ∧ c < 256) :
    mkS ((fourL pre ++ (four4 (256 * (256 * (256 * 0 + a) + b) + c).toNat).take 4) ++ List.replicate 0 61) = mkS (fourL (pre ++ [a, b, c])) := by
  rw [fourL_app hp]
  obtain ⟨n, hn, rfl⟩ := natB h.1
  obtain ⟨k, hk, rfl⟩ := natB h.2.1
  obtain ⟨j, hj, rfl⟩ := natB h.2.2
  have e : (256 * (256 * (256 * 0 + (n : Int)) + (k : Int)) + (j : Int)).toNat = whole3 n k j := rfl
  rw [e]
  simp [fourL, four4]
theorem end2 {pre : List Int} {a b : Int} (hp : pre.length % 3 = 0) (h : (0 ≤ a ∧ a < 256) ∧ (0 ≤ b ∧ b < 256)) :
    mkS ((fourL pre ++ (four4 (256 * (256 * (256 * 0 + a) + b) + 0).toNat).take 3) ++ List.replicate 1 61) = mkS (fourL (pre ++ [a, b])) := by
  rw [fourL_app hp]
  obtain ⟨n, hn, rfl⟩ := natB h.1
  obtain ⟨k, hk, rfl⟩ := natB h.2
  have e : (256 * (256 * (256 * 0 + (n : Int)) + (k : Int)) + 0).toNat = whole3 n k 0 := rfl
  rw [e]
  simp [fourL, four4]
theorem end1 {pre : List Int} {a : Int} (hp : pre.length % 3 = 0) (h : (0 ≤ a ∧ a < 256)) :
    mkS ((fourL pre ++ (four4 (256 * (256 * (256 * 0 + a) + 0) + 0).toNat).take 2) ++ List.replicate 2 61) = mkS (fourL (pre ++ [a])) := by
  rw [fourL_app hp]
  obtain ⟨n, hn, rfl⟩ := natB h
  have e : (256 * (256 * (256 * 0 + (n : Int)) + 0) + 0).toNat = whole3 n 0 0 := rfl
  rw [e]
  simp [fourL, four4, List.replicate]
end
section

theorem fill9 : PySem.Challenge.rw_xb0001_01 = PySem.Challenge.rw_xb0001_01 ∧ Mine.hd.heap_39 = Mine.hd.heap_39 := by
  k_with_none
  w_top off
  k_with "m k_room" => (((try simp only [depth_mark, depth_under_make, depth_under_kw, depth_in1, depth_deeper, depth_caller]); (try dsimp only [ktrTop]); omega))
  k_with "m k_units" => (((have hcL9 := cLine_is); (try simp only [units_in1, units_deeper, Around.mark_units, units_caller]); (try dsimp only [ktrTop]); omega))
  k_with "my size" => (first | assumption | ((try simp only [List.length_map, List.length_append, List.length_cons, List.length_nil, hexL_length, toI_length, mkS_length]); omega))
  k_with "my enter" => ((refine' code_def ?zzk1 ?zzk2 ?zzk3 ?zzk4 ?zzk5 ?zzkA ?zzkF ?zzkK ?zzk6 ?zzk7 ?zzk8 ?zzk9 ?zzkB ?_ ?zzc2 ?zzc3 ?zzc4 ?zzc5; (case zzkA => exact rfl); (case zzkF => exact rfl); (case zzkK => assumption); (case zzk1 => k_asm); (case zzk2 => k_asm); (case zzk3 => k_asm); (case zzk4 => k_asm); (case zzk5 => k_asm); (case zzk6 => k_is); (case zzk7 => k_is); (case zzk8 => k_room); (case zzk9 => first | exact BindsTo.of_eq rfl | exact binds_K (by k_in) rfl (by k_is) rfl rfl rfl); (case zzc5 => decide); (case zzkB => exact locs rfl); (case zzc2 => exact rfl); (case zzc3 => exact rfl); (case zzc4 => exact rfl); k_whole; intro g' L' h' FG' F' N' B' X' T'; (try dsimp only); (try k_lift B'); (try k_fold)))
  k_with "call type:type" => ((k_here; (with_reducible show wpAny _ _ (call (Value.type "type") [Value.bytes _ _]) _ _ _); refine call_type_bytes ?_))
  k_with "getMethod bytes" => ((k_here; first | (with_reducible refine meth_hex ?_) | (with_reducible refine meth_upper ?_) | (with_reducible refine meth_translate ?_)))
  k_with "getMethod str" => ((k_here; (with_reducible refine meth_encode ?_)))
  k_with "getMethod ref" => ((k_here; (with_reducible show wpAny _ _ (getMethod _ (Str.ofString "search") _) _ _ _); (refine' meth_searchK ?zzkF ?zzkX ?_; (case zzkF => k_asm); (case zzkX => k_asm))))
  k_with "getMethod type:bytes" => ((k_here; refine' method_type ?zzF ?zzX ?zzm (by decide +kernel) ?zze ?zzh ?_; (case zzF => k_asm); (case zzX => k_asm); (case zzm => exact meta_bytes); (case zze => k_dflt k_is); (case zzh => k_handed)))
  k_with "call builtin:bytes.hex" => ((k_here; (refine' call_hexL ?zzki ?zzkz ?_; (case zzki => assumption); (case zzkz => walk_at "my size")); intro t9 k9))
  k_with "call builtin:bytes.upper" => ((k_here; (refine' call_upperL ?zzki ?zzkz ?_; (case zzki => assumption); (case zzkz => walk_at "my size")); intro t9 k9 hIn9))
  k_with "call builtin:bytes.translate" => ((k_here; (refine' call_translateL ?zzki ?zzkz ?zzkt ?_; (case zzki => assumption); (case zzkz => walk_at "my size"); (case zzkt => first | with_reducible exact mkTab_size _ _ | rfl)); intro t9 k9 hIn9))
  k_with "call builtin:bytes.maketrans" => ((k_here; (refine' call_maketrans ?zzki ?_; (case zzki => rfl)); intro t9 k9))
  k_with "call builtin:str.encode" => ((k_here; (refine' call_encodeL ?zzka ?zzkz ?_; (case zzka => first | assumption | exact asc_hexL (by assumption)); (case zzkz => walk_at "my size")); intro t9 k9 hIn9))
  k_with "call builtin:re.Pattern.search" => ((k_here; (refine' search_noneK ?zzkF ?zzkX ?zzki ?zzkz ?zzkh ?_; (case zzkF => k_asm); (case zzkX => k_asm); (case zzki => assumption); (case zzkz => walk_at "my size"); (case zzkh => assumption))))
  k_with "call builtin:re.Pattern.search" => ((k_here; (refine' search_someK ?zzkF ?zzkN ?zzkX ?zzki ?zzkz ?zzkh ?_; (case zzkF => k_asm); (case zzkN => k_asm); (case zzkX => k_asm); (case zzki => assumption); (case zzkz => walk_at "my size"); (case zzkh => assumption)); intro x9 vs9 h' F' N' l1; (try k_lt l1); (try k_sweep)))
  k_with "truthy ref" => ((k_here; (refine' truthy_matchK ?zzkN ?zzkm ?_; (case zzkN => k_asm); (case zzkm => k_mem))))
  k_with "m k_intsEnd" => (exact IntsAre.nil)
  k_with "my frame" => (first | k_asm | ((rename News _ _ _ _ => nE'); exact cb_drop nE' (by intro p hp; kst_mem)))
  k_with "m kba_in" => (walk_at "my in")
  k_with "my in" => (first | assumption | (refine' in_snoc ?zzki ?zzka ?zzkb; (case zzka => omega); (case zzkb => omega); (case zzki => walk_at "my in")))
  k_with "m kst_in" => (((try dsimp only); walk_at "my led"))
  k_with "my led" => (first | exact List.forall_mem_nil _ | (refine' List.forall_mem_cons.mpr ⟨?zzla, ?zzlb⟩; (case zzla => walk_at "my mem"); (case zzlb => walk_at "my led")) | (intro p hp; kst_mem))
  k_with "my mem" => (first | exact List.Mem.head _ | (refine List.Mem.tail _ ?_; walk_at "my mem"))
  k_with "call type:bytes" => ((k_here; (with_reducible show wpAny _ _ (call (Value.type "bytes") [Value.ref _]) _ _ _); (rename News _ _ _ _ => nE'); (try simp only [List.push_toArray] at nE'); (refine' make_bytes ?zzkF nE' ?zzkm ?zzkh ?zzki ?zzkr ?zzkn ?_; (case zzkF => k_asm); (case zzkm => walk_at "my mem"); (case zzkh => rfl); (case zzki => k_intsEnd); (case zzkr => walk_at "my in"); (case zzkn => ((try simp only [List.length_append, List.length_cons, List.length_nil]); omega))); intro h' t' k' F' N' hIn'; (try k_sweep)))
  k_with "leaving ref" => ((k_here; first | (refine' leave_raiseS ?zzk1 ?zzk0 ?zzk2 ?zzk3 ?_; (case zzk0 => assumption); (case zzk2 => assumption); (case zzk1 => assumption); (case zzk3 => k_asm); k_whole; intro h' t' S' R' U'; (try dsimp only at S' R' U' ⊢)) | (refine' leave_onS ?zzk1 ?zzk2 ?zzk3 ?zzk4 ?_; (case zzk3 => assumption); (case zzk2 => assumption); (case zzk1 => assumption); (case zzk4 => assumption); k_whole; intro h' S' R' U'; (try dsimp only at S' R' U' ⊢))))
  k_with "my call" => (((case zzk1 => k_asm); (case zzk2 => k_asm); (case zzk3 => k_asm); (case zzk4 => k_asm); (case zzk5 => k_asm); (case zzk6 => exact rfl); (case zzkd => k_room); (case zzku => k_units)))
  k_with "m k_all" => (exact allNe_of (by assumption) (by (try dsimp only); omega))
  k_with "pyIter ref" => ((k_here; (with_reducible show wpAny _ _ (pyIter (Value.ref _)) (fun it s₂ => LoopAtV _ _ _ _ _ (Str.ofString "k") _ _ _ it s₂) _ _); k_dflt (refine' four_range (fun l => mkS (fourL l)) ?zzhL ?zzhh ?zzhr ?zzhz ?zzF ?zzN ?zzhW ?zzho ?zzhf ?zzh1 ?zzh2 (fun pre' three' post' t' tF' vW' oW' u' h' tk' tl' hns' hp' h3' hW' h1' h2' F' N' => ?_) (fun tF' u' h' tk' oW' F' N' => ?_); (case zzhL => rfl); (case zzhh => rfl); (case zzhr => assumption); (case zzhz => assumption); (case zzF => k_asm); (case zzN => k_asm); (case zzhW => assumption); (case zzho => with_unfolding_all exact rfl); (case zzhf => with_unfolding_all exact rfl); (case zzh1 => exact allNe_of (by assumption) (by (try dsimp only); omega)); (case zzh2 => exact allNe_of (by assumption) (by (try dsimp only); omega)); (rotate_left 1); (rotate_right 1); (rcases three_cases h3' with ⟨a', b', c', e'⟩ | ⟨a', b', e', p'⟩ | ⟨a', e', p'⟩ <;> subst e' <;> (first | (have hab' := in3 (by assumption) hns'; have hrm' := room3 hns' (by assumption); clear h3') | (have hab' := in2 (by assumption) hns'; have hrm' := room3 hns' (by assumption); clear h3') | (have hab' := in1 (by assumption) hns'; have hrm' := room3 hns' (by assumption); clear h3') | skip)); (all_goals (try dsimp only)))))
  k_with "m k_all" => (with_reducible assumption)
  k_with "subscriptTail Name Slice ref ref" => ((k_here; (with_reducible show wpAny _ _ (subscriptTail _ (Expr.Slice _ _ none _) (Value.ref _) (Value.ref _)) _ _ _); k_dflt (refine' kmk_slice_ints ?zzF ?zzN ?zzl ?zzp ?zzq ?zzi ?zzm ?zzc ?_ ?zzs ?zzt ?zzz; (case zzF => k_asm); (case zzN => k_asm); (case zzl => exact News.isList (by k_asm) (by k_mem)); (case zzp => exact IsPart.int _ _); (case zzq => exact IsPart.int _ _); (case zzi => assumption); (case zzm => first | exact slc (three := [_, _, _]) (by assumption) (by assumption) (.inl rfl) | exact slc (three := [_, _]) (by assumption) (by assumption) (.inr ⟨lt23, by assumption⟩) | exact slc (three := [_]) (by assumption) (by assumption) (.inr ⟨lt13, by assumption⟩)); (case zzc => rfl); (case zzs => with_unfolding_all rfl); (case zzt => kmk_pure); (case zzz => exact kmk_sz (by assumption) (by rw [sizeLine_eq]; omega))); intro D' ws' h' F' N' l1 hI' hC' hL'; clear hC' hL'; (first | (obtain ⟨t1', t2', t3', e'⟩ := ints3 hI') | (obtain ⟨t1', t2', e'⟩ := ints2 hI') | (obtain ⟨t1', e'⟩ := ints1 hI')); subst e'; (try k_lt l1); (try k_sweep)))
  k_with "binaryOp Mult ref int" => ((k_here; (with_reducible show wpAny _ _ (binaryOp Operator.Mult (Value.ref _) (Value.int _ _)) _ _ _); k_dflt (refine' KMa.mul ?zzF ?zzN ?zzl ?zzlo ?zzhi ?zzz ?zze ?_; (case zzF => k_asm); (case zzN => k_asm); (case zzl => exact News.isList (by k_asm) (by k_mem)); (case zzlo => ((try simp only [List.length_cons, List.length_nil]); omega)); (case zzhi => ((try simp only [List.length_cons, List.length_nil]); omega)); (case zzz => exact Nat.le_of_ble_eq_true rfl); (case zze => kl_lit)); intro D' h' F' N' l1; (try k_lt l1); (try k_sweep)))
  k_with "binaryOp Add ref ref" => ((k_here; (with_reducible show wpAny _ _ (binaryOp _ (Value.ref _) (Value.ref _)) _ _ _); k_dflt (refine' kmk_add_lit ?zzF ?zzN ?zza ?zzb ?zze ?_ ?zzz; (case zzF => k_asm); (case zzN => k_asm); (case zza => exact News.isList (by k_asm) (by k_mem)); (case zzb => exact News.isList (by k_asm) (by k_mem)); (case zze => kl_lit); (case zzz => exact Nat.le_of_ble_eq_true rfl)); intro D' h' F' N' l1; (try k_lt l1); (obtain ⟨m1, m2, m3, m4, m5, m6, m7⟩ := l1); (try k_sweep)))
  k_with "exec For" => ((k_here; (with_reducible show wpAny _ _ (exec (Stmt.For (Expr.Name _ _) (Expr.BinOp _ _ _ _) _ [] _) _) _ _ _); (rename Fr _ _ _ _ => lF'); (with_unfolding_all refine' For_invVF lF' ?zzk1 ?zzk2 ?_; (case zzk1 => exact rfl); (case zzk2 => exact rfl); k_whole)))
  k_with "pyIter ref" => ((k_here; (with_reducible show wpAny _ _ (pyIter (Value.ref _)) (fun it s₂ => LoopAtV _ _ _ _ _ (Str.ofString "octet") _ _ _ it s₂) _ _); k_dflt (refine' oct_loop ?zzhL ?zzhh ?zzF ?zzN ?zzhW ?zzd1 ?zzd2 ?zzd3 ?zzd4 ?zzg1 ?zzg2 ?zzg3 ?zzg4 ?zzg5 (fun v' y' t' tW' oW' h' tk' tl' hW' hT' F' N' => ?_) (fun u' tW' oW' h' tk' hW' F' N' => ?_); (case zzhL => rfl); (case zzhh => rfl); (case zzF => k_asm); (case zzN => k_asm); (case zzhW => assumption); (case zzd1 => k_ne); (case zzd2 => k_ne); (case zzd3 => k_ne); (case zzd4 => assumption); (case zzg1 => k_ne); (case zzg2 => k_ne); (case zzg3 => k_ne); (case zzg4 => exact allNe_of (by assumption) (Nat.le_refl _)); (case zzg5 => k_ne)); (all_goals (try dsimp only))))
  k_with "OctPost" => ((k_here; k_dflt (refine' oct_end ?zzF ?zzN ?zzd ?zze; (case zzF => k_asm); (case zzN => k_asm); (case zzd => assumption); (case zze => rfl))))
  k_with "eval ListComp" => ((k_here; (with_reducible show wpAny _ _ (eval (Expr.ListComp (Expr.Subscript _ _ _) _ _ _) _) _ _ _); k_dflt (refine Mine.ListComp_tup (F₀ := by k_asm) (by with_unfolding_all rfl) (by decide) (by rfl) (by decide) (by rfl) ?_)))
  k_with "SrcT" => ((k_here; k_dflt (refine Mine.SrcT.sign (by with_reducible assumption) (by rfl) (by k_asm) (by k_asm) (by k_mem) (by rfl) (by rfl) (fun j' t' C' oC' m' h' tk' E' hj' hC' hx' F' N' => ?_) (fun g' ys' hY' => ?_)); (rcases hj' with hj' | hj' | hj' | hj' <;> subst hj' <;> skip)))
  k_with "TurnP" => ((k_here; k_dflt (exact turnP (item_sgn (by rfl)))))
  k_with "call builtin:str.join" => ((k_here; (refine' join_sgn ?zzkl ?zzkc ?zzkx ?_; (case zzkl => exact News.isList (by k_asm) (by k_mem)); (case zzkc => assumption); (case zzkx => omega)); intro t9 k9))
  k_with "my lit" => (first | with_reducible exact (rfl : mkS _ = mkS _) | exact mulE _ 0 rfl (by decide) | exact mulE _ 1 rfl (by decide) | exact mulE _ 2 rfl (by decide) | exact slice_takeI _ _ (by decide) | exact slice_takeI _ _ (by (try simp only [List.length_cons, List.length_nil]); omega))
  k_with "my size" => (((simp only [List.length_append, List.length_take, four4_length, List.length_replicate, List.length_cons, List.length_nil]); omega))
  k_with "binaryOp Add str str" => ((k_here; (with_reducible show wpAny _ _ (binaryOp Operator.Add (Value.str _ _) (Value.str _ _)) _ _ _); (refine' add_mk ?zzka ?zzkb ?zzkz ?_; (case zzka => walk_at "my lit"); (case zzkb => walk_at "my lit"); (case zzkz => walk_at "my size")); intro t9 k9))
  k_with "FourPost" => ((k_here; k_dflt (refine' four_end ?zzF ?zzN ?zzhW ?zzho ?zzhf ?zze; (case zzF => k_asm); (case zzN => walk_at "my frame"); (case zzhW => assumption); (case zzho => with_unfolding_all exact rfl); (case zzhf => with_unfolding_all exact rfl); (case zze => first | exact end3 (by assumption) (by assumption) | exact end2 (by assumption) (by assumption) | exact end1 (by assumption) (by assumption)))))
  k_with "my enterC" => ((refine' code_defC ?zzk1 ?zzk2 ?zzk3 ?zzk4 ?zzk5 ?zzkA ?zzkF ?zzkK ?zzk6 ?zzk7 ?zzk8 ?zzk9 ?zzkB ?zzkD ?_ ?zzc2 ?zzc3 ?zzc4; (case zzkA => exact rfl); (case zzkF => exact rfl); (case zzkK => assumption); (case zzk1 => k_asm); (case zzk2 => k_asm); (case zzk3 => k_asm); (case zzk4 => k_asm); (case zzk5 => k_asm); (case zzk6 => k_is); (case zzk7 => k_is); (case zzk8 => k_room); (case zzk9 => first | exact BindsTo.of_eq rfl | exact binds_K (by k_in) rfl (by k_is) rfl rfl rfl); (case zzkB => exact rfl); (case zzkD => decide +kernel); (case zzc2 => exact rfl); (case zzc3 => exact rfl); (case zzc4 => exact rfl); k_whole; intro g' L' h' tk' cells' FG' F' N' Y' B' X' T' l1; (try k_lt l1); (obtain ⟨l1a, l1b⟩ := l1); k_cells Y'; (try simp only [List.cons_append, List.nil_append] at N'); (try dsimp only); (try k_lift B'); (try k_fold)))
  k_fill
  exact ⟨rfl, rfl⟩

section
variable {prog : Program} {w : World} {p : Program} {loose : List Str} {mean : ExcName → Option Value} {mg mb : Str → Option Value}
  {dp un : Nat} {gd : Option (List Code)} {cn : Str} {cs : Scope} {a : Addr} {ccd : Value} {cl : List (Str × Addr)} {outer : List Env} {A₀ : Around} {base h₀ : Heap} {L : Addr} {m : Str → Option Value}
  {news : List (Addr × Obj)} {s : Shared} {Q E : Value → Shared → Prop}
theorem allNe_of {d c : Nat} : ∀ {l : List (Addr × Obj)}, AllLt d l → d ≤ c → ∀ p ∈ l, p.1 ≠ c
  | [], _, _ => fun _ h => nomatch h
  | q :: r, h, hc => fun p hp => by
    rcases List.mem_cons.mp hp with rfl | hp
    · exact fun e => absurd (e ▸ h.1) (Nat.not_lt.mpr hc)
    · exact allNe_of h.2 hc p hp

theorem law_four {r : Addr} {vs : List Value} {nn : Nat} {ns : List Int} (B : Below A₀ base outer h₀) (F : Fr h₀ L s.heap m) (X : (Mine.hd.heap_39 w.params).In h₀) (N : News h₀ L s.heap ((r, listOf vs.toArray nn) :: news)) (T : Top p loose mean mg mb h₀) (hk : cs.kind = .function)
    (hd : dp + 5 < recursionLimit) (hu : un + 50 < cLine) (hI : IntsAre vs ns) (hz : ns.length ≤ 64) (hi : KBa.In ns)
    (h : ∀ t' h' tk', Fr h₀ L h' m → News h₀ L h' ((r, listOf vs.toArray nn) :: news) → Q (.str (mkS (fourL ns)) t') { s with heap := h', toks := tk' }) :
    wpAny (model prog w) (ktrTop dp un gd cn cs L a ccd cl outer) (call (.ref 181) [.ref r]) Q E s := by
  refine wpAny_call ?_
  k_dflt walk_at "my enterC"
  k_steps
  refine ret_str (Q := Q) h rfl ?_ ?_
  all_goals walk_at "my frame"
end
end
section
theorem toks_cut {α : Type} {M : Model} {A : Around} {c : Sem α} {Q : α → Shared → Prop} {E : Value → Shared → Prop} {h : Heap} {g : Array GenState} {d : Drawn} {T : Nat} {o : OsState} (H : ∀ tk, TokUp 1 tk → wpAny M A c Q E ⟨h, g, d, tk, o⟩) : wpAny M A c Q E ⟨h, g, d, T + 1, o⟩ := H (T + 1) (Nat.succ_le_succ (Nat.zero_le _))
theorem news_tail {h₀ h : Heap} {L : Addr} {p : Addr × Obj} {r : List (Addr × Obj)} (N : News h₀ L h (p :: r)) : News h₀ L h r := fun q hq => N q (List.Mem.tail _ hq)
def Small (xs : List Nat) : Prop := xs.length ≤ 256
theorem Small.le {xs : List Nat} (h : Small xs) : xs.length ≤ 256 := h
-- the two branches of one test meet again: the continuation stands as a letter in the first part
structure CutMark : Prop where
  mark :: (one : True)
def CutK (K : Bool → Shared → Prop) (h₀ : Heap) (L : Addr) (m : Str → Option Value) (news : List (Addr × Obj)) (s : Shared) : Prop := ∀ h' tk, Fr h₀ L h' m → News h₀ L h' news → K false { s with heap := h', toks := tk }
theorem CutK.use {K : Bool → Shared → Prop} {h₀ : Heap} {L : Addr} {m : Str → Option Value} {news : List (Addr × Obj)} {s : Shared} {v : Bool} {h' : Heap} {tk : Nat} (k : CutK K h₀ L m news s) (e : v = false) (F : Fr h₀ L h' m) (N : News h₀ L h' news) : K v { s with heap := h', toks := tk } := by
  subst e; exact k h' tk F N
theorem cut_told {M : Model} {A : Around} {c X : Sem Value} {K : Bool → Shared → Prop} {E E1 E2 E3 : Value → Shared → Prop} {h₀ : Heap} {L : Addr} {m : Str → Option Value} {news : List (Addr × Obj)} {s : Shared} (_ : Fr h₀ L s.heap m) (_ : News h₀ L s.heap news)
    (h1 : ∀ K' : Bool → Shared → Prop, CutMark → CutK K' h₀ L m news s → wpAny M A c (fun a s₁ => wpAny M A X (fun b s₂ => wpAny M A (compareOp .NotEq a b) (fun c s₃ => wpAny M A (truthy c) K' E3 s₃) E2 s₂) E1 s₁) E s)
    (h2 : ∀ h' tk, Fr h₀ L h' m → News h₀ L h' news → K false { s with heap := h', toks := tk }) :
    wpAny M A c (fun a s₁ => wpAny M A X (fun b s₂ => wpAny M A (compareOp .NotEq a b) (fun c s₃ => wpAny M A (truthy c) K E3 s₃) E2 s₂) E1 s₁) E s := h1 K ⟨trivial⟩ h2
section
variable {prog : Program} {w : World} {p : Program} {loose : List Str} {mean : ExcName → Option Value} {mg mb : Str → Option Value}
  {dp un : Nat} {gd : Option (List Code)} {cn : Str} {cs : Scope} {a : Addr} {ccd : Value} {cl : List (Str × Addr)} {outer : List Env} {A₀ : Around} {base h₀ : Heap} {L : Addr} {m : Str → Option Value}
  {news : List (Addr × Obj)} {s : Shared} {Q E : Value → Shared → Prop}
theorem law_fourN {r : Addr} {vs : List Value} {nn : Nat} {ns : List Int} (B : Below A₀ base outer h₀) (F : Fr h₀ L s.heap m) (X : (Mine.hd.heap_39 w.params).In h₀) (N : News h₀ L s.heap news) (T : Top p loose mean mg mb h₀) (hk : cs.kind = .function)
    (hd : dp + 5 < recursionLimit) (hu : un + 50 < cLine) (hm : (r, listOf vs.toArray nn) ∈ news) (hI : IntsAre vs ns) (hz : ns.length ≤ 64) (hi : KBa.In ns)
    (h : ∀ t' h' tk', Small (fourL ns) → Asc (fourL ns) → Fr h₀ L h' m → News h₀ L h' news → Q (.str (mkS (fourL ns)) t') { s with heap := h', toks := tk' }) :
    wpAny (model prog w) (ktrTop dp un gd cn cs L a ccd cl outer) (call (.ref 181) [.ref r]) Q E s :=
  law_four B F X (fun p hp => (List.mem_cons.mp hp).elim (fun e => e ▸ N _ hm) (N p)) T hk hd hu hI hz hi fun t' h' tk' F' N' => h t' h' tk' (show (fourL ns).length ≤ 256 by have := f_len hi; omega) (f_asc hi) F' fun p hp => N' p (List.Mem.tail _ hp)
theorem slice_take2 {xs : List Nat} : Txt.slice (mkS xs) none (some 2) = mkS (xs.take 2) := slice_take xs 2
theorem slice_drop2 {xs : List Nat} : Txt.slice (mkS xs) (some 2) none = mkS (xs.drop 2) := slice_drop xs 2
theorem onePlus : PySem.Str.ofString "+" = mkS [43] := rfl
theorem oneSlash : PySem.Str.ofString "/" = mkS [47] := rfl
theorem oneDot : PySem.Str.ofString "." = mkS [46] := rfl
theorem oneDash : PySem.Str.ofString "-" = mkS [45] := rfl
theorem oneLow : PySem.Str.ofString "_" = mkS [95] := rfl
theorem oneEq : PySem.Str.ofString "=" = mkS [61] := rfl
theorem call_replaceL {A : Around} {xs : List Nat} {y z : Str} {b c u v : Nat} {t : Tok} (hy : y = mkS [b]) (hz : z = mkS [c]) (hu : 0 < u) (huv : u < v) (hbc : b ≠ c) (hn : xs.length ≤ 1048576)
    (h : ∀ t' k, TokUp s.toks k → Q (.str (mkS (xs.map (rep b c))) t') { s with toks := k }) : wpAny (model prog w) A (call (.builtin "str.replace") [.str (mkS xs) t, .str y u, .str z v]) Q E s := by
  subst hy hz
  refine wpAny_telling (SC.replaceW (show (u : Nat) ≠ 0 from Nat.ne_of_gt hu) (show (v : Nat) ≠ 0 from Nat.ne_of_gt (Nat.lt_trans hu huv)) (show (u : Nat) ≠ v from Nat.ne_of_lt huv) ?_ (by rw [mkS_length]; exact hn) (by rw [mkS_length]; simp) fun t' k => ?_)
  · rw [mk_inj]; simpa using hbc
  · rw [replace_mk]; exact fun l => h t' k l
theorem call_endsL {A : Around} {xs : List Nat} {y : Str} {c : Nat} {t u : Tok} (hy : y = mkS [c]) (h1 : xs.getLast? = some c → Q (.bool true) s) (h2 : ¬ xs.getLast? = some c → Q (.bool false) s) : wpAny (model prog w) A (call (.builtin "str.endswith") [.str (mkS xs) t, .str y u]) Q E s := by
  subst hy
  refine SC.endswith ?_
  rw [endswith_mk]
  by_cases e : xs.getLast? = some c
  · rw [decide_eq_true e]; exact h1 e
  · rw [decide_eq_false e]; exact h2 e
theorem slice_len1 {xs : List Nat} : Txt.slice (mkS xs) none (some ((xs.length : Int) - 1)) = mkS (xs.take (xs.length - 1)) := by
  by_cases h : xs = []
  · subst h; rfl
  · have hp : 1 ≤ xs.length := List.length_pos_iff.mpr h
    have e : ((xs.length : Int) - 1) = ((xs.length - 1 : Nat) : Int) := by omega
    rw [e, slice_take]
theorem slice_len2 {xs : List Nat} : Txt.slice (mkS xs) none (some (((mkS xs).length : Int) - 1)) = mkS (xs.take (xs.length - 1)) := by
  rw [mkS_length]; exact slice_len1
theorem tail_ns {A : Around} {value slice : Expr} {xs ys : List Nat} {t uj : Tok} {j : Int} (hF : Fr h₀ L s.heap m) (hN : News h₀ L s.heap news) (e : Txt.slice (mkS xs) none (some j) = mkS ys) (hsz : xs.length ≤ 1048576)
    (h : ∀ h' t' k, Fr h₀ L h' m → News h₀ L h' news → Q (.str (mkS ys) t') { s with heap := h', toks := k })
    (hs : subscripted slice false (.str (mkS xs) t) (.ref s.heap.objs.size) = operate [.ref s.heap.objs.size, .str (mkS xs) t] (getItem (.str (mkS xs) t) (.ref s.heap.objs.size)) := by with_unfolding_all rfl)
    (ht : ∀ r, letTemporaryGo value (.str (mkS xs) t) r = pure () := by intro _; with_unfolding_all rfl) :
    wpAny (model prog w) A (subscriptTail value slice (.str (mkS xs) t) (.ref s.heap.objs.size)) Q E { s with heap := s.heap.push { cls := .type "slice", data := .fields #[.none, .int j uj, .none] } } :=
  slice_strN_ns hF hN (fun h' t' k a b => by rw [e]; exact h h' t' k a b) hs ht (by rw [mkS_length, sizeLine_eq]; omega)
theorem tail_sn {A : Around} {value slice : Expr} {xs ys : List Nat} {t uj : Tok} {j : Int} (hF : Fr h₀ L s.heap m) (hN : News h₀ L s.heap news) (e : Txt.slice (mkS xs) (some j) none = mkS ys) (hsz : xs.length ≤ 1048576)
    (h : ∀ h' t' k, Fr h₀ L h' m → News h₀ L h' news → Q (.str (mkS ys) t') { s with heap := h', toks := k })
    (hs : subscripted slice false (.str (mkS xs) t) (.ref s.heap.objs.size) = operate [.ref s.heap.objs.size, .str (mkS xs) t] (getItem (.str (mkS xs) t) (.ref s.heap.objs.size)) := by with_unfolding_all rfl)
    (ht : ∀ r, letTemporaryGo value (.str (mkS xs) t) r = pure () := by intro _; with_unfolding_all rfl) :
    wpAny (model prog w) A (subscriptTail value slice (.str (mkS xs) t) (.ref s.heap.objs.size)) Q E { s with heap := s.heap.push { cls := .type "slice", data := .fields #[.int j uj, .none, .none] } } :=
  slice_strN_sn hF hN (fun h' t' k a b => by rw [e]; exact h h' t' k a b) hs ht (by rw [mkS_length, sizeLine_eq]; omega)
theorem call_lenL {A : Around} {xs : List Nat} {t : Tok} (hz : xs.length ≤ 1048576) (h : ∀ t' k, Q (.int (xs.length : Int) t') { s with toks := k }) : wpAny (model prog w) A (call (.builtin "len") [.str (mkS xs) t]) Q E s :=
  PyProof.Rows.len_str (by rw [mkS_length]; omega) (by rw [mkS_length]; exact h _ _)
end
end
section

theorem fill8 : PySem.Challenge.rw_xb0001_01 = PySem.Challenge.rw_xb0001_01 ∧ Mine.hd.heap_39 = Mine.hd.heap_39 := by
  k_with_none
  w_top off
  k_with "m k_room" => (((try simp only [depth_mark, depth_under_make, depth_under_kw, depth_in1, depth_deeper, depth_caller]); (try dsimp only [ktrTop]); omega))
  k_with "m k_units" => (((have hcL9 := cLine_is); (try simp only [units_in1, units_deeper, Around.mark_units, units_caller]); (try dsimp only [ktrTop]); omega))
  k_with "my size" => (first | assumption | ((try simp only [List.length_map, List.length_append, List.length_cons, List.length_nil, hexL_length, toI_length, mkS_length]); omega))
  k_with "my enter" => ((refine' code_def ?zzk1 ?zzk2 ?zzk3 ?zzk4 ?zzk5 ?zzkA ?zzkF ?zzkK ?zzk6 ?zzk7 ?zzk8 ?zzk9 ?zzkB ?_ ?zzc2 ?zzc3 ?zzc4 ?zzc5; (case zzkA => exact rfl); (case zzkF => exact rfl); (case zzkK => assumption); (case zzk1 => k_asm); (case zzk2 => k_asm); (case zzk3 => k_asm); (case zzk4 => k_asm); (case zzk5 => k_asm); (case zzk6 => k_is); (case zzk7 => k_is); (case zzk8 => k_room); (case zzk9 => first | exact BindsTo.of_eq rfl | exact binds_K (by k_in) rfl (by k_is) rfl rfl rfl); (case zzc5 => decide); (case zzkB => exact locs rfl); (case zzc2 => exact rfl); (case zzc3 => exact rfl); (case zzc4 => exact rfl); k_whole; intro g' L' h' FG' F' N' B' X' T'; (try dsimp only); (try k_lift B'); (try k_fold)))
  k_with "call type:type" => ((k_here; (with_reducible show wpAny _ _ (call (Value.type "type") [Value.bytes _ _]) _ _ _); refine call_type_bytes ?_))
  k_with "getMethod bytes" => ((k_here; first | (with_reducible refine meth_hex ?_) | (with_reducible refine meth_upper ?_) | (with_reducible refine meth_translate ?_)))
  k_with "getMethod str" => ((k_here; (with_reducible refine meth_encode ?_)))
  k_with "getMethod ref" => ((k_here; (with_reducible show wpAny _ _ (getMethod _ (Str.ofString "search") _) _ _ _); (refine' meth_searchK ?zzkF ?zzkX ?_; (case zzkF => k_asm); (case zzkX => k_asm))))
  k_with "getMethod type:bytes" => ((k_here; refine' method_type ?zzF ?zzX ?zzm (by decide +kernel) ?zze ?zzh ?_; (case zzF => k_asm); (case zzX => k_asm); (case zzm => exact meta_bytes); (case zze => k_dflt k_is); (case zzh => k_handed)))
  k_with "call builtin:bytes.hex" => ((k_here; (refine' call_hexL ?zzki ?zzkz ?_; (case zzki => assumption); (case zzkz => walk_at "my size")); intro t9 k9))
  k_with "call builtin:bytes.upper" => ((k_here; (refine' call_upperL ?zzki ?zzkz ?_; (case zzki => assumption); (case zzkz => walk_at "my size")); intro t9 k9 hIn9))
  k_with "call builtin:bytes.translate" => ((k_here; (refine' call_translateL ?zzki ?zzkz ?zzkt ?_; (case zzki => assumption); (case zzkz => walk_at "my size"); (case zzkt => first | with_reducible exact mkTab_size _ _ | rfl)); intro t9 k9 hIn9))
  k_with "call builtin:bytes.maketrans" => ((k_here; (refine' call_maketrans ?zzki ?_; (case zzki => rfl)); intro t9 k9))
  k_with "call builtin:str.encode" => ((k_here; (refine' call_encodeL ?zzka ?zzkz ?_; (case zzka => first | assumption | exact asc_hexL (by assumption)); (case zzkz => walk_at "my size")); intro t9 k9 hIn9))
  k_with "call builtin:re.Pattern.search" => ((k_here; (refine' search_noneK ?zzkF ?zzkX ?zzki ?zzkz ?zzkh ?_; (case zzkF => k_asm); (case zzkX => k_asm); (case zzki => assumption); (case zzkz => walk_at "my size"); (case zzkh => assumption))))
  k_with "call builtin:re.Pattern.search" => ((k_here; (refine' search_someK ?zzkF ?zzkN ?zzkX ?zzki ?zzkz ?zzkh ?_; (case zzkF => k_asm); (case zzkN => k_asm); (case zzkX => k_asm); (case zzki => assumption); (case zzkz => walk_at "my size"); (case zzkh => assumption)); intro x9 vs9 h' F' N' l1; (try k_lt l1); (try k_sweep)))
  k_with "truthy ref" => ((k_here; (refine' truthy_matchK ?zzkN ?zzkm ?_; (case zzkN => k_asm); (case zzkm => k_mem))))
  k_with "m k_intsEnd" => (exact IntsAre.nil)
  k_with "my frame" => (first | k_asm | ((rename News _ _ _ _ => nE'); exact cb_drop nE' (by intro p hp; kst_mem)))
  k_with "m kba_in" => (walk_at "my in")
  k_with "my in" => (first | assumption | (refine' in_snoc ?zzki ?zzka ?zzkb; (case zzka => omega); (case zzkb => omega); (case zzki => walk_at "my in")))
  k_with "m kst_in" => (((try dsimp only); walk_at "my led"))
  k_with "my led" => (first | exact List.forall_mem_nil _ | (refine' List.forall_mem_cons.mpr ⟨?zzla, ?zzlb⟩; (case zzla => walk_at "my mem"); (case zzlb => walk_at "my led")) | (intro p hp; kst_mem))
  k_with "my mem" => (first | exact List.Mem.head _ | (refine List.Mem.tail _ ?_; walk_at "my mem"))
  k_with "call type:bytes" => ((k_here; (with_reducible show wpAny _ _ (call (Value.type "bytes") [Value.ref _]) _ _ _); (rename News _ _ _ _ => nE'); (try simp only [List.push_toArray] at nE'); (refine' make_bytes ?zzkF nE' ?zzkm ?zzkh ?zzki ?zzkr ?zzkn ?_; (case zzkF => k_asm); (case zzkm => walk_at "my mem"); (case zzkh => rfl); (case zzki => k_intsEnd); (case zzkr => walk_at "my in"); (case zzkn => ((try simp only [List.length_append, List.length_cons, List.length_nil]); omega))); intro h' t' k' F' N' hIn'; (try k_sweep)))
  k_with "leaving ref" => ((k_here; first | (refine' leave_raiseS ?zzk1 ?zzk0 ?zzk2 ?zzk3 ?_; (case zzk0 => assumption); (case zzk2 => assumption); (case zzk1 => assumption); (case zzk3 => k_asm); k_whole; intro h' t' S' R' U'; (try dsimp only at S' R' U' ⊢)) | (refine' leave_onS ?zzk1 ?zzk2 ?zzk3 ?zzk4 ?_; (case zzk3 => assumption); (case zzk2 => assumption); (case zzk1 => assumption); (case zzk4 => assumption); k_whole; intro h' S' R' U'; (try dsimp only at S' R' U' ⊢))))
  k_with "my call" => (((case zzk1 => k_asm); (case zzk2 => k_asm); (case zzk3 => k_asm); (case zzk4 => k_asm); (case zzk5 => k_asm); (case zzk6 => exact rfl); (case zzkd => k_room); (case zzku => k_units)))
  k_with "call builtin:hex" => ((k_here; (refine' call_hexint ?zzka ?_; (case zzka => exact my_in_of (by assumption) (by assumption))); intro t9 k9))
  k_with "CompSrc" => ((k_here; (with_reducible show LCg.CompSrc _ _ _ _ _ _ _ (Expr.Subscript _ _ _) _ _ _ _ _ _); k_dflt (refine LCg.CompSrc.ledger (by rfl) (by k_asm) (by k_asm) (by k_mem) (by kcf_size) ?_; intro g'; (refine' kct_list (fun k => mkS (hexL [k])) (by l_ints) (fun k' t' I' oI' C' oC' D' m' ys' h' tk' E' hk' hC' hx' F' N' off' ne' hMark' => ?_) ?_); (all_goals (try (simp only [LCg.Off3, and_true] at off'))))))
  k_with "KCtEl" => (exact kct_el hex_el rfl rfl)
  k_with "call builtin:str.upper" => ((k_here; (refine' call_strupper ?zzka ?zzkz ?_; (case zzka => first | assumption | exact asc_hexL (by assumption)); (case zzkz => walk_at "my size")); intro t9 k9 ha9))
  k_with "call builtin:str.join" => ((k_here; (with_reducible rename CarriedAll _ (List.map _ _) => ktC); (refine' join_hex ?zzkl ktC ?zzkn ?_; (case zzkl => first | assumption | is_list | exact News.isList (by k_asm) (by k_mem)); (case zzkn => walk_at "my size")); intro t9 k9; (try ((rename News _ _ _ _ => nT'); (replace nT' := news_tail nT'); (rename (_ ≠ _ ∧ _) => o1x); clear o1x))))
  k_with "eval ListComp" => ((k_here; (with_reducible show wpAny _ _ (eval (Expr.ListComp (Expr.Call (Expr.Name (Str.ofString "ord") _) [Expr.Name _ _] _ _) _ _ _) _) _ _ _); k_dflt (refine Mine.ListComp_str (F₀ := by k_asm) (by with_unfolding_all rfl) (by decide) (by rfl) (by decide) (by rfl) ?_)))
  k_with "SrcS" => ((k_here; k_dflt (refine Mine.SrcS.intro (by rfl) (by k_asm) (by k_asm) ?zzsa ?zzsz (fun c' t' I' oI' C' oC' D' m' ys' h' tk' E' hc' hC' hx' F' N' off' ne' hMark' => ?_) (fun g' => ?_)); (case zzsa => walk_at "my asc"); (case zzsz => ((rw [PySem.sizeLine_eq]); walk_at "my size")); (all_goals (try (simp only [LCg.Off3, and_true] at off')))))
  k_with "my asc" => (first | assumption | exact asc_hexL (by assumption) | exact asc_upN (by walk_at "my asc"))
  k_with "my lawcall" => (((case zzkz => walk_at "my size"); (case zzki => assumption); walk_at "my call"))
  k_with "call ref" => ((k_here; (with_reducible show wpAny _ _ (call (Value.ref 161) [Value.bytes (byteArr _) _]) _ _ _); k_dflt (refine' L_b16encode ?zzk1 ?zzk2 ?zzk3 ?zzk4 ?zzk5 ?zzk6 ?zzkd ?zzku ?zzkz ?zzki ?_; walk_at "my lawcall"); intro t9 h9 k9 F9 N9; (try dsimp only); (try k_sweep); (try k_fold)))
  k_with "call ref" => ((k_here; (with_reducible show wpAny _ _ (call (Value.ref 169) [Value.str (mkS (List.map upN (hexL _))) _]) _ _ _); k_dflt (refine' L_b16decode ?zzk1 ?zzk2 ?zzk3 ?zzk4 ?zzk5 ?zzk6 ?zzkd ?zzku ?zzkz ?zzki ?_; walk_at "my lawcall"); intro t9 h9 k9 F9 N9; (try dsimp only); (try k_sweep); (try k_fold)))
  k_with "call ref" => ((k_here; (with_reducible show wpAny _ _ (call (Value.ref 169) [Value.str (mkS (hexL _)) _, Value.bool true]) _ _ _); k_dflt (refine' L_b16decodeU ?zzk1 ?zzk2 ?zzk3 ?zzk4 ?zzk5 ?zzk6 ?zzkd ?zzku ?zzkz ?zzki ?_; walk_at "my lawcall"); intro t9 h9 k9 F9 N9; (try dsimp only); (try k_sweep); (try k_fold)))
  k_with "call ref" => ((k_here; (with_reducible show wpAny _ _ (call (Value.ref 169) [Value.str (mkS (hexL _)) _]) _ _ _); k_dflt (refine' L_b16decode_any ?zzk1 ?zzk2 ?zzk3 ?zzk4 ?zzk5 ?zzk6 ?zzkd ?zzku ?zzkz ?zzki (fun he9 t9 h9 k9 F9 N9 => ?_) (fun he9 e9 t9 vs9 g9 h9 k9 F9 R9 U9 => ?_); walk_at "my lawcall"); (all_goals (try dsimp only))))
  k_with "call ref" => ((k_here; (with_reducible show wpAny _ _ (call (Value.ref 169) [Value.str (mkS (List.map upN (hexL _) ++ [65])) _]) _ _ _); k_dflt (refine' L_b16decode_odd ?zzk1 ?zzk2 ?zzk3 ?zzk4 ?zzk5 ?zzk6 ?zzkd ?zzku ?zzkz ?zzki ?_; walk_at "my lawcall"); intro e9 t9 vs9 g9 h9 k9 F9 R9 U9; (try dsimp only)))
  k_with "call ref" => ((k_here; (with_reducible show wpAny _ _ (call (Value.ref 169) [Value.str (mkS ([71, 71] ++ List.map upN (hexL _))) _]) _ _ _); k_dflt (refine' L_b16decode_bad ?zzk1 ?zzk2 ?zzk3 ?zzk4 ?zzk5 ?zzk6 ?zzkd ?zzku ?zzkz ?zzki ?_; walk_at "my lawcall"); intro e9 t9 vs9 g9 h9 k9 F9 R9 U9; (try dsimp only)))
  k_with "call ref" => ((k_here; (with_reducible show wpAny _ _ (call (Value.ref 169) [Value.str (mkS (71 :: 71 :: List.map upN (hexL _))) _]) _ _ _); k_dflt (refine' L_b16decode_bad ?zzk1 ?zzk2 ?zzk3 ?zzk4 ?zzk5 ?zzk6 ?zzkd ?zzku ?zzkz ?zzki ?_; walk_at "my lawcall"); intro e9 t9 vs9 g9 h9 k9 F9 R9 U9; (try dsimp only)))
  k_with "call ref" => ((k_here; (with_reducible show wpAny _ _ (call (Value.ref 147) [Value.str (mkS (33 :: fourL _)) _] (List.zip _ _)) _ _ _); k_dflt (refine' L_b64decode_bad ?zzk1 ?zzk2 ?zzk3 ?zzk4 ?zzk5 ?zzk6 ?zzkd ?zzku ?zzkz ?zzki ?_; walk_at "my lawcall"); intro e9 t9 vs9 g9 h9 k9 F9 R9 U9; (try dsimp only)))
  k_with "call ref" => ((k_here; (with_reducible show wpAny _ _ (call (Value.ref 147) [Value.str (mkS (List.take 2 (fourL _) ++ 33 :: 10 :: List.drop 2 (fourL _))) _]) _ _ _); k_dflt (refine' L_b64decodeX2 ?zzk1 ?zzk2 ?zzk3 ?zzk4 ?zzk5 ?zzk6 ?zzkd ?zzku ?zzkz ?zzki ?_; walk_at "my lawcall"); intro t9 h9 k9 F9 N9; (try dsimp only); (try k_sweep); (try k_fold)))
  k_with "call ref" => ((k_here; (with_reducible show wpAny _ _ (call (Value.ref 139) [Value.bytes (byteArr _) _]) _ _ _); k_dflt (refine' L_b64encode ?zzk1 ?zzk2 ?zzk3 ?zzk4 ?zzk5 ?zzk6 ?zzkd ?zzku ?zzkz ?zzki ?_; walk_at "my lawcall"); intro t9 h9 k9 F9 N9; (try dsimp only); (try k_sweep); (try k_fold)))
  k_with "call ref" => ((k_here; (with_reducible show wpAny _ _ (call (Value.ref 139) [Value.bytes (byteArr _) _, Value.bytes _ _]) _ _ _); k_dflt (refine' L_b64encodeA ?zzk1 ?zzk2 ?zzk3 ?zzk4 ?zzk5 ?zzk6 ?zzkd ?zzku ?zzkz ?zzki ?_; walk_at "my lawcall"); intro t9 h9 k9 F9 N9; (try dsimp only); (try k_sweep); (try k_fold)))
  k_with "call ref" => ((k_here; (with_reducible show wpAny _ _ (call (Value.ref 147) [Value.str (mkS (fourL _)) _]) _ _ _); k_dflt (refine' L_b64decode ?zzk1 ?zzk2 ?zzk3 ?zzk4 ?zzk5 ?zzk6 ?zzkd ?zzku ?zzkz ?zzki ?_; walk_at "my lawcall"); intro t9 h9 k9 F9 N9; (try dsimp only); (try k_sweep); (try k_fold)))
  k_with "call ref" => ((k_here; (with_reducible show wpAny _ _ (call (Value.ref 147) [Value.str (mkS (List.take 2 (fourL _) ++ [33, 10] ++ List.drop 2 (fourL _))) _]) _ _ _); k_dflt (refine' L_b64decodeX ?zzk1 ?zzk2 ?zzk3 ?zzk4 ?zzk5 ?zzk6 ?zzkd ?zzku ?zzkz ?zzki ?_; walk_at "my lawcall"); intro t9 h9 k9 F9 N9; (try dsimp only); (try k_sweep); (try k_fold)))
  k_with "call ref" => ((k_here; (with_reducible show wpAny _ _ (call (Value.ref 147) [Value.str (mkS ([33] ++ fourL _)) _] (List.zip _ _)) _ _ _); k_dflt (refine' L_b64decode_bad ?zzk1 ?zzk2 ?zzk3 ?zzk4 ?zzk5 ?zzk6 ?zzkd ?zzku ?zzkz ?zzki ?_; walk_at "my lawcall"); intro e9 t9 vs9 g9 h9 k9 F9 R9 U9; (try dsimp only)))
  k_with "call ref" => ((k_here; (with_reducible show wpAny _ _ (call (Value.ref 147) [Value.str (mkS (fourL _)) _] (List.zip _ _)) _ _ _); k_dflt (refine wpAny_telling ?_; refine' L_b64decodeS ?zzk1 ?zzk2 ?zzk3 ?zzk4 ?zzk5 ?zzk6 ?zzkd ?zzku ?zzkz ?zzki ?_; walk_at "my lawcall"); intro t9 h9 k9 F9 N9 l9; (try dsimp only at l9); (try dsimp only); (try k_sweep); (try k_fold)))
  k_with "call ref" => ((k_here; (with_reducible show wpAny _ _ (call (Value.ref 147) [Value.str (mkS (List.map _ (List.map _ (fourL _)))) _, Value.bytes _ _]) _ _ _); k_dflt (refine' L_b64decodeA ?zzk1 ?zzk2 ?zzk3 ?zzk4 ?zzk5 ?zzk6 ?zzkd ?zzku ?zzkz ?zzki ?_; walk_at "my lawcall"); intro t9 h9 k9 F9 N9; (try dsimp only); (try k_sweep); (try k_fold)))
  k_with "call ref" => ((k_here; (with_reducible show wpAny _ _ (call (Value.ref 147) [Value.str (mkS (List.take _ (fourL _))) _]) _ _ _); k_dflt (refine' L_b64decode_short ?zzk1 ?zzk2 ?zzk3 ?zzk4 ?zzk5 ?zzk6 ?zzkd ?zzku ?zzkz ?zzki ?zzhe ?_; (case zzhe => assumption); walk_at "my lawcall"); intro e9 t9 vs9 g9 h9 k9 F9 R9 U9; (try dsimp only)))
  k_with "call ref" => ((k_here; (with_reducible show wpAny _ _ (call (Value.ref 154) [Value.bytes (byteArr _) _]) _ _ _); k_dflt (refine wpAny_telling ?_; refine' L_urlsafe ?zzk1 ?zzk2 ?zzk3 ?zzk4 ?zzk5 ?zzk6 ?zzkd ?zzku ?zzkz ?zzki ?_; walk_at "my lawcall"); intro t9 h9 k9 F9 N9 l9; (try dsimp only at l9); (try dsimp only); (try k_sweep); (try k_fold)))
  k_with "call type:bytes" => ((k_here; (with_reducible show wpAny _ _ (call (Value.type "bytes") [Value.ref _]) _ _ _); (rename News _ _ _ _ => nE'); (rename IntsAre _ (toI _) => iE'); (refine' make_bytes ?zzkF nE' ?zzkm ?zzkh iE' ?zzkr ?zzkn ?_; (case zzkF => k_asm); (case zzkm => walk_at "my mem"); (case zzkh => rfl); (case zzkr => exact Asc.inI (by walk_at "my asc")); (case zzkn => walk_at "my size")); intro h' t' k' F' N' hIn'; (replace N' := news_tail N'); (try k_sweep); (try ((rename (_ ≠ _ ∧ _) => o1x); clear o1x))))
  k_with "compareOp NotEq bytes bytes" => ((k_here; (with_reducible refine ne_same ?_)))
  k_with "compareOp Eq bytes bytes" => ((k_here; (with_reducible refine eq_same ?_)))
  k_with "my lit" => (first | with_reducible exact litA | with_reducible exact litGG | with_reducible exact litX | with_reducible exact litXN | with_reducible exact litE | with_reducible exact (rfl : mkS _ = mkS _) | with_reducible exact slice_take2 | with_reducible exact slice_drop2 | exact slice_take _ _ | exact slice_drop _ _)
  k_with "my size" => (((simp only [List.length_map, List.length_append, List.length_cons, List.length_nil, List.length_take, List.length_drop, hexL_length, toI_length, mkS_length]); omega))
  k_with "my size" => (((rename Small _ => s9'); (have s8' := Small.le s9'); first | omega | ((simp only [List.length_map, List.length_append, List.length_cons, List.length_nil, List.length_take, List.length_drop, hexL_length, toI_length, mkS_length]); omega)))
  k_with "binaryOp Add str str" => ((k_here; (with_reducible show wpAny _ _ (binaryOp Operator.Add (Value.str _ _) (Value.str _ _)) _ _ _); (refine' add_mk ?zzka ?zzkb ?zzkz ?_; (case zzka => walk_at "my lit"); (case zzkb => walk_at "my lit"); (case zzkz => walk_at "my size")); intro t9 k9))
  k_with "compareOp Eq str str" => ((k_here; first | ((refine' eq_mk_true ?zzka ?_); (case zzka => assumption)) | ((refine' eq_mk_false ?zzka ?_); (case zzka => assumption))))
  k_with "call ref" => ((k_here; (with_reducible show wpAny _ _ (call (Value.ref 176) _ _) _ _ _); k_dflt (refine wpAny_call ?_; refine' told_enter ?zzk1 ?zzk2 ?zzk3 ?zzk4 ?zzk5 ?zzkA ?zzkF ?zzkK ?zzk6 ?zzk7 ?zzk8 ?zzk9 ?zzkB ?_ ?zzc2 ?zzc3 ?zzc4 ?zzc5; (case zzkA => exact rfl); (case zzkF => exact rfl); (case zzkK => exact rfl); (case zzk1 => k_asm); (case zzk2 => k_asm); (case zzk3 => k_asm); (case zzk4 => k_asm); (case zzk5 => k_asm); (case zzk6 => k_is); (case zzk7 => k_is); (case zzk8 => k_room); (case zzk9 => first | exact BindsTo.of_eq rfl | exact binds_K (by k_in) rfl (by k_is) rfl rfl rfl); (case zzc5 => decide); (case zzkB => exact locs rfl); (case zzc2 => exact rfl); (case zzc3 => exact rfl); (case zzc4 => exact rfl); k_whole; intro g' L' h' FG' F' N' B' X' T' D'; (try dsimp only); (try k_lift B'); (try k_fold))))
  k_with "leaving ref" => ((k_here; (refine' leave_onSX ?zzk1 ?zzk2 ?zzk3 ?zzk4 ?_; (case zzk3 => assumption); (case zzk2 => assumption); (case zzk1 => assumption); (case zzk4 => assumption); k_whole; intro h' S' U'; (try dsimp only at S' U' ⊢))))
  k_with "call ref" => ((k_here; (with_reducible show wpAny _ _ (call (Value.ref 181) _ _) _ _ _); k_dflt (refine' law_fourN ?zzk1 ?zzk2 ?zzk3 ?zzk4 ?zzk5 ?zzk6 ?zzkd ?zzku ?zzkm ?zzkI ?zzkz ?zzki ?_; (case zzk1 => k_asm); (case zzk2 => k_asm); (case zzk3 => k_asm); (case zzk4 => k_asm); (case zzk5 => k_asm); (case zzk6 => exact rfl); (case zzkd => k_room); (case zzku => k_units); (case zzkm => walk_at "my mem"); (case zzkI => assumption); (case zzkz => walk_at "my size"); (case zzki => assumption)); intro t9 h9 k9 lf9 af9 F9 N9; (try dsimp only); (try k_sweep); (try k_fold)))
  k_with "callWith ref" => ((k_here; (first | (with_reducible show wpAny _ _ (callWith _ (Value.ref 139) _ _ _) _ _ _) | (with_reducible show wpAny _ _ (callWith _ (Value.ref 147) _ _ _) _ _ _) | (with_reducible show wpAny _ _ (callWith _ (Value.ref 154) _ _ _) _ _ _) | (with_reducible show wpAny _ _ (callWith _ (Value.ref 161) _ _ _) _ _ _) | (with_reducible show wpAny _ _ (callWith _ (Value.ref 169) _ _ _) _ _ _) | (with_reducible show wpAny _ _ (callWith _ (Value.ref 176) _ _ _) _ _ _) | (with_reducible show wpAny _ _ (callWith _ (Value.ref 181) _ _ _) _ _ _)); k_dflt (first | (refine' callWith_K ?zzk1 ?zzk2 ?_; (case zzk1 => k_asm); (case zzk2 => k_is); k_whole) | (refine' callWith_K0 ?zzk1 ?zzk2 ?_; (case zzk1 => k_in); (case zzk2 => k_is); k_whole) | (refine' callWith_KW ?zzk1 ?zzk2 ?zzk3 ?_; (case zzk1 => k_asm); (case zzk2 => k_is); (case zzk3 => exact rfl); k_whole) | (refine' callWith_KW0 ?zzk1 ?zzk2 ?zzk3 ?_; (case zzk1 => k_asm); (case zzk2 => k_is); (case zzk3 => exact rfl); k_whole))))
  k_with "my asc" => (exact asc_rep (by decide) (by walk_at "my asc"))
  k_with "call builtin:str.replace" => ((k_here; (refine' call_replaceL ?zzka ?zzkb ?zzku ?zzkw ?zzkn ?zzkz ?_; (case zzka => walk_at "my one"); (case zzkb => walk_at "my one"); (case zzku => walk_at "my tok"); (case zzkw => walk_at "my tok"); (case zzkn => decide); (case zzkz => walk_at "my size")); intro t9 k9 l9; (try dsimp only at l9)))
  k_with "my one" => (first | with_reducible exact onePlus | with_reducible exact oneSlash | with_reducible exact oneDot | with_reducible exact oneDash | with_reducible exact oneLow | with_reducible exact oneEq)
  k_with "my tok" => (((rename TokUp _ _ => l9'); (have l8' := TokUp.le l9'); (clear l9'); (try ((rename TokUp _ _ => l9'); (have l7' := TokUp.le l9'); (clear l9'); (try dsimp only at l7'))); (try dsimp only at l8'); (try dsimp only); omega))
  k_with "execs cons" => ((k_here; (with_reducible show wpAny _ _ _ _ _ (Shared.mk _ _ _ (_ + 1) _)); refine toks_cut ?_; intro tk9 p9))
  k_with "execs nil" => ((k_here; (with_reducible show wpAny _ _ _ _ _ (Shared.mk _ _ _ (_ + 1) _)); refine toks_cut ?_; intro tk9 p9))
  k_with "call builtin:str.endswith" => ((k_here; (refine' call_endsL ?zzkb ?_ ?_; (case zzkb => walk_at "my one")); intro he9))
  k_with "my slice" => (first | with_reducible exact slice_take2 | with_reducible exact slice_drop2 | with_reducible exact slice_len1 | with_reducible exact slice_len2)
  k_with "subscriptTail Name Slice str ref" => ((k_here; (with_reducible show wpAny _ _ (subscriptTail _ (Expr.Slice none (some _) none _) (Value.str (mkS _) _) (Value.ref _)) _ _ _); (rename News _ _ _ _ => nE'); k_dflt (refine' tail_ns ?zzka nE' ?zzkb ?zzkz ?_; (case zzka => k_asm); (case zzkb => walk_at "my slice"); (case zzkz => walk_at "my size")); intro h9 t9 k9 F9 N9; (try k_sweep)))
  k_with "subscriptTail Name Slice str ref" => ((k_here; (with_reducible show wpAny _ _ (subscriptTail _ (Expr.Slice (some _) none none _) (Value.str (mkS _) _) (Value.ref _)) _ _ _); (rename News _ _ _ _ => nE'); k_dflt (refine' tail_sn ?zzka nE' ?zzkb ?zzkz ?_; (case zzka => k_asm); (case zzkb => walk_at "my slice"); (case zzkz => walk_at "my size")); intro h9 t9 k9 F9 N9; (try k_sweep)))
  k_with "call builtin:len" => ((k_here; (with_reducible show wpAny _ _ (call (Value.builtin "len") [Value.str (mkS _) _]) _ _ _); (refine' call_lenL ?zzkz ?_; (case zzkz => walk_at "my size")); intro t9 k9))
  k_with "call ref" => ((k_here; (with_reducible show wpAny _ _ (call (Value.ref 176) _ _) (fun a s₁ => wpAny _ _ (eval (Expr.IfExp _ _ _ _) _) _ _ s₁) _ _); (fail_if_success (rename CutMark => cutX)); k_dflt (refine cut_told (by k_asm) (by k_asm) (fun K9 mk9 kk9 => ?_) (fun h9 k9 F9 N9 => ?_)); (try dsimp only)))
  k_fill
  exact ⟨rfl, rfl⟩


theorem my_in_of {ns : List Int} {k : Int} (h : k ∈ ns) (hi : KBa.In ns) : 0 ≤ k ∧ k < 256 := hi k h

theorem X1 : PySem.Challenge.rw_xb0001_01.Holds := Mine.hd (by
  k_go0
  (all_goals try k_fold)
  k_steps
  all_goals (rename CutK _ _ _ _ _ _ => kk8; k_dflt (refine CutK.use kk8 ?_ ?_ ?_; (first | rfl | decide); k_asm; k_asm)))
end
end Mine
theorem PySem.Challenge.cw_xb0001_01_holds : PySem.Challenge.rw_xb0001_01.Holds := by
  exact Mine.X1
