import PyProof.Rows.All
import Wide.All
import OpenK.AllK
import Wide.FinOn
import PySem.Challenge.RW_bc6009_01
set_option Elab.async false
set_option maxRecDepth 100000
set_option maxHeartbeats 8000000
namespace Mine
open PySem PySem.W PyProof.Rows
open_top hd for PySem.Challenge.rw_bc6009_01
end Mine

namespace Mine
open PySem PySem.W PyProof.Rows
/-- a contract of a def of the program: called at any place with room, it comes back with R, and all that stood stands; its answer may name an object that it made and that nobody keeps -/
abbrev ConA (w : World) (mean : ExcName → Option Value) (mg mb : Str → Option Value) (f : Addr) (news : List (Addr × Obj)) (vs : List Value) (R : Addr → Tok → Value) : Prop :=
  ∀ (dp un : Nat) (gd : Option (List Code)) (cn : Str) (cs : Scope) (a : Addr) (ccd : Value) (cl : List (Str × Addr)) (outer : List Env) (A₀ : Around) (base h₀ : Heap) (L : Addr) (m : Str → Option Value) (s : Shared) (Q E : Value → Shared → Prop),
    Below A₀ base outer h₀ → Fr h₀ L s.heap m → (hd.heap_39 w.params).In h₀ → News h₀ L s.heap news → Top hd.view_39 (looseW hd.view_39 [Str.ofString "Token", Str.ofString "EOFToken", Str.ofString "_safe_name", Str.ofString "_non_whitespace"]) mean mg mb h₀ → cs.kind = .function →
    dp + 10 < recursionLimit → un + 100 < cLine → (∀ (b : Addr) (t : Tok) (h' : Heap) (tk' : Nat), Fr h₀ L h' m → News h₀ L h' news → Q (R b t) { s with heap := h', toks := tk' }) →
      wpAny (model PySem.Challenge.rw_bc6009_01.row.prog w) (ktrTop dp un gd cn cs L a ccd cl outer) (call (.ref f) vs) Q E s
end Mine

namespace Mine
open PySem PySem.W PyProof.Rows PySem.Calls
open PySem.Builtin
/-! str.encode('utf8') -/
def u8s : Str := Str.ofString "utf8"
/-- the bytes of a text -/
def enc (l : List Nat) : List UInt8 := l.flatMap Str.utf8Of
def clean (x : Str) : Prop := ∀ c ∈ x.cps.toList, Str.isSurrogate c = false
theorem foldl_enc (l : List Nat) : ∀ acc : Array UInt8, l.foldl (fun acc y => acc ++ (Str.utf8Of y).toArray) acc = acc ++ (enc l).toArray := by
  induction l with
  | nil => intro acc; simp [enc]
  | cons c r ih => intro acc; rw [List.foldl_cons, ih]; simp [enc, Array.append_assoc]
theorem utf8Of_len (c : Nat) : (Str.utf8Of c).length ≤ 4 := by
  unfold Str.utf8Of; split
  · simp
  · split
    · simp
    · split <;> simp
theorem enc_len (l : List Nat) : (enc l).length ≤ 4 * l.length := by
  induction l with
  | nil => simp [enc]
  | cons c r ih => have := utf8Of_len c; simp only [enc, List.flatMap_cons, List.length_append, List.length_cons] at *; omega
theorem forIn_once {β : Type} {f : Nat → β → Sem (ForInStep β)} {b₀ b₁ : β} (h₀ : f 0 b₀ = pure (.yield b₁)) (h₁ : ∀ k, f k b₁ = pure (.done b₁)) (n : Nat) : forIn (List.range' 0 (n + 1)) b₀ f = pure b₁ := by
  rw [List.range'_succ, List.forIn_cons, h₀]
  cases n with
  | zero => rfl
  | succ n => rw [List.range'_succ]; show forIn (_ :: _) b₁ f = _; rw [List.forIn_cons, h₁]; rfl
theorem narrow_clean {id : String} {self : Value} {x : Str} (h : clean x) (hn : x.length ≤ 1000) : _codecs.encodeNarrow id _codecs.utf8Codec none self x = pure (enc x.cps.toList).toArray := by
  have hl : x.length = x.cps.size := rfl
  have hf : x.cps.findIdx? _codecs.utf8Codec.bad = none := by
    rw [Array.findIdx?_eq_none_iff]
    intro c hc
    exact h c (by simpa using hc)
  have hz := enc_len x.cps.toList
  unfold _codecs.encodeNarrow
  simp only [Std.Legacy.Range.forIn_eq_forIn_range', Std.Legacy.Range.size, Nat.sub_zero, Nat.add_sub_cancel, Nat.div_one, hl]
  rcases hsz : x.cps.size with _ | n
  · have : x.cps = #[] := Array.eq_empty_of_size_eq_zero hsz
    rw [this]; rfl
  · have hlen : x.cps.toList.length = n + 1 := by simpa using hsz
    have hc : ∃ c, x.cps[0]? = some c ∧ Str.isSurrogate c = false := ⟨x.cps[0], by simp, h _ (by simp)⟩
    obtain ⟨c, hc, hs⟩ := hc
    refine (congrArg (· >>= _) (forIn_once (b₁ := (n + 1, (enc x.cps.toList).toArray, {})) ?_ ?_ n)).trans ?_
    · rw [if_neg (by simp)]
      dsimp only
      rw [hc]
      dsimp only
      rw [if_pos (by show (!Str.isSurrogate c) = true; rw [hs]; rfl)]
      have he : x.cps.extract 0 (n + 1) = x.cps := by rw [← hsz]; simp
      rw [he, hf]
      simp only [Option.getD_none, hsz, Nat.zero_add, he]
      have hq : Array.foldl (fun acc y => acc ++ (_codecs.utf8Codec.bytesOf y).toArray) #[] x.cps 0 (n + 1) = (enc x.cps.toList).toArray := by
        rw [← hsz]
        have := foldl_enc x.cps.toList #[]
        rw [Array.foldl_toList] at this
        refine this.trans ?_
        simp
      rw [hq]
    · intro k
      rw [hlen] at hz
      rw [if_neg (by rw [PySem.sizeLine_eq]; show ¬ ((enc x.cps.toList).toArray.size > _); rw [List.size_toArray]; omega)]
      dsimp only
      rw [Array.getElem?_eq_none (by omega)]
    · rfl
theorem encode_tree8 (x : Str) (t u : Tok) : «str.encode» ⟨[.str x t, .str (Str.ofString "utf8") u], []⟩ = (do ret (← _codecs.encodeRoad "str.encode" (.str x t) x (Str.ofString "utf8") none)) := by kernel_rfl
theorem encodeRoad_u8 (id : String) (self : Value) (x : Str) (errors : Option Str) : _codecs.encodeRoad id self x (Str.ofString "utf8") errors = (do mkBytes (← _codecs.encodeNarrow id _codecs.utf8Codec errors self x)) := by
  unfold _codecs.encodeRoad; rfl
theorem meets_encode {x : Str} {t u : Tok} (h : clean x) (hn : x.length ≤ 1000) :
    Meets («str.encode» ⟨[.str x t, .str (Str.ofString "utf8") u], []⟩) (fun _ R s => R (.ok (.ret (.bytes (enc x.cps.toList).toArray s.toks))) { s with toks := s.toks + 1 }) := by
  refine .of_wp fun prog w A R s hS => ?_
  have hz := enc_len x.cps.toList
  have hl : x.cps.toList.length = x.length := by simp [Str.length]
  rw [encode_tree8, encodeRoad_u8, narrow_clean h hn]
  refine wpAny_bind (wpAny_bind (wpAny_pure ?_))
  exact wpAny_mkBytes (wpAny_pure ⟨_, rfl, hS⟩) (by rw [PySem.sizeLine_eq, List.size_toArray]; omega)
section
variable {M : Model} {prog : Program} {w : World} {A : Around} {E : Value → Shared → Prop} {s : Shared} {x : Str} {b : Array UInt8} {t u : Tok} {pl : Sem Bool}
theorem gm_encode {Q : Value × List Value → Shared → Prop} (h : Q (.builtin "str.encode", [.str x t]) s) : wpAny M A (getMethod (.str x t) "encode" pl) Q E s := by
  with_reducible exact GM.of (.str x t) (typeIs_str _ _ _) F.slot_str_encode F.type_str_encode GM.noRef h
theorem call_encode {Q : Value → Shared → Prop} (hx : clean x) (hn : x.length ≤ 1000) (h : ∀ t' k, Q (.bytes (enc x.cps.toList).toArray t') { s with toks := k }) :
    wpAny (model prog w) A (call (.builtin "str.encode") [.str x t, .str (Str.ofString "utf8") u]) Q E s :=
  call_meets F.slot_str_encode (typeIs_str _ _ _) F.entry_str_encode (F.args_str_encode_2 _ _) (meets_encode hx hn) (h _ _)
/-! bytes.lower -/
open PySem.W.FB in
theorem slot_bytes_lower : Slot "bytes" "lower" "bytes.lower" :=
  .of (owner := "bytes") (n := "lower") (by rw [typeLookup_type, builtinLookup_eq_fast]; kernel_rfl) (by decide +kernel) (by decide +kernel) (by decide +kernel)
    (by first | exact .inl (by decide +kernel) | exact .inr (by decide +kernel)) (by rw [isSubtype_type]; kernel_rfl)
theorem type_bytes_lower : typeOf (.builtin "bytes.lower") = pure (.type "method_descriptor") := by show builtinType _ = _; rw [builtinType_eq_fast]; kernel_rfl
theorem entry_bytes_lower : entryFor table "bytes.lower" = some Builtin.«bytes.lower» := entryFor_of_tree (by kernel_rfl)
theorem args_bytes_lower_1 (a : Value) : argsOk "bytes.lower" ⟨[a], []⟩ := by
  unfold argsOk; rw [signature?_of (id := "bytes.lower") (n := ['r', 'e', 'w', 'o', 'l']) (o := ['s', 'e', 't', 'y', 'b']) (by kernel_rfl) FB.owner_bytes]; kernel_rfl
theorem gm_blower {Q : Value × List Value → Shared → Prop} (h : Q (.builtin "bytes.lower", [.bytes b t]) s) : wpAny M A (getMethod (.bytes b t) "lower" pl) Q E s := by
  with_reducible exact KBd.method_of (.bytes b t) (typeIs_bytes _ _ _) slot_bytes_lower type_bytes_lower KBd.noRef h
theorem meets_blower {b : Array UInt8} {t : Tok} (hn : b.size ≤ 10000) :
    Meets («bytes.lower» ⟨[.bytes b t], []⟩) (fun _ R s => R (.ok (.ret (.bytes (b.toList.map Bytes.toLower).toArray s.toks))) { s with toks := s.toks + 1 }) := by
  refine .of_wp fun prog w A R s hS => ?_
  have e : «bytes.lower» ⟨[.bytes b t], []⟩ = (do ret (← mkBytes (b.toList.map Bytes.toLower).toArray)) := by kernel_rfl
  rw [e]
  refine wpAny_bind ?_
  exact wpAny_mkBytes (wpAny_pure ⟨_, rfl, hS⟩) (by rw [PySem.sizeLine_eq, List.size_toArray, List.length_map]; simp; omega)
theorem call_blower {Q : Value → Shared → Prop} (hn : b.size ≤ 10000) (h : ∀ t' k, Q (.bytes (b.toList.map Bytes.toLower).toArray t') { s with toks := k }) :
    wpAny (model prog w) A (call (.builtin "bytes.lower") [.bytes b t]) Q E s :=
  call_meets slot_bytes_lower (typeIs_bytes _ _ _) entry_bytes_lower (args_bytes_lower_1 _) (meets_blower hn) (h _ _)
end
end Mine

namespace Mine
open PySem PySem.W PyProof.Rows PySem.Calls
open PySem.Builtin
/-- the signs that a text may bear -/
def Sg : List Nat := [9, 10, 12, 13, 32, 35, 45, 46, 48, 49, 56, 57, 58, 65, 81, 88, 89, 90, 95, 97, 98, 99, 109, 110, 120, 201, 233, 304, 931, 7838, 8490]
def lo (c : Nat) : Nat := if 65 ≤ c ∧ c ≤ 90 then c + 32 else c
def Sl : List Nat := Sg.map lo
theorem utf8_at1 {b : Array UInt8} {p : Nat} {x : UInt8} (h : b[p]? = some x) (hx : x.toNat < 128) : Bytes.utf8At b p = (.char x.toNat, p + 1) := by
  unfold Bytes.utf8At
  have e : b.getD p 0 = x := by rw [Array.getD_eq_getD_getElem?, h]; rfl
  simp only [e]
  rw [if_pos hx]
theorem utf8_at2 {b : Array UInt8} {p : Nat} {x y : UInt8} (h : b[p]? = some x) (h1 : b[p + 1]? = some y) (hx : 0xC2 ≤ x.toNat ∧ x.toNat ≤ 0xDF) (hy : 0x80 ≤ y.toNat ∧ y.toNat ≤ 0xBF) :
    Bytes.utf8At b p = (.char (x.toNat % 32 * 64 + y.toNat % 64), p + 2) := by
  unfold Bytes.utf8At
  have e : b.getD p 0 = x := by rw [Array.getD_eq_getD_getElem?, h]; rfl
  simp only [e]
  rw [if_neg (by omega), if_pos (by simp; omega)]
  have r : (List.range 1).map (· + 1) = [1] := rfl
  simp only [r, List.foldl_cons, List.foldl_nil, h1, Except.bind]
  simp [hy.1, hy.2]
theorem utf8_at3 {b : Array UInt8} {p : Nat} {x y z : UInt8} (h : b[p]? = some x) (h1 : b[p + 1]? = some y) (h2 : b[p + 2]? = some z) (hx : 0xE1 ≤ x.toNat ∧ x.toNat ≤ 0xEC) (hy : 0x80 ≤ y.toNat ∧ y.toNat ≤ 0xBF) (hz : 0x80 ≤ z.toNat ∧ z.toNat ≤ 0xBF) :
    Bytes.utf8At b p = (.char ((x.toNat % 16 * 64 + y.toNat % 64) * 64 + z.toNat % 64), p + 3) := by
  unfold Bytes.utf8At
  have e : b.getD p 0 = x := by rw [Array.getD_eq_getD_getElem?, h]; rfl
  simp only [e]
  rw [if_neg (by omega), if_neg (by simp; omega), if_neg (by simp; omega), if_neg (by simp; omega), if_pos (by simp; omega)]
  have r : (List.range 2).map (· + 1) = [1, 2] := rfl
  simp only [r, List.foldl_cons, List.foldl_nil, h1, h2, Except.bind]
  simp [hy.1, hy.2, hz.1, hz.2]
theorem key_at (P R bs : List UInt8) (k : Nat) (hk : k < bs.length) : (P ++ (bs ++ R)).toArray[P.length + k]? = bs[k]? := by
  rw [List.getElem?_toArray, List.getElem?_append_right (by omega), Nat.add_sub_cancel_left, List.getElem?_append_left hk]
theorem sg1 {c : Nat} {x : UInt8} (e : Str.utf8Of c = [x]) (h1 : x.toNat < 128) (h2 : x.toNat = c) (P R : List UInt8) : Bytes.utf8At (P ++ (Str.utf8Of c ++ R)).toArray P.length = (.char c, P.length + (Str.utf8Of c).length) := by
  rw [e]
  rw [utf8_at1 (x := x) (by rw [show P.length = P.length + 0 from rfl, key_at P R [x] 0 (by simp)]; rfl) h1, h2]; rfl
theorem sg2 {c : Nat} {x y : UInt8} (e : Str.utf8Of c = [x, y]) (h1 : 0xC2 ≤ x.toNat ∧ x.toNat ≤ 0xDF) (h2 : 0x80 ≤ y.toNat ∧ y.toNat ≤ 0xBF) (h3 : x.toNat % 32 * 64 + y.toNat % 64 = c) (P R : List UInt8) : Bytes.utf8At (P ++ (Str.utf8Of c ++ R)).toArray P.length = (.char c, P.length + (Str.utf8Of c).length) := by
  rw [e]
  rw [utf8_at2 (x := x) (y := y) (by rw [show P.length = P.length + 0 from rfl, key_at P R [x, y] 0 (by simp)]; rfl) (by rw [key_at P R [x, y] 1 (by simp)]; rfl) h1 h2, h3]; rfl
theorem sg3 {c : Nat} {x y z : UInt8} (e : Str.utf8Of c = [x, y, z]) (h1 : 0xE1 ≤ x.toNat ∧ x.toNat ≤ 0xEC) (h2 : 0x80 ≤ y.toNat ∧ y.toNat ≤ 0xBF) (h2' : 0x80 ≤ z.toNat ∧ z.toNat ≤ 0xBF) (h3 : (x.toNat % 16 * 64 + y.toNat % 64) * 64 + z.toNat % 64 = c) (P R : List UInt8) : Bytes.utf8At (P ++ (Str.utf8Of c ++ R)).toArray P.length = (.char c, P.length + (Str.utf8Of c).length) := by
  rw [e]
  rw [utf8_at3 (x := x) (y := y) (z := z) (by rw [show P.length = P.length + 0 from rfl, key_at P R [x, y, z] 0 (by simp)]; rfl) (by rw [key_at P R [x, y, z] 1 (by simp)]; rfl) (by rw [key_at P R [x, y, z] 2 (by simp)]; rfl) h1 h2 h2', h3]; rfl
/-- what a sign's bytes are read as -/
def readsAs (c : Nat) : Bool := match Str.utf8Of c with
  | [x] => decide (x.toNat < 128) && decide (x.toNat = c)
  | [x, y] => decide (0xC2 ≤ x.toNat ∧ x.toNat ≤ 0xDF) && decide (0x80 ≤ y.toNat ∧ y.toNat ≤ 0xBF) && decide (x.toNat % 32 * 64 + y.toNat % 64 = c)
  | [x, y, z] => decide (0xE1 ≤ x.toNat ∧ x.toNat ≤ 0xEC) && decide (0x80 ≤ y.toNat ∧ y.toNat ≤ 0xBF) && decide (0x80 ≤ z.toNat ∧ z.toNat ≤ 0xBF) && decide ((x.toNat % 16 * 64 + y.toNat % 64) * 64 + z.toNat % 64 = c)
  | _ => false
theorem at_reads {c : Nat} (h : readsAs c = true) (P R : List UInt8) : Bytes.utf8At (P ++ (Str.utf8Of c ++ R)).toArray P.length = (.char c, P.length + (Str.utf8Of c).length) := by
  unfold readsAs at h
  split at h
  · rename_i x e
    simp only [Bool.and_eq_true, decide_eq_true_eq] at h
    exact sg1 e h.1 h.2 P R
  · rename_i x y e
    simp only [Bool.and_eq_true, decide_eq_true_eq] at h
    exact sg2 e h.1.1 h.1.2 h.2 P R
  · rename_i x y z e
    simp only [Bool.and_eq_true, decide_eq_true_eq] at h
    exact sg3 e h.1.1.1 h.1.1.2 h.1.2 h.2 P R
  · cases h
theorem sl_reads : ∀ c ∈ Sl, readsAs c = true := by decide +kernel
theorem sg_clean : ∀ c ∈ Sg, Str.isSurrogate c = false := by decide +kernel
theorem sg_low : ∀ c ∈ Sg, (Str.utf8Of c).map Bytes.toLower = Str.utf8Of (lo c) := by decide +kernel
theorem enc_low {l : List Nat} (h : ∀ c ∈ l, c ∈ Sg) : (enc l).map Bytes.toLower = enc (l.map lo) := by
  induction l with
  | nil => rfl
  | cons c r ih =>
    simp only [enc, List.flatMap_cons, List.map_append, List.map_cons] at ih ⊢
    rw [sg_low c (h c (.head _)), ih fun d hd => h d (.tail _ hd)]
theorem enc_ge (l : List Nat) : l.length ≤ (enc l).length := by
  induction l with
  | nil => simp
  | cons c r ih => have := PySem.Str.utf8Of_pos c; simp only [enc, List.flatMap_cons, List.length_append, List.length_cons] at *; omega
theorem enc_append (a b : List Nat) : enc (a ++ b) = enc a ++ enc b := by simp [enc]
theorem forIn_reads {f : Nat → Nat × Array Nat × _codecs.Faults → Sem (ForInStep (Nat × Array Nat × _codecs.Faults))} {l : List Nat} {st : _codecs.Faults}
    (step : ∀ k pre c r, l = pre ++ c :: r → f k ((enc pre).length, pre.toArray, st) = pure (.yield ((enc (pre ++ [c])).length, (pre ++ [c]).toArray, st)))
    (stop : ∀ k, f k ((enc l).length, l.toArray, st) = pure (.done ((enc l).length, l.toArray, st))) :
    ∀ (r pre : List Nat) (i n : Nat), l = pre ++ r → r.length ≤ n → forIn (List.range' i n) ((enc pre).length, pre.toArray, st) f = pure ((enc l).length, l.toArray, st)
  | [], pre, i, n, e, _ => by
    rw [List.append_nil] at e
    subst e
    cases n with
    | zero => rfl
    | succ n => rw [List.range'_succ, List.forIn_cons, stop]; rfl
  | c :: r, pre, i, 0, e, h => by simp at h
  | c :: r, pre, i, n + 1, e, h => by
    rw [List.range'_succ, List.forIn_cons, step i pre c r e]
    exact forIn_reads step stop r (pre ++ [c]) (i + 1) n (by rw [e]; simp) (by simpa using h)
theorem runs_decoder {id : String} {l : List Nat} (h : ∀ c ∈ l, c ∈ Sl) (hn : l.length ≤ 1000) : _codecs.runDecoder id _codecs.utf8Decoder none true (enc l).toArray 0 [] = pure (l.toArray, (enc l).length) := by
  unfold _codecs.runDecoder
  simp only [Std.Legacy.Range.forIn_eq_forIn_range', Std.Legacy.Range.size, Nat.sub_zero, Nat.add_sub_cancel, Nat.div_one, List.size_toArray]
  refine (congrArg (· >>= _) (forIn_reads (l := l) (st := {}) ?_ ?_ l [] 0 _ rfl (enc_ge l))).trans rfl
  · intro k pre c r e
    have hp : pre.length ≤ 1000 := by rw [e] at hn; simp at hn; omega
    have he : enc l = enc pre ++ (Str.utf8Of c ++ enc r) := by rw [e, enc_append]; simp [enc]
    have hlt : (enc pre).length < (enc l).length := by have := PySem.Str.utf8Of_pos c; rw [he, List.length_append, List.length_append]; omega
    dsimp only
    rw [if_neg (by rw [PySem.sizeLine_eq, List.size_toArray]; omega), if_neg (by omega)]
    have hf : _codecs.utf8Decoder.find true (enc l).toArray (enc pre).length = .text [c] ((enc pre).length + (Str.utf8Of c).length) := by
      unfold _codecs.utf8Decoder
      dsimp only
      rw [he, at_reads (sl_reads c (h c (by rw [e]; simp)))]
      rfl
    rw [hf]
    simp [enc]
  · intro k
    dsimp only
    rw [if_neg (by rw [PySem.sizeLine_eq, List.size_toArray]; omega), if_pos (Nat.le_refl _)]
theorem road_u8 {id : String} {b : Array UInt8} : _codecs.decodeRoad id b (Str.ofString "utf8") none [] = (_codecs.runDecoder id _codecs.utf8Decoder none true b 0 [] >>= fun r => mkStr ⟨r.1⟩) := by kernel_rfl
theorem meets_text8 {b : Array UInt8} {t t1 t2 : Tok} {x : Str} {n : Nat} {d : Str} (hd : ∀ id, _codecs.runDecoder id _codecs.utf8Decoder none true b 0 [] = pure (x.cps, n)) (hz : x.length ≤ 1000) :
    Meets («_codecs.decode.text» ⟨[.bytes b t, .str (Str.ofString "utf8") t1, .none, .str d t2], []⟩) (fun _ R s => R (.ok (.ret (.str x s.toks))) { s with toks := s.toks + 1 }) := by
  refine .of_wp fun prog w A R s hS => ?_
  show wpAny _ _ (Bytes.bytesLike _ (.bytes b t) >>= fun r => _) _ _ s
  refine wpAny_bind (wpAny_of_eq KBd.like_eq ?_)
  refine wpAny_bind (wpAny_of_eq KBd.held_eq ?_)
  show wpAny _ _ (_codecs.decodeRoad _ b (Str.ofString "utf8") none [] >>= fun v => _) _ _ s
  rw [road_u8, hd]
  refine wpAny_bind (wpAny_bind (wpAny_pure ?_))
  exact wpAny_mkStr (wpAny_pure ⟨_, rfl, hS⟩) (by rw [PySem.sizeLine_eq]; exact Nat.le_trans hz (by decide))
theorem decode_tree8 {c : UInt8} {cs : List UInt8} {t u : Tok} : «bytes.decode» ⟨[.bytes (c :: cs).toArray t, .str (Str.ofString "utf8") u], []⟩ = (mkStr (Str.ofString "utf-8") >>= fun _ => mkStr (Str.ofString "utf8") >>= fun e => mkStr (Str.ofString "bytes.decode") >>= fun d =>
    call (.builtin "_codecs.decode.text") [.bytes (c :: cs).toArray t, e, .none, d] >>= fun v => ret v) := by kernel_rfl
theorem meets_decode8 {c : UInt8} {cs : List UInt8} {t u : Tok} {x : Str} {n : Nat} (hd : ∀ id, _codecs.runDecoder id _codecs.utf8Decoder none true (c :: cs).toArray 0 [] = pure (x.cps, n)) (hz : x.length ≤ 1000) :
    Meets («bytes.decode» ⟨[.bytes (c :: cs).toArray t, .str (Str.ofString "utf8") u], []⟩) (fun _ R s => ∀ t' k, R (.ok (.ret (.str x t'))) { s with toks := k }) := by
  refine .of_wp fun prog w A R s h => ?_
  rw [decode_tree8]
  refine wpAny_bind (wpAny_mkStr ?_ (by decide))
  refine wpAny_bind (wpAny_mkStr ?_ (by decide))
  refine wpAny_bind (wpAny_mkStr ?_ (by decide))
  exact wpAny_bind (call_function_meets KBd.kind_text KBd.plain_text KBd.entry_text (KBd.args_text _ _ _ _) (meets_text8 hd hz) (wpAny_pure ⟨_, rfl, h _ _⟩))
theorem args_bytes_decode_2 (a b : Value) : argsOk "bytes.decode" ⟨[a, b], []⟩ := by
  unfold argsOk; rw [signature?_of (id := "bytes.decode") (n := ['e', 'd', 'o', 'c', 'e', 'd']) (o := ['s', 'e', 't', 'y', 'b']) (by kernel_rfl) FB.owner_bytes]; kernel_rfl
section
variable {prog : Program} {w : World} {A : Around} {E : Value → Shared → Prop} {s : Shared} {l : List Nat} {t u : Tok}
theorem call_decode8 {Q : Value → Shared → Prop} (hl : ∀ c ∈ l, c ∈ Sl) (hn : l.length ≤ 1000) (h0 : l ≠ []) (h : ∀ t' k, Q (.str ⟨l.toArray⟩ t') { s with toks := k }) :
    wpAny (model prog w) A (call (.builtin "bytes.decode") [.bytes (enc l).toArray t, .str (Str.ofString "utf8") u]) Q E s := by
  have hr := fun id => runs_decoder (id := id) hl hn
  have hne : enc l ≠ [] := by
    intro e
    have := enc_ge l
    rw [e] at this
    exact h0 (List.length_eq_zero_iff.mp (by simpa using this))
  obtain ⟨c, cs, e⟩ := List.exists_cons_of_ne_nil hne
  rw [e] at hr ⊢
  exact call_meets FB.slot_bytes_decode (typeIs_bytes _ _ _) FB.entry_bytes_decode (args_bytes_decode_2 _ _) (meets_decode8 (x := ⟨l.toArray⟩) hr (by simpa [Str.length] using hn)) h
theorem call_blow {Q : Value → Shared → Prop} (hl : ∀ c ∈ l, c ∈ Sg) (hn : l.length ≤ 1000) (h : ∀ t' k, Q (.bytes (enc (l.map lo)).toArray t') { s with toks := k }) :
    wpAny (model prog w) A (call (.builtin "bytes.lower") [.bytes (enc l).toArray t]) Q E s := by
  have hz := enc_len l
  refine call_blower (by rw [List.size_toArray]; omega) ?_
  rw [show ((enc l).toArray.toList.map Bytes.toLower).toArray = (enc (l.map lo)).toArray by rw [← enc_low hl]]
  exact h
end
theorem sl_of {l : List Nat} (h : ∀ c ∈ l, c ∈ Sg) : ∀ c ∈ l.map lo, c ∈ Sl := fun c hc => by
  obtain ⟨d, hd, rfl⟩ := List.mem_map.mp hc
  exact List.mem_map.mpr ⟨d, h d hd, rfl⟩
theorem clean_of {x : Str} (h : ∀ c ∈ x.cps.toList, c ∈ Sg) : clean x := fun c hc => sg_clean c (h c hc)
end Mine

namespace Mine
open PySem PySem.W PyProof.Rows PySem.Calls
open PySem.Sre PySem.Builtin.Re
/-- a state of the matcher, with what never turns here left out -/
def St (code text : Array Nat) (marks : Array (Option Nat)) (pc pos handed : Nat) (fr : List Sre.Frame) (wt : Nat) (an : Option Bool) (sn : Sre.Seen) : M :=
  { code := code, text := text, lim := text.size, start := 0, pc := pc, pos := pos, handed := handed, marks := marks, frames := fr, weight := wt, answer := an, seen := sn }
def Ends (m : M) (r : Bool) (k : Nat) : Prop :=
  ((m.runFor k).outcome = some (if r then .matched else .failed)) ∧ (m.runFor k).lastmark = -1
theorem ends_step {m : M} {r : Bool} {k : Nat} (ho : m.outcome = none) (h : Ends m.step r k) : Ends m r (k + 1) := by
  have : m.runFor (k + 1) = m.step.runFor k := by show (if m.outcome.isSome then m else _) = _; rw [ho]; rfl
  unfold Ends; rw [this]; exact h
section
variable {code text : Array Nat} {marks : Array (Option Nat)} {pc pos hd wt : Nat} {sn : Sre.Seen} {fr : List Sre.Frame}
theorem ends_out {r : Bool} : Ends (St code text marks pc pos hd [] wt (some r) sn) r 1 := by
  refine ends_step rfl ?_
  cases r <;> exact ⟨rfl, rfl⟩
theorem step_exec (hp : pc < code.size) : (St code text marks pc pos hd fr wt none sn).step = (St code text marks pc pos hd fr wt none sn).exec := by
  show (if pc < code.size then _ else _) = _
  rw [if_pos hp]
theorem exec_end (h0 : code.getD pc 0 = 6) (h1 : code.getD (pc + 1) 0 = 5) (hlast : text.getD (text.size - 1) 0 ≠ 10) :
    ∃ sn', (St code text marks pc pos hd fr wt none sn).exec = if pos = text.size then St code text marks (pc + 2) pos hd fr wt none sn' else St code text marks pc pos hd fr wt (some false) sn' := by
  have hb : (pos == text.size || (pos + 1 == text.size && text.getD pos 0 == 10)) = decide (pos = text.size) := by
    rw [Bool.eq_iff_iff]
    simp only [Bool.or_eq_true, Bool.and_eq_true, beq_iff_eq, decide_eq_true_eq]
    constructor
    · rintro (e | ⟨e, e'⟩)
      · exact e
      · have : pos = text.size - 1 := by omega
        rw [this] at e'
        exact absurd e' hlast
    · exact .inl
  refine ⟨(sn.add 6).add (43 + code.getD (pc + 1) 0), ?_⟩
  have hw : (St code text marks pc pos hd fr wt none sn).word 0 = 6 := h0
  have hw1 : ∀ sn', (St code text marks pc pos hd fr wt none sn').word 1 = 5 := fun _ => h1
  unfold M.exec
  rw [hw]
  show (match (St code text marks pc pos hd fr wt none (sn.add 6)).isAt ((St code text marks pc pos hd fr wt none (sn.add 6)).word 1) with | .error why => M.stick (St code text marks pc pos hd fr wt none (sn.add 6)) why | .ok yes => _) = _
  rw [hw1]
  show (if (pos == text.size || (pos + 1 == text.size && text.getD pos 0 == 10)) = true then _ else _) = _
  rw [hb]
  by_cases e : pos = text.size
  · rw [if_pos (decide_eq_true e), if_pos e]; rfl
  · rw [if_neg (by simpa using e), if_neg e]; rfl
theorem exec_success (h0 : code.getD pc 0 = 1) : ∃ sn', (St code text marks pc pos hd fr wt none sn).exec = St code text marks pc pos pos fr wt (some true) sn' := by
  have hw : (St code text marks pc pos hd fr wt none sn).word 0 = 1 := h0
  refine ⟨sn.add 1, ?_⟩
  unfold M.exec
  rw [hw]
  rfl
theorem exec_begin (h0 : code.getD pc 0 = 6) (h1 : code.getD (pc + 1) 0 = 0) : ∃ sn', (St code text marks pc 0 hd fr wt none sn).exec = St code text marks (pc + 2) 0 hd fr wt none sn' := by
  have hw : (St code text marks pc 0 hd fr wt none sn).word 0 = 6 := h0
  have hw1 : ∀ sn', (St code text marks pc 0 hd fr wt none sn').word 1 = 0 := fun _ => h1
  refine ⟨(sn.add 6).add (43 + code.getD (pc + 1) 0), ?_⟩
  unfold M.exec
  rw [hw]
  show (match (St code text marks pc 0 hd fr wt none (sn.add 6)).isAt ((St code text marks pc 0 hd fr wt none (sn.add 6)).word 1) with | .error why => M.stick (St code text marks pc 0 hd fr wt none (sn.add 6)) why | .ok yes => _) = _
  rw [hw1]
  rfl
theorem exec_in {g : Nat → Bool} (h0 : code.getD pc 0 = 13) (hp : pos < text.size) (ha : ∀ sn, ∃ sn', accepts code pc (text.getD pos 0) sn = .ok (g (text.getD pos 0), sn')) :
    ∃ sn', (St code text marks pc pos hd fr wt none sn).exec = if g (text.getD pos 0) = true then St code text marks (pc + (1 + code.getD (pc + 1) 0)) (pos + 1) hd fr wt none sn' else St code text marks pc pos hd fr wt (some false) sn' := by
  have hw : (St code text marks pc pos hd fr wt none sn).word 0 = 13 := h0
  obtain ⟨sn', e⟩ := ha (sn.add 13)
  refine ⟨sn', ?_⟩
  unfold M.exec
  rw [hw]
  show (if pos ≥ text.size then _ else match accepts code pc (text.getD pos 0) (sn.add 13) with | .error why => M.stick (St code text marks pc pos hd fr wt none (sn.add 13)) why | .ok (false, seen) => _ | .ok (true, seen) => _) = _
  rw [if_neg (by omega), e]
  have hi : itemWidth code pc = 1 + code.getD (pc + 1) 0 := by unfold itemWidth; rw [h0]; rfl
  cases g (text.getD pos 0)
  · rfl
  · show M.mk _ _ _ _ _ _ _ (pc + itemWidth code pc) _ _ _ _ _ _ _ _ _ _ _ _ _ = _
    rw [hi]; rfl
abbrev giv (pc pos : Nat) (n : Int) : Sre.Frame := { wait := .giveBack, pc := pc, pos := pos, outermost := true, count := n, kept := {} }
theorem run_all {g : Nat → Bool} {i : Nat} (ha : ∀ p, p < text.size → ∀ sn, ∃ sn', accepts code i (text.getD p 0) sn = .ok (g (text.getD p 0), sn')) :
    ∀ (n p found : Nat) (sn : Sre.Seen), p + n = text.size → ∃ sn', run code text i n p found sn = .ok (found + ((text.toList.drop p).takeWhile g).length, sn')
  | 0, p, found, sn, h => ⟨sn, by
      have : text.toList.drop p = [] := List.drop_eq_nil_of_le (by simp; omega)
      rw [this]; rfl⟩
  | n + 1, p, found, sn, h => by
    obtain ⟨sn₁, e⟩ := ha p (by omega) sn
    have hd : text.toList.drop p = text.getD p 0 :: text.toList.drop (p + 1) := by
      rw [List.drop_eq_getElem_cons (by simp; omega)]
      simp [Array.getD_eq_getD_getElem?, Array.getElem?_eq_getElem (show p < text.size by omega)]
    obtain ⟨sn₂, e₂⟩ := run_all ha n (p + 1) (found + 1) sn₁ (by omega)
    rw [hd, List.takeWhile_cons]
    cases hg : g (text.getD p 0)
    · refine ⟨sn₁, ?_⟩
      show (accepts code i (text.getD p 0) sn).bind _ = _
      rw [e, hg]; rfl
    · refine ⟨sn₂, ?_⟩
      show (accepts code i (text.getD p 0) sn).bind _ = _
      rw [e, hg]
      show run code text i n (p + 1) (found + 1) sn₁ = _
      rw [e₂, if_pos rfl, List.length_cons]
      congr 2; omega
theorem exec_repeat {g : Nat → Bool} {least : Nat} (h0 : code.getD pc 0 = 24) (h2 : code.getD (pc + 2) 0 = least) (h3 : code.getD (pc + 3) 0 = 4294967295) (hs : text.size ≤ 1000) (hp : pos ≤ text.size)
    (ha : ∀ p, p < text.size → ∀ sn, ∃ sn', accepts code (pc + 4) (text.getD p 0) sn = .ok (g (text.getD p 0), sn')) :
    ∃ sn', (St code text marks pc pos hd [] 0 none sn).exec =
      if ((text.toList.drop pos).takeWhile g).length < least then St code text marks pc pos hd [] 0 (some false) sn'
      else St code text marks (pc + 1 + code.getD (pc + 1) 0) (pos + ((text.toList.drop pos).takeWhile g).length) (pos + ((text.toList.drop pos).takeWhile g).length) [giv pc (pos + ((text.toList.drop pos).takeWhile g).length) ((text.toList.drop pos).takeWhile g).length] 1 none sn' := by
  have hw : (St code text marks pc pos hd [] 0 none sn).word 0 = 24 := h0
  have hw2 : ∀ sn', (St code text marks pc pos hd [] 0 none sn').word 2 = least := fun _ => h2
  have hw3 : ∀ sn', (St code text marks pc pos hd [] 0 none sn').word 3 = 4294967295 := fun _ => h3
  have hlen : ((text.toList.drop pos).takeWhile g).length ≤ text.size - pos := by
    have := (List.takeWhile_prefix (l := text.toList.drop pos) g).length_le
    simp at this; exact this
  obtain ⟨sn₁, e⟩ := run_all ha (text.size - pos) pos 0 ((sn.add 24).add (code.getD (pc + 4) 0)) (by omega)
  unfold M.exec
  rw [hw]
  have key : (if (least : Int) > (text.size : Int) - pos then (St code text marks pc pos hd [] 0 none (sn.add 24)).say false else
    match run code text (pc + 4) (min 4294967295 ((text.size : Int) - pos).toNat) pos 0 ((sn.add 24).add (code.getD (pc + 4) 0)) with
    | .error why => (St code text marks pc pos hd [] 0 none (sn.add 24)).stick why
    | .ok (n, seen) => if n < least then (St code text marks pc pos hd [] 0 none seen).say false else (St code text marks pc (pos + n) hd [] 0 none seen).afterRun .giveBack n {}) = 
      (if ((text.toList.drop pos).takeWhile g).length < least then St code text marks pc pos hd [] 0 (some false) (if (least : Int) > (text.size : Int) - pos then sn.add 24 else sn₁)
      else St code text marks (pc + 1 + code.getD (pc + 1) 0) (pos + ((text.toList.drop pos).takeWhile g).length) (pos + ((text.toList.drop pos).takeWhile g).length) [giv pc (pos + ((text.toList.drop pos).takeWhile g).length) ((text.toList.drop pos).takeWhile g).length] 1 none sn₁) := by
    have hm : min 4294967295 ((text.size : Int) - pos).toNat = text.size - pos := by omega
    rw [hm, e]
    by_cases hc : (least : Int) > (text.size : Int) - pos
    · rw [if_pos hc, if_pos hc, if_pos (by omega)]; rfl
    · rw [if_neg hc, if_neg hc]
      dsimp only
      rw [Nat.zero_add]
      by_cases hl : ((text.toList.drop pos).takeWhile g).length < least
      · rw [if_pos hl, if_pos hl]; rfl
      · rw [if_neg hl, if_neg hl]; rfl
  refine ⟨if ((text.toList.drop pos).takeWhile g).length < least then (if (least : Int) > (text.size : Int) - pos then sn.add 24 else sn₁) else sn₁, Eq.trans ?_ (key.trans ?_)⟩
  · show (if (((St code text marks pc pos hd [] 0 none (sn.add 24)).word 2 : Nat) : Int) > (text.size : Int) - pos then (St code text marks pc pos hd [] 0 none (sn.add 24)).say false else
      match run code text (pc + 4) (min ((St code text marks pc pos hd [] 0 none (sn.add 24)).word 3) ((text.size : Int) - pos).toNat) pos 0 ((sn.add 24).add (code.getD (pc + 4) 0)) with
      | .error why => _
      | .ok (n, seen) => if n < ((St code text marks pc pos hd [] 0 none (sn.add 24)).word 2) then _ else _) = _
    rw [hw2, hw3]
    rfl
  · by_cases hl : ((text.toList.drop pos).takeWhile g).length < least
    · rw [if_pos hl, if_pos hl, if_pos hl]
    · rw [if_neg hl, if_neg hl, if_neg hl]
theorem step_yes {pcR p : Nat} {n : Int} : (St code text marks pc pos hd [giv pcR p n] 1 (some true) sn).step = St code text marks pcR p hd [] 0 (some true) sn := rfl
theorem step_no {pcR p : Nat} {n : Int} : (St code text marks pc pos hd [giv pcR p n] 1 (some false) sn).step =
    if n - 1 < (code.getD (pcR + 2) 0 : Nat) then St code text marks pcR p hd [] 0 (some false) sn else St code text marks (pcR + 1 + code.getD (pcR + 1) 0) (p - 1) (p - 1) [giv pcR (p - 1) (n - 1)] 1 none sn := by
  show (if n - 1 < (code.getD (pcR + 2) 0 : Nat) then _ else _) = _
  split <;> rfl
theorem ends_back {pcR pcA : Nat} (hA : pcR + 1 + code.getD (pcR + 1) 0 = pcA) (h0 : code.getD pcA 0 = 6) (h1 : code.getD (pcA + 1) 0 = 5) (hc : pcA < code.size) (hlast : text.getD (text.size - 1) 0 ≠ 10) :
    ∀ (n p hd : Nat) (sn : Sre.Seen), p < text.size → ∃ k, k ≤ 2 * n + 3 ∧ Ends (St code text marks pcA p hd [giv pcR p n] 1 none sn) false k := by
  intro n
  induction n with
  | zero =>
    intro p hd sn hp
    obtain ⟨sn₁, e⟩ := exec_end (marks := marks) (hd := hd) (wt := 1) (sn := sn) (fr := [giv pcR p (0 : Nat)]) h0 h1 hlast (pos := p)
    rw [if_neg (by omega)] at e
    refine ⟨3, by omega, ends_step rfl ?_⟩
    rw [step_exec hc, e]
    refine ends_step rfl ?_
    rw [step_no, if_pos (by omega)]
    exact ends_out
  | succ n ih =>
    intro p hd sn hp
    obtain ⟨sn₁, e⟩ := exec_end (marks := marks) (hd := hd) (wt := 1) (sn := sn) (fr := [giv pcR p ((n + 1 : Nat) : Int)]) h0 h1 hlast (pos := p)
    rw [if_neg (by omega)] at e
    by_cases hl : ((n + 1 : Nat) : Int) - 1 < (code.getD (pcR + 2) 0 : Nat)
    · refine ⟨3, by omega, ends_step rfl ?_⟩
      rw [step_exec hc, e]
      refine ends_step rfl ?_
      rw [step_no, if_pos hl]
      exact ends_out
    · obtain ⟨k, hk, he⟩ := ih (p - 1) (p - 1) sn₁ (by omega)
      refine ⟨k + 2, by omega, ends_step rfl ?_⟩
      rw [step_exec hc, e]
      refine ends_step rfl ?_
      rw [step_no, if_neg hl, hA, show ((n + 1 : Nat) : Int) - 1 = (n : Int) by omega]
      exact he
theorem ends_tail {g : Nat → Bool} {pcR pcA least p : Nat} (hA : pcR + 1 + code.getD (pcR + 1) 0 = pcA) (hr : code.getD pcR 0 = 24) (hr2 : code.getD (pcR + 2) 0 = least) (hr3 : code.getD (pcR + 3) 0 = 4294967295)
    (h0 : code.getD pcA 0 = 6) (h1 : code.getD (pcA + 1) 0 = 5) (h2 : code.getD (pcA + 2) 0 = 1) (hc : pcA + 2 < code.size) (hcR : pcR < code.size) (hs : text.size ≤ 1000) (hp : p ≤ text.size)
    (ha : ∀ p, p < text.size → ∀ sn, ∃ sn', accepts code (pcR + 4) (text.getD p 0) sn = .ok (g (text.getD p 0), sn')) (hlast : text.getD (text.size - 1) 0 ≠ 10) :
    ∃ k, k ≤ 3000 ∧ Ends (St code text marks pcR p hd [] 0 none sn) (decide (least ≤ ((text.toList.drop p).takeWhile g).length) && decide (p + ((text.toList.drop p).takeWhile g).length = text.size)) k := by
  have hlen : ((text.toList.drop p).takeWhile g).length ≤ text.size - p := by
    have := (List.takeWhile_prefix (l := text.toList.drop p) g).length_le
    simp at this; exact this
  obtain ⟨sn₁, e⟩ := exec_repeat (marks := marks) (hd := hd) (sn := sn) hr hr2 hr3 hs hp ha
  rw [hA] at e
  generalize ((text.toList.drop p).takeWhile g).length = n at e hlen
  by_cases hl : n < least
  · rw [if_pos hl] at e
    rw [show decide (least ≤ n) = false from decide_eq_false (by omega), Bool.false_and]
    refine ⟨2, by omega, ends_step rfl ?_⟩
    rw [step_exec hcR, e]
    exact ends_out
  · rw [if_neg hl] at e
    rw [show decide (least ≤ n) = true from decide_eq_true (by omega), Bool.true_and]
    by_cases hend : p + n = text.size
    · rw [decide_eq_true hend]
      obtain ⟨sn₂, e₂⟩ := exec_end (marks := marks) (hd := p + n) (wt := 1) (sn := sn₁) (fr := [giv pcR (p + n) (n : Int)]) h0 h1 hlast (pos := p + n)
      rw [if_pos hend] at e₂
      obtain ⟨sn₃, e₃⟩ := exec_success (text := text) (marks := marks) (hd := p + n) (wt := 1) (sn := sn₂) (fr := [giv pcR (p + n) (n : Int)]) (pos := p + n) h2
      refine ⟨5, by omega, ends_step rfl ?_⟩
      rw [step_exec hcR, e]
      refine ends_step rfl ?_
      rw [step_exec (by omega), e₂]
      refine ends_step rfl ?_
      rw [step_exec (by omega), e₃]
      refine ends_step rfl ?_
      rw [step_yes]
      exact ends_out
    · rw [decide_eq_false hend]
      obtain ⟨k, hk, he⟩ := ends_back (marks := marks) hA h0 h1 (by omega) hlast n (p + n) (p + n) sn₁ (by omega)
      refine ⟨k + 1, by omega, ends_step rfl ?_⟩
      rw [step_exec hcR, e]
      exact he
end
end Mine

namespace Mine
open PySem PySem.W PyProof.Rows PySem.Calls
open PySem.Sre PySem.Builtin.Re
def code1 : Array Nat := #[14, 4, 0, 1, 4294967295, 6, 0, 13, 11, 9, 0, 0, 2281701374, 134217726, 0, 0, 0, 0, 0, 24, 16, 0, 4294967295, 13, 11, 9, 0, 67067904, 2281701374, 134217726, 0, 0, 0, 0, 0, 1, 6, 5, 1]
def code2 : Array Nat := #[14, 4, 0, 1, 4294967295, 6, 0, 24, 17, 1, 4294967295, 13, 12, 21, 9, 13824, 1, 0, 0, 0, 0, 0, 0, 0, 1, 6, 5, 1]
def first1 (c : Nat) : Bool := (65 ≤ c && c ≤ 90) || (97 ≤ c && c ≤ 122) || c == 95
def rest1 (c : Nat) : Bool := first1 c || (48 ≤ c && c ≤ 57) || c == 45 || c == 46
def black (c : Nat) : Bool := !(c == 32 || c == 9 || c == 13 || c == 10 || c == 12)
theorem acc1 {c : Nat} (h : c ∈ Sg) (sn : Sre.Seen) : ∃ sn', accepts code1 7 c sn = .ok (first1 c, sn') := by
  have hm : c ∈ [9, 10, 12, 13, 32, 35, 45, 46, 48, 49, 56, 57, 58, 65, 81, 88, 89, 90, 95, 97, 98, 99, 109, 110, 120, 201, 233, 304, 931, 7838, 8490] := h
  simp only [List.mem_cons, List.not_mem_nil, or_false] at hm
  rcases hm with rfl | rfl | rfl | rfl | rfl | rfl | rfl | rfl | rfl | rfl | rfl | rfl | rfl | rfl | rfl | rfl | rfl | rfl | rfl | rfl | rfl | rfl | rfl | rfl | rfl | rfl | rfl | rfl | rfl | rfl | rfl
  all_goals exact ⟨_, rfl⟩
theorem acc1r {c : Nat} (h : c ∈ Sg) (sn : Sre.Seen) : ∃ sn', accepts code1 23 c sn = .ok (rest1 c, sn') := by
  have hm : c ∈ [9, 10, 12, 13, 32, 35, 45, 46, 48, 49, 56, 57, 58, 65, 81, 88, 89, 90, 95, 97, 98, 99, 109, 110, 120, 201, 233, 304, 931, 7838, 8490] := h
  simp only [List.mem_cons, List.not_mem_nil, or_false] at hm
  rcases hm with rfl | rfl | rfl | rfl | rfl | rfl | rfl | rfl | rfl | rfl | rfl | rfl | rfl | rfl | rfl | rfl | rfl | rfl | rfl | rfl | rfl | rfl | rfl | rfl | rfl | rfl | rfl | rfl | rfl | rfl | rfl
  all_goals exact ⟨_, rfl⟩
theorem acc2 {c : Nat} (h : c ∈ Sg) (sn : Sre.Seen) : ∃ sn', accepts code2 11 c sn = .ok (black c, sn') := by
  have hm : c ∈ [9, 10, 12, 13, 32, 35, 45, 46, 48, 49, 56, 57, 58, 65, 81, 88, 89, 90, 95, 97, 98, 99, 109, 110, 120, 201, 233, 304, 931, 7838, 8490] := h
  simp only [List.mem_cons, List.not_mem_nil, or_false] at hm
  rcases hm with rfl | rfl | rfl | rfl | rfl | rfl | rfl | rfl | rfl | rfl | rfl | rfl | rfl | rfl | rfl | rfl | rfl | rfl | rfl | rfl | rfl | rfl | rfl | rfl | rfl | rfl | rfl | rfl | rfl | rfl | rfl
  all_goals exact ⟨_, rfl⟩
/-- what is_safe_name, is_non_whitespace say of a text's signs -/
def safe1 (l : List Nat) : Bool := match l with
  | [] => false
  | c :: r => first1 c && r.all rest1
def word1 (l : List Nat) : Bool := !l.isEmpty && l.all black
abbrev nomarks : Array (Option Nat) := Array.replicate (2 * 0) none
theorem fm1 (text : Array Nat) : forMatch code1 text 0 0 text.size false false = if text.size = 0 then St code1 text nomarks 5 0 0 [] 0 (some false) (({} : Sre.Seen).add 14) else St code1 text nomarks 5 0 0 [] 0 none (({} : Sre.Seen).add 14) := by
  show (if (true && decide (0 ≤ text.size) && decide (text.size - 0 < 1)) = true then _ else _) = _
  by_cases h : text.size = 0
  · rw [if_pos h, if_pos (by simp [h])]; rfl
  · rw [if_neg h, if_neg (by simp [h])]; rfl
theorem fm2 (text : Array Nat) : forMatch code2 text 0 0 text.size false false = if text.size = 0 then St code2 text nomarks 5 0 0 [] 0 (some false) (({} : Sre.Seen).add 14) else St code2 text nomarks 5 0 0 [] 0 none (({} : Sre.Seen).add 14) := by
  show (if (true && decide (0 ≤ text.size) && decide (text.size - 0 < 1)) = true then _ else _) = _
  by_cases h : text.size = 0
  · rw [if_pos h, if_pos (by simp [h])]; rfl
  · rw [if_neg h, if_neg (by simp [h])]; rfl
theorem takeWhile_full (g : Nat → Bool) : ∀ l : List Nat, decide ((l.takeWhile g).length = l.length) = l.all g
  | [] => rfl
  | c :: r => by
    rw [List.takeWhile_cons, List.all_cons]
    cases g c
    · simp
    · simp only [if_true, List.length_cons, Bool.true_and, Nat.add_right_cancel_iff]; exact takeWhile_full g r
theorem getD_mem {text : Array Nat} {p : Nat} (hp : p < text.size) : text.getD p 0 ∈ text.toList := by
  rw [Array.getD_eq_getD_getElem?, Array.getElem?_eq_getElem hp]; simp
theorem last_ok {text : Array Nat} (h : text.toList.getLast? ≠ some 10) : text.getD (text.size - 1) 0 ≠ 10 := by
  intro e
  by_cases h0 : text.size = 0
  · have : text = #[] := Array.eq_empty_of_size_eq_zero h0
    subst this; simp at e
  · apply h
    rw [List.getLast?_eq_getElem?, Array.getElem?_toList, Array.length_toList, Array.getElem?_eq_getElem (by omega)]
    rw [Array.getD_eq_getD_getElem?, Array.getElem?_eq_getElem (by omega)] at e
    exact congrArg some e
theorem ends1 {text : Array Nat} (hS : ∀ c ∈ text.toList, c ∈ Sg) (hs : text.size ≤ 1000) (hl : text.toList.getLast? ≠ some 10) :
    ∃ k, k ≤ 4000 ∧ Ends (forMatch code1 text 0 0 text.size false false) (safe1 text.toList) k := by
  rw [fm1]
  by_cases h : text.size = 0
  · rw [if_pos h]
    have : text = #[] := Array.eq_empty_of_size_eq_zero h
    subst this
    exact ⟨1, by omega, ends_out⟩
  · rw [if_neg h]
    obtain ⟨sn₁, e₁⟩ := exec_begin (code := code1) (text := text) (marks := nomarks) (pc := 5) (hd := 0) (wt := 0) (fr := []) (sn := ({} : Sre.Seen).add 14) rfl rfl
    obtain ⟨sn₂, e₂⟩ := exec_in (code := code1) (text := text) (marks := nomarks) (pc := 7) (pos := 0) (hd := 0) (wt := 0) (fr := []) (sn := sn₁) (g := first1) rfl (by omega) (acc1 (hS _ (getD_mem (by omega))))
    obtain ⟨c, r, hcr⟩ := List.exists_cons_of_ne_nil (show text.toList ≠ [] by intro e; apply h; rw [← Array.length_toList, e]; rfl)
    have hc : text.getD 0 0 = c := by rw [Array.getD_eq_getD_getElem?, ← Array.getElem?_toList, hcr]; rfl
    have hlen : text.size = r.length + 1 := by rw [← Array.length_toList, hcr]; rfl
    rw [hc] at e₂
    rw [hcr]
    show ∃ k, k ≤ 4000 ∧ Ends _ (first1 c && r.all rest1) k
    cases hf : first1 c
    · rw [hf, if_neg (by decide)] at e₂
      refine ⟨3, by omega, ends_step rfl ?_⟩
      rw [step_exec (by decide), e₁]
      refine ends_step rfl ?_
      rw [step_exec (by decide), e₂]
      exact ends_out
    · rw [hf, if_pos rfl] at e₂
      obtain ⟨k, hk, he⟩ := ends_tail (marks := nomarks) (hd := 0) (sn := sn₂) (code := code1) (text := text) (g := rest1) (pcR := 19) (pcA := 36) (least := 0) (p := 1) rfl rfl rfl rfl rfl rfl rfl (by decide) (by decide) hs (by omega) (fun p hp => acc1r (hS _ (getD_mem hp))) (last_ok hl)
      refine ⟨k + 2, by omega, ends_step rfl ?_⟩
      rw [step_exec (by decide), e₁]
      refine ends_step rfl ?_
      rw [step_exec (by decide), e₂]
      rw [hcr, List.drop_one, List.tail_cons, hlen] at he
      have : (decide (0 ≤ (r.takeWhile rest1).length) && decide (1 + (r.takeWhile rest1).length = r.length + 1)) = (true && r.all rest1) := by
        rw [← takeWhile_full]
        congr 1
        rw [decide_eq_decide]; omega
      rw [this] at he
      exact he
theorem ends2 {text : Array Nat} (hS : ∀ c ∈ text.toList, c ∈ Sg) (hs : text.size ≤ 1000) (hl : text.toList.getLast? ≠ some 10) :
    ∃ k, k ≤ 4000 ∧ Ends (forMatch code2 text 0 0 text.size false false) (word1 text.toList) k := by
  rw [fm2]
  by_cases h : text.size = 0
  · rw [if_pos h]
    have : text = #[] := Array.eq_empty_of_size_eq_zero h
    subst this
    exact ⟨1, by omega, ends_out⟩
  · rw [if_neg h]
    obtain ⟨sn₁, e₁⟩ := exec_begin (code := code2) (text := text) (marks := nomarks) (pc := 5) (hd := 0) (wt := 0) (fr := []) (sn := ({} : Sre.Seen).add 14) rfl rfl
    obtain ⟨k, hk, he⟩ := ends_tail (marks := nomarks) (hd := 0) (sn := sn₁) (code := code2) (text := text) (g := black) (pcR := 7) (pcA := 25) (least := 1) (p := 0) rfl rfl rfl rfl rfl rfl rfl (by decide) (by decide) hs (by omega) (fun p hp => acc2 (hS _ (getD_mem hp))) (last_ok hl)
    refine ⟨k + 1, by omega, ends_step rfl ?_⟩
    rw [step_exec (by decide), e₁]
    have hlen : text.size = text.toList.length := by simp
    rw [List.drop_zero, Nat.zero_add, hlen] at he
    have : (decide (1 ≤ (text.toList.takeWhile black).length) && decide ((text.toList.takeWhile black).length = text.toList.length)) = word1 text.toList := by
      rw [takeWhile_full]
      unfold word1
      have hne : text.toList.isEmpty = false := by
        cases ht : text.toList with
        | nil => exact absurd (by rw [hlen, ht]; rfl) h
        | cons c r => rfl
      rw [hne]
      cases ha : text.toList.all black
      · simp
      · have := takeWhile_full black text.toList
        rw [ha] at this
        have := of_decide_eq_true this
        simp only [this, Bool.not_false, Bool.and_true, decide_eq_true_eq]
        omega
    rw [this] at he
    exact he
end Mine

namespace Mine
open PySem PySem.W PyProof.Rows PySem.Calls
open PySem.Sre PySem.Builtin PySem.Builtin.Re
theorem runFor_done {m : Sre.M} (h : m.outcome.isSome = true) : ∀ n, m.runFor n = m
  | 0 => rfl
  | n + 1 => by show (if m.outcome.isSome then m else _) = _; rw [h]; rfl
theorem runFor_add (m : Sre.M) : ∀ a b, m.runFor (a + b) = (m.runFor a).runFor b := by
  intro a
  induction a generalizing m with
  | zero => intro b; rw [Nat.zero_add]; rfl
  | succ a ih =>
    intro b
    rw [Nat.add_right_comm]
    by_cases h : m.outcome.isSome = true
    · rw [runFor_done h, runFor_done h, runFor_done h]
    · show (if m.outcome.isSome then m else m.step.runFor (a + b)) = (if m.outcome.isSome then m else m.step.runFor a).runFor b
      rw [if_neg h, if_neg h, ih]
theorem runFor_more {m : Sre.M} {k : Nat} (h : (m.runFor k).outcome.isSome = true) (j : Nat) : m.runFor (k + j) = m.runFor k := by
  rw [runFor_add, runFor_done h]
section
variable {M : Model} {A : Around} {E : Value → Shared → Prop} {s : Shared}
theorem wp_drive {Q : Sre.M → Shared → Prop} : ∀ (t k : Nat) (m : Sre.M), k ≤ 4 * (t + 1) → (m.runFor k).outcome.isSome = true → Q (m.runFor k) s → wpAny M A (reDrive (t + 1) m) Q E s := by
  intro t
  induction t with
  | zero =>
    intro k m hk ho h
    have e : m.runFor 4 = m.runFor k := by
      obtain ⟨j, hj⟩ : ∃ j, 4 = k + j := ⟨4 - k, by omega⟩
      rw [hj]; exact runFor_more ho j
    unfold reDrive
    show wpAny M A (if (m.runFor 4).outcome.isSome = true then _ else _) Q E s
    rw [e, if_pos ho]
    refine wpAny_pure ?_
    show Q (m.runFor 4) s
    rw [e]; exact h
  | succ t ih =>
    intro k m hk ho h
    unfold reDrive
    show wpAny M A (if (m.runFor 4).outcome.isSome = true then _ else _) Q E s
    by_cases h4 : (m.runFor 4).outcome.isSome = true
    · rw [if_pos h4]
      have e : m.runFor 4 = m.runFor k := by
        by_cases hk4 : k ≤ 4
        · obtain ⟨j, hj⟩ : ∃ j, 4 = k + j := ⟨4 - k, by omega⟩
          rw [hj]; exact runFor_more ho j
        · obtain ⟨j, hj⟩ : ∃ j, k = 4 + j := ⟨k - 4, by omega⟩
          rw [hj]; exact (runFor_more h4 j).symm
      refine wpAny_pure ?_
      show Q (m.runFor 4) s
      rw [e]; exact h
    · rw [if_neg h4]
      have hk4 : 4 < k := by
        refine Nat.lt_of_not_le fun hle => h4 ?_
        obtain ⟨j, hj⟩ : ∃ j, 4 = k + j := ⟨4 - k, by omega⟩
        rw [hj, runFor_more ho j]; exact ho
      obtain ⟨j, hj⟩ : ∃ j, k = 4 + j := ⟨k - 4, by omega⟩
      refine wpAny_bind (wpAny_rule ?_)
      have e : m.runFor k = (m.runFor 4).runFor j := by rw [hj, runFor_add]
      rw [e] at ho h
      exact ih j (m.runFor 4) (by omega) ho h
theorem wp_rules {Q : PUnit → Shared → Prop} (c : Nat → Bool) (t : Nat → String) (h : Q ⟨⟩ s) : ∀ l : List Nat, wpAny M A (forIn l PUnit.unit fun i (_ : PUnit) => if c i = true then (rule (t i) >>= fun _ => pure (ForInStep.yield PUnit.unit)) else pure (ForInStep.yield PUnit.unit)) Q E s
  | [] => wpAny_pure h
  | i :: r => by
    rw [List.forIn_cons]
    refine wpAny_bind ?_
    by_cases hc : c i = true
    · rw [if_pos hc]
      exact wpAny_bind (wpAny_rule (wpAny_pure (wp_rules c t h r)))
    · rw [if_neg hc]
      exact wpAny_pure (wp_rules c t h r)
theorem wp_toEnd {Q : Option Sre.M → Shared → Prop} {m : Sre.M} {r : Bool} {k : Nat} (hk : k ≤ 4000) (he : Ends m r k) (h : Q (if r then some (m.runFor k) else none) s) : wpAny M A (reRunToEnd m) Q E s := by
  obtain ⟨ho, _⟩ := he
  unfold reRunToEnd
  refine wpAny_bind ?_
  have e : (2 : Nat) ^ 64 = (2 ^ 64 - 1) + 1 := by decide
  rw [e]
  refine wp_drive (2 ^ 64 - 1) k m (Nat.le_trans hk (by decide)) (by rw [ho]; rfl) ?_
  refine wpAny_bind (wp_rules _ _ ?_ _)
  rw [ho]
  cases r
  · exact wpAny_pure h
  · exact wpAny_pure h
end
theorem named_eq {x : Str} {t : Tok} : reNamed "re.Pattern.match" "match" ["string", "pos", "endpos"] 1 [.str x t] [] = pure [some (.str x t), none, none] := by kernel_rfl
theorem textOf_eq {x : Str} {t : Tok} : reTextOf (.str x t) = pure (x.cps, 0) := rfl
theorem slot_match : Slot "re.Pattern" "match" "re.Pattern.match" :=
  .of (owner := "re.Pattern") (n := "match") (by rw [typeLookup_type, builtinLookup_eq_fast]; kernel_rfl) (by decide +kernel) (by decide +kernel) (by decide +kernel)
    (by first | exact .inl (by decide +kernel) | exact .inr (by decide +kernel)) (by rw [isSubtype_type]; kernel_rfl)
theorem type_match : typeOf (.builtin "re.Pattern.match") = pure (.type "method_descriptor") := by show builtinType _ = _; rw [builtinType_eq_fast]; kernel_rfl
theorem entry_match : entryFor table "re.Pattern.match" = some Builtin.«re.Pattern.match» := entryFor_of_tree (by kernel_rfl)
theorem plainAttrs_pattern : PlainAttrs "re.Pattern" :=
  ⟨⟨"object.__getattribute__", by rw [typeLookup_type, builtinLookup_eq_fast]; kernel_rfl, by decide +kernel⟩, by rw [typeLookup_type, builtinLookup_eq_fast]; kernel_rfl⟩
theorem owner_pattern : Manifest.owners.lookup (String.ofList ['n', 'r', 'e', 't', 't', 'a', 'P', '.', 'e', 'r'].reverse) = some Manifest.sig_re_Pattern := by kernel_rfl
theorem args_match_2 (a b : Value) : argsOk "re.Pattern.match" ⟨[a, b], []⟩ := by
  unfold argsOk; rw [signature?_of (id := "re.Pattern.match") (n := ['h', 'c', 't', 'a', 'm']) (o := ['n', 'r', 'e', 't', 't', 'a', 'P', '.', 'e', 'r']) (by kernel_rfl) owner_pattern]; kernel_rfl
end Mine

namespace Mine
open PySem PySem.W PyProof.Rows PySem.Calls
open PySem.Sre PySem.Builtin PySem.Builtin.Re
/-- the match object at a, or None -/
def mv (b : Bool) (a : Addr) : Value := if b then .ref a else .none
section
variable {M : Model} {A : Around} {E : Value → Shared → Prop} {s : Shared} {h₀ : Heap} {L : Addr} {m : Str → Option Value} {news : List (Addr × Obj)} {x : Str} {t : Tok} {P T : Addr} {oP oT : Obj} {fs its : Array Value} {n : Nat} {pt fl gr a3 a4 : Value} {t6 t2 : Tok}
theorem wp_newMatch {Q : Value → Shared → Prop} {mm : Sre.M} (F : Fr h₀ L s.heap m) (N : News h₀ L s.heap news) (h : ∀ (a : Addr) h', Fr h₀ L h' m → News h₀ L h' news → Q (.ref a) { s with heap := h' }) (pos lim : Nat) (pat str : Value) :
    wpAny M A (reNewMatch pat str 0 pos lim mm) Q E s := by
  have e : reNewMatch pat str 0 pos lim mm = (newTuple [rawInt mm.start, rawInt mm.handed] >>= fun v => newFields "re.Match" [str, pat, rawInt pos, rawInt lim, rawInt mm.lastindex, v]) := rfl
  rw [e]
  refine wpAny_bind (newTuple_N F N fun h₁ F₁ N₁ => ?_)
  exact wpAny_newObj_type (h _ _ (F₁.push _) fun p hp => (N₁.push F₁ _) p (.tail _ (.tail _ hp)))
theorem wp_match {Q : Value → Shared → Prop} {code : Array Nat} {r : Bool} {k : Nat} (F : Fr h₀ L s.heap m) (N : News h₀ L s.heap news)
    (hP : s.heap.get? P = some oP) (hPd : oP.data = .fields #[pt, fl, .int 0 t2, a3, a4, .ref T, .int 0 t6]) (hT : s.heap.get? T = some oT) (hTd : oT.data = .seq its n) (hc : (its.map reRawOf).map (·.toNat) = code)
    (hz : x.length ≤ 1000) (hk : k ≤ 4000) (he : Ends (forMatch code x.cps 0 0 x.cps.size false false) r k)
    (h : ∀ (a : Addr) h', Fr h₀ L h' m → News h₀ L h' news → Q (mv r a) { s with heap := h' }) :
    wpAny M A («re.Pattern.match» ⟨[.ref P, .str x t], []⟩) (fun f s' => ∃ v, f = .done (.ret v) ∧ Q v s') E s := by
  have hsz : x.cps.size ≤ 1000 := hz
  show wpAny M A (reTarget "re.Pattern.match" "match" ⟨[.ref P, .str x t], []⟩ >>= fun t => reAnswer t (forMatch t.code t.text t.groups t.pos t.lim false false)) _ E s
  refine wpAny_bind ?_
  unfold reTarget
  show wpAny M A (reNamed "re.Pattern.match" "match" ["string", "pos", "endpos"] 1 [.str x t] [] >>= fun r => _) _ E s
  rw [named_eq]
  refine wpAny_bind (wpAny_pure ?_)
  dsimp only
  refine wpAny_bind (wpAny_pure ?_)
  refine wpAny_bind (wpAny_pure ?_)
  refine wpAny_bind (wpAny_fieldsOf hP hPd ?_)
  rw [textOf_eq]
  refine wpAny_bind (wpAny_pure ?_)
  show wpAny M A (if false = true then _ else if false = true then _ else _) _ E s
  rw [if_neg Bool.false_ne_true, if_neg Bool.false_ne_true]
  refine wpAny_bind (show wpAny M A (if false = true then _ else pure ()) _ E s from ?_)
  rw [if_neg Bool.false_ne_true]
  refine wpAny_pure ?_
  show wpAny M A (reRawItems (.ref T) >>= fun r => _) _ E s
  refine wpAny_bind ?_
  unfold reRawItems
  refine wpAny_bind (wpAny_seqItems hT hTd (wpAny_pure (wpAny_pure ?_)))
  have hlim : min ((2 : Int) ^ 63 - 1).toNat x.cps.size = x.cps.size := by
    have : ((2 : Int) ^ 63 - 1).toNat = 9223372036854775807 := by decide
    rw [this]; omega
  have hpos : min (0 : Int).toNat x.cps.size = 0 := by simp
  dsimp only
  rw [hlim, hpos, show reRawNat (#[pt, fl, Value.int 0 t2, a3, a4, .ref T, .int 0 t6].getD 2 .none) = 0 from rfl, Option.getD_some, hc]
  unfold reAnswer
  refine wpAny_bind (wp_toEnd hk he ?_)
  cases r
  · exact wpAny_pure ⟨_, rfl, h 0 _ F N⟩
  · refine wpAny_bind (wp_newMatch F N (fun a h' F' N' => wpAny_pure ⟨_, rfl, h a h' F' N'⟩) _ _ _ _)
theorem meets_match {code : Array Nat} {r : Bool} {k : Nat} (hc : (its.map reRawOf).map (·.toNat) = code) (hz : x.length ≤ 1000) (hk : k ≤ 4000) (he : Ends (forMatch code x.cps 0 0 x.cps.size false false) r k) :
    Meets («re.Pattern.match» ⟨[.ref P, .str x t], []⟩) (fun _ R s => ∃ oP oT h₀ L m news, Fr h₀ L s.heap m ∧ News h₀ L s.heap news ∧ s.heap.get? P = some oP ∧ oP.data = .fields #[pt, fl, .int 0 t2, a3, a4, .ref T, .int 0 t6] ∧ s.heap.get? T = some oT ∧ oT.data = .seq its n ∧
      ∀ (a : Addr) h', Fr h₀ L h' m → News h₀ L h' news → R (.ok (.ret (mv r a))) { s with heap := h' }) := by
  refine .of_wp fun prog w A R s hS => ?_
  obtain ⟨oP, oT, h₀, L, m, news, F, N, hP, hPd, hT, hTd, h⟩ := hS
  exact wp_match F N hP hPd hT hTd hc hz hk he h
end
section
variable {prog : Program} {w : World} {A : Around} {E : Value → Shared → Prop} {s : Shared} {h₀ : Heap} {L : Addr} {m : Str → Option Value} {news : List (Addr × Obj)} {x : Str} {t : Tok} {P T : Addr} {oP oT : Obj} {fs its : Array Value} {n : Nat} {pt fl gr a3 a4 : Value} {t6 t2 : Tok}
theorem call_match {Q : Value → Shared → Prop} {code : Array Nat} {r : Bool} {k : Nat} (F : Fr h₀ L s.heap m) (N : News h₀ L s.heap news)
    (hP : s.heap.get? P = some oP) (hcl : oP.cls = .type "re.Pattern") (hPd : oP.data = .fields #[pt, fl, .int 0 t2, a3, a4, .ref T, .int 0 t6]) (hT : s.heap.get? T = some oT) (hTd : oT.data = .seq its n) (hc : (its.map reRawOf).map (·.toNat) = code)
    (hz : x.length ≤ 1000) (hk : k ≤ 4000) (he : Ends (forMatch code x.cps 0 0 x.cps.size false false) r k)
    (h : ∀ (a : Addr) h', Fr h₀ L h' m → News h₀ L h' news → Q (mv r a) { s with heap := h' }) :
    wpAny (model prog w) A (call (.builtin "re.Pattern.match") [.ref P, .str x t]) Q E s :=
  call_meets slot_match ⟨oP, hP, hcl⟩ entry_match (args_match_2 _ _) (meets_match hc hz hk he) ⟨oP, oT, h₀, L, m, news, F, N, hP, hPd, hT, hTd, h⟩
theorem gm_match {M : Model} {pl : Sem Bool} {Q : Value × List Value → Shared → Prop} (hP : s.heap.get? P = some oP) (hcl : oP.cls = .type "re.Pattern") (hd : oP.dict = none) (h : Q (.builtin "re.Pattern.match", [.ref P]) s) : wpAny M A (getMethod (.ref P) "match" pl) Q E s :=
  getMethod_builtin ⟨oP, hP, hcl⟩ plainAttrs_pattern slot_match type_match (fun a e => by cases e; exact ⟨oP, hP, hd⟩) h
theorem gm_matchK {K : Frag} {M : Model} {pl : Sem Bool} {Q : Value × List Value → Shared → Prop} (F : Fr h₀ L s.heap m) (X : K.In h₀) (hP : K.lookup P = some oP) (hcl : oP.cls = .type "re.Pattern") (hd : oP.dict = none) (h : Q (.builtin "re.Pattern.match", [.ref P]) s) : wpAny M A (getMethod (.ref P) "match" pl) Q E s :=
  gm_match (X.keeps F.keep _ _ hP) hcl hd h
theorem call_matchK {K : Frag} {Q : Value → Shared → Prop} {code : Array Nat} {r : Bool} (F : Fr h₀ L s.heap m) (N : News h₀ L s.heap news) (X : K.In h₀)
    (hP : K.lookup P = some oP) (hcl : oP.cls = .type "re.Pattern") (hPd : oP.data = .fields #[pt, fl, .int 0 t2, a3, a4, .ref T, .int 0 t6]) (hT : K.lookup T = some oT) (hTd : oT.data = .seq its n) (hc : (its.map reRawOf).map (·.toNat) = code)
    (hz : x.length ≤ 1000) (he : ∃ k, k ≤ 4000 ∧ Ends (forMatch code x.cps 0 0 x.cps.size false false) r k)
    (h : ∀ (a : Addr) h', Fr h₀ L h' m → News h₀ L h' news → Q (mv r a) { s with heap := h' }) :
    wpAny (model prog w) A (call (.builtin "re.Pattern.match") [.ref P, .str x t]) Q E s :=
  let ⟨_, hk, he⟩ := he
  call_match F N (X.keeps F.keep _ _ hP) hcl hPd (X.keeps F.keep _ _ hT) hTd hc hz hk he h
end
end Mine

namespace Mine
open PySem PySem.W PyProof.Rows PySem.Calls PySem.Spec
open LCg LCt
/-- a test in a block has come out: its word, and what stands -/
def TestEnd (h₀ : Heap) (L : Addr) (m : Str → Option Value) (s₁ : Shared) (I : Addr) (oI : Obj) (C : Addr) (oC : Obj) (D : Addr) (ys : List Value) (news : List (Addr × Obj)) (b ok : Bool) (s' : Shared) : Prop :=
  ok = b ∧ ∃ h' tk', s' = { s₁ with heap := h', toks := tk' } ∧ Fr h₀ L h' m ∧ News h₀ L h' ((I, oI) :: (C, oC) :: (D, lst ys) :: news)
def sg1s (l : List Nat) : List Str := l.map fun c => ⟨#[c]⟩
section
variable {prog : Program} {w : World} {A : Around} {E : Value → Shared → Prop} {s : Shared} {h₀ : Heap} {L : Addr} {m : Str → Option Value} {env : Env}
theorem testEnd_intro {s₁ : Shared} {I : Addr} {oI : Obj} {C : Addr} {oC : Obj} {D : Addr} {ys : List Value} {news : List (Addr × Obj)} {b ok : Bool} {h' : Heap} {tk' : Nat} (e : ok = b) (F : Fr h₀ L h' m) (N : News h₀ L h' ((I, oI) :: (C, oC) :: (D, lst ys) :: news)) :
    TestEnd h₀ L m s₁ I oI C oC D ys news b ok { s₁ with heap := h', toks := tk' } := ⟨e, h', tk', rfl, F, N⟩
/-- what a block over a text's signs asks of its turn, and what it hands on -/
def TextTurns (prog : Program) (w : World) (A : Around) (h₀ : Heap) (L : Addr) (m : Str → Option Value) (env : Env) (ct : Expr) (x : Str) (scope : Scope) (cl : List (Str × Addr)) (g : Nat → Bool) (xt : Str) (news : List (Addr × Obj)) (s₁ : Shared) : Prop :=
  ∀ n u I oI C oC D m₂ ys h tk (E' : Value → Shared → Prop), n ∈ xt.cps.toList → NsObj oC m₂ → m₂ x = some (.str ⟨#[n]⟩ u) → Fr h₀ L h m → News h₀ L h ((I, oI) :: (C, oC) :: (D, lst ys) :: news) → Off3 I C D news → ((@Ne Nat I C) ∧ (@Ne Nat I D) ∧ (@Ne Nat C D)) →
    wpAny (model prog w) A (isTrue ct (compEnvC scope cl C env) (eval ct (compEnvC scope cl C env))) (fun ok s' => TestEnd h₀ L m s₁ I oI C oC D ys news (g n) ok s') E' { s₁ with heap := h, toks := tk }
theorem rest_S {ct : Expr} {x : Str} {px' : Pos} {scope : Scope} {cl : List (Str × Addr)} {g : Nat → Bool} {xt : Str} {news : List (Addr × Obj)} {s₁ s₂ : Shared} {Fin : List Value → List (Addr × Obj) → Prop} {h9 : Heap} (e : s₂ = { s₁ with heap := h9 })
    (hkind : scope.kind = .function) (hx : scope.names.lookup x = some .local) (hd : (x == ("__debug__" : Str)) = false)
    (T : TextTurns prog w A h₀ L m env ct x scope cl g xt news s₁) (fin : ∀ ys, StrsAre ys (sg1s (xt.cps.toList.filter g)) → Fin ys news) :
    ∀ (k i : Nat) (ys : List Value), i + k = xt.cps.size → StrsAre ys (sg1s ((xt.cps.toList.take i).filter g)) → CompRestT prog w A h₀ L m env ct (.Name x px') x scope cl s₂ (fun _ => True) (SignAt xt) Fin k i ys news
  | 0, i, ys, hi, hy => by
    refine CompRestT.zero (fin ys ?_)
    rw [List.take_of_length_le (by simp; omega)] at hy
    exact hy
  | k + 1, i, ys, hi, hy => by
    refine CompRestT.succ ?_
    rintro v I oI C oC D m₂ h tk E' ⟨c, u, hc, rfl⟩ hC hx' F N off ne
    subst e
    have hm : c ∈ xt.cps.toList := by
      have := Array.mem_of_getElem? hc
      simpa using this
    have ht : xt.cps.toList.take (i + 1) = xt.cps.toList.take i ++ [c] := by
      rw [List.take_add_one]
      simp [hc]
    refine wpAny_mono (T c u I oI C oC D m₂ ys h tk E' hm hC hx' F N off ne) (fun ok s' hq => ?_) fun _ _ e => e
    obtain ⟨hok, h', tk', rfl, F', N'⟩ := hq
    have hk' : (compEnvC scope cl C env).scope.kind = .function := by
      show (relabel scope env).kind = .function
      simp [relabel, hkind]
    have hl : (compEnvC scope cl C env).kindOf x = some .local := lookup_relabel_local hx
    by_cases hg : ok = true
    · rw [if_pos hg]
      refine LCgL.ld_own N' (List.mem_cons_of_mem _ List.mem_cons_self) hC hx' ?_ hk' hl hd
      refine CompEnd.intro F' N' news (fun p hp => hp) off trivial ?_
      refine rest_S rfl hkind hx hd T fin k (i + 1) _ (by omega) ?_
      rw [ht, List.filter_append, show [c].filter g = [c] by simp [← hok, hg]]
      unfold sg1s at hy ⊢
      rw [List.map_append]
      exact kct_snoc hy
    · rw [if_neg hg]
      refine CompEnd.intro F' N' news (fun p hp => hp) off trivial ?_
      refine rest_S rfl hkind hx hd T fin k (i + 1) _ (by omega) ?_
      rw [ht, List.filter_append, show [c].filter g = [] by simp [← hok, hg], List.append_nil]
      exact hy
theorem ListComp_S {ct iter : Expr} {x : Str} {px px' : Pos} {scope : Scope} {cl : List (Str × Addr)} {pos : Pos} {Q : Value → Shared → Prop} {g : Nat → Bool}
    (hclos : closureFor scope env = pure cl) (hcell : ∀ y ∈ scope.names, y.2 ≠ .cell) (hkind : scope.kind = .function)
    (hnames : ∀ y ∈ scope.names, y.2 = .local → scope.names.lookup y.1 = some .local) (hx : scope.names.lookup x = some .local) (hd : (x == ("__debug__" : Str)) = false)
    (h : wpAny (model prog w) A (eval iter env) (fun xv s₁ => ∃ xt tx news, xv = .str xt tx ∧ A.handled = none ∧ Fr h₀ L s₁.heap m ∧ News h₀ L s₁.heap news ∧ xt.cps.size ≤ sizeLine ∧
      TextTurns prog w A h₀ L m env ct x scope cl g xt news s₁ ∧
      (∀ D ys h tk, Fr h₀ L h m → News h₀ L h ((D, lst ys) :: news) → StrsAre ys (sg1s (xt.cps.toList.filter g)) → Q (.ref D) { s₁ with heap := h, toks := tk })) E s)
    (hs : ∀ x, foldedSetIterable iter env x = pure x := by intro _; rfl) :
    wpAny (model prog w) A (eval (.ListComp (.Name x px') [⟨.Name x px, iter, [ct], 0⟩] scope pos) env) Q E s := by
  rw [eval_ListComp]
  refine wpAny_comprehension_free (use := none) rfl hs hclos hkind hnames (wpAny_mono h (fun xv s₁ h₁ => ?_) fun _ _ e => e)
  obtain ⟨xt, tx, news, rfl, hh, F, N, hsz, T, fin⟩ := h₁
  have key : ∀ (o : Obj) (St : Nat → Heap → Prop), Walks prog w A s₁.heap.objs.size [s₁.heap.objs.size] [s₁.heap.objs.size] xt.cps.size (SignAt xt) St → (∀ i h, St i h → ∃ o, h.get? s₁.heap.objs.size = some o) → St 0 (s₁.heap.push o) →
      wpAny (model prog w) A (newList []) (fun acc s₃ => wpAny (model prog w) A (newFunctionEnv scope env.globals cl [] env.qual none .none (some env)) (fun cenv s₄ =>
        codeAny (model prog w) A (.compStart (.ListComp (.Name x px') [⟨.Name x px, iter, [ct], 0⟩] scope pos) 0 (.ref s₁.heap.objs.size) acc { cenv with scope := relabel scope env }) (compPost (model prog w) A E none Q acc cenv.locals) s₄) E s₃) E { s₁ with heap := s₁.heap.push o } := by
    intro o St W hIo hst
    have up : ∀ b o', s₁.heap.get? b = some o' → (s₁.heap.push o).get? b = some o' := fun b o' e => Heap.get?_push_of_some _ e
    refine block_T (Fin := fun ys news' => ∀ D h tk, Fr h₀ L h m → News h₀ L h ((D, lst ys) :: news') → Q (.ref D) { s₁ with heap := h, toks := tk }) (S := fun _ => True) W hsz hIo
      (fun i h h' o' nw st e e' _ _ _ => W.frame i h h' st fun b hb o'' ho => by rw [List.mem_singleton.mp hb] at ho ⊢; rw [e] at ho; cases ho; exact e')
      hcell hkind hx hst (fun b hb => ?_) (F.keeps up) (N.grown up) (Nat.ne_of_lt F.ns.lt) (next_is_new F) (fun p hp => Nat.ne_of_lt (Heap.lt_size (N p hp).1)) trivial
      (rest_S rfl hkind hx hd T (fun ys hy D h tk F' N' => fin D ys h tk F' N' hy) _ 0 [] (by simp) (by exact .nil)) ?_
    · rw [List.mem_singleton.mp hb]
      show s₁.heap.objs.size < (s₁.heap.push o).objs.size
      rw [Heap.size_push]; exact Nat.lt_succ_self _
    · intro D C h tk m' ys news' F' N' o1 hn hC₀ hD₀ hCL hDL hCD offC fin'
      refine ⟨m', hn, fun h'' hs'' => fin' D h'' tk (F'.change hs'' hCL hC₀) (fun p hp => ?_)⟩
      refine ⟨hs''.extBut _ _ ?_ (N' p hp).1, (N' p hp).2⟩
      rcases List.mem_cons.mp hp with rfl | hp
      · exact Ne.symm hCD
      · exact offC p hp
  cases ha : xt.cps.all (· < 128)
  · exact wpAny_pyIter_wide ha (key _ _ (Walks.strWide hh _ xt tx) (fun i h st => by obtain ⟨o, e, _⟩ := st; exact ⟨o, e⟩) ⟨_, Heap.get?_push_size _ rfl, rfl, rfl⟩)
  · exact wpAny_pyIter_ascii ha (key _ _ (Walks.strAscii hh _ xt tx) (fun i h st => by obtain ⟨o, e, _⟩ := st; exact ⟨o, e⟩) ⟨_, Heap.get?_push_size _ rfl, rfl, rfl⟩)
structure Hint (g : Nat → Bool) : Prop where
/-- the source of a block over a text -/
def SrcS (prog : Program) (w : World) (A : Around) (h₀ : Heap) (L : Addr) (m : Str → Option Value) (env : Env) (ct : Expr) (x : Str) (scope : Scope) (cl : List (Str × Addr)) (g : Nat → Bool) (Q : Value → Shared → Prop) (xv : Value) (s₁ : Shared) : Prop :=
  ∃ xt tx news, xv = .str xt tx ∧ A.handled = none ∧ Fr h₀ L s₁.heap m ∧ News h₀ L s₁.heap news ∧ xt.cps.size ≤ sizeLine ∧
      TextTurns prog w A h₀ L m env ct x scope cl g xt news s₁ ∧
      (∀ D ys h tk, Fr h₀ L h m → News h₀ L h ((D, lst ys) :: news) → StrsAre ys (sg1s (xt.cps.toList.filter g)) → Q (.ref D) { s₁ with heap := h, toks := tk })
theorem SrcS.intro {ct : Expr} {x : Str} {scope : Scope} {cl : List (Str × Addr)} {g : Nat → Bool} {Q : Value → Shared → Prop} {xt : Str} {tx : Tok} {news : List (Addr × Obj)} {s₁ : Shared}
    (hh : A.handled = none) (F : Fr h₀ L s₁.heap m) (N : News h₀ L s₁.heap news) (hz : xt.length ≤ 1000)
    (T : ∀ n u I oI C oC D m₂ ys h tk (E' : Value → Shared → Prop), n ∈ xt.cps.toList → NsObj oC m₂ → m₂ x = some (.str ⟨#[n]⟩ u) → Fr h₀ L h m → News h₀ L h ((I, oI) :: (C, oC) :: (D, lst ys) :: news) → Off3 I C D news → ((@Ne Nat I C) ∧ (@Ne Nat I D) ∧ (@Ne Nat C D)) →
    wpAny (model prog w) A (isTrue ct (compEnvC scope cl C env) (eval ct (compEnvC scope cl C env))) (fun ok s' => TestEnd h₀ L m s₁ I oI C oC D ys news (g n) ok s') E' { s₁ with heap := h, toks := tk })
    (fin : ∀ D ys h tk, Fr h₀ L h m → News h₀ L h ((D, lst ys) :: news) → StrsAre ys (sg1s (xt.cps.toList.filter g)) → Q (.ref D) { s₁ with heap := h, toks := tk }) :
    SrcS prog w A h₀ L m env ct x scope cl g Q (.str xt tx) s₁ := ⟨xt, tx, news, rfl, hh, F, N, by rw [PySem.sizeLine_eq]; exact Nat.le_trans hz (by decide), T, fin⟩
theorem ListComp_SS {ct iter : Expr} {x : Str} {px px' : Pos} {scope : Scope} {cl : List (Str × Addr)} {pos : Pos} {Q : Value → Shared → Prop} {g : Nat → Bool} (_ : Hint g) (F₀ : Fr h₀ L s.heap m)
    (hclos : closureFor scope env = pure cl) (hcell : ∀ y ∈ scope.names, y.2 ≠ .cell) (hkind : scope.kind = .function)
    (hnames : ∀ y ∈ scope.names, y.2 = .local → scope.names.lookup y.1 = some .local) (hx : scope.names.lookup x = some .local) (hd : (x == ("__debug__" : Str)) = false)
    (h : wpAny (model prog w) A (eval iter env) (SrcS prog w A h₀ L m env ct x scope cl g Q) E s)
    (hs : ∀ x, foldedSetIterable iter env x = pure x := by intro _; rfl) :
    wpAny (model prog w) A (eval (.ListComp (.Name x px') [⟨.Name x px, iter, [ct], 0⟩] scope pos) env) Q E s :=
  ListComp_S hclos hcell hkind hnames hx hd h hs
theorem sg_strOk : ∀ c ∈ Sg, PyData.strOk ⟨#[c]⟩ = true := by decide +kernel
theorem shaped_sg {l : List Nat} (hl : ∀ c ∈ l, c ∈ Sg) : SeqAt.shaped (.list ((sg1s l).map PyData.str)) = true := by
  have h1 : ∀ l : List Nat, (∀ c ∈ l, c ∈ Sg) → PyData.canLayAll0 ((sg1s l).map PyData.str) = true := fun l => by
    induction l with
    | nil => intro _; rfl
    | cons c r ih =>
      intro h
      have h1 := ih fun d hd => h d (.tail _ hd)
      show (PyData.strOk ⟨#[c]⟩ && PyData.canLayAll0 ((sg1s r).map PyData.str)) = true
      rw [h1, sg_strOk c (h c (.head _))]; rfl
  have h2 : ∀ l : List Str, PyData.depthAll (l.map PyData.str) = 0 := fun l => by
    induction l with
    | nil => rfl
    | cons c r ih => simp [PyData.depthAll, PyData.depth, ih]
  simp [SeqAt.shaped, PyData.canLay0, PyData.depth, h1 l hl, h2]
theorem eqv_sg (l : List Nat) : PyData.eqv (.list ((sg1s l).map PyData.str)) (.list []) = l.isEmpty := by
  cases l <;> simp [sg1s, PyData.eqv, PyData.eqvAll]
theorem eq_nilS {D D' : Addr} {ys : List Value} {news : List (Addr × Obj)} {l : List Nat} {o' : Obj} {Q : Value → Shared → Prop} (N : News h₀ L s.heap news) (h1 : (D, lst ys) ∈ news) (h2 : (D', o') ∈ news) (e1 : o'.cls = .type "list") (e2 : o'.data = .seq #[] 0) (hy : StrsAre ys (sg1s l)) (hl : ∀ c ∈ l, c ∈ Sg) (hu : A.units + 64 < cLine)
    (h : Q (.bool l.isEmpty) s) : wpAny (model prog w) A (compareOp .Eq (.ref D) (.ref D')) Q E s := by
  have r1 : Reads s.heap (.ref D) (.list ((sg1s l).map PyData.str)) [D] := reads_newData ⟨_, (N _ h1).1, rfl, _, rfl⟩ hy.carried
  have r2 : Reads s.heap (.ref D') (.list []) [D'] := reads_newData (ys := []) ⟨_, (N _ h2).1, e1, _, e2⟩ .nil
  exact eq_dataH r1 r2 (shaped_sg hl) rfl hu (by rw [eqv_sg]; exact h)
end
end Mine

namespace Mine
open PySem PySem.W PyProof.Rows
variable {w : World} {mean : ExcName → Option Value} {mg mb : Str → Option Value} {news : List (Addr × Obj)}
structure TextOk (x : Str) : Prop where
  signs : ∀ c ∈ x.cps.toList, c ∈ Sg
  ne : x.cps.toList ≠ []
  short : x.cps.toList.length ≤ 13
  last : x.cps.toList.getLast? ≠ some 10
theorem TextOk.short' {x : Str} (h : TextOk x) : x.length ≤ 1000 := by have := h.short; simp only [Str.length]; simp at this; omega
def lowT (x : Str) : Str := ⟨(x.cps.toList.map lo).toArray⟩
local macro_rules | `(tactic| walk_at "getMethod str") => `(tactic| with_reducible refine gm_encode ?_)
local macro_rules | `(tactic| walk_at "call builtin:str.encode") => `(tactic| (refine call_encode (clean_of (TextOk.signs (by assumption))) (TextOk.short' (by assumption)) ?_; intro _ _))
local macro_rules | `(tactic| walk_at "getMethod bytes") => `(tactic| with_reducible refine gm_blower ?_)
local macro_rules | `(tactic| walk_at "call builtin:bytes.lower") => `(tactic| (refine call_blow (TextOk.signs (by assumption)) (TextOk.short' (by assumption)) ?_; intro _ _))
local macro_rules | `(tactic| walk_at "call builtin:bytes.decode") => `(tactic| (refine call_decode8 (sl_of (TextOk.signs (by assumption))) ?_ ?_ ?_; (rw [List.length_map]; exact TextOk.short' (by assumption)); (intro e; exact TextOk.ne (by assumption) (List.map_eq_nil_iff.mp e)); intro _ _))
theorem c_ascii_lower (x : Str) (t : Tok) (hx : TextOk x) : ConA w mean mg mb 52 news [.str x t] (fun _ t => .str (lowT x) t) := by
  dsimp only [ConA]
  k_fill
  intros; rename_i hret
  refine wpAny_call ?_
  k_dflt cell_enter
  k_steps
  all_goals exact hret 0 _ _ _ (by k_asm) (by k_asm)
end Mine

namespace Mine
open PySem PySem.W PyProof.Rows
variable {w : World} {mean : ExcName → Option Value} {mg mb : Str → Option Value} {news : List (Addr × Obj)}
open PySem.Sre
theorem size_le {x : Str} (h : TextOk x) : x.cps.size ≤ 1000 := h.short'
local macro_rules | `(tactic| walk_at "getMethod ref") => `(tactic| (k_here; k_dflt (refine' gm_matchK (by k_asm) (by k_asm) ?k1 ?k2 ?k3 ?_; (case k1 => k_is); (case k2 => rfl); (case k3 => rfl); k_whole)))
local macro_rules | `(tactic| walk_at "call builtin:re.Pattern.match") => `(tactic| (k_here; k_dflt (refine' call_matchK (by k_asm) (by k_asm) (by k_asm) ?k1 ?k2 ?k3 ?k4 ?k5 ?k6 ?k7 ?k8 ?_; (case k8 => assumption); (case k1 => k_is); (case k2 => rfl); (case k3 => rfl); (case k4 => k_is); (case k5 => rfl); (case k6 => decide +kernel); (case k7 => assumption); k_whole); intro a' h' F' N'))
theorem c_safe_of (x : Str) (t : Tok) (r : Bool) (hz : x.length ≤ 1000) (he : ∃ k, k ≤ 4000 ∧ Ends (forMatch code1 x.cps 0 0 x.cps.size false false) r k) : ConA w mean mg mb 156 news [.str x t] (fun b _ => mv r b) := by
  dsimp only [ConA]
  k_fill
  intros; rename_i hret
  refine wpAny_call ?_
  k_dflt cell_enter
  k_steps
  all_goals exact hret _ 0 _ _ (by k_asm) (by k_asm)
theorem c_blank_of (x : Str) (t : Tok) (r : Bool) (hz : x.length ≤ 1000) (he : ∃ k, k ≤ 4000 ∧ Ends (forMatch code2 x.cps 0 0 x.cps.size false false) r k) : ConA w mean mg mb 168 news [.str x t] (fun b _ => mv r b) := by
  dsimp only [ConA]
  k_fill
  intros; rename_i hret
  refine wpAny_call ?_
  k_dflt cell_enter
  k_steps
  all_goals exact hret _ 0 _ _ (by k_asm) (by k_asm)
theorem c_safe (x : Str) (t : Tok) (hx : TextOk x) : ConA w mean mg mb 156 news [.str x t] (fun b _ => mv (safe1 x.cps.toList) b) := c_safe_of x t _ hx.short' (ends1 hx.signs (size_le hx) hx.last)
theorem c_blank (x : Str) (t : Tok) (hx : TextOk x) : ConA w mean mg mb 168 news [.str x t] (fun b _ => mv (word1 x.cps.toList) b) := c_blank_of x t _ hx.short' (ends2 hx.signs (size_le hx) hx.last)
theorem c_safe0 (t : Tok) : ConA w mean mg mb 156 news [.str (Str.ofString "") t] (fun b _ => mv false b) := c_safe_of (Str.ofString "") t false (by decide) (ends1 (text := #[]) (by simp) (by simp) (by simp))
theorem c_blank0 (t : Tok) : ConA w mean mg mb 168 news [.str (Str.ofString "") t] (fun b _ => mv false b) := c_blank_of (Str.ofString "") t false (by decide) (ends2 (text := #[]) (by simp) (by simp) (by simp))
end Mine

namespace Mine
open PySem PySem.W PyProof.Rows
variable {w : World} {mean : ExcName → Option Value} {mg mb : Str → Option Value} {news : List (Addr × Obj)}
def lowI (pre : List Int) : Str := ⟨(pre.map fun c => lo c.toNat).toArray⟩
abbrev capS : Str := Str.ofString "ABCDEFGHIJKLMNOPQRSTUVWXYZ"
abbrev letS : Str := Str.ofString "abcdefghijklmnopqrstuvwxyz"
theorem occ_cap : ∀ c ∈ Sg, Builtin.Str.occurrences capS ⟨#[c]⟩ 0 capS.length 1 = if 65 ≤ c ∧ c ≤ 90 then [c - 65] else [] := by decide +kernel
theorem occ_let : ∀ c ∈ Sg, Builtin.Str.occurrences letS ⟨#[c]⟩ 0 letS.length 1 = if 97 ≤ c ∧ c ≤ 122 then [c - 97] else [] := by decide +kernel
theorem item_let : ∀ c ∈ Sg, 65 ≤ c ∧ c ≤ 90 → Txt.item letS ((c - 65 : Nat) : Int) = ⟨#[lo c]⟩ := by decide +kernel
theorem mem_codes {x : Str} {n : Nat} {pre post : List Int} (h : KStt.codes x = pre ++ (n : Int) :: post) (hx : TextOk x) : n ∈ Sg := by
  have : (n : Int) ∈ KStt.codes x := by rw [h]; simp
  obtain ⟨c, hc, e⟩ := List.mem_map.mp this
  have : c = n := Int.ofNat.inj e
  exact this ▸ hx.signs c hc
theorem cap_yes {c : Nat} (hS : c ∈ Sg) (hb : (Builtin.Str.occurrences capS ⟨#[c]⟩ 0 capS.length 1).isEmpty = false) : 65 ≤ c ∧ c ≤ 90 := by
  rw [occ_cap c hS] at hb
  by_cases h : 65 ≤ c ∧ c ≤ 90
  · exact h
  · rw [if_neg h] at hb; cases hb
theorem cap_no {c : Nat} (hS : c ∈ Sg) (hb : (Builtin.Str.occurrences capS ⟨#[c]⟩ 0 capS.length 1).isEmpty = true) : ¬ (65 ≤ c ∧ c ≤ 90) := by
  intro h
  rw [occ_cap c hS, if_pos h] at hb; cases hb
section
variable {prog : Program} {A : Around} {E : Value → Shared → Prop} {s : Shared} {t u : Tok} {Q : Value → Shared → Prop}
theorem index_cap {c : Nat} (hS : c ∈ Sg) (hb : (Builtin.Str.occurrences capS ⟨#[c]⟩ 0 capS.length 1).isEmpty = false) (h : 65 ≤ c → c ≤ 90 → Q (.int ((c - 65 : Nat) : Int) s.toks) { s with toks := s.toks + 1 }) :
    wpAny (model prog w) A (call (.builtin "str.index") [.str capS t, .str ⟨#[c]⟩ u]) Q E s := by
  have hc := cap_yes hS hb
  have ho := occ_cap c hS
  rw [if_pos hc] at ho
  exact call_gives F.slot_str_index (typeIs_str _ _ _) F.entry_str_index (F.args_str_index_2 _ _) (gives_str_index capS ⟨#[c]⟩ t u (c - 65) [] ho) (h hc.1 hc.2)
end
theorem lowI_len (pre : List Int) : (lowI pre).length = pre.length := by simp [lowI, Str.length]
theorem low_nil : Str.ofString "" = lowI [] ∧ (Str.ofString "").length = ([] : List Int).length := ⟨rfl, rfl⟩
theorem low_snoc {pre : List Int} {n : Nat} {f g : Str} (h : f = lowI pre) (e : g = ⟨#[lo n]⟩) : f ++ g = lowI (pre ++ [(n : Int)]) ∧ (f ++ g).length = (pre ++ [(n : Int)]).length := by
  have e' : f ++ g = lowI (pre ++ [(n : Int)]) := by
    rw [h, e]
    refine Str.ext' ?_
    rw [Str.cps_append]
    simp [lowI]
  exact ⟨e', by rw [e', lowI_len]⟩
theorem low_plain {pre : List Int} {n : Nat} {f : Str} (h : f = lowI pre) (e : ¬ (65 ≤ n ∧ n ≤ 90)) : f ++ ⟨#[n]⟩ = lowI (pre ++ [(n : Int)]) ∧ (f ++ (⟨#[n]⟩ : Str)).length = (pre ++ [(n : Int)]).length := low_snoc h (by rw [lo, if_neg e])
theorem low_great {pre : List Int} {n : Nat} {f : Str} (h : f = lowI pre) (hS : n ∈ Sg) (h1 : 65 ≤ n) (h2 : n ≤ 90) : f ++ Txt.item letS ((n - 65 : Nat) : Int) = lowI (pre ++ [(n : Int)]) ∧ (f ++ Txt.item letS ((n - 65 : Nat) : Int)).length = (pre ++ [(n : Int)]).length := low_snoc h (item_let n hS ⟨h1, h2⟩)
theorem low_all (x : Str) : lowI (KStt.codes x) = lowT x := by
  simp [lowI, lowT, KStt.codes]
local macro_rules | `(tactic| walk_at "call builtin:str.index") => `(tactic| (refine index_cap (mem_codes (by assumption) (by assumption)) (by assumption) ?_; intro _ _))
theorem c_small (x : Str) (t : Tok) (hx : TextOk x) : ConA w mean mg mb 184 news [.str x t] (fun _ t => .str (lowT x) t) := by
  dsimp only [ConA]
  k_fill
  intros; rename_i hret
  have hshort := hx.short'
  refine wpAny_call ?_
  k_dflt cell_enter
  k_with "pyIter str" => k_state (fun pre o => o = lowI pre ∧ o.length = pre.length) "out"
  k_with "state" => first | exact low_nil | exact low_plain (by assumption) (cap_no (mem_codes (by assumption) (by assumption)) (by assumption)) | exact low_great (by assumption) (mem_codes (by assumption) (by assumption)) (by assumption) (by assumption)
  k_steps
  all_goals ((rename (_ = lowI _) => hL); rw [hL, low_all]; exact hret 0 _ _ _ (by k_asm) (by k_asm))
end Mine

namespace Mine
open PySem PySem.W PyProof.Rows
variable {w : World} {mean : ExcName → Option Value} {mg mb : Str → Option Value} {news : List (Addr × Obj)}
local macro_rules | `(tactic| walk_at "eval ListComp") => `(tactic| (k_here; k_dflt (refine ListComp_SS (by assumption) (by k_asm) (by with_unfolding_all rfl) (by decide) (by rfl) (by decide) (by rfl) (by decide) ?_)))
theorem ne_empty {x : Str} (h : TextOk x) : (x != Str.ofString "") = true := by
  have : x ≠ Str.ofString "" := fun e => h.ne (by rw [e]; rfl)
  simpa using this
theorem blank_test : ∀ c ∈ Sg, (!(Builtin.Str.occurrences (Str.ofString " \t\x0d\n\x0c") ⟨#[c]⟩ 0 (Str.ofString " \t\x0d\n\x0c").length 1).isEmpty) = !black c := by decide +kernel
theorem signs_filter {x : Str} (h : TextOk x) (g : Nat → Bool) : ∀ c ∈ x.cps.toList.filter g, c ∈ Sg := fun c hc => h.signs c (List.mem_filter.mp hc).1
theorem word_end {x : Str} (h : TextOk x) : (x.cps.toList.filter fun c => !black c).isEmpty = word1 x.cps.toList := by
  unfold word1
  have : x.cps.toList.isEmpty = false := by
    cases e : x.cps.toList with
    | nil => exact absurd e h.ne
    | cons c r => rfl
  rw [this, Bool.not_false, Bool.true_and]
  generalize x.cps.toList = l
  induction l with
  | nil => rfl
  | cons c r ih =>
    rw [List.filter_cons, List.all_cons]
    cases black c
    · rfl
    · simpa using ih
theorem c_lword (x : Str) (t : Tok) (hx : TextOk x) : ConA w mean mg mb 194 news [.str x t] (fun _ _ => .bool (word1 x.cps.toList)) := by
  dsimp only [ConA]
  k_fill
  intros; rename_i hret
  have hshort := hx.short'
  have hint : Hint (fun c => !black c) := ⟨⟩
  refine wpAny_call ?_
  k_dflt cell_enter
  k_steps
  · refine SrcS.intro (by rfl) (by k_asm) (by k_asm) (by assumption) ?_ ?_
    · intro n' u' I' oI' C' oC' D' m' ys' h' tk' E' hn' hC' hx' F' N' off' ne'
      k_steps
      exact testEnd_intro (blank_test n' (hx.signs n' hn')) F' N'
    · intro D' ys' h' tk' F' N' hy'
      k_steps
      refine eq_nilS (by k_asm) (List.mem_cons_of_mem _ List.mem_cons_self) List.mem_cons_self rfl rfl hy' (signs_filter hx _) (by units_room) ?_
      k_steps
      rw [word_end hx]
      exact hret 0 0 _ _ (by k_asm) (cb_drop (by assumption) fun p hp => List.mem_cons_of_mem _ (List.mem_cons_of_mem _ hp))
  · (rename (_ = false) => h9); rw [ne_empty hx] at h9; cases h9
end Mine

namespace Mine
open PySem PySem.W PyProof.Rows
variable {w : World} {mean : ExcName → Option Value} {mg mb : Str → Option Value} {news : List (Addr × Obj)}
local macro_rules | `(tactic| walk_at "eval ListComp") => `(tactic| (k_here; k_dflt (refine ListComp_SS (by assumption) (by k_asm) (by with_unfolding_all rfl) (by decide) (by rfl) (by decide) (by rfl) (by decide) ?_)))
/-- an if whose way out hands back False: it goes on just where b -/
def IfPost (s : Shared) (b : Bool) (f : Flow) (s' : Shared) : Prop := (f = if b then .next else .ret (.bool false)) ∧ ∃ tk, s' = { s with toks := tk }
theorem cut_if {M : Model} {A : Around} {t : Sem Flow} {E : Value → Shared → Prop} {s : Shared} {Q : Flow → Shared → Prop} (b : Bool) (h1 : wpAny M A t (IfPost s b) (fun _ _ => False) s) (h2 : ∀ tk, Q (if b then .next else .ret (.bool false)) { s with toks := tk }) : wpAny M A t Q E s :=
  wpAny_mono h1 (fun f s' ⟨e, tk, e'⟩ => by rw [e, e']; exact h2 tk) fun _ _ h => h.elim
theorem first_test : ∀ c ∈ Sg, first1 c = (((⟨#[c]⟩ : Str) == Str.ofString "_") || !(Builtin.Str.occurrences letS ⟨#[c]⟩ 0 letS.length 1).isEmpty || !(Builtin.Str.occurrences capS ⟨#[c]⟩ 0 capS.length 1).isEmpty) := by decide +kernel
theorem rest_test : ∀ c ∈ Sg, rest1 c = (!(Builtin.Str.occurrences (Str.ofString "_.-0123456789") ⟨#[c]⟩ 0 (Str.ofString "_.-0123456789").length 1).isEmpty || !(Builtin.Str.occurrences letS ⟨#[c]⟩ 0 letS.length 1).isEmpty || !(Builtin.Str.occurrences capS ⟨#[c]⟩ 0 capS.length 1).isEmpty) := by decide +kernel
theorem safe_no {x : Str} (h : first1 (x.cps.getD 0 0) = false) : safe1 x.cps.toList = false := by
  have e : x.cps.getD 0 0 = x.cps.toList.getD 0 0 := by simp [Array.getD_eq_getD_getElem?]
  rw [e] at h
  revert h
  generalize x.cps.toList = l
  cases l with
  | nil => intro _; rfl
  | cons c r => intro h; show (first1 c && r.all rest1) = false; rw [show first1 c = false from h]; rfl
theorem safe_end {x : Str} (hx : TextOk x) (h : first1 (x.cps.getD 0 0) = true) : (x.cps.toList.filter fun c => !rest1 c).isEmpty = safe1 x.cps.toList := by
  have e : x.cps.getD 0 0 = x.cps.toList.getD 0 0 := by simp [Array.getD_eq_getD_getElem?]
  have hne := hx.ne
  rw [e] at h
  revert h hne
  generalize x.cps.toList = l
  have key : ∀ l : List Nat, (l.filter fun c => !rest1 c).isEmpty = l.all rest1 := fun l => by
    induction l with
    | nil => rfl
    | cons c r ih =>
      rw [List.filter_cons, List.all_cons]
      cases rest1 c
      · rfl
      · simpa using ih
  cases l with
  | nil => intro _ h; exact absurd rfl h
  | cons c r =>
    intro h _
    have hf : first1 c = true := h
    have hr : rest1 c = true := by unfold rest1; rw [hf]; rfl
    rw [key, List.all_cons, hr]
    show _ = (first1 c && r.all rest1)
    rw [hf]
theorem c_lsafe (x : Str) (t : Tok) (hx : TextOk x) : ConA w mean mg mb 189 news [.str x t] (fun _ _ => .bool (safe1 x.cps.toList)) := by
  dsimp only [ConA]
  k_fill
  intros; rename_i hret
  have hshort := hx.short'
  have hint : Hint (fun c => !rest1 c) := ⟨⟩
  refine wpAny_call ?_
  k_dflt cell_enter
  k_gentoks
  refine wpAny_execs_cons ?_
  refine cut_if (first1 (x.cps.getD 0 0)) ?_ fun tk9 => ?_
  · have hp : 1 ≤ x.length := by have h0 := List.length_pos_iff.mpr hx.ne; simp at h0; exact h0
    have hS : x.cps.getD 0 0 ∈ Sg := hx.signs _ (getD_mem (by exact hp))
    have hi : Txt.item x 0 = ⟨#[x.cps.getD 0 0]⟩ := by
      have : Txt.charAt x 0 = some (x.cps.getD 0 0) := by
        unfold Txt.charAt
        have e : seqIndex? 0 x.length = some 0 := by
          unfold seqIndex?
          simp
          omega
        rw [e]
        show x.cps[0]? = _
        rw [Array.getD_eq_getD_getElem?, Array.getElem?_eq_getElem (by exact hp)]; rfl
      unfold Txt.item
      rw [this]; rfl
    have hne : (x == Str.ofString "") = false := by have := ne_empty hx; simpa using this
    clear hint hret hx
    generalize x.cps.getD 0 0 = c at hS hi
    k_steps
    all_goals (try dsimp only)
    all_goals (simp only [hi] at *)
    all_goals first
      | (exfalso; (rename (x == Str.ofString "") = true => h9); rw [hne] at h9; cases h9)
      | exact ⟨by rw [show first1 c = true by (rw [first_test c hS]; simp only [*, Bool.true_or, Bool.or_true, Bool.not_false, Bool.not_true, Bool.or_false, Bool.false_or])]; rfl, _, rfl⟩
      | exact ⟨by rw [show first1 c = false by (rw [first_test c hS]; simp only [*, Bool.true_or, Bool.or_true, Bool.not_false, Bool.not_true, Bool.or_false, Bool.false_or])]; rfl, _, rfl⟩
  · cases hb : first1 (x.cps.getD 0 0)
    · show qk (.ret (.bool false)) _
      k_steps
      have e := safe_no hb
      rw [e] at hret
      exact hret 0 0 _ _ (by k_asm) (by k_asm)
    · simp only [if_true]
      k_steps
      · refine SrcS.intro (by rfl) (by k_asm) (by k_asm) (by assumption) ?_ ?_
        · intro n' u' I' oI' C' oC' D' m' ys' h' tk' E' hn' hC' hx' F' N' off' ne'
          have hS := hx.signs n' hn'
          k_steps
          all_goals refine testEnd_intro ?_ F' N'
          all_goals (rw [rest_test n' hS]; simp only [*, Bool.true_or, Bool.or_true, Bool.not_false, Bool.not_true, Bool.or_false])
        · intro D' ys' h' tk' F' N' hy'
          k_steps
          refine eq_nilS (by k_asm) (List.mem_cons_of_mem _ List.mem_cons_self) List.mem_cons_self rfl rfl hy' (signs_filter hx _) (by units_room) ?_
          k_steps
          rw [safe_end hx hb]
          exact hret 0 0 _ _ (by k_asm) (cb_drop (by assumption) fun p hp => List.mem_cons_of_mem _ (List.mem_cons_of_mem _ hp))
end Mine

namespace Mine
open PySem PySem.W PyProof.Rows
variable {w : World} {mean : ExcName → Option Value} {mg mb : Str → Option Value} {news : List (Addr × Obj)}
/-- a contract whose answer is some sign -/
abbrev ConS (w : World) (mean : ExcName → Option Value) (mg mb : Str → Option Value) (f : Addr) (news : List (Addr × Obj)) (vs : List Value) : Prop :=
  ∀ (dp un : Nat) (gd : Option (List Code)) (cn : Str) (cs : Scope) (a : Addr) (ccd : Value) (cl : List (Str × Addr)) (outer : List Env) (A₀ : Around) (base h₀ : Heap) (L : Addr) (m : Str → Option Value) (s : Shared) (Q E : Value → Shared → Prop),
    Below A₀ base outer h₀ → Fr h₀ L s.heap m → (hd.heap_39 w.params).In h₀ → News h₀ L s.heap news → Top hd.view_39 (looseW hd.view_39 [Str.ofString "Token", Str.ofString "EOFToken", Str.ofString "_safe_name", Str.ofString "_non_whitespace"]) mean mg mb h₀ → cs.kind = .function →
    dp + 10 < recursionLimit → un + 100 < cLine → (∀ c ∈ Sg, ∀ (t : Tok) (h' : Heap) (tk' : Nat), Fr h₀ L h' m → News h₀ L h' news → Q (.str ⟨#[c]⟩ t) { s with heap := h', toks := tk' }) →
      wpAny (model PySem.Challenge.rw_bc6009_01.row.prog w) (ktrTop dp un gd cn cs L a ccd cl outer) (call (.ref f) vs) Q E s
theorem item_in (S : Str) (n : Nat) (hn : 0 < n) (hS : ∀ k, k < n → ∃ c ∈ Sg, Txt.item S (k : Int) = ⟨#[c]⟩) (a : Int) : ∃ c ∈ Sg, Txt.item S (a.fmod n) = ⟨#[c]⟩ := by
  have h0 := fmod_lo a (n := (n : Int)) (by omega)
  have h1 := fmod_hi a (n := (n : Int)) (by omega)
  have := hS (a.fmod n).toNat (by omega)
  rwa [Int.toNat_of_nonneg h0] at this
theorem item_a (a : Int) : ∃ c ∈ Sg, Txt.item (Str.ofString "abcXYZ_mnQ") (a.fmod 10) = ⟨#[c]⟩ := item_in _ 10 (by decide) (by decide +kernel) a
theorem item_b (a : Int) : ∃ c ∈ Sg, Txt.item (Str.ofString "0189.-:#") (a.fmod 8) = ⟨#[c]⟩ := item_in _ 8 (by decide) (by decide +kernel) a
theorem item_c (a : Int) : ∃ c ∈ Sg, Txt.item (Str.ofString " \t\x0d\x0c") (a.fmod 4) = ⟨#[c]⟩ := item_in _ 4 (by decide) (by decide +kernel) a
theorem item_d (a : Int) : ∃ c ∈ Sg, Txt.item (Str.ofString "AZ\u00c9\u212a\u1e9e\u03a3\u0130") (a.fmod 7) = ⟨#[c]⟩ := item_in _ 7 (by decide) (by decide +kernel) a
theorem item_e : ∃ c ∈ Sg, Str.ofString "\n" = ⟨#[c]⟩ := ⟨10, by decide, by decide⟩
theorem item_f : ∃ c ∈ Sg, Str.ofString "\u00e9" = ⟨#[c]⟩ := ⟨233, by decide, by decide⟩
theorem sign_end {Q : Value → Shared → Prop} {x : Str} {t : Tok} {s' : Shared} (h : ∃ c ∈ Sg, x = ⟨#[c]⟩) (k : ∀ c ∈ Sg, Q (.str ⟨#[c]⟩ t) s') : Q (.str x t) s' := by
  obtain ⟨c, hc, rfl⟩ := h
  exact k c hc
theorem c_sign (v : Int) (t : Tok) : ConS w mean mg mb 177 news [.int v t] := by
  dsimp only [ConS]
  k_fill
  intros; rename_i hret
  refine wpAny_call ?_
  k_dflt cell_enter
  k_steps
  all_goals refine sign_end ?_ fun c hc => hret c hc _ _ _ (by k_asm) (cb_drop (by assumption) fun p hp => List.mem_cons_of_mem _ hp)
  all_goals with_reducible first | exact item_a _ | exact item_b _ | exact item_c _ | exact item_d _ | exact item_e | exact item_f
end Mine

namespace Mine
open PySem PySem.W PyProof.Rows
/-- a statement that binds one name -/
def SetPost (base : Heap) (L : Addr) (m : Str → Option Value) (news : List (Addr × Obj)) (s : Shared) (y : Str) (V : Value → Prop) (f : Flow) (s' : Shared) : Prop :=
  f = .next ∧ ∃ v h' tk', V v ∧ s' = { s with heap := h', toks := tk' } ∧ Fr base L h' (fun z => if z = y then some v else m z) ∧ News base L h' news
/-- a statement that goes on and leaves all as it was -/
def GoPost (base : Heap) (L : Addr) (m : Str → Option Value) (news : List (Addr × Obj)) (s : Shared) (f : Flow) (s' : Shared) : Prop :=
  f = .next ∧ ∃ h' tk', s' = { s with heap := h', toks := tk' } ∧ Fr base L h' m ∧ News base L h' news
section
variable {M : Model} {A : Around} {t : Sem Flow} {E : Value → Shared → Prop} {s : Shared} {Q : Flow → Shared → Prop} {base h' : Heap} {L : Addr} {m : Str → Option Value} {news : List (Addr × Obj)} {tk' : Nat}
theorem cut_set (F : Fr base L s.heap m) (N : News base L s.heap news) (y : Str) (V : Value → Prop) (h1 : wpAny M A t (SetPost base L m news s y V) (fun _ _ => False) s)
    (h2 : ∀ v h' tk', V v → Fr base L h' (fun z => if z = y then some v else m z) → News base L h' news → Q .next { s with heap := h', toks := tk' }) : wpAny M A t Q E s :=
  wpAny_mono h1 (fun f s' ⟨e, v, h', tk', hv, e', F', N'⟩ => by rw [e, e']; exact h2 v h' tk' hv F' N') fun _ _ h => h.elim
theorem cut_go (F : Fr base L s.heap m) (N : News base L s.heap news) (h1 : wpAny M A t (GoPost base L m news s) (fun _ _ => False) s)
    (h2 : ∀ h' tk', Fr base L h' m → News base L h' news → Q .next { s with heap := h', toks := tk' }) : wpAny M A t Q E s :=
  wpAny_mono h1 (fun f s' ⟨e, h', tk', e', F', N'⟩ => by rw [e, e']; exact h2 h' tk' F' N') fun _ _ h => h.elim
theorem setPost_intro {y : Str} {V : Value → Prop} {v : Value} (hv : V v) (F : Fr base L h' (fun z => if z = y then some v else m z)) (N : News base L h' news) : SetPost base L m news s y V .next { s with heap := h', toks := tk' } :=
  ⟨rfl, v, h', tk', hv, rfl, F, N⟩
theorem goPost_intro (F : Fr base L h' m) (N : News base L h' news) : GoPost base L m news s .next { s with heap := h', toks := tk' } := ⟨rfl, h', tk', rfl, F, N⟩
end
section
variable {w : World} {mean : ExcName → Option Value} {mg mb : Str → Option Value} {f : Addr} {news : List (Addr × Obj)} {vs : List Value} {R : Addr → Tok → Value}
  {dp un : Nat} {gd : Option (List Code)} {cn : Str} {cs : Scope} {a : Addr} {ccd : Value} {cl : List (Str × Addr)} {outer : List Env} {A₀ : Around} {base h₀ : Heap} {L : Addr} {m : Str → Option Value} {s : Shared} {Q E : Value → Shared → Prop}
theorem use_A (c : ConA w mean mg mb f news vs R) (B : Below A₀ base outer h₀) (F : Fr h₀ L s.heap m) (X : (hd.heap_39 w.params).In h₀) (N : News h₀ L s.heap news)
    (T : Top hd.view_39 (looseW hd.view_39 [Str.ofString "Token", Str.ofString "EOFToken", Str.ofString "_safe_name", Str.ofString "_non_whitespace"]) mean mg mb h₀) (hk : cs.kind = .function)
    (hd : dp + 10 < recursionLimit) (hu : un + 100 < cLine) (h : ∀ (b : Addr) (t : Tok) (h' : Heap) (tk' : Nat), Fr h₀ L h' m → News h₀ L h' news → Q (R b t) { s with heap := h', toks := tk' }) :
    wpAny (model PySem.Challenge.rw_bc6009_01.row.prog w) (ktrTop dp un gd cn cs L a ccd cl outer) (call (.ref f) vs) Q E s :=
  c _ _ _ _ _ _ _ _ _ _ _ _ _ _ _ _ _ B F X N T hk hd hu h
theorem use_S (c : ConS w mean mg mb f news vs) (B : Below A₀ base outer h₀) (F : Fr h₀ L s.heap m) (X : (hd.heap_39 w.params).In h₀) (N : News h₀ L s.heap news)
    (T : Top hd.view_39 (looseW hd.view_39 [Str.ofString "Token", Str.ofString "EOFToken", Str.ofString "_safe_name", Str.ofString "_non_whitespace"]) mean mg mb h₀) (hk : cs.kind = .function)
    (hd : dp + 10 < recursionLimit) (hu : un + 100 < cLine) (h : ∀ c ∈ Sg, ∀ (t : Tok) (h' : Heap) (tk' : Nat), Fr h₀ L h' m → News h₀ L h' news → Q (.str ⟨#[c]⟩ t) { s with heap := h', toks := tk' }) :
    wpAny (model PySem.Challenge.rw_bc6009_01.row.prog w) (ktrTop dp un gd cn cs L a ccd cl outer) (call (.ref f) vs) Q E s :=
  c _ _ _ _ _ _ _ _ _ _ _ _ _ _ _ _ _ B F X N T hk hd hu h
end
end Mine

namespace Mine
open PySem PySem.W PyProof.Rows PySem.Calls PySem.Spec
open LCg LCt
/-- an element of a block has come out as some sign -/
def SignEnd (h₀ : Heap) (L : Addr) (m : Str → Option Value) (s₁ : Shared) (I : Addr) (oI : Obj) (C : Addr) (oC : Obj) (D : Addr) (ys : List Value) (news : List (Addr × Obj)) (y : Value) (s' : Shared) : Prop :=
  ∃ c t h' tk', c ∈ Sg ∧ y = .str ⟨#[c]⟩ t ∧ s' = { s₁ with heap := h', toks := tk' } ∧ Fr h₀ L h' m ∧ News h₀ L h' ((I, oI) :: (C, oC) :: (D, lst ys) :: news)
section
variable {prog : Program} {w : World} {A : Around} {E : Value → Shared → Prop} {s : Shared} {h₀ : Heap} {L : Addr} {m : Str → Option Value} {env : Env}
theorem signEnd_intro {s₁ : Shared} {I : Addr} {oI : Obj} {C : Addr} {oC : Obj} {D : Addr} {ys : List Value} {news : List (Addr × Obj)} {c : Nat} {t : Tok} {h' : Heap} {tk' : Nat} (hc : c ∈ Sg) (F : Fr h₀ L h' m) (N : News h₀ L h' ((I, oI) :: (C, oC) :: (D, lst ys) :: news)) :
    SignEnd h₀ L m s₁ I oI C oC D ys news (.str ⟨#[c]⟩ t) { s₁ with heap := h', toks := tk' } := ⟨c, t, h', tk', hc, rfl, rfl, F, N⟩
theorem rest_G {elt : Expr} {x : Str} {scope : Scope} {cl : List (Str × Addr)} {S : List (Addr × Obj) → Prop} {news : List (Addr × Obj)} {s₁ s₂ : Shared} {Fin : List Value → List (Addr × Obj) → Prop} {h9 : Heap} {its : Array Value} {ns : List Int} (e : s₂ = { s₁ with heap := h9 }) (hS : S news)
    (hi : IntsAre its.toList ns)
    (turn : ∀ k t I oI C oC D m₂ ys h tk (E' : Value → Shared → Prop), NsObj oC m₂ → m₂ x = some (.int k t) → Fr h₀ L h m → News h₀ L h ((I, oI) :: (C, oC) :: (D, lst ys) :: news) → Off3 I C D news → ((@Ne Nat I C) ∧ (@Ne Nat I D) ∧ (@Ne Nat C D)) →
      wpAny (model prog w) A (eval elt (compEnvC scope cl C env)) (SignEnd h₀ L m s₁ I oI C oC D ys news) E' { s₁ with heap := h, toks := tk })
    (fin : ∀ ys l, (∀ c ∈ l, c ∈ Sg) → l.length = its.size → StrsAre ys (sg1s l) → Fin ys news) :
    ∀ (k i : Nat) (ys : List Value) (l : List Nat), i + k = its.size → (∀ c ∈ l, c ∈ Sg) → l.length = i → StrsAre ys (sg1s l) → CompRest prog w A h₀ L m env elt x scope cl s₂ S (fun i v => its[i]? = some v) Fin k i ys news
  | 0, i, ys, l, hik, hl, hli, hy => CompRest.zero (fin ys l hl (by omega) hy)
  | k + 1, i, ys, l, hik, hl, hli, hy => by
    refine CompRest.succ ?_
    intro v I oI C oC D m₂ h tk E' hv hC hx' F N off ne
    subst e
    obtain ⟨n, t, e1, rfl⟩ : ∃ n t, ns[i]? = some n ∧ v = .int n t := by
      obtain ⟨n, t, e, hn⟩ := IntsAre.at hi i v (by rw [← hv]; simp)
      exact ⟨n, t, hn, e⟩
    refine wpAny_mono (turn n t I oI C oC D m₂ ys h tk E' hC hx' F N off ne) (fun y s' hq => ?_) fun _ _ e => e
    obtain ⟨c, t', h', tk', hc, rfl, rfl, F', N'⟩ := hq
    refine CompEnd.intro F' N' news (fun p hp => hp) off hS ?_
    refine rest_G rfl hS hi turn fin k (i + 1) _ (l ++ [c]) (by omega) (fun d hd => ?_) (by simp [hli]) ?_
    · rcases List.mem_append.mp hd with h | h
      · exact hl d h
      · rw [List.mem_singleton.mp h]; exact hc
    · unfold sg1s at hy ⊢
      rw [List.map_append]
      exact kct_snoc hy
theorem src_signs {elt : Expr} {x : Str} {scope : Scope} {cl : List (Str × Addr)} {Q : Value → Shared → Prop} {ax : Addr} {vs : List Value} {ns : List Int} {k : Nat} {news : List (Addr × Obj)} {s₁ : Shared}
    (hh : A.handled = none) (F : Fr h₀ L s₁.heap m) (N : News h₀ L s₁.heap news) (hm : (ax, ({ cls := .type "list", data := .seq vs.toArray k } : Obj)) ∈ news) (hi : IntsAre vs ns) (hz : ns.length ≤ 1000)
    (turn : ∀ k t I oI C oC D m₂ ys h tk (E' : Value → Shared → Prop), NsObj oC m₂ → m₂ x = some (.int k t) → Fr h₀ L h m → News h₀ L h ((I, oI) :: (C, oC) :: (D, lst ys) :: news) → Off3 I C D news → ((@Ne Nat I C) ∧ (@Ne Nat I D) ∧ (@Ne Nat C D)) →
      wpAny (model prog w) A (eval elt (compEnvC scope cl C env)) (SignEnd h₀ L m s₁ I oI C oC D ys news) E' { s₁ with heap := h, toks := tk })
    (fin : ∀ D ys h tk l, (∀ c ∈ l, c ∈ Sg) → l.length = ns.length → StrsAre ys (sg1s l) → Fr h₀ L h m → News h₀ L h ((D, lst ys) :: news) → Q (.ref D) { s₁ with heap := h, toks := tk }) :
    CompSrc prog w A h₀ L m env elt x scope cl (fun s₂ => FinE h₀ L m s₂ Q) (.ref ax) s₁ := by
  have hsz : vs.toArray.size = ns.length := by rw [List.size_toArray]; exact hi.length
  refine CompSrc.ledger hh F N hm (by rw [hsz, PySem.sizeLine_eq]; exact Nat.le_trans hz (by decide)) fun g => ?_
  refine rest_G (s₁ := s₁) (ns := ns) rfl (.inr ⟨_, hm, rfl, _, rfl⟩) hi turn (fun ys l hl hll hy D h tk F' N' _ => fin D ys h tk l hl (by rw [hll, hsz]) hy F' N') _ 0 [] [] (by simp) (fun _ h => nomatch h) rfl .nil
theorem glue_sg : ∀ (l a : List Nat), (sg1s l).foldl (fun acc p => acc ++ (Str.ofString "").cps ++ p.cps) a.toArray = (a ++ l).toArray
  | [], a => by simp [sg1s]
  | c :: r, a => by
    show (sg1s r).foldl (fun acc p => acc ++ (Str.ofString "").cps ++ p.cps) (a.toArray ++ (Str.ofString "").cps ++ #[c]) = _
    have e : a.toArray ++ (Str.ofString "").cps ++ #[c] = (a ++ [c]).toArray := by
      have : (Str.ofString "").cps = #[] := by decide
      rw [this]; simp
    rw [e, glue_sg r (a ++ [c])]
    simp
theorem join_eq (l : List Nat) : Txt.join (Str.ofString "") (sg1s l) = ⟨l.toArray⟩ := by
  cases l with
  | nil => rfl
  | cons c r => exact congrArg Str.mk (glue_sg r [c])
theorem sum_sg : ∀ l : List Nat, ((sg1s l).map (·.length)).sum = l.length
  | [] => rfl
  | c :: r => by
    show 1 + ((sg1s r).map (·.length)).sum = r.length + 1
    rw [sum_sg r]; omega
theorem join_sg {D : Addr} {ys : List Value} {l : List Nat} {news : List (Addr × Obj)} {t : Tok} {Q : Value → Shared → Prop} (N : News h₀ L s.heap news) (hm : (D, lst ys) ∈ news) (hy : StrsAre ys (sg1s l)) (hz : l.length ≤ 1000) (h : ∀ t' k, Q (.str ⟨l.toArray⟩ t') { s with toks := k }) :
    wpAny (model prog w) A (call (.builtin "str.join") [.str (Str.ofString "") t, .ref D]) Q E s := by
  have hlen : (sg1s l).length = l.length := by simp [sg1s]
  rw [← join_eq] at h
  exact join_listW (⟨_, (N _ hm).1, rfl, _, rfl⟩ : s.heap.IsList D ys.toArray) hy (by decide) (by rw [sum_sg, hlen]; omega) h
end
end Mine

namespace Mine
open PySem PySem.W PyProof.Rows PySem.Calls PySem.Spec
/-- a table's items are short texts -/
inductive Shorts : List Value → Prop
  | nil : Shorts []
  | cons (x : Str) (t : Tok) {vs : List Value} : x.length ≤ 10 → Shorts vs → Shorts (.str x t :: vs)
theorem Shorts.at {vs : List Value} (h : Shorts vs) : ∀ {i : Nat}, i < vs.length → ∃ x t, vs[i]? = some (.str x t) ∧ x.length ≤ 10 := by
  induction h with
  | nil => intro i hi; simp at hi
  | cons x t hx _ ih =>
    intro i hi
    cases i with
    | zero => exact ⟨x, t, rfl, hx⟩
    | succ i => simpa using ih (by simpa using hi)
section
variable {prog : Program} {w : World} {A : Around} {E : Value → Shared → Prop} {s : Shared} {K : Frag} {h₀ : Heap} {L : Addr} {m : Str → Option Value}
theorem item_short {value slice : PySem.Expr} {T : Addr} {oT : Obj} {vs : List Value} {n : Nat} {i : Int} {u : Tok} {Q : Value → Shared → Prop} (F : Fr h₀ L s.heap m) (X : K.In h₀) (ho : K.lookup T = some oT) (hc : oT.cls = .type "tuple") (hd : oT.data = .seq vs.toArray n) (hs : Shorts vs)
    (N : Nat) (hN : vs.length = N) (h0 : 0 ≤ i) (h1 : i < (N : Int)) (hfit : i < 2 ^ 63) (h : ∀ x : Str, x.length ≤ 10 → ∀ t', Q (.str x t') s)
    (hsub : subscripted slice false (.ref T) (.int i u) = operate [.ref T, .int i u] (getItem (.ref T) (.int i u)) := by with_unfolding_all rfl) :
    wpAny (model prog w) A (subscriptTail value slice (.ref T) (.int i u)) Q E s := by
  have ht : IsTup s.heap T vs.toArray := ⟨oT, X.keeps F.keep _ _ ho, hc, n, hd⟩
  obtain ⟨x, t, e, hx⟩ := hs.at (i := i.toNat) (by omega)
  exact tail_any ht.typeIs slot_tuple_getitem.lookup (getItem_tuple ht (by omega) hfit (seqIndex_of h0 (by rw [← hN] at h1; simpa using h1)) (x := .str x t) (by simpa using e) (h x hx t)) hsub
end
theorem idx_lo (a b : Int) : 0 ≤ a.fmod 2 * b.fmod 6 := Int.mul_nonneg (fmod_lo a (by decide)) (fmod_lo b (by decide))
theorem idx_hi (a b : Int) : a.fmod 2 * b.fmod 6 < ((6 : Nat) : Int) := by
  have h1 := fmod_lo a (n := 2) (by decide)
  have h2 := fmod_hi a (n := 2) (by decide)
  have h3 := fmod_lo b (n := 6) (by decide)
  have h4 := fmod_hi b (n := 6) (by decide)
  rcases (by omega : a.fmod 2 = 0 ∨ a.fmod 2 = 1) with e | e <;> rw [e] <;> omega
theorem idx_fit (a b : Int) : a.fmod 2 * b.fmod 6 < 2 ^ 63 := Int.lt_trans (idx_hi a b) (by decide)
theorem id7_lo (a : Int) : 0 ≤ a.fmod 7 := fmod_lo a (by decide)
theorem id7_hi (a : Int) : a.fmod 7 < ((7 : Nat) : Int) := fmod_hi a (by decide)
theorem id7_fit (a : Int) : a.fmod 7 < 2 ^ 63 := Int.lt_trans (id7_hi a) (by decide)
end Mine

namespace Mine
open PySem PySem.W PyProof.Rows PySem.Calls PySem.Spec
open LCg LCt
/-- a test in a block has come out, whichever way -/
def AnyEnd (h₀ : Heap) (L : Addr) (m : Str → Option Value) (s₁ : Shared) (I : Addr) (oI : Obj) (C : Addr) (oC : Obj) (D : Addr) (ys : List Value) (news : List (Addr × Obj)) (_ok : Bool) (s' : Shared) : Prop :=
  ∃ h' tk', s' = { s₁ with heap := h', toks := tk' } ∧ Fr h₀ L h' m ∧ News h₀ L h' ((I, oI) :: (C, oC) :: (D, lst ys) :: news)
/-- an element of a block has come out as a short text -/
def ShortEnd (h₀ : Heap) (L : Addr) (m : Str → Option Value) (s₁ : Shared) (I : Addr) (oI : Obj) (C : Addr) (oC : Obj) (D : Addr) (ys : List Value) (news : List (Addr × Obj)) (y : Value) (s' : Shared) : Prop :=
  ∃ z t h' tk', z.length ≤ 10 ∧ y = .str z t ∧ s' = { s₁ with heap := h', toks := tk' } ∧ Fr h₀ L h' m ∧ News h₀ L h' ((I, oI) :: (C, oC) :: (D, lst ys) :: news)
section
variable {prog : Program} {w : World} {A : Around} {E : Value → Shared → Prop} {s : Shared} {h₀ : Heap} {L : Addr} {m : Str → Option Value} {env : Env}
theorem anyEnd_intro {s₁ : Shared} {I : Addr} {oI : Obj} {C : Addr} {oC : Obj} {D : Addr} {ys : List Value} {news : List (Addr × Obj)} {ok : Bool} {h' : Heap} {tk' : Nat} (F : Fr h₀ L h' m) (N : News h₀ L h' ((I, oI) :: (C, oC) :: (D, lst ys) :: news)) :
    AnyEnd h₀ L m s₁ I oI C oC D ys news ok { s₁ with heap := h', toks := tk' } := ⟨h', tk', rfl, F, N⟩
theorem shortEnd_intro {s₁ : Shared} {I : Addr} {oI : Obj} {C : Addr} {oC : Obj} {D : Addr} {ys : List Value} {news : List (Addr × Obj)} {z : Str} {t : Tok} {h' : Heap} {tk' : Nat} (hz : z.length ≤ 10) (F : Fr h₀ L h' m) (N : News h₀ L h' ((I, oI) :: (C, oC) :: (D, lst ys) :: news)) :
    ShortEnd h₀ L m s₁ I oI C oC D ys news (.str z t) { s₁ with heap := h', toks := tk' } := ⟨z, t, h', tk', hz, rfl, rfl, F, N⟩
theorem rest_P {ct elt : Expr} {x : Str} {scope : Scope} {cl : List (Str × Addr)} {news : List (Addr × Obj)} {s₁ s₂ : Shared} {Fin : List Value → List (Addr × Obj) → Prop} {h9 : Heap} (e : s₂ = { s₁ with heap := h9 })
    (test : ∀ (k : Int) t I oI C oC D m₂ ys h tk (E' : Value → Shared → Prop), 0 ≤ k → k < 7 → NsObj oC m₂ → m₂ x = some (.int k t) → Fr h₀ L h m → News h₀ L h ((I, oI) :: (C, oC) :: (D, lst ys) :: news) → Off3 I C D news → ((@Ne Nat I C) ∧ (@Ne Nat I D) ∧ (@Ne Nat C D)) →
      wpAny (model prog w) A (isTrue ct (compEnvC scope cl C env) (eval ct (compEnvC scope cl C env))) (AnyEnd h₀ L m s₁ I oI C oC D ys news) E' { s₁ with heap := h, toks := tk })
    (elem : ∀ (k : Int) t I oI C oC D m₂ ys h tk (E' : Value → Shared → Prop), 0 ≤ k → k < 7 → NsObj oC m₂ → m₂ x = some (.int k t) → Fr h₀ L h m → News h₀ L h ((I, oI) :: (C, oC) :: (D, lst ys) :: news) → Off3 I C D news → ((@Ne Nat I C) ∧ (@Ne Nat I D) ∧ (@Ne Nat C D)) →
      wpAny (model prog w) A (eval elt (compEnvC scope cl C env)) (ShortEnd h₀ L m s₁ I oI C oC D ys news) E' { s₁ with heap := h, toks := tk })
    (fin : ∀ ys l, (∀ z ∈ l, z.length ≤ 10) → l.length ≤ 7 → StrsAre ys l → Fin ys news) :
    ∀ (k i : Nat) (ys : List Value) (l : List Str), i + k = 7 → (∀ z ∈ l, z.length ≤ 10) → l.length ≤ i → StrsAre ys l → CompRestT prog w A h₀ L m env ct elt x scope cl s₂ (fun _ => True) (fun i v => ∃ t, v = .int (0 + (i : Int)) t) Fin k i ys news
  | 0, i, ys, l, hik, hl, hli, hy => CompRestT.zero (fin ys l hl (by omega) hy)
  | k + 1, i, ys, l, hik, hl, hli, hy => by
    refine CompRestT.succ ?_
    rintro v I oI C oC D m₂ h tk E' ⟨t, rfl⟩ hC hx' F N off ne
    subst e
    refine wpAny_mono (test _ t I oI C oC D m₂ ys h tk E' (by omega) (by omega) hC hx' F N off ne) (fun ok s' hq => ?_) fun _ _ e => e
    obtain ⟨h', tk', rfl, F', N'⟩ := hq
    by_cases hg : ok = true
    · rw [if_pos hg]
      refine wpAny_mono (elem _ t I oI C oC D m₂ ys h' tk' E' (by omega) (by omega) hC hx' F' N' off ne) (fun y s' hq => ?_) fun _ _ e => e
      obtain ⟨z, t', h2, tk2, hz, rfl, rfl, F2, N2⟩ := hq
      refine CompEnd.intro F2 N2 news (fun p hp => hp) off trivial ?_
      refine rest_P rfl test elem fin k (i + 1) _ (l ++ [z]) (by omega) (fun d hd => ?_) (by simp; omega) (kct_snoc hy)
      rcases List.mem_append.mp hd with h | h
      · exact hl d h
      · rw [List.mem_singleton.mp h]; exact hz
    · rw [if_neg hg]
      refine CompEnd.intro F' N' news (fun p hp => hp) off trivial ?_
      exact rest_P rfl test elem fin k (i + 1) _ l (by omega) hl (by omega) hy
theorem src_pick {ct elt : Expr} {x : Str} {scope : Scope} {cl : List (Str × Addr)} {Q : Value → Shared → Prop} {r : Addr} {t u v : Tok} {news : List (Addr × Obj)} {s₁ : Shared}
    (hh : A.handled = none) (F : Fr h₀ L s₁.heap m) (N : News h₀ L s₁.heap news) (hr : IsRange s₁.heap r 0 7 1 t u v)
    (test : ∀ (k : Int) t I oI C oC D m₂ ys h tk (E' : Value → Shared → Prop), 0 ≤ k → k < 7 → NsObj oC m₂ → m₂ x = some (.int k t) → Fr h₀ L h m → News h₀ L h ((I, oI) :: (C, oC) :: (D, lst ys) :: news) → Off3 I C D news → ((@Ne Nat I C) ∧ (@Ne Nat I D) ∧ (@Ne Nat C D)) →
      wpAny (model prog w) A (isTrue ct (compEnvC scope cl C env) (eval ct (compEnvC scope cl C env))) (AnyEnd h₀ L m s₁ I oI C oC D ys news) E' { s₁ with heap := h, toks := tk })
    (elem : ∀ (k : Int) t I oI C oC D m₂ ys h tk (E' : Value → Shared → Prop), 0 ≤ k → k < 7 → NsObj oC m₂ → m₂ x = some (.int k t) → Fr h₀ L h m → News h₀ L h ((I, oI) :: (C, oC) :: (D, lst ys) :: news) → Off3 I C D news → ((@Ne Nat I C) ∧ (@Ne Nat I D) ∧ (@Ne Nat C D)) →
      wpAny (model prog w) A (eval elt (compEnvC scope cl C env)) (ShortEnd h₀ L m s₁ I oI C oC D ys news) E' { s₁ with heap := h, toks := tk })
    (fin : ∀ D ys h tk l, (∀ z ∈ l, z.length ≤ 10) → l.length ≤ 7 → StrsAre ys l → Fr h₀ L h m → News h₀ L h ((D, lst ys) :: news) → Q (.ref D) { s₁ with heap := h, toks := tk }) :
    CompSrcT prog w A h₀ L m env ct elt x scope cl (fun s₂ => FinE h₀ L m s₂ Q) (.ref r) s₁ :=
  CompSrcT.range (n := 7) hh F N hr (by decide) (by decide) (by decide) fun g =>
    rest_P (s₁ := s₁) rfl test elem (fun ys l hl hll hy D h tk F' N' _ => fin D ys h tk l hl hll hy F' N') 7 0 [] [] (by omega) (fun _ h => nomatch h) (by simp) .nil
end
end Mine

namespace Mine
open PySem PySem.W PyProof.Rows PySem.Calls Builtin Builtin.ObjectAttr Builtin.Getset_descriptor
/-- a class that is made by a method of its own and stands on tuple -/
structure Own (M : Model) (h : Heap) (C : Addr) : Prop where
  obj : ∃ oc od cd sl, h.get? C = some ⟨oc, od, .cls cd, sl⟩ ∧ cd.hasDel = false ∧ cd.mro.isEmpty = false
  made : Looks M h (Bind.madeBy (.ref C)) none
  base : Looks M h (Bind.staticBase (.ref C)) (.type "tuple")
  call : Looks M h (specialOf (.ref C) "__call__") (some (.builtin "type.__call__"))
  typ : Looks M h (isInstance (.ref C) (.type "type")) true
  self : Looks M h (isSubtype (.ref C) (.ref C)) true
  tup : Looks M h (isSubtype (.ref C) (.type "tuple")) true
  top : Looks M h (isSubtype (.ref C) (.type "object")) true
  ini : Looks M h (typeLookup (.ref C) "__init__") (some (.builtin "object.__init__"))
theorem best_tuple : Slots.bestBase [.type "tuple"] = pure (.type "tuple") := by
  unfold Slots.bestBase Slots.solid
  simp only [List.forIn_cons, PySem.F.mro_tuple]
  kernel_rfl
section
variable {K : Frag} {M : Model} {h : Heap} {C D : Addr} {oc oc' : Value} {od od' : Option Addr} {cd cd' : ClassData} {sl sl' : Array (Option Value)}
theorem made_none (X : K.In h) (e : K.lookup C = some ⟨oc, od, .cls cd, sl⟩) (h4 : (sl.toList[4]?).join = some .none) {a : Value} {r : List Value} (hm : cd.mro = a :: r) : Looks M h (Bind.madeBy (.ref C)) none := by
  have hc : clsIn K C = some cd := by unfold clsIn; rw [e]
  have hl : Looks M h (mroOf (.ref C)) cd.mro := (looks_clsIn X hc).andThen .now
  intro A Q E s k q
  unfold Bind.madeBy
  refine wpAny_bind (hl A _ E s k ?_)
  rw [hm, List.forIn_cons]
  refine wpAny_bind (wpAny_bind (wpAny_bind (wpAny_bind (wpAny_loadPart (k _ _ (X _ _ e)) (wpAny_pure ?_)))))
  dsimp only
  rw [← Array.getElem?_toList, h4]
  exact wpAny_pure (wpAny_pure (wpAny_pure q))
theorem base_one (X : K.In h) (e : K.lookup C = some ⟨oc, od, .cls cd, sl⟩) (h4 : (sl.toList[4]?).join = some .none) (hm : cd.mro = [.ref C, .type "tuple", .type "object"]) (hb : cd.bases = [.type "tuple"]) :
    Looks M h (Bind.staticBase (.ref C)) (.type "tuple") := by
  have hc : clsIn K C = some cd := by unfold clsIn; rw [e]
  have hl : Looks M h (mroOf (.ref C)) cd.mro := (looks_clsIn X hc).andThen .now
  intro A Q E s k q
  unfold Bind.staticBase
  refine wpAny_bind (hl A _ E s k ?_)
  rw [hm, List.forIn_cons]
  refine wpAny_bind (wpAny_bind (wpAny_bind (made_none X e h4 hm A _ E s k (wpAny_bind (looks_clsIn X hc A _ E s k ?_)))))
  rw [hb, best_tuple]
  refine wpAny_bind (wpAny_pure (wpAny_pure ?_))
  dsimp only
  rw [List.forIn_cons]
  refine wpAny_bind (wpAny_bind (Looks.of_pure PySem.F.called_tuple.made A _ E s k ?_))
  repeat (first | exact q | refine wpAny_pure ?_)
theorem adds_none (X : K.In h) (e : K.lookup C = some ⟨oc, od, .cls cd, sl⟩) (hb : cd.bases = [.type "tuple"]) (hs : cd.slotNames = []) : Looks M h (Slots.addsLayout (.ref C)) false := by
  have hc : clsIn K C = some cd := by unfold clsIn; rw [e]
  intro A Q E s k q
  unfold Slots.addsLayout
  refine wpAny_bind (looks_clsIn X hc A _ E s k ?_)
  rw [hb, hs]
  dsimp only
  rw [List.forIn_cons]
  have e2 : ∃ l, Slots.slotNamesOf (.type "tuple") = pure l := by
    unfold Slots.slotNamesOf
    dsimp only
    rw [PySem.F.mro_tuple]
    exact ⟨_, rfl⟩
  obtain ⟨l, e2⟩ := e2
  refine wpAny_bind (wpAny_bind (wpAny_bind (Looks.of_pure e2 A _ E s k ?_)))
  exact wpAny_pure (wpAny_pure (wpAny_pure (by simpa using q)))
theorem best_one (X : K.In h) (e : K.lookup C = some ⟨oc, od, .cls cd, sl⟩) (hm : cd.mro = [.ref C, .type "tuple", .type "object"]) (hb : cd.bases = [.type "tuple"]) (hs : cd.slotNames = []) :
    Looks M h (Slots.bestBase [.ref C]) (.ref C) := by
  have hc : clsIn K C = some cd := by unfold clsIn; rw [e]
  have hl : Looks M h (mroOf (.ref C)) cd.mro := (looks_clsIn X hc).andThen .now
  intro A Q E s k q
  unfold Slots.bestBase
  dsimp only
  rw [List.forIn_cons]
  have sol : ∃ v, Looks M h (Slots.solid (.ref C)) v := by
    refine ⟨.type "tuple", ?_⟩
    intro A Q E s k q
    unfold Slots.solid
    refine wpAny_bind (hl A _ E s k ?_)
    rw [hm, List.forIn_cons]
    refine wpAny_bind (wpAny_bind (wpAny_bind (adds_none X e hb hs A _ E s k ?_)))
    refine wpAny_pure (wpAny_pure ?_)
    repeat (first | exact q | refine wpAny_pure ?_)
  obtain ⟨v, sol⟩ := sol
  exact wpAny_bind (wpAny_bind (wpAny_bind (sol A _ E s k (wpAny_pure (wpAny_pure (wpAny_pure q))))))
theorem base_two (X : K.In h) (e : K.lookup C = some ⟨oc, od, .cls cd, sl⟩) (h4 : (sl.toList[4]?).join = some .none) (hm : cd.mro = [.ref C, .type "tuple", .type "object"]) (hb : cd.bases = [.type "tuple"]) (hs : cd.slotNames = [])
    (e' : K.lookup D = some ⟨oc', od', .cls cd', sl'⟩) (h4' : (sl'.toList[4]?).join = some .none) (hm' : cd'.mro = [.ref D, .ref C, .type "tuple", .type "object"]) (hb' : cd'.bases = [.ref C]) :
    Looks M h (Bind.staticBase (.ref D)) (.type "tuple") := by
  have hc : clsIn K C = some cd := by unfold clsIn; rw [e]
  have hc' : clsIn K D = some cd' := by unfold clsIn; rw [e']
  have hl : Looks M h (mroOf (.ref D)) cd'.mro := (looks_clsIn X hc').andThen .now
  intro A Q E s k q
  unfold Bind.staticBase
  refine wpAny_bind (hl A _ E s k ?_)
  rw [hm', List.forIn_cons]
  refine wpAny_bind (wpAny_bind (wpAny_bind (made_none X e' h4' hm' A _ E s k (wpAny_bind (looks_clsIn X hc' A _ E s k ?_)))))
  rw [hb']
  refine wpAny_bind (best_one X e hm hb hs A _ E s k (wpAny_pure ?_))
  dsimp only
  rw [List.forIn_cons]
  refine wpAny_bind (wpAny_bind (made_none X e h4 hm A _ E s k (wpAny_bind (looks_clsIn X hc A _ E s k ?_))))
  rw [hb, best_tuple]
  refine wpAny_bind (wpAny_pure (wpAny_pure ?_))
  dsimp only
  rw [List.forIn_cons]
  refine wpAny_bind (wpAny_bind (Looks.of_pure PySem.F.called_tuple.made A _ E s k ?_))
  repeat (first | exact q | refine wpAny_pure ?_)
theorem own_of (X : K.In h) (e : K.lookup C = some ⟨oc, od, .cls cd, sl⟩) (h4 : (sl.toList[4]?).join = some .none) {a : Value} {r : List Value} (hm : cd.mro = a :: r) (hdel : cd.hasDel = false)
    (base : Looks M h (Bind.staticBase (.ref C)) (.type "tuple")) (e6 : specialIn K (.ref C) "__call__" = some (some (.builtin "type.__call__"))) (e7 : instIn K (.ref C) (.type "type") = some true)
    (e8 : subIn K (.ref C) (.ref C) = some true) (e9 : subIn K (.ref C) (.type "tuple") = some true) (e10 : subIn K (.ref C) (.type "object") = some true) (e11 : findIn K (.ref C) "__init__" = some (some (.builtin "object.__init__"))) : Own M h C :=
  ⟨⟨oc, od, cd, sl, X _ _ e, hdel, by rw [hm]; rfl⟩, made_none X e h4 hm, base, looks_specialIn X e6, looks_instIn X e7, looks_subIn X e8, looks_subIn X e9, looks_subIn X e10, looks_findIn X e11⟩
end
end Mine

namespace Mine
open PySem PySem.W PyProof.Rows PySem.Calls Builtin Builtin.ObjectAttr Builtin.Getset_descriptor
theorem tn_kind : builtinKind "tuple.__new__" = some .builtinFn := by decide +kernel
theorem tn_split : splitId "tuple.__new__" = some ("tuple", "__new__") := by decide +kernel
theorem tn_sig : Manifest.signature? "tuple.__new__" = some ⟨.constructor, "tuple", "tuple", .cls, [⟨"iterable", .posOnly, false⟩]⟩ := by kernel_rfl
theorem tn_args (a b : Value) : Bind.checkArgs "tuple.__new__" ⟨.constructor, "tuple", "tuple", .cls, [⟨"iterable", .posOnly, false⟩]⟩ ⟨[a, b], []⟩ = pure () := by kernel_rfl
theorem oi_args' (a : Value) (rest : List Value) : argsOk "object.__init__" ⟨a :: rest, []⟩ := by unfold argsOk; kernel_rfl
theorem inst_T {h₀ h : Heap} {L x C dx : Addr} {news : List (Addr × Obj)} {items : Array Value} {n : Nat} {od : Obj} {sl : Array (Option Value)} (N : News h₀ L h news) (h1 : (x, (⟨.ref C, some dx, .seq items n, sl⟩ : Obj)) ∈ news) (h2 : (dx, od) ∈ news) :
    InstAt h x ⟨.ref C, some dx, .seq items n, sl⟩ C (some od) := ⟨(N _ h1).1, rfl, rfl, (N _ h2).1⟩
def MadeBack (K : Frag) (C : Addr) (Q : Value → Shared → Prop) (v : Value) (s' : Shared) : Prop := ∃ x ox od, v = .ref x ∧ K.In s'.heap ∧ InstAt s'.heap x ox C od ∧ Q v s'
section
variable {prog : Program} {w : World} {A : Around} {K : Frag} {C x L : Addr} {h₀ : Heap} {m : Str → Option Value} {news : List (Addr × Obj)} {s : Shared} {Q E : Value → Shared → Prop}
theorem madeBack_intro {ox : Obj} {od : Option Obj} {s' : Shared} (F : Fr h₀ L s'.heap m) (X : K.In h₀) (I : InstAt s'.heap x ox C od) (h : Q (.ref x) s') : MadeBack K C Q (.ref x) s' := ⟨x, ox, od, rfl, X.keeps F.keep, I, h⟩
theorem call_T {pos : List Value} {p : Addr} {f : Value} {rest : List Value} (F : Fr h₀ L s.heap m) (X₀ : K.In h₀) (Y : ∀ h, K.In h → Own (model prog w) h C) (hr : readsIn K C (.type "type") = true)
    (e : findCls K (.ref C) (.type "type") "__new__" = some (.get (.builtin "staticmethod.__get__") (.ref p) .none (.ref C))) (hp : recIn K p "staticmethod" = some (f :: rest)) (hv : handedIn f = true)
    (h : wpAny (model prog w) (A.under (.builtin "type.__call__" ⟨.ref C :: pos, []⟩)) (call f (.ref C :: pos)) (MadeBack K C Q) E { s with toks := s.toks + 1 }) :
    wpAny (model prog w) A (call (.ref C) pos) Q E s := by
  have X := X₀.keeps F.keep
  clear F
  obtain ⟨hh, g, d, t, os⟩ := s
  obtain ⟨⟨oc, od, cd, sl, hC, e1, e2⟩, made, base, call, typ, self, tup, top, ini⟩ := Y hh X
  refine wpAny_call (codeAny_of_tree ?_)
  show wpAny _ _ (callAny (.ref C) _) _ _ _
  refine nd_load hC ?_
  show wpAny _ _ (callAny.viaDunder (.ref C) _) _ _ _
  unfold callAny.viaDunder
  refine wpAny_bind (call.at ?_)
  dsimp only
  rw [tc_bind]
  refine wpAny_bind (wpAny_pure (wpAny_bind (wpAny_pure ?_)))
  refine wpAny_pure (a := Fin.again (.call (.builtin "type.__call__") ⟨.ref C :: pos, []⟩)) (And.intro rfl ?_)
  refine codeAny_call_builtin_at (Code.quiet_builtin _ (by decide +kernel)) entry_typeCall (check_slot tc_kind tc_split typ (tc_args _ _ _) ?_)
  unfold Builtin.«type.__call__»
  have hm : Looks (model prog w) hh (mroOf (.ref C)) cd.mro := ((Looks.ld (part := none) hC).andThen .now).andThen .now
  have hget : ∀ {A : Around} {expr : Bool} {Q E : Value → Shared → Prop}, Q f ⟨hh, g, d, t + 1, os⟩ → wpAny (model prog w) A (getAttr (.ref C) "__new__" expr) Q E ⟨hh, g, d, t, os⟩ :=
    fun q => cls_bind X hr e (wpAny_call (sm_get (s := ⟨hh, g, d, t + 1, os⟩) X hp (handed_on hv q)))
  repeat (first | simp only [e2, Bool.false_eq_true, if_false] | with_reducible refine hget ?_ | with_reducible refine wpAny_mono h ?_ ?_ | lk)
  case refine_2 => exact fun e s' z => z
  refine fun v s' z => ?_
  obtain ⟨x, ox, od', rfl, X', I, q⟩ := z
  obtain ⟨hh', g', d', t', os'⟩ := s'
  dsimp only at X' I
  obtain ⟨-, made', -, -, -, self', -, top', ini'⟩ := Y hh' X'
  have t1 := I.type (M := model prog w)
  have t2 : Looks (model prog w) hh' (isInstance (.ref x) (.type "object")) true := t1.andThen top'
  unfold isInstance callSpecial? specialOf
  have b1 := Looks.of_pure (M := model prog w) (h := hh') (oi_bind (.ref x))
  repeat (first | with_reducible refine wpAny_call ?_ | lk)
  refine codeAny_call_builtin oi_plain entry_oi (@check_slot (model prog w) _ _ _ "object.__init__" "object" "__init__" (.ref x) pos [] _ oi_kind oi_split t2 (oi_args' (.ref x) pos) ?_)
  unfold Builtin.«object.__init__»
  cases pos with
  | nil => exact wpAny_pure (wpAny_pure (wpAny_pure q))
  | cons a r =>
    repeat lk
    all_goals exact q
end
end Mine

namespace Mine
open PySem PySem.W PyProof.Rows PySem.Calls Builtin Builtin.ObjectAttr Builtin.Getset_descriptor
section
variable {prog : Program} {w : World} {A : Around} {K : Frag} {C x L : Addr} {h₀ : Heap} {m : Str → Option Value} {news : List (Addr × Obj)} {s : Shared} {Q E : Value → Shared → Prop}
theorem call_tnew {D : Addr} {items : Array Value} {n : Nat} (F : Fr h₀ L s.heap m) (X₀ : K.In h₀) (N : News h₀ L s.heap news) (Y : ∀ h, K.In h → Own (model prog w) h C)
    (hD : (D, ({ cls := .type "tuple", data := .seq items n } : Obj)) ∈ news) (hz : items.size ≤ 100)
    (h : ∀ x dx h', Fr h₀ L h' m → News h₀ L h' ((x, ⟨.ref C, some dx, .seq items 0, #[]⟩) :: (dx, dictOf [] 0) :: news) → (∀ p ∈ news, p.1 < dx) → dx < x → Q (.ref x) { s with heap := h' }) :
    wpAny (model prog w) A (call (.builtin "tuple.__new__") [.ref C, .ref D]) Q E s := by
  have X := X₀.keeps F.keep
  have hT := (N _ hD).1
  obtain ⟨hh, g, d, t, os⟩ := s
  obtain ⟨⟨oc, od, cd, sl, hC, e1, e2⟩, made, base, call, typ, self, tup, top, ini⟩ := Y hh X
  dsimp only at hT
  have mt := Looks.of_pure (M := model prog w) (h := hh) PySem.F.called_tuple.made
  have here : Looks (model prog w) hh (Bind.madeHere "tuple.__new__" (.ref C)) () := base.andThen (mt.andThen (Looks.of_pure (by simp only [Option.map_some, bne_self_eq_false, Bool.false_eq_true, if_false])))
  refine wpAny_call (codeAny_call_builtin PySem.F.plain_tuple_new PySem.F.entry_tuple_new ?_)
  simp only [checkBuiltinCall, tn_kind, tn_split, tn_sig]
  rw [tn_args]
  have hcol : ∀ {A : Around} {Q : List Value → Shared → Prop} {E : Value → Shared → Prop}, (∀ h', (∀ b o', hh.get? b = some o' → h'.get? b = some o') → Q items.toList ⟨h', g, d, t, os⟩) → wpAny (model prog w) A (collect (.ref D)) Q E ⟨hh, g, d, t, os⟩ :=
    fun q => wpAny_collect_seq D (.inr rfl) hT rfl rfl (fun h' k => q h' k) (by rw [sizeLine_eq]; omega)
  repeat (first | simp only [bne_self_eq_false, Bool.false_eq_true, if_false] | with_reducible refine hcol ?_ | lk)
  intro h' k
  have hC' := k _ _ hC
  have F' := (F.keeps k).push emptyDict
  have N' := (N.grown k).push (F.keeps k) emptyDict
  refine wpAny_bind (wpAny_pure (wpAny_bind (wpAny_alloc (wpAny_bind ?_))))
  show wpAny _ _ (newObj _ _ _) _ _ _
  unfold newObj
  dsimp only
  rw [if_neg (by rw [sizeLine_eq]; simp; omega)]
  show wpAny _ _ (newObjAsIs _ _ _) _ _ _
  unfold newObjAsIs classHasDel
  refine wpAny_bind (wpAny_alloc (wpAny_bind (wpAny_bind (wpAny_load (Heap.get?_push_of_some _ (Heap.get?_push_of_some _ hC')) (wpAny_pure ?_)))))
  rw [e1]
  refine wpAny_pure (wpAny_pure ?_)
  have N2 := N'.push F' ({ cls := .ref C, dict := some h'.objs.size, data := .seq items.toList.toArray } : Obj)
  have e : items.toList.toArray = items := by simp
  rw [e] at N2
  have q := h _ _ _ (F'.push _) N2 (fun p hp => Heap.lt_size ((N.grown k) p hp).1) (by rw [Heap.size_push]; exact Nat.lt_succ_self _)
  rw [e]
  exact q
end
end Mine

namespace Mine
open PySem PySem.W PyProof.Rows PySem.Calls Builtin Builtin.ObjectAttr Builtin.Getset_descriptor
theorem refuse_tup (self : Value) : refuseLoop self "__setattr__" [.type "tuple", .type "object"] = pure () := by kernel_rfl
noncomputable def onTuple : List Value → Bool
  | [.type a, .type b] => a == "tuple" && b == "object"
  | .ref _ :: r => onTuple r
  | _ => false
theorem refuse_on (self : Value) : ∀ {l : List Value}, onTuple l = true → refuseLoop self "__setattr__" l = pure ()
  | [.type a, .type b], e => by
    obtain ⟨h1, h2⟩ := Bool.and_eq_true_iff.mp e
    rw [beq_iff_eq.mp h1, beq_iff_eq.mp h2]; exact refuse_tup self
  | .ref c :: r, e => by
    rw [refuseLoop_ref]
    exact refuse_on self (by cases r <;> first | exact e | cases e)
section
variable {prog : Program} {w : World} {A : Around} {K : Frag} {C x dx L : Addr} {h₀ : Heap} {m : Str → Option Value} {news news' : List (Addr × Obj)} {s : Shared} {E : Value → Shared → Prop} {ox : Obj} {name : Str} {v : Value} {cd : ClassData}
theorem set_T {Q : Unit → Shared → Prop} (F : Fr h₀ L s.heap m) (X₀ : K.In h₀) (N : News h₀ L s.heap news) (I : InstAt s.heap x ox C (some (dictOf [] 0))) (hd : ox.dict = some dx)
    (hs : findIn K (.ref C) "__setattr__" = some (some (.builtin "object.__setattr__"))) (hc : clsIn K C = some cd) (hm : onTuple cd.mro = true) (hh : cd.hasDict = true) (hn : findIn K (.ref C) name = some none) (hi : subIn K (.ref C) (.type "object") = some true)
    (U : Upd dx (dictOf [] 0) (dictOf [⟨PyData.keyHash w.params name, .str name (s.toks + 1), v⟩] 1) news news')
    (h : ∀ h', Fr h₀ L h' m → News h₀ L h' news' → Q () { s with heap := h', toks := s.toks + 2 }) : wpAny (model prog w) A (setAttr (.ref x) name v) Q E s := by
  have X := X₀.keeps F.keep
  obtain ⟨pre, post, rfl, rfl, a, b⟩ := U.split
  refine set_plain X I hs ?_
  obtain ⟨hp, g, d, t, os⟩ := s
  have SF := PySem.F.store_object
  have I' := I
  obtain ⟨hx, hcl, hno, hod⟩ := I'
  obtain ⟨oc, odi, oda, osl⟩ := ox
  dsimp only at hcl hd hx
  subst hcl hd
  have T := I.type (M := model prog w)
  have sub : Looks (model prog w) hp (isInstance (.ref x) (.type "object")) true := T.andThen (looks_subIn X hi)
  have hmro : Looks (model prog w) hp (mroOf (.ref C)) cd.mro := (looks_clsIn X hc).andThen .now
  have hfd := looks_findIn (M := model prog w) X hn
  refine codeAny_call_builtin SF.slot.plain SF.entry (@check_slot (model prog w) _ _ _ "object.__setattr__" "object" "__setattr__" (.ref x) [.str name t, v] [] _ SF.kind SF.split sub (SF.args (.ref x) (.str name t) v) ?_)
  rw [osa_eq, refuse_eq]
  refine wpAny_bind (wpAny_bind (T.at (wpAny_bind (hmro.at ?_))))
  rw [refuse_on _ hm]
  refine wpAny_pure (wpAny_bind (T.at (wpAny_bind (hfd.at (wpAny_bind (wpAny_pure ?_))))))
  have D : hp.get? dx = some (dictOf [] 0) := (N (dx, dictOf [] 0) (by simp)).1
  obtain ⟨U1, U2⟩ := news_upd (o' := dictOf [⟨PyData.keyHash w.params name, .str name (t + 1), v⟩] 1) (f := Obj.putName name (PyData.keyHash w.params name) (.str name (t + 1)) v) F N a b (by rw [putName_dict]; rfl) rfl
  have D' := (U2 _ (List.mem_append_right _ List.mem_cons_self)).1
  refine wpAny_bind (wpAny_pure (wpAny_bind (wpAny_bind (wpAny_loadPart hx (wpAny_bind ((looks_clsIn X hc).at ?_))))))
  rw [hh]
  refine wpAny_pure (a := some dx) (wpAny_bind (wpAny_pure (wpAny_bind ?_)))
  unfold nsSet
  refine wpAny_bind (wpAny_bind (wpAny_askSetting (wpAny_pure (wpAny_bind (wpAny_mkText (wpAny_bind (wpAny_loadPart D ?_)))))))
  dsimp only
  rw [aRefKeyMayBeTheName_at, if_neg (by simp)]
  refine wpAny_updatePart D ?_
  refine wpAny_bind (wpAny_lookBehind D' (pastItsLine_dict (by rw [List.size_toArray, sizeLine_eq]; exact Nat.le_of_ble_eq_true rfl)) ?_)
  exact wpAny_pure (h _ U1 U2)
end
end Mine

namespace Mine
open PySem PySem.W PyProof.Rows PySem.Calls Builtin Builtin.ObjectAttr Builtin.Getset_descriptor
theorem tga_kind : builtinKind "tuple.__getattribute__" = some .slot := by decide +kernel
theorem tga_split : splitId "tuple.__getattribute__" = some ("tuple", "__getattribute__") := by decide +kernel
section
variable {prog : Program} {w : World} {A : Around} {K : Frag} {C x dx L : Addr} {h₀ : Heap} {m : Str → Option Value} {news news' : List (Addr × Obj)} {s : Shared} {E : Value → Shared → Prop} {ox : Obj} {od : Option Obj} {name : Str} {v : Value} {expr : Bool} {Q : Value → Shared → Prop}
def runFound (x C : Addr) (name : Str) : Found → Sem Fin
  | .value v => ret v
  | .bind g a => bindTo g a (.ref x) (.ref C)
  | .missing => noSuchAttribute (.ref x) name
theorem open_T {r : Found} (X : K.In s.heap) (I : InstAt s.heap x ox C od) (hga : findIn K (.ref C) "__getattribute__" = some (some (.builtin "tuple.__getattribute__"))) (hk : findIn K (.ref C) "__getattr__" = some none) (ht : subIn K (.ref C) (.type "tuple") = some true)
    (hf : findObj K C od name = some r) (hr : r ≠ .missing) (h : wpAny (model prog w) A.in1 (runFound x C name r) (fun fin s' => match fin with | .done (.ret v) => wpAny (model prog w) A (handedOut v) Q E s' | _ => False) (fun _ _ => False) { s with toks := s.toks + 1 }) :
    wpAny (model prog w) A (getAttr (.ref x) name expr) Q E s := by
  obtain ⟨hh, g, d, t, os⟩ := s
  have L0 := I.type (M := model prog w)
  have L1 := looks_findIn (M := model prog w) X hga
  have L2 := looks_findIn (M := model prog w) X hk
  have L3 : Looks (model prog w) hh (isInstance (.ref x) (.type "tuple")) true := L0.andThen (looks_subIn X ht)
  have L4 := looks_find (M := model prog w) X I hf
  unfold getAttr getAttrBy
  refine wpAny_bind (wpAny_mkText (wpAny_holding (wpAny_bind (L0.at (wpAny_bind (L1.at ?_))))))
  show wpAny _ _ (getAttrByItsOwn _ _ _ _ _ _) _ _ _
  unfold getAttrByItsOwn
  refine wpAny_bind (L2.at (wpAny_bind (wpAny_attempt (wpAny_holding ?_))))
  have e : callGetattribute (.ref x) (.str name t) (.builtin "tuple.__getattribute__") expr = boundAndCalled (.builtin "tuple.__getattribute__") (.ref x) (.str name t) := by
    unfold callGetattribute onTheHeap; cases expr <;> rfl
  rw [e]
  unfold boundAndCalled
  rw [PySem.F.slot_tuple_getattribute.bind]
  refine wpAny_bind (wpAny_pure (wpAny_call ?_))
  refine codeAny_call_builtin PySem.F.slot_tuple_getattribute.plain PySem.F.entry_tuple_ga (@check_slot (model prog w) _ _ _ "tuple.__getattribute__" "tuple" "__getattribute__" (.ref x) [.str name t] [] _ tga_kind tga_split L3 (PySem.F.args_tuple_getattribute_2 _ _) ?_)
  unfold Builtin.«object.__getattribute__»
  refine wpAny_bind (wpAny_pure (wpAny_bind (wpAny_pure (wpAny_bind (L0.at ?_)))))
  refine wpAny_bind (L4.at ?_)
  cases r with
  | value v =>
    refine wpAny_mono h (fun fin s' z => ?_) (fun e s' (z : False) => z.elim)
    rcases fin with (_ | _ | _ | _) | _ <;> first | exact z | exact z.elim
  | bind g a =>
    refine wpAny_mono h (fun fin s' z => ?_) (fun e s' (z : False) => z.elim)
    rcases fin with (_ | _ | _ | _) | _ <;> first | exact z | exact z.elim
  | missing => exact absurd rfl hr
theorem getT_own (F : Fr h₀ L s.heap m) (X₀ : K.In h₀) (I : InstAt s.heap x ox C od) (hga : findIn K (.ref C) "__getattribute__" = some (some (.builtin "tuple.__getattribute__"))) (hk : findIn K (.ref C) "__getattr__" = some none) (ht : subIn K (.ref C) (.type "tuple") = some true)
    (hf : findObj K C od name = some (.value v)) (hv : handedIn v = true) (h : Q v { s with toks := s.toks + 1 }) : wpAny (model prog w) A (getAttr (.ref x) name expr) Q E s :=
  open_T (X₀.keeps F.keep) I hga hk ht hf (by intro e; cases e) (wpAny_pure (handed_on hv h))
def GotBack (Q : Value → Shared → Prop) (v : Value) (s' : Shared) : Prop := handedIn v = true ∧ Q v s'
theorem gotBack_intro (hv : handedIn v = true) (h : Q v s) : GotBack Q v s := ⟨hv, h⟩
theorem getT_prop {p fget : Addr} {rest : List Value} {od : Obj} (F : Fr h₀ L s.heap m) (X₀ : K.In h₀) (I : InstAt s.heap x ox C (some od)) (hga : findIn K (.ref C) "__getattribute__" = some (some (.builtin "tuple.__getattribute__"))) (hk : findIn K (.ref C) "__getattr__" = some none) (ht : subIn K (.ref C) (.type "tuple") = some true)
    (hh : isClsIn K C = true) (ha : findIn K (.ref C) name = some (some (.ref p))) (hn : specialIn K (.ref p) "__get__" = some (some (.builtin "property.__get__"))) (hs : takesIn K (.ref p) = some true) (hp : recIn K p "property" = some (.ref fget :: rest))
    (h : codeAny (model prog w) A.in1 (.call (.ref fget) ⟨[.ref x], []⟩) (fun r s' => match r with | .ok (.ret v) => GotBack Q v s' | .ok _ => False | .error _ => False) { s with toks := s.toks + 1 }) :
    wpAny (model prog w) A (getAttr (.ref x) name expr) Q E s := by
  refine open_T (X₀.keeps F.keep) I hga hk ht (findObj_data hh ha hn hs) (by intro e; cases e) ?_
  show wpAny _ _ (holding [.ref p] (call (.builtin "property.__get__") [.ref p, .ref x, .ref C]) >>= ret) _ _ _
  refine wpAny_bind (wpAny_holding (wpAny_call (prop_get (s := { s with toks := s.toks + 1 }) (X₀.keeps F.keep) hp (codeAny_mono h fun r s' z => ?_))))
  rcases r with e | (v | _ | _ | _) <;> first | exact z.elim | exact wpAny_pure (handed_on z.1 z.2)
theorem item_T {value slice : Expr} {items : Array Value} {n : Nat} {sl : Array (Option Value)} {k : Int} {u : Tok} {j : Nat} {v : Value} (F : Fr h₀ L s.heap m) (X₀ : K.In h₀) (I : InstAt s.heap x ⟨.ref C, some dx, .seq items n, sl⟩ C od) (hq : noSeq K C = true)
    (hs : findIn K (.ref C) "__getitem__" = some (some (.builtin "tuple.__getitem__"))) (ht : subIn K (.ref C) (.type "tuple") = some true) (hlo : -(2 ^ 63) ≤ k) (hhi : k < 2 ^ 63) (hj : seqIndex? k items.size = some j) (hx : items[j]? = some v) (h : Q v s)
    (hsl : subscripted slice false (.ref x) (.int k u) = operate [.ref x, .int k u] (getItem (.ref x) (.int k u)) := by with_unfolding_all rfl) :
    wpAny (model prog w) A (subscriptTail value slice (.ref x) (.int k u)) Q E s := by
  have X := X₀.keeps F.keep
  have L3 : Looks (model prog w) s.heap (isInstance (.ref x) (.type "tuple")) true := I.type.andThen (looks_subIn X ht)
  have hg : wpAny (model prog w) A (getItem (.ref x) (.int k u)) Q E s := by
    unfold getItem sequenceKey
    refine wpAny_holding (wpAny_bind (wpAny_bind (I.type.here ?_)))
    refine wpAny_bind ((anyM_none X hq).here ?_)
    rw [if_pos (show (!false) = true from rfl)]
    refine wpAny_pure (wpAny_bind ?_)
    unfold callSpecial?
    refine wpAny_bind (wpAny_bind (I.type.here ((looks_findIn X hs).here (wpAny_holding (wpAny_bind ?_)))))
    rw [PySem.F.slot_tuple_getitem.bind]
    refine wpAny_pure (wpAny_bind (wpAny_call ?_))
    refine codeAny_call_builtin PySem.F.slot_tuple_getitem.plain PySem.F.entry_tuple_getitem (@check_slot (model prog w) _ _ _ "tuple.__getitem__" "tuple" "__getitem__" (.ref x) [.int k u] [] _ (by decide +kernel) (by decide +kernel) L3 (PySem.F.args_tuple_getitem_2 _ _) ?_)
    show wpAny _ _ (Builtin.Tuple.tupleItemsOf (.ref x) >>= _) _ _ s
    refine wpAny_bind (wpAny_tupleItemsOf I.at_ rfl ?_)
    refine wpAny_bind (wpAny_typeOf (typeIs_int s k u) ?_)
    rw [if_neg (by decide)]
    refine wpAny_bind (wpAny_specialOf (T := "int") (typeIs_int s k u) int_index ?_)
    rw [if_neg (by simp)]
    refine wpAny_bind (wpAny_of_eq (a := k) rfl ?_)
    rw [if_neg (by simp only [Bool.or_eq_true, decide_eq_true_eq]; omega)]
    simp only [hj, Option.bind_some, hx]
    exact wpAny_pure (wpAny_pure (wpAny_pure h))
  unfold subscriptTail getitemInPython
  refine wpAny_bind (wpAny_bind (wpAny_bind (I.type.here ((looks_findIn X hs).here ?_))))
  refine wpAny_pure ?_
  rw [hsl]
  exact wpAny_bind (wpAny_operating (wpAny_mono hg (fun r s₃ h₃ => wpAny_bind (wpAny_letTemporaryGo (wpAny_pure h₃))) fun _ _ x => x))
end
end Mine

namespace Mine
open PySem PySem.W PyProof.Rows PySem.Calls Builtin Builtin.ObjectAttr Builtin.Getset_descriptor
theorem tga_canon : Manifest.canonical "tuple.__getattribute__" = "object.__getattribute__" := by decide +kernel
section
variable {prog : Program} {w : World} {A A₀ : Around} {K : Frag} {C x dx L f : Addr} {base h₀ : Heap} {m mg mb : Str → Option Value} {news : List (Addr × Obj)} {s : Shared} {E : Value → Shared → Prop} {ox : Obj} {es : List DictEntry} {nn : Nat} {name : Str}
theorem method_T {pl : Sem Bool} {Q : Value × List Value → Shared → Prop} (F : Fr h₀ L s.heap m) (X₀ : K.In h₀) (I : InstAt s.heap x ox C (some (dictOf es nn))) (hd : ox.dict = some dx) (hga : findIn K (.ref C) "__getattribute__" = some (some (.builtin "tuple.__getattribute__"))) (hk : findIn K (.ref C) "__getattr__" = some none)
    (hf : findIn K (.ref C) name = some (some (.ref f))) (ht : isFn K (.ref f) = true) (hl : getL name es = some none) (h : Q (.ref f, [.ref x]) s) : wpAny (model prog w) A (getMethod (.ref x) name pl) Q E s := by
  have X := X₀.keeps F.keep
  have hdd := I.dict
  rw [hd] at hdd
  unfold getMethod specialOf
  refine wpAny_bind (wpAny_bind (I.type.here ((looks_findIn X hga).here ?_)))
  dsimp only
  rw [tga_canon, if_neg (by decide)]
  refine wpAny_bind (wpAny_bind (I.type.here ((looks_findIn X hk).here ?_)))
  refine wpAny_bind (wpAny_bind (I.type.here ((looks_findIn X hf).here (wpAny_bind ((looks_typeIn X (beq_iff_eq.mp ht)).here ?_)))))
  rw [if_neg (by decide +kernel)]
  refine wpAny_bind (wpAny_loadPart I.at_ ?_)
  rw [hd]
  refine wpAny_bind (wpAny_bind (wpAny_loadPart hdd ?_))
  rw [nsLook_of (r := none) (by rw [lookIn_dict]; exact hl)]
  exact wpAny_pure (wpAny_bind (wpAny_rule (wpAny_pure h)))
end
section
variable {prog : Program} {w : World} {A A₀ : Around} {s : Shared} {K : Frag} {base h₀ : Heap} {outer : List Env} {L : Addr} {m mg mb : Str → Option Value} {env : Env} {news : List (Addr × Obj)} {p : Program} {loose : List Str} {mean : ExcName → Option Value}
  {R : Result → Shared → Prop} {name qual : Str} {params : Arguments} {body : List Stmt} {scope : Scope} {dV kV doc pm cdv ct oc : Value} {an od : Option Addr} {osl : Array (Option Value)} {f : Addr} {args : Args} {items : List Value} {bs : Value → List (Str × Value)}
/-- the call of a def whose last parameter takes the rest: a tuple is made for it -/
theorem code_defV (B : Below A₀ base outer h₀) (F : Fr h₀ L s.heap m) (X₀ : K.In h₀) (N : News h₀ L s.heap news) (T : Top p loose mean mg mb h₀) (hA : A.frames = some (env :: outer)) (hf : env.frame = some L) (hke : env.scope.kind = .function)
    (ho : K.lookup f = some ⟨oc, od, .func (fnOf name qual params body scope dV kV doc pm an cdv ct), osl⟩) (hcd : codeIn K cdv qual = true) (hroom : A.depth < recursionLimit)
    (hbind : bindArgs (fnOf name qual params body scope dV kV doc pm an cdv ct) args = newTuple items >>= fun t => pure (bs t)) (hz : items.length ≤ 1000) (hloc : ∀ t, ∀ y ∈ bs t, scope.names.lookup y.1 = some .local)
    (h : ∀ D g L' h₁ tk, Fr h₀ L g m → Fr g L' h₁ (fun y => (bs (.ref D)).reverse.lookup y) → News g L' h₁ ((D, { cls := .type "tuple", data := .seq items.toArray }) :: news) → Below A base (env :: outer) g → K.In g → Top p loose mean mg mb g →
      wpAny (model prog w) (A.deeper (envOf qual scope L' f cdv)) (execs body (envOf qual scope L' f cdv))
        (fun fl s' => LeaveK h₀ L m g R (match fl with | .ret v => v | _ => .none) s')
        (fun e s' => wpAny (model prog w) (A.deeper (envOf qual scope L' f cdv)) (leaving (envOf qual scope L' f cdv) e) (fun _ s'' => R (.error e) s'') (fun e' s'' => R (.error e') s'') s')
        { s with heap := h₁, toks := tk })
    (hcell : ∀ x ∈ scope.names, x.2 ≠ .cell) (hco : scope.isCoroutine = false) (hgen : scope.isGenerator = false) (hk : scope.kind = .function) : codeAny (model prog w) A (.call (.ref f) args) R s := by
  have X := X₀.keeps F.keep
  refine codeAny_call_function (fd := fnOf name qual params body scope dV kV doc pm an cdv ct) (body := body) hroom (X _ _ ho) rfl hco hgen rfl (codeRec_of X hcd) ?_
  rw [hbind]
  refine wpAny_bind (wpAny_newTuple ?_ (by rw [sizeLine_eq]; omega))
  refine wpAny_pure ?_
  have F1 := F.push ({ cls := .type "tuple", data := .seq items.toArray } : Obj)
  have N1 := N.push F ({ cls := .type "tuple", data := .seq items.toArray } : Obj)
  generalize hs1 : ({ s with heap := s.heap.push { cls := .type "tuple", data := .seq items.toArray } } : Shared) = s1
  have e1 : s.heap.push { cls := .type "tuple", data := .seq items.toArray } = s1.heap := by rw [← hs1]
  rw [e1] at F1 N1
  obtain ⟨FG, BG, st, lv⟩ := groundX (R := R) (s := s1) B F1 N1 hA hf hke
  refine wpAny_newFunctionEnv hcell (hloc _) (fun h₁ hns hsb => ⟨(T.nolimit.keeps F1.keep).fresh _ hsb, codeAny_func ?_⟩) hk
  have hk₁ : ∀ b o, s1.heap.get? b = some o → h₁.get? b = some o := fun b o e => hsb.extBut b o (Nat.ne_of_lt (Heap.lt_size e)) (Heap.get?_push_of_some _ e)
  have z := h s.heap.objs.size _ s1.heap.objs.size h₁ (s1.toks + (bs (.ref s.heap.objs.size)).length) FG ⟨hns, fun b o e => hk₁ b o (of_hideAll _ e), Nat.le_of_eq (hideAll_size _ _)⟩
    (fun p hp => ⟨hk₁ _ _ (N1 p hp).1, Nat.ne_of_lt (Heap.lt_size (N1 p hp).1), hideAll_none _ (List.mem_map_of_mem hp)⟩) BG (X₀.keeps st) (T.keeps st)
  have e2 : ({ s with heap := h₁, toks := s1.toks + (bs (.ref s.heap.objs.size)).length } : Shared) = { s1 with heap := h₁, toks := s1.toks + (bs (.ref s.heap.objs.size)).length } := by rw [← hs1]
  rw [e2] at z
  exact wpAny_mono z (fun fl s' hl => lv _ _ hl) fun _ _ y => y
end
end Mine

namespace Mine
open PySem PySem.W PyProof.Rows PySem.Calls Builtin Builtin.ObjectAttr Builtin.Getset_descriptor PySem.SeqAt
section
variable {prog : Program} {w : World} {A A₀ : Around} {K : Frag} {C x dx L f : Addr} {base h₀ : Heap} {m mg mb : Str → Option Value} {news : List (Addr × Obj)} {s : Shared} {E : Value → Shared → Prop} {od : Option Obj} {name : Str}
theorem ne_T {D : Addr} {a1 b1 a2 b2 : Value} {n n2 : Nat} {sl : Array (Option Value)} {Q : Value → Shared → Prop} (hu : A.units < cLine) (F : Fr h₀ L s.heap m) (X₀ : K.In h₀) (N : News h₀ L s.heap news)
    (I : InstAt s.heap x ⟨.ref C, some dx, .seq #[a1, b1] n, sl⟩ C od) (hD : (D, ({ cls := .type "tuple", data := .seq #[a2, b2] n2 } : Obj)) ∈ news)
    (hs : findIn K (.ref C) "__ne__" = some (some (.builtin "tuple.__ne__"))) (ht : subIn K (.ref C) (.type "tuple") = some true) (hsub : subIn K (.type "tuple") (.ref C) = some false)
    (e1 : EqAt A.in1 s a1 a2 true) (e2 : EqAt A.in1 s b1 b2 true) (h : Q (.bool false) s) : wpAny (model prog w) A (compareOp .NotEq (.ref x) (.ref D)) Q E s := by
  have X := X₀.keeps F.keep
  have hT := (N _ hD).1
  have hx := I.at_
  have T := I.type (M := model prog w)
  have TD : Looks (model prog w) s.heap (typeOf (.ref D)) (.type "tuple") := (Looks.ld hT).andThen .now
  have L3 : Looks (model prog w) s.heap (isInstance (.ref x) (.type "tuple")) true := T.andThen (looks_subIn X ht)
  have run : wpAny (model prog w) A (call (.builtin "tuple.__ne__") [.ref x, .ref D]) (fun v s' => v = .bool false ∧ Q (.bool false) s') E s := by
    refine wpAny_call (codeAny_call_builtin PySem.F.slot_tuple_ne.plain PySem.F.entry_tuple_ne (@check_slot (model prog w) _ _ _ "tuple.__ne__" "tuple" "__ne__" (.ref x) [.ref D] [] _ (by decide +kernel) (by decide +kernel) L3 (PySem.F.args_tuple_ne_2 _ _) ?_))
    refine wpAny_bind (wpAny_pure ?_)
    have LD : Looks (model prog w) s.heap (isInstance (.ref D) (.type "tuple")) true := TD.andThen (Looks.of_pure sub_tuple_self)
    refine wpAny_bind (LD.here ?_)
    rw [if_neg (by decide)]
    refine wpAny_bind (wpAny_tupleItemsOf hx rfl (wpAny_bind (wpAny_tupleItemsOf hT rfl ?_)))
    show wpAny _ _ (forIn [(a1, a2), (b1, b2)] _ _ >>= _) _ _ _
    rw [List.forIn_cons]
    refine wpAny_bind (wpAny_bind (wpAny_bind (e1 _ _ _ _ ?_)))
    refine wpAny_pure ?_
    dsimp only
    rw [List.forIn_cons]
    refine wpAny_bind (wpAny_bind (e2 _ _ _ _ ?_))
    refine wpAny_pure ?_
    exact wpAny_pure (wpAny_pure ⟨rfl, h⟩)
  have one : wpAny (model prog w) A (tryCompare (.ref x) (cmpInfo .NotEq).2.1 (.ref D)) (fun r s' => r = some (.bool false) ∧ Q (.bool false) s') E s := by
    unfold tryCompare
    refine wpAny_bind ?_
    simp only [callSpecialIfBound?, bindSpecialIfBound?]
    refine wpAny_holding (wpAny_bind (wpAny_bind (wpAny_bind (T.here ((looks_findIn X hs).here ?_)))))
    refine wpAny_bind (wpAny_askSetting (wpAny_ite ?_))
    have fin : wpAny (model prog w) A (call (.builtin "tuple.__ne__") ([.ref x] ++ [.ref D]) >>= fun v => pure (some v)) (fun r s' => wpAny (model prog w) A (match r with | some .notImplemented | none => pure none | some v => pure (some v)) (fun r s' => r = some (.bool false) ∧ Q (.bool false) s') E s') E s :=
      wpAny_bind (wpAny_mono run (fun v s' z => by obtain ⟨rfl, z⟩ := z; exact wpAny_pure (wpAny_pure ⟨rfl, z⟩)) fun _ _ z => z)
    have bd := PySem.F.slot_tuple_ne.bind (.ref x)
    split
    · refine wpAny_bind ?_
      rw [bd]
      exact wpAny_pure (wpAny_pure (by exact fin))
    · refine wpAny_tryCatch (wpAny_bind ?_)
      rw [bd]
      exact wpAny_pure (wpAny_pure (by exact fin))
  show wpAny _ _ (richCompare .NotEq _ _) _ _ _
  unfold richCompare
  simp only [oneThing_ref]
  refine wpAny_holding (wpAny_bind (wpAny_cRoomFor hu ?_))
  refine wpAny_bind (T.here (wpAny_bind (TD.here ?_)))
  rw [if_pos (by rfl)]
  refine wpAny_bind ((looks_subIn X hsub).here ?_)
  simp only [Bool.false_eq_true, if_false]
  refine wpAny_bind (wpAny_mono one (fun r s' z => ?_) fun _ _ e => e)
  obtain ⟨rfl, hq⟩ := z
  exact wpAny_pure hq
end
end Mine

namespace Mine
open PySem PySem.W PyProof.Rows PySem.Calls Builtin Builtin.ObjectAttr Builtin.Getset_descriptor PySem.SeqAt
theorem cls_113 (P : Params) : PySem.Challenge.rw_bc6009_01.foot = PySem.Challenge.rw_bc6009_01.foot → ∃ oc od cd sl, (hd.heap_39 P).lookup 113 = some ⟨oc, od, .cls cd, sl⟩ ∧ (sl.toList[4]?).join = some .none ∧ cd.mro = [.ref 113, .type "tuple", .type "object"] ∧ cd.bases = [.type "tuple"] ∧ cd.slotNames = [] ∧ cd.hasDel = false := by
  k_fill
  intro _
  exact ⟨_, _, _, _, by k_dflt k_is, rfl, rfl, rfl, rfl, rfl⟩
theorem cls_141 (P : Params) : PySem.Challenge.rw_bc6009_01.foot = PySem.Challenge.rw_bc6009_01.foot → ∃ oc od cd sl, (hd.heap_39 P).lookup 141 = some ⟨oc, od, .cls cd, sl⟩ ∧ (sl.toList[4]?).join = some .none ∧ cd.mro = [.ref 141, .ref 113, .type "tuple", .type "object"] ∧ cd.bases = [.ref 113] ∧ cd.hasDel = false := by
  k_fill
  intro _
  exact ⟨_, _, _, _, by k_dflt k_is, rfl, rfl, rfl, rfl⟩
theorem own_113 (P : Params) : PySem.Challenge.rw_bc6009_01.foot = PySem.Challenge.rw_bc6009_01.foot → ∀ (M : Model) (h : Heap), (hd.heap_39 P).In h → Own M h 113 := by
  k_fill
  intro e M h X
  obtain ⟨oc, od, cd, sl, a1, a2, a3, a4, a5, a6⟩ := cls_113 P e
  exact own_of X a1 a2 a3 a6 (base_one X a1 a2 a3 a4) (by k_dflt k_is) (by k_dflt k_is) (by k_dflt k_is) (by k_dflt k_is) (by k_dflt k_is) (by k_dflt k_is)
theorem own_141 (P : Params) : PySem.Challenge.rw_bc6009_01.foot = PySem.Challenge.rw_bc6009_01.foot → ∀ (M : Model) (h : Heap), (hd.heap_39 P).In h → Own M h 141 := by
  k_fill
  intro e M h X
  obtain ⟨oc, od, cd, sl, a1, a2, a3, a4, a5, -⟩ := cls_113 P e
  obtain ⟨oc', od', cd', sl', b1, b2, b3, b4, b5⟩ := cls_141 P e
  exact own_of X b1 b2 b3 b5 (base_two X a1 a2 a3 a4 a5 b1 b2 b3 b4) (by k_dflt k_is) (by k_dflt k_is) (by k_dflt k_is) (by k_dflt k_is) (by k_dflt k_is) (by k_dflt k_is)
def eS (vl : Str) : Value → Bool
  | .str z _ => z == vl
  | _ => false
theorem strs_any (vl : Str) : ∀ {ys : List Value} {l : List Str}, StrsAre ys l → (∀ y ∈ ys, ∃ z t, y = Value.str z t) ∧ ys.any (eS vl) = l.any (· == vl)
  | _, _, .nil => ⟨fun y h => (nomatch h), rfl⟩
  | _, _, .cons x t r => by
    obtain ⟨a, b⟩ := strs_any vl r
    refine ⟨fun y h => ?_, ?_⟩
    · rcases List.mem_cons.mp h with rfl | h
      · exact ⟨_, _, rfl⟩
      · exact a y h
    · rw [List.any_cons, List.any_cons, b]; rfl
section
variable {prog : Program} {w : World} {A A₀ : Around} {K : Frag} {C x dx L f D : Addr} {base h₀ : Heap} {m mg mb : Str → Option Value} {news : List (Addr × Obj)} {s : Shared} {E : Value → Shared → Prop} {od : Option Obj} {name : Str}
theorem in_S {ys : List Value} {l : List Str} {n : Nat} {vl : Str} {t : Tok} {Q : Value → Shared → Prop} (N : News h₀ L s.heap news) (hD : (D, ({ cls := .type "tuple", data := .seq ys.toArray n } : Obj)) ∈ news) (hy : StrsAre ys l)
    (h : Q (.bool (l.any (· == vl))) s) : wpAny (model prog w) A (compareOp .In (.str vl t) (.ref D)) Q E s := by
  obtain ⟨a, b⟩ := strs_any vl hy
  have hT : s.heap.IsTuple D ys.toArray := ⟨_, (N _ hD).1, rfl, n, rfl⟩
  refine in_tupleAt (eS vl) hT (fun y hy' => ?_) ?_
  · obtain ⟨z, u, rfl⟩ := a y (by simpa using hy')
    exact EqAt.str_str z u vl t
  · rw [List.any_toArray, b]; exact h
theorem strs_len : ∀ {ys : List Value} {l : List Str}, StrsAre ys l → ys.length = l.length
  | _, _, .nil => rfl
  | _, _, .cons x t r => by rw [List.length_cons, List.length_cons, strs_len r]
theorem getT_pos {ox : Obj} {es : List DictEntry} {n : Nat} {v : Value} {attr : Option Value} {expr : Bool} {Q : Value → Shared → Prop} (F : Fr h₀ L s.heap m) (X₀ : K.In h₀) (I : InstAt s.heap x ox C (some (dictOf es n))) (hga : findIn K (.ref C) "__getattribute__" = some (some (.builtin "tuple.__getattribute__"))) (hk : findIn K (.ref C) "__getattr__" = some none) (ht : subIn K (.ref C) (.type "tuple") = some true)
    (hh : hasDictIn K C = true) (ha : findIn K (.ref C) name = some attr) (hn : noGet K attr = true) (hl : getL name es = some (some v)) (hv : handedIn v = true) (h : Q v { s with toks := s.toks + 1 }) : wpAny (model prog w) A (getAttr (.ref x) name expr) Q E s :=
  getT_own F X₀ I hga hk ht (findObj_own hh ha hn hl) hv h
theorem star_S {ys : List Value} {n : Nat} {Q : List Value → Shared → Prop} (F : Fr h₀ L s.heap m) (N : News h₀ L s.heap news) (hD : (D, ({ cls := .type "tuple", data := .seq ys.toArray n } : Obj)) ∈ news) (hz : ys.length ≤ 1000)
    (h : ∀ h', Fr h₀ L h' m → News h₀ L h' news → Q ys { s with heap := h' }) : StarOf (model prog w) A E (.ref D) Q s :=
  star_seq F N hD rfl rfl (.inr rfl) (by simp) (by rw [sizeLine_eq]; simp; omega) h
end
end Mine

namespace Mine
open PySem PySem.W PyProof.Rows PySem.Calls Builtin Builtin.ObjectAttr Builtin.Getset_descriptor PySem.SeqAt
theorem bind_V {fd : FuncData} {p1 p2 : Pos} {self va : Str} (hp : fd.params = { posonlyargs := [], args := [⟨self, none, p1⟩], vararg := some ⟨va, none, p2⟩, kwonlyargs := [], kw_defaults := [], kwarg := none, defaults := [] }) (hd : fd.defaults = .none) (x : Value) (ys : List Value) :
    bindArgs fd ⟨x :: ys, []⟩ = newTuple ys >>= fun t => pure [(self, x), (va, t)] := by
  obtain ⟨name, qual, params, body, scope, gl, cl, df, kwd, doc, pm, an, code, ct, bi⟩ := fd
  dsimp only at hp hd
  subst hp hd
  have e : seqItems? Value.none = pure none := by rfl
  unfold bindArgs
  simp only [List.map_nil, List.map_cons, List.nil_append, List.append_nil, List.length_cons, List.length_nil, Option.isNone_some, Bool.and_false, e, pure_bind, Bool.false_eq_true, if_false, List.zip_cons_cons]
  simp
/-- a name is bound to a new token -/
def CutT (C : Addr) (a b pl : Value) (y : Str) (base : Heap) (L : Addr) (m : Str → Option Value) (news : List (Addr × Obj)) (s : Shared) (f : Flow) (s' : Shared) : Prop :=
  f = .next ∧ ∃ x dx hs t h' tk', s' = { s with heap := h', toks := tk' } ∧ Fr base L h' (fun z => if z = y then some (.ref x) else m z) ∧
    News base L h' ((x, ⟨.ref C, some dx, .seq #[a, b] 0, #[]⟩) :: (dx, dictOf [⟨hs, .str (Str.ofString "pos") t, pl⟩] 1) :: news)
section
variable {base h' : Heap} {L C x dx : Addr} {m : Str → Option Value} {s : Shared} {news all : List (Addr × Obj)} {tk' : Nat} {a b pl : Value} {y : Str} {hs : Int} {t : Tok}
theorem cutT_intro (F : Fr base L h' (fun z => if z = y then some (.ref x) else m z)) (N : News base L h' ((x, ⟨.ref C, some dx, .seq #[a, b] 0, #[]⟩) :: (dx, dictOf [⟨hs, .str (Str.ofString "pos") t, pl⟩] 1) :: all)) (hsub : ∀ p ∈ news, p ∈ all) :
    CutT C a b pl y base L m news s .next { s with heap := h', toks := tk' } :=
  ⟨rfl, x, dx, hs, t, h', tk', rfl, F, fun p hp => N p (by
    rcases List.mem_cons.mp hp with rfl | hp
    · exact List.mem_cons_self
    · rcases List.mem_cons.mp hp with rfl | hp
      · exact List.mem_cons_of_mem _ List.mem_cons_self
      · exact List.mem_cons_of_mem _ (List.mem_cons_of_mem _ (hsub p hp)))⟩
theorem cut_T {M : Model} {A : Around} {tr : Sem Flow} {E : Value → Shared → Prop} {Q : Flow → Shared → Prop} (_ : Fr base L s.heap m) (_ : News base L s.heap news) (C : Addr) (a b pl : Value) (y : Str) (h1 : wpAny M A tr (CutT C a b pl y base L m news s) (fun _ _ => False) s)
    (h2 : ∀ x dx hs t h' tk', Fr base L h' (fun z => if z = y then some (.ref x) else m z) → News base L h' ((x, ⟨.ref C, some dx, .seq #[a, b] 0, #[]⟩) :: (dx, dictOf [⟨hs, .str (Str.ofString "pos") t, pl⟩] 1) :: news) → Q .next { s with heap := h', toks := tk' }) : wpAny M A tr Q E s :=
  wpAny_mono h1 (fun f s' ⟨e, x, dx, hs, t, h', tk', e', F', N'⟩ => by rw [e, e']; exact h2 x dx hs t h' tk' F' N') fun _ _ h => h.elim
/-- the same, with a first item that is made on the way -/
def CutE (C : Addr) (k : Str) (b pl : Value) (y : Str) (base : Heap) (L : Addr) (m : Str → Option Value) (news : List (Addr × Obj)) (s : Shared) (f : Flow) (s' : Shared) : Prop :=
  ∃ t, CutT C (.str k t) b pl y base L m news s f s'
theorem cut_E {M : Model} {A : Around} {tr : Sem Flow} {E : Value → Shared → Prop} {Q : Flow → Shared → Prop} (F : Fr base L s.heap m) (N : News base L s.heap news) (C : Addr) (k : Str) (b pl : Value) (y : Str) (h1 : wpAny M A tr (CutE C k b pl y base L m news s) (fun _ _ => False) s)
    (h2 : ∀ x dx hs t h' tk' te, Fr base L h' (fun z => if z = y then some (.ref x) else m z) → News base L h' ((x, ⟨.ref C, some dx, .seq #[.str k te, b] 0, #[]⟩) :: (dx, dictOf [⟨hs, .str (Str.ofString "pos") t, pl⟩] 1) :: news) → Q .next { s with heap := h', toks := tk' }) : wpAny M A tr Q E s :=
  wpAny_mono h1 (fun f s' ⟨te, e, x, dx, hs, t, h', tk', e', F', N'⟩ => by rw [e, e']; exact h2 x dx hs t h' tk' te F' N') fun _ _ h => h.elim
end
section
variable {prog : Program} {w : World} {A : Around} {K : Frag} {C x dx L : Addr} {h₀ : Heap} {m : Str → Option Value} {s : Shared} {E : Value → Shared → Prop} {od : Option Obj} {Q : Value → Shared → Prop}
theorem item_T0 {value slice : Expr} {a b : Value} {n : Nat} {sl : Array (Option Value)} {u : Tok} (F : Fr h₀ L s.heap m) (X₀ : K.In h₀) (I : InstAt s.heap x ⟨.ref C, some dx, .seq #[a, b] n, sl⟩ C od) (hq : noSeq K C = true)
    (hs : findIn K (.ref C) "__getitem__" = some (some (.builtin "tuple.__getitem__"))) (ht : subIn K (.ref C) (.type "tuple") = some true) (h : Q a s)
    (hsl : subscripted slice false (.ref x) (.int 0 u) = operate [.ref x, .int 0 u] (getItem (.ref x) (.int 0 u)) := by with_unfolding_all rfl) :
    wpAny (model prog w) A (subscriptTail value slice (.ref x) (.int 0 u)) Q E s := item_T (j := 0) F X₀ I hq hs ht (by decide) (by decide) rfl rfl h hsl
theorem item_T1 {value slice : Expr} {a b : Value} {n : Nat} {sl : Array (Option Value)} {u : Tok} (F : Fr h₀ L s.heap m) (X₀ : K.In h₀) (I : InstAt s.heap x ⟨.ref C, some dx, .seq #[a, b] n, sl⟩ C od) (hq : noSeq K C = true)
    (hs : findIn K (.ref C) "__getitem__" = some (some (.builtin "tuple.__getitem__"))) (ht : subIn K (.ref C) (.type "tuple") = some true) (h : Q b s)
    (hsl : subscripted slice false (.ref x) (.int 1 u) = operate [.ref x, .int 1 u] (getItem (.ref x) (.int 1 u)) := by with_unfolding_all rfl) :
    wpAny (model prog w) A (subscriptTail value slice (.ref x) (.int 1 u)) Q E s := item_T (j := 1) F X₀ I hq hs ht (by decide) (by decide) rfl rfl h hsl
end
end Mine

namespace Mine
open PySem PySem.W PyProof.Rows PySem.Calls Builtin Builtin.ObjectAttr Builtin.Getset_descriptor PySem.SeqAt
section
variable {prog : Program} {w : World} {A : Around} {K : Frag} {C x dx L f q : Addr} {h₀ : Heap} {m : Str → Option Value} {news : List (Addr × Obj)} {s : Shared} {E : Value → Shared → Prop} {od : Option Obj} {ox : Obj} {es : List DictEntry} {n : Nat} {name : Str} {expr : Bool} {Q : Value → Shared → Prop}
theorem methodCall_star {M : Model} {env : Env} {o e : Expr} {apos pos p : Pos} (h : wpAny M A (eval o env) (fun ov s₁ => wpAny M A (getAttr ov name true) (fun f s₂ => wpAny M A (callWith pos f [] (backTo pos (starEach [.Starred e p] env)) []) Q E s₂) E s₁) E s)
    (he : eval (.Call (.Attribute o name apos) [.Starred e p] [] pos) env = (do
      let ov ← eval o env
      standAt apos.atName
      let f ← holding [ov] (do pure (← getAttr ov name true, ([] : List Value)))
      callWith pos f.1 f.2 (backTo pos (starEach [.Starred e p] env)) []) := by rfl) :
    wpAny M A (eval (.Call (.Attribute o name apos) [.Starred e p] [] pos) env) Q E s := by
  rw [he]
  refine wpAny_bind (wpAny_mono h (fun ov s₁ h₁ => wpAny_bind (wpAny_standAt (wpAny_bind (wpAny_holding (wpAny_bind (wpAny_mono h₁ (fun fx s₂ h₂ => ?_) fun _ _ x => x)))))) fun _ _ x => x)
  exact wpAny_pure h₂
theorem findObj_fn {a g : Value} (hh : hasDictIn K C = true) (ha : findIn K (.ref C) name = some (some a)) (hg : specialIn K a "__get__" = some (some g)) (ht : takesIn K a = some false) (hc : copiedNames.contains name = false) (hl : getL name es = some none) :
    findObj K C (some (dictOf es n)) name = some (.bind g a) := by
  obtain ⟨cd, hc', hd⟩ := any_some hh
  unfold findObj
  have ho : W.ownOf cd (some (dictOf es n)) name = some none := by unfold W.ownOf; rw [if_pos hd]; exact hl
  rw [hc', Option.bind_some, ha, Option.bind_some]
  simp only [hg, ht, Option.bind_some, ho, hc, Bool.false_and, Bool.false_eq_true, if_false]
theorem getT_fn (F : Fr h₀ L s.heap m) (X₀ : K.In h₀) (N : News h₀ L s.heap news) (I : InstAt s.heap x ox C (some (dictOf es n))) (hga : findIn K (.ref C) "__getattribute__" = some (some (.builtin "tuple.__getattribute__"))) (hk : findIn K (.ref C) "__getattr__" = some none) (ht : subIn K (.ref C) (.type "tuple") = some true)
    (hh : hasDictIn K C = true) (ha : findIn K (.ref C) name = some (some (.ref f))) (hg : specialIn K (.ref f) "__get__" = some (some (.builtin "function.__get__"))) (hs : takesIn K (.ref f) = some false) (hf : isFn K (.ref f) = true) (hc : copiedNames.contains name = false) (hl : getL name es = some none)
    (h : ∀ q h', Fr h₀ L h' m → News h₀ L h' ((q, methodObj (.ref f) (.ref x)) :: news) → (∀ p ∈ news, p.1 < q) → Q (.ref q) { s with heap := h', toks := s.toks + 1 }) : wpAny (model prog w) A (getAttr (.ref x) name expr) Q E s := by
  refine open_T (X₀.keeps F.keep) I hga hk ht (findObj_fn hh ha hg hs hc hl) (by intro e; cases e) ?_
  show wpAny _ _ (holding [.ref f] (call (.builtin "function.__get__") [.ref f, .ref x, .ref C]) >>= ret) _ _ _
  refine wpAny_bind (wpAny_holding (wpAny_call (fn_get (s := { s with toks := s.toks + 1 }) (X₀.keeps F.keep) (beq_iff_eq.mp hf) ?_)))
  exact wpAny_pure (handed_on rfl (h s.heap.objs.size _ (F.push _) (N.push F _) fun p hp => Heap.lt_size (N p hp).1))
theorem callWith_SM {M : Model} {env : Env} {pos p : Pos} {first : List Value} {self : Value} {e : Expr} (_X : K.In h₀) (_N : News h₀ L s.heap news) (_q : (q, methodObj (.ref f) self) ∈ news) (hk : fnIn K f = true)
    (h : wpAny M A (eval e env) (fun v s₁ => StarOf M A E v (fun vs s₂ => MethP K q f self s₂.heap ∧ wpAny M A (call (.ref q) (first ++ vs)) Q E s₂) s₁) E s)
    (he : starEach [.Starred e p] env = [(true, eval e env)] := by rfl) :
    wpAny M A (callWith pos (.ref q) first (backTo pos (starEach [.Starred e p] env)) []) Q E s := by
  rw [he]
  exact ks_call rfl (keeps_M hk) (ks_lone h)
end
end Mine

namespace Mine
open PySem PySem.W PyProof.Rows
def OP (_ : Flow) (_ : Shared) : Prop := True
def Text0 (v : Value) : Prop := ∃ x t, v = .str x t ∧ (∀ c ∈ x.cps.toList, c ∈ Sg) ∧ x.cps.toList ≠ [] ∧ x.cps.toList.length ≤ 12
def Text1 (v : Value) : Prop := ∃ x t, v = .str x t ∧ TextOk x
/-- v is bound in its cell: three ints -/
def CutV (base : Heap) (L : Addr) (m : Str → Option Value) (s : Shared) (f : Flow) (s' : Shared) : Prop :=
  f = .next ∧ ∃ D a b c ta tb tc o h' tk', s' = { s with heap := h', toks := tk' } ∧ Fr base L h' m ∧ News base L h' [(D, listOf [.int a ta, .int b tb, .int c tc].toArray 0), (L + 1, o)] ∧ o.data = .cell (some (.ref D)) ∧ @LT.lt Nat _ (L + 1) D
theorem cutV_intro {base h' : Heap} {L D : Addr} {m : Str → Option Value} {s : Shared} {ws : List Value} {ns : List Int} {o : Obj} {all : List (Addr × Obj)} {tk' : Nat} (hI : IntsAre ws (List.take 3 (ns ++ [1, 2, 3]))) (F : Fr base L h' m) (N : News base L h' all) (hm : (D, listOf ws.toArray 0) ∈ all) (hc : (L + 1, o) ∈ all)
    (hd : o.data = .cell (some (.ref D))) (hl : @LT.lt Nat _ (L + 1) D) : CutV base L m s .next { s with heap := h', toks := tk' } := by
  have hlen : (List.take 3 (ns ++ [1, 2, 3])).length = 3 := by simp
  generalize List.take 3 (ns ++ [1, 2, 3]) = l at hI hlen
  match l, hlen with
  | [a, b, c], _ =>
    cases hI with
    | cons _ ta hI => cases hI with
      | cons _ tb hI => cases hI with
        | cons _ tc hI =>
          cases hI
          refine ⟨rfl, D, a, b, c, ta, tb, tc, o, h', tk', rfl, F, fun p hp => ?_, hd, hl⟩
          rcases List.mem_cons.mp hp with rfl | hp
          · exact N _ hm
          · rw [List.mem_singleton.mp hp]; exact N _ hc
theorem cut_V {M : Model} {A : Around} {t : Sem Flow} {E : Value → Shared → Prop} {s : Shared} {Q : Flow → Shared → Prop} {base : Heap} {L : Addr} {m : Str → Option Value} {news : List (Addr × Obj)} (_ : Fr base L s.heap m) (_ : News base L s.heap news) (h1 : wpAny M A t (CutV base L m s) (fun _ _ => False) s)
    (h2 : ∀ D a b c ta tb tc o h' tk', Fr base L h' m → News base L h' [(D, listOf [.int a ta, .int b tb, .int c tc].toArray 0), (L + 1, o)] → o.data = .cell (some (.ref D)) → @LT.lt Nat _ (L + 1) D → Q .next { s with heap := h', toks := tk' }) : wpAny M A t Q E s :=
  wpAny_mono h1 (fun f s' ⟨e, D, a, b, c, ta, tb, tc, o, h', tk', e', F', N', hd, hl⟩ => by rw [e, e']; exact h2 D a b c ta tb tc o h' tk' F' N' hd hl) fun _ _ h => h.elim
/-- kind, value, place are bound: two short texts and an int -/
def Cut7 (base : Heap) (L : Addr) (m : Str → Option Value) (news : List (Addr × Obj)) (s : Shared) (f : Flow) (s' : Shared) : Prop :=
  f = .next ∧ ∃ kd vl pl tkd tvl tpl h' tk', kd.length ≤ 10 ∧ vl.length ≤ 10 ∧ s' = { s with heap := h', toks := tk' } ∧
    Fr base L h' (fun y => if y = Str.ofString "kind" then some (.str kd tkd) else if y = Str.ofString "value" then some (.str vl tvl) else if y = Str.ofString "place" then some (.int pl tpl) else m y) ∧ News base L h' news
theorem cut7_intro {base h' : Heap} {L : Addr} {m : Str → Option Value} {s : Shared} {kd vl : Str} {pl : Int} {tkd tvl tpl : Tok} {news : List (Addr × Obj)} {tk' : Nat} (h1 : kd.length ≤ 10) (h2 : vl.length ≤ 10)
    (F : Fr base L h' (fun y => if y = Str.ofString "kind" then some (.str kd tkd) else if y = Str.ofString "value" then some (.str vl tvl) else if y = Str.ofString "place" then some (.int pl tpl) else m y)) (N : News base L h' news) : Cut7 base L m news s .next { s with heap := h', toks := tk' } :=
  ⟨rfl, kd, vl, pl, tkd, tvl, tpl, h', tk', h1, h2, rfl, F, N⟩
theorem cut_7 {M : Model} {A : Around} {t : Sem Flow} {E : Value → Shared → Prop} {s : Shared} {Q : Flow → Shared → Prop} {base : Heap} {L : Addr} {m : Str → Option Value} {news : List (Addr × Obj)} (_ : Fr base L s.heap m) (_ : News base L s.heap news) (h1 : wpAny M A t (Cut7 base L m news s) (fun _ _ => False) s)
    (h2 : ∀ kd vl pl tkd tvl tpl h' tk', kd.length ≤ 10 → vl.length ≤ 10 → Fr base L h' (fun y => if y = Str.ofString "kind" then some (.str kd tkd) else if y = Str.ofString "value" then some (.str vl tvl) else if y = Str.ofString "place" then some (.int pl tpl) else m y) → News base L h' news → Q .next { s with heap := h', toks := tk' }) : wpAny M A t Q E s :=
  wpAny_mono h1 (fun f s' ⟨e, kd, vl, pl, tkd, tvl, tpl, h', tk', hk, hv, e', F', N'⟩ => by rw [e, e']; exact h2 kd vl pl tkd tvl tpl h' tk' hk hv F' N') fun _ _ h => h.elim
/-- asked is bound: a tuple of short texts -/
def Cut8 (base : Heap) (L : Addr) (m : Str → Option Value) (s : Shared) (f : Flow) (s' : Shared) : Prop :=
  f = .next ∧ ∃ D ys l h' tk', (∀ z ∈ l, z.length ≤ 10) ∧ l.length ≤ 7 ∧ StrsAre ys l ∧ s' = { s with heap := h', toks := tk' } ∧
    Fr base L h' (fun y => if y = Str.ofString "asked" then some (.ref D) else m y) ∧ News base L h' [(D, { cls := .type "tuple", data := .seq ys.toArray })]
theorem cut8_intro {base h' : Heap} {L D : Addr} {m : Str → Option Value} {s : Shared} {ys : List Value} {l : List Str} {all : List (Addr × Obj)} {tk' : Nat} (F : Fr base L h' (fun y => if y = Str.ofString "asked" then some (.ref D) else m y)) (N : News base L h' ((D, { cls := .type "tuple", data := .seq ys.toArray }) :: all))
    (hy : StrsAre ys l) (h1 : ∀ z ∈ l, z.length ≤ 10) (h2 : l.length ≤ 7) : Cut8 base L m s .next { s with heap := h', toks := tk' } :=
  ⟨rfl, D, ys, l, h', tk', h1, h2, hy, rfl, F, fun p hp => N p (by rw [List.mem_singleton.mp hp]; exact List.mem_cons_self)⟩
theorem cut_8 {M : Model} {A : Around} {t : Sem Flow} {E : Value → Shared → Prop} {s : Shared} {Q : Flow → Shared → Prop} {base : Heap} {L : Addr} {m : Str → Option Value} {news : List (Addr × Obj)} (_ : Fr base L s.heap m) (_ : News base L s.heap news) (h1 : wpAny M A t (Cut8 base L m s) (fun _ _ => False) s)
    (h2 : ∀ D ys l h' tk', (∀ z ∈ l, z.length ≤ 10) → l.length ≤ 7 → StrsAre ys l → Fr base L h' (fun y => if y = Str.ofString "asked" then some (.ref D) else m y) → News base L h' [(D, { cls := .type "tuple", data := .seq ys.toArray })] → Q .next { s with heap := h', toks := tk' }) : wpAny M A t Q E s :=
  wpAny_mono h1 (fun f s' ⟨e, D, ys, l, h', tk', a, b, c, e', F', N'⟩ => by rw [e, e']; exact h2 D ys l h' tk' a b c F' N') fun _ _ h => h.elim
theorem text0_list {l : List Nat} {t : Tok} (hl : ∀ c ∈ l, c ∈ Sg) (hne : (((⟨l.toArray⟩ : Str).length : Nat) : Int) ≠ 0) (hz : l.length ≤ 12) : Text0 (.str ⟨l.toArray⟩ t) :=
  ⟨_, t, rfl, hl, fun e => hne (by have : l = [] := e; subst this; rfl), hz⟩
theorem text0_ab {t : Tok} : Text0 (.str (Str.ofString "ab") t) := ⟨_, t, rfl, by decide, by decide, by decide⟩
section
variable {M : Model} {A : Around} {E : Value → Shared → Prop} {s : Shared} {Q : Value → Shared → Prop}
theorem isNot_mv {b : Bool} {a : Addr} (h : Q (.bool b) s) : wpAny M A (compareOp .IsNot (mv b a) .none) Q E s := by
  cases b
  · exact wpAny_bind (wpAny_pure (wpAny_pure h))
  · exact wpAny_bind (wpAny_pure (wpAny_pure h))
end
theorem last_sign {x : Str} (h : x.cps.toList ≠ []) : Txt.item x (-1) = ⟨#[x.cps.toList.getLast h]⟩ := by
  have hp : 1 ≤ x.length := by have h0 := List.length_pos_iff.mpr h; simp at h0; exact h0
  have e : Txt.charAt x (-1) = some (x.cps.toList.getLast h) := by
    unfold Txt.charAt
    have e1 : seqIndex? (-1) x.length = some (x.length - 1) := by
      have h1 : (decide (0 ≤ (-1 : Int) + (x.length : Int)) && decide ((-1 : Int) + (x.length : Int) < (x.length : Int))) = true := by rw [Bool.and_eq_true, decide_eq_true_eq, decide_eq_true_eq]; omega
      show (if (decide (0 ≤ (-1 : Int) + (x.length : Int)) && decide ((-1 : Int) + (x.length : Int) < (x.length : Int))) = true then some ((-1 : Int) + (x.length : Int)).toNat else none) = _
      rw [if_pos h1]
      congr 1; omega
    rw [e1]
    show x.cps[x.length - 1]? = _
    rw [← Array.getElem?_toList, ← List.getLast?_eq_some_getLast h, List.getLast?_eq_getElem?]
    simp [Str.length]
  unfold Txt.item
  rw [e]; rfl
theorem text1_plain {x : Str} {t : Tok} (h1 : ∀ c ∈ x.cps.toList, c ∈ Sg) (h2 : x.cps.toList ≠ []) (h3 : x.cps.toList.length ≤ 12) (e : (Txt.item x (-1) == Str.ofString "\n") = false) : Text1 (.str x t) := by
  refine ⟨x, t, rfl, h1, h2, by omega, ?_⟩
  rw [last_sign h2] at e
  intro hl
  rw [List.getLast?_eq_some_getLast h2] at hl
  rw [Option.some.inj hl] at e
  exact absurd e (by decide)
theorem text1_more {x : Str} {t : Tok} (h1 : ∀ c ∈ x.cps.toList, c ∈ Sg) (h2 : x.cps.toList ≠ []) (h3 : x.cps.toList.length ≤ 12) : Text1 (.str (x ++ Str.ofString "x") t) := by
  have e : (x ++ Str.ofString "x").cps.toList = x.cps.toList ++ [120] := by rw [Str.cps_append, Array.toList_append]; rfl
  refine ⟨_, t, rfl, ?_, ?_, ?_, ?_⟩ <;> rw [e]
  · intro c hc
    rcases List.mem_append.mp hc with h | h
    · exact h1 c h
    · rw [List.mem_singleton.mp h]; decide
  · simp
  · simp; simp at h3; omega
  · simp
local macro_rules | `(tactic| walk_at "subscriptTail") => `(tactic| ((with_reducible show wpAny _ _ (subscriptTail _ _ (Value.str _ _) _) _ _ _); refine KXi.item rfl (by omega) (by omega) (by omega) ?_; intro _))
local macro_rules | `(tactic| walk_at "call ref") => `(tactic| (k_here; (with_reducible show wpAny _ _ (call (Value.ref 52) _) _ _ _); k_dflt (refine' use_A (c_ascii_lower _ _ (by assumption)) (by k_asm) (by k_asm) (by k_asm) (by k_asm) (by k_asm) ?kK ?kd ?ku ?_; (case kK => rfl); (case kd => ktr_room); (case ku => ktr_units)); intro b' t' h' tk' F' N'))
local macro_rules | `(tactic| walk_at "call ref") => `(tactic| (k_here; (with_reducible show wpAny _ _ (call (Value.ref 184) _) _ _ _); k_dflt (refine' use_A (c_small _ _ (by assumption)) (by k_asm) (by k_asm) (by k_asm) (by k_asm) (by k_asm) ?kK ?kd ?ku ?_; (case kK => rfl); (case kd => ktr_room); (case ku => ktr_units)); intro b' t' h' tk' F' N'))
local macro_rules | `(tactic| walk_at "call ref") => `(tactic| (k_here; (with_reducible show wpAny _ _ (call (Value.ref 156) _) _ _ _); k_dflt (refine' use_A (c_safe _ _ (by assumption)) (by k_asm) (by k_asm) (by k_asm) (by k_asm) (by k_asm) ?kK ?kd ?ku ?_; (case kK => rfl); (case kd => ktr_room); (case ku => ktr_units)); intro b' t' h' tk' F' N'))
local macro_rules | `(tactic| walk_at "call ref") => `(tactic| (k_here; (with_reducible show wpAny _ _ (call (Value.ref 168) _) _ _ _); k_dflt (refine' use_A (c_blank _ _ (by assumption)) (by k_asm) (by k_asm) (by k_asm) (by k_asm) (by k_asm) ?kK ?kd ?ku ?_; (case kK => rfl); (case kd => ktr_room); (case ku => ktr_units)); intro b' t' h' tk' F' N'))
local macro_rules | `(tactic| walk_at "call ref") => `(tactic| (k_here; (with_reducible show wpAny _ _ (call (Value.ref 189) _) _ _ _); k_dflt (refine' use_A (c_lsafe _ _ (by assumption)) (by k_asm) (by k_asm) (by k_asm) (by k_asm) (by k_asm) ?kK ?kd ?ku ?_; (case kK => rfl); (case kd => ktr_room); (case ku => ktr_units)); intro b' t' h' tk' F' N'))
local macro_rules | `(tactic| walk_at "call ref") => `(tactic| (k_here; (with_reducible show wpAny _ _ (call (Value.ref 194) _) _ _ _); k_dflt (refine' use_A (c_lword _ _ (by assumption)) (by k_asm) (by k_asm) (by k_asm) (by k_asm) (by k_asm) ?kK ?kd ?ku ?_; (case kK => rfl); (case kd => ktr_room); (case ku => ktr_units)); intro b' t' h' tk' F' N'))
local macro_rules | `(tactic| walk_at "call ref") => `(tactic| (k_here; (with_reducible show wpAny _ _ (call (Value.ref 156) _) _ _ _); k_dflt (refine' use_A (c_safe0 _) (by k_asm) (by k_asm) (by k_asm) (by k_asm) (by k_asm) ?kK ?kd ?ku ?_; (case kK => rfl); (case kd => ktr_room); (case ku => ktr_units)); intro b' t' h' tk' F' N'))
local macro_rules | `(tactic| walk_at "call ref") => `(tactic| (k_here; (with_reducible show wpAny _ _ (call (Value.ref 168) _) _ _ _); k_dflt (refine' use_A (c_blank0 _) (by k_asm) (by k_asm) (by k_asm) (by k_asm) (by k_asm) ?kK ?kd ?ku ?_; (case kK => rfl); (case kd => ktr_room); (case ku => ktr_units)); intro b' t' h' tk' F' N'))
local macro_rules | `(tactic| walk_at "compareOp IsNot") => `(tactic| refine isNot_mv ?_)
local macro_rules | `(tactic| walk_at "call ref") => `(tactic| (k_here; (with_reducible show wpAny _ _ (call (Value.ref 177) _) _ _ _); k_dflt (refine' use_S (c_sign _ _) (by k_asm) (by k_asm) (by k_asm) (by k_asm) (by k_asm) ?kK ?kd ?ku ?_; (case kK => rfl); (case kd => ktr_room); (case ku => ktr_units)); intro c' hc' t' h' tk' F' N'))
local macro_rules | `(tactic| walk_at "CompSrc") => `(tactic| (k_here; k_dflt (refine src_signs (by rfl) (by k_asm) (by k_asm) (by k_mem) (by assumption) (by omega) ?turn ?fin); (case' turn => intro k' t' I' oI' C' oC' D' m' ys' h' tk' E' hC' hx' F' N' off' ne'); (case' fin => intro D' ys' h' tk' l' hl' hll' hy' F' N')))
local macro_rules | `(tactic| walk_at "SignEnd") => `(tactic| exact signEnd_intro (by assumption) (by k_asm) (by k_asm))
local macro_rules | `(tactic| walk_at "call builtin:str.join") => `(tactic| (k_here; k_dflt (refine join_sg (by k_asm) (by k_mem) (by assumption) (by omega) ?_); intro t' k'))
local macro_rules | `(tactic| walk_at "subscriptTail") => `(tactic| (k_here; (with_reducible show wpAny _ _ (subscriptTail _ _ (Value.ref _) (Value.int (_ * _) _)) _ _ _); k_dflt (refine' item_short (N := 6) (by k_asm) (by k_asm) ?k1 ?k2 ?k3 ?k4 ?kN ?k5 ?k6 ?k7 ?_; (case k1 => k_is); (case k2 => rfl); (case k3 => rfl); (case k4 => repeat (first | exact Shorts.nil | refine Shorts.cons _ _ (by decide) ?_)); (case kN => rfl); (case k5 => with_reducible exact idx_lo _ _); (case k6 => with_reducible exact idx_hi _ _); (case k7 => with_reducible exact idx_fit _ _)); intro x' hx' t'))
local macro_rules | `(tactic| walk_at "subscriptTail") => `(tactic| (k_here; (with_reducible show wpAny _ _ (subscriptTail _ _ (Value.ref _) (Value.int (Int.fmod _ 7) _)) _ _ _); k_dflt (refine' item_short (N := 7) (by k_asm) (by k_asm) ?k1 ?k2 ?k3 ?k4 ?kN ?k5 ?k6 ?k7 ?_; (case k1 => k_is); (case k2 => rfl); (case k3 => rfl); (case k4 => repeat (first | exact Shorts.nil | refine Shorts.cons _ _ (by decide) ?_)); (case kN => rfl); (case k5 => with_reducible exact id7_lo _); (case k6 => with_reducible exact id7_hi _); (case k7 => with_reducible exact id7_fit _)); intro x' hx' t'))
local macro_rules | `(tactic| walk_at "subscriptTail") => `(tactic| (k_here; (with_reducible show wpAny _ _ (subscriptTail _ _ (Value.ref 170) (Value.int _ _)) _ _ _); k_dflt (refine' item_short (N := 7) (by k_asm) (by k_asm) ?k1 ?k2 ?k3 ?k4 ?kN ?k5 ?k6 ?k7 ?_; (case k1 => k_is); (case k2 => rfl); (case k3 => rfl); (case k4 => repeat (first | exact Shorts.nil | refine Shorts.cons _ _ (by decide) ?_)); (case kN => rfl); (case k5 => omega); (case k6 => omega); (case k7 => omega)); intro x' hx' t'))
local macro_rules | `(tactic| walk_at "CompSrcT") => `(tactic| (k_here; k_dflt (refine src_pick (by rfl) (by k_asm) (by k_asm) (by assumption) ?test ?elem ?fin); (case' test => intro k' t' I' oI' C' oC' D' m' ys' h' tk' E' hk0' hk1' hC' hx' F' N' off' ne'); (case' elem => intro k' t' I' oI' C' oC' D' m' ys' h' tk' E' hk0' hk1' hC' hx' F' N' off' ne'); (case' fin => intro D' ys' h' tk' l' hl' hll' hy' F' N')))
local macro_rules | `(tactic| walk_at "AnyEnd") => `(tactic| exact anyEnd_intro (by k_asm) (by k_asm))
local macro_rules | `(tactic| walk_at "ShortEnd") => `(tactic| exact shortEnd_intro (by assumption) (by k_asm) (by k_asm))
theorem str_same {A : Around} {s : Shared} (x : Str) (t u : Tok) : PySem.SeqAt.EqAt A s (.str x t) (.str x u) true := by have := PySem.SeqAt.EqAt.str_str (A := A) (s := s) x t x u; rwa [beq_self_eq_true] at this
theorem stub_tuple : Manifest.isStub "tuple" = false := by decide +kernel
local macro_rules | `(tactic| walk_at "getMethod type:tuple") => `(tactic| (k_here; (with_reducible refine' method_type ?F ?X PyProof.Rows.meta_tuple stub_tuple ?e ?h ?_); (case F => k_asm); (case X => k_asm); (case e => k_dflt k_is); (case h => rfl)))
local macro_rules | `(tactic| walk_at "exec If") => `(tactic| (k_here; with_reducible refine wpAny_If ?_))
local macro_rules | `(tactic| k_inst) => `(tactic| (refine' inst_T ?N ?h1 ?h2; (case N => k_asm); (case h1 => k_mem); (case h2 => k_mem)))
local macro_rules | `(tactic| walk_at "call ref") => `(tactic| (k_here; (with_reducible show wpAny _ _ (call (Value.ref 113) _) _ _ _); k_dflt (refine' call_T ?k1 ?k2 ?k3 ?k4 ?k5 ?k6 ?k7 ?_; (case k1 => k_asm); (case k2 => k_asm); (case k3 => exact own_113 _ rfl _); (case k4 => k_is); (case k5 => k_is); (case k6 => k_is); (case k7 => rfl); k_whole); k_dflt (refine wpAny_call ?_; k_enter)))
local macro_rules | `(tactic| walk_at "call ref") => `(tactic| (k_here; (with_reducible show wpAny _ _ (call (Value.ref 141) _) _ _ _); k_dflt (refine' call_T ?k1 ?k2 ?k3 ?k4 ?k5 ?k6 ?k7 ?_; (case k1 => k_asm); (case k2 => k_asm); (case k3 => exact own_141 _ rfl _); (case k4 => k_is); (case k5 => k_is); (case k6 => k_is); (case k7 => rfl); k_whole); k_dflt (refine wpAny_call ?_; k_enter)))
local macro_rules | `(tactic| walk_at "call builtin:tuple.__new__") => `(tactic| (k_here; (with_reducible show wpAny _ _ (call _ [Value.ref 113, _]) _ _ _); k_dflt (refine' call_tnew ?k1 ?k2 ?k3 ?k4 ?k5 ?k6 ?_; (case k1 => k_asm); (case k2 => k_asm); (case k3 => k_asm); (case k4 => exact own_113 _ rfl _); (case k5 => k_mem); (case k6 => exact Nat.le_of_ble_eq_true rfl); k_whole); intro x' d' h' F' N' l1 l2; (try k_lt l1); (try k_lt2 l2); (try k_sweep)))
local macro_rules | `(tactic| walk_at "call builtin:tuple.__new__") => `(tactic| (k_here; (with_reducible show wpAny _ _ (call _ [Value.ref 141, _]) _ _ _); k_dflt (refine' call_tnew ?k1 ?k2 ?k3 ?k4 ?k5 ?k6 ?_; (case k1 => k_asm); (case k2 => k_asm); (case k3 => k_asm); (case k4 => exact own_141 _ rfl _); (case k5 => k_mem); (case k6 => exact Nat.le_of_ble_eq_true rfl); k_whole); intro x' d' h' F' N' l1 l2; (try k_lt l1); (try k_lt2 l2); (try k_sweep)))
local macro_rules | `(tactic| walk_at "setAttr ref") => `(tactic| (k_here; k_dflt (refine' set_T ?k1 ?k2 ?k3 ?k4 ?k5 ?k6 ?k7 ?k8 ?k9 ?k10 ?k11 ?k12 ?_; (case k1 => k_asm); (case k2 => k_asm); (case k3 => k_asm); (case k4 => k_inst); (case k5 => exact rfl); (case k6 => k_is); (case k7 => k_is); (case k8 => rfl); (case k9 => rfl); (case k10 => k_is); (case k11 => k_is); (case k12 => k_upd); k_whole); intro h' F' N'; (try k_sweep)))
local macro_rules | `(tactic| walk_at "MadeBack") => `(tactic| (k_dflt (refine' madeBack_intro ?k1 ?k2 ?k3 ?_; (case k1 => k_asm); (case k2 => k_asm); (case k3 => k_inst))))
local macro_rules | `(tactic| walk_at "getAttr ref") => `(tactic| (k_here; k_dflt (refine' getT_pos ?k1 ?k2 ?k3 ?k4 ?k5 ?k6 ?k7 ?k8 ?k9 ?ka ?kb ?_; (case k1 => k_asm); (case k2 => k_asm); (case k3 => k_inst); (case k4 => k_is); (case k5 => k_is); (case k6 => k_is); (case k7 => k_is); (case k8 => k_is); (case k9 => k_is); (case ka => k_get); (case kb => rfl); k_whole)))
local macro_rules | `(tactic| walk_at "getAttr ref") => `(tactic| (k_here; k_dflt (refine' getT_prop ?k1 ?k2 ?k3 ?k4 ?k5 ?k6 ?k7 ?k8 ?k9 ?ka ?kb ?_; (case k1 => k_asm); (case k2 => k_asm); (case k3 => k_inst); (case k4 => k_is); (case k5 => k_is); (case k6 => k_is); (case k7 => k_is); (case k8 => k_is); (case k9 => k_is); (case ka => k_is); (case kb => k_is); k_whole; k_enter)))
local macro_rules | `(tactic| walk_at "GotBack") => `(tactic| refine gotBack_intro rfl ?_)
local macro_rules | `(tactic| walk_at "subscriptTail Name") => `(tactic| (k_here; (with_reducible show wpAny _ _ (subscriptTail _ _ (Value.ref _) (Value.int 0 _)) _ _ _); k_dflt (refine' item_T0 ?k1 ?k2 ?k3 ?k4 ?k5 ?k6 ?_; (case k1 => k_asm); (case k2 => k_asm); (case k3 => k_inst); (case k4 => k_is); (case k5 => k_is); (case k6 => k_is); k_whole)))
local macro_rules | `(tactic| walk_at "subscriptTail Name") => `(tactic| (k_here; (with_reducible show wpAny _ _ (subscriptTail _ _ (Value.ref _) (Value.int 1 _)) _ _ _); k_dflt (refine' item_T1 ?k1 ?k2 ?k3 ?k4 ?k5 ?k6 ?_; (case k1 => k_asm); (case k2 => k_asm); (case k3 => k_inst); (case k4 => k_is); (case k5 => k_is); (case k6 => k_is); k_whole)))
local macro_rules | `(tactic| walk_at "getMethod ref") => `(tactic| (k_here; k_dflt (refine' method_T ?k1 ?k2 ?k3 ?k4 ?k5 ?k6 ?k7 ?k8 ?k9 ?_; (case k1 => k_asm); (case k2 => k_asm); (case k3 => k_inst); (case k4 => exact rfl); (case k5 => k_is); (case k6 => k_is); (case k7 => k_is); (case k8 => k_is); (case k9 => k_get); k_whole)))
local macro_rules | `(tactic| walk_at "compareOp NotEq ref") => `(tactic| (k_here; k_dflt (refine' ne_T ?k1 ?k2 ?k3 ?k4 ?k5 ?k6 ?k7 ?k8 ?k9 ?ka ?kb ?_; (case k1 => exact Nat.le_of_ble_eq_true rfl); (case k2 => k_asm); (case k3 => k_asm); (case k4 => k_asm); (case k5 => k_inst); (case k6 => k_mem); (case k7 => k_is); (case k8 => k_is); (case k9 => k_is); (case ka => exact str_same _ _ _); (case kb => first | exact str_same _ _ _ | exact PySem.SeqAt.EqAt.same _); k_whole)))
local macro_rules | `(tactic| walk_at "StarOf ref") => `(tactic| (k_here; k_dflt (refine' star_S ?k1 ?k2 ?k3 ?k4 ?_; (case k1 => k_asm); (case k2 => k_asm); (case k3 => k_mem); (case k4 => omega); k_whole); intro h' F' N'; (try k_sweep); try dsimp only [List.nil_append, List.cons_append]))
local macro_rules | `(tactic| walk_at "compareOp In") => `(tactic| (k_here; k_dflt (refine' in_S ?k1 ?k2 ?k3 ?_; (case k1 => k_asm); (case k2 => k_mem); (case k3 => first | assumption | (repeat (first | exact StrsAre.nil | refine StrsAre.cons _ _ ?_))); k_whole)))
local macro_rules | `(tactic| walk_at "call ref") => `(tactic| (k_here; (with_reducible show wpAny _ _ (call (Value.ref 87) _) _ _ _); k_dflt (refine wpAny_call ?_; refine' code_defV ?k1 ?k2 ?k3 ?k4 ?k5 ?kA ?kF ?kK ?k6 ?k7 ?k8 ?k9 ?kz ?kB ?_ ?c5 ?c2 ?c3 ?c4; (case kA => exact rfl); (case kF => exact rfl); (case kK => exact rfl); (case k1 => k_asm); (case k2 => k_asm); (case k3 => k_asm); (case k4 => k_asm); (case k5 => k_asm); (case k6 => k_is); (case k7 => k_is); (case k8 => k_room); (case k9 => exact bind_V rfl rfl _ _); (case c5 => decide); (case kz => first | exact Nat.le_of_ble_eq_true rfl | omega); (case kB => exact fun _ => locs rfl); (case c2 => exact rfl); (case c3 => exact rfl); (case c4 => exact rfl); k_whole; intro D' g' L' h' tk' FG' F' N' B' X' T'; (try dsimp only); (try k_lift B'); (try k_fold))))
local macro_rules | `(tactic| walk_at "call ref") => `(tactic| (k_here; k_dflt (refine' call_meth (f := Value.ref 87) ?ka ?kb ?_; (case ka => k_asm); (case kb => k_mem); k_whole; refine' code_defV ?k1 ?k2 ?k3 ?k4 ?k5 ?kA ?kF ?kK ?k6 ?k7 ?k8 ?k9 ?kz ?kB ?_ ?c5 ?c2 ?c3 ?c4; (case kA => exact rfl); (case kF => exact rfl); (case kK => exact rfl); (case k1 => k_asm); (case k2 => k_asm); (case k3 => k_asm); (case k4 => k_asm); (case k5 => k_asm); (case k6 => k_is); (case k7 => k_is); (case k8 => k_room); (case k9 => exact bind_V rfl rfl _ _); (case c5 => decide); (case kz => first | exact Nat.le_of_ble_eq_true rfl | omega); (case kB => exact fun _ => locs rfl); (case c2 => exact rfl); (case c3 => exact rfl); (case c4 => exact rfl); k_whole; intro D' g' L' h' tk' FG' F' N' B' X' T'; (try dsimp only); (try k_lift B'); (try k_fold))))
local macro_rules | `(tactic| walk_at "eval Call Attribute") => `(tactic| ((with_reducible show wpAny _ _ (eval (Expr.Call (Expr.Attribute _ _ _) [Expr.Starred _ _] [] _) _) _ _ _); refine methodCall_star ?_))
local macro_rules | `(tactic| walk_at "getAttr ref") => `(tactic| (k_here; k_dflt (refine' getT_fn ?k1 ?k2 ?k3 ?k4 ?k5 ?k6 ?k7 ?k8 ?k9 ?ka ?kb ?kc ?kd ?ke ?_; (case k1 => k_asm); (case k2 => k_asm); (case k3 => k_asm); (case k4 => k_inst); (case k5 => k_is); (case k6 => k_is); (case k7 => k_is); (case k8 => k_is); (case k9 => k_is); (case ka => k_is); (case kb => k_is); (case kc => k_is); (case kd => decide +kernel); (case ke => k_get); k_whole); intro q' h' F' N' l1; (try k_lt l1); (try k_sweep)))
local macro_rules | `(tactic| walk_at "callWith ref") => `(tactic| (k_here; (with_reducible show wpAny _ _ (callWith _ (Value.ref _) _ (backTo _ (starEach [Expr.Starred _ _] _)) []) _ _ _); k_dflt (refine' callWith_SM ?k1 ?k2 ?k3 ?k4 ?_; (case k1 => k_asm); (case k2 => k_asm); (case k3 => k_mem); (case k4 => k_is); k_whole)))
theorem main : PySem.Challenge.rw_bc6009_01.Holds := hd (by
  w_strict (k_go0)
  try k_gentoks
  rename Fr _ _ _ _ => F
  rename News _ _ _ _ => N
  -- S1
  with_reducible refine wpAny_execs_cons (cut_set F N (Str.ofString "text") Text0 ?_ ?_)
  ·
    k_steps
    all_goals first
      | exact setPost_intro text0_ab (by k_asm) (cb_drop (by assumption) fun p hp => List.mem_cons_of_mem _ (List.mem_cons_of_mem _ hp))
      | exact setPost_intro (text0_list (by assumption) (by assumption) (by omega)) (by k_asm) (cb_drop (by assumption) fun p hp => List.mem_cons_of_mem _ (List.mem_cons_of_mem _ hp))
  rintro v1 h1 k1 ⟨x1, t1, rfl, hs1, hn1, hl1⟩ F1 N1
  clear F N
  -- S2
  have hp1 : 1 ≤ x1.length := by have h0 := List.length_pos_iff.mpr hn1; simp at h0; exact h0
  have hq1 : x1.length ≤ 12 := by simpa [Str.length] using hl1
  with_reducible refine wpAny_execs_cons (cut_set F1 N1 (Str.ofString "text") Text1 ?_ ?_)
  ·
    k_steps
    all_goals first
      | exact setPost_intro (text1_plain hs1 hn1 hl1 (by assumption)) (by k_asm) (by k_asm)
      | exact setPost_intro (text1_more hs1 hn1 hl1) (by k_asm) (by k_asm)
  rintro v2 h2 k2 ⟨x2, t2, rfl, hx2⟩ F2 N2
  clear F1 N1 hp1 hq1 hs1 hn1 hl1
  -- S3
  with_reducible refine wpAny_execs_cons (cut_go F2 N2 ?_ ?_)
  ·
    k_steps
    all_goals first
      | exact goPost_intro (by k_asm) (by k_asm)
      | (exfalso; (rename (_ != _) = true => h9); exact absurd h9 (by simp))
  intro h3 k3 F3 N3
  clear F2 N2
  -- S4
  with_reducible refine wpAny_execs_cons (cut_go F3 N3 ?_ ?_)
  ·
    k_steps
    all_goals first
      | exact goPost_intro (by k_asm) (by k_asm)
      | (exfalso; (rename (_ != _) = true => h9); exact absurd h9 (by simp))
  intro h4 k4 F4 N4
  clear F3 N3
  -- S5
  with_reducible refine wpAny_execs_cons (cut_go F4 N4 ?_ ?_)
  ·
    k_steps
    all_goals first
      | exact goPost_intro (by k_asm) (by k_asm)
      | (exfalso; (rename (_ != _) = true => h9); exact absurd h9 (by simp))
  intro h5 k5 F5 N5
  clear F4 N4 hx2
  -- S6
  with_reducible refine wpAny_execs_cons (cut_V F5 N5 ?_ ?_)
  ·
    k_steps
    all_goals exact cutV_intro (by assumption) (by k_asm) (by assumption) (by k_mem) (by k_mem) (by assumption) (by omega)
  intro D6 a6 b6 c6 ta6 tb6 tc6 o6 h6 k6 F6 N6 hd6 hl6
  clear F5 N5
  -- S7
  with_reducible refine wpAny_execs_cons (cut_7 F6 N6 ?_ ?_)
  ·
    k_steps
    all_goals (refine' cut7_intro ?ka ?kb ?kf ?kn; (case kf => k_asm); (case kn => exact cb_drop (by assumption) fun p hp => List.mem_cons_of_mem _ hp); (case ka => assumption); (case kb => assumption))
  intro kd7 vl7 pl7 tkd7 tvl7 tpl7 h7 k7 hkd7 hvl7 F7 N7
  clear F6 N6
  -- S8
  with_reducible refine wpAny_execs_cons (cut_8 F7 N7 ?_ ?_)
  ·
    k_steps
    all_goals exact cut8_intro (by k_asm) (by assumption) (by assumption) (by assumption) (by assumption)
  intro D8 ys8 l8 h8 k8 hl8 hll8 hy8 F8 N8
  clear F7 N7 hd6 hl6
  -- S9
  have hz8 : ys8.length ≤ 7 := by rw [strs_len hy8]; exact hll8
  with_reducible refine wpAny_execs_cons (cut_T F8 N8 113 (.str kd7 tkd7) (.str vl7 tvl7) (.int pl7 tpl7) (Str.ofString "token") ?_ ?_)
  ·
    k_steps
    all_goals exact cutT_intro (by k_asm) (by k_asm) (fun p hp => List.mem_cons_of_mem _ hp)
  intro x9 dx9 hs9 t9 h9 k9 F9 N9
  clear F8 N8
  -- S10
  with_reducible refine wpAny_execs_cons (cut_go F9 N9 ?_ ?_)
  ·
    k_steps
    all_goals first
      | exact goPost_intro (by k_asm) (by k_asm)
      | exact goPost_intro (by k_asm) (cb_drop (by assumption) fun p hp => List.mem_cons_of_mem _ hp)
      | exact goPost_intro (by k_asm) (cb_drop (by assumption) fun p hp => List.mem_cons_of_mem _ (List.mem_cons_of_mem _ hp))
      | (exfalso; (rename (_ ≠ _) => h9); exact h9 rfl)
      | (exfalso; (rename (_ != _) = true => h9); (rename (_ == _) = _ => h8); rw [h8] at h9; simp at h9; done)
      | (exfalso; (rename (_ != _) = true => h9); simp at h9; done)
      | (exfalso; (rename (_ == _) = true => h9); (rename (_ == _) = false => h8); rw [h8] at h9; cases h9)
  intro h10 k10 F10 N10
  clear F9 N9
  -- S11
  with_reducible refine wpAny_execs_cons (cut_go F10 N10 ?_ ?_)
  ·
    k_steps
    all_goals first
      | exact goPost_intro (by k_asm) (by k_asm)
      | exact goPost_intro (by k_asm) (cb_drop (by assumption) fun p hp => List.mem_cons_of_mem _ hp)
      | exact goPost_intro (by k_asm) (cb_drop (by assumption) fun p hp => List.mem_cons_of_mem _ (List.mem_cons_of_mem _ hp))
      | (exfalso; (rename (_ ≠ _) => h9); exact h9 rfl)
      | (exfalso; (rename (_ != _) = true => h9); (rename (_ == _) = _ => h8); rw [h8] at h9; simp at h9; done)
      | (exfalso; (rename (_ != _) = true => h9); simp at h9; done)
      | (exfalso; (rename (_ == _) = true => h9); (rename (_ == _) = false => h8); rw [h8] at h9; cases h9)
  intro h11 k11 F11 N11
  clear F10 N10
  -- S12
  with_reducible refine wpAny_execs_cons (cut_go F11 N11 ?_ ?_)
  ·
    k_steps
    all_goals first
      | exact goPost_intro (by k_asm) (by k_asm)
      | exact goPost_intro (by k_asm) (cb_drop (by assumption) fun p hp => List.mem_cons_of_mem _ hp)
      | exact goPost_intro (by k_asm) (cb_drop (by assumption) fun p hp => List.mem_cons_of_mem _ (List.mem_cons_of_mem _ hp))
      | (exfalso; (rename (_ ≠ _) => h9); exact h9 rfl)
      | (exfalso; (rename (_ != _) = true => h9); (rename (_ == _) = _ => h8); rw [h8] at h9; simp at h9; done)
      | (exfalso; (rename (_ != _) = true => h9); simp at h9; done)
      | (exfalso; (rename (_ == _) = true => h9); (rename (_ == _) = false => h8); rw [h8] at h9; cases h9)
  intro h12 k12 F12 N12
  clear F11 N11
  -- S13
  with_reducible refine wpAny_execs_cons (cut_E F12 N12 141 (Str.ofString "EOF") .none (.int pl7 tpl7) (Str.ofString "end") ?_ ?_)
  ·
    k_steps
    all_goals exact ⟨_, cutT_intro (by k_asm) (by k_asm) (fun p hp => List.mem_cons_of_mem _ hp)⟩
  intro x13 dx13 hs13 t13 h13 k13 te13 F13 N13
  clear F12 N12
  -- S14
  with_reducible refine wpAny_execs_cons (cut_go F13 N13 ?_ ?_)
  ·
    k_steps
    all_goals first
      | exact goPost_intro (by k_asm) (by k_asm)
      | exact goPost_intro (by k_asm) (cb_drop (by assumption) fun p hp => List.mem_cons_of_mem _ hp)
      | exact goPost_intro (by k_asm) (cb_drop (by assumption) fun p hp => List.mem_cons_of_mem _ (List.mem_cons_of_mem _ hp))
      | (exfalso; (rename (_ ≠ _) => h9); exact h9 rfl)
      | (exfalso; (rename (_ != _) = true => h9); (rename (_ == _) = _ => h8); rw [h8] at h9; simp at h9; done)
      | (exfalso; (rename (_ != _) = true => h9); simp at h9; done)
      | (exfalso; (rename (_ == _) = true => h9); (rename (_ == _) = false => h8); rw [h8] at h9; cases h9)
  intro h14 k14 F14 N14
  clear F13 N13
  -- S15
  with_reducible refine wpAny_execs_cons (cut_go F14 N14 ?_ ?_)
  ·
    k_steps
    all_goals first
      | exact goPost_intro (by k_asm) (by k_asm)
      | exact goPost_intro (by k_asm) (cb_drop (by assumption) fun p hp => List.mem_cons_of_mem _ hp)
      | exact goPost_intro (by k_asm) (cb_drop (by assumption) fun p hp => List.mem_cons_of_mem _ (List.mem_cons_of_mem _ hp))
      | (exfalso; (rename (_ ≠ _) => h9); exact h9 rfl)
      | (exfalso; (rename (_ != _) = true => h9); (rename (_ == _) = _ => h8); rw [h8] at h9; simp at h9; done)
      | (exfalso; (rename (_ != _) = true => h9); simp at h9; done)
      | (exfalso; (rename (_ == _) = true => h9); (rename (_ == _) = false => h8); rw [h8] at h9; cases h9)
  intro h15 k15 F15 N15
  clear F14 N14
  -- S16
  k_steps
  )
end Mine
theorem PySem.Challenge.cw_bc6009_01_holds : PySem.Challenge.rw_bc6009_01.Holds := by
  exact Mine.main
